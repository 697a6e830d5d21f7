import PyProof.Rows.All
import PyProof.CollectWalk
import PyProof.Rows.SetFrom
import KE.BitLaws
import KE.IntBitsLaws
import Wide.FinOn
import OpenK.AllK
import Wide.All
import PySem.Challenge.RW_pg0274_02
set_option Elab.async false
set_option linter.all false
set_option maxRecDepth 100000
set_option genCtorIdx false
set_option genInjectivity false
set_option genSizeOf false
set_option bootstrap.genMatcherCode false
set_option backward.match.sparseCases false
section
namespace Mine
open PySem PySem.W PySem.Calls PyProof.Rows
open Classical in
noncomputable def only (h : Heap) (P : Addr → Prop) : Heap :=
  ⟨Array.ofFn (n := h.objs.size) fun i => if P i.val then h.objs[i] else ⟨.none, none, .freed, #[]⟩, h.life⟩
theorem only_get {h : Heap} {P : Addr → Prop} {b : Addr} {o : Obj} : (only h P).get? b = some o ↔ h.get? b = some o ∧ P b := by
  rw [Heap.get?_some_iff, Heap.get?_some_iff]
  unfold only
  simp only [Array.getElem?_ofFn]
  by_cases hb : b < h.objs.size
  · rw [dif_pos hb]
    by_cases hp : P b
    · simp only [hp, if_true, and_true]
      rw [Array.getElem?_eq_getElem hb]; rfl
    · simp only [hp, if_false, and_false, iff_false]
      rintro ⟨h1, h2⟩
      injection h1 with h1
      subst h1
      exact absurd h2 (by decide)
  · rw [dif_neg hb]
    simp only [Array.getElem?_eq_none (Nat.le_of_not_lt hb)]
    simp
set_option genCtorIdx true in
inductive PV where
  | d (x : PyData)
  | loc (l : Nat)
  | gl (a : Addr)
  | ty (n : String)
set_option genCtorIdx true in
inductive PO where
  | lst (xs : List PV)
  | tup (xs : List PV)
  | dct (kvs : List (Str × PV))
  | inst (C : Addr) (dl : Nat)
  | ns (kvs : List (Str × PV))
  | dead
noncomputable abbrev Hp := List PO
inductive VR (μ : List Addr) (g : Heap) : Value → PV → Prop
  | d {v x as} : Reads g v x as → VR μ g v (.d x)
  | loc {a l} : μ[l]? = some a → VR μ g (.ref a) (.loc l)
  | gl {a} : VR μ g (.ref a) (.gl a)
  | ty {n} : VR μ g (.type n) (.ty n)
inductive VRs (μ : List Addr) (g : Heap) : List Value → List PV → Prop
  | nil : VRs μ g [] []
  | cons {v vs p ps} : VR μ g v p → VRs μ g vs ps → VRs μ g (v :: vs) (p :: ps)
inductive ERs (w : World) (μ : List Addr) (g : Heap) : List DictEntry → List (Str × PV) → Prop
  | nil : ERs w μ g [] []
  | cons {k t v p es ps} : VR μ g v p → ERs w μ g es ps → ERs w μ g (⟨hashStr w k, .str k t, v⟩ :: es) ((k, p) :: ps)
inductive NRs (μ : List Addr) (g : Heap) : List DictEntry → List (Str × PV) → Prop
  | nil : NRs μ g [] []
  | cons {c k t v p es ps} : VR μ g v p → NRs μ g es ps → NRs μ g (⟨c, .str k t, v⟩ :: es) ((k, p) :: ps)
noncomputable def dget (k : Str) : List (Str × PV) → Option PV
  | [] => none
  | (a, p) :: r => if a = k then some p else dget k r
theorem dget_c {k a : Str} {p : PV} {r : List (Str × PV)} : dget k ((a, p) :: r) = if a = k then some p else dget k r := rfl
noncomputable def dput (k : Str) (p : PV) : List (Str × PV) → List (Str × PV)
  | [] => [(k, p)]
  | (a, q) :: r => if a = k then (a, p) :: r else (a, q) :: dput k p r
theorem dput_c {k a : Str} {p q : PV} {r : List (Str × PV)} : dput k p ((a, q) :: r) = if a = k then (a, p) :: r else (a, q) :: dput k p r := rfl
inductive OLst (T : String) (μ : List Addr) (g h : Heap) (a : Addr) (xs : List PV) : Prop
  | mk (vs : Array Value) (n : Nat) (ho : h.get? a = some { cls := .type T, data := .seq vs n }) (hv : VRs μ g vs.toList xs)
inductive ODct (w : World) (μ : List Addr) (g h : Heap) (a : Addr) (kvs : List (Str × PV)) : Prop
  | mk (es : Array DictEntry) (n : Nat) (ho : h.get? a = some { cls := .type "dict", data := .dict es n }) (he : ERs w μ g es.toList kvs) (hn : (kvs.map (·.1)).Nodup)
inductive OInst (μ : List Addr) (h : Heap) (a : Addr) (C : Addr) (dl : Nat) : Prop
  | mk (dx : Addr) (hd : μ[dl]? = some dx) (ho : h.get? a = some { cls := .ref C, dict := some dx, data := .plain })
inductive ONs (μ : List Addr) (g h : Heap) (a : Addr) (kvs : List (Str × PV)) : Prop
  | mk (es : Array DictEntry) (n : Nat) (ho : h.get? a = some { cls := .type "dict", data := .dict es n }) (he : NRs μ g es.toList kvs)
noncomputable def ORel (w : World) (μ : List Addr) (g h : Heap) (a : Addr) : PO → Prop
  | .lst xs => OLst "list" μ g h a xs
  | .tup xs => OLst "tuple" μ g h a xs
  | .dct kvs => ODct w μ g h a kvs
  | .inst C dl => OInst μ h a C dl
  | .ns kvs => ONs μ g h a kvs
  | .dead => True
noncomputable abbrev gr (h : Heap) (H : Addr → Prop) : Heap := only h fun b => ¬ H b
structure St (w : World) (B : Heap) (μ : List Addr) (H : Addr → Prop) (σ : Hp) (s : Shared) : Prop where
  keep : ∀ b o, B.get? b = some o → s.heap.get? b = some o ∧ ¬ H b
  len : μ.length = σ.length
  nod : μ.Nodup
  hid : ∀ (l : Nat) (a : Addr) (o : PO), μ[l]? = some a → σ[l]? = some o → o ≠ PO.dead → H a
  objs : ∀ (l : Nat) (a : Addr) (o : PO), μ[l]? = some a → σ[l]? = some o → ORel w μ (gr s.heap H) s.heap a o
  there : ∀ a ∈ μ, ∃ o, s.heap.get? a = some o
  gens : s.gens = #[]
structure Tr (μ : List Addr) (H : Addr → Prop) (h : Heap) (os : OsState) (μ' : List Addr) (H' : Addr → Prop) (h' : Heap) (os' : OsState) : Prop where
  ext : ∃ ν, μ' = μ ++ ν ∧ ∀ a ∈ ν, h.get? a = none
  kept : ∀ b o, h.get? b = some o → ¬ (b ∈ μ ∧ H b) → h'.get? b = some o ∧ (H' b ↔ H b)
  dom : ∀ b o, h.get? b = some o → ∃ o', h'.get? b = some o'
  os : os' = os
theorem Tr.refl {μ H h os} : Tr μ H h os μ H h os := ⟨⟨[], by simp, fun _ h => nomatch h⟩, fun _ _ e _ => ⟨e, Iff.rfl⟩, fun _ o e => ⟨o, e⟩, rfl⟩
theorem Tr.trans {μ H h os μ₁ H₁ h₁ os₁ μ₂ H₂ h₂ os₂} (x : Tr μ H h os μ₁ H₁ h₁ os₁) (y : Tr μ₁ H₁ h₁ os₁ μ₂ H₂ h₂ os₂) : Tr μ H h os μ₂ H₂ h₂ os₂ := by
  obtain ⟨ν, rfl, f1⟩ := x.ext
  obtain ⟨ν', rfl, f2⟩ := y.ext
  refine ⟨⟨ν ++ ν', by simp, fun a ha => ?_⟩, fun b o e hn => ?_, fun b o e => ?_, y.os.trans x.os⟩
  · rcases List.mem_append.mp ha with ha | ha
    · exact f1 a ha
    · cases q : h.get? a with
      | none => rfl
      | some o =>
        obtain ⟨o', q'⟩ := x.dom a o q
        rw [f2 a ha] at q'; cases q'
  · obtain ⟨e1, i1⟩ := x.kept b o e hn
    have hn' : ¬ (b ∈ μ ++ ν ∧ H₁ b) := by
      rintro ⟨hm, hh⟩
      rcases List.mem_append.mp hm with hm | hm
      · exact hn ⟨hm, i1.mp hh⟩
      · rw [f1 b hm] at e; cases e
    obtain ⟨e2, i2⟩ := y.kept b o e1 hn'
    exact ⟨e2, i2.trans i1⟩
  · obtain ⟨o', e'⟩ := x.dom b o e
    exact y.dom b o' e'
theorem Tr.gr {μ H h os μ' H' h' os'} (x : Tr μ H h os μ' H' h' os') : ∀ b o, (gr h H).get? b = some o → (gr h' H').get? b = some o := fun b o e => by
  obtain ⟨e, hn⟩ := only_get.mp e
  obtain ⟨e', i⟩ := x.kept b o e fun q => hn q.2
  exact only_get.mpr ⟨e', fun q => hn (i.mp q)⟩
theorem VR.mono {μ μ' : List Addr} {g g' : Heap} {v : Value} {p : PV} (x : VR μ g v p) (hm : ∃ ν, μ' = μ ++ ν) (hg : ∀ b o, g.get? b = some o → g'.get? b = some o) : VR μ' g' v p := by
  obtain ⟨ν, rfl⟩ := hm
  cases x with
  | d r => exact .d (Reads.keeps hg r)
  | @loc a l e =>
    refine .loc ?_
    have := (List.getElem?_eq_some_iff.mp e).1
    rw [List.getElem?_append_left this]; exact e
  | gl => exact .gl
  | ty => exact .ty
theorem VRs.mono {μ μ' : List Addr} {g g' : Heap} {vs : List Value} {ps : List PV} (x : VRs μ g vs ps) (hm : ∃ ν, μ' = μ ++ ν) (hg : ∀ b o, g.get? b = some o → g'.get? b = some o) : VRs μ' g' vs ps := by
  induction x with
  | nil => exact .nil
  | cons h _ ih => exact .cons (h.mono hm hg) ih
theorem ERs.mono {w : World} {μ μ' : List Addr} {g g' : Heap} {es : List DictEntry} {ps : List (Str × PV)} (x : ERs w μ g es ps) (hm : ∃ ν, μ' = μ ++ ν) (hg : ∀ b o, g.get? b = some o → g'.get? b = some o) : ERs w μ' g' es ps := by
  induction x with
  | nil => exact .nil
  | cons h _ ih => exact .cons (h.mono hm hg) ih
theorem NRs.mono {μ μ' : List Addr} {g g' : Heap} {es : List DictEntry} {ps : List (Str × PV)} (x : NRs μ g es ps) (hm : ∃ ν, μ' = μ ++ ν) (hg : ∀ b o, g.get? b = some o → g'.get? b = some o) : NRs μ' g' es ps := by
  induction x with
  | nil => exact .nil
  | cons h _ ih => exact .cons (h.mono hm hg) ih
theorem Tr.pre {μ H h os μ' H' h' os'} (x : Tr μ H h os μ' H' h' os') : ∃ ν, μ' = μ ++ ν := by
  obtain ⟨ν, e, _⟩ := x.ext
  exact ⟨ν, e⟩
theorem VR.tr {μ H h os μ' H' h' os'} (t : Tr μ H h os μ' H' h' os') {v : Value} {p : PV} (x : VR μ (gr h H) v p) : VR μ' (gr h' H') v p := x.mono t.pre t.gr
theorem VRs.tr {μ H h os μ' H' h' os'} (t : Tr μ H h os μ' H' h' os') {v : List Value} {p : List PV} (x : VRs μ (gr h H) v p) : VRs μ' (gr h' H') v p := x.mono t.pre t.gr
theorem Reads.up {h : Heap} {H : Addr → Prop} {v : Value} {x : PyData} {as : List Addr} (r : Reads (gr h H) v x as) : Reads h v x as :=
  Reads.keeps (fun _ _ e => (only_get.mp e).1) r
theorem ReadsAll.up {h : Heap} {H : Addr → Prop} {v : List Value} {x : List PyData} {as : List Addr} (r : ReadsAll (gr h H) v x as) : ReadsAll h v x as :=
  ReadsAll.keeps (fun _ _ e => (only_get.mp e).1) r
end Mine
end
section
namespace Mine
open PySem PySem.W PySem.Calls PyProof.Rows
noncomputable def S (l : List Nat) : Str := ⟨l.toArray⟩
inductive Tgt where
  | one (x : Nat)
  | two (x y : Nat)
set_option genCtorIdx true in
inductive Bi where
  | len | typ | min2 | min1 | max1 | sorted | sortedset | listzip | listrange | strOf
  deriving DecidableEq
set_option genCtorIdx true in
inductive Mt where
  | upper | lower | join | index | append | extend | remove | search
  | own (x : Nat)
mutual
inductive Ex where
  | int (i : Int) | str (s : Str) | non | bool (b : Bool) | dbg
  | var (x : Nat)
  | gl (x : Nat)
  | bin (op : Operator) (a b : Ex)
  | rep (es : List Ex) (i : Nat)
  | usub (a : Ex)
  | not (a : Ex)
  | and (a b : Ex)
  | and3 (a b c : Ex)
  | or (a b : Ex)
  | cmp (op : CmpOp) (a b : Ex)
  | ite (c a b : Ex)
  | tup (es : List Ex)
  | lst (es : List Ex)
  | edct
  | idx (a i : Ex)
  | slc (a : Ex) (lo hi : Option Ex)
  | attr (a : Ex) (x : Nat)
  | call (f : Nat) (es : List Ex)
  | bi (b : Bi) (es : List Ex)
  | new (c : Nat) (es : List Ex)
  | meth (a : Ex) (m : Mt) (es : List Ex) (kw : Option (Nat × Ex))
  | comp (c : Cb)
  | dcomp (t : Tgt) (it : It) (k v : Ex)
  | mut (e : Ex)
inductive It where
  | ex (e : Ex)
  | range (es : List Ex)
  | enum (e : Ex)
  | zip (a b : Ex)
inductive Cb where
  | emit (e : Ex)
  | gen (t : Tgt) (it : It) (ifs : List Ex) (r : Cb)
end
inductive St' where
  | set (x : Nat) (e : Ex)
  | set2 (x y : Nat) (e : Ex)
  | setB (x y : Nat) (e : Ex)
  | no
  | setIdx (a i e : Ex)
  | setAttr (a : Ex) (x : Nat) (e : Ex)
  | setAll (a e : Ex)
  | aug (x : Nat) (op : Operator) (e : Ex)
  | exp (e : Ex)
  | cond (c : Ex) (s t : List St')
  | whil (c : Ex) (s : List St')
  | fo (t : Tgt) (it : It) (s : List St')
  | ret (e : Ex)
  | brk
  | del (a i : Ex)
  | freeze (x : Nat)
set_option genCtorIdx true in
inductive Item where
  | one (p : PV)
  | two (p q : PV)
inductive Res where
  | fresh (xs : List PV)
  | val (p : PV)
set_option genCtorIdx true in
inductive Flo where
  | next | brk | ret (p : PV)
noncomputable abbrev En := List (Nat × Option PV)
noncomputable def datOf : PV → Option PyData
  | .d x => some x
  | _ => none
noncomputable def dats : List PV → Option (List PyData)
  | [] => some []
  | p :: r => match datOf p, dats r with
    | some x, some xs => some (x :: xs)
    | _, _ => none
theorem dats_c {p : PV} {r : List PV} : dats (p :: r) = match datOf p, dats r with
    | some x, some xs => some (x :: xs)
    | _, _ => none := rfl
theorem dats_dc {x : PyData} {r : List PV} {xs : List PyData} (h : dats r = some xs) : dats (.d x :: r) = some (x :: xs) := by
  rw [dats_c, h]
  rfl
noncomputable def getV (x : Nat) : En → Option PV
  | [] => none
  | (y, o) :: r => cond (Nat.beq y x) o (getV x r)
noncomputable def upd (x : Nat) (p : PV) (ρ : En) : En := (x, some p) :: ρ
noncomputable def bd {α β γ : Type} : Option (α × β) → (α → β → Option γ) → Option γ
  | none, _ => none
  | some x, f => f x.1 x.2
noncomputable def gd {α : Type} (c : Prop) [Decidable c] (o : Option α) : Option α := if c then o else none
noncomputable def intP : PV → Option Int
  | .d (.int i) => some i
  | _ => none
noncomputable def txtP : PV → Option Str
  | .d (.str s) => some s
  | _ => none
noncomputable def locP : PV → Option Nat
  | .loc l => some l
  | _ => none
noncomputable def lstD : PV → Option (List PyData)
  | .d (.list xs) => some xs
  | _ => none
noncomputable def tupD : PV → Option (List PyData)
  | .d (.tuple xs) => some xs
  | _ => none
noncomputable def glP : PV → Option Addr
  | .gl a => some a
  | _ => none
noncomputable def lstOf : PyData → Option (List PyData)
  | .list xs => some xs
  | _ => none
noncomputable def lstAt (σ : Hp) (l : Nat) : Option (List PV) := match σ[l]? with
  | some (.lst xs) => some xs
  | _ => none
noncomputable def dctAt (σ : Hp) (l : Nat) : Option (List (Str × PV)) := match σ[l]? with
  | some (.dct xs) => some xs
  | _ => none
noncomputable def instAt (σ : Hp) (l : Nat) : Option (Addr × Nat) := match σ[l]? with
  | some (.inst C dl) => some (C, dl)
  | _ => none
noncomputable def nsAt (σ : Hp) (l : Nat) : Option (List (Str × PV)) := match σ[l]? with
  | some (.ns xs) => some xs
  | _ => none
noncomputable def orE {α : Type} (a b : Option α) : Option α := match a with
  | some x => some x
  | none => b
noncomputable def one {α : Type} (ps : List PV) (f : PV → Option α) : Option α := match ps with
  | [p] => f p
  | _ => none
noncomputable def twoA {α : Type} (ps : List PV) (f : PV → PV → Option α) : Option α := match ps with
  | [p, q] => f p q
  | _ => none
noncomputable def threeA {α : Type} (ps : List PV) (f : PV → PV → PV → Option α) : Option α := match ps with
  | [p, q, r] => f p q r
  | _ => none
noncomputable def view (σ : Hp) (p : PV) : Option PyData := orE (datOf p) ((locP p).bind fun l => (lstAt σ l).bind fun xs => (dats xs).map PyData.list)
noncomputable def chars (s : Str) : List PV := s.cps.toList.map fun c => .d (.str ⟨#[c]⟩)
noncomputable def listOf? (σ : Hp) (p : PV) : Option (List PV) := orE ((lstD p).map (·.map .d)) ((locP p).bind (lstAt σ))
noncomputable def truth (_σ : Hp) : PV → Option Bool
  | .d .none => some false
  | .d (.bool b) => some b
  | .d (.int i) => some (decide (i ≠ 0))
  | .d (.str s) => if s.cps.size < 1000 then some (decide (s.cps.size ≠ 0)) else none
  | _ => none
noncomputable def arith (op : Operator) (i j : Int) : Option Int := match op with
  | .Add => some (i + j)
  | .Sub => some (i - j)
  | .Mult => gd (i.natAbs < 2 ^ 62) (some (i * j))
  | .FloorDiv => gd (0 < j ∧ j < 1000000) (some (i / j))
  | .Mod => gd (0 < j ∧ j < 1000000) (some (i % j))
  | .RShift => gd (0 ≤ j ∧ j < 64) (some (i / 2 ^ j.toNat))
  | .LShift => gd (0 ≤ j ∧ j < 64 ∧ 0 ≤ i ∧ i < 2 ^ 64) (some (i * 2 ^ j.toNat))
  | .BitAnd => orE (gd (0 ≤ i ∧ 0 ≤ j) (some ((i.toNat &&& j.toNat : Nat) : Int))) (gd (j = 1) (some (i % 2)))
  | .BitXor => gd (0 ≤ i ∧ 0 ≤ j) (some (i + j - 2 * ((i.toNat &&& j.toNat : Nat) : Int)))
  | _ => none
noncomputable def repl {α : Type} : Nat → List α → List α
  | 0, _ => []
  | n + 1, l => l ++ repl n l
noncomputable def binop (op : Operator) (p q : PV) : Option Res := orE ((intP p).bind fun i => (intP q).bind fun j => (arith op i j).map fun k => .val (.d (.int k)))
  ((lstD p).bind fun xs => (lstD q).bind fun ys => gd (op = .Add ∧ xs.length + ys.length < 1000) (some (.fresh ((xs ++ ys).map .d))))
noncomputable def ltL : List Nat → List Nat → Bool
  | [], [] => false
  | [], _ :: _ => true
  | _ :: _, [] => false
  | a :: r, b :: t => if a = b then ltL r t else decide (a < b)
theorem ltL_c {a b : Nat} {r t : List Nat} : ltL (a :: r) (b :: t) = if a = b then ltL r t else decide (a < b) := rfl
noncomputable def inL (x : PyData) (l : List PyData) : Bool := l.any fun y => PyData.eqv y x
noncomputable def sh (x : PyData) : Bool := SeqAt.shaped x
noncomputable def intEq : PV → PV → Option Bool
  | .d (.int i), .d (.int j) => some (decide (i = j))
  | _, _ => none
noncomputable def eqKv (f : PV → PV → Option Bool) (r : List (Str × PV)) : List (Str × PV) → Option Bool
  | [] => some true
  | (k, p) :: l => match dget k r with
    | some q => match f p q with
      | some true => eqKv f r l
      | x => x
    | none => some false
noncomputable def eqDct (f : PV → PV → Option Bool) (l r : List (Str × PV)) : Option Bool := if l.length < 1000 ∧ r.length < 1000 then (if l.length = r.length then eqKv f r l else some false) else none
noncomputable def dctOf (σ : Hp) (p : PV) : Option (List (Str × PV)) := (locP p).bind (dctAt σ)
noncomputable def eqDct2 (_ : Hp) (_ _ : List (Str × PV)) : Option Bool := none
noncomputable def tyP : PV → Option String
  | .ty n => some n
  | _ => none
noncomputable def isNoneD : PyData → Bool
  | .none => true
  | _ => false
noncomputable def nonQ : PV → Option Bool
  | .d x => some (isNoneD x)
  | .loc _ => some false
  | _ => none
noncomputable def isF (p q : PV) : Option Bool := orE ((tyP p).bind fun a => (tyP q).map fun b => decide (a = b)) (gd (nonQ q = some true) (nonQ p))
noncomputable def eqF (σ : Hp) (p q : PV) : Option Bool := (view σ p).bind fun x => (view σ q).bind fun y => gd ((sh x && sh y) = true) (some (PyData.eqv x y))
noncomputable def ltF (p q : PV) : Option Bool := orE ((intP p).bind fun i => (intP q).map fun j => decide (i < j)) ((txtP p).bind fun a => (txtP q).map fun b => ltL a.cps.toList b.cps.toList)
noncomputable def leF (p q : PV) : Option Bool := (intP p).bind fun i => (intP q).map fun j => decide (i ≤ j)
noncomputable def inF (σ : Hp) (p q : PV) : Option Bool := (datOf p).bind fun x => (view σ q).bind fun d => (lstOf d).bind fun ys => gd ((sh x && sh (.list ys)) = true) (some (inL x ys))
noncomputable def cmpop (σ : Hp) (op : CmpOp) (p q : PV) : Option Bool := match op with
  | .Is => isF p q
  | .IsNot => (isF p q).map not
  | .Eq => orE ((dctOf σ p).bind fun x => (dctOf σ q).bind fun y => eqDct2 σ x y) (eqF σ p q)
  | .NotEq => (eqF σ p q).map not
  | .Lt => ltF p q
  | .Gt => ltF q p
  | .LtE => leF p q
  | .GtE => leF q p
  | .In => inF σ p q
  | .NotIn => (inF σ p q).map not
noncomputable def finalize (σ : Hp) : Res → PV × Hp
  | .val p => (p, σ)
  | .fresh xs => match dats xs with
    | some ds => (.d (.list ds), σ)
    | none => (.loc σ.length, σ ++ [.lst xs])
noncomputable def nthI (n : Nat) (i : Int) : Option Nat := gd (-1000 < i ∧ i < 1000) (orE (gd (0 ≤ i) (some i.toNat)) (gd (0 ≤ i + n) (some (i + n).toNat)))
noncomputable def nth {α : Type} (xs : List α) (i : Int) : Option α := (nthI xs.length i).bind fun k => xs[k]?
noncomputable def clampI (n : Nat) (i : Int) : Nat := if 0 ≤ i then min i.toNat n else (i + n).toNat
noncomputable def cut {α : Type} (xs : List α) (lo hi : Option Int) : List α :=
  let a := match lo with | some i => clampI xs.length i | none => 0
  let b := match hi with | some i => clampI xs.length i | none => xs.length
  (xs.drop a).take (b - a)
noncomputable def ofIdx : Option PV → Option (Option Int)
  | none => some none
  | some (.d (.int i)) => some (some i)
  | some (.d .none) => some none
  | _ => none
noncomputable def slice (σ : Hp) (p : PV) (lo hi : Option PV) : Option Res := (ofIdx lo).bind fun a => (ofIdx hi).bind fun b =>
  orE ((txtP p).bind fun s => gd (s.cps.size < 1000) (some (.val (.d (.str ⟨(cut s.cps.toList a b).toArray⟩)))))
    (orE ((lstD p).bind fun xs => gd (xs.length < 2000000) (some (.fresh ((cut xs a b).map .d))))
      ((locP p).bind fun l => (lstAt σ l).bind fun xs => gd (xs.length < 1000) (some (.fresh (cut xs a b)))))
noncomputable def upC (c : Nat) : Nat := if 97 ≤ c ∧ c ≤ 122 then c - 32 else c
noncomputable def loC (c : Nat) : Nat := if 65 ≤ c ∧ c ≤ 90 then c + 32 else c
noncomputable def ascii (l : List Nat) : Bool := l.all fun c => decide (c < 128)
noncomputable def up (s : Str) : Option Str := gd (ascii s.cps.toList = true ∧ s.cps.size < 1000) (some ⟨(s.cps.toList.map upC).toArray⟩)
noncomputable def lo (s : Str) : Option Str := gd (ascii s.cps.toList = true ∧ s.cps.size < 1000) (some ⟨(s.cps.toList.map loC).toArray⟩)
noncomputable def findD (x : PyData) : List PyData → Nat → Option Nat
  | [], _ => none
  | y :: r, i => if PyData.eqv y x then some i else findD x r (i + 1)
theorem findD_c {x y : PyData} {r : List PyData} {i : Nat} : findD x (y :: r) i = if PyData.eqv y x then some i else findD x r (i + 1) := rfl
noncomputable def findS (x : Str) : List Str → Nat → Option Nat
  | [], _ => none
  | y :: r, i => if x = y then some i else findS x r (i + 1)
noncomputable def strsOf : List PyData → Option (List Str)
  | [] => some []
  | .str s :: r => (strsOf r).map (s :: ·)
  | _ => none
noncomputable def lt2 : PyData → PyData → Option Bool
  | .int i, .int j => some (decide (i < j))
  | .str a, .str b => some (ltL a.cps.toList b.cps.toList)
  | _, _ => none
noncomputable def ltSeq : List PyData → List PyData → Option Bool
  | [], [] => some false
  | [], _ :: _ => some true
  | _ :: _, [] => some false
  | x :: xs, y :: ys => if PyData.eqv x y then ltSeq xs ys else lt2 x y
noncomputable def lt3 : PyData → PyData → Option Bool
  | .tuple xs, .tuple ys => ltSeq xs ys
  | .list xs, .list ys => ltSeq xs ys
  | x, y => lt2 x y
noncomputable def runT {α : Type} (lt : Nat → Nat → Option Bool) : KasT α → Option α
  | .ret a => some a
  | .ask i j k => (lt i j).bind fun b => runT lt (k b)
noncomputable def isPair : PyData → Bool
  | .tuple [.int _, .int _] => true
  | _ => false
noncomputable def isStrs : PyData → Bool
  | .list xs => xs.all fun x => match x with
    | .str _ => true
    | _ => false
  | _ => false
noncomputable def sortT (ds : List PyData) : Option (List PyData) :=
  if 2 ≤ ds.length ∧ ds.length < 64 then
    if ds.all isPair then
      (runT (fun i j => lt3 (ds.getD i .none) (ds.getD j .none)) (kas_sort ds.length)).map fun p => p.toList.map fun i => ds.getD i .none
    else none
  else none
noncomputable def intsOf : List PyData → Option (List Int)
  | [] => some []
  | .int i :: r => (intsOf r).map (i :: ·)
  | _ => none
noncomputable def insI (x : Int) : List Int → List Int
  | [] => [x]
  | y :: r => if x ≤ y then x :: y :: r else y :: insI x r
noncomputable def sortZ : List Int → List Int
  | [] => []
  | x :: r => insI x (sortZ r)
noncomputable def dedI : List Int → List Int
  | [] => []
  | x :: r => if r.contains x then dedI r else x :: dedI r
noncomputable def minI : Int → List PyData → Option Int
  | m, [] => some m
  | m, .int i :: r => minI (if i < m then i else m) r
  | _, _ => none
theorem minI_c {m i : Int} {r : List PyData} : minI m (.int i :: r) = minI (if i < m then i else m) r := rfl
noncomputable def maxI : Int → List PyData → Option Int
  | m, [] => some m
  | m, .int i :: r => maxI (if m < i then i else m) r
  | _, _ => none
theorem maxI_c {m i : Int} {r : List PyData} : maxI m (.int i :: r) = maxI (if m < i then i else m) r := rfl
noncomputable def minT : PyData → List PyData → Option PyData
  | m, [] => some m
  | m, x :: r => match lt3 x m with
    | some true => minT x r
    | some false => minT m r
    | none => none
noncomputable def rangeL (a : Int) : Nat → List PV
  | 0 => []
  | n + 1 => .d (.int a) :: rangeL (a + 1) n
theorem rangeL_c {a : Int} {n : Nat} : rangeL a (n + 1) = .d (.int a) :: rangeL (a + 1) n := rfl
theorem rangeL_z {a : Int} : rangeL a 0 = [] := rfl
noncomputable def rangeS (a s : Int) : Nat → List PV
  | 0 => []
  | n + 1 => .d (.int a) :: rangeS (a + s) s n
theorem rangeS_c {a s : Int} {n : Nat} : rangeS a s (n + 1) = .d (.int a) :: rangeS (a + s) s n := rfl
noncomputable def reP : Nat → Sre.M → Option Sre.M
  | 0, _ => none
  | f + 1, m => if (m.runFor 4).outcome.isSome then some (m.runFor 4) else reP f (m.runFor 4)
theorem reP_c {f : Nat} {m : Sre.M} : reP (f + 1) m = if (m.runFor 4).outcome.isSome then some (m.runFor 4) else reP f (m.runFor 4) := rfl
noncomputable def searchFails (code : Array Nat) (s : List Nat) : Bool := match reP 100 (Sre.forSearch code s.toArray 0 0 s.length false) with
  | some m => match m.outcome with
    | some .failed => true
    | _ => false
  | none => false
inductive Src where
  | imm (xs : List Item)
  | lo (l : Nat)
structure Cls where
  addr : Addr
  init : Nat
  meths : List (Nat × Nat)
  attrs : List Nat
structure Info where
  N : List Str
  G : List (Nat × PV)
  cls : List (Nat × Cls)
  safe : List (Addr × Array Nat)
  nLen : Nat
  nGet : Nat
  nDel : Nat
noncomputable def lk {β : Type} (x : Nat) : List (Nat × β) → Option β
  | [] => none
  | (y, p) :: r => if y = x then some p else lk x r
theorem lk_c {β : Type} {x y : Nat} {p : β} {r : List (Nat × β)} : lk x ((y, p) :: r) = if y = x then some p else lk x r := rfl
noncomputable def clsAt (I : Info) (C : Addr) : Option Cls := (I.cls.find? fun c => c.2.addr == C).map (·.2)
noncomputable abbrev Orc := Nat → List PV → Hp → Option (PV × Hp)
noncomputable def nm (I : Info) (x : Nat) : Str := I.N.getD x ⟨#[]⟩
noncomputable def methOf (I : Info) (σ : Hp) (l : Nat) (x : Nat) : Option Nat := (instAt σ l).bind fun i => (clsAt I i.1).bind fun c => (nsAt σ i.2).bind fun kvs => gd ((dget (nm I x) kvs).isNone = true) (lk x c.meths)
noncomputable def bindT : Tgt → Item → En → Option En
  | .one x, .one p, ρ => some (upd x p ρ)
  | .two x y, .one (.d (.tuple [a, b])), ρ => some (upd y (.d b) (upd x (.d a) ρ))
  | .two x y, .two p q, ρ => some (upd y q (upd x p ρ))
  | _, _, _ => none
noncomputable def onw {β : Type} (o : Option (Option Flo × β × Hp)) (k : β → Hp → Option (Option Flo × β × Hp)) : Option (Option Flo × β × Hp) := match o with
  | some (none, b, σ) => k b σ
  | x => x
noncomputable def loopI {β : Type} (step : Item → β → Hp → Option (Option Flo × β × Hp)) : List Item → β → Hp → Option (Option Flo × β × Hp)
  | [], b, σ => some (none, b, σ)
  | it :: r, b, σ => onw (step it b σ) (loopI step r)
theorem loopI_c {β : Type} {step : Item → β → Hp → Option (Option Flo × β × Hp)} {it : Item} {r : List Item} {b : β} {σ : Hp} : loopI step (it :: r) b σ = onw (step it b σ) (loopI step r) := rfl
noncomputable def loopL {β : Type} (step : Item → β → Hp → Option (Option Flo × β × Hp)) (l : Nat) : Nat → Nat → β → Hp → Option (Option Flo × β × Hp)
  | 0, _, _, _ => none
  | f + 1, i, b, σ => (lstAt σ l).bind fun xs => match xs[i]? with
      | none => some (none, b, σ)
      | some p => onw (step (.one p) b σ) (loopL step l f (i + 1))
theorem loopL_c {β : Type} {step : Item → β → Hp → Option (Option Flo × β × Hp)} {l f i : Nat} {b : β} {σ : Hp} : loopL step l (f + 1) i b σ = (lstAt σ l).bind fun xs => match xs[i]? with
      | none => some (none, b, σ)
      | some p => onw (step (.one p) b σ) (loopL step l f (i + 1)) := rfl
noncomputable def loopS {β : Type} (step : Item → β → Hp → Option (Option Flo × β × Hp)) (s : Src) (b : β) (σ : Hp) : Option (Option Flo × β × Hp) := match s with
  | .imm xs => loopI step xs b σ
  | .lo l => loopL step l 100 0 b σ
noncomputable def loopW (test : En → Hp → Option (Bool × Hp)) (body : En → Hp → Option (Flo × En × Hp)) : Nat → En → Hp → Option (Flo × En × Hp)
  | 0, _, _ => none
  | f + 1, ρ, σ => bd (test ρ σ) fun t σ₁ => cond t (bd (body ρ σ₁) fun fl y => match fl with
      | .next => loopW test body f y.1 y.2
      | .brk => some (.next, y.1, y.2)
      | .ret p => some (.ret p, y.1, y.2)) (some (.next, ρ, σ₁))
theorem loopW_c {test : En → Hp → Option (Bool × Hp)} {body : En → Hp → Option (Flo × En × Hp)} {f : Nat} {ρ : En} {σ : Hp} : loopW test body (f + 1) ρ σ = bd (test ρ σ) fun t σ₁ => cond t (bd (body ρ σ₁) fun fl y => match fl with
      | .next => loopW test body f y.1 y.2
      | .brk => some (.next, y.1, y.2)
      | .ret p => some (.ret p, y.1, y.2)) (some (.next, ρ, σ₁)) := rfl
noncomputable def pairs : List PV → List PV → List Item
  | p :: ps, q :: qs => .two p q :: pairs ps qs
  | _, _ => []
theorem pairs_c {p q : PV} {ps qs : List PV} : pairs (p :: ps) (q :: qs) = .two p q :: pairs ps qs := rfl
noncomputable def enumF (i : Int) : List PV → List Item
  | [] => []
  | p :: ps => .two (.d (.int i)) p :: enumF (i + 1) ps
theorem enumF_c {i : Int} {p : PV} {ps : List PV} : enumF i (p :: ps) = .two (.d (.int i)) p :: enumF (i + 1) ps := rfl
theorem enumF_z {i : Int} : enumF i [] = [] := rfl
noncomputable def immItems (_σ : Hp) : PV → Option (List PV)
  | .d (.list xs) => some (xs.map .d)
  | .d (.str s) => if ascii s.cps.toList then some (chars s) else none
  | _ => none
noncomputable def isList : PV → Bool
  | .d (.list _) => true
  | _ => false
noncomputable def pairD : Item → Option PyData
  | .two (.d x) (.d y) => some (.tuple [x, y])
  | _ => none
noncomputable def pairsD : List Item → Option (List PyData)
  | [] => some []
  | i :: r => match pairD i, pairsD r with
    | some x, some xs => some (x :: xs)
    | _, _ => none
theorem pairsD_c {i : Item} {r : List Item} : pairsD (i :: r) = match pairD i, pairsD r with
    | some x, some xs => some (x :: xs)
    | _, _ => none := rfl
noncomputable def isIS : PyData → Bool
  | .tuple [.int _, .str _] => true
  | _ => false
noncomputable def min1F : PyData → Option Res
  | .list (.int i :: xs) => (minI i xs).map fun m => .val (.d (.int m))
  | .list (.tuple a :: xs) => gd ((PyData.tuple a :: xs).length < 0) (some (.val (.d .none)))
  | _ => none
noncomputable def max1F : PyData → Option Res
  | .list (.int i :: xs) => (maxI i xs).map fun m => .val (.d (.int m))
  | _ => none
noncomputable def intR (i : Int) : Res := .val (.d (.int i))
noncomputable def callBi (b : Bi) (ps : List PV) (σ : Hp) : Option Res := match b with
  | .typ => one ps fun p => orE ((txtP p).map fun _ => .val (.ty "str")) ((listOf? σ p).map fun _ => .val (.ty "list"))
  | .len => one ps fun p => orE ((txtP p).bind fun s => gd (s.cps.size < 1000000) (some (intR s.cps.size))) ((listOf? σ p).bind fun xs => gd (xs.length < 1000000) (some (intR xs.length)))
  | .min2 => twoA ps fun p q => (intP p).bind fun i => (intP q).map fun j => intR (if j < i then j else i)
  | .min1 => one ps fun p => (view σ p).bind min1F
  | .max1 => one ps fun p => (view σ p).bind max1F
  | .sorted => one ps fun p => (view σ p).bind fun d => (lstOf d).bind fun xs => (sortT xs).map fun ys => .fresh (ys.map .d)
  | .sortedset => one ps fun p => (view σ p).bind fun d => (lstOf d).bind fun xs => (intsOf xs).bind fun ns => gd (ns.length < 60 ∧ ns.all (fun i => decide (0 ≤ i ∧ i < 5)) = true) (some (.fresh ((sortZ (dedI ns)).map fun i => .d (.int i))))
  | .listzip => twoA ps fun p q => (immItems σ p).bind fun xs => (immItems σ q).bind fun ys => gd ((xs.length = ys.length ∧ isList q = true) ∧ xs.length < 1000) ((pairsD (pairs xs ys)).map fun ds => .fresh (ds.map .d))
  | .listrange => threeA ps fun p q r => (intP p).bind fun a => (intP q).bind fun b => (intP r).bind fun s =>
      gd ((0 < s ∧ s < 1000) ∧ (-1000 < a ∧ a < 1000) ∧ -1000 < b ∧ b < 1000) (some (.fresh (rangeS a s (Builtin.Range.rangeSize a b s).toNat)))
  | .strOf => one ps fun p => (intP p).bind fun i => gd (0 ≤ i ∧ i < 10) (some (.val (.d (.str ⟨#[48 + i.toNat]⟩))))
noncomputable def setAt (σ : Hp) (l : Nat) (o : PO) : Hp := σ.set l o
noncomputable def noneR (σ : Hp) : Res × Hp := (.val (.d .none), σ)
noncomputable def callMt (I : Info) (m : Mt) (p : PV) (ps : List PV) (σ : Hp) : Option (Res × Hp) := match m with
  | .upper => gd (ps.isEmpty = true) ((txtP p).bind fun s => (up s).map fun t => (.val (.d (.str t)), σ))
  | .lower => gd (ps.isEmpty = true) ((txtP p).bind fun s => (lo s).map fun t => (.val (.d (.str t)), σ))
  | .join => one ps fun q => (txtP p).bind fun s => (view σ q).bind fun d => (lstOf d).bind fun xs => (strsOf xs).bind fun l => gd (JoinOk s l) (some (.val (.d (.str (Txt.join s l))), σ))
  | .index => one ps fun q => orE ((txtP p).bind fun s => (txtP q).bind fun t => ((Builtin.Str.occurrences s t 0 s.length 1).head?).map fun (i : Nat) => (.val (.d (.int (i : Int))), σ))
      ((locP p).bind fun l => (datOf q).bind fun x => (view σ (.loc l)).bind fun d => (lstOf d).bind fun xs => gd ((sh x && sh (.list xs)) = true ∧ xs.length < 1000) ((findD x xs 0).map fun (i : Nat) => (.val (.d (.int (i : Int))), σ)))
  | .append => one ps fun q => (locP p).bind fun l => (lstAt σ l).bind fun xs => gd (xs.length < 1000) (some (noneR (setAt σ l (.lst (xs ++ [q])))))
  | .extend => one ps fun q => (locP p).bind fun l => (lstD q).bind fun ys => (lstAt σ l).bind fun xs => gd (xs.length + ys.length < 1000) (some (noneR (setAt σ l (.lst (xs ++ ys.map .d)))))
  | .remove => one ps fun q => (locP p).bind fun l => gd (l < 0) none
  | .search => one ps fun q => (glP p).bind fun a => (txtP q).bind fun s => (lk a I.safe).bind fun code => gd (searchFails code s.cps.toList = true ∧ s.cps.size < 1000) (some (noneR σ))
  | .own _ => none
noncomputable def ownOf (I : Info) (σ : Hp) (p : PV) (x : Nat) : Option Nat := (locP p).bind fun l => methOf I σ l x
noncomputable def rcv (σ : Hp) : PV → Bool
  | .loc l => (lstAt σ l).isSome
  | _ => true
noncomputable def index (I : Info) (O : Orc) (p q : PV) (σ : Hp) : Option (PV × Hp) :=
  orE ((locP p).bind fun l => orE ((dctAt σ l).bind fun kvs => (txtP q).bind fun k => (dget k kvs).map fun v => (v, σ)) (orE ((lstAt σ l).bind fun xs => (intP q).bind fun i => (nth xs i).map fun v => (v, σ)) ((methOf I σ l I.nGet).bind fun f => O f [p, q] σ)))
    ((intP q).bind fun i => orE ((lstD p).bind fun xs => (nth xs i).map fun v => (.d v, σ)) (orE ((tupD p).bind fun xs => (nth xs i).map fun v => (.d v, σ)) ((txtP p).bind fun s => (nth s.cps.toList i).map fun c => (.d (.str ⟨#[c]⟩), σ))))
noncomputable def getA (I : Info) (σ : Hp) (p : PV) (x : Nat) : Option PV := (locP p).bind fun l => (instAt σ l).bind fun i => (clsAt I i.1).bind fun c => (nsAt σ i.2).bind fun kvs => gd (c.attrs.contains x = true) (dget (nm I x) kvs)
noncomputable def tgNames : Tgt → List Nat
  | .one x => [x]
  | .two x y => [x, y]
noncomputable def cbNames : Cb → List Nat
  | .emit _ => []
  | .gen t _ _ r => tgNames t ++ cbNames r
noncomputable def hide : List Nat → En → En
  | [], ρ => ρ
  | x :: r, ρ => (x, none) :: hide r ρ
noncomputable def fin : Option (Res × Hp) → Option (PV × Hp)
  | some (r, σ) => some (finalize σ r)
  | none => none
noncomputable def frsh : Res → Option (List PV)
  | .fresh xs => some xs
  | _ => none
noncomputable def valR (o : Option (PV × Hp)) : Option (Res × Hp) := bd o fun p σ => some (.val p, σ)
noncomputable def keepR (σ : Hp) (o : Option PV) : Option (Res × Hp) := o.map fun p => (.val p, σ)
noncomputable def mkTup (ps : List PV) (σ : Hp) : Res × Hp := match dats ps with
  | some ds => (.val (.d (.tuple ds)), σ)
  | none => (.val (.loc σ.length), σ ++ [.tup ps])
noncomputable def isLen : Bi → Bool
  | .len => true
  | _ => false
noncomputable def lenI (I : Info) (O : Orc) (b : Bi) (ps : List PV) (σ : Hp) : Option (Res × Hp) :=
  orE (gd (isLen b = true) (one ps fun p => (locP p).bind fun l => (methOf I σ l I.nLen).bind fun f => bd (O f [.loc l] σ) fun p σ₂ => (intP p).bind fun k => gd (0 ≤ k ∧ k < 1000000) (some (intR k, σ₂)))) ((callBi b ps σ).map fun r => (r, σ))
noncomputable def callM (I : Info) (O : Orc) (p : PV) (m : Mt) (ps qs : List PV) (σ₁ σ : Hp) : Option (Res × Hp) := match m with
  | .own x => (ownOf I σ₁ p x).bind fun f => valR (O f (p :: (ps ++ qs)) σ)
  | m => gd (rcv σ₁ p && qs.isEmpty) (callMt I m p ps σ)
noncomputable def isNonP : PV → Bool
  | .d .none => true
  | _ => false
noncomputable def newI (k : Cls) (O : Orc) (ps : List PV) (σ : Hp) : Option (Res × Hp) :=
  bd (O k.init (.loc (σ.length + 1) :: ps) (σ ++ [.ns []] ++ [.inst k.addr σ.length])) fun p σ₂ => gd (isNonP p = true) (some (.val (.loc (σ.length + 1)), σ₂))
noncomputable def srcOf (σ : Hp) (p : PV) : Option Src := orE ((immItems σ p).map fun xs => .imm (xs.map .one)) ((locP p).bind fun l => (lstAt σ l).map fun _ => .lo l)
noncomputable def rangeI (ps : List PV) : Option Src := orE (one ps fun q => (intP q).bind fun b => gd (-1000 < b ∧ b < 1000) (some (.imm ((rangeL 0 b.toNat).map .one))))
  (twoA ps fun p q => (intP p).bind fun a => (intP q).bind fun b => gd ((-1000 < a ∧ a < 1000) ∧ -1000 < b ∧ b < 1000) (some (.imm ((rangeL a (b - a).toNat).map .one))))
noncomputable def zipI (σ : Hp) (p q : PV) : Option Src := (immItems σ p).bind fun xs => (immItems σ q).bind fun ys => gd ((xs.length = ys.length && isList q) = true) (some (.imm (pairs xs ys)))
noncomputable def stepB {β : Type} (t : Tgt) (ρ : En) (bev : En → β → Hp → Option (β × Hp)) (i : Item) (b : β) (σ : Hp) : Option (Option Flo × β × Hp) := (bindT t i ρ).bind fun ρ' => bd (bev ρ' b σ) fun b' σ' => some (none, b', σ')
noncomputable def left {β γ : Type} (o : Option (Option Flo × β × Hp)) (k : β → Hp → Option γ) : Option γ := o.bind fun x => k x.2.1 x.2.2
noncomputable def tst (σ : Hp) (p : PV) (k : Bool → Hp → Option (Bool × Hp)) : Option (Bool × Hp) := (truth σ p).bind fun t => k t σ
mutual
noncomputable def ev (I : Info) (O : Orc) : Ex → En → Hp → Option (Res × Hp)
  | .int i, _, σ => some (.val (.d (.int i)), σ)
  | .str s, _, σ => some (.val (.d (.str s)), σ)
  | .non, _, σ => some (.val (.d .none), σ)
  | .bool b, _, σ => some (.val (.d (.bool b)), σ)
  | .dbg, _, σ => some (.val (.d (.bool true)), σ)
  | .var x, ρ, σ => keepR σ (getV x ρ)
  | .gl x, _, σ => keepR σ (lk x I.G)
  | .bin op a b, ρ, σ => bd (fin (ev I O a ρ σ)) fun p σ₁ => bd (fin (ev I O b ρ σ₁)) fun q σ₂ => (binop op p q).map fun r => (r, σ₂)
  | .rep es i, ρ, σ => bd (evs I O es ρ σ) fun ps σ₁ => gd (ps.length < 1000 ∧ i < 100) (some (.fresh (repl i ps), σ₁))
  | .usub a, ρ, σ => bd (fin (ev I O a ρ σ)) fun p σ₁ => keepR σ₁ ((intP p).map fun i => .d (.int (-i)))
  | .not a, ρ, σ => bd (fin (ev I O a ρ σ)) fun p σ₁ => keepR σ₁ ((truth σ₁ p).map fun b => .d (.bool (!b)))
  | .and a b, ρ, σ => bd (fin (ev I O a ρ σ)) fun p σ₁ => (truth σ₁ p).bind fun t => cond t (valR (fin (ev I O b ρ σ₁))) (some (.val p, σ₁))
  | .and3 a b c, ρ, σ => bd (fin (ev I O a ρ σ)) fun p σ₁ => (truth σ₁ p).bind fun t => cond t (valR (fin (
      bd (fin (ev I O b ρ σ₁)) fun p σ₁ => (truth σ₁ p).bind fun t => cond t (valR (fin (ev I O c ρ σ₁))) (some (.val p, σ₁))))) (some (.val p, σ₁))
  | .or a b, ρ, σ => bd (fin (ev I O a ρ σ)) fun p σ₁ => (truth σ₁ p).bind fun t => cond t (some (.val p, σ₁)) (valR (fin (ev I O b ρ σ₁)))
  | .cmp op a b, ρ, σ => bd (fin (ev I O a ρ σ)) fun p σ₁ => bd (fin (ev I O b ρ σ₁)) fun q σ₂ => keepR σ₂ ((cmpop σ₂ op p q).map fun r => .d (.bool r))
  | .ite c a b, ρ, σ => bd (fin (ev I O c ρ σ)) fun p σ₁ => (truth σ₁ p).bind fun t => valR (fin (cond t (ev I O a ρ σ₁) (ev I O b ρ σ₁)))
  | .tup es, ρ, σ => bd (evs I O es ρ σ) fun ps σ₁ => gd (ps.length < 1000) (some (mkTup ps σ₁))
  | .lst es, ρ, σ => bd (evs I O es ρ σ) fun ps σ₁ => gd (ps.length < 1000) (some (.fresh ps, σ₁))
  | .edct, _, σ => some (.val (.loc σ.length), σ ++ [.dct []])
  | .idx a i, ρ, σ => bd (fin (ev I O a ρ σ)) fun p σ₁ => bd (fin (ev I O i ρ σ₁)) fun q σ₂ => valR (index I O p q σ₂)
  | .slc a lo hi, ρ, σ => bd (fin (ev I O a ρ σ)) fun p σ₁ => bd (evo I O lo ρ σ₁) fun l σ₂ => bd (evo I O hi ρ σ₂) fun h σ₃ => (slice σ₃ p l h).map fun r => (r, σ₃)
  | .attr a x, ρ, σ => bd (fin (ev I O a ρ σ)) fun p σ₁ => keepR σ₁ (getA I σ₁ p x)
  | .call f es, ρ, σ => bd (evs I O es ρ σ) fun ps σ₁ => valR (O f ps σ₁)
  | .bi b es, ρ, σ => bd (evs I O es ρ σ) fun ps σ₁ => lenI I O b ps σ₁
  | .new c es, ρ, σ => (lk c I.cls).bind fun k => bd (evs I O es ρ σ) fun ps σ₁ => newI k O ps σ₁
  | .meth a m es kw, ρ, σ => bd (fin (ev I O a ρ σ)) fun p σ₁ => bd (evs I O es ρ σ₁) fun ps σ₂ => bd (evk I O kw ρ σ₂) fun qs σ₃ => callM I O p m ps qs σ₁ σ₃
  | .comp c, ρ, σ => bd (evC I O c ρ (hide (cbNames c) ρ) [] σ) fun ps σ₁ => some (.fresh ps, σ₁)
  | .dcomp t it k v, ρ, σ => bd (evIt I O it ρ σ) fun s σ₁ => left (loopS (stepB t (hide (tgNames t) ρ) fun ρ' kvs σ =>
      bd (fin (ev I O k ρ' σ)) fun a σ' => (txtP a).bind fun a => bd (fin (ev I O v ρ' σ')) fun q σ'' => gd (kvs.length < 1000) (some (dput a q kvs, σ''))) s [] σ₁) fun kvs σ₂ =>
      some (.val (.loc σ₂.length), σ₂ ++ [.dct kvs])
  | .mut e, ρ, σ => bd (ev I O e ρ σ) fun r σ₁ => (frsh r).bind fun xs => some (.val (.loc σ₁.length), σ₁ ++ [.lst xs])
termination_by structural e => e
noncomputable def evs (I : Info) (O : Orc) : List Ex → En → Hp → Option (List PV × Hp)
  | [], _, σ => some ([], σ)
  | e :: r, ρ, σ => bd (fin (ev I O e ρ σ)) fun p σ₁ => bd (evs I O r ρ σ₁) fun ps σ₂ => some (p :: ps, σ₂)
noncomputable def evo (I : Info) (O : Orc) : Option Ex → En → Hp → Option (Option PV × Hp)
  | none, _, σ => some (none, σ)
  | some e, ρ, σ => bd (fin (ev I O e ρ σ)) fun p σ₁ => some (some p, σ₁)
noncomputable def evk (I : Info) (O : Orc) : Option (Nat × Ex) → En → Hp → Option (List PV × Hp)
  | none, _, σ => some ([], σ)
  | some (_, e), ρ, σ => bd (fin (ev I O e ρ σ)) fun p σ₁ => some ([p], σ₁)
noncomputable def evIt (I : Info) (O : Orc) : It → En → Hp → Option (Src × Hp)
  | .ex e, ρ, σ => bd (fin (ev I O e ρ σ)) fun p σ₁ => (srcOf σ₁ p).map fun s => (s, σ₁)
  | .range es, ρ, σ => bd (evs I O es ρ σ) fun ps σ₁ => (rangeI ps).map fun s => (s, σ₁)
  | .enum e, ρ, σ => bd (fin (ev I O e ρ σ)) fun p σ₁ => (immItems σ₁ p).map fun xs => (.imm (enumF 0 xs), σ₁)
  | .zip a b, ρ, σ => bd (fin (ev I O a ρ σ)) fun p σ₁ => bd (fin (ev I O b ρ σ₁)) fun q σ₂ => (zipI σ₂ p q).map fun s => (s, σ₂)
noncomputable def evC (I : Info) (O : Orc) : Cb → En → En → List PV → Hp → Option (List PV × Hp)
  | .emit e, _, ρ, acc, σ => bd (fin (ev I O e ρ σ)) fun p σ₁ => gd (acc.length < 1000) (some (acc ++ [p], σ₁))
  | .gen t it ifs r, ρ₀, ρ, acc, σ => bd (evIt I O it ρ₀ σ) fun s σ₁ => left (loopS (stepB t ρ fun ρ' acc σ =>
      bd (evTs I O ifs ρ' σ) fun c σ' => cond c (evC I O r ρ' ρ' acc σ') (some (acc, σ'))) s acc σ₁) fun acc' σ₂ => some (acc', σ₂)
noncomputable def evTs (I : Info) (O : Orc) : List Ex → En → Hp → Option (Bool × Hp)
  | [], _, σ => some (true, σ)
  | e :: r, ρ, σ => bd (fin (ev I O e ρ σ)) fun p σ₁ => (truth σ₁ p).bind fun t => cond t (evTs I O r ρ σ₁) (some (false, σ₁))
end
noncomputable def ofFlo (o : Option (Option Flo × En × Hp)) : Option (Flo × En × Hp) := match o with
  | some (none, ρ, σ) => some (.next, ρ, σ)
  | some (some .brk, ρ, σ) => some (.next, ρ, σ)
  | some (some f, ρ, σ) => some (f, ρ, σ)
  | none => none
noncomputable def test (I : Info) (O : Orc) (c : Ex) (ρ : En) (σ : Hp) : Option (Bool × Hp) := bd (fin (ev I O c ρ σ)) fun p σ₁ => (truth σ₁ p).map fun b => (b, σ₁)
noncomputable def putA (I : Info) (σ : Hp) (p : PV) (x : Nat) (q : PV) : Option Hp := (locP p).bind fun l => (instAt σ l).bind fun i => (clsAt I i.1).bind fun c => (nsAt σ i.2).bind fun kvs =>
  gd (c.attrs.contains x = true ∧ kvs.length < 1000) (some (σ.set i.2 (.ns (dput (nm I x) q kvs))))
noncomputable def putI (σ : Hp) (p i q : PV) : Option Hp := (locP p).bind fun l => orE ((dctAt σ l).bind fun kvs => (txtP i).bind fun k => gd (kvs.length < 1000) (some (σ.set l (.dct (dput k q kvs)))))
  ((lstAt σ l).bind fun xs => (intP i).bind fun j => gd (0 ≤ j ∧ j < xs.length ∧ xs.length < 1000) (some (σ.set l (.lst (xs.set j.toNat q)))))
noncomputable def two2 {α : Type} : List α → Option (α × α)
  | [a, b] => some (a, b)
  | _ => none
noncomputable def tupAt (σ : Hp) (l : Nat) : Option (List PV) := match σ[l]? with
  | some (.tup xs) => some xs
  | _ => none
noncomputable def two? (σ : Hp) (p : PV) : Option (PV × PV) := orE ((tupD p).bind fun xs => (two2 xs).map fun x => (.d x.1, .d x.2)) ((locP p).bind fun l => (tupAt σ l).bind two2)
noncomputable def flo (f : Flo) (ρ : En) (σ : Hp) (k : En → Hp → Option (Flo × En × Hp)) : Option (Flo × En × Hp) := match f with
  | .next => k ρ σ
  | f => some (f, ρ, σ)
noncomputable def outF : Flo → Option Flo
  | .next => none
  | f => some f
noncomputable def stepF (t : Tgt) (B : En → Hp → Option (Flo × En × Hp)) (i : Item) (ρ : En) (σ : Hp) : Option (Option Flo × En × Hp) := (bindT t i ρ).bind fun ρ' => bd (B ρ' σ) fun f y => some (outF f, y)
noncomputable def isTupE : Ex → Bool
  | .tup _ => true
  | _ => false
noncomputable def augI (op : Operator) (i j : Int) : Option Int := match op with
  | .Add => some (i + j)
  | .Sub => some (i - j)
  | _ => none
noncomputable def dropP : PV → Bool
  | .d (.str _) => true
  | .d .none => true
  | _ => false
mutual
noncomputable def exS (I : Info) (O : Orc) : St' → En → Hp → Option (Flo × En × Hp)
  | .set x e, ρ, σ => bd (fin (ev I O e ρ σ)) fun p σ₁ => some (.next, upd x p ρ, σ₁)
  | .set2 x y e, ρ, σ => gd (isTupE e = false) (bd (fin (ev I O e ρ σ)) fun p σ₁ => bd (two? σ₁ p) fun a b => some (.next, upd y b (upd x a ρ), σ₁))
  | .setB x y e, ρ, σ => bd (fin (ev I O e ρ σ)) fun p σ₁ => some (.next, upd y p (upd x p ρ), σ₁)
  | .no, _, _ => none
  | .setIdx a i e, ρ, σ => bd (fin (ev I O e ρ σ)) fun q σ₁ => bd (fin (ev I O a ρ σ₁)) fun p σ₂ => bd (fin (ev I O i ρ σ₂)) fun j σ₃ => (putI σ₃ p j q).map fun σ₄ => (.next, ρ, σ₄)
  | .setAttr a x e, ρ, σ => bd (fin (ev I O e ρ σ)) fun q σ₁ => bd (fin (ev I O a ρ σ₁)) fun p σ₂ => (putA I σ₂ p x q).map fun σ₃ => (.next, ρ, σ₃)
  | .setAll a e, ρ, σ => bd (fin (ev I O e ρ σ)) fun q σ₁ => bd (fin (ev I O a ρ σ₁)) fun p σ₂ => (lstD q).bind fun ys => (locP p).bind fun l => (lstAt σ₂ l).bind fun xs =>
      gd (xs.length + ys.length < 1000) (some (.next, ρ, σ₂.set l (.lst (ys.map .d))))
  | .aug x op e, ρ, σ => (getV x ρ).bind fun v => (intP v).bind fun i => bd (fin (ev I O e ρ σ)) fun q σ₁ => (intP q).bind fun j => (augI op i j).map fun k => (.next, upd x (.d (.int k)) ρ, σ₁)
  | .exp e, ρ, σ => bd (fin (ev I O e ρ σ)) fun p σ₁ => gd (dropP p = true) (some (.next, ρ, σ₁))
  | .cond c s t, ρ, σ => bd (test I O c ρ σ) fun b σ₁ => cond b (exSs I O s ρ σ₁) (exSs I O t ρ σ₁)
  | .whil c s, ρ, σ => loopW (fun ρ σ => test I O c ρ σ) (fun ρ σ => exSs I O s ρ σ) 200 ρ σ
  | .fo t it s, ρ, σ => bd (evIt I O it ρ σ) fun src σ₁ => ofFlo (loopS (stepF t fun ρ σ => exSs I O s ρ σ) src ρ σ₁)
  | .ret e, ρ, σ => bd (fin (ev I O e ρ σ)) fun p σ₁ => some (.ret p, ρ, σ₁)
  | .brk, ρ, σ => some (.brk, ρ, σ)
  | .del a i, ρ, σ => bd (fin (ev I O a ρ σ)) fun p σ₁ => (locP p).bind fun l => bd (fin (ev I O i ρ σ₁)) fun q σ₂ => (methOf I σ₂ l I.nDel).bind fun f => bd (O f [.loc l, q] σ₂) fun _ σ₃ => some (.next, ρ, σ₃)
  | .freeze x, ρ, σ => (getV x ρ).bind fun v => (locP v).bind fun l => (lstAt σ l).bind fun xs => (dats xs).map fun ds => (.next, upd x (.d (.list ds)) ρ, σ.set l .dead)
noncomputable def exSs (I : Info) (O : Orc) : List St' → En → Hp → Option (Flo × En × Hp)
  | [], ρ, σ => some (.next, ρ, σ)
  | s :: r, ρ, σ => bd (exS I O s ρ σ) fun f y => flo f y.1 y.2 (exSs I O r)
end
structure Fn where
  params : List Nat
  dflts : List PV
  body : List St'
noncomputable def envOf : List Nat → List PV → En
  | x :: xs, p :: ps => (x, some p) :: envOf xs ps
  | _, _ => []
noncomputable def bindArgs' (ps : List Nat) (ds : List PV) (as : List PV) : Option En :=
  let full := as ++ ds.drop (ds.length - (ps.length - as.length))
  gd (as.length ≤ ps.length ∧ full.length = ps.length) (some (envOf ps full))
noncomputable def endF : Flo → Option PV
  | .ret p => some p
  | .next => some (.d .none)
  | .brk => none
noncomputable def runFn (I : Info) (O : Orc) (f : Fn) (as : List PV) (σ : Hp) : Option (PV × Hp) := (bindArgs' f.params f.dflts as).bind fun ρ => bd (exSs I O f.body ρ σ) fun fl y => (endF fl).map fun p => (p, y.2)
noncomputable def calls (I : Info) : List (Nat × Fn) → Orc
  | [], _, _, _ => none
  | (k, f) :: r, n, as, σ => if k = n then runFn I (calls I r) f as σ else calls I r n as σ
theorem calls_c {I : Info} {k n : Nat} {f : Fn} {r : List (Nat × Fn)} {as : List PV} {σ : Hp} : calls I ((k, f) :: r) n as σ = if k = n then runFn I (calls I r) f as σ else calls I r n as σ := rfl
section
variable {α β γ : Type}
inductive Bd (o : Option (α × β)) (f : α → β → Option γ) (c : γ) : Prop
  | mk (a : α) (b : β) (h : o = some (a, b)) (k : f a b = some c)
theorem bd_some {o : Option (α × β)} {f : α → β → Option γ} {c : γ} (h : bd o f = some c) : Bd o f c := by
  cases o with
  | none => cases h
  | some x => exact ⟨x.1, x.2, rfl, h⟩
inductive Bn (o : Option α) (f : α → Option β) (c : β) : Prop
  | mk (a : α) (h : o = some a) (k : f a = some c)
theorem bn_some {o : Option α} {f : α → Option β} {c : β} (h : o.bind f = some c) : Bn o f c := by
  cases o with
  | none => cases h
  | some x => exact ⟨x, rfl, h⟩
inductive Mp (o : Option α) (f : α → β) (c : β) : Prop
  | mk (a : α) (h : o = some a) (k : f a = c)
theorem mp_some {o : Option α} {f : α → β} {c : β} (h : o.map f = some c) : Mp o f c := by
  cases o with
  | none => cases h
  | some x => exact ⟨x, rfl, Option.some.inj h⟩
theorem gd_some {c : Prop} [Decidable c] {o : Option α} {y : α} (h : gd c o = some y) : c ∧ o = some y := by
  unfold gd at h
  by_cases hc : c
  · rw [if_pos hc] at h; exact ⟨hc, h⟩
  · rw [if_neg hc] at h; cases h
theorem gd_val {c : Prop} [Decidable c] {x y : α} (h : gd c (some x) = some y) : c ∧ x = y := (gd_some h).imp_right Option.some.inj
theorem gd_pos {c : Prop} [Decidable c] (h : c) (o : Option α) : gd c o = o := if_pos h
theorem ns {α : Type} {x : α} (h : none = some x) : False := nomatch h
theorem ft (h : false = true) : False := nomatch h
theorem intP_some {p : PV} {i : Int} (h : intP p = some i) : p = .d (.int i) := by
  cases p with
  | d x => cases x with
    | int y => cases h; rfl
    | _ => exact (ns h).elim
  | _ => exact (ns h).elim
theorem txtP_some {p : PV} {i : Str} (h : txtP p = some i) : p = .d (.str i) := by
  cases p with
  | d x => cases x with
    | str y => cases h; rfl
    | _ => exact (ns h).elim
  | _ => exact (ns h).elim
theorem lstD_some {p : PV} {i : List PyData} (h : lstD p = some i) : p = .d (.list i) := by
  cases p with
  | d x => cases x with
    | list y => cases h; rfl
    | _ => exact (ns h).elim
  | _ => exact (ns h).elim
theorem locP_some {p : PV} {l : Nat} (h : locP p = some l) : p = .loc l := by
  cases p with
  | loc y => cases h; rfl
  | _ => exact (ns h).elim
theorem frsh_some {r : Res} {xs : List PV} (h : frsh r = some xs) : r = .fresh xs := by
  cases r <;> cases h; rfl
theorem lstAt_some {σ : Hp} {l : Nat} {xs : List PV} (h : lstAt σ l = some xs) : σ[l]? = some (.lst xs) := by
  unfold lstAt at h
  cases hl : σ[l]? with
  | none => rw [hl] at h; exact (ns h).elim
  | some o =>
    rw [hl] at h
    cases o with
    | lst y => cases h; rfl
    | _ => exact (ns h).elim
theorem tupD_some {p : PV} {i : List PyData} (h : tupD p = some i) : p = .d (.tuple i) := by
  cases p with
  | d x => cases x with
    | tuple y => cases h; rfl
    | _ => exact (ns h).elim
  | _ => exact (ns h).elim
theorem glP_some {p : PV} {a : Addr} (h : glP p = some a) : p = .gl a := by
  cases p with
  | gl y => cases h; rfl
  | _ => exact (ns h).elim
theorem datP_some {p : PV} {x : PyData} (h : datOf p = some x) : p = .d x := by
  cases p with
  | d y => cases h; rfl
  | _ => exact (ns h).elim
theorem lstOf_some {p : PyData} {x : List PyData} (h : lstOf p = some x) : p = .list x := by
  cases p with
  | list y => cases h; rfl
  | _ => exact (ns h).elim
theorem dctAt_some {σ : Hp} {l : Nat} {xs : List (Str × PV)} (h : dctAt σ l = some xs) : σ[l]? = some (.dct xs) := by
  unfold dctAt at h
  cases hl : σ[l]? with
  | none => rw [hl] at h; exact (ns h).elim
  | some o =>
    rw [hl] at h
    cases o with
    | dct y => cases h; rfl
    | _ => exact (ns h).elim
theorem nsAt_some {σ : Hp} {l : Nat} {xs : List (Str × PV)} (h : nsAt σ l = some xs) : σ[l]? = some (.ns xs) := by
  unfold nsAt at h
  cases hl : σ[l]? with
  | none => rw [hl] at h; exact (ns h).elim
  | some o =>
    rw [hl] at h
    cases o with
    | ns y => cases h; rfl
    | _ => exact (ns h).elim
theorem instAt_some {σ : Hp} {l : Nat} {x : Addr × Nat} (h : instAt σ l = some x) : σ[l]? = some (.inst x.1 x.2) := by
  unfold instAt at h
  cases hl : σ[l]? with
  | none => rw [hl] at h; exact (ns h).elim
  | some o =>
    rw [hl] at h
    cases o with
    | inst y z => cases h; rfl
    | _ => exact (ns h).elim
theorem tyP_some {p : PV} {n : String} (h : tyP p = some n) : p = .ty n := by
  cases p with
  | ty y => cases h; rfl
  | _ => exact (ns h).elim
theorem two2_some {α : Type} {l : List α} {x : α × α} (h : two2 l = some x) : l = [x.1, x.2] := by
  match l, h with
  | [a, b], h => cases h; rfl
theorem tupAt_some {σ : Hp} {l : Nat} {xs : List PV} (h : tupAt σ l = some xs) : σ[l]? = some (.tup xs) := by
  unfold tupAt at h
  cases hl : σ[l]? with
  | none => rw [hl] at h; exact (ns h).elim
  | some o =>
    rw [hl] at h
    cases o with
    | tup y => cases h; rfl
    | _ => exact (ns h).elim
theorem lstAt_of {σ : Hp} {l : Nat} {xs : List PV} (h : σ[l]? = some (.lst xs)) : lstAt σ l = some xs := by unfold lstAt; rw [h]
theorem nsAt_of {σ : Hp} {l : Nat} {xs : List (Str × PV)} (h : σ[l]? = some (.ns xs)) : nsAt σ l = some xs := by unfold nsAt; rw [h]
theorem instAt_of {σ : Hp} {l : Nat} {C : Addr} {d : Nat} (h : σ[l]? = some (.inst C d)) : instAt σ l = some (C, d) := by unfold instAt; rw [h]
theorem or_some {a b : Option α} {x : α} (h : orE a b = some x) : a = some x ∨ b = some x := by
  cases a with
  | none => exact .inr h
  | some _ => exact .inl h
theorem one_some {ps : List PV} {f : PV → Option α} {r : α} (h : one ps f = some r) : ∃ p, ps = [p] ∧ f p = some r := by
  cases ps with
  | nil => exact (ns h).elim
  | cons p ps => cases ps with
    | nil => exact ⟨p, rfl, h⟩
    | cons q ps => exact (ns h).elim
theorem twoA_some {ps : List PV} {f : PV → PV → Option α} {r : α} (h : twoA ps f = some r) : ∃ p q, ps = [p, q] ∧ f p q = some r := by
  cases ps with
  | nil => exact (ns h).elim
  | cons p ps => cases ps with
    | nil => exact (ns h).elim
    | cons q ps => cases ps with
      | nil => exact ⟨p, q, rfl, h⟩
      | cons w ps => exact (ns h).elim
theorem threeA_some {ps : List PV} {f : PV → PV → PV → Option α} {r : α} (h : threeA ps f = some r) : ∃ p q w, ps = [p, q, w] ∧ f p q w = some r := by
  cases ps with
  | nil => exact (ns h).elim
  | cons p ps => cases ps with
    | nil => exact (ns h).elim
    | cons q ps => cases ps with
      | nil => exact (ns h).elim
      | cons w ps => cases ps with
        | nil => exact ⟨p, q, w, rfl, h⟩
        | cons _ ps => exact (ns h).elim
theorem isNonP_eq {p : PV} (h : isNonP p = true) : p = .d .none := by
  cases p with
  | d x => cases x <;> first | rfl | cases h
  | _ => cases h
theorem valR_some {o : Option (PV × Hp)} {r : Res} {σ : Hp} (h : valR o = some (r, σ)) : ∃ p, o = some (p, σ) ∧ r = .val p := by
  obtain ⟨p, σ', h1, h2⟩ := bd_some h
  cases h2
  exact ⟨p, h1, rfl⟩
theorem keepR_some {o : Option PV} {r : Res} {σ σ' : Hp} (h : keepR σ o = some (r, σ')) : ∃ p, o = some p ∧ r = .val p ∧ σ = σ' := by
  obtain ⟨p, h1, h2⟩ := mp_some h
  cases h2
  exact ⟨p, h1, rfl, rfl⟩
noncomputable def Wp (P : α → Prop) (o : Option α) : Prop := ∀ x, o = some x → P x
theorem Wp.bd {P : γ → Prop} {o : Option (α × β)} {f : α → β → Option γ} (h : ∀ a b, o = some (a, b) → Wp P (f a b)) : Wp P (bd o f) := fun x e =>
  have ⟨a, b, h1, h2⟩ := bd_some e
  h a b h1 x h2
theorem Wp.mp {P : β → Prop} {o : Option α} {f : α → β} (h : ∀ a, o = some a → P (f a)) : Wp P (o.map f) := fun _ e =>
  have ⟨a, h1, h2⟩ := mp_some e
  h2 ▸ h a h1
theorem Wp.gd {P : α → Prop} {c : Prop} [Decidable c] {o : Option α} (h : c → Wp P o) : Wp P (gd c o) := fun x e => h (gd_some e).1 x (gd_some e).2
theorem Wp.ret {P : α → Prop} {x : α} (h : P x) : Wp P (some x) := fun _ e => Option.some.inj e ▸ h
theorem Wp.no {P : α → Prop} : Wp P none := fun _ e => (ns e).elim
theorem Wp.or {P : α → Prop} {a b : Option α} (h1 : Wp P a) (h2 : Wp P b) : Wp P (orE a b) := fun x e => (or_some e).elim (h1 x) (h2 x)
theorem Wp.one {P : α → Prop} {ps : List PV} {f : PV → Option α} (h : ∀ p, ps = [p] → Wp P (f p)) : Wp P (one ps f) := fun x e =>
  have ⟨p, h1, h2⟩ := one_some e
  h p h1 x h2
theorem Wp.two {P : α → Prop} {ps : List PV} {f : PV → PV → Option α} (h : ∀ p q, ps = [p, q] → Wp P (f p q)) : Wp P (twoA ps f) := fun x e =>
  have ⟨p, q, h1, h2⟩ := twoA_some e
  h p q h1 x h2
theorem Wp.cond {P : α → Prop} {c : Bool} {a b : Option α} (h1 : c = true → Wp P a) (h2 : c = false → Wp P b) : Wp P (cond c a b) := by
  cases c with
  | true => exact h1 rfl
  | false => exact h2 rfl
theorem Wp.keep {P : Res × Hp → Prop} {σ : Hp} {o : Option PV} (h : ∀ p, o = some p → P (.val p, σ)) : Wp P (keepR σ o) := .mp h
theorem Wp.val {P : Res × Hp → Prop} {o : Option (PV × Hp)} (h : ∀ p σ', o = some (p, σ') → P (.val p, σ')) : Wp P (valR o) := .bd fun p σ' e => .ret (h p σ' e)
inductive Onw (o : Option (Option Flo × β × Hp)) (k : β → Hp → Option (Option Flo × β × Hp)) (r : Option Flo × β × Hp) : Prop
  | on (b : β) (σ : Hp) (h : o = some (none, b, σ)) (e : k b σ = some r)
  | out (f : Flo) (h : o = some (some f, r.2)) (e : r.1 = some f)
theorem onw_some {o : Option (Option Flo × β × Hp)} {k : β → Hp → Option (Option Flo × β × Hp)} {r : Option Flo × β × Hp} (h : onw o k = some r) : Onw o k r := by
  match o, h with
  | some (none, b, σ), h => exact .on b σ rfl h
  | some (some f, y), h => cases h; exact .out f rfl rfl
end
noncomputable def codeName : Array Nat := #[14, 10, 4, 1, 1, 22, 0, 31, 16, 127, 0, 13, 7, 22, 0, 31, 16, 127, 0, 1]
noncomputable def codeVal : Array Nat := #[14, 14, 4, 1, 1, 9, 4294966783, 0, 0, 2147483648, 0, 0, 0, 0, 0, 13, 11, 9, 4294966783, 0, 0, 2147483648, 0, 0, 0, 0, 0, 1]
end Mine
end
section
namespace Mine
open PySem PySem.W PySem.Calls PyProof.Rows
structure Ck where
  I : Info
  fname : Nat → Str
  par : Nat → List Nat
  forms : Nat → List (Nat × Nat)
  fids : List Nat
  bl : List Str
structure Cx where
  prog : Program
  w : World
  B : Heap
  K : Frag
  fa : Nat → Addr
  mg : Str → Option Value
  mb : Str → Option Value
  C : Ck
noncomputable abbrev Cx.I (Γ : Cx) : Info := Γ.C.I
noncomputable abbrev Cx.par (Γ : Cx) : Nat → List Nat := Γ.C.par
noncomputable abbrev Cx.forms (Γ : Cx) : Nat → List (Nat × Nat) := Γ.C.forms
noncomputable abbrev Cx.St (Γ : Cx) := Mine.St Γ.w Γ.B
noncomputable abbrev WP (Γ : Cx) {α : Type} (A : Around) (t : Sem α) (Q : α → Shared → Prop) (s : Shared) : Prop :=
  wpAny (model Γ.prog Γ.w) A t Q (fun _ _ => False) s
structure ClsOk (K : Frag) (I : Info) (fa : Nat → Addr) (k : Cls) : Prop where
  makes : makesIn K k.addr = true
  init : findIn K (.ref k.addr) "__init__" = some (some (.ref (fa k.init)))
  initF : typeIn K (.ref (fa k.init)) = some (.type "function")
  plain : findIn K (.ref k.addr) "__getattribute__" = some (some (.builtin "object.__getattribute__"))
  noGa : findIn K (.ref k.addr) "__getattr__" = some none
  dict : hasDictIn K k.addr = true
  keep : keepIn K (.ref k.addr) = true
  nos : noSeq K k.addr = true
  seta : findIn K (.ref k.addr) "__setattr__" = some (some (.builtin "object.__setattr__"))
  over : plainOver K k.addr = true
  attrs : ∀ x, k.attrs.contains x = true → findIn K (.ref k.addr) (nm I x) = some none
  meths : ∀ x f, lk x k.meths = some f → findIn K (.ref k.addr) (nm I x) = some (some (.ref (fa f))) ∧ typeIn K (.ref (fa f)) = some (.type "function") ∧ fnIn K (fa f) = true
inductive PatOk (h : Heap) (a : Addr) (code : Array Nat) : Prop
  | mk (p fl gi ig : Value) (c : Addr) (n : Nat) (h1 : h.get? a = some { cls := .type "re.Pattern", data := .fields #[p, fl, .int 0 0, gi, ig, .ref c, .int 0 0] }) (h2 : h.get? c = some { cls := .type "tuple", data := .seq (code.map fun (w : Nat) => Value.int (w : Int) 0) n })
structure Cx.Ok (Γ : Cx) : Prop where
  pats : ∀ a code, lk a Γ.I.safe = some code → PatOk Γ.B a code
  kin : Γ.K.In Γ.B
  cls : ∀ c k, lk c Γ.I.cls = some k → ClsOk Γ.K Γ.I Γ.fa k
  clsAt : ∀ C k, clsAt Γ.I C = some k → k.addr = C ∧ ClsOk Γ.K Γ.I Γ.fa k
  g : Γ.B.Ns mainGlobals Γ.mg
  b : Γ.B.Ns builtinsNs Γ.mb
  lim : Γ.B.NoLimit
  nLen : nm Γ.I Γ.I.nLen = "__len__"
  nGet : nm Γ.I Γ.I.nGet = "__getitem__"
  nDel : nm Γ.I Γ.I.nDel = "__delitem__"
  inj : ∀ x y, x < Γ.I.N.length → nm Γ.I x = nm Γ.I y → x = y
  gl : ∀ x p, lk x Γ.I.G = some p → ∃ v, (Γ.mg (nm Γ.I x) = some v ∨ (Γ.mg (nm Γ.I x) = none ∧ Γ.mb (nm Γ.I x) = some v)) ∧ ∀ (μ : List Addr) (g : Heap), VR μ g v p
structure Room (n : Nat) (A : Around) : Prop where
  depth : A.depth + n < 900
  units : A.units + 4 * n + 100 < 9000
  hand : A.handled = none
theorem Room.le {n m : Nat} {A : Around} (r : Room n A) (h : m ≤ n) : Room m A := ⟨by have := r.depth; (first | lia | omega), by have := r.units; (first | lia | omega), r.hand⟩
structure EnvR (Γ : Cx) (env : Env) (ρ : En) (μ : List Addr) (H : Addr → Prop) (h : Heap) : Prop where
  kind : env.scope.kind = .function
  glob : env.globals = mainGlobals
  blt : env.builtins = builtinsNs
  ns : ∃ m, h.Ns env.locals m ∧ ∀ x p, getV x ρ = some p → env.kindOf (nm Γ.I x) = some .local → ∃ v, m (nm Γ.I x) = some v ∧ VR μ (gr h H) v p
  cells : ∀ x p, getV x ρ = some p → (env.kindOf (nm Γ.I x) = some .cell ∨ env.kindOf (nm Γ.I x) = some .free) →
    ∃ c v, env.cells.lookup (nm Γ.I x) = some c ∧ h.IsCell c (some v) ∧ VR μ (gr h H) v p
  lout : env.locals ∉ μ ∧ H env.locals
  cout : ∀ n c, env.cells.lookup n = some c → c ∉ μ ∧ H c ∧ ∃ v, h.IsCell c v
  apart : ∀ n n' c, env.cells.lookup n = some c → env.cells.lookup n' = some c → n = n'
  lne : ∀ n c, env.cells.lookup n = some c → c ≠ env.locals
theorem Ns.there {h : Heap} {a : Addr} {m} (x : h.Ns a m) : ∃ o, h.get? a = some o := let ⟨o, _, _, e, _⟩ := x; ⟨o, e⟩
theorem Ns.at_ {h h' : Heap} {a : Addr} {m} (x : h.Ns a m) (k : ∀ o, h.get? a = some o → h'.get? a = some o) : h'.Ns a m :=
  let ⟨o, es, ep, e, r⟩ := x; ⟨o, es, ep, k o e, r⟩
theorem Tr.out {μ H h os μ' H' h' os'} (t : Tr μ H h os μ' H' h' os') {b : Addr} {o : Obj} (e : h.get? b = some o) (hb : b ∉ μ) : b ∉ μ' := by
  obtain ⟨ν, rfl, f⟩ := t.ext
  intro hm
  rcases List.mem_append.mp hm with hm | hm
  · exact hb hm
  · rw [f b hm] at e; cases e
theorem Tr.fresh {μ H h os μ' H' h' os'} (t : Tr μ H h os μ' H' h' os') {b : Addr} (e : h'.get? b = none) : h.get? b = none := by
  cases q : h.get? b with
  | none => rfl
  | some o => obtain ⟨o', q'⟩ := t.dom b o q; rw [e] at q'; cases q'
theorem EnvR.tr {Γ : Cx} {env : Env} {ρ : En} {μ H h os μ' H' h' os'} (t : Tr μ H h os μ' H' h' os') (E : EnvR Γ env ρ μ H h) : EnvR Γ env ρ μ' H' h' := by
  obtain ⟨m, hn, hv⟩ := E.ns
  obtain ⟨o, ho⟩ := Ns.there hn
  refine ⟨E.kind, E.glob, E.blt, ⟨m, Ns.at_ hn fun o e => (t.kept _ _ e fun q => E.lout.1 q.1).1, fun x p hx hk => ?_⟩, fun x p hx hk => ?_, ⟨t.out ho E.lout.1, (t.kept _ _ ho fun q => E.lout.1 q.1).2.mpr E.lout.2⟩, fun n c hc => ?_, E.apart, E.lne⟩
  · obtain ⟨v, h1, h2⟩ := hv x p hx hk
    exact ⟨v, h1, h2.tr t⟩
  · obtain ⟨c, v, h1, ⟨oc, h2, h3⟩, h4⟩ := E.cells x p hx hk
    exact ⟨c, v, h1, ⟨oc, (t.kept _ _ h2 fun q => (E.cout _ _ h1).1 q.1).1, h3⟩, h4.tr t⟩
  · obtain ⟨q1, q2, v, oc, q3, q4⟩ := E.cout n c hc
    have z := t.kept _ _ q3 fun q => q1 q.1
    exact ⟨t.out q3 q1, z.2.mpr q2, v, oc, z.1, q4⟩
theorem ORel.mono {w : World} {μ μ' : List Addr} {g g' h h' : Heap} {a : Addr} {o : PO} (x : ORel w μ g h a o) (hm : ∃ ν, μ' = μ ++ ν) (hg : ∀ b o, g.get? b = some o → g'.get? b = some o)
    (ha : ∀ ob, h.get? a = some ob → h'.get? a = some ob) : ORel w μ' g' h' a o := by
  cases o with
  | lst xs => obtain ⟨vs, n, e, r⟩ := x; exact ⟨vs, n, ha _ e, r.mono hm hg⟩
  | tup xs => obtain ⟨vs, n, e, r⟩ := x; exact ⟨vs, n, ha _ e, r.mono hm hg⟩
  | dct kvs => obtain ⟨es, n, e, r, q⟩ := x; exact ⟨es, n, ha _ e, r.mono hm hg, q⟩
  | ns kvs => obtain ⟨es, n, e, r⟩ := x; exact ⟨es, n, ha _ e, r.mono hm hg⟩
  | inst C dl =>
    obtain ⟨dx, e1, e2⟩ := x
    obtain ⟨ν, rfl⟩ := hm
    exact ⟨dx, by rw [List.getElem?_append_left (List.getElem?_eq_some_iff.mp e1).1]; exact e1, ha _ e2⟩
  | dead => trivial
section
variable {w : World} {B : Heap} {μ : List Addr} {H H' : Addr → Prop} {σ : Hp} {s s' : Shared}
theorem St.lt (S : St w B μ H σ s) {l : Nat} {o : PO} (h : σ[l]? = some o) : ∃ a, μ[l]? = some a := by
  have : l < μ.length := by rw [S.len]; exact (List.getElem?_eq_some_iff.mp h).1
  exact ⟨μ[l], List.getElem?_eq_getElem this⟩
theorem St.loc (S : St w B μ H σ s) {l : Nat} {a : Addr} {o : PO} (hl : μ[l]? = some a) (h : σ[l]? = some o) : ORel w μ (gr s.heap H) s.heap a o := S.objs l a o hl h
theorem St.grow (S : St w B μ H σ s) (hk : ∀ b o, s.heap.get? b = some o → s'.heap.get? b = some o) (hH : ∀ b o, s.heap.get? b = some o → (H' b ↔ H b)) (hg : s'.gens = s.gens) (ho : s'.os = s.os) :
    St w B μ H' σ s' ∧ Tr μ H s.heap s.os μ H' s'.heap s'.os := by
  have T : Tr μ H s.heap s.os μ H' s'.heap s'.os := ⟨⟨[], by simp, fun _ h => nomatch h⟩, fun b o e _ => ⟨hk b o e, hH b o e⟩, fun b o e => ⟨o, hk b o e⟩, ho⟩
  refine ⟨⟨fun b o e => ?_, S.len, S.nod, fun l a o h1 h2 h3 => ?_, fun l a o h1 h2 => (S.objs l a o h1 h2).mono ⟨[], by simp⟩ T.gr (hk a), fun a ha => ?_, hg.trans S.gens⟩, T⟩
  · obtain ⟨h1, h2⟩ := S.keep b o e
    exact ⟨hk b o h1, fun q => h2 ((hH b o h1).mp q)⟩
  · obtain ⟨o', e⟩ := S.there a (List.mem_of_getElem? h1)
    exact (hH a o' e).mpr (S.hid l a o h1 h2 h3)
  · obtain ⟨o', e⟩ := S.there a ha
    exact ⟨o', hk a o' e⟩
theorem St.put (S : St w B μ H σ s) {l : Nat} {a : Addr} {o₀ o' : PO} (hl : μ[l]? = some a) (h0 : σ[l]? = some o₀) (hlive : o₀ ≠ .dead)
    (hsb : ∀ b o, b ≠ a → s.heap.get? b = some o → s'.heap.get? b = some o) (ha : ∃ o, s'.heap.get? a = some o) (hg : s'.gens = s.gens) (ho : s'.os = s.os)
    (hn : ∀ g, (∀ b o, (gr s.heap H).get? b = some o → g.get? b = some o) → ORel w μ g s'.heap a o') :
    St w B μ H (σ.set l o') s' ∧ Tr μ H s.heap s.os μ H s'.heap s'.os := by
  have hHa := S.hid l a o₀ hl h0 hlive
  have T : Tr μ H s.heap s.os μ H s'.heap s'.os := ⟨⟨[], by simp, fun _ h => nomatch h⟩, fun b o e hn => ⟨hsb b o (fun q => hn ⟨q ▸ List.mem_of_getElem? hl, q ▸ hHa⟩) e, Iff.rfl⟩, fun b o e => ?_, ho⟩
  · refine ⟨⟨fun b o e => ?_, by rw [List.length_set]; exact S.len, S.nod, fun k b o h1 h2 h3 => ?_, fun k b o h1 h2 => ?_, fun b hb => ?_, hg.trans S.gens⟩, T⟩
    · obtain ⟨h1, h2⟩ := S.keep b o e
      exact ⟨hsb b o (fun q => h2 (q ▸ hHa)) h1, h2⟩
    · by_cases hk : k = l
      · subst hk; rw [hl] at h1; cases h1; exact hHa
      · rw [List.getElem?_set_ne (Ne.symm hk)] at h2
        exact S.hid k b o h1 h2 h3
    · by_cases hk : k = l
      · subst hk
        rw [hl] at h1; cases h1
        rw [List.getElem?_set_self (by rw [← S.len]; exact (List.getElem?_eq_some_iff.mp hl).1)] at h2
        cases h2
        exact hn _ T.gr
      · rw [List.getElem?_set_ne (Ne.symm hk)] at h2
        have hba : b ≠ a := by
          intro q; subst q
          obtain ⟨p1, q1⟩ := List.getElem?_eq_some_iff.mp h1
          obtain ⟨p2, q2⟩ := List.getElem?_eq_some_iff.mp hl
          exact hk ((List.getElem_inj S.nod).mp (q1.trans q2.symm))
        exact (S.objs k b o h1 h2).mono ⟨[], by simp⟩ T.gr (fun ob e => hsb b ob hba e)
    · by_cases hba : b = a
      · subst hba; exact ha
      · obtain ⟨o', e⟩ := S.there b hb
        exact ⟨o', hsb b o' hba e⟩
  · by_cases hba : b = a
    · subst hba; exact ha
    · exact ⟨o, hsb b o hba e⟩
theorem St.new (S : St w B μ H σ s) {a : Addr} {o' : PO} (hf : s.heap.get? a = none) (hk : ∀ b o, s.heap.get? b = some o → s'.heap.get? b = some o) (ha : ∃ o, s'.heap.get? a = some o)
    (hH : ∀ b o, s.heap.get? b = some o → (H' b ↔ H b)) (hHa : H' a) (hg : s'.gens = s.gens) (ho : s'.os = s.os)
    (hn : ORel w (μ ++ [a]) (gr s'.heap H') s'.heap a o') :
    St w B (μ ++ [a]) H' (σ ++ [o']) s' ∧ Tr μ H s.heap s.os (μ ++ [a]) H' s'.heap s'.os := by
  have T : Tr μ H s.heap s.os (μ ++ [a]) H' s'.heap s'.os := ⟨⟨[a], rfl, fun b hb => by simp at hb; rw [hb]; exact hf⟩, fun b o e _ => ⟨hk b o e, hH b o e⟩, fun b o e => ⟨o, hk b o e⟩, ho⟩
  have ham : a ∉ μ := fun q => by obtain ⟨o, e⟩ := S.there a q; rw [hf] at e; cases e
  refine ⟨⟨fun b o e => ?_, by simp [S.len], ?_, fun l b o h1 h2 h3 => ?_, fun l b o h1 h2 => ?_, fun b hb => ?_, hg.trans S.gens⟩, T⟩
  · obtain ⟨h1, h2⟩ := S.keep b o e
    exact ⟨hk b o h1, fun q => h2 ((hH b o h1).mp q)⟩
  · rw [List.nodup_append]
    exact ⟨S.nod, by simp, fun x hx y hy => by simp at hy; subst hy; exact fun q => ham (q ▸ hx)⟩
  · by_cases hl : l < μ.length
    · rw [List.getElem?_append_left hl] at h1
      rw [List.getElem?_append_left (S.len ▸ hl)] at h2
      obtain ⟨o', e⟩ := S.there b (List.mem_of_getElem? h1)
      exact (hH b o' e).mpr (S.hid l b o h1 h2 h3)
    · rw [List.getElem?_append_right (Nat.le_of_not_lt hl)] at h1
      have : l - μ.length = 0 := by
        have := (List.getElem?_eq_some_iff.mp h1).1; simp at this; (first | lia | omega)
      rw [this] at h1; cases h1; exact hHa
  · by_cases hl : l < μ.length
    · rw [List.getElem?_append_left hl] at h1
      rw [List.getElem?_append_left (S.len ▸ hl)] at h2
      exact (S.objs l b o h1 h2).mono ⟨[a], rfl⟩ T.gr (hk b)
    · rw [List.getElem?_append_right (Nat.le_of_not_lt hl)] at h1
      rw [List.getElem?_append_right (Nat.le_of_not_lt (S.len ▸ hl))] at h2
      have : l - μ.length = 0 := by
        have := (List.getElem?_eq_some_iff.mp h1).1; simp at this; (first | lia | omega)
      rw [this] at h1; cases h1
      rw [← S.len, this] at h2; cases h2
      exact hn
  · rcases List.mem_append.mp hb with hb | hb
    · obtain ⟨o, e⟩ := S.there b hb
      exact ⟨o, hk b o e⟩
    · simp at hb; subst hb; exact ha
end
inductive Post (Γ : Cx) {α : Type} (μ : List Addr) (H : Addr → Prop) (h : Heap) (os : OsState) (R : α → List Addr → (Addr → Prop) → Heap → Prop) (σ' : Hp) (v : α) (s' : Shared) : Prop
  | mk (μ' : List Addr) (H' : Addr → Prop) (T : Tr μ H h os μ' H' s'.heap s'.os) (S : Γ.St μ' H' σ' s') (r : R v μ' H' s'.heap)
noncomputable abbrev Does (Γ : Cx) {α : Type} (A : Around) (t : Sem α) (μ : List Addr) (H : Addr → Prop) (s : Shared) (R : α → List Addr → (Addr → Prop) → Heap → Prop) (σ' : Hp) : Prop :=
  WP Γ A t (Post Γ μ H s.heap s.os R σ') s
theorem Does.use {Γ : Cx} {α : Type} {A : Around} {t : Sem α} {μ : List Addr} {H : Addr → Prop} {h : Heap} {os : OsState} {s : Shared} {R : α → List Addr → (Addr → Prop) → Heap → Prop} {σ' : Hp} {Q : α → Shared → Prop} {N : Value → Shared → Prop} (x : WP Γ A t (Post Γ μ H h os R σ') s)
    (k : ∀ v s' μ' H', Tr μ H h os μ' H' s'.heap s'.os → Γ.St μ' H' σ' s' → R v μ' H' s'.heap → Q v s') : wpAny (model Γ.prog Γ.w) A t Q N s :=
  wpAny_mono x (fun v s' y => y.rec fun μ' H' T S r => k v s' μ' H' T S r) fun _ _ e => e.elim
theorem Does.is {Γ : Cx} {α : Type} {A : Around} {t : Sem α} {μ : List Addr} {H : Addr → Prop} {s : Shared} {w : α} {σ' : Hp} {Q : α → Shared → Prop} {N : Value → Shared → Prop} (x : Does Γ A t μ H s (fun v _ _ _ => v = w) σ')
    (k : ∀ s' μ' H', Tr μ H s.heap s.os μ' H' s'.heap s'.os → Γ.St μ' H' σ' s' → Q w s') : wpAny (model Γ.prog Γ.w) A t Q N s :=
  Does.use x fun _ s' μ' H' T S r => r ▸ k s' μ' H' T S
theorem Post.after {Γ : Cx} {α : Type} {μ H h os μ₁ H₁ h₁ os₁} {R : α → List Addr → (Addr → Prop) → Heap → Prop} {σ' : Hp} (t : Tr μ H h os μ₁ H₁ h₁ os₁) {v : α} {s' : Shared}
    (x : Post Γ μ₁ H₁ h₁ os₁ R σ' v s') : Post Γ μ H h os R σ' v s' := by
  obtain ⟨μ', H', t', S', r⟩ := x
  exact ⟨μ', H', t.trans t', S', r⟩
theorem Does.after {Γ : Cx} {α : Type} {A : Around} {t : Sem α} {μ H h os μ₁ H₁ s₁} {R : α → List Addr → (Addr → Prop) → Heap → Prop} {σ' : Hp} (x : Does Γ A t μ₁ H₁ s₁ R σ')
    (T : Tr μ H h os μ₁ H₁ s₁.heap s₁.os) : WP Γ A t (Post Γ μ H h os R σ') s₁ :=
  wpAny_mono x (fun _ _ y => y.after T) fun _ _ e => e
noncomputable abbrev RV (p : PV) : Value → List Addr → (Addr → Prop) → Heap → Prop := fun v μ H h => VR μ (gr h H) v p
inductive RF (h₀ : Heap) (xs : List PV) (v : Value) (μ : List Addr) (H : Addr → Prop) (h : Heap) : Prop
  | mk (a : Addr) (vs : Array Value) (n : Nat) (e : v = .ref a) (hf : h₀.get? a = none) (hm : a ∉ μ) (hH : H a) (ho : h.get? a = some { cls := .type "list", data := .seq vs n }) (hv : VRs μ (gr h H) vs.toList xs)
noncomputable def RR (h₀ : Heap) (r : Res) : Value → List Addr → (Addr → Prop) → Heap → Prop := fun v μ H h => match r with
  | .val p => VR μ (gr h H) v p
  | .fresh xs => RF h₀ xs v μ H h
noncomputable def TV (Γ : Cx) (A : Around) (env : Env) (t : Sem Value) (ρ : En) (σ : Hp) (p : PV) (σ' : Hp) : Prop :=
  ∀ μ H s, Γ.St μ H σ s → EnvR Γ env ρ μ H s.heap → Does Γ A t μ H s (RV p) σ'
noncomputable def TE (Γ : Cx) (A : Around) (env : Env) (t : Sem Value) (ρ : En) (σ : Hp) (r : Res) (σ' : Hp) : Prop :=
  ∀ μ H s, Γ.St μ H σ s → EnvR Γ env ρ μ H s.heap → Does Γ A t μ H s (RR s.heap r) σ'
theorem dats_reads {μ : List Addr} {g : Heap} {vs : List Value} {xs : List PV} {ds : List PyData} (h : VRs μ g vs xs) (e : dats xs = some ds) : ∃ as, ReadsAll g vs ds as := by
  induction h generalizing ds with
  | nil => cases e; exact ⟨[], .nil⟩
  | @cons v vs p ps h r ih =>
    rw [dats_c] at e
    cases hq : dats ps with
    | none => rw [hq] at e; cases p <;> exact (ns e).elim
    | some xs =>
      rw [hq] at e
      cases h with
      | d q =>
        obtain ⟨as, q'⟩ := ih hq
        cases e
        exact ⟨_, .cons q q'⟩
      | _ => exact (ns e).elim
theorem fin_core {Γ : Cx} {μ μ' : List Addr} {H H' : Addr → Prop} {h : Heap} {os : OsState} {r : Res} {σ' : Hp} {v : Value} {s' : Shared} (T : Tr μ H h os μ' H' s'.heap s'.os) (S' : Γ.St μ' H' σ' s') (q : RR h r v μ' H' s'.heap) :
    ∃ μ'' H'', Tr μ H h os μ'' H'' s'.heap s'.os ∧ Γ.St μ'' H'' (finalize σ' r).2 s' ∧ RV (finalize σ' r).1 v μ'' H'' s'.heap ∧ ∀ b, b ∉ μ' → H' b → v ≠ .ref b → b ∉ μ'' ∧ H'' b := by
  cases r with
  | val p => exact ⟨μ', H', T, S', q, fun b h1 h2 _ => ⟨h1, h2⟩⟩
  | fresh xs =>
    obtain ⟨a, vs, n, rfl, hf, ham, hHa, ho, hv⟩ := q
    cases hd : dats xs with
    | some ds =>
      simp only [finalize, hd]
      have hmono : ∀ b o, (gr s'.heap H').get? b = some o → (gr s'.heap fun b => H' b ∧ b ≠ a).get? b = some o := fun b o e => by
        obtain ⟨e1, e2⟩ := only_get.mp e
        exact only_get.mpr ⟨e1, fun q => e2 q.1⟩
      have T' : Tr μ H h os μ' (fun b => H' b ∧ b ≠ a) s'.heap s'.os := ⟨T.ext, fun b o e hn => by
        obtain ⟨h1, h2⟩ := T.kept b o e hn
        refine ⟨h1, ?_⟩
        have : b ≠ a := fun q => by rw [q, hf] at e; cases e
        simp [this, h2], T.dom, T.os⟩
      refine ⟨μ', fun b => H' b ∧ b ≠ a, T', ⟨fun b o e => ?_, S'.len, S'.nod, fun l b o h1 h2 h3 => ⟨S'.hid l b o h1 h2 h3, fun q => ham (q ▸ List.mem_of_getElem? h1)⟩,
        fun l b o h1 h2 => (S'.objs l b o h1 h2).mono ⟨[], by simp⟩ hmono fun _ e => e, S'.there, S'.gens⟩, ?_, fun b h1 h2 h3 => ⟨h1, h2, fun e => h3 (e ▸ rfl)⟩⟩
      · obtain ⟨h1, h2⟩ := S'.keep b o e
        exact ⟨h1, fun q => h2 q.1⟩
      · obtain ⟨as, rd⟩ := dats_reads hv hd
        exact .d (Reads.list (o := { cls := .type "list", data := .seq vs n }) (n := n) (only_get.mpr ⟨ho, fun q => q.2 rfl⟩) rfl rfl (ReadsAll.keeps hmono rd))
    | none =>
      simp only [finalize, hd]
      have hfr : ∀ b ∈ μ', b ≠ a := fun b hb q => ham (q ▸ hb)
      have T' : Tr μ H h os (μ' ++ [a]) H' s'.heap s'.os := by
        obtain ⟨ν, e1, e2⟩ := T.ext
        exact ⟨⟨ν ++ [a], by rw [e1, List.append_assoc], fun b hb => by
          rcases List.mem_append.mp hb with hb | hb
          · exact e2 b hb
          · simp at hb; rw [hb]; exact hf⟩, T.kept, T.dom, T.os⟩
      refine ⟨μ' ++ [a], H', T', ⟨S'.keep, by simp [S'.len], ?_, fun l b o h1 h2 h3 => ?_, fun l b o h1 h2 => ?_, fun b hb => ?_, S'.gens⟩, ?_, fun b h1 h2 h3 => ⟨fun hm => (List.mem_append.mp hm).elim h1 fun hm => by simp at hm; exact h3 (hm ▸ rfl), h2⟩⟩
      · rw [List.nodup_append]
        exact ⟨S'.nod, by simp, fun x hx y hy => by simp at hy; subst hy; exact hfr x hx⟩
      · by_cases hl : l < μ'.length
        · rw [List.getElem?_append_left hl] at h1
          rw [List.getElem?_append_left (S'.len ▸ hl)] at h2
          exact S'.hid l b o h1 h2 h3
        · rw [List.getElem?_append_right (Nat.le_of_not_lt hl)] at h1
          have : l - μ'.length = 0 := by
            have := (List.getElem?_eq_some_iff.mp h1).1; simp at this; (first | lia | omega)
          rw [this] at h1; cases h1; exact hHa
      · by_cases hl : l < μ'.length
        · rw [List.getElem?_append_left hl] at h1
          rw [List.getElem?_append_left (S'.len ▸ hl)] at h2
          exact (S'.objs l b o h1 h2).mono ⟨[a], rfl⟩ (fun _ _ e => e) fun _ e => e
        · rw [List.getElem?_append_right (Nat.le_of_not_lt hl)] at h1
          rw [List.getElem?_append_right (Nat.le_of_not_lt (S'.len ▸ hl))] at h2
          have : l - μ'.length = 0 := by
            have := (List.getElem?_eq_some_iff.mp h1).1; simp at this; (first | lia | omega)
          rw [this] at h1; cases h1
          rw [← S'.len, this] at h2; cases h2
          exact ⟨vs, n, ho, hv.mono ⟨[a], rfl⟩ fun _ _ e => e⟩
      · rcases List.mem_append.mp hb with hb | hb
        · exact S'.there b hb
        · simp at hb; subst hb; exact ⟨_, ho⟩
      · refine .loc ?_
        rw [← S'.len, List.getElem?_append_right (Nat.le_refl _)]
        simp
theorem Post.fin {Γ : Cx} {μ : List Addr} {H : Addr → Prop} {h : Heap} {os : OsState} {r : Res} {σ' : Hp} {v : Value} {s' : Shared} (y : Post Γ μ H h os (RR h r) σ' v s') :
    Post Γ μ H h os (RV (finalize σ' r).1) (finalize σ' r).2 v s' := by
  obtain ⟨μ', H', T, S', q⟩ := y
  obtain ⟨μ'', H'', T'', S'', q'', _⟩ := fin_core T S' q
  exact ⟨μ'', H'', T'', S'', q''⟩
theorem TE.fin {Γ : Cx} {A : Around} {env : Env} {t : Sem Value} {ρ : En} {σ : Hp} {r : Res} {σ' : Hp} (x : TE Γ A env t ρ σ r σ') : TV Γ A env t ρ σ (finalize σ' r).1 (finalize σ' r).2 := by
  intro μ H s S E
  exact wpAny_mono (x μ H s S E) (fun v s' y => y.fin) fun _ _ e => e
end Mine
end
section
namespace Mine
open PySem PySem.W PySem.Calls PyProof.Rows
section
variable {Γ : Cx} {A : Around} {env : Env} {ρ : En} {σ σ₁ σ₂ σ₃ : Hp} {μ : List Addr} {H : Addr → Prop} {s : Shared}
theorem Post.now {α : Type} {R : α → List Addr → (Addr → Prop) → Heap → Prop} (S : Γ.St μ H σ s) {v : α} (r : R v μ H s.heap) (t : Nat) : Post Γ μ H s.heap s.os R σ v { s with toks := t } :=
  have z := S.grow (H' := H) (s' := { s with toks := t }) (fun _ _ e => e) (fun _ _ _ => Iff.rfl) rfl rfl
  ⟨μ, H, z.2, z.1, r⟩
theorem Does.pure {α : Type} {t : Sem α} {R : α → List Addr → (Addr → Prop) → Heap → Prop} {v : α} (S : Γ.St μ H σ s) (e : t = pure v) (r : R v μ H s.heap) : Does Γ A t μ H s R σ := by
  subst e; exact wpAny_pure (Post.now S r s.toks)
theorem Does.conseq {α : Type} {t : Sem α} {R R' : α → List Addr → (Addr → Prop) → Heap → Prop} (x : Does Γ A t μ H s R σ₁) (h : ∀ v μ' H' h', R v μ' H' h' → R' v μ' H' h') : Does Γ A t μ H s R' σ₁ :=
  Does.use x fun v s' μ' H' T S r => ⟨μ', H', T, S, h v μ' H' _ r⟩
theorem RR.back {h₀ h₁ : Heap} {r : Res} {v : Value} {μ' H' h'} (x : RR h₁ r v μ' H' h') (hf : ∀ b, h₁.get? b = none → h₀.get? b = none) : RR h₀ r v μ' H' h' := by
  cases r with
  | val p => exact x
  | fresh xs => obtain ⟨a, vs, n, e, h1, h2, h3, h4, h5⟩ := x; exact ⟨a, vs, n, e, hf a h1, h2, h3, h4, h5⟩
theorem TV.val {t : Sem Value} {p : PV} (x : TV Γ A env t ρ σ p σ₁) : TE Γ A env t ρ σ (.val p) σ₁ := x
theorem v_int {i : Int} {v : Value} {g : Heap} (h : VR μ g v (.d (.int i))) : ∃ t, v = .int i t := by
  cases h with | d r => cases r; exact ⟨_, rfl⟩
theorem v_str {x : Str} {v : Value} {g : Heap} (h : VR μ g v (.d (.str x))) : ∃ t, v = .str x t := by
  cases h with | d r => cases r; exact ⟨_, rfl⟩
theorem v_none {v : Value} {g : Heap} (h : VR μ g v (.d .none)) : v = .none := by
  cases h with | d r => cases r; rfl
theorem v_bool {b : Bool} {v : Value} {g : Heap} (h : VR μ g v (.d (.bool b))) : v = .bool b := by
  cases h with | d r => cases r; rfl
theorem v_loc {l : Nat} {v : Value} {g : Heap} (h : VR μ g v (.loc l)) : ∃ a, μ[l]? = some a ∧ v = .ref a := by
  cases h with | loc r => exact ⟨_, r, rfl⟩
theorem v_ty {n : String} {v : Value} {g : Heap} (h : VR μ g v (.ty n)) : v = .type n := by
  cases h; rfl
theorem v_gl {a : Addr} {v : Value} {g : Heap} (h : VR μ g v (.gl a)) : v = .ref a := by
  cases h; rfl
theorem v_d {x : PyData} {v : Value} {g : Heap} (h : VR μ g v (.d x)) : ∃ as, Reads g v x as := by
  cases h with | d r => exact ⟨_, r⟩
theorem vr_int (i : Int) (t : Tok) (g : Heap) : VR μ g (.int i t) (.d (.int i)) := .d (Reads.int i t)
theorem vr_str (i : Str) (t : Tok) (g : Heap) : VR μ g (.str i t) (.d (.str i)) := .d (Reads.str i t)
theorem vr_bool (b : Bool) (g : Heap) : VR μ g (.bool b) (.d (.bool b)) := .d (Reads.bool b)
theorem vr_none (g : Heap) : VR μ g .none (.d .none) := .d Reads.none
theorem te_int {i : Int} {k : Nat} {pos : Pos} : TE Γ A env (eval (.Constant (.int i) k pos) env) ρ σ (.val (.d (.int i))) σ :=
  fun _ _ s S _ => wpAny_Constant_int (Post.now S (R := RR s.heap (.val (.d (.int i)))) (vr_int i _ _) _)
theorem te_str {x : Str} {k : Nat} {pos : Pos} : TE Γ A env (eval (.Constant (.str x) k pos) env) ρ σ (.val (.d (.str x))) σ :=
  fun _ _ s S _ => wpAny_Constant_str (Post.now S (R := RR s.heap (.val (.d (.str x)))) (vr_str x _ _) _)
theorem te_none {k : Nat} {pos : Pos} : TE Γ A env (eval (.Constant .none k pos) env) ρ σ (.val (.d .none)) σ :=
  fun _ _ s S _ => wpAny_Constant_none (Post.now S (R := RR s.heap (.val (.d .none))) (vr_none _) s.toks)
theorem te_bool {b : Bool} {k : Nat} {pos : Pos} : TE Γ A env (eval (.Constant (.bool b) k pos) env) ρ σ (.val (.d (.bool b))) σ :=
  fun _ _ s S _ => wpAny_Constant_bool (Post.now S (R := RR s.heap (.val (.d (.bool b)))) (vr_bool b _) s.toks)
theorem te_dbg {pos : Pos} : TE Γ A env (eval (.Name ("__debug__" : Str) pos) env) ρ σ (.val (.d (.bool true))) σ := fun _ _ s S _ => by
  have e : eval (.Name ("__debug__" : Str) pos) env = (do standAt pos; if (("__debug__" : Str) == ("__debug__" : Str)) then debugConstant else loadName env "__debug__") := rfl
  have e2 : ((("__debug__" : Str) == ("__debug__" : Str)) : Bool) = true := by decide
  rw [e, e2]
  exact wpAny_bind (wpAny_standAt (show wpAny _ _ debugConstant _ _ _ from wpAny_bind (wpAny_rule (wpAny_pure (Post.now S (R := RR s.heap (.val (.d (.bool true)))) (vr_bool true _) s.toks)))))
theorem te_var {x : Nat} {p : PV} {id : Str} {pos : Pos} (hn : id = nm Γ.I x) (hv : getV x ρ = some p)
    (hk : env.kindOf id = some .local ∨ env.kindOf id = some .cell ∨ env.kindOf id = some .free) (hd : (id == ("__debug__" : Str)) = false) (hc : (id == ("__classdict__" : Str)) = false) :
    TE Γ A env (eval (.Name id pos) env) ρ σ (.val p) σ := fun μ H s S E => by
  subst hn
  refine wpAny_Name ?_ hd
  rcases hk with hk | hk | hk
  · obtain ⟨m, hm, hx⟩ := E.ns
    obtain ⟨v, h1, h2⟩ := hx x p hv hk
    exact wpAny_loadName_local E.kind hk hm h1 (Post.now S (R := RR s.heap (.val p)) h2 s.toks)
  · obtain ⟨c, v, h1, h2, h3⟩ := E.cells x p hv (.inl hk)
    exact wpAny_loadName_cell E.kind hk h1 h2 (Post.now S (R := RR s.heap (.val p)) h3 s.toks)
  · obtain ⟨c, v, h1, h2, h3⟩ := E.cells x p hv (.inr hk)
    exact wpAny_loadName_free E.kind hk h1 h2 (Post.now S (R := RR s.heap (.val p)) h3 s.toks) hc
theorem St.base (S : Γ.St μ H σ s) : ∀ b o, Γ.B.get? b = some o → s.heap.get? b = some o := fun b o e => (S.keep b o e).1
theorem name_gl {id : Str} {pos : Pos} {v : Value} {Q : Value → Shared → Prop} {E' : Value → Shared → Prop} (K : Γ.Ok) (S : Γ.St μ H σ s) (E : EnvR Γ env ρ μ H s.heap)
    (hv : Γ.mg id = some v ∨ (Γ.mg id = none ∧ Γ.mb id = some v)) (hk : env.kindOf id = some .globalImplicit) (hd : (id == ("__debug__" : Str)) = false) (h : Q v s) :
    wpAny (model Γ.prog Γ.w) A (eval (.Name id pos) env) Q E' s := by
  refine Name_function_global E.kind hk ?_ hd
  rcases hv with hv | ⟨h0, hv⟩
  · exact loadGlobal_global (by rw [E.glob]; exact K.g.keeps (St.base S)) hv h
  · exact loadGlobal_builtin (by rw [E.glob]; exact K.g.keeps (St.base S)) h0 (by rw [E.blt]; exact K.b.keeps (St.base S)) hv h
theorem te_gl {x : Nat} {p : PV} {id : Str} {pos : Pos} (K : Γ.Ok) (hn : id = nm Γ.I x) (hv : lk x Γ.I.G = some p) (hk : env.kindOf id = some .globalImplicit) (hd : (id == ("__debug__" : Str)) = false) :
    TE Γ A env (eval (.Name id pos) env) ρ σ (.val p) σ := fun μ H s S E => by
  subst hn
  obtain ⟨v, h1, h2⟩ := K.gl x p hv
  exact name_gl K S E h1 hk hd (Post.now S (R := RR s.heap (.val p)) (h2 _ _) s.toks)
theorem te_two {a b : Sem Value} {p q : PV} {r : Res} {f : Value → Value → Sem Value} {μ H s} (S : Γ.St μ H σ s) (E : EnvR Γ env ρ μ H s.heap) (ha : TV Γ A env a ρ σ p σ₁) (hb : TV Γ A env b ρ σ₁ q σ₂)
    (hf : ∀ μ H s v w, Γ.St μ H σ₂ s → VR μ (gr s.heap H) v p → VR μ (gr s.heap H) w q → Does Γ A (f v w) μ H s (RR s.heap r) σ₃) :
    WP Γ A a (fun v s₁ => WP Γ A b (fun w s₂ => WP Γ A (f v w) (Post Γ μ H s.heap s.os (RR s.heap r) σ₃) s₂) s₁) s := by
  refine Does.use (ha μ H s S E) fun v s₁ μ₁ H₁ T₁ S₁ v₁ => ?_
  refine Does.use (hb μ₁ H₁ s₁ S₁ (E.tr T₁)) fun w s₂ μ₂ H₂ T₂ S₂ v₂ => ?_
  exact Does.after ((hf μ₂ H₂ s₂ v w S₂ (v₁.tr T₂) v₂).conseq fun _ _ _ _ y => y.back fun b e => T₁.fresh (T₂.fresh e)) (T₁.trans T₂)
theorem te_bin {op : Operator} {l r : Expr} {pos : Pos} {p q : PV} {rr : Res} (ha : TV Γ A env (eval l env) ρ σ p σ₁) (hb : TV Γ A env (eval r env) ρ σ₁ q σ₂)
    (hf : ∀ μ H s v w, Γ.St μ H σ₂ s → VR μ (gr s.heap H) v p → VR μ (gr s.heap H) w q → Does Γ A (binaryOp op v w) μ H s (RR s.heap rr) σ₂) :
    TE Γ A env (eval (.BinOp l op r pos) env) ρ σ rr σ₂ := fun _ _ _ S E => wpAny_BinOp (te_two S E ha hb hf)
end
end Mine
end
section
namespace Mine
open PySem PySem.W PySem.Calls PyProof.Rows
section
variable {Γ : Cx} {A : Around} {env : Env} {ρ : En} {σ σ₁ σ₂ σ₃ : Hp} {μ : List Addr} {H : Addr → Prop} {s : Shared}
theorem post_int (S : Γ.St μ H σ s) {i j : Int} (e : i = j) (h₀ : Heap) (t k : Nat) : Post Γ μ H s.heap s.os (RR h₀ (.val (.d (.int j)))) σ (.int i t) { s with toks := k } := by
  subst e; exact Post.now S (R := RR h₀ (.val (.d (.int i)))) (vr_int i t _) k
theorem d_arith {op : Operator} {i j k : Int} {t u : Tok} {h₀ : Heap} (S : Γ.St μ H σ s) (e : arith op i j = some k) : Does Γ A (binaryOp op (.int i t) (.int j u)) μ H s (RR s.heap (.val (.d (.int k)))) σ := by
  cases op with
  | Add => cases e; exact P.add_int (post_int S rfl _ _ _)
  | Sub => cases e; exact P.sub_int (post_int S rfl _ _ _)
  | Mult =>
    obtain ⟨h, e⟩ := gd_val e
    exact P.mul_int (post_int S e _ _ _) (IntMulOk.of_left (intBits_le_iff.mpr (Nat.lt_trans h (by decide))))
  | FloorDiv =>
    obtain ⟨h, e⟩ := gd_val e
    exact floordiv_int (Int.ne_of_gt h.1) (post_int S ((Int.fdiv_eq_ediv_of_nonneg _ (Int.le_of_lt h.1)).trans e) _ _ _) (Or.inl (PyProof.noPylong_small (by (first | lia | omega))))
  | Mod =>
    obtain ⟨h, e⟩ := gd_val e
    exact mod_int' (Int.ne_of_gt h.1) (post_int S ((Int.fmod_eq_emod_of_nonneg _ (Int.le_of_lt h.1)).trans e) _ _ _)
  | RShift =>
    obtain ⟨h, e⟩ := gd_val e
    exact rshift_int h.1 (post_int S ((Int.fdiv_eq_ediv_of_nonneg _ (Int.le_of_lt (Int.pow_pos (by decide)))).trans e) _ _ _)
  | LShift =>
    obtain ⟨h, e⟩ := gd_val e
    exact lshift_int_small h.1 (by (first | lia | omega)) (by (first | lia | omega)) (post_int S e _ _ _)
  | BitAnd =>
    rcases or_some e with e | e
    · obtain ⟨h, e⟩ := gd_val e
      exact and_int (post_int S (Eq.trans (by simp [Builtin.bitAnd, h.1, h.2]) e) _ _ _)
    · obtain ⟨h, e⟩ := gd_val e
      exact and_int (post_int S (by rw [h]; exact (bitAnd_m1 i).trans e) _ _ _)
  | BitXor =>
    obtain ⟨h, e⟩ := gd_val e
    exact xor_int (post_int S (Eq.trans (by rw [bitXor_and]; simp [Builtin.bitAnd, h.1, h.2]) e) _ _ _)
  | _ => exact (ns e).elim
theorem post_grow {α : Type} {R : α → List Addr → (Addr → Prop) → Heap → Prop} {v : α} {s' : Shared} {H' : Addr → Prop} (S : Γ.St μ H σ s) (hk : ∀ b o, s.heap.get? b = some o → s'.heap.get? b = some o)
    (hH : ∀ b o, s.heap.get? b = some o → (H' b ↔ H b)) (hg : s'.gens = s.gens) (ho : s'.os = s.os)
    (r : (∀ b o, (gr s.heap H).get? b = some o → (gr s'.heap H').get? b = some o) → R v μ H' s'.heap) : Post Γ μ H s.heap s.os R σ v s' :=
  have z := S.grow (H' := H') hk hH hg ho
  ⟨μ, H', z.2, z.1, r z.2.gr⟩
theorem St.fresh_out (S : Γ.St μ H σ s) {a : Addr} (hf : s.heap.get? a = none) : a ∉ μ := fun h => by
  obtain ⟨o, e⟩ := S.there a h; rw [hf] at e; cases e
theorem post_fresh {a : Addr} {vs : Array Value} {n : Nat} {xs : List PV} {s' : Shared} (S : Γ.St μ H σ s) (hf : s.heap.get? a = none) (hk : ∀ b o, s.heap.get? b = some o → s'.heap.get? b = some o)
    (ha : s'.heap.get? a = some { cls := .type "list", data := .seq vs n }) (hv : VRs μ (gr s.heap H) vs.toList xs) (hg : s'.gens = s.gens := by rfl) (ho : s'.os = s.os := by rfl) :
    Post Γ μ H s.heap s.os (RR s.heap (.fresh xs)) σ (.ref a) s' :=
  post_grow S (H' := fun b => H b ∨ b = a) hk (fun b o e => by
    have : b ≠ a := fun q => by rw [q, hf] at e; cases e
    simp [this]) hg ho fun hm => ⟨a, vs, n, rfl, hf, S.fresh_out hf, .inr rfl, ha, hv.mono ⟨[], by simp⟩ hm⟩
theorem size_none (h : Heap) : h.get? h.objs.size = none := by
  cases q : h.get? h.objs.size with
  | none => rfl
  | some o => exact absurd (Heap.lt_size q) (Nat.lt_irrefl _)
inductive RdSeq (T : String) (g : Heap) (v : Value) (xs : List PyData) : Prop
  | mk (a : Addr) (o : Obj) (vs : Array Value) (n : Nat) (bs : List Addr) (e : v = .ref a) (h1 : g.get? a = some o) (h2 : o.cls = .type T) (h3 : o.data = .seq vs n) (h4 : ReadsAll g vs.toList xs bs)
theorem reads_list {g : Heap} {v : Value} {xs : List PyData} {as : List Addr} (r : Reads g v (.list xs) as) : RdSeq "list" g v xs := by
  cases r with | list h1 h2 h3 h4 => exact ⟨_, _, _, _, _, rfl, h1, h2, h3, h4⟩
theorem reads_tuple {g : Heap} {v : Value} {xs : List PyData} {as : List Addr} (r : Reads g v (.tuple xs) as) : RdSeq "tuple" g v xs := by
  cases r with | tuple h1 h2 h3 h4 => exact ⟨_, _, _, _, _, rfl, h1, h2, h3, h4⟩
theorem readsAll_vrs {g : Heap} {vs : List Value} {xs : List PyData} {as : List Addr} (h : ReadsAll g vs xs as) : VRs μ g vs (xs.map .d) := by
  induction xs generalizing vs as with
  | nil => cases h; exact .nil
  | cons x xs ih => cases h with
    | cons r rs => exact .cons (.d r) (ih rs)
theorem vrs_append {g : Heap} {vs ws : List Value} {xs ys : List PV} (a : VRs μ g vs xs) (b : VRs μ g ws ys) : VRs μ g (vs ++ ws) (xs ++ ys) := by
  induction a with
  | nil => exact b
  | cons h _ ih => exact .cons h ih
theorem vrs_len {g : Heap} {vs : List Value} {xs : List PV} (a : VRs μ g vs xs) : vs.length = xs.length := by
  induction a with
  | nil => rfl
  | cons _ _ ih => simp [ih]
theorem vrs_get {g : Heap} {vs : List Value} {xs : List PV} (a : VRs μ g vs xs) {i : Nat} {p : PV} (h : xs[i]? = some p) : ∃ v, vs[i]? = some v ∧ VR μ g v p := by
  induction a generalizing i with
  | nil => simp at h
  | cons r _ ih =>
    cases i with
    | zero => simp at h; subst h; exact ⟨_, rfl, r⟩
    | succ i => exact ih (by simpa using h)
theorem vrs_none {g : Heap} {vs : List Value} {xs : List PV} (a : VRs μ g vs xs) {i : Nat} (h : xs[i]? = none) : vs[i]? = none := by
  have := vrs_len a
  rw [List.getElem?_eq_none_iff] at h ⊢
  (first | lia | omega)
theorem vrs_drop {g : Heap} {vs : List Value} {xs : List PV} (a : VRs μ g vs xs) (n : Nat) : VRs μ g (vs.drop n) (xs.drop n) := by
  induction a generalizing n with
  | nil => simpa using VRs.nil
  | cons h r ih =>
    cases n with
    | zero => exact .cons h r
    | succ n => exact ih n
theorem vrs_take {g : Heap} {vs : List Value} {xs : List PV} (a : VRs μ g vs xs) (n : Nat) : VRs μ g (vs.take n) (xs.take n) := by
  induction a generalizing n with
  | nil => simpa using VRs.nil
  | cons h r ih =>
    cases n with
    | zero => exact .nil
    | succ n => exact .cons h (ih n)
theorem vrs_set {g : Heap} {vs : List Value} {xs : List PV} (a : VRs μ g vs xs) (n : Nat) {v : Value} {p : PV} (h : VR μ g v p) : VRs μ g (vs.set n v) (xs.set n p) := by
  induction a generalizing n with
  | nil => exact .nil
  | cons q r ih =>
    cases n with
    | zero => exact .cons h r
    | succ n => exact .cons q (ih n)
theorem vrs_one {g : Heap} {vs : List Value} {p : PV} (h : VRs μ g vs [p]) : ∃ v, vs = [v] ∧ VR μ g v p := by
  cases h with
  | cons a b => cases b; exact ⟨_, rfl, a⟩
theorem vrs_two {g : Heap} {vs : List Value} {p q : PV} (h : VRs μ g vs [p, q]) : ∃ v w, vs = [v, w] ∧ VR μ g v p ∧ VR μ g w q := by
  cases h with
  | cons a b => obtain ⟨w, rfl, hw⟩ := vrs_one b; exact ⟨_, w, rfl, a, hw⟩
theorem d_binop {op : Operator} {v v' : Value} {p q : PV} {r : Res} (S : Γ.St μ H σ s) (hv : VR μ (gr s.heap H) v p) (hw : VR μ (gr s.heap H) v' q) (e : binop op p q = some r) :
    Does Γ A (binaryOp op v v') μ H s (RR s.heap r) σ := by
  rcases or_some e with e1 | e1
  · obtain ⟨i, hp, e2⟩ := bn_some e1
    obtain ⟨j, hq, e3⟩ := bn_some e2
    obtain ⟨k, hk, e4⟩ := mp_some e3
    rw [intP_some hp] at hv
    rw [intP_some hq] at hw
    obtain ⟨t, ev⟩ := v_int hv
    obtain ⟨u, ew⟩ := v_int hw
    subst e4 ev ew
    exact d_arith (h₀ := s.heap) S hk
  · obtain ⟨xs, hp, e2⟩ := bn_some e1
    obtain ⟨ys, hq, e3⟩ := bn_some e2
    obtain ⟨⟨ho, hlen⟩, e4⟩ := gd_val e3
    rw [lstD_some hp] at hv
    rw [lstD_some hq] at hw
    obtain ⟨as, ra⟩ := v_d hv
    obtain ⟨bs, rb⟩ := v_d hw
    obtain ⟨a, ⟨c1, d1, t1, s1⟩, vs, n, _, ev, h1, h2, h3, h4⟩ := reads_list ra
    obtain ⟨b, ⟨c2, d2, t2, s2⟩, ws, m, _, ew, k1, k2, k3, k4⟩ := reads_list rb
    dsimp only at h2 h3 k2 k3
    clear e e1 e2 e3 hp hq
    subst ho e4 ev ew h2 h3 k2 k3
    have g1 := (only_get.mp h1).1
    have g2 := (only_get.mp k1).1
    have l1 : vs.size = _ := vrs_len (readsAll_vrs (μ := μ) h4)
    have l2 : ws.size = _ := vrs_len (readsAll_vrs (μ := μ) k4)
    rw [List.length_map] at l1 l2
    have hz : vs.size + ws.size ≤ sizeLine := by rw [l1, l2]; exact Nat.le_trans (Nat.le_of_lt hlen) (by decide)
    refine concat_meets ⟨_, g1, rfl⟩ ⟨_, g2, rfl⟩ noFill_list_add seq_list_add F.slot_list_add F.entry_list_add (F.args_list_add_2 _ _) (list_addW a b vs ws n m d1 d2 s1 s2 hz) ⟨g1, g2, ?_⟩
    exact post_fresh (n := 0) S (size_none _) (fun b o e => Heap.get?_push_of_some _ e) (Heap.get?_push_size _ rfl) (by rw [List.map_append, Array.toList_append]; exact vrs_append (readsAll_vrs h4) (readsAll_vrs k4))
end
end Mine
end
section
namespace Mine
open PySem PySem.W PySem.Calls PyProof.Rows
theorem ltL_iff : ∀ a b : List Nat, ltL a b = decide (a < b)
  | [], [] => by show false = _; simp
  | [], _ :: _ => by show true = _; simp
  | _ :: _, [] => by show false = _; simp
  | a :: r, b :: t => by
    rw [ltL_c]
    by_cases h : a = b
    · subst h
      rw [if_pos rfl, ltL_iff r t]
      simp [List.cons_lt_cons_iff]
    · rw [if_neg h]
      simp [List.cons_lt_cons_iff, h]
section
variable {Γ : Cx} {A : Around} {env : Env} {ρ : En} {σ σ₁ σ₂ σ₃ : Hp} {μ : List Addr} {H : Addr → Prop} {s : Shared}
noncomputable abbrev RB (b : Bool) : Bool → List Addr → (Addr → Prop) → Heap → Prop := fun c _ _ _ => c = b
noncomputable abbrev RVB (b : Bool) : Value → List Addr → (Addr → Prop) → Heap → Prop := fun v _ _ _ => v = .bool b
theorem d_truth {v : Value} {p : PV} {b : Bool} (S : Γ.St μ H σ s) (hv : VR μ (gr s.heap H) v p) (e : truth σ p = some b) : Does Γ A (truthy v) μ H s (RB b) σ := by
  cases p with
  | d x =>
    cases x with
    | none => cases e; rw [v_none hv]; exact wpAny_of_eq (a := false) (by with_unfolding_all rfl) (Post.now S rfl s.toks)
    | bool c => cases e; rw [v_bool hv]; exact wpAny_truthy_bool (Post.now S rfl s.toks)
    | int i =>
      cases e
      obtain ⟨t, ev⟩ := v_int hv
      rw [ev]
      exact P.truthy_int (Post.now S (by show (i != 0) = decide (i ≠ 0); by_cases h : i = 0 <;> simp [h]) s.toks)
    | str x =>
      have e : gd (x.cps.size < 1000) (some (decide (x.cps.size ≠ 0))) = some b := e
      obtain ⟨h, e⟩ := gd_val e
      obtain ⟨t, ev⟩ := v_str hv
      rw [ev, ← e]
      refine P.truthy_str (by show ¬ ((x.cps.size : Nat) : Int) ≥ 2 ^ 63; (first | lia | omega)) (Post.now S (R := RB _) ?_ _)
      show (((x.cps.size : Nat) : Int) != 0) = decide (x.cps.size ≠ 0)
      cases x.cps.size <;> rfl
    | _ => exact (ns e).elim
  | _ => exact (ns e).elim
theorem view_reads {v : Value} {p : PV} {x : PyData} (S : Γ.St μ H σ s) (hv : VR μ (gr s.heap H) v p) (e : view σ p = some x) : ∃ as, Reads s.heap v x as := by
  rcases or_some e with e | e
  · rw [datP_some e] at hv
    obtain ⟨as, r⟩ := v_d hv
    exact ⟨as, Reads.up r⟩
  · obtain ⟨l, hp, e⟩ := bn_some e
    obtain ⟨xs, hl, e⟩ := bn_some e
    obtain ⟨ds, hd, e⟩ := mp_some e
    rw [locP_some hp] at hv
    obtain ⟨a, ha, ev⟩ := v_loc hv
    obtain ⟨vs, n, ho, hvs⟩ := S.objs l a _ ha (lstAt_some hl)
    obtain ⟨as, r⟩ := dats_reads hvs hd
    subst e ev
    exact ⟨_, Reads.list ho rfl rfl (ReadsAll.up r)⟩
theorem room_eq {n : Nat} (h : Room n A) : A.units + 64 < cLine := by have := h.units; have e : cLine = 9900 := rfl; (first | lia | omega)
theorem post_bool {v : Value} {b c : Bool} (S : Γ.St μ H σ s) (e : c = b) (k : Nat) : Post Γ μ H s.heap s.os (RVB b) σ (.bool c) { s with toks := k } := by
  subst e; exact Post.now S rfl k
theorem d_eqD {v v' : Value} {p q : PV} {b : Bool} {x y : List (Str × PV)} {n : Nat} (R : Room n A) (S : Γ.St μ H σ s) (hv : VR μ (gr s.heap H) v p) (hw : VR μ (gr s.heap H) v' q) (hx : dctOf σ p = some x) (hy : dctOf σ q = some y) (e : eqDct2 σ x y = some b) :
    Does Γ A (compareOp .Eq v v') μ H s (RVB b) σ := nomatch e
theorem eqF_some {v v' : Value} {p q : PV} {b : Bool} (S : Γ.St μ H σ s) (hv : VR μ (gr s.heap H) v p) (hw : VR μ (gr s.heap H) v' q) (e : eqF σ p q = some b) : ∃ x y as bs, Reads s.heap v x as ∧ Reads s.heap v' y bs ∧ SeqAt.shaped x = true ∧ SeqAt.shaped y = true ∧ PyData.eqv x y = b := by
  obtain ⟨x, hx, e⟩ := bn_some e
  obtain ⟨y, hy, e⟩ := bn_some e
  obtain ⟨hs, e⟩ := gd_val e
  obtain ⟨as, r1⟩ := view_reads S hv hx
  obtain ⟨bs, r2⟩ := view_reads S hw hy
  exact ⟨x, y, as, bs, r1, r2, (Bool.and_eq_true_iff.mp hs).1, (Bool.and_eq_true_iff.mp hs).2, e⟩
theorem d_lt {v v' : Value} {p q : PV} {b : Bool} (S : Γ.St μ H σ s) (hv : VR μ (gr s.heap H) v p) (hw : VR μ (gr s.heap H) v' q) (e : ltF p q = some b) : Does Γ A (compareOp .Lt v v') μ H s (RVB b) σ ∧ Does Γ A (compareOp .Gt v' v) μ H s (RVB b) σ := by
  rcases or_some e with e | e
  · obtain ⟨i, hp, e⟩ := bn_some e
    obtain ⟨j, hq, e⟩ := mp_some e
    rw [intP_some hp] at hv
    rw [intP_some hq] at hw
    obtain ⟨t, ev⟩ := v_int hv
    obtain ⟨u, ew⟩ := v_int hw
    subst ev ew
    exact ⟨P.lt_int (post_bool (v := .none) S e s.toks), P.gt_int (post_bool (v := .none) S e s.toks)⟩
  · obtain ⟨i, hp, e⟩ := bn_some e
    obtain ⟨j, hq, e⟩ := mp_some e
    rw [txtP_some hp] at hv
    rw [txtP_some hq] at hw
    obtain ⟨t, ev⟩ := v_str hv
    obtain ⟨u, ew⟩ := v_str hw
    subst ev ew
    rw [ltL_iff] at e
    exact ⟨P.lt_str (post_bool (v := .none) S e s.toks), P.gt_str (post_bool (v := .none) S e s.toks)⟩
theorem d_le {v v' : Value} {p q : PV} {b : Bool} (S : Γ.St μ H σ s) (hv : VR μ (gr s.heap H) v p) (hw : VR μ (gr s.heap H) v' q) (e : leF p q = some b) : Does Γ A (compareOp .LtE v v') μ H s (RVB b) σ ∧ Does Γ A (compareOp .GtE v' v) μ H s (RVB b) σ := by
  obtain ⟨i, hp, e⟩ := bn_some e
  obtain ⟨j, hq, e⟩ := mp_some e
  rw [intP_some hp] at hv
  rw [intP_some hq] at hw
  obtain ⟨t, ev⟩ := v_int hv
  obtain ⟨u, ew⟩ := v_int hw
  subst ev ew
  exact ⟨P.le_int (post_bool (v := .none) S e s.toks), P.ge_int (post_bool (v := .none) S e s.toks)⟩
theorem d_is {v v' : Value} {p q : PV} {b : Bool} (S : Γ.St μ H σ s) (hv : VR μ (gr s.heap H) v p) (hw : VR μ (gr s.heap H) v' q) (e : isF p q = some b) : Does Γ A (compareOp .Is v v') μ H s (RVB b) σ ∧ Does Γ A (compareOp .IsNot v v') μ H s (RVB (!b)) σ := by
  have fin : ∀ c d : Bool, c = d → Post Γ μ H s.heap s.os (RVB d) σ (.bool c) s := fun c d h => post_bool (v := .none) S h s.toks
  have none : v' = .none → (v == Value.none) = b → Does Γ A (compareOp .Is v v') μ H s (RVB b) σ ∧ Does Γ A (compareOp .IsNot v v') μ H s (RVB (!b)) σ := fun h1 h2 => by
    subst h1
    exact ⟨is_none_gen (fin _ _ h2), isnot_none_gen (fin _ _ (congrArg not h2))⟩
  rcases or_some e with e | e
  · obtain ⟨a, hp, e⟩ := bn_some e
    obtain ⟨c, hq, e⟩ := mp_some e
    rw [tyP_some hp] at hv
    rw [tyP_some hq] at hw
    rw [v_ty hv, v_ty hw]
    have h2 : (Value.type a == Value.type c) = decide (a = c) := by by_cases h : a = c <;> simp [h]
    exact ⟨wpAny_is_plain rfl (fin _ _ (h2.trans e)), wpAny_isNot_plain rfl (fin _ _ (congrArg not (h2.trans e)))⟩
  · obtain ⟨hq, hp⟩ := gd_some e
    have key : ∀ {v : Value} {p : PV} {b : Bool}, VR μ (gr s.heap H) v p → nonQ p = some b → (v == Value.none) = b := fun {v p b} hv hp => by
      cases hv with
      | d r => cases r <;> cases hp <;> rfl
      | loc _ => cases hp; rfl
      | _ => cases hp
    exact none (eq_of_beq (key hw hq)) (key hv hp)
theorem d_in {v v' : Value} {p q : PV} {b : Bool} {n : Nat} (R : Room n A) (S : Γ.St μ H σ s) (hv : VR μ (gr s.heap H) v p) (hw : VR μ (gr s.heap H) v' q) (e : inF σ p q = some b) : Does Γ A (compareOp .In v v') μ H s (RVB b) σ ∧ Does Γ A (compareOp .NotIn v v') μ H s (RVB (!b)) σ := by
  obtain ⟨x, hp, e⟩ := bn_some e
  obtain ⟨d, hy, e⟩ := bn_some e
  obtain ⟨ys, hd, e⟩ := bn_some e
  obtain ⟨hs, e⟩ := gd_val e
  rw [datP_some hp] at hv
  rw [lstOf_some hd] at hy
  obtain ⟨hs1, hs2⟩ := Bool.and_eq_true_iff.mp hs
  obtain ⟨as, r1⟩ := view_reads S hw hy
  obtain ⟨bs, r2⟩ := v_d hv
  have c1 := SeqAt.canLay_of_shaped hs2
  have c2 := SeqAt.canLay_of_shaped hs1
  have d2 := SeqAt.depth_of_shaped hs1
  have hu : A.units + 1 + min (PyData.depthAll ys) x.depth < cLine := by have := R.units; have e : cLine = 9900 := rfl; (first | lia | omega)
  exact ⟨SeqAt.in_list_reads r1 (Reads.up r2) (by simpa [PyData.canLay0] using c1) c2 hu (post_bool (v := .none) S e s.toks), SeqAt.notIn_list_reads r1 (Reads.up r2) (by simpa [PyData.canLay0] using c1) c2 hu (post_bool (v := .none) S (congrArg not e) s.toks)⟩
theorem d_cmp {op : CmpOp} {v v' : Value} {p q : PV} {b : Bool} {n : Nat} (R : Room n A) (S : Γ.St μ H σ s) (hv : VR μ (gr s.heap H) v p) (hw : VR μ (gr s.heap H) v' q) (e : cmpop σ op p q = some b) :
    Does Γ A (compareOp op v v') μ H s (RVB b) σ := by
  have fin : ∀ c : Bool, c = b → Post Γ μ H s.heap s.os (RVB b) σ (.bool c) s := fun c h => post_bool (v := .none) S h s.toks
  cases op with
  | Eq =>
    rcases or_some e with e | e
    · obtain ⟨x, hx, e⟩ := bn_some e
      obtain ⟨y, hy, e⟩ := bn_some e
      exact d_eqD R S hv hw hx hy e
    · obtain ⟨x, y, as, bs, r1, r2, h1, h2, e⟩ := eqF_some S hv hw e
      exact SeqAt.compareEq_shaped r1 r2 h1 h2 (room_eq R) (fin _ e)
  | NotEq =>
    obtain ⟨c, e, ec⟩ := mp_some e
    obtain ⟨x, y, as, bs, r1, r2, h1, h2, e⟩ := eqF_some S hv hw e
    exact SeqAt.compareNe_shaped r1 r2 h1 h2 (room_eq R) (fin _ ((congrArg not e).trans ec))
  | Lt => exact (d_lt S hv hw e).1
  | Gt => exact (d_lt S hw hv e).2
  | LtE => exact (d_le S hv hw e).1
  | GtE => exact (d_le S hw hv e).2
  | Is => exact (d_is S hv hw e).1
  | IsNot =>
    obtain ⟨c, e2, ec⟩ := mp_some e
    exact ec ▸ (d_is S hv hw e2).2
  | In => exact (d_in R S hv hw e).1
  | NotIn =>
    obtain ⟨c, e2, ec⟩ := mp_some e
    exact ec ▸ (d_in R S hv hw e2).2
end
end Mine
end
section
namespace Mine
open PySem PySem.W PySem.Calls PyProof.Rows
section
variable {Γ : Cx} {A : Around} {env : Env} {ρ : En} {σ σ₁ σ₂ σ₃ : Hp} {μ : List Addr} {H : Addr → Prop} {s : Shared}
noncomputable def TT (Γ : Cx) (A : Around) (env : Env) (t : Sem Bool) (ρ : En) (σ : Hp) (b : Bool) (σ' : Hp) : Prop :=
  ∀ μ H s, Γ.St μ H σ s → EnvR Γ env ρ μ H s.heap → Does Γ A t μ H s (RB b) σ'
theorem Does.bind {α β : Type} {t : Sem α} {f : α → Sem β} {R : α → List Addr → (Addr → Prop) → Heap → Prop} {R' : β → List Addr → (Addr → Prop) → Heap → Prop} (x : Does Γ A t μ H s R σ₁)
    (k : ∀ v μ₁ H₁ s₁, Tr μ H s.heap s.os μ₁ H₁ s₁.heap s₁.os → Γ.St μ₁ H₁ σ₁ s₁ → R v μ₁ H₁ s₁.heap → Does Γ A (f v) μ₁ H₁ s₁ R' σ₂) : Does Γ A (t >>= f) μ H s R' σ₂ :=
  wpAny_bind (Does.use x fun v s₁ μ₁ H₁ T₁ S₁ r => (k v μ₁ H₁ s₁ T₁ S₁ r).after T₁)
theorem TT.if {α : Type} {t : Sem Bool} {b : Bool} {x y : Sem α} {R : α → List Addr → (Addr → Prop) → Heap → Prop} (S : Γ.St μ H σ s) (E : EnvR Γ env ρ μ H s.heap) (h : TT Γ A env t ρ σ b σ₁)
    (k : ∀ μ₁ H₁ s₁, Tr μ H s.heap s.os μ₁ H₁ s₁.heap s₁.os → Γ.St μ₁ H₁ σ₁ s₁ → Does Γ A (if b then x else y) μ₁ H₁ s₁ R σ₂) :
    WP Γ A t (fun c s₁ => if c then WP Γ A x (Post Γ μ H s.heap s.os R σ₂) s₁ else WP Γ A y (Post Γ μ H s.heap s.os R σ₂) s₁) s := by
  refine Does.is (h μ H s S E) fun s₁ μ₁ H₁ T₁ S₁ => ?_
  have := (k μ₁ H₁ s₁ T₁ S₁).after T₁
  cases b
  · exact this
  · exact this
theorem tt_val {e : Expr} {p : PV} {b : Bool} (he : isTrue e env (eval e env) = (do let v ← eval e env; standAt e.pos; holding [v] (truthy v))) (h : TV Γ A env (eval e env) ρ σ p σ₁) (hb : truth σ₁ p = some b) :
    TT Γ A env (isTrue e env (eval e env)) ρ σ b σ₁ := fun μ H s S E => by
  rw [he]
  exact Does.bind (h μ H s S E) fun v μ₁ H₁ s₁ _ S₁ r => wpAny_bind (wpAny_standAt (wpAny_holding (d_truth S₁ r hb)))
theorem tt_not {x : Expr} {pos : Pos} {whole : Sem Value} {b : Bool} (h : TT Γ A env (isTrue x env (eval x env)) ρ σ b σ₁) : TT Γ A env (isTrue (.UnaryOp .Not x pos) env whole) ρ σ (!b) σ₁ := fun μ H s S E =>
  wpAny_isTrue_Not (Does.use (h μ H s S E) fun c s₁ μ₁ H₁ T₁ S₁ r => ⟨μ₁, H₁, T₁, S₁, by show (!c) = !b; rw [show c = b from r]⟩)
theorem tt_cmp {op : CmpOp} {l r : Expr} {pos : Pos} {whole : Sem Value} {p q : PV} {b : Bool} {n : Nat} (R : Room n A) (hm : behindInMarks op r = false) (hl : TV Γ A env (eval l env) ρ σ p σ₁) (hr : TV Γ A env (eval r env) ρ σ₁ q σ₂)
    (hb : cmpop σ₂ op p q = some b) : TT Γ A env (isTrue (.Compare l [op] [r] pos) env whole) ρ σ b σ₂ := fun μ H s S E => by
  refine wpAny_isTrue_Compare1 ?_ hm
  refine Does.use (hl μ H s S E) fun v s₁ μ₁ H₁ T₁ S₁ v₁ => ?_
  refine Does.use (hr μ₁ H₁ s₁ S₁ (E.tr T₁)) fun w s₂ μ₂ H₂ T₂ S₂ v₂ => ?_
  refine Does.is (d_cmp R S₂ (v₁.tr T₂) v₂ hb) fun s₃ μ₃ H₃ T₃ S₃ => ?_
  exact wpAny_truthy_bool ⟨μ₃, H₃, (T₁.trans T₂).trans T₃, S₃, rfl⟩
noncomputable def TA (Γ : Cx) (A : Around) (env : Env) (op : BoolOp) (es : List Expr) (ρ : En) (σ : Hp) (b : Bool) (σ' : Hp) : Prop := TT Γ A env (allTrue op es env) ρ σ b σ'
theorem tt_bool {op : BoolOp} {es : List Expr} {pos : Pos} {whole : Sem Value} {b : Bool} (h : TA Γ A env op es ρ σ b σ₁) : TT Γ A env (isTrue (.BoolOp op es pos) env whole) ρ σ b σ₁ := fun μ H s S E =>
  wpAny_isTrue_BoolOp (h μ H s S E)
theorem ta_and1 {x : Expr} {b : Bool} (h : TT Γ A env (isTrue x env (eval x env)) ρ σ b σ₁) : TA Γ A env .And [x] ρ σ b σ₁ := fun μ H s S E => by
  refine wpAny_allTrue_And_cons (wpAny_mono (h μ H s S E) (fun c s₁ z => ?_) fun _ _ e => e)
  cases c
  · exact z
  · exact wpAny_allTrue_And_nil z
theorem ta_or1 {x : Expr} {b : Bool} (h : TT Γ A env (isTrue x env (eval x env)) ρ σ b σ₁) : TA Γ A env .Or [x] ρ σ b σ₁ := fun μ H s S E => by
  refine wpAny_allTrue_Or_cons (wpAny_mono (h μ H s S E) (fun c s₁ z => ?_) fun _ _ e => e)
  cases c
  · exact wpAny_allTrue_Or_nil z
  · exact z
theorem ta_andF {x : Expr} {rest : List Expr} (h : TT Γ A env (isTrue x env (eval x env)) ρ σ false σ₁) : TA Γ A env .And (x :: rest) ρ σ false σ₁ := fun μ H s S E => by
  refine wpAny_allTrue_And_cons (wpAny_mono (h μ H s S E) (fun c s₁ z => ?_) fun _ _ e => e)
  have hc : c = false := (match z with | ⟨_, _, _, _, r⟩ => r)
  subst hc; exact z
theorem ta_orT {x : Expr} {rest : List Expr} (h : TT Γ A env (isTrue x env (eval x env)) ρ σ true σ₁) : TA Γ A env .Or (x :: rest) ρ σ true σ₁ := fun μ H s S E => by
  refine wpAny_allTrue_Or_cons (wpAny_mono (h μ H s S E) (fun c s₁ z => ?_) fun _ _ e => e)
  have hc : c = true := (match z with | ⟨_, _, _, _, r⟩ => r)
  subst hc; exact z
theorem ta_andT {x : Expr} {rest : List Expr} {b : Bool} (h : TT Γ A env (isTrue x env (eval x env)) ρ σ true σ₁) (h2 : TA Γ A env .And rest ρ σ₁ b σ₂) : TA Γ A env .And (x :: rest) ρ σ b σ₂ := fun μ H s S E => by
  refine wpAny_allTrue_And_cons (Does.is (h μ H s S E) fun s₁ μ₁ H₁ T₁ S₁ => ?_)
  exact (h2 μ₁ H₁ s₁ S₁ (E.tr T₁)).after T₁
theorem ta_orF {x : Expr} {rest : List Expr} {b : Bool} (h : TT Γ A env (isTrue x env (eval x env)) ρ σ false σ₁) (h2 : TA Γ A env .Or rest ρ σ₁ b σ₂) : TA Γ A env .Or (x :: rest) ρ σ b σ₂ := fun μ H s S E => by
  refine wpAny_allTrue_Or_cons (Does.is (h μ H s S E) fun s₁ μ₁ H₁ T₁ S₁ => ?_)
  exact (h2 μ₁ H₁ s₁ S₁ (E.tr T₁)).after T₁
theorem te_cmp {op : CmpOp} {l r : Expr} {pos : Pos} {p q : PV} {b : Bool} {n : Nat} (R : Room n A) (hm : behindInMarks op r = false) (hl : TV Γ A env (eval l env) ρ σ p σ₁) (hr : TV Γ A env (eval r env) ρ σ₁ q σ₂)
    (hb : cmpop σ₂ op p q = some b) : TE Γ A env (eval (.Compare l [op] [r] pos) env) ρ σ (.val (.d (.bool b))) σ₂ := fun μ H s S E => by
  refine wpAny_Compare1 (te_two S E hl hr fun μ H s v w S' h1 h2 => ?_) hm
  exact (d_cmp R S' h1 h2 hb).conseq fun v μ' H' h' y => by rw [show v = .bool b from y]; exact vr_bool b _
theorem te_not {x : Expr} {pos : Pos} {p : PV} {b : Bool} (hx : TV Γ A env (eval x env) ρ σ p σ₁) (hb : truth σ₁ p = some b) : TE Γ A env (eval (.UnaryOp .Not x pos) env) ρ σ (.val (.d (.bool (!b)))) σ₁ := fun μ H s S E => by
  refine wpAny_UnaryOp (Does.use (hx μ H s S E) fun v s₁ μ₁ H₁ T₁ S₁ r => not_value ?_)
  refine Does.use (d_truth S₁ r hb) fun c s₂ μ₂ H₂ T₂ S₂ r₂ => ⟨μ₂, H₂, T₁.trans T₂, S₂, ?_⟩
  rw [show c = b from r₂]; exact vr_bool _ _
theorem te_usub {x : Expr} {pos : Pos} {i : Int} (hx : TV Γ A env (eval x env) ρ σ (.d (.int i)) σ₁) : TE Γ A env (eval (.UnaryOp .USub x pos) env) ρ σ (.val (.d (.int (-i)))) σ₁ := fun μ H s S E => by
  refine wpAny_UnaryOp (Does.use (hx μ H s S E) fun v s₁ μ₁ H₁ T₁ S₁ r => ?_)
  obtain ⟨t, rfl⟩ := v_int r
  exact P.neg_int ((Post.now S₁ (R := RR s.heap (.val (.d (.int (-i))))) (vr_int _ _ _) _).after T₁)
theorem te_orT {x y : Expr} {pos : Pos} {p : PV} (hx : TV Γ A env (eval x env) ρ σ p σ₁) (hb : truth σ₁ p = some true) : TE Γ A env (eval (.BoolOp .Or [x, y] pos) env) ρ σ (.val p) σ₁ := fun μ H s S E => by
  refine wpAny_Or2 (Does.use (hx μ H s S E) fun v s₁ μ₁ H₁ T₁ S₁ r => ?_)
  refine Does.is (d_truth S₁ r hb) fun s₂ μ₂ H₂ T₂ S₂ => ?_
  exact ⟨μ₂, H₂, T₁.trans T₂, S₂, r.tr T₂⟩
theorem te_orF {x y : Expr} {pos : Pos} {p q : PV} (hx : TV Γ A env (eval x env) ρ σ p σ₁) (hb : truth σ₁ p = some false) (hy : TV Γ A env (eval y env) ρ σ₁ q σ₂) : TE Γ A env (eval (.BoolOp .Or [x, y] pos) env) ρ σ (.val q) σ₂ := fun μ H s S E => by
  refine wpAny_Or2 (Does.use (hx μ H s S E) fun v s₁ μ₁ H₁ T₁ S₁ r => ?_)
  refine Does.is (d_truth S₁ r hb) fun s₂ μ₂ H₂ T₂ S₂ => ?_
  exact Does.after (hy μ₂ H₂ s₂ S₂ (E.tr (T₁.trans T₂))) (T₁.trans T₂)
theorem te_ite {c a b : Expr} {pos : Pos} {t : Bool} {p : PV} (hc : TT Γ A env (isTrue c env (eval c env)) ρ σ t σ₁) (h : TV Γ A env (if t then eval a env else eval b env) ρ σ₁ p σ₂) :
    TE Γ A env (eval (.IfExp c a b pos) env) ρ σ (.val p) σ₂ := fun μ H s S E =>
  wpAny_IfExp (TT.if (R := RR s.heap (.val p)) S E hc fun μ₁ H₁ s₁ T₁ S₁ => h μ₁ H₁ s₁ S₁ (E.tr T₁))
noncomputable abbrev RVs (ps : List PV) : List Value → List Addr → (Addr → Prop) → Heap → Prop := fun vs μ H h => VRs μ (gr h H) vs ps
noncomputable def TVs (Γ : Cx) (A : Around) (env : Env) (t : Sem (List Value)) (ρ : En) (σ : Hp) (ps : List PV) (σ' : Hp) : Prop :=
  ∀ μ H s, Γ.St μ H σ s → EnvR Γ env ρ μ H s.heap → Does Γ A t μ H s (RVs ps) σ'
theorem tvs_nil {pos : Pos} : TVs Γ A env (spliced (backTo pos (starEach [] env))) ρ σ [] σ := fun _ _ s S _ => wpAny_items_nil (Post.now S (R := RVs []) .nil s.toks)
theorem tvs_cons {pos : Pos} {e : Expr} {rest : List Expr} {p : PV} {ps : List PV} (hn : starEach (e :: rest) env = (false, eval e env) :: starEach rest env) (h : TV Γ A env (eval e env) ρ σ p σ₁)
    (hs : TVs Γ A env (spliced (backTo pos (starEach rest env))) ρ σ₁ ps σ₂) : TVs Γ A env (spliced (backTo pos (starEach (e :: rest) env))) ρ σ (p :: ps) σ₂ := fun μ H s S E => by
  refine wpAny_items_cons (Does.use (h μ H s S E) fun v s₁ μ₁ H₁ T₁ S₁ r => ?_) hn
  refine Does.use (hs μ₁ H₁ s₁ S₁ (E.tr T₁)) fun vs s₂ μ₂ H₂ T₂ S₂ rs => ?_
  exact ⟨μ₂, H₂, T₁.trans T₂, S₂, .cons (r.tr T₂) rs⟩
theorem small_size {vs : List Value} {ps : List PV} {g : Heap} (h : VRs μ g vs ps) (hl : ps.length < 1000) : vs.length ≤ sizeLine := by
  have := vrs_len h
  have e : sizeLine = 16777216 := rfl
  (first | lia | omega)
theorem te_lst {es : List Expr} {pos : Pos} {ps : List PV} (h : TVs Γ A env (spliced (backTo pos (starEach es env))) ρ σ ps σ₁) (hl : ps.length < 1000) : TE Γ A env (eval (.List es pos) env) ρ σ (.fresh ps) σ₁ := fun μ H s S E => by
  refine wpAny_List (Does.use (h μ H s S E) fun vs s₁ μ₁ H₁ T₁ S₁ r => ⟨small_size r hl, ?_⟩)
  refine Post.after T₁ ?_
  obtain ⟨μ', H', T', S', q⟩ := post_fresh (n := 0) (s' := { s₁ with heap := s₁.heap.push { cls := .type "list", data := .seq vs.toArray } }) S₁ (size_none _) (fun b o e => Heap.get?_push_of_some _ e) (Heap.get?_push_size _ rfl) (by simpa using r)
  exact ⟨μ', H', T', S', RR.back q fun b e => T₁.fresh e⟩
theorem te_tup {es : List Expr} {k : Nat} {pos : Pos} {ps : List PV} {ds : List PyData} (h : TVs Γ A env (spliced (backTo pos (starEach es env))) ρ σ ps σ₁) (hl : ps.length < 1000) (hd : dats ps = some ds) :
    TE Γ A env (eval (.Tuple es k pos) env) ρ σ (.val (.d (.tuple ds))) σ₁ := fun μ H s S E => by
  refine wpAny_Tuple (Does.use (h μ H s S E) fun vs s₁ μ₁ H₁ T₁ S₁ r => ⟨small_size r hl, ?_⟩)
  refine Post.after T₁ ?_
  obtain ⟨as, ra⟩ := dats_reads r hd
  refine post_grow (H' := fun b => H₁ b ∧ b ≠ s₁.heap.objs.size) S₁ (fun b o e => Heap.get?_push_of_some _ e) (fun b o e => ?_) rfl rfl fun hm => ?_
  · have : b ≠ s₁.heap.objs.size := Nat.ne_of_lt (Heap.lt_size e)
    simp [this]
  · exact .d (Reads.tuple (only_get.mpr ⟨Heap.get?_push_size _ rfl, fun q => q.2 rfl⟩) rfl rfl (ReadsAll.keeps hm (by simpa using ra)))
theorem te_tupL {es : List Expr} {k : Nat} {pos : Pos} {ps : List PV} (h : TVs Γ A env (spliced (backTo pos (starEach es env))) ρ σ ps σ₁) (hl : ps.length < 1000) :
    TE Γ A env (eval (.Tuple es k pos) env) ρ σ (.val (.loc σ₁.length)) (σ₁ ++ [.tup ps]) := fun μ H s S E => by
  refine wpAny_Tuple (Does.use (h μ H s S E) fun vs s₁ μ₁ H₁ T₁ S₁ r => ⟨small_size r hl, ?_⟩)
  refine Post.after T₁ ?_
  have z := S₁.new (s' := { s₁ with heap := s₁.heap.push { cls := .type "tuple", data := .seq vs.toArray } }) (a := s₁.heap.objs.size) (o' := .tup ps) (H' := fun b => H₁ b ∨ b = s₁.heap.objs.size) (size_none _) (fun b o e => Heap.get?_push_of_some _ e) ⟨_, Heap.get?_push_size _ rfl⟩
    (fun b o e => by
      have : b ≠ s₁.heap.objs.size := Nat.ne_of_lt (Heap.lt_size e)
      simp [this]) (.inr rfl) rfl rfl ⟨vs.toArray, 0, Heap.get?_push_size _ rfl, (by
        refine VRs.mono (by simpa using r) ⟨_, rfl⟩ fun b o e => ?_
        obtain ⟨e1, e2⟩ := only_get.mp e
        refine only_get.mpr ⟨Heap.get?_push_of_some _ e1, fun q => ?_⟩
        rcases q with q | q
        · exact e2 q
        · subst q; rw [size_none] at e1; cases e1)⟩
  refine ⟨_, _, z.2, z.1, ?_⟩
  refine VR.loc ?_
  rw [← S₁.len, List.getElem?_append_right (Nat.le_refl _)]
  simp
theorem te_edct {pos : Pos} : TE Γ A env (eval (.Dict [] [] pos) env) ρ σ (.val (.loc σ.length)) (σ ++ [.dct []]) := fun μ H s S E => by
  refine wpAny_Dict_empty ?_
  have z := S.new (s' := { s with heap := s.heap.push { cls := .type "dict", data := .dict #[] } }) (a := s.heap.objs.size) (o' := .dct []) (H' := fun b => H b ∨ b = s.heap.objs.size) (size_none _) (fun b o e => Heap.get?_push_of_some _ e) ⟨_, Heap.get?_push_size _ rfl⟩
    (fun b o e => by
      have : b ≠ s.heap.objs.size := Nat.ne_of_lt (Heap.lt_size e)
      simp [this]) (.inr rfl) rfl rfl ⟨#[], 0, Heap.get?_push_size _ rfl, .nil, by simp⟩
  refine ⟨_, _, z.2, z.1, ?_⟩
  refine VR.loc ?_
  rw [← S.len, List.getElem?_append_right (Nat.le_refl _)]
  simp
end
end Mine
end
section
namespace Mine
open PySem PySem.W PySem.Calls PyProof.Rows
theorem clampI_eq (n : Nat) (i : Int) : clampI n i = clipAt n i := by
  have h := clipAt_cast n i
  unfold clampI
  by_cases hi : 0 ≤ i
  · rw [if_pos hi]
    rw [if_neg (by (first | lia | omega))] at h
    (first | lia | omega)
  · rw [if_neg hi]
    rw [if_pos (by (first | lia | omega))] at h
    (first | lia | omega)
theorem cut_slicePick (items : Array Value) (a b : Option Int) : (slicePick items a b none).toList = cut items.toList a b := by
  rw [slicePick_plain]
  unfold cut
  cases a <;> cases b <;> simp [clampI_eq]
theorem cut_text (x : Str) (a b : Option Int) : ((Builtin.Str.strSliceIndices a b 1 x.length).filterMap (x.cps[·]?)) = cut x.cps.toList a b := by
  have e : Builtin.Str.strSliceIndices a b 1 x.length = sliceRange (sliceBounds a b none x.length).1 (sliceBounds a b none x.length).2.1 1 := by
    cases a <;> cases b <;> rfl
  rw [e, sliceBounds_plain, sliceRange_one, pick_run]
  unfold cut
  have hl : x.cps.toList.length = x.length := by simp [Str.length]
  cases a <;> cases b <;> simp [clampI_eq, Str.length]
theorem cut_all_text (x : Str) (a b : Option Int) (h : (Builtin.Str.strSliceIndices a b 1 x.length).length = x.length) : cut x.cps.toList a b = x.cps.toList := by
  rw [← cut_text]
  have e : Builtin.Str.strSliceIndices a b 1 x.length = sliceRange (sliceBounds a b none x.length).1 (sliceBounds a b none x.length).2.1 1 := by
    cases a <;> cases b <;> rfl
  rw [e, sliceBounds_plain, sliceRange_one] at h ⊢
  rw [pick_run]
  simp only [List.length_map, List.length_range] at h
  have hl : x.cps.toList.length = x.length := by simp [Str.length]
  have hb : (b.elim x.length (clipAt x.length)) ≤ x.length := by
    cases b with
    | none => exact Nat.le_refl _
    | some i => have := clipAt_cast x.length i; show clipAt x.length i ≤ _; (first | lia | omega)
  have ha : a.elim 0 (clipAt x.length) = 0 ∨ x.length = 0 := by (first | lia | omega)
  rcases ha with ha | ha
  · rw [ha] at h ⊢
    simp only [List.drop_zero, Nat.sub_zero] at h ⊢
    rw [h, ← hl, List.take_length]
  · have : x.cps.toList = [] := List.length_eq_zero_iff.mp (hl.trans ha)
    rw [this]; simp
theorem slice_is (x : Str) (a b : Option Int) : Txt.slice x a b = ⟨(cut x.cps.toList a b).toArray⟩ := by
  unfold Txt.slice
  split
  · rename_i h
    have h' : (Builtin.Str.strSliceIndices a b 1 x.length).length = x.length := by simpa using h
    rw [cut_all_text x a b h']
  · rw [cut_text]
theorem seqIdx_pos {i : Int} {n : Nat} (h0 : 0 ≤ i) (h1 : i < n) : seqIndex? i n = some i.toNat := by
  simp only [seqIndex?, if_neg (show ¬ i < 0 by (first | lia | omega))]
  simp [h0, h1]
theorem seqIdx_neg {i : Int} {n : Nat} (h0 : i < 0) (h1 : 0 ≤ i + n) : seqIndex? i n = some (i + n).toNat := by
  simp only [seqIndex?, if_pos h0]
  have : i + n < n := by (first | lia | omega)
  simp [h1, this]
section
variable {Γ : Cx} {A : Around} {env : Env} {ρ : En} {σ σ₁ σ₂ σ₃ : Hp} {μ : List Addr} {H : Addr → Prop} {s : Shared}
theorem findBy_ers {prog : Program} {w : World} {g : Heap} {es : List DictEntry} {kvs : List (Str × PV)} (h : ERs w μ g es kvs) {k : Str} {p : PV} (e : dget k kvs = some p) :
    ∃ v, (es.find? fun e => (PySem.strKind prog w).is k e.key).map (·.val) = some v ∧ VR μ g v p := by
  induction h with
  | nil => cases e
  | @cons k' t v q es ps hq _ ih =>
    rw [dget_c] at e
    by_cases hk : k' = k
    · subst hk
      rw [if_pos rfl] at e
      cases e
      exact ⟨v, by simp [List.find?_cons, PySem.strKind, Value.isStrOf], hq⟩
    · rw [if_neg hk] at e
      obtain ⟨v', h1, h2⟩ := ih e
      exact ⟨v', by simpa [List.find?_cons, PySem.strKind, Value.isStrOf, hk] using h1, h2⟩
theorem keys_ers {prog : Program} {w : World} {g : Heap} {es : List DictEntry} {kvs : List (Str × PV)} (h : ERs w μ g es kvs) : ∀ e ∈ es, ∃ k, (PySem.strKind prog w).is k e.key = true ∧ e.hash = (PySem.strKind prog w).hash k := by
  induction h with
  | nil => intro e he; cases he
  | @cons k' t v q es ps _ _ ih =>
    intro e he
    rcases List.mem_cons.mp he with rfl | he
    · exact ⟨k', by simp [PySem.strKind, Value.isStrOf], rfl⟩
    · exact ih e he
theorem mapOf_dct {w : World} {prog : Program} {g h : Heap} {a : Addr} {es : Array DictEntry} {n : Nat} {kvs : List (Str × PV)} (ho : h.get? a = some { cls := .type "dict", data := .dict es n }) (r : ERs w μ g es.toList kvs) :
    h.MapOf (PySem.strKind prog w) a (findBy (PySem.strKind prog w).is es) :=
  ⟨_, es, n, ho, ⟨rfl, rfl, rfl⟩, rfl, fun e he => keys_ers r e (by simpa using he), fun _ => rfl⟩
theorem findBy_list {prog : Program} {w : World} (es : Array DictEntry) (k : Str) : findBy (PySem.strKind prog w).is es k = (es.toList.find? fun e => (PySem.strKind prog w).is k e.key).map (·.val) := by
  unfold findBy
  rw [← Array.find?_toList]
theorem tl {α : Type} {p : PV} {σ' : Hp} {o : Option α} {f : α → PV} (h : (o.map fun v => (f v, σ)) = some (p, σ')) : ∃ v, o = some v ∧ f v = p ∧ σ = σ' := by
  obtain ⟨v, h1, h2⟩ := mp_some h
  cases h2
  exact ⟨v, h1, rfl, rfl⟩
theorem nth_some {α : Type} {xs : List α} {i : Int} {u : α} (h : nth xs i = some u) : (-1000 < i ∧ i < 1000) ∧ ∃ k, seqIndex? i xs.length = some k ∧ xs[k]? = some u ∧ ((0 ≤ i ∧ k = i.toNat) ∨ (i < 0 ∧ 0 ≤ i + xs.length ∧ k = (i + xs.length).toNat)) := by
  obtain ⟨k, h1, h2⟩ := bn_some h
  obtain ⟨hb, h3⟩ := gd_some h1
  have hlt := (List.getElem?_eq_some_iff.mp h2).1
  refine ⟨hb, k, ?_⟩
  by_cases h0 : 0 ≤ i
  · rw [gd_pos h0] at h3
    cases h3
    exact ⟨seqIdx_pos h0 (by (first | lia | omega)), h2, .inl ⟨h0, rfl⟩⟩
  · have : gd (0 ≤ i) (some i.toNat) = none := if_neg h0
    rw [this] at h3
    obtain ⟨h4, h5⟩ := gd_val h3
    exact ⟨h5 ▸ seqIdx_neg (Int.not_le.mp h0) h4, h2, .inr ⟨Int.not_le.mp h0, h4, h5.symm⟩⟩
theorem getItem_lst {a : Addr} {vs : Array Value} {g : Heap} {xs : List PV} {i : Int} {t : Tok} {u : PV} {Q : Value → Shared → Prop} (hl : s.heap.IsList a vs) (hr : VRs μ g vs.toList xs) (h : nth xs i = some u)
    (k : ∀ x, VR μ g x u → Q x s) : WP Γ A (getItem (.ref a) (.int i t)) Q s := by
  obtain ⟨hb, j, _, h2, h3⟩ := nth_some h
  obtain ⟨x, h4, h5⟩ := vrs_get hr h2
  have h4 : vs[j]? = some x := by rw [← h4, Array.getElem?_toList]
  have hz : vs.size = xs.length := vrs_len hr
  rcases h3 with ⟨h0, rfl⟩ | ⟨h0, h1, rfl⟩
  · exact wpAny_getItem_list hl h0 (by (first | lia | omega)) h4 (k x h5)
  · exact wpAny_getItem_list_neg hl h0 (by (first | lia | omega)) (by (first | lia | omega)) (by rw [hz]; exact h4) (k x h5)
theorem d_index {v v' : Value} {I : Info} {O : Orc} {p q r : PV} {σ' : Hp} {value slice : Expr} (S : Γ.St μ H σ s) (hv : VR μ (gr s.heap H) v p) (hw : VR μ (gr s.heap H) v' q) (e : index I O p q σ = some (r, σ'))
    (hs : subscripted slice false v v' = operate [v, v'] (getItem v v'))
    (hF : ∀ l f, p = .loc l → methOf I σ l I.nGet = some f → O f [p, q] σ = some (r, σ') → Does Γ A (subscriptTail value slice v v') μ H s (RV r) σ') :
    Does Γ A (subscriptTail value slice v v') μ H s (RV r) σ' := by
  rcases or_some e with e1 | e1
  · obtain ⟨l, hp, e2⟩ := bn_some e1
    have hp := locP_some hp
    rw [hp] at hv
    obtain ⟨a, ha, ev⟩ := v_loc hv
    rcases or_some e2 with e3 | e3
    · obtain ⟨kvs, hl, e4⟩ := bn_some e3
      obtain ⟨k, hq, e5⟩ := bn_some e4
      obtain ⟨u, hd, e6, e7⟩ := tl e5
      rw [txtP_some hq] at hw
      obtain ⟨t, ew⟩ := v_str hw
      obtain ⟨es, n, ho, hr, _⟩ := S.objs l a _ ha (dctAt_some hl)
      obtain ⟨x, h1, h2⟩ := findBy_ers (prog := Γ.prog) hr hd
      have hm := mapOf_dct (prog := Γ.prog) ho hr
      clear e e1 e2 e3 e4 e5
      subst ev ew e6 e7
      exact tail_any hm.typeIs slot_dict_getitem.lookup (wpAny_getItem_of (PySem.strKind_is _ _ k t) hm (by rw [findBy_list]; exact h1) (Post.now S (R := RV u) h2 _)) hs
    · rcases or_some e3 with e4 | e4
      · obtain ⟨xs, hl, e5⟩ := bn_some e4
        obtain ⟨i, hq, e6⟩ := bn_some e5
        obtain ⟨u, hd, e7, e8⟩ := tl e6
        rw [intP_some hq] at hw
        obtain ⟨t, ew⟩ := v_int hw
        obtain ⟨vs, n, ho, hr⟩ := S.objs l a _ ha (lstAt_some hl)
        have hl : s.heap.IsList a vs := ⟨_, ho, rfl, n, rfl⟩
        clear e e1 e2 e3 e4 e5 e6
        subst ev ew e7 e8
        exact tail_any hl.typeIs slot_list_getitem.lookup (getItem_lst hl hr hd fun x h => Post.now S (R := RV u) h s.toks) hs
      · obtain ⟨f, hf, e5⟩ := bn_some e4
        exact hF l f hp hf e5
  · obtain ⟨i, hq, e2⟩ := bn_some e1
    rw [intP_some hq] at hw
    obtain ⟨t, ew⟩ := v_int hw
    rcases or_some e2 with e3 | e3
    · obtain ⟨xs, hp, e4⟩ := bn_some e3
      obtain ⟨u, hd, e5, e6⟩ := tl e4
      rw [lstD_some hp] at hv
      obtain ⟨as, ra⟩ := v_d hv
      obtain ⟨a, o, vs, n, bs, ev, h1, h2, h3, h4⟩ := reads_list ra
      have hl : s.heap.IsList a vs := ⟨o, (only_get.mp h1).1, h2, n, h3⟩
      obtain ⟨hb, j, k1, k2, k3⟩ := nth_some hd
      clear e e1 e2 e3 e4
      subst ev ew e5 e6
      refine tail_any hl.typeIs slot_list_getitem.lookup (getItem_lst hl (readsAll_vrs (μ := μ) h4) (u := .d u) ?_ fun x h => Post.now S (R := RV (.d u)) h s.toks) hs
      have : nthI xs.length i = some j := by
        obtain ⟨j', q1, q2⟩ := bn_some hd
        rw [q1]
        rcases k3 with ⟨h0, rfl⟩ | ⟨h0, h1, rfl⟩
        · rw [nthI, gd_pos hb, gd_pos h0] at q1; exact q1.symm
        · rw [nthI, gd_pos hb, show gd (0 ≤ i) (some i.toNat) = none from if_neg (Int.not_le.mpr h0)] at q1
          exact congrArg some ((gd_val q1).2).symm
      rw [nth, List.length_map, this]
      exact (List.getElem?_map).trans (congrArg (Option.map PV.d) k2)
    · rcases or_some e3 with e4 | e4
      · obtain ⟨xs, hp, e5⟩ := bn_some e4
        obtain ⟨u, hd, e6, e7⟩ := tl e5
        rw [tupD_some hp] at hv
        obtain ⟨as, ra⟩ := v_d hv
        obtain ⟨a, o, vs, n, bs, ev, h1, h2, h3, h4⟩ := reads_tuple ra
        have hl : IsTup s.heap a vs := ⟨o, (only_get.mp h1).1, h2, n, h3⟩
        obtain ⟨hb, j, k1, k2, _⟩ := nth_some hd
        obtain ⟨x, k3, k4⟩ := vrs_get (readsAll_vrs (μ := μ) h4) (i := j) (p := .d u) ((List.getElem?_map).trans (congrArg (Option.map PV.d) k2))
        have hz : vs.size = xs.length := (vrs_len (readsAll_vrs (μ := μ) h4)).trans (List.length_map _)
        clear e e1 e2 e3 e4 e5
        subst ev ew e6 e7
        exact tail_any hl.typeIs slot_tuple_getitem.lookup (getItem_tuple (j := j) hl (by (first | lia | omega)) (by (first | lia | omega)) (by rw [hz]; exact k1) (by rw [← k3, Array.getElem?_toList]) (Post.now S (R := RV _) k4 s.toks)) hs
      · obtain ⟨x, hp, e5⟩ := bn_some e4
        obtain ⟨c, hd, e6, e7⟩ := tl e5
        rw [txtP_some hp] at hv
        obtain ⟨u, ev⟩ := v_str hv
        obtain ⟨hb, j, k1, k2, _⟩ := nth_some hd
        clear e e1 e2 e3 e4 e5
        subst ev ew e6 e7
        have key : (seqIndex? i x.length).bind (x.cps[·]?) = some c := by
          rw [show x.length = x.cps.toList.length from rfl, k1]
          exact (Array.getElem?_toList).symm.trans k2
        exact tail_any (typeIs_str s x u) F.slot_str_getitem.lookup (P.getItem_str (by simp; (first | lia | omega)) key (Post.now S (R := RV _) (vr_str _ _ _) _)) hs
end
end Mine
end
section
namespace Mine
open PySem PySem.W PySem.Calls PyProof.Rows
section
variable {Γ : Cx} {A : Around} {env : Env} {ρ : En} {σ σ₁ σ₂ σ₃ : Hp} {μ : List Addr} {H : Addr → Prop} {s : Shared}
theorem te_idx {value slice : Expr} {pos : Pos} {p q r : PV} (ha : TV Γ A env (eval value env) ρ σ p σ₁) (hi : TV Γ A env (eval slice env) ρ σ₁ q σ₂)
    (ht : ∀ μ H s v w, Γ.St μ H σ₂ s → VR μ (gr s.heap H) v p → VR μ (gr s.heap H) w q → Does Γ A (subscriptTail value slice v w) μ H s (RV r) σ₃) :
    TE Γ A env (eval (.Subscript value slice pos) env) ρ σ (.val r) σ₃ := fun μ H s S E =>
  Subscript_ (te_two (r := .val r) S E ha hi ht)
noncomputable def TP (Γ : Cx) (A : Around) (env : Env) (x : Option Expr) (ρ : En) (σ : Hp) (a : Option Int) (σ' : Hp) : Prop :=
  ∀ μ H s, Γ.St μ H σ s → EnvR Γ env ρ μ H s.heap → Does Γ A (evalPart x env) μ H s (fun v _ _ _ => IsPart v a) σ'
theorem tp_none : TP Γ A env none ρ σ none σ := fun _ _ s S _ => wpAny_evalPart_none (Post.now S (R := fun v _ _ _ => IsPart v none) .none s.toks)
theorem part_of {v : Value} {p : PV} {a : Option Int} {g : Heap} (r : VR μ g v p) (ha : ofIdx (some p) = some a) : IsPart v a := by
  cases p with
  | d x =>
    cases x with
    | none => cases ha; rw [v_none r]; exact .none
    | int i => cases ha; obtain ⟨t, rfl⟩ := v_int r; exact .int i t
    | _ => exact (ns ha).elim
  | _ => exact (ns ha).elim
theorem tp_some {e : Expr} {p : PV} {a : Option Int} (h : TV Γ A env (eval e env) ρ σ p σ₁) (ha : ofIdx (some p) = some a) : TP Γ A env (some e) ρ σ a σ₁ := fun μ H s S E =>
  wpAny_evalPart_some ((h μ H s S E).conseq fun _ _ _ _ r => part_of r ha)
theorem d_slice {v vl vu : Value} {value : Expr} {lower upper : Option Expr} {p : Pos} {q : PV} {lo hi : Option PV} {a b : Option Int} {r : Res} (S : Γ.St μ H σ s) (hv : VR μ (gr s.heap H) v q)
    (hl : ofIdx lo = some a) (hu : ofIdx hi = some b) (pl : IsPart vl a) (pu : IsPart vu b) (e : slice σ q lo hi = some r) :
    WP Γ A (subscriptTail value (.Slice lower upper none p) v (.ref s.heap.objs.size)) (Post Γ μ H s.heap s.os (RR s.heap r) σ)
      { s with heap := s.heap.push { cls := .type "slice", data := .fields #[vl, vu, .none] } } := by
  obtain ⟨a', ea, e1⟩ := bn_some e
  obtain ⟨b', eb, e2⟩ := bn_some e1
  cases Option.some.inj (hl.symm.trans ea)
  cases Option.some.inj (hu.symm.trans eb)
  have hs : ∀ o : Value, subscripted (.Slice lower upper none p) false o (.ref s.heap.objs.size) = operate [.ref s.heap.objs.size, o] (getItem o (.ref s.heap.objs.size)) := fun _ => rfl
  have up : ∀ b o, s.heap.get? b = some o → (s.heap.push { cls := .type "slice", data := .fields #[vl, vu, .none] }).get? b = some o := fun b o e => Heap.get?_push_of_some _ e
  have lists : ∀ (l : Addr) (o : Obj) (vs : Array Value) (n : Nat) (xs : List PV), s.heap.get? l = some o → o.cls = .type "list" → o.data = .seq vs n → VRs μ (gr s.heap H) vs.toList xs → vs.size ≤ sizeLine →
      WP Γ A (subscriptTail value (.Slice lower upper none p) (.ref l) (.ref s.heap.objs.size)) (Post Γ μ H s.heap s.os (RR s.heap (.fresh (cut xs a b))) σ)
        { s with heap := s.heap.push { cls := .type "slice", data := .fields #[vl, vu, .none] } } := by
    intro l o vs n xs ho hc hd hr hz
    have hL : Heap.IsList (Shared.heap { s with heap := s.heap.push { cls := .type "slice", data := .fields #[vl, vu, .none] } }) l vs := ⟨o, up _ _ ho, hc, n, hd⟩
    refine tail_any hL.typeIs slot_list_getitem.lookup (wpAny_getItem_list_slice hL (Heap.IsSliceOf.new ..) pl pu .none (by simp) ?_ hz) (hs _)
    have hsz : (s.heap.push { cls := .type "slice", data := .fields #[vl, vu, .none] }).objs.size = s.heap.objs.size + 1 := Heap.size_push ..
    have hf : s.heap.get? (s.heap.objs.size + 1) = none := by
      cases q : s.heap.get? (s.heap.objs.size + 1) with
      | none => rfl
      | some o => exact absurd (Heap.lt_size q) (Nat.not_lt.mpr (Nat.le_succ _))
    rw [show ({ s with heap := s.heap.push { cls := .type "slice", data := .fields #[vl, vu, .none] } } : Shared).heap.objs.size = s.heap.objs.size + 1 from hsz]
    refine post_fresh (n := 0) S hf (fun b o e => Heap.get?_push_of_some _ (up b o e)) ?_ ?_ (vs := slicePick vs a b none)
    · rw [← hsz]; exact Heap.get?_push_size _ rfl
    · rw [cut_slicePick]
      unfold cut
      have := vrs_len hr
      simp only [this]
      exact vrs_take (vrs_drop hr _) _
  rcases or_some e2 with e3 | e3
  · obtain ⟨x, hx, e4⟩ := bn_some e3
    obtain ⟨hx', e5⟩ := gd_val e4
    rw [txtP_some hx] at hv
    obtain ⟨t, ev⟩ := v_str hv
    clear e e1 e2 e3 e4 ea eb
    subst ev e5
    have key : ∀ t' k, Post Γ μ H s.heap s.os (RR s.heap (.val (.d (.str ⟨(cut x.cps.toList a b).toArray⟩)))) σ (.str (Txt.slice x a b) t') { s with heap := s.heap.push { cls := .type "slice", data := .fields #[vl, vu, .none] }, toks := k } := fun t' k => by
      rw [slice_is]
      exact post_grow (H' := H) S up (fun _ _ _ => Iff.rfl) rfl rfl fun _ => vr_str _ _ _
    refine tail_any (typeIs_str _ x t) F.slot_str_getitem.lookup ?_ (hs _)
    have hz : ∀ l u, (Txt.slice x l u).length ≤ sizeLine := fun l u => Nat.le_trans (Txt.slice_le x l u) (by show x.cps.size ≤ sizeLine; rw [show sizeLine = 16777216 from rfl]; (first | lia | omega))
    cases pl <;> cases pu
    · exact wpAny_getItem_str_slice (l := none) (u := none) (st := none) ⟨_, Heap.get?_push_size _ rfl, rfl, rfl⟩ rfl (post_val_or_str ⟨hz none none, fun t' k => key t' k⟩)
    · rename_i j uj
      exact wpAny_getItem_str_slice (l := none) (u := some (j, uj)) (st := none) ⟨_, Heap.get?_push_size _ rfl, rfl, rfl⟩ rfl (post_val_or_str ⟨hz none (some j), fun t' k => key t' k⟩)
    · rename_i i ui
      exact wpAny_getItem_str_slice (l := some (i, ui)) (u := none) (st := none) ⟨_, Heap.get?_push_size _ rfl, rfl, rfl⟩ rfl (post_val_or_str ⟨hz (some i) none, fun t' k => key t' k⟩)
    · rename_i i ui j uj
      exact wpAny_getItem_str_slice (l := some (i, ui)) (u := some (j, uj)) (st := none) ⟨_, Heap.get?_push_size _ rfl, rfl, rfl⟩ rfl (post_val_or_str ⟨hz (some i) (some j), fun t' k => key t' k⟩)
  · have line : ∀ n, n < 2000000 → n ≤ sizeLine := fun n h => Nat.le_trans (Nat.le_of_lt h) (by decide)
    rcases or_some e3 with e4 | e4
    · obtain ⟨xs, hx, e5⟩ := bn_some e4
      obtain ⟨hx', e6⟩ := gd_val e5
      rw [lstD_some hx] at hv
      obtain ⟨as, ra⟩ := v_d hv
      obtain ⟨l, o, vs, n, bs, ev, h1, h2, h3, h4⟩ := reads_list ra
      have hr := readsAll_vrs (μ := μ) h4
      have hlen : vs.size = xs.length := (vrs_len hr).trans (List.length_map _)
      have e7 : (cut xs a b).map PV.d = cut (xs.map PV.d) a b := by unfold cut; rw [List.map_take, List.map_drop, List.length_map]
      clear e e1 e2 e3 e4 e5 ea eb
      subst ev e6
      rw [e7]
      exact lists l o vs n _ (only_get.mp h1).1 h2 h3 hr (line _ (hlen ▸ hx'))
    · obtain ⟨l, hp, e5⟩ := bn_some e4
      obtain ⟨xs, hl, e6⟩ := bn_some e5
      obtain ⟨hx', e7⟩ := gd_val e6
      rw [locP_some hp] at hv
      obtain ⟨ad, ha, ev⟩ := v_loc hv
      obtain ⟨vs, n, ho, hr⟩ := S.objs l ad _ ha (lstAt_some hl)
      have hlen : vs.size = xs.length := vrs_len hr
      clear e e1 e2 e3 e4 e5 e6 ea eb
      subst ev e7
      exact lists ad _ vs n _ ho rfl rfl hr (line _ (by (first | lia | omega)))
theorem te_slc {value : Expr} {lower upper : Option Expr} {p pos : Pos} {q : PV} {lo hi : Option PV} {a b : Option Int} {r : Res} (ha : TV Γ A env (eval value env) ρ σ q σ₁) (hl : TP Γ A env lower ρ σ₁ a σ₂) (hu : TP Γ A env upper ρ σ₂ b σ₃)
    (el : ofIdx lo = some a) (eu : ofIdx hi = some b) (e : slice σ₃ q lo hi = some r) : TE Γ A env (eval (.Subscript value (.Slice lower upper none p) pos) env) ρ σ r σ₃ := fun μ H s S E => by
  refine Subscript_ ?_
  refine Does.use (ha μ H s S E) fun v s₁ μ₁ H₁ T₁ S₁ v₁ => ?_
  refine wpAny_Slice ?_
  refine Does.use (hl μ₁ H₁ s₁ S₁ (E.tr T₁)) fun vl s₂ μ₂ H₂ T₂ S₂ v₂ => ?_
  refine Does.use (hu μ₂ H₂ s₂ S₂ (E.tr (T₁.trans T₂))) fun vu s₃ μ₃ H₃ T₃ S₃ v₃ => ?_
  rw [evalPart_none]
  refine wpAny_pure ?_
  refine wpAny_mono (d_slice S₃ ((v₁.tr T₂).tr T₃) el eu v₂ v₃ e) (fun w s₄ y => ?_) fun _ _ e => e
  obtain ⟨μ', H', T', S', q⟩ := y
  exact ⟨μ', H', ((T₁.trans T₂).trans T₃).trans T', S', RR.back q fun b e => T₁.fresh (T₂.fresh (T₃.fresh e))⟩
end
end Mine
end
section
namespace Mine
open PySem PySem.W PySem.Calls PyProof.Rows
theorem isStr_str (k name : Str) (t : Tok) : (Value.str k t).isStr name = decide (k = name) := by
  have : (Value.str k t).isStr name = (k == name) := rfl
  rw [this]
  by_cases h : k = name
  · subst h; simp
  · simp [h]
theorem nrs_find {μ : List Addr} {g : Heap} {es : List DictEntry} {kvs : List (Str × PV)} (x : NRs μ g es kvs) (name : Str) :
    match dget name kvs with | some p => ∃ e, es.find? (·.key.isStr name) = some e ∧ VR μ g e.val p | none => es.find? (·.key.isStr name) = none := by
  induction x with
  | nil => rfl
  | @cons c k t v p es ps h _ ih =>
    rw [dget_c]
    rw [List.find?_cons]
    simp only [isStr_str]
    by_cases hk : k = name
    · simp only [hk, if_true, decide_true]; exact ⟨_, rfl, h⟩
    · simp only [hk, if_false, decide_false]; exact ih
theorem nrs_noref {μ : List Addr} {g : Heap} {es : List DictEntry} {kvs : List (Str × PV)} (x : NRs μ g es kvs) : es.any (·.refKey) = false := by
  induction x with
  | nil => rfl
  | cons h _ ih => rw [List.any_cons, ih]; rfl
theorem nrs_len {μ : List Addr} {g : Heap} {es : List DictEntry} {kvs : List (Str × PV)} (x : NRs μ g es kvs) : es.length = kvs.length := by
  induction x with
  | nil => rfl
  | cons h _ ih => simp [ih]
theorem nrs_put {μ : List Addr} {g : Heap} {es : List DictEntry} {kvs : List (Str × PV)} (x : NRs μ g es kvs) {name : Str} {c : Int} {t : Tok} {v : Value} {p : PV} (hv : VR μ g v p) {f : Option DictEntry → DictEntry} (f1 : f none = ⟨c, .str name t, v⟩) (f2 : ∀ e, f (some e) = { e with val := v }) :
    ∃ es' b, nsPutIn name.cps.size name.cps.toList f es = (es', b) ∧ NRs μ g es' (dput name p kvs) := by
  induction x with
  | nil => exact ⟨_, _, rfl, by rw [f1]; exact .cons hv .nil⟩
  | @cons c' k t' v' p' es ps h r ih =>
    obtain ⟨es', b, e, n⟩ := ih
    unfold nsPutIn
    rw [dput_c]
    rw [Value.isStrByCps_eq]
    simp only [isStr_str]
    by_cases hk : k = name
    · subst hk
      simp only [decide_true, if_true]
      exact ⟨_, _, rfl, by rw [f2]; exact .cons hv r⟩
    · simp only [hk, decide_false, if_false]
      rw [e]
      exact ⟨_, _, rfl, .cons h n⟩
theorem putName_nrs {μ : List Addr} {g : Heap} {es : Array DictEntry} {n : Nat} {kvs : List (Str × PV)} (x : NRs μ g es.toList kvs) {name : Str} {c : Int} {t : Tok} {v : Value} {p : PV} (hv : VR μ g v p) :
    ∃ es' n', Obj.putName name c (.str name t) v { cls := .type "dict", data := .dict es n } = { cls := .type "dict", data := .dict es'.toArray n' } ∧ NRs μ g es' (dput name p kvs) := by
  obtain ⟨es', b, e1, e2⟩ := nrs_put x (name := name) (c := c) (t := t) hv (f := (fun | some e => { e with val := v } | none => ⟨c, .str name t, v⟩)) rfl fun _ => rfl
  refine ⟨es', if b then n + 1 else n, ?_, e2⟩
  unfold Obj.putName
  split
  rename_i es₁ n₁ _ he
  cases he
  split
  · rename_i q; have := q.symm.trans e1; cases this; rfl
  · rename_i q; have := q.symm.trans e1; cases this; rfl
  · rename_i z; exact (z _ _ _ _ _ rfl).elim
theorem dput_len {k : Str} {p : PV} : ∀ l : List (Str × PV), (dput k p l).length ≤ l.length + 1
  | [] => Nat.le_refl 1
  | (a, q) :: r => by
    have := dput_len (k := k) (p := p) r
    rw [dput_c]
    split <;> simp <;> (first | lia | omega)
theorem lookIn_nrs {μ : List Addr} {g : Heap} {es : Array DictEntry} {n : Nat} {kvs : List (Str × PV)} (x : NRs μ g es.toList kvs) (name : Str) :
    match dget name kvs with | some p => ∃ v, lookIn name { cls := .type "dict", data := .dict es n } = some (some v) ∧ VR μ g v p | none => lookIn name { cls := .type "dict", data := .dict es n } = some none := by
  have z := nrs_find x name
  unfold lookIn
  cases hd : dget name kvs with
  | some p => rw [hd] at z; obtain ⟨e, h1, h2⟩ := z; simp only [h1]; exact ⟨_, rfl, h2⟩
  | none => rw [hd] at z; simp only at z; simp only [z, nrs_noref x]; rfl
section
variable {Γ : Cx} {A : Around} {env : Env} {ρ : En} {σ σ₁ σ₂ σ₃ : Hp} {μ : List Addr} {H : Addr → Prop} {s : Shared}
theorem St.kin (K : Γ.Ok) (S : Γ.St μ H σ s) : Γ.K.In s.heap := K.kin.keeps (St.base S)
theorem inst_at {l C dl : Nat} {kvs : List (Str × PV)} {a : Addr} (S : Γ.St μ H σ s) (ha : μ[l]? = some a) (hl : σ[l]? = some (.inst C dl)) (hd : σ[dl]? = some (.ns kvs)) :
    ∃ dx es n, μ[dl]? = some dx ∧ s.heap.get? a = some { cls := .ref C, dict := some dx, data := .plain } ∧ s.heap.get? dx = some { cls := .type "dict", data := .dict es n } ∧ NRs μ (gr s.heap H) es.toList kvs ∧
      InstAt s.heap a { cls := .ref C, dict := some dx, data := .plain } C (some { cls := .type "dict", data := .dict es n }) := by
  obtain ⟨dx, h1, h2⟩ := S.objs l a _ ha hl
  obtain ⟨es, n, h3, h4⟩ := S.objs dl dx _ h1 hd
  exact ⟨dx, es, n, h1, h2, h3, h4, ⟨h2, rfl, rfl, h3⟩⟩
theorem handed_vr {v : Value} {p : PV} {g : Heap} (h : VR μ g v p) : handedIn v = true := by
  cases h with
  | d r => cases r <;> rfl
  | _ => rfl
theorem inst_of {v : Value} {p : PV} {l : Nat} {i : Addr × Nat} {c : Cls} {kvs : List (Str × PV)} (K : Γ.Ok) (S : Γ.St μ H σ s) (hv : VR μ (gr s.heap H) v p) (hp : locP p = some l) (hl : instAt σ l = some i) (hk : clsAt Γ.I i.1 = some c) (hd : nsAt σ i.2 = some kvs) :
    ClsOk Γ.K Γ.I Γ.fa c ∧ ∃ a dx es n, v = .ref a ∧ μ[i.2]? = some dx ∧ s.heap.get? a = some { cls := .ref c.addr, dict := some dx, data := .plain } ∧ s.heap.get? dx = some { cls := .type "dict", data := .dict es n } ∧ NRs μ (gr s.heap H) es.toList kvs ∧
      InstAt s.heap a { cls := .ref c.addr, dict := some dx, data := .plain } c.addr (some { cls := .type "dict", data := .dict es n }) := by
  obtain ⟨hc, C0⟩ := K.clsAt i.1 c hk
  rw [locP_some hp] at hv
  obtain ⟨a, ha, ev⟩ := v_loc hv
  obtain ⟨dx, es, n, h⟩ := inst_at S ha (instAt_some hl) (nsAt_some hd)
  exact ⟨C0, a, dx, es, n, ev, hc ▸ h⟩
theorem d_getA {v : Value} {p q : PV} {x : Nat} (K : Γ.Ok) (S : Γ.St μ H σ s) (hv : VR μ (gr s.heap H) v p) (e : getA Γ.I σ p x = some q) : Does Γ A (getAttr v (nm Γ.I x) true) μ H s (RV q) σ := by
  obtain ⟨l, hp, e1⟩ := bn_some e
  obtain ⟨i, hl, e2⟩ := bn_some e1
  obtain ⟨c, hk, e3⟩ := bn_some e2
  obtain ⟨kvs, hd, e4⟩ := bn_some e3
  obtain ⟨hx, e5⟩ := gd_some e4
  obtain ⟨C0, a, dx, es, n, ev, h1, h2, h3, h4, I⟩ := inst_of K S hv hp hl hk hd
  have h7 := lookIn_nrs (n := n) h4 (nm Γ.I x)
  rw [e5] at h7
  obtain ⟨w, h8, h9⟩ := h7
  rw [ev]
  exact get_value (St.kin K S) I C0.plain (findObj_own C0.dict (C0.attrs x hx) rfl h8) (handed_vr h9) (Post.now S (R := RV q) h9 _)
theorem te_attr {value : Expr} {attr : Str} {pos : Pos} {p q : PV} {x : Nat} (K : Γ.Ok) (hn : attr = nm Γ.I x) (hb : attributeBase value attr env (eval value env) = eval value env) (ha : TV Γ A env (eval value env) ρ σ p σ₁)
    (e : getA Γ.I σ₁ p x = some q) : TE Γ A env (eval (.Attribute value attr pos) env) ρ σ (.val q) σ₁ := fun μ H s S E => by
  have e1 : eval (.Attribute value attr pos) env = (do
    let o ← attributeBase value attr env (eval value env)
    standAt pos.atName
    let r ← holding [o] (getAttr o attr true)
    letTemporaryGo value o r
    pure r) := rfl
  rw [e1, hb, hn]
  refine Does.bind (ha μ H s S E) fun v μ₁ H₁ s₁ T₁ S₁ r => wpAny_bind (wpAny_standAt (wpAny_bind (wpAny_holding ?_)))
  exact wpAny_mono (d_getA K S₁ r e) (fun w s₂ z => wpAny_bind (wpAny_letTemporaryGo (wpAny_pure z))) fun _ _ e => e
theorem d_putA {v w : Value} {p q : PV} {x : Nat} {σ' : Hp} (K : Γ.Ok) (S : Γ.St μ H σ s) (hv : VR μ (gr s.heap H) v p) (hw : VR μ (gr s.heap H) w q) (e : putA Γ.I σ p x q = some σ') :
    Does Γ A (setAttr v (nm Γ.I x) w) μ H s (fun _ _ _ _ => True) σ' := by
  obtain ⟨l, hp, e1⟩ := bn_some e
  obtain ⟨i, hl, e2⟩ := bn_some e1
  obtain ⟨k, hk, e3⟩ := bn_some e2
  obtain ⟨kvs, hd, e4⟩ := bn_some e3
  obtain ⟨hx, e5⟩ := gd_val e4
  obtain ⟨C0, a, dx, es, n, ev, h1, h2, h3, h4, I⟩ := inst_of K S hv hp hl hk hd
  have X := St.kin K S
  rw [ev, ← e5]
  clear e e1 e2 e3 e4 e5
  refine set_plain X I C0.seta ?_
  refine osa_open (s := { s with toks := s.toks + 1 }) X I C0.over (r := none) (by unfold takerIn; rw [C0.attrs x hx.1]; rfl) fun b => ?_
  obtain ⟨cd, hc, hd'⟩ := any_some C0.dict
  refine wpAny_bind (wpAny_pure (wpAny_bind (wpAny_bind (wpAny_loadPart h2 (wpAny_bind (looks_clsIn X hc _ _ _ _ (fun _ _ e => e) ?_))))))
  rw [hd']
  refine wpAny_pure (a := some dx) (wpAny_bind (wpAny_pure (wpAny_bind ?_)))
  unfold nsSet
  refine wpAny_bind (wpAny_bind (wpAny_askSetting (wpAny_pure (wpAny_bind (wpAny_mkText (wpAny_bind (wpAny_loadPart h3 ?_)))))))
  dsimp only
  have c : (!es.any (·.key.isStr (nm Γ.I x)) && es.any (·.refKey)) = false := by
    rw [show es.any (·.refKey) = false from by rw [← Array.any_toList]; exact nrs_noref h4, Bool.and_false]
  rw [aRefKeyMayBeTheName_at, c]
  refine wpAny_updatePart h3 ?_
  obtain ⟨es', n', e3, e2⟩ := putName_nrs (n := n) h4 (name := nm Γ.I x) (c := hashStr Γ.w (nm Γ.I x)) (t := s.toks + 1) hw
  have h3' : (s.heap.update dx (Obj.putName (nm Γ.I x) (hashStr Γ.w (nm Γ.I x)) (.str (nm Γ.I x) (s.toks + 1)) w)).get? dx = some { cls := .type "dict", data := .dict es'.toArray n' } := by
    rw [Heap.get?_update_self _ h3 (by rw [e3]; rfl), e3]
  have hz : es'.length ≤ 1000 := Nat.le_trans (Nat.le_of_eq (nrs_len e2)) (Nat.le_trans (dput_len kvs) hx.2)
  refine wpAny_bind (wpAny_lookBehind h3' (pastItsLine_dict (by rw [List.size_toArray, sizeLine_eq]; (first | lia | omega))) (wpAny_pure ?_))
  have z := S.put (s' := { s with heap := s.heap.update dx (Obj.putName (nm Γ.I x) (hashStr Γ.w (nm Γ.I x)) (.str (nm Γ.I x) (s.toks + 1)) w), toks := s.toks + 1 + 1 }) h1 (nsAt_some hd) (by simp)
    (fun b o hb e => (Heap.get?_update_other _ _ (Ne.symm hb)).trans e) ⟨_, h3'⟩ rfl rfl (o' := .ns (dput (nm Γ.I x) q kvs))
    fun g hg => ⟨_, n', h3', e2.mono ⟨[], by simp⟩ hg⟩
  exact ⟨_, _, z.2, z.1, trivial⟩
theorem methOf_inst {l x f : Nat} {a : Addr} (K : Γ.Ok) (S : Γ.St μ H σ s) (ha : μ[l]? = some a) (e : methOf Γ.I σ l x = some f) :
    ∃ k ox od, ClsOk Γ.K Γ.I Γ.fa k ∧ InstAt s.heap a ox k.addr (some od) ∧ lookIn (nm Γ.I x) od = some none ∧ findIn Γ.K (.ref k.addr) (nm Γ.I x) = some (some (.ref (Γ.fa f))) ∧ typeIn Γ.K (.ref (Γ.fa f)) = some (.type "function") ∧ fnIn Γ.K (Γ.fa f) = true ∧ noSeq Γ.K k.addr = true := by
  obtain ⟨i, hl, e2⟩ := bn_some e
  obtain ⟨k, hk, e3⟩ := bn_some e2
  obtain ⟨kvs, hd, e4⟩ := bn_some e3
  obtain ⟨hg, e5⟩ := gd_some e4
  obtain ⟨C0, a', dx, es, n, ev, h1, h2, h3, h4, I⟩ := inst_of K S (.loc ha) (p := .loc l) rfl hl hk hd
  cases ev
  obtain ⟨m1, m2, m3⟩ := C0.meths x f e5
  have h7 := lookIn_nrs (n := n) h4 (nm Γ.I x)
  rw [Option.isNone_iff_eq_none.mp hg] at h7
  exact ⟨k, _, _, C0, I, h7, m1, m2, m3, C0.nos⟩
theorem d_methOf {l x f : Nat} {a : Addr} {pl : Sem Bool} {Q : Value × List Value → Shared → Prop} (K : Γ.Ok) (S : Γ.St μ H σ s) (ha : μ[l]? = some a) (e : methOf Γ.I σ l x = some f) (h : Q (.ref (Γ.fa f), [.ref a]) s) :
    WP Γ A (getMethod (.ref a) (nm Γ.I x) pl) Q s := by
  obtain ⟨k, ox, od, C0, I, h7, m1, m2, _⟩ := methOf_inst K S ha e
  exact method_fn (St.kin K S) I C0.plain C0.noGa m1 m2 (by show (lookIn _ _).map _ = _; rw [h7]; rfl) h
end
end Mine
end
section
namespace Mine
open PySem PySem.W PySem.Calls PyProof.Rows
structure TrF (F : Addr → Prop) (μ : List Addr) (H : Addr → Prop) (h : Heap) (os : OsState) (μ' : List Addr) (H' : Addr → Prop) (h' : Heap) (os' : OsState) : Prop where
  ext : ∃ ν, μ' = μ ++ ν ∧ ∀ a ∈ ν, h.get? a = none
  kept : ∀ b o, h.get? b = some o → ¬ (b ∈ μ ∧ H b) → ¬ F b → h'.get? b = some o
  hid : ∀ b o, h.get? b = some o → ¬ (b ∈ μ ∧ H b) → (H' b ↔ H b)
  dom : ∀ b o, h.get? b = some o → ∃ o', h'.get? b = some o'
  os : os' = os
noncomputable def FOk (F : Addr → Prop) (μ : List Addr) (H : Addr → Prop) (h : Heap) : Prop := ∀ b, F b → b ∉ μ ∧ H b ∧ ∃ o, h.get? b = some o
section
variable {F F' : Addr → Prop} {μ μ₁ μ₂ : List Addr} {H H₁ H₂ : Addr → Prop} {h h₁ h₂ : Heap} {os os₁ os₂ : OsState}
theorem Tr.toF (x : Tr μ H h os μ₁ H₁ h₁ os₁) (F : Addr → Prop) : TrF F μ H h os μ₁ H₁ h₁ os₁ := ⟨x.ext, fun b o e n _ => (x.kept b o e n).1, fun b o e n => (x.kept b o e n).2, x.dom, x.os⟩
theorem TrF.pre (x : TrF F μ H h os μ₁ H₁ h₁ os₁) : ∃ ν, μ₁ = μ ++ ν := by
  obtain ⟨ν, e, _⟩ := x.ext
  exact ⟨ν, e⟩
theorem TrF.trans (x : TrF F μ H h os μ₁ H₁ h₁ os₁) (y : TrF F μ₁ H₁ h₁ os₁ μ₂ H₂ h₂ os₂) : TrF F μ H h os μ₂ H₂ h₂ os₂ := by
  obtain ⟨ν, rfl, f1⟩ := x.ext
  obtain ⟨ν', rfl, f2⟩ := y.ext
  have key : ∀ b o, h.get? b = some o → ¬ (b ∈ μ ∧ H b) → ¬ (b ∈ μ ++ ν ∧ H₁ b) := fun b o e hn => by
    rintro ⟨hm, hh⟩
    rcases List.mem_append.mp hm with hm | hm
    · exact hn ⟨hm, (x.hid b o e hn).mp hh⟩
    · rw [f1 b hm] at e; cases e
  refine ⟨⟨ν ++ ν', by simp, fun a ha => ?_⟩, fun b o e hn hf => y.kept b o (x.kept b o e hn hf) (key b o e hn) hf, fun b o e hn => ?_, fun b o e => ?_, y.os.trans x.os⟩
  · rcases List.mem_append.mp ha with ha | ha
    · exact f1 a ha
    · cases q : h.get? a with
      | none => rfl
      | some o =>
        obtain ⟨o', q'⟩ := x.dom a o q
        rw [f2 a ha] at q'; cases q'
  · obtain ⟨o', e'⟩ := x.dom b o e
    exact (y.hid b o' e' (key b o e hn)).trans (x.hid b o e hn)
  · obtain ⟨o', e'⟩ := x.dom b o e
    exact y.dom b o' e'
theorem TrF.weaken (x : TrF F μ H h os μ₁ H₁ h₁ os₁) (hF : ∀ b, F b → F' b ∨ h.get? b = none) : TrF F' μ H h os μ₁ H₁ h₁ os₁ :=
  ⟨x.ext, fun b o e n hf => x.kept b o e n fun q => (hF b q).elim hf fun z => (by rw [z] at e; cases e), x.hid, x.dom, x.os⟩
theorem TrF.toTr (x : TrF F μ H h os μ₁ H₁ h₁ os₁) (hF : ∀ b, F b → h.get? b = none) : Tr μ H h os μ₁ H₁ h₁ os₁ :=
  ⟨x.ext, fun b o e n => ⟨x.kept b o e n fun q => (by rw [hF b q] at e; cases e), x.hid b o e n⟩, x.dom, x.os⟩
theorem TrF.gr (x : TrF F μ H h os μ₁ H₁ h₁ os₁) (hF : FOk F μ H h) : ∀ b o, (gr h H).get? b = some o → (gr h₁ H₁).get? b = some o := fun b o e => by
  obtain ⟨e, hn⟩ := only_get.mp e
  have nm : ¬ (b ∈ μ ∧ H b) := fun q => hn q.2
  exact only_get.mpr ⟨x.kept b o e nm fun q => hn (hF b q).2.1, fun q => hn ((x.hid b o e nm).mp q)⟩
theorem TrF.out (t : TrF F μ H h os μ₁ H₁ h₁ os₁) {b : Addr} {o : Obj} (e : h.get? b = some o) (hb : b ∉ μ) : b ∉ μ₁ := by
  obtain ⟨ν, rfl, f⟩ := t.ext
  intro hm
  rcases List.mem_append.mp hm with hm | hm
  · exact hb hm
  · rw [f b hm] at e; cases e
theorem TrF.fok (t : TrF F μ H h os μ₁ H₁ h₁ os₁) (hF : FOk F' μ H h) : FOk F' μ₁ H₁ h₁ := fun b hb => by
  obtain ⟨h1, h2, o, h3⟩ := hF b hb
  exact ⟨t.out h3 h1, (t.hid b o h3 fun q => h1 q.1).mpr h2, t.dom b o h3⟩
theorem Tr.fok (t : Tr μ H h os μ₁ H₁ h₁ os₁) (hF : FOk F μ H h) : FOk F μ₁ H₁ h₁ := (t.toF F).fok hF
theorem TrF.fresh (t : TrF F μ H h os μ₁ H₁ h₁ os₁) {b : Addr} (e : h₁.get? b = none) : h.get? b = none := by
  cases q : h.get? b with
  | none => rfl
  | some o => obtain ⟨o', q'⟩ := t.dom b o q; rw [e] at q'; cases q'
theorem VR.trF (t : TrF F μ H h os μ₁ H₁ h₁ os₁) (hF : FOk F μ H h) {v : Value} {p : PV} (x : VR μ (gr h H) v p) : VR μ₁ (gr h₁ H₁) v p := x.mono t.pre (t.gr hF)
theorem VRs.trF (t : TrF F μ H h os μ₁ H₁ h₁ os₁) (hF : FOk F μ H h) {v : List Value} {p : List PV} (x : VRs μ (gr h H) v p) : VRs μ₁ (gr h₁ H₁) v p := x.mono t.pre (t.gr hF)
end
section
variable {w : World} {B : Heap} {μ : List Addr} {H H' : Addr → Prop} {σ : Hp} {s s' : Shared} {F : Addr → Prop}
theorem St.but (S : Mine.St w B μ H σ s) (hF : FOk F μ H s.heap) (hk : ∀ b o, ¬ F b → s.heap.get? b = some o → s'.heap.get? b = some o) (hf : ∀ b, F b → ∃ o, s'.heap.get? b = some o)
    (hH : ∀ b o, s.heap.get? b = some o → (H' b ↔ H b)) (hg : s'.gens = s.gens) (ho : s'.os = s.os) :
    Mine.St w B μ H' σ s' ∧ TrF F μ H s.heap s.os μ H' s'.heap s'.os := by
  have dom : ∀ b o, s.heap.get? b = some o → ∃ o', s'.heap.get? b = some o' := fun b o e => by
    by_cases q : F b
    · exact hf b q
    · exact ⟨o, hk b o q e⟩
  have T : TrF F μ H s.heap s.os μ H' s'.heap s'.os := ⟨⟨[], by simp, fun _ h => nomatch h⟩, fun b o e _ q => hk b o q e, fun b o e _ => hH b o e, dom, ho⟩
  refine ⟨⟨fun b o e => ?_, S.len, S.nod, fun l a o h1 h2 h3 => ?_, fun l a o h1 h2 => ?_, fun a ha => ?_, hg.trans S.gens⟩, T⟩
  · obtain ⟨h1, h2⟩ := S.keep b o e
    exact ⟨hk b o (fun q => h2 (hF b q).2.1) h1, fun q => h2 ((hH b o h1).mp q)⟩
  · obtain ⟨o', e⟩ := S.there a (List.mem_of_getElem? h1)
    exact (hH a o' e).mpr (S.hid l a o h1 h2 h3)
  · exact (S.objs l a o h1 h2).mono ⟨[], by simp⟩ (T.gr hF) fun ob e => hk a ob (fun q => (hF a q).1 (List.mem_of_getElem? h1)) e
  · obtain ⟨o', e⟩ := S.there a ha
    exact dom a o' e
end
end Mine
end
section
namespace Mine
open PySem PySem.W PySem.Calls PyProof.Rows
theorem beq_no {x y : Nat} (h : ¬ y = x) : Nat.beq x y = false := by
  cases hb : Nat.beq x y
  · rfl
  · exact absurd (Nat.eq_of_beq_eq_true hb).symm h
theorem getV_upd (x : Nat) (p : PV) (y : Nat) (ρ : En) : getV y (upd x p ρ) = if y = x then some p else getV y ρ := by
  show cond (Nat.beq x y) (some p) (getV y ρ) = _
  by_cases h : y = x
  · subst h; rw [if_pos rfl, Nat.beq_refl]; rfl
  · rw [if_neg h, beq_no h]; rfl
noncomputable def Own (Γ : Cx) (env : Env) (F : Addr → Prop) (x : Nat) : Prop := x < Γ.I.N.length ∧
  ((env.kindOf (nm Γ.I x) = some .local ∧ F env.locals) ∨ (env.kindOf (nm Γ.I x) = some .cell ∧ ∃ c, env.cells.lookup (nm Γ.I x) = some c ∧ F c))
inductive SPost (Γ : Cx) (env : Env) (F : Addr → Prop) {α : Type} (μ : List Addr) (H : Addr → Prop) (h : Heap) (os : OsState) (ρ' : En) (R : α → List Addr → (Addr → Prop) → Heap → Prop) (σ' : Hp) (v : α) (s' : Shared) : Prop
  | mk (μ' : List Addr) (H' : Addr → Prop) (T : TrF F μ H h os μ' H' s'.heap s'.os) (S : Γ.St μ' H' σ' s') (E : EnvR Γ env ρ' μ' H' s'.heap) (r : R v μ' H' s'.heap)
section
variable {Γ : Cx} {A : Around} {env : Env} {ρ ρ₁ : En} {σ σ₁ : Hp} {μ μ₁ : List Addr} {H H₁ : Addr → Prop} {h h₁ : Heap} {os os₁ : OsState} {s : Shared} {F : Addr → Prop} {α : Type}
theorem SPost.after {R : α → List Addr → (Addr → Prop) → Heap → Prop} (t : TrF F μ H h os μ₁ H₁ h₁ os₁) {v : α} {s' : Shared} (x : SPost Γ env F μ₁ H₁ h₁ os₁ ρ₁ R σ₁ v s') : SPost Γ env F μ H h os ρ₁ R σ₁ v s' := by
  obtain ⟨μ', H', t', S', E', r⟩ := x
  exact ⟨μ', H', t.trans t', S', E', r⟩
theorem WP.imp {t : Sem α} {Q Q' : α → Shared → Prop} (x : WP Γ A t Q s) (f : ∀ a s', Q a s' → Q' a s') : WP Γ A t Q' s := wpAny_mono x f fun _ _ e => e
theorem SPost.use {t : Sem α} {R : α → List Addr → (Addr → Prop) → Heap → Prop} {Q : α → Shared → Prop} {N : Value → Shared → Prop} (x : WP Γ A t (SPost Γ env F μ H h os ρ R σ) s)
    (k : ∀ v s' μ' H', TrF F μ H h os μ' H' s'.heap s'.os → Γ.St μ' H' σ s' → EnvR Γ env ρ μ' H' s'.heap → R v μ' H' s'.heap → Q v s') : wpAny (model Γ.prog Γ.w) A t Q N s :=
  wpAny_mono x (fun v s' y => y.rec fun μ' H' T S E r => k v s' μ' H' T S E r) fun _ _ e => e.elim
theorem WP.bind {β : Type} {t : Sem α} {k : α → Sem β} {Q : β → Shared → Prop} (x : WP Γ A t (fun a s' => WP Γ A (k a) Q s') s) : WP Γ A (t >>= k) Q s := wpAny_bind x
theorem Post.toS {R : α → List Addr → (Addr → Prop) → Heap → Prop} {v : α} {s' : Shared} (x : Post Γ μ H h os R σ₁ v s') (E : EnvR Γ env ρ μ H h) : SPost Γ env F μ H h os ρ R σ₁ v s' := by
  obtain ⟨μ', H', t', S', r⟩ := x
  exact ⟨μ', H', t'.toF F, S', E.tr t', r⟩
theorem store {x : Nat} {v : Value} {p : PV} (K : Γ.Ok) (S : Γ.St μ H σ s) (E : EnvR Γ env ρ μ H s.heap) (hF : FOk F μ H s.heap) (o : Own Γ env F x) (hv : VR μ (gr s.heap H) v p) :
    WP Γ A (storeName env (nm Γ.I x) v) (SPost Γ env F μ H s.heap s.os (upd x p ρ) (fun _ _ _ _ => True) σ) s := by
  obtain ⟨hx, o⟩ := o
  rcases o with ⟨hk, hl⟩ | ⟨hk, c, hc, hFc⟩
  · obtain ⟨m, hn, hm⟩ := E.ns
    refine wpAny_storeName_local hk hn (fun h' hn' hs' => ?_) (by rw [E.kind]; rfl)
    have z := S.but (s' := { s with heap := h', toks := s.toks + 1 }) (H' := H) hF (fun b o hb e => (hs'.2 b fun q => hb (q ▸ hl)).trans e)
      (fun b hb => by
        by_cases q : b = env.locals
        · subst q; exact Ns.there hn'
        · obtain ⟨_, _, o, e⟩ := hF b hb
          exact ⟨o, (hs'.2 b q).trans e⟩) (fun _ _ _ => Iff.rfl) rfl rfl
    refine ⟨μ, H, z.2, z.1, ⟨E.kind, E.glob, E.blt, ⟨_, hn', fun y q hy hky => ?_⟩, fun y q hy hky => ?_, E.lout, fun n c hc => ?_, E.apart, E.lne⟩, trivial⟩
    · rw [getV_upd] at hy
      split at hy
      · rename_i hyx
        subst hyx
        cases hy
        exact ⟨v, by simp, hv.trF z.2 hF⟩
      · rename_i hyx
        obtain ⟨u, h1, h2⟩ := hm y q hy hky
        have : ¬ nm Γ.I y = nm Γ.I x := fun e => hyx (K.inj x y hx e.symm).symm
        exact ⟨u, by rw [if_neg this]; exact h1, h2.trF z.2 hF⟩
    · rw [getV_upd] at hy
      split at hy
      · rename_i hyx
        subst hyx
        rcases hky with hky | hky <;> rw [hk] at hky <;> cases hky
      · obtain ⟨c, u, h1, h2, h3⟩ := E.cells y q hy hky
        exact ⟨c, u, h1, h2.sameBut hs' (E.lne _ _ h1), h3.trF z.2 hF⟩
    · obtain ⟨h1, h2, u, h3⟩ := E.cout n c hc
      exact ⟨h1, h2, u, h3.sameBut hs' (E.lne _ _ hc)⟩
  · obtain ⟨h1, h2, u₀, h3⟩ := E.cout _ c hc
    refine wpAny_storeName_cell E.kind hk hc h3 fun h' hc' hs' => ?_
    have z := S.but (s' := { s with heap := h' }) (H' := H) hF (fun b o hb e => (hs'.2 b fun q => hb (q ▸ hFc)).trans e)
      (fun b hb => by
        by_cases q : b = c
        · subst q; obtain ⟨o, e, _⟩ := hc'; exact ⟨o, e⟩
        · obtain ⟨_, _, o, e⟩ := hF b hb
          exact ⟨o, (hs'.2 b q).trans e⟩) (fun _ _ _ => Iff.rfl) rfl rfl
    obtain ⟨m, hn, hm⟩ := E.ns
    refine ⟨μ, H, z.2, z.1, ⟨E.kind, E.glob, E.blt, ⟨m, Heap.Ns.sameBut hn hs' (Ne.symm (E.lne _ _ hc)), fun y q hy hky => ?_⟩, fun y q hy hky => ?_, E.lout, fun n d hd => ?_, E.apart, E.lne⟩, trivial⟩
    · rw [getV_upd] at hy
      split at hy
      · rename_i hyx
        subst hyx
        rw [hk] at hky; cases hky
      · obtain ⟨u, h4, h5⟩ := hm y q hy hky
        exact ⟨u, h4, h5.trF z.2 hF⟩
    · rw [getV_upd] at hy
      split at hy
      · rename_i hyx
        subst hyx
        cases hy
        exact ⟨c, v, hc, hc', hv.trF z.2 hF⟩
      · rename_i hyx
        obtain ⟨d, u, h4, h5, h6⟩ := E.cells y q hy hky
        refine ⟨d, u, h4, h5.sameBut hs' (fun e => ?_), h6.trF z.2 hF⟩
        subst e
        exact hyx (K.inj x y hx (E.apart _ _ _ hc h4)).symm
    · by_cases hdc : d = c
      · subst hdc; exact ⟨h1, h2, _, hc'⟩
      · obtain ⟨h4, h5, u, h6⟩ := E.cout n d hd
        exact ⟨h4, h5, u, h6.sameBut hs' hdc⟩
end
end Mine
end
section
namespace Mine
open PySem PySem.W PySem.Calls PyProof.Rows
inductive Cur where
  | imm (xs : List Item)
  | lo (l i : Nat)
noncomputable def adv (σ : Hp) : Cur → Option (Option (Item × Cur))
  | .imm [] => some none
  | .imm (x :: r) => some (some (x, .imm r))
  | .lo l i => (lstAt σ l).map fun xs => (xs[i]?).map fun p => (.one p, .lo l (i + 1))
noncomputable def turnG {β : Type} (step : Item → β → Hp → Option (Option Flo × β × Hp)) (k : Cur → β → Hp → Option (Option Flo × β × Hp)) (b : β) (σ : Hp) : Option (Item × Cur) → Option (Option Flo × β × Hp)
  | none => some (none, b, σ)
  | some x => onw (step x.1 b σ) (k x.2)
noncomputable def loopG {β : Type} (step : Item → β → Hp → Option (Option Flo × β × Hp)) : Nat → Cur → β → Hp → Option (Option Flo × β × Hp)
  | 0, _, _, _ => none
  | f + 1, c, b, σ => (adv σ c).bind (turnG step (loopG step f) b σ)
theorem loopI_G {β : Type} (step : Item → β → Hp → Option (Option Flo × β × Hp)) : ∀ (xs : List Item), loopI step xs = loopG step (xs.length + 1) (.imm xs)
  | [] => rfl
  | x :: r => funext fun b => funext fun σ => congrArg (onw (step x b σ)) (loopI_G step r)
theorem loopL_G {β : Type} (step : Item → β → Hp → Option (Option Flo × β × Hp)) (l : Nat) : ∀ (f i : Nat), loopL step l f i = loopG step f (.lo l i)
  | 0, i => rfl
  | f + 1, i => funext fun b => funext fun σ => by
    show (lstAt σ l).bind _ = Option.bind ((lstAt σ l).map _) _
    cases lstAt σ l with
    | none => rfl
    | some xs =>
      show (match xs[i]? with | none => _ | some p => _) = turnG step (loopG step f) b σ ((xs[i]?).map _)
      cases xs[i]? with
      | none => rfl
      | some p => exact congrArg (onw (step (.one p) b σ)) (loopL_G step l f (i + 1))
noncomputable def curOf : Src → Cur
  | .imm xs => .imm xs
  | .lo l => .lo l 0
theorem loopS_G {β : Type} (step : Item → β → Hp → Option (Option Flo × β × Hp)) (s : Src) (b : β) (σ : Hp) : ∃ f, loopS step s b σ = loopG step f (curOf s) b σ := by
  cases s with
  | imm xs => exact ⟨_, congrFun (congrFun (loopI_G step xs) b) σ⟩
  | lo l => exact ⟨_, congrFun (congrFun (loopL_G step l 100 0) b) σ⟩
noncomputable def ItR (μ : List Addr) (H : Addr → Prop) (h : Heap) (v : Value) : Item → Prop
  | .one p => VR μ (gr h H) v p
  | .two p q => ∃ T a b, v = .ref T ∧ h.IsTuple T #[a, b] ∧ VR μ (gr h H) a p ∧ VR μ (gr h H) b q
noncomputable def TgtFor : Item → Expr → Prop
  | .one _, _ => True
  | .two _ _, t => ∃ es k pos, t = .Tuple es k pos
noncomputable def Only (W : List Addr) (s s' : Shared) : Prop := (∀ b o, b ∉ W → s.heap.get? b = some o → s'.heap.get? b = some o) ∧ s'.os = s.os ∧ s'.gens = s.gens
structure Laws (Γ : Cx) (A : Around) (I : Addr) (W : List Addr) (P : Cur → List Addr → (Addr → Prop) → Heap → Prop) : Prop where
  stable : ∀ {c μ H h μ' H' h'}, P c μ H h → (∃ ν, μ' = μ ++ ν) → (∀ b o, (gr h H).get? b = some o → (gr h' H').get? b = some o) → (∀ b ∈ W, ∀ o, h.get? b = some o → h'.get? b = some o) → P c μ' H' h'
  live : ∀ {c μ H h}, P c μ H h → ∀ b ∈ W, ∃ o, h.get? b = some o
  one : ∀ {σ μ H s c i c'}, P c μ H s.heap → Γ.St μ H σ s → FOk (· ∈ W) μ H s.heap → adv σ c = some (some (i, c')) → ∀ target, TgtFor i target →
    WP Γ A (pyNext (.ref I)) (fun r s₁ => ∃ v, r = some v ∧ WP Γ A (letOwnedTupleGo target (.ref I) v) (fun _ s₂ => Only W s s₂ ∧ P c' μ H s₂.heap ∧ ItR μ H s₂.heap v i) s₁) s
  fin : ∀ {σ μ H s c}, P c μ H s.heap → Γ.St μ H σ s → FOk (· ∈ W) μ H s.heap → adv σ c = some none → WP Γ A (pyNext (.ref I)) (fun r s₁ => r = none ∧ Only W s s₁) s
  self : ∀ {μ H s c} {Q : Value → Shared → Prop}, P c μ H s.heap → Q (.ref I) s → WP Γ A (pyIter (.ref I)) Q s
noncomputable def TgtOk (I : Info) : Tgt → Expr → Prop
  | .one x, t => ∃ pos, t = .Name (nm I x) pos
  | .two x y, t => ∃ p q k pos, t = .Tuple [.Name (nm I x) p, .Name (nm I y) q] k pos
theorem bindT_pair {x y : Nat} {p : PV} {ρ ρ' : En} (h : bindT (.two x y) (.one p) ρ = some ρ') : ∃ a b, p = .d (.tuple [a, b]) ∧ ρ' = upd y (.d b) (upd x (.d a) ρ) := by
  cases p with
  | d u =>
    cases u with
    | tuple l =>
      match l, h with
      | [], h => cases h
      | [_], h => cases h
      | [a, b], h => cases h; exact ⟨a, b, rfl, rfl⟩
      | _ :: _ :: _ :: _, h => cases h
    | _ => cases h
  | _ => cases h
theorem vr_pair {μ : List Addr} {H : Addr → Prop} {h : Heap} {v : Value} {a b : PyData} (x : VR μ (gr h H) v (.d (.tuple [a, b]))) :
    ∃ T u w, v = .ref T ∧ h.IsTuple T #[u, w] ∧ VR μ (gr h H) u (.d a) ∧ VR μ (gr h H) w (.d b) := by
  obtain ⟨as, r⟩ := v_d x
  obtain ⟨T, o, vs, n, bs, e, h1, h2, h3, h4⟩ := reads_tuple r
  obtain ⟨u, w, el, hu, hw⟩ := vrs_two (readsAll_vrs (μ := μ) h4)
  have ev : vs = #[u, w] := Array.toList_inj.mp el
  exact ⟨T, u, w, e, ⟨o, (only_get.mp h1).1, h2, n, ev ▸ h3⟩, hu, hw⟩
section
variable {Γ : Cx} {A : Around} {env : Env} {ρ ρ' : En} {σ : Hp} {μ : List Addr} {H : Addr → Prop} {s : Shared} {F : Addr → Prop}
theorem EnvR.grow {μ' H' h h'} (E : EnvR Γ env ρ μ H h) (os : OsState) (t : Tr μ H h os μ' H' h' os) : EnvR Γ env ρ μ' H' h' := E.tr t
theorem take {t : Tgt} {target : Expr} {i : Item} {v : Value} (K : Γ.Ok) (hA : A.handled = none) (S : Γ.St μ H σ s) (E : EnvR Γ env ρ μ H s.heap) (hF : FOk F μ H s.heap)
    (ht : TgtOk Γ.I t target) (ho : ∀ x ∈ tgNames t, Own Γ env F x) (hb : bindT t i ρ = some ρ') (hv : ItR μ H s.heap v i) :
    WP Γ A (assign target env v) (SPost Γ env F μ H s.heap s.os ρ' (fun _ _ _ _ => True) σ) s := by
  have two : ∀ {x y : Nat} {T : Addr} {a b : Value} {p q : PV} {pp qq k pos}, Own Γ env F x → Own Γ env F y → v = .ref T → s.heap.IsTuple T #[a, b] → VR μ (gr s.heap H) a p → VR μ (gr s.heap H) b q →
      WP Γ A (assign (.Tuple [.Name (nm Γ.I x) pp, .Name (nm Γ.I y) qq] k pos) env v) (SPost Γ env F μ H s.heap s.os (upd y q (upd x p ρ)) (fun _ _ _ _ => True) σ) s := by
    intro x y T a b p q pp qq k pos ox oy e hT ha hb'
    subst e
    refine wpAny_assign_Tuple hA hT rfl rfl fun h' hk => ?_
    have hk' : ∀ b o, s.heap.get? b = some o → h'.get? b = some o := fun b o e => hk b o (Nat.ne_of_lt (Heap.lt_size e)) e
    have z := S.grow (s' := { s with heap := h' }) (H' := H) hk' (fun _ _ _ => Iff.rfl) rfl rfl
    have E1 := E.tr z.2
    have F1 := z.2.fok hF
    show WP Γ A (do holding [b] (assign (.Name (nm Γ.I x) pp) env a); holding [] (assign (.Name (nm Γ.I y) qq) env b); pure ()) _ _
    refine wpAny_bind (wpAny_holding (wpAny_assign_Name ?_))
    refine (store K z.1 E1 F1 ox (ha.tr z.2)).imp fun _ s₁ y1 => ?_
    obtain ⟨μ₁, H₁, T₁, S₁, E₁, _⟩ := y1
    refine wpAny_bind (wpAny_holding (wpAny_assign_Name ?_))
    refine (store K S₁ E₁ (T₁.fok F1) oy ((hb'.tr z.2).trF T₁ F1)).imp fun _ s₂ y2 => wpAny_pure ?_
    exact y2.after ((z.2.toF F).trans T₁)
  cases t with
  | one x =>
    obtain ⟨pos, rfl⟩ := ht
    cases i with
    | one p =>
      cases hb
      exact wpAny_assign_Name (store K S E hF (ho x (by simp [tgNames])) hv)
    | two p q => cases hb
  | two x y =>
    obtain ⟨p₁, q₁, k, pos, rfl⟩ := ht
    have ox := ho x (by simp [tgNames])
    have oy := ho y (by simp [tgNames])
    cases i with
    | one p =>
      obtain ⟨a, b, rfl, rfl⟩ := bindT_pair hb
      obtain ⟨T, u, w, h1, h2, h3, h4⟩ := vr_pair hv
      exact two ox oy h1 h2 h3 h4
    | two p q =>
      cases hb
      obtain ⟨T, a, b, h1, h2, h3, h4⟩ := hv
      exact two ox oy h1 h2 h3 h4
end
end Mine
end
section
namespace Mine
open PySem PySem.W PySem.Calls PyProof.Rows
noncomputable def Or (F : Addr → Prop) (W : List Addr) : Addr → Prop := fun b => F b ∨ b ∈ W
noncomputable def EnvOut (env : Env) (W : List Addr) : Prop := env.locals ∉ W ∧ ∀ n c, env.cells.lookup n = some c → c ∉ W
section
variable {Γ : Cx} {A : Around} {env : Env} {ρ ρ' ρ₁ : En} {σ σ₁ : Hp} {μ : List Addr} {H : Addr → Prop} {s : Shared} {F : Addr → Prop} {W : List Addr} {I : Addr}
  {P : Cur → List Addr → (Addr → Prop) → Heap → Prop}
theorem EnvR.le {h : Heap} (E : EnvR Γ env ρ₁ μ H h) (hle : ∀ y q, getV y ρ = some q → getV y ρ₁ = some q) : EnvR Γ env ρ μ H h := by
  obtain ⟨m, hn, hm⟩ := E.ns
  exact ⟨E.kind, E.glob, E.blt, ⟨m, hn, fun x p h1 h2 => hm x p (hle x p h1) h2⟩, fun x p h1 h2 => E.cells x p (hle x p h1) h2, E.lout, E.cout, E.apart, E.lne⟩
theorem EnvR.stay {μ' : List Addr} {H' : Addr → Prop} {h h' : Heap} {os os' : OsState} (E : EnvR Γ env ρ μ H h) (hF : FOk F μ H h) (t : TrF F μ H h os μ' H' h' os') (hl : ¬ F env.locals) (hc : ∀ n c, env.cells.lookup n = some c → ¬ F c) : EnvR Γ env ρ μ' H' h' := by
  obtain ⟨m, hn, hm⟩ := E.ns
  obtain ⟨o, ho⟩ := Ns.there hn
  refine ⟨E.kind, E.glob, E.blt, ⟨m, Ns.at_ hn fun o e => t.kept _ _ e (fun q => E.lout.1 q.1) hl, fun x p h1 h2 => ?_⟩, fun x p h1 h2 => ?_, ⟨t.out ho E.lout.1, (t.hid _ _ ho fun q => E.lout.1 q.1).mpr E.lout.2⟩, fun n c h1 => ?_, E.apart, E.lne⟩
  · obtain ⟨v, h3, h4⟩ := hm x p h1 h2
    exact ⟨v, h3, h4.trF t hF⟩
  · obtain ⟨c, v, h3, ⟨oc, h4, h5⟩, h6⟩ := E.cells x p h1 h2
    exact ⟨c, v, h3, ⟨oc, t.kept _ _ h4 (fun q => (E.cout _ _ h3).1 q.1) (hc _ _ h3), h5⟩, h6.trF t hF⟩
  · obtain ⟨q1, q2, v, oc, q3, q4⟩ := E.cout n c h1
    exact ⟨t.out q3 q1, (t.hid _ _ q3 fun q => q1 q.1).mpr q2, v, oc, t.kept _ _ q3 (fun q => q1 q.1) (hc _ _ h1), q4⟩
theorem FOk.or (hF : FOk F μ H s.heap) (hW : FOk (· ∈ W) μ H s.heap) : FOk (Or F W) μ H s.heap := fun b hb => hb.elim (hF b) (hW b)
theorem Laws.turn {i : Item} {c c' : Cur} {t : Tgt} {target : Expr} (L : Laws Γ A I W P) (K : Γ.Ok) (hA : A.handled = none) (S : Γ.St μ H σ s) (E : EnvR Γ env ρ μ H s.heap) (hF : FOk F μ H s.heap) (hW : FOk (· ∈ W) μ H s.heap)
    (hFW : ∀ b ∈ W, ¬ F b) (hEW : EnvOut env W) (hP : P c μ H s.heap) (ha : adv σ c = some (some (i, c'))) (ht : TgtOk Γ.I t target) (ho : ∀ x ∈ tgNames t, Own Γ env F x) (hb : bindT t i ρ = some ρ') :
    WP Γ A (pyNext (.ref I)) (fun r s₁ => ∃ v, r = some v ∧ WP Γ A (letOwnedTupleGo target (.ref I) v) (fun _ s₂ => WP Γ A (assign target env v)
      (SPost Γ env (Or F W) μ H s.heap s.os ρ' (fun _ μ' H' h' => P c' μ' H' h') σ) s₂) s₁) s := by
  have hT : TgtFor i target := by
    cases i with
    | one p => trivial
    | two p q =>
      cases t with
      | one x => cases hb
      | two x y => obtain ⟨p, q, k, pos, rfl⟩ := ht; exact ⟨_, _, _, rfl⟩
  refine (L.one hP S hW ha target hT).imp fun r s₁ y => ?_
  obtain ⟨v, hr, h1⟩ := y
  refine ⟨v, hr, h1.imp fun _ s₂ y => ?_⟩
  obtain ⟨⟨k1, k2, k3⟩, hP', hv⟩ := y
  obtain ⟨S₂, T₂⟩ := S.but (s' := s₂) (H' := H) hW (fun b o hb e => k1 b o hb e) (fun b hb => L.live hP' b hb) (fun _ _ _ => Iff.rfl) k3 k2
  have hW₂ := T₂.fok hW
  have hF₂ := T₂.fok hF
  have E₂ := E.stay hW T₂ hEW.1 fun n c h => hEW.2 n c h
  refine SPost.use (take K hA S₂ E₂ hF₂ ht ho hb hv) fun _ s₃ μ₃ H₃ T₃ S₃ E₃ _ => ?_
  have T : TrF (Or F W) μ H s.heap s.os μ₃ H₃ s₃.heap s₃.os := (T₂.weaken fun b hb => .inl (.inr hb)).trans (T₃.weaken fun b hb => .inl (.inl hb))
  exact ⟨μ₃, H₃, T, S₃, E₃, L.stable hP' T₃.pre (T₃.gr hF₂) fun b hb o e => T₃.kept b o e (fun q => (hW₂ b hb).1 q.1) (hFW b hb)⟩
theorem TrF.last {μ₀ : List Addr} {H₀ : Addr → Prop} {h₀ : Heap} {os₀ : OsState} {s' : Shared} (t : TrF (Or F W) μ₀ H₀ h₀ os₀ μ H s.heap s.os) (hk : Only W s s') (hW : ∀ b ∈ W, h₀.get? b = none) : TrF F μ₀ H₀ h₀ os₀ μ H s'.heap s'.os := by
  have nw : ∀ b o, h₀.get? b = some o → b ∉ W := fun b o e q => by rw [hW b q] at e; cases e
  refine ⟨t.ext, fun b o e h1 h2 => hk.1 b o (nw b o e) (t.kept b o e h1 fun q => q.elim h2 (nw b o e)), fun b o e h1 => t.hid b o e h1, fun b o e => ?_, hk.2.1.trans t.os⟩
  obtain ⟨o', e'⟩ := t.dom b o e
  exact ⟨o', hk.1 b o' (nw b o e) e'⟩
theorem St.only {s' : Shared} (S : Γ.St μ H σ s) (hW : FOk (· ∈ W) μ H s.heap) (hk : Only W s s') : Γ.St μ H σ s' := by
  have gm : ∀ b o, (gr s.heap H).get? b = some o → (gr s'.heap H).get? b = some o := fun b o e => by
    obtain ⟨e1, e2⟩ := only_get.mp e
    exact only_get.mpr ⟨hk.1 b o (fun q => e2 (hW b q).2.1) e1, e2⟩
  refine ⟨fun b o e => ?_, S.len, S.nod, S.hid, fun l a o h1 h2 => ?_, fun a ha => ?_, hk.2.2.trans S.gens⟩
  · obtain ⟨h1, h2⟩ := S.keep b o e
    exact ⟨hk.1 b o (fun q => h2 (hW b q).2.1) h1, h2⟩
  · exact (S.objs l a o h1 h2).mono ⟨[], by simp⟩ gm fun ob e => hk.1 a ob (fun q => (hW a q).1 (List.mem_of_getElem? h1)) e
  · obtain ⟨o, e⟩ := S.there a ha
    exact ⟨o, hk.1 a o (fun q => (hW a q).1 ha) e⟩
theorem EnvR.only {s' : Shared} (E : EnvR Γ env ρ μ H s.heap) (hW : FOk (· ∈ W) μ H s.heap) (hEW : EnvOut env W) (hk : Only W s s') : EnvR Γ env ρ μ H s'.heap := by
  have gm : ∀ b o, (gr s.heap H).get? b = some o → (gr s'.heap H).get? b = some o := fun b o e => by
    obtain ⟨e1, e2⟩ := only_get.mp e
    exact only_get.mpr ⟨hk.1 b o (fun q => e2 (hW b q).2.1) e1, e2⟩
  obtain ⟨m, hn, hm⟩ := E.ns
  refine ⟨E.kind, E.glob, E.blt, ⟨m, Ns.at_ hn fun o e => hk.1 _ _ hEW.1 e, fun x p h1 h2 => ?_⟩, fun x p h1 h2 => ?_, E.lout, fun n c h1 => ?_, E.apart, E.lne⟩
  · obtain ⟨v, h3, h4⟩ := hm x p h1 h2
    exact ⟨v, h3, h4.mono ⟨[], by simp⟩ gm⟩
  · obtain ⟨c, v, h3, ⟨oc, h4, h5⟩, h6⟩ := E.cells x p h1 h2
    exact ⟨c, v, h3, ⟨oc, hk.1 _ _ (hEW.2 _ _ h3) h4, h5⟩, h6.mono ⟨[], by simp⟩ gm⟩
  · obtain ⟨q1, q2, v, oc, q3, q4⟩ := E.cout n c h1
    exact ⟨q1, q2, v, oc, hk.1 _ _ (hEW.2 _ _ h1) q3, q4⟩
noncomputable def floOf : Option Flo → Flo
  | none => .next
  | some .brk => .next
  | some f => f
noncomputable def FR (f : Flo) : Flow → List Addr → (Addr → Prop) → Heap → Prop := fun fl μ H h => match f with
  | .next => fl = .next
  | .brk => fl = .brk
  | .ret p => ∃ v, fl = .ret v ∧ VR μ (gr h H) v p
noncomputable def TS (Γ : Cx) (A : Around) (env : Env) (F : Addr → Prop) (t : Sem Flow) (ρ : En) (σ : Hp) (f : Flo) (ρ' : En) (σ' : Hp) : Prop :=
  ∀ μ H s, Γ.St μ H σ s → EnvR Γ env ρ μ H s.heap → FOk F μ H s.heap → WP Γ A t (SPost Γ env F μ H s.heap s.os ρ' (FR f) σ') s
inductive ForI (Γ : Cx) (env : Env) (F : Addr → Prop) (W : List Addr) (P : Cur → List Addr → (Addr → Prop) → Heap → Prop) (μ₀ : List Addr) (H₀ : Addr → Prop) (h₀ : Heap) (os₀ : OsState)
    (step : Item → En → Hp → Option (Option Flo × En × Hp)) (r : Option Flo × En × Hp) (n : Nat) (s : Shared) : Prop
  | mk (c : Cur) (ρ : En) (σ : Hp) (μ : List Addr) (H : Addr → Prop) (he : loopG step n c ρ σ = some r) (S : Γ.St μ H σ s) (E : EnvR Γ env ρ μ H s.heap) (hF : FOk F μ H s.heap) (hW : FOk (· ∈ W) μ H s.heap) (hP : P c μ H s.heap)
    (T : TrF (Or F W) μ₀ H₀ h₀ os₀ μ H s.heap s.os)
noncomputable abbrev ForE (Γ : Cx) (env : Env) (F : Addr → Prop) (μ₀ : List Addr) (H₀ : Addr → Prop) (h₀ : Heap) (os₀ : OsState) (r : Option Flo × En × Hp) : Flow → Shared → Prop := SPost Γ env F μ₀ H₀ h₀ os₀ r.2.1 (FR (floOf r.1)) r.2.2
noncomputable def OnOk {α : Type} (Q : α → Shared → Prop) (r : Except Value α) (s : Shared) : Prop := match r with
  | .ok a => Q a s
  | .error _ => False
theorem for_loop {t : Tgt} {target : Expr} {body : List Stmt} {B : En → Hp → Option (Flo × En × Hp)} {f : Nat} {r : Option Flo × En × Hp} {μ₀ : List Addr} {H₀ : Addr → Prop} {h₀ : Heap} {os₀ : OsState} (L : Laws Γ A I W P) (K : Γ.Ok) (hA : A.handled = none)
    (ht : TgtOk Γ.I t target) (ho : ∀ x ∈ tgNames t, Own Γ env F x) (hFW : ∀ b ∈ W, ¬ F b) (hEW : EnvOut env W)
    (hB : ∀ ρ σ f ρ' σ', B ρ σ = some (f, ρ', σ') → TS Γ A env F (execs body env) ρ σ f ρ' σ') (hW₀ : ∀ b ∈ W, h₀.get? b = none) (x : ForI Γ env F W P μ₀ H₀ h₀ os₀ (stepF t B) r f s) :
    codeAny (model Γ.prog Γ.w) A (.forLoop target (.ref I) body [] env) (OnOk (ForE Γ env F μ₀ H₀ h₀ os₀ r)) s := by
  refine codeAny_forLoop_any (ForI Γ env F W P μ₀ H₀ h₀ os₀ (stepF t B) r) ?_ f x
  rintro n s₁ ⟨c₁, ρ₁, σ₁, μ₁, H₁, he, S, E, hF, hW, hP, T⟩
  cases n with
  | zero => cases he
  | succ n =>
    obtain ⟨y, ha, he⟩ := bn_some he
    cases y with
    | none =>
      cases he
      refine wpAny_mono (L.fin hP S hW ha) (fun r s₂ y => ?_) fun _ _ e => e.elim
      obtain ⟨hr, hk⟩ := y
      subst hr
      exact wpAny_execs_nil ⟨μ₁, H₁, T.last hk hW₀, S.only hW hk, E.only hW hEW hk, rfl⟩
    | some y =>
      obtain ⟨i, c'⟩ := y
      have he := onw_some he
      obtain ⟨ρ₂, ρ₃, σ₃, fl, hb, hs, he⟩ : ∃ ρ₂ ρ₃ σ₃ fl, bindT t i ρ₁ = some ρ₂ ∧ B ρ₂ σ₁ = some (fl, ρ₃, σ₃) ∧ ((fl = .next ∧ loopG (stepF t B) n c' ρ₃ σ₃ = some r) ∨ (fl ≠ .next ∧ r = (some fl, ρ₃, σ₃))) := by
        have inv : ∀ {o}, stepF t B i ρ₁ σ₁ = some o → ∃ ρ₂ fl, bindT t i ρ₁ = some ρ₂ ∧ B ρ₂ σ₁ = some (fl, o.2) ∧ o.1 = outF fl := fun h => by
          obtain ⟨ρ₂, h1, h⟩ := bn_some h
          obtain ⟨fl, y, h2, h⟩ := bd_some h
          cases h
          exact ⟨ρ₂, fl, h1, h2, rfl⟩
        cases he with
        | on b σ h e =>
          obtain ⟨ρ₂, fl, h1, h2, h3⟩ := inv h
          cases fl <;> cases h3
          exact ⟨ρ₂, b, σ, .next, h1, h2, .inl ⟨rfl, e⟩⟩
        | out g h e =>
          obtain ⟨ρ₂, fl, h1, h2, h3⟩ := inv h
          refine ⟨ρ₂, r.2.1, r.2.2, fl, h1, h2, .inr ?_⟩
          cases fl <;> cases h3 <;> exact ⟨by simp, Prod.ext e rfl⟩
      refine wpAny_mono (L.turn K hA S E hF hW hFW hEW hP ha ht ho hb) (fun r s₂ y => ?_) fun _ _ e => e.elim
      obtain ⟨v, hr, h1⟩ := y
      subst hr
      refine wpAny_mono h1 (fun _ s₃ h2 => SPost.use h2 fun _ s₄ μ₄ H₄ T₄ S₄ E₄ P₄ => ?_) fun _ _ e => e.elim
      have hF₄ := T₄.fok hF
      have hW₄ := T₄.fok hW
      refine SPost.use (hB _ _ _ _ _ hs μ₄ H₄ s₄ S₄ E₄ hF₄) fun fo s₅ μ₅ H₅ T₅ S₅ E₅ R₅ => ?_
      have T'' := (T.trans T₄).trans (T₅.weaken fun b hb => .inl (.inl hb))
      have wk : ∀ b, Or F W b → F b ∨ h₀.get? b = none := fun b hb => hb.elim .inl fun q => .inr (hW₀ b q)
      rcases he with ⟨rfl, he⟩ | ⟨hn, rfl⟩
      · have : fo = .next := R₅
        subst this
        exact ⟨n, Nat.lt_succ_self n, c', ρ₃, σ₃, μ₅, H₅, he, S₅, E₅, T₅.fok hF₄, T₅.fok hW₄, L.stable P₄ T₅.pre (T₅.gr hF₄) fun b hb o e => T₅.kept b o e (fun q => (hW₄ b hb).1 q.1) (hFW b hb), T''⟩
      · cases fl with
        | next => exact absurd rfl hn
        | brk =>
          have : fo = .brk := R₅
          subst this
          exact ⟨μ₅, H₅, T''.weaken wk, S₅, E₅, rfl⟩
        | ret p =>
          obtain ⟨v, h6, h7⟩ := R₅
          subst h6
          exact ⟨μ₅, H₅, T''.weaken wk, S₅, E₅, v, rfl, h7⟩
end
end Mine
end
section
namespace Mine
open PySem PySem.W PySem.Calls PyProof.Rows
section
variable {Γ : Cx} {A : Around} {env : Env} {ρ ρ' ρ₁ ρ₂ : En} {σ σ₁ σ₂ σ' : Hp} {μ : List Addr} {H : Addr → Prop} {s : Shared} {F : Addr → Prop} {W : List Addr} {I : Addr}
theorem ts_nil : TS Γ A env F (execs [] env) ρ σ .next ρ σ := fun μ H s S E _ =>
  wpAny_execs_nil ⟨μ, H, (Tr.refl).toF F, S, E, rfl⟩
theorem ts_cons {st : Stmt} {rest : List Stmt} {f : Flo} (h : TS Γ A env F (exec st env) ρ σ .next ρ₁ σ₁) (k : TS Γ A env F (execs rest env) ρ₁ σ₁ f ρ₂ σ₂) : TS Γ A env F (execs (st :: rest) env) ρ σ f ρ₂ σ₂ := fun μ H s S E hF => by
  refine wpAny_execs_cons (SPost.use (h μ H s S E hF) fun fl s₁ μ₁ H₁ T₁ S₁ E₁ r => ?_)
  have : fl = .next := r
  subst this
  exact (k μ₁ H₁ s₁ S₁ E₁ (T₁.fok hF)).imp fun _ _ y => y.after T₁
theorem ts_stop {st : Stmt} {rest : List Stmt} {f : Flo} (hf : f ≠ .next) (h : TS Γ A env F (exec st env) ρ σ f ρ₁ σ₁) : TS Γ A env F (execs (st :: rest) env) ρ σ f ρ₁ σ₁ := fun μ H s S E hF => by
  refine wpAny_execs_cons (wpAny_mono (h μ H s S E hF) (fun fl s₁ z => ?_) fun _ _ e => e)
  obtain ⟨μ₁, H₁, T₁, S₁, E₁, r⟩ := z
  cases f with
  | next => exact absurd rfl hf
  | brk =>
    have : fl = .brk := r
    subst this
    exact ⟨μ₁, H₁, T₁, S₁, E₁, rfl⟩
  | ret p =>
    obtain ⟨v, h1, h2⟩ := r
    subst h1
    exact ⟨μ₁, H₁, T₁, S₁, E₁, v, rfl, h2⟩
theorem ts_cond {c : Expr} {body orelse : List Stmt} {pos : Pos} {b : Bool} {f : Flo} (h : TT Γ A env (isTrue c env (eval c env)) ρ σ b σ₁) (k : TS Γ A env F (if b then execs body env else execs orelse env) ρ σ₁ f ρ₂ σ₂) :
    TS Γ A env F (exec (.If c body orelse pos) env) ρ σ f ρ₂ σ₂ := fun μ H s S E hF => by
  refine wpAny_If (Does.is (h μ H s S E) fun s₁ μ₁ H₁ T₁ S₁ => ?_)
  have z := k μ₁ H₁ s₁ S₁ (E.tr T₁) (T₁.fok hF)
  cases b
  · exact WP.imp z fun _ _ y => y.after (T₁.toF F)
  · exact WP.imp z fun _ _ y => y.after (T₁.toF F)
theorem ts_ret {e : Expr} {pos : Pos} {p : PV} (h : TV Γ A env (eval e env) ρ σ p σ₁) : TS Γ A env F (exec (.Return (some e) pos) env) ρ σ (.ret p) ρ σ₁ := fun μ H s S E _ =>
  wpAny_Return_some (Does.use (h μ H s S E) fun v s₁ μ₁ H₁ T₁ S₁ r => ⟨μ₁, H₁, T₁.toF F, S₁, E.tr T₁, v, rfl, r⟩)
theorem ts_brk {pos : Pos} : TS Γ A env F (exec (.Break pos) env) ρ σ .brk ρ σ := fun μ H s S E _ =>
  wpAny_Break ⟨μ, H, (Tr.refl).toF F, S, E, rfl⟩
theorem ts_exp {e : Expr} {pos : Pos} {p : PV} (h : TV Γ A env (eval e env) ρ σ p σ₁) (hp : (∃ x, p = .d (.str x)) ∨ p = .d .none) (hi : interactive env = false) (hs : swapsWith e none pos.line env = pure false) :
    TS Γ A env F (exec (.Expr e pos) env) ρ σ .next ρ σ₁ := fun μ H s S E _ => by
  refine wpAny_Expr (Does.use (h μ H s S E) fun v s₁ μ₁ H₁ T₁ S₁ r => ?_) hi hs
  have z : SPost Γ env F μ H s.heap s.os ρ (FR .next) σ₁ .next s₁ := ⟨μ₁, H₁, T₁.toF F, S₁, E.tr T₁, rfl⟩
  rcases hp with ⟨x, rfl⟩ | rfl
  · obtain ⟨t, rfl⟩ := v_str r; exact z
  · rw [v_none r]; exact z
theorem ts_set {x : Nat} {id : Str} {e : Expr} {pos' pos : Pos} {p : PV} (K : Γ.Ok) (hn : id = nm Γ.I x) (ho : Own Γ env F x) (h : TV Γ A env (eval e env) ρ σ p σ₁) (hs : swapsWith e (some (.Name id pos')) pos.line env = pure false) :
    TS Γ A env F (exec (.Assign [.Name id pos'] e pos) env) ρ σ .next (upd x p ρ) σ₁ := fun μ H s S E hF => by
  subst hn
  refine wpAny_Assign_Name (Does.use (h μ H s S E) fun v s₁ μ₁ H₁ T₁ S₁ r => ?_) hs
  exact SPost.use (store K S₁ (E.tr T₁) (T₁.fok hF) ho r) fun _ s₂ μ₂ H₂ T₂ S₂ E₂ _ => ⟨μ₂, H₂, (T₁.toF F).trans T₂, S₂, E₂, rfl⟩
theorem ts_setB {x y : Nat} {i j : Str} {e : Expr} {p₁ p₂ pos : Pos} {p : PV} (K : Γ.Ok) (hn : i = nm Γ.I x) (hm : j = nm Γ.I y) (ho : Own Γ env F x) (ho' : Own Γ env F y) (h : TV Γ A env (eval e env) ρ σ p σ₁) (hs : swappedStores [.Name i p₁, .Name j p₂] e env = pure none) :
    TS Γ A env F (exec (.Assign [.Name i p₁, .Name j p₂] e pos) env) ρ σ .next (upd y p (upd x p ρ)) σ₁ := fun μ H s S E hF => by
  subst hn hm
  refine wpAny_Assign_two (Does.use (h μ H s S E) fun v s₁ μ₁ H₁ T₁ S₁ r => ?_) rfl hs
  refine SPost.use (wpAny_assign_Name (store K S₁ (E.tr T₁) (T₁.fok hF) ho r)) fun _ s₂ μ₂ H₂ T₂ S₂ E₂ _ => ?_
  have F₁ := T₁.fok hF
  exact wpAny_assign_Name (SPost.use (store K S₂ E₂ (T₂.fok F₁) ho' (r.trF T₂ F₁)) fun _ s₃ μ₃ H₃ T₃ S₃ E₃ _ => ⟨μ₃, H₃, ((T₁.toF F).trans T₂).trans T₃, S₃, E₃, rfl⟩)
theorem ld_var {x : Nat} {p : PV} (hv : getV x ρ = some p) (E : EnvR Γ env ρ μ H s.heap) (hk : env.kindOf (nm Γ.I x) = some .local ∨ env.kindOf (nm Γ.I x) = some .cell) {Q : Value → Shared → Prop}
    (h : ∀ v, VR μ (gr s.heap H) v p → Q v s) : WP Γ A (loadName env (nm Γ.I x)) Q s := by
  rcases hk with hk | hk
  · obtain ⟨m, hm, hx⟩ := E.ns
    obtain ⟨v, h1, h2⟩ := hx x p hv hk
    exact wpAny_loadName_local E.kind hk hm h1 (h v h2)
  · obtain ⟨c, v, h1, h2, h3⟩ := E.cells x p hv (.inl hk)
    exact wpAny_loadName_cell E.kind hk h1 h2 (h v h3)
theorem ts_aug {x : Nat} {id : Str} {op : Operator} {e : Expr} {pos' pos : Pos} {i j k : Int} (K : Γ.Ok) (hn : id = nm Γ.I x) (ho : Own Γ env F x) (hx : getV x ρ = some (.d (.int i))) (h : TV Γ A env (eval e env) ρ σ (.d (.int j)) σ₁)
    (hop : (op = .Add ∧ k = i + j) ∨ (op = .Sub ∧ k = i - j)) : TS Γ A env F (exec (.AugAssign (.Name id pos') op e pos) env) ρ σ .next (upd x (.d (.int k)) ρ) σ₁ := fun μ H s S E hF => by
  subst hn
  refine wpAny_AugAssign_Name (ld_var hx E (by rcases ho.2 with h | h; exact .inl h.1; exact .inr h.1) fun v hv => ?_)
  refine Does.use (h μ H s S E) fun w s₁ μ₁ H₁ T₁ S₁ r => ?_
  obtain ⟨t, rfl⟩ := v_int hv
  obtain ⟨u, rfl⟩ := v_int r
  have fin : WP Γ A (storeName env (nm Γ.I x) (.int k s₁.toks)) (fun _ => SPost Γ env F μ H s.heap s.os (upd x (.d (.int k)) ρ) (FR .next) σ₁ .next) { s₁ with toks := s₁.toks + 1 } := by
    have z := S₁.grow (s' := { s₁ with toks := s₁.toks + 1 }) (H' := H₁) (fun _ _ e => e) (fun _ _ _ => Iff.rfl) rfl rfl
    have T' := T₁.trans z.2
    exact SPost.use (store K z.1 (E.tr T') (T'.fok hF) ho (vr_int k _ _)) fun _ s₂ μ₂ H₂ T₂ S₂ E₂ _ => ⟨μ₂, H₂, (T'.toF F).trans T₂, S₂, E₂, rfl⟩
  rcases hop with ⟨rfl, rfl⟩ | ⟨rfl, rfl⟩
  · exact AutoIntOps.iadd_0 fin
  · exact AutoIntOps.isub_0 fin
inductive WhI (Γ : Cx) (env : Env) (F : Addr → Prop) (μ₀ : List Addr) (H₀ : Addr → Prop) (s₀ : Shared) (tst : En → Hp → Option (Bool × Hp)) (B : En → Hp → Option (Flo × En × Hp)) (r : Flo × En × Hp) (n : Nat) (s : Shared) : Prop
  | mk (ρ : En) (σ : Hp) (μ : List Addr) (H : Addr → Prop) (he : loopW tst B n ρ σ = some r) (S : Γ.St μ H σ s) (E : EnvR Γ env ρ μ H s.heap) (hF : FOk F μ H s.heap) (T : TrF F μ₀ H₀ s₀.heap s₀.os μ H s.heap s.os)
theorem ts_while {c : Expr} {body : List Stmt} {pos : Pos} {tst : En → Hp → Option (Bool × Hp)} {B : En → Hp → Option (Flo × En × Hp)} {r : Flo × En × Hp} {n : Nat} (hA : A.handled = none)
    (hT : ∀ ρ σ b σ', tst ρ σ = some (b, σ') → TT Γ A env (isTrue c env (eval c env)) ρ σ b σ') (hB : ∀ ρ σ f ρ' σ', B ρ σ = some (f, ρ', σ') → TS Γ A env F (execs body env) ρ σ f ρ' σ')
    (he : loopW tst B n ρ σ = some r) : TS Γ A env F (exec (.While c body [] pos) env) ρ σ r.1 r.2.1 r.2.2 := fun μ₀ H₀ s₀ S E hF => by
  refine wpAny_While (codeAny_mono (R := OnOk (SPost Γ env F μ₀ H₀ s₀.heap s₀.os r.2.1 (FR r.1) r.2.2)) ?_ fun r s' z => ?_)
  · refine codeAny_whileLoop (WhI Γ env F μ₀ H₀ s₀ tst B r) ?_ n ⟨ρ, σ, μ₀, H₀, he, S, E, hF, (Tr.refl).toF F⟩
    rintro n s₁ ⟨ρ₁, σ₁, μ₁, H₁, he, S, E, hF, T⟩
    cases n with
    | zero => cases he
    | succ n =>
      obtain ⟨b, σ₂, ht, he⟩ := bd_some he
      refine Does.is (hT _ _ _ _ ht μ₁ H₁ s₁ S E) fun s₂ μ₂ H₂ T₂ S₂ => ?_
      have E₂ := E.tr T₂
      have F₂ := T₂.fok hF
      have T' := T.trans (T₂.toF F)
      cases b with
      | false =>
        cases he
        exact wpAny_execs_nil ⟨μ₂, H₂, T', S₂, E₂, rfl⟩
      | true =>
        obtain ⟨fl, y, hs, he⟩ := bd_some he
        refine SPost.use (hB _ _ _ _ _ hs μ₂ H₂ s₂ S₂ E₂ F₂) fun fo s₃ μ₃ H₃ T₃ S₃ E₃ R₃ => ?_
        have T'' := T'.trans T₃
        cases fl with
        | next =>
          have : fo = .next := R₃
          subst this
          exact ⟨n, Nat.lt_succ_self n, _, _, μ₃, H₃, he, S₃, E₃, T₃.fok F₂, T''⟩
        | brk =>
          have : fo = .brk := R₃
          subst this
          cases he
          exact ⟨μ₃, H₃, T'', S₃, E₃, rfl⟩
        | ret p =>
          obtain ⟨v, h6, h7⟩ := R₃
          subst h6
          cases he
          exact ⟨μ₃, H₃, T'', S₃, E₃, v, rfl, h7⟩
  · cases r with
    | ok fl => exact z
    | error e => exact z.elim
end
end Mine
end
section
namespace Mine
open PySem PySem.W PySem.Calls PyProof.Rows
theorem cellsFrom_isSome {x : Str} : ∀ (names : List (Str × NameKind)) (n : Nat) (acc : List (Str × Addr)), ((acc.lookup x).isSome = true ∨ (x, NameKind.cell) ∈ names) → ((cellsFrom n names acc).lookup x).isSome = true
  | [], n, acc, h => by
    rcases h with h | h
    · exact h
    · cases h
  | (name, kind) :: r, n, acc, h => by
    unfold cellsFrom
    split
    · rename_i hk
      refine cellsFrom_isSome r _ _ ?_
      rcases h with h | h
      · left
        rw [List.lookup_cons]
        split
        · rfl
        · exact h
      · rcases List.mem_cons.mp h with h | h
        · cases h
          left
          simp [List.lookup_cons]
        · exact .inr h
    · rename_i hk
      refine cellsFrom_isSome r _ _ ?_
      rcases h with h | h
      · exact .inl h
      · rcases List.mem_cons.mp h with h | h
        · cases h
          exact absurd rfl hk
        · exact .inr h
theorem cellsFrom_app : ∀ (names : List (Str × NameKind)) (n : Nat) (acc : List (Str × Addr)), cellsFrom n names acc = cellsFrom n names [] ++ acc
  | [], n, acc => rfl
  | (name, kind) :: r, n, acc => by
    unfold cellsFrom
    split
    · rw [cellsFrom_app r (n + 1) ((name, n) :: acc), cellsFrom_app r (n + 1) [(name, n)], List.append_assoc]; rfl
    · exact cellsFrom_app r n acc
theorem cellsFrom_mem {x : Str} {c : Addr} : ∀ (names : List (Str × NameKind)) (n : Nat), (x, c) ∈ cellsFrom n names [] → (x, NameKind.cell) ∈ names
  | [], n, h => by cases h
  | (name, kind) :: r, n, h => by
    unfold cellsFrom at h
    split at h
    · rename_i hk
      rw [cellsFrom_app] at h
      rcases List.mem_append.mp h with h | h
      · exact List.mem_cons_of_mem _ (cellsFrom_mem r _ h)
      · simp at h
        obtain ⟨rfl, rfl⟩ := h
        have : kind = .cell := by simpa using hk
        rw [this]; exact List.mem_cons_self
    · exact List.mem_cons_of_mem _ (cellsFrom_mem r _ h)
theorem bindL_other {k : Str → Option NameKind} {n : Str} : ∀ (l : List (Str × Value)) (m : Str → Option Value), n ∉ l.map (·.1) → bindL k l m n = m n
  | [], m, _ => rfl
  | (a, v) :: r, m, h => by
    simp only [List.map_cons, List.mem_cons, not_or] at h
    unfold bindL
    rw [bindL_other r _ h.2]
    split
    · simp [h.1]
    · rfl
theorem bindC_other {k : Str → Option NameKind} {n : Str} : ∀ (l : List (Str × Value)) (m : Str → Option Value), n ∉ l.map (·.1) → bindC k l m n = m n
  | [], m, _ => rfl
  | (a, v) :: r, m, h => by
    simp only [List.map_cons, List.mem_cons, not_or] at h
    unfold bindC
    rw [bindC_other r _ h.2]
    split
    · rfl
    · simp [h.1]
theorem bindL_get {k : Str → Option NameKind} {n : Str} {v : Value} (hk : k n = some .local) : ∀ (l : List (Str × Value)) (m : Str → Option Value), (l.map (·.1)).Nodup → (n, v) ∈ l → bindL k l m n = some v
  | (a, u) :: r, m, hd, h => by
    simp only [List.map_cons, List.nodup_cons] at hd
    unfold bindL
    rcases List.mem_cons.mp h with e | h
    · cases e
      rw [bindL_other r _ hd.1, if_pos hk]; simp
    · exact bindL_get hk r _ hd.2 h
theorem bindC_get {k : Str → Option NameKind} {n : Str} {v : Value} (hk : k n ≠ some .local) : ∀ (l : List (Str × Value)) (m : Str → Option Value), (l.map (·.1)).Nodup → (n, v) ∈ l → bindC k l m n = some v
  | (a, u) :: r, m, hd, h => by
    simp only [List.map_cons, List.nodup_cons] at hd
    unfold bindC
    rcases List.mem_cons.mp h with e | h
    · cases e
      rw [bindC_other r _ hd.1, if_neg hk]; simp
    · exact bindC_get hk r _ hd.2 h
theorem zip_get {I : Info} {μ : List Addr} {g : Heap} {x : Nat} {p : PV} : ∀ {xs : List Nat} {vs : List Value} {ps : List PV}, VRs μ g vs ps → getV x (envOf xs ps) = some p → ∃ v, (nm I x, v) ∈ (xs.map (nm I)).zip vs ∧ VR μ g v p
  | [], _, _, _, h => (nomatch h)
  | y :: xs, _, _, .nil, h => (nomatch h)
  | y :: xs, _, _, .cons (v := v) (p := q) (ps := ps) hv r, h => by
    have h : getV x (upd y q (envOf xs ps)) = some p := h
    rw [getV_upd] at h
    by_cases e : x = y
    · rw [if_pos e] at h
      cases h
      subst e
      exact ⟨v, .head _, hv⟩
    · rw [if_neg e] at h
      obtain ⟨u, h1, h2⟩ := zip_get (xs := xs) r h
      exact ⟨u, .tail _ h1, h2⟩
noncomputable def Frame (env : Env) : Addr → Prop := fun b => b = env.locals ∨ ∃ n, env.cells.lookup n = some b
section
variable {Γ : Cx} {A : Around} {σ : Hp} {μ : List Addr} {H : Addr → Prop} {s : Shared}
theorem enter {scope : Scope} {qual : Str} {func : Option Addr} {code : Value} {params : List Nat} {vs : List Value} {ps : List PV} {Q : Env → Shared → Prop} (S : Γ.St μ H σ s) (hk : scope.kind = .function)
    (hv : VRs μ (gr s.heap H) vs ps) (hlen : params.length = ps.length) (hnd : (params.map (nm Γ.I)).Nodup)
    (hkind : ∀ x ∈ params, scope.names.lookup (nm Γ.I x) = some .local ∨ scope.names.lookup (nm Γ.I x) = some .cell)
    (h : ∀ env H' s', env.scope = scope → env.cells = cellsFrom (s.heap.objs.size + 1) scope.names [] → Tr μ H s.heap s.os μ H' s'.heap s'.os → Γ.St μ H' σ s' → EnvR Γ env (envOf params ps) μ H' s'.heap → FOk (Frame env) μ H' s'.heap →
      (∀ b, Frame env b → s.heap.get? b = none) → (∀ b o, s.heap.get? b = some o → s'.heap.get? b = some o) → Q env s') :
    WP Γ A (newFunctionEnv scope mainGlobals [] ((params.map (nm Γ.I)).zip vs) qual func code none builtinsNs) Q s := by
  have hlv : vs.length = ps.length := by have := vrs_len hv; simpa using this
  have hnames : (((params.map (nm Γ.I)).zip vs).map (·.1)) = params.map (nm Γ.I) := by
    rw [List.map_fst_zip]; simp; (first | lia | omega)
  refine wpAny_newFunctionEnv_cells hk (fun x hx => ?_) fun env he s' x => ?_
  · have : x.1 ∈ params.map (nm Γ.I) := by rw [← hnames]; exact List.mem_map_of_mem hx
    obtain ⟨y, hy, e⟩ := List.mem_map.mp this
    rw [← e]
    rcases hkind y hy with h | h
    · exact .inl h
    · exact .inr ⟨h, cellsFrom_isSome _ _ _ (.inr (mem_of_lookup h))⟩
  · obtain ⟨h', tk, rfl, hkeep⟩ := x.done
    have hL : env.locals = s.heap.objs.size := by rw [he]; rfl
    have hfr : ∀ b, s.heap.objs.size ≤ b → s.heap.get? b = none := fun b hb => by
      cases q : s.heap.get? b with
      | none => rfl
      | some o => exact absurd (Heap.lt_size q) (Nat.not_lt.mpr hb)
    have hcl : ∀ n c, env.cells.lookup n = some c → s.heap.objs.size ≤ c := fun n c hc => by
      have := x.above n c (mem_of_lookup hc)
      rw [hL] at this; exact Nat.le_of_lt this
    have hmu : ∀ b, s.heap.objs.size ≤ b → b ∉ μ := fun b hb q => by
      obtain ⟨o, e⟩ := S.there b q
      rw [hfr b hb] at e; cases e
    have z := S.grow (s' := { s with heap := h', toks := tk }) (H' := fun b => H b ∨ s.heap.objs.size ≤ b) hkeep (fun b o e => by
      have : ¬ s.heap.objs.size ≤ b := Nat.not_le.mpr (Heap.lt_size e)
      simp [this]) rfl rfl
    have hF : FOk (Frame env) μ (fun b => H b ∨ s.heap.objs.size ≤ b) h' := by
      rintro b (rfl | ⟨n, hn⟩)
      · exact ⟨hmu _ (Nat.le_of_eq hL.symm), .inr (Nat.le_of_eq hL.symm), Ns.there x.toInCall.ns⟩
      · obtain ⟨o, e, _⟩ := x.cell n b hn
        exact ⟨hmu _ (hcl _ _ hn), .inr (hcl _ _ hn), o, e⟩
    have hsc : env.scope = scope := by rw [he]; rfl
    refine h env _ _ hsc (by rw [he]; rfl) z.2 z.1 ⟨by rw [hsc]; exact hk, by rw [he]; rfl, by rw [he]; rfl, ⟨_, x.toInCall.ns, fun y p hy hky => ?_⟩, fun y p hy hky => ?_, ⟨(hF _ (.inl rfl)).1, (hF _ (.inl rfl)).2.1⟩,
      fun n c hc => ⟨(hF _ (.inr ⟨n, hc⟩)).1, (hF _ (.inr ⟨n, hc⟩)).2.1, _, x.cell n c hc⟩, fun n n' c h1 h2 => name_of_addr x.apart (mem_of_lookup h1) (mem_of_lookup h2),
      fun n c hc => Nat.ne_of_gt (x.above n c (mem_of_lookup hc))⟩ hF (fun b hb => ?_) hkeep
    · obtain ⟨v, h1, h2⟩ := zip_get (I := Γ.I) hv hy
      exact ⟨v, bindL_get hky _ _ (by rw [hnames]; exact hnd) h1, h2.tr z.2⟩
    · obtain ⟨v, h1, h2⟩ := zip_get (I := Γ.I) hv hy
      have hnl : env.kindOf (nm Γ.I y) ≠ some .local := by rcases hky with e | e <;> rw [e] <;> decide
      have hym : nm Γ.I y ∈ params.map (nm Γ.I) := by
        have := List.of_mem_zip h1
        exact this.1
      obtain ⟨y', hy', e'⟩ := List.mem_map.mp hym
      have hc' : scope.names.lookup (nm Γ.I y) = some .cell := by
        rcases hkind y' hy' with q | q
        · rw [e'] at q
          exact absurd (by unfold Env.kindOf; rw [hsc]; exact q) hnl
        · rw [e'] at q; exact q
      have hs : (env.cells.lookup (nm Γ.I y)).isSome = true := by
        rw [he]
        exact cellsFrom_isSome _ _ _ (.inr (mem_of_lookup hc'))
      obtain ⟨c, hc⟩ := Option.isSome_iff_exists.mp hs
      have := x.cell _ c hc
      rw [bindC_get hnl _ _ (by rw [hnames]; exact hnd) h1] at this
      exact ⟨c, v, hc, this, h2.tr z.2⟩
    · rcases hb with rfl | ⟨n, hn⟩
      · exact hfr _ (Nat.le_of_eq hL.symm)
      · exact hfr _ (hcl _ _ hn)
end
end Mine
end
section
namespace Mine
open PySem PySem.W PySem.Calls PyProof.Rows
noncomputable def CR (Γ : Cx) (μ : List Addr) (H : Addr → Prop) (s : Shared) (p : PV) (σ' : Hp) : Result → Shared → Prop := fun r s' => match r with
  | .ok (.ret v) => Post Γ μ H s.heap s.os (RV p) σ' v s'
  | _ => False
noncomputable def kwn (Γ : Cx) (f na nk : Nat) : List Str := (((Γ.par f).drop na).take nk).map (nm Γ.I)
noncomputable def CallOk (Γ : Cx) (n : Nat) (O : Orc) : Prop := ∀ f ps σ p σ', O f ps σ = some (p, σ') → ∀ A, Room n A → ∀ μ H s as ks, Γ.St μ H σ s → VRs μ (gr s.heap H) (as ++ ks) ps → (as.length, ks.length) ∈ Γ.forms f →
  codeAny (model Γ.prog Γ.w) A (.call (.ref (Γ.fa f)) ⟨as, (kwn Γ f as.length ks.length).zip ks⟩) (CR Γ μ H s p σ') s
structure FnOk (Γ : Cx) (f : Nat) (fn : Fn) (fd : FuncData) (body : List Stmt) : Prop where
  at_ : ∃ o, Γ.B.get? (Γ.fa f) = some o ∧ o.data = .func fd
  code : Γ.B.CodeRec fd.code fd.qualname
  body : fd.body = .stmts body
  clo : fd.closure = []
  co : fd.scope.isCoroutine = false
  gen : fd.scope.isGenerator = false
  kind : fd.scope.kind = .function
  glob : fd.globals = mainGlobals
  blt : fd.builtins = builtinsNs
  names : (fn.params.map (nm Γ.I)).Nodup
  kinds : ∀ x ∈ fn.params, fd.scope.names.lookup (nm Γ.I x) = some .local ∨ fd.scope.names.lookup (nm Γ.I x) = some .cell
  dflts : ∀ d ∈ fn.dflts, d = .d .none
  par : Γ.par f = fn.params
  bind : ∀ na nk, (na, nk) ∈ Γ.forms f → ∀ s as ks, (∀ b o, Γ.B.get? b = some o → s.heap.get? b = some o) → as.length = na → ks.length = nk →
    BindsTo s fd ⟨as, (kwn Γ f na nk).zip ks⟩ ((fn.params.map (nm Γ.I)).zip (as ++ ks ++ List.replicate (fn.params.length - na - nk) .none))
theorem Room.deeper {n : Nat} {A : Around} (r : Room (n + 1) A) (env : Env) : Room n (A.deeper env) :=
  ⟨by have := r.depth; show A.depth + 1 + n < 900; (first | lia | omega), by have := r.units; show A.units + 3 + 4 * n + 100 < 9000; (first | lia | omega), r.hand⟩
section
variable {Γ : Cx}
theorem vrs_nones {μ : List Addr} {g : Heap} : ∀ {ds : List PV}, (∀ d ∈ ds, d = .d .none) → VRs μ g (List.replicate ds.length .none) ds
  | [], _ => .nil
  | d :: r, h => by
    rw [List.length_cons, List.replicate_succ, h d (by simp)]
    exact .cons (vr_none _) (vrs_nones fun e he => h e (by simp [he]))
theorem call_one {n f : Nat} {fn : Fn} {fd : FuncData} {body : List Stmt} {O : Orc} (K : Γ.Ok) (X : FnOk Γ f fn fd body)
    (hB : ∀ A', Room n A' → ∀ env, env.scope = fd.scope → (∀ x, fd.scope.names.lookup x = some .cell → ∃ c, env.cells.lookup x = some c) → ∀ ρ σ fl ρ' σ', exSs Γ.I O fn.body ρ σ = some (fl, ρ', σ') →
      TS Γ A' env (Frame env) (execs body env) ρ σ fl ρ' σ')
    {ps : List PV} {σ σ' : Hp} {p : PV} (e : runFn Γ.I O fn ps σ = some (p, σ')) {A : Around} (R : Room (n + 1) A) {μ : List Addr} {H : Addr → Prop} {s : Shared} {as ks : List Value} (S : Γ.St μ H σ s)
    (hv : VRs μ (gr s.heap H) (as ++ ks) ps) (hf : (as.length, ks.length) ∈ Γ.forms f) :
    codeAny (model Γ.prog Γ.w) A (.call (.ref (Γ.fa f)) ⟨as, (kwn Γ f as.length ks.length).zip ks⟩) (CR Γ μ H s p σ') s := by
  obtain ⟨o, ho, hd⟩ := X.at_
  obtain ⟨ρ, hb, e1⟩ := bn_some e
  obtain ⟨fl, y, hr, e2⟩ := bd_some e1
  obtain ⟨q, hq, e3⟩ := mp_some e2
  have hlen : (as ++ ks).length = ps.length := vrs_len hv
  obtain ⟨hl, hb⟩ := gd_val hb
  subst hb
  generalize hds : fn.dflts.drop (fn.dflts.length - (fn.params.length - ps.length)) = ds at hl hr
  have hdn : ∀ d ∈ ds, d = .d .none := fun d h => X.dflts d (by rw [← hds] at h; exact List.mem_of_mem_drop h)
  have hl2 : ps.length + ds.length = fn.params.length := by rw [← List.length_append]; exact hl.2
  have hdl : ds.length = fn.params.length - as.length - ks.length := by rw [List.length_append] at hlen; (first | lia | omega)
  have hbind := X.bind _ _ hf s as ks (St.base S) rfl rfl
  rw [← hdl] at hbind
  refine codeAny_call_function (body := body) (by have := R.depth; show A.depth < 1000; (first | lia | omega)) (St.base S _ _ ho) hd X.co X.gen X.body (X.code.keeps (St.base S)) (hbind _ _ _ _ ?_)
  rw [X.glob, X.clo, X.blt]
  refine enter S X.kind (vrs_append hv (vrs_nones hdn)) hl.2.symm X.names X.kinds fun env H' s' hsc hce T S' E' F' fresh keep => ⟨(K.lim.keeps (St.base S')), codeAny_func ?_⟩
  refine SPost.use (hB (A.deeper env) (R.deeper env) env hsc (fun x hx => by
    rw [hce]
    exact Option.isSome_iff_exists.mp (cellsFrom_isSome _ _ _ (.inr (mem_of_lookup hx)))) _ _ _ _ _ hr μ H' s' S' E' F') fun fo s₂ μ₂ H₂ T₂ S₂ E₂ R₂ => ?_
  have T' : Tr μ H s.heap s.os μ₂ H₂ s₂.heap s₂.os := ((T.toF (Frame env)).trans T₂).toTr fresh
  obtain ⟨rfl, rfl⟩ : q = p ∧ y.2 = σ' := Prod.mk.inj e3
  cases fl with
  | next =>
    have : fo = .next := R₂
    subst this
    cases hq
    exact ⟨μ₂, H₂, T', S₂, vr_none _⟩
  | brk => cases hq
  | ret q =>
    obtain ⟨v, h1, h2⟩ := R₂
    subst h1
    cases hq
    exact ⟨μ₂, H₂, T', S₂, h2⟩
end
end Mine
end
section
namespace Mine
open PySem PySem.W PySem.Calls PyProof.Rows
section
variable {Γ : Cx} {A : Around} {env : Env} {ρ ρ' : En} {σ σ₁ σ₂ σ₃ σ₄ : Hp} {μ : List Addr} {H : Addr → Prop} {s : Shared} {n : Nat} {O : Orc}
theorem Room.in1 (r : Room (n + 1) A) : Room n A.in1 := ⟨by have := r.depth; show A.depth + n < 900; (first | lia | omega), by have := r.units; show A.units + 1 + 4 * n + 100 < 9000; (first | lia | omega), r.hand⟩
theorem args_ok {f : Value} {trees : List (Bool × Sem Value)} {kws : List (Option Str × Sem Value)} {Q : Args → Shared → Prop} (hp : trees.any (·.1) = false) (hall : kws.all (·.1.isSome) = true)
    (h : WP Γ A (spliced trees) (fun vs s₁ => WP Γ A (evalAll (kws.map (·.2))) (fun ks s₂ => Q ⟨vs, (kws.filterMap (·.1)).zip ks⟩ s₂) s₁) s) : WP Γ A (evalArgs f true trees kws) Q s := by
  cases trees with
  | nil =>
    unfold evalArgs
    show WP Γ A (spliced [] >>= _) Q s
    refine wpAny_bind (wpAny_mono h (fun vs s₁ h₁ => ?_) fun _ _ x => x)
    refine wpAny_bind (wpAny_pure (wpAny_holding ?_))
    simp only [hall, if_true]
    refine wpAny_bind (wpAny_mono h₁ (fun ks s₂ h₂ => ?_) fun _ _ x => x)
    exact wpAny_bind (wpAny_pure (wpAny_pure h₂))
  | cons x rest =>
    obtain ⟨b, t⟩ := x
    simp only [List.any_cons, Bool.or_eq_false_iff] at hp
    obtain ⟨rfl, hp⟩ := hp
    exact evalArgs_kw hall h
noncomputable def TKs (Γ : Cx) (A : Around) (env : Env) (kws : List (Option Str × Sem Value)) (ρ : En) (σ : Hp) (ps : List PV) (σ' : Hp) : Prop :=
  ∀ μ H s, Γ.St μ H σ s → EnvR Γ env ρ μ H s.heap → Does Γ A (evalAll (kws.map (·.2))) μ H s (RVs ps) σ'
theorem tks_nil {pos : Pos} : TKs Γ A env (backToKw pos (keywordEach [] env)) ρ σ [] σ := fun _ _ s S _ => wpAny_evalAll_nil (Post.now S (R := RVs []) .nil s.toks)
theorem tks_one {pos : Pos} {k : Keyword} {p : PV} (h : TV Γ A env (eval k.value env) ρ σ p σ₁) : TKs Γ A env (backToKw pos (keywordEach [k] env)) ρ σ [p] σ₁ := fun μ H s S E => by
  obtain ⟨nm, v, ps⟩ := k
  refine wpAny_evalAll_cons (wpAny_bind (Does.use (h μ H s S E) fun v s₁ μ₁ H₁ T₁ S₁ r => wpAny_bind (wpAny_standAt (wpAny_pure (wpAny_evalAll_nil ?_)))))
  exact ⟨μ₁, H₁, T₁, S₁, .cons r .nil⟩
theorem with_args {pos : Pos} {f : Value} {first : List Value} {fps ps qs : List PV} {trees : List (Bool × Sem Value)} {kws : List (Option Str × Sem Value)} {R : Value → List Addr → (Addr → Prop) → Heap → Prop} (K : Γ.Ok) (S : Γ.St μ H σ s) (E : EnvR Γ env ρ μ H s.heap)
    (hf : keepIn Γ.K f = true) (hp : trees.any (·.1) = false) (hall : kws.all (·.1.isSome) = true) (ha : TVs Γ A env (spliced trees) ρ σ ps σ₁) (hk : TKs Γ A env kws ρ σ₁ qs σ₂) (hfirst : VRs μ (gr s.heap H) first fps)
    (h : ∀ μ₂ H₂ s₂ vs ks, Tr μ H s.heap s.os μ₂ H₂ s₂.heap s₂.os → Γ.St μ₂ H₂ σ₂ s₂ → VRs μ₂ (gr s₂.heap H₂) (first ++ vs) (fps ++ ps) → VRs μ₂ (gr s₂.heap H₂) ks qs → Does Γ A (call f (first ++ vs) ((kws.filterMap (·.1)).zip ks)) μ₂ H₂ s₂ R σ₃) :
    Does Γ A (callWith pos f first trees kws) μ H s R σ₃ := by
  refine callWith_of (P := fun h => Γ.K.In h) ?_ (keeps_K hf) (args_ok hp hall ?_)
  · rw [hp]
    rw [List.all_eq_true] at hall
    simp only [Bool.false_or, List.any_eq_false]
    intro x hx
    have := hall x hx
    cases h : x.1 <;> simp_all
  · refine Does.use (ha μ H s S E) fun vs s₁ μ₁ H₁ T₁ S₁ r₁ => ?_
    refine Does.use (hk μ₁ H₁ s₁ S₁ (E.tr T₁)) fun ks s₂ μ₂ H₂ T₂ S₂ r₂ => ⟨St.kin K S₂, ?_⟩
    have T := T₁.trans T₂
    exact (h μ₂ H₂ s₂ vs ks T S₂ (vrs_append (hfirst.tr T) (r₁.tr T₂)) r₂).after T
theorem fn_keep {K : Frag} {f : Addr} (h : fnIn K f = true) : keepIn K (.ref f) = true := by
  unfold fnIn at h
  unfold keepIn
  split at h
  · rename_i e; dsimp only; rw [e]
  · cases h
theorem CR.call {f : Value} {as : List Value} {kw : List (Str × Value)} {p : PV} (h : codeAny (model Γ.prog Γ.w) A (.call f ⟨as, kw⟩) (CR Γ μ H s p σ₁) s) : Does Γ A (call f as kw) μ H s (RV p) σ₁ :=
  wpAny_call (codeAny_mono h fun r s' z => by
    match r, z with
    | .ok (.ret v), z => exact z)
theorem te_call {f : Nat} {id : Str} {np pos : Pos} {es : List Expr} {ps : List PV} {p : PV} (K : Γ.Ok) (R : Room (n + 1) A) (C : CallOk Γ n O) (hg : Γ.mg id = some (.ref (Γ.fa f))) (hk : env.kindOf id = some .globalImplicit)
    (hd : (id == ("__debug__" : Str)) = false) (hf : keepIn Γ.K (.ref (Γ.fa f)) = true) (hp : (backTo pos (starEach es env)).any (·.1) = false) (ha : TVs Γ A env (spliced (backTo pos (starEach es env))) ρ σ ps σ₁)
    (hform : (ps.length, 0) ∈ Γ.forms f) (e : O f ps σ₁ = some (p, σ₂)) : TE Γ A env (eval (.Call (.Name id np) es [] pos) env) ρ σ (.val p) σ₂ := fun μ H s S E => by
  refine wpAny_Call_ofName (name_gl K S E (.inl hg) hk hd ?_)
  refine with_args (fps := []) (qs := []) (R := RV p) K S E hf hp rfl ha (tks_nil (pos := pos)) .nil fun μ₂ H₂ s₂ vs ks T₂ S₂ r₁ r₂ => ?_
  have hks : ks = [] := by cases r₂; rfl
  subst hks
  have hl : (([] : List Value) ++ vs).length = ps.length := by have := vrs_len r₁; simpa using this
  have z := C f ps σ₁ p σ₂ e A (R.le (Nat.le_succ n)) μ₂ H₂ s₂ ([] ++ vs) [] S₂ (by simpa using r₁) (by rw [hl]; exact hform)
  exact CR.call (by simpa using z)
theorem te_own {l x f : Nat} {o : Expr} {id : Str} {apos pos : Pos} {es : List Expr} {kws : List Keyword} {ps qs : List PV} {p : PV} (K : Γ.Ok) (R : Room (n + 1) A) (C : CallOk Γ n O) (hn : id = nm Γ.I x)
    (hbase : attributeBase o id env (eval o env) = eval o env) (hfew : methodCallForm (es.length + kws.length) (backTo pos (starEach es env)) (backToKw pos (keywordEach kws env)) = true) (hline : (apos.endLine == pos.line) = true)
    (ho : TV Γ A env (eval o env) ρ σ (.loc l) σ₁) (hp : (backTo pos (starEach es env)).any (·.1) = false) (hall : (backToKw pos (keywordEach kws env)).all (·.1.isSome) = true)
    (ha : TVs Γ A env (spliced (backTo pos (starEach es env))) ρ σ₁ ps σ₂) (hq : TKs Γ A env (backToKw pos (keywordEach kws env)) ρ σ₂ qs σ₃) (hl : methOf Γ.I σ₁ l x = some f)
    (hform : (ps.length + 1, qs.length) ∈ Γ.forms f) (hkn : (backToKw pos (keywordEach kws env)).filterMap (·.1) = kwn Γ f (ps.length + 1) qs.length) (hff : fnIn Γ.K (Γ.fa f) = true)
    (e : O f (.loc l :: (ps ++ qs)) σ₃ = some (p, σ₄)) : TE Γ A env (eval (.Call (.Attribute o id apos) es kws pos) env) ρ σ (.val p) σ₄ := fun μ H s S E => by
  subst hn
  rw [arm_eval_Call, hbase]
  refine Does.bind (R' := RV p) (ho μ H s S E) fun v μ₁ H₁ s₁ T₁ S₁ r => wpAny_bind (wpAny_standAt ?_)
  obtain ⟨a, ha', rfl⟩ := v_loc r
  unfold methodCall
  rw [hfew]
  refine wpAny_bind (wpAny_holding ?_)
  refine d_methOf K S₁ ha' hl ?_
  have hpos : methodCallPos true o env apos pos = pure pos := by unfold methodCallPos; simp [hline]
  refine wpAny_bind (wpAny_of_eq hpos ?_)
  refine with_args (fps := [.loc l]) (R := RV p) K S₁ (E.tr T₁) (fn_keep hff) hp hall ha hq (.cons r .nil) fun μ₂ H₂ s₂ vs ks T₂ S₂ r₁ r₂ => ?_
  have e1 : ([Value.ref a] ++ vs).length = ps.length + 1 := by have := vrs_len r₁; simpa using this
  have e2 : ks.length = qs.length := vrs_len r₂
  have z := C f (.loc l :: (ps ++ qs)) σ₃ p σ₄ e A (R.le (Nat.le_succ n)) μ₂ H₂ s₂ ([.ref a] ++ vs) ks S₂ (by have := vrs_append r₁ r₂; simpa using this) (by rw [e1, e2]; exact hform)
  rw [e1, e2, ← hkn] at z
  exact CR.call z
end
end Mine
end
section
namespace Mine
open PySem PySem.W PySem.Calls PyProof.Rows
section
variable {Γ : Cx} {A : Around} {env : Env} {ρ ρ' : En} {σ σ₁ σ₂ σ₃ σ₄ : Hp} {μ : List Addr} {H : Addr → Prop} {s : Shared} {n : Nat} {O : Orc} {F : Addr → Prop}
theorem own_call {l f : Nat} {a : Addr} {vs : List Value} {ps : List PV} {p : PV} (R : Room n A) (C : CallOk Γ n O) (S : Γ.St μ H σ s) (ha : μ[l]? = some a) (hv : VRs μ (gr s.heap H) vs ps)
    (hform : (ps.length + 1, 0) ∈ Γ.forms f) (e : O f (.loc l :: ps) σ = some (p, σ₁)) : Does Γ A (call (.ref (Γ.fa f)) (.ref a :: vs)) μ H s (RV p) σ₁ := by
  have e1 : (Value.ref a :: vs).length = ps.length + 1 := by have := vrs_len hv; simpa using this
  have z := C f _ σ p σ₁ e A R μ H s (.ref a :: vs) [] S (by simpa using VRs.cons (VR.loc ha) hv) (by rw [e1]; exact hform)
  exact CR.call (by simpa using z)
theorem d_idxI {l f : Nat} {v v' : Value} {q r : PV} {value slice : Expr} (K : Γ.Ok) (R : Room (n + 1) A) (C : CallOk Γ n O) (S : Γ.St μ H σ s) (hv : VR μ (gr s.heap H) v (.loc l)) (hw : VR μ (gr s.heap H) v' q)
    (hl : methOf Γ.I σ l Γ.I.nGet = some f) (hform : (2, 0) ∈ Γ.forms f) (e : O f [.loc l, q] σ = some (r, σ₁))
    (hsl : subscripted slice true v v' = runValue (.builtin "lifetime.subscript" ⟨[v, v'], []⟩)) : Does Γ A (subscriptTail value slice v v') μ H s (RV r) σ₁ := by
  obtain ⟨a, ha, rfl⟩ := v_loc hv
  obtain ⟨D, ox, od, _, I, _, m1, m2, m3, m4⟩ := methOf_inst K S ha hl
  rw [K.nGet] at m1
  have X := St.kin K S
  unfold fnIn at m3
  split at m3
  · rename_i e'
    unfold subscriptTail getitemInPython
    refine wpAny_bind (wpAny_bind (wpAny_bind (I.type.here ((looks_findIn X m1).here ?_))))
    dsimp only
    refine wpAny_bind (wpAny_load (X _ _ e') (wpAny_pure ?_))
    dsimp only
    rw [hsl]
    refine wpAny_bind (wpAny_runValue (codeAny_builtin entry_sub ?_))
    unfold Builtin.«lifetime.subscript»
    refine wpAny_bind (special_fn X I m1 m2 (wpAny_mono (own_call (Room.in1 R) C S ha (.cons hw .nil) hform e) (fun v s' z => ?_) fun _ _ z => z))
    refine wpAny_pure ?_
    show wpAny (model Γ.prog Γ.w) A (letTemporaryGo value (.ref a) v >>= fun _ => pure v) _ _ s'
    exact wpAny_bind (wpAny_letTemporaryGo (wpAny_pure z))
  · cases m3
theorem d_lenI {l f : Nat} {v : Value} {k : Int} (K : Γ.Ok) (R : Room (n + 1) A) (C : CallOk Γ n O) (S : Γ.St μ H σ s) (hv : VR μ (gr s.heap H) v (.loc l)) (hl : methOf Γ.I σ l Γ.I.nLen = some f) (hform : (1, 0) ∈ Γ.forms f)
    (e : O f [.loc l] σ = some (.d (.int k), σ₁)) (hk : 0 ≤ k ∧ k < 2 ^ 63) : Does Γ A (call (.builtin "len") [v]) μ H s (RV (.d (.int k))) σ₁ := by
  obtain ⟨a, ha, rfl⟩ := v_loc hv
  obtain ⟨D, ox, od, _, I, _, m1, m2, m3, m4⟩ := methOf_inst K S ha hl
  rw [K.nLen] at m1
  refine Calls.call_function_entry kind_len plain_len entry_len (args_len1 _) ?_
  unfold Builtin.«len»
  refine wpAny_bind (m := oneArg "len" _) (wpAny_pure ?_)
  refine wpAny_bind (m := callSpecial? (.ref a) (Str.ofString "__len__")) (special_fn (St.kin K S) I m1 m2 (Does.use (own_call (Room.in1 R) C S ha .nil hform e) fun r s' μ' H' T' S' hr => ?_))
  obtain ⟨t, rfl⟩ := v_int hr
  obtain ⟨h0, h1⟩ := hk
  refine wpAny_bind (wpAny_holding (wpAny_pure ?_))
  refine wpAny_bind (wpAny_letGo ?_)
  show wpAny _ _ (if k < 0 then _ else _) _ _ _
  rw [if_neg (by (first | lia | omega))]
  show wpAny _ _ (if k ≥ 2 ^ 63 then _ else _) _ _ _
  rw [if_neg (by (first | lia | omega))]
  refine wpAny_bind (wpAny_mkInt (wpAny_pure ⟨_, rfl, ?_⟩))
  exact (Post.now S' (R := RV (.d (.int k))) (vr_int k _ _) _).after T'
theorem d_delI {l f : Nat} {v v' : Value} {q p : PV} (K : Γ.Ok) (R : Room (n + 1) A) (C : CallOk Γ n O) (S : Γ.St μ H σ s) (hv : VR μ (gr s.heap H) v (.loc l)) (hw : VR μ (gr s.heap H) v' q)
    (hl : methOf Γ.I σ l Γ.I.nDel = some f) (hform : (2, 0) ∈ Γ.forms f) (e : O f [.loc l, q] σ = some (p, σ₁)) : Does Γ A (delItem v v') μ H s (fun _ _ _ _ => True) σ₁ := by
  obtain ⟨a, ha, rfl⟩ := v_loc hv
  obtain ⟨D, ox, od, _, I, _, m1, m2, m3, m4⟩ := methOf_inst K S ha hl
  rw [K.nDel] at m1
  have X := St.kin K S
  unfold delItem sequenceKey
  refine wpAny_holding (wpAny_bind (wpAny_bind (I.type.here ?_)))
  refine wpAny_bind ((anyM_none X m4).here ?_)
  rw [if_pos (show (!false) = true from rfl)]
  refine wpAny_pure (wpAny_bind (special_fn X I m1 m2 (Does.use (own_call (R.le (Nat.le_succ n)) C S ha (.cons hw .nil) hform e) fun _ s' μ' H' T' S' _ => wpAny_pure ?_)))
  exact ⟨μ', H', T', S', trivial⟩
theorem ts_del {o i : Expr} {pos pos' : Pos} {l f : Nat} {q p : PV} (K : Γ.Ok) (R : Room (n + 1) A) (C : CallOk Γ n O) (ho : TV Γ A env (eval o env) ρ σ (.loc l) σ₁) (hi : TV Γ A env (eval i env) ρ σ₁ q σ₂)
    (hl : methOf Γ.I σ₂ l Γ.I.nDel = some f) (hform : (2, 0) ∈ Γ.forms f) (e : O f [.loc l, q] σ₂ = some (p, σ₃)) : TS Γ A env F (exec (.Delete [.Subscript o i pos'] pos) env) ρ σ .next ρ σ₃ := fun μ H s S E hF => by
  refine wpAny_Delete (wpAny_deleteEach_cons (wpAny_delete_Subscript ?_))
  refine Does.use (ho μ H s S E) fun v s₁ μ₁ H₁ T₁ S₁ r₁ => ?_
  refine Does.use (hi μ₁ H₁ s₁ S₁ (E.tr T₁)) fun w s₂ μ₂ H₂ T₂ S₂ r₂ => ?_
  refine Does.use (d_delI K R C S₂ (r₁.tr T₂) r₂ hl hform e) fun _ s₃ μ₃ H₃ T₃ S₃ _ => wpAny_deleteEach_nil ?_
  have T := (T₁.trans T₂).trans T₃
  exact ⟨μ₃, H₃, T.toF F, S₃, E.tr T, rfl⟩
theorem te_new {c : Nat} {k : Cls} {id : Str} {np pos : Pos} {es : List Expr} {ps : List PV} (K : Γ.Ok) (R : Room (n + 1) A) (C : CallOk Γ n O) (hc : lk c Γ.I.cls = some k) (hg : Γ.mg id = some (.ref k.addr)) (hk : env.kindOf id = some .globalImplicit)
    (hd : (id == ("__debug__" : Str)) = false) (hp : (backTo pos (starEach es env)).any (·.1) = false) (ha : TVs Γ A env (spliced (backTo pos (starEach es env))) ρ σ ps σ₁)
    (hform : (ps.length + 1, 0) ∈ Γ.forms k.init) (e : O k.init (.loc (σ₁.length + 1) :: ps) (σ₁ ++ [.ns []] ++ [.inst k.addr σ₁.length]) = some (.d .none, σ₂)) :
    TE Γ A env (eval (.Call (.Name id np) es [] pos) env) ρ σ (.val (.loc (σ₁.length + 1))) σ₂ := fun μ H s S E => by
  have C0 := K.cls c k hc
  refine wpAny_Call_ofName (name_gl K S E (.inl hg) hk hd ?_)
  refine with_args (fps := []) (qs := []) (R := RV (.loc (σ₁.length + 1))) K S E C0.keep hp rfl ha (tks_nil (pos := pos)) .nil fun μ₂ H₂ s₂ vs ks T₂ S₂ r₁ r₂ => ?_
  have hks : ks = [] := by cases r₂; rfl
  subst hks
  obtain ⟨h, g, d, t, os⟩ := s₂
  have hX := St.kin K S₂
  refine wpAny_call (make_core (makes_of hX C0.makes) (looks_findIn hX C0.init) (fun self => bind_fn hX self C0.initF) (.inl rfl) ?_)
  have hs0 := size_none h
  have z1 := S₂.new (s' := ⟨h.push emptyDict, g, d, t, os⟩) (a := h.objs.size) (o' := .ns []) (H' := fun b => H₂ b ∨ h.objs.size ≤ b) hs0 (fun b o e => Heap.get?_push_of_some _ e) ⟨_, Heap.get?_push_size _ rfl⟩
    (fun b o e => by
      have : ¬ h.objs.size ≤ b := Nat.not_le.mpr (Heap.lt_size e)
      simp [this]) (.inr (Nat.le_refl _)) rfl rfl ⟨#[], 0, Heap.get?_push_size _ rfl, .nil⟩
  have hsz : (h.push emptyDict).objs.size = h.objs.size + 1 := Heap.size_push ..
  have hx : ((h.push emptyDict).push (instObj k.addr h.objs.size)).get? (h.objs.size + 1) = some (instObj k.addr h.objs.size) := by
    rw [← hsz]; exact Heap.get?_push_size _ rfl
  have z2 := z1.1.new (s' := ⟨(h.push emptyDict).push (instObj k.addr h.objs.size), g, d, t, os⟩) (a := h.objs.size + 1) (o' := .inst k.addr σ₁.length) (H' := fun b => H₂ b ∨ h.objs.size ≤ b) (by rw [← hsz]; exact size_none _) (fun b o e => Heap.get?_push_of_some _ e) ⟨_, hx⟩
    (fun b o e => Iff.rfl) (.inr (Nat.le_succ _)) rfl rfl ⟨h.objs.size, by
      have : μ₂.length = σ₁.length := S₂.len
      rw [← this]
      simp, hx⟩
  have T := z1.2.trans z2.2
  have hloc : (μ₂ ++ [h.objs.size] ++ [h.objs.size + 1])[σ₁.length + 1]? = some (h.objs.size + 1) := by
    have : μ₂.length = σ₁.length := S₂.len
    rw [← this]
    simp
  have hv : VRs (μ₂ ++ [h.objs.size] ++ [h.objs.size + 1]) (gr ((h.push emptyDict).push (instObj k.addr h.objs.size)) fun b => H₂ b ∨ h.objs.size ≤ b) (.ref (h.objs.size + 1) :: vs) (.loc (σ₁.length + 1) :: ps) :=
    .cons (.loc hloc) (VRs.tr T (by simpa using r₁))
  have e1 : (Value.ref (h.objs.size + 1) :: vs).length = ps.length + 1 := by have := vrs_len hv; simpa using this
  have w := C k.init _ _ _ _ e (A.under (.builtin "type.__call__" ⟨.ref k.addr :: ([] ++ vs), []⟩)) ?_ _ _ _ (.ref (h.objs.size + 1) :: vs) [] z2.1 (by rw [List.append_nil]; exact hv) (by rw [e1]; exact hform)
  · rw [List.zip_nil_right] at w
    refine codeAny_mono w fun r s' zz => ?_
    match r, zz with
    | .ok (.ret v), ⟨μ', H', T', S', r'⟩ =>
      refine ⟨v_none r', μ', H', T.trans T', S', ?_⟩
      obtain ⟨ν, hν⟩ := T'.pre
      refine .loc ?_
      rw [hν, List.getElem?_append_left (by
        have : μ₂.length = σ₁.length := S₂.len
        simp; (first | lia | omega))]
      exact hloc
  · refine ⟨?_, ?_, ?_⟩
    · have := R.depth
      rw [depth_under_make]; (first | lia | omega)
    · have := R.units
      rw [units_under_make]; (first | lia | omega)
    · exact R.hand
end
end Mine
end
section
namespace Mine
open PySem PySem.W PySem.Calls PyProof.Rows
noncomputable def ownsTup (n : String) : Bool := ["enumerate", "zip", "dict_itemiterator", "dict_reverseitemiterator", "odict_iterator", "itertools.zip_longest", "itertools.pairwise"].contains n
section
variable {Γ : Cx} {A : Around} {s : Shared} {I : Addr}
set_option backward.match.sparseCases true in
theorem letGo_other {target : Expr} {v : Value} {o : Obj} {nme : String} {Q : Unit → Shared → Prop} (ho : s.heap.get? I = some o) (hc : o.cls = .type nme) (hn : ownsTup nme = false) (h : Q () s) : WP Γ A (letOwnedTupleGo target (.ref I) v) Q s := by
  have key : ∀ a, WP Γ A (do
      let o ← load I
      match o.cls, o.data with
      | .type n, .fields vs =>
        if ["enumerate", "zip", "dict_itemiterator", "dict_reverseitemiterator", "odict_iterator", "itertools.zip_longest", "itertools.pairwise"].contains n && vs[0]? == some (rawInt a) then
          rule "for.unpacks-the-owned-tuple"
          updateField I 0 .none
      | _, _ => pure ()) Q s := fun a => by
    refine wpAny_bind (wpAny_load ho ?_)
    rw [hc]
    cases hd : o.data <;> try exact wpAny_pure h
    dsimp only
    unfold ownsTup at hn
    rw [hn, Bool.false_and, if_neg (by decide)]
    exact wpAny_pure h
  have t : ∀ pos, WP Γ A (letOwnedTupleGo (.Tuple [] 0 pos) (.ref I) v) Q s := fun pos => by
    cases v <;> first | exact wpAny_pure h | exact key _
  cases target with
  | Tuple _ _ pos => exact t pos
  | List _ pos => exact t pos
  | _ => exact wpAny_pure h
noncomputable def fpOk (fp wr : List Addr) (H : Addr → Prop) (h : Heap) : Prop := ∀ b ∈ fp, b ∈ wr ∨ ∃ o, (gr h H).get? b = some o
theorem fpOk.keep {fp wr : List Addr} {H H' : Addr → Prop} {h h' : Heap} (x : fpOk fp wr H h) (g : ∀ b o, (gr h H).get? b = some o → (gr h' H').get? b = some o) (k : ∀ b ∈ wr, ∀ o, h.get? b = some o → h'.get? b = some o) :
    fpOk fp wr H' h' ∧ ∀ b ∈ fp, ∀ o, h.get? b = some o → h'.get? b = some o := by
  refine ⟨fun b hb => (x b hb).imp id fun ⟨o, e⟩ => ⟨o, g b o e⟩, fun b hb o e => ?_⟩
  rcases x b hb with h1 | ⟨o', e'⟩
  · exact k b h1 o e
  · have e1 := (only_get.mp e').1
    rw [e] at e1; cases e1
    exact (only_get.mp (g b o e')).1
theorem adv_imm {σ : Hp} {items : List Item} {i : Nat} {it : Item} {c' : Cur} (h : adv σ (.imm (items.drop i)) = some (some (it, c'))) : items[i]? = some it ∧ i < items.length ∧ c' = .imm (items.drop (i + 1)) := by
  by_cases hi : i < items.length
  · rw [List.drop_eq_getElem_cons hi] at h
    cases h
    exact ⟨List.getElem?_eq_getElem hi, hi, rfl⟩
  · rw [List.drop_eq_nil_of_le (Nat.le_of_not_lt hi)] at h
    cases h
theorem adv_end {σ : Hp} {items : List Item} {i : Nat} (h : adv σ (.imm (items.drop i)) = some none) : items.length ≤ i := by
  by_cases hi : i < items.length
  · rw [List.drop_eq_getElem_cons hi] at h
    cases h
  · exact Nat.le_of_not_lt hi
theorem gr_but {σ : Hp} {μ : List Addr} {H : Addr → Prop} {h' : Heap} {wr : List Addr} (hW : FOk (· ∈ wr) μ H s.heap) (k : ∀ b o, b ∉ wr → s.heap.get? b = some o → h'.get? b = some o) : ∀ b o, (gr s.heap H).get? b = some o → (gr h' H).get? b = some o := fun b o e => by
  obtain ⟨e1, e2⟩ := only_get.mp e
  exact only_get.mpr ⟨k b o (fun q => e2 (hW b q).2.1) e1, e2⟩
noncomputable def PW (StW : Nat → Heap → Prop) (fp wr : List Addr) (items : List Item) (R : Nat → Item → List Addr → Heap → Prop) : Cur → List Addr → (Addr → Prop) → Heap → Prop := fun c μ H h =>
  ∃ i, c = .imm (items.drop i) ∧ i ≤ items.length ∧ StW i h ∧ fpOk fp wr H h ∧ ∀ j it, items[j]? = some it → R j it μ (gr h H)
theorem Laws.ofWalks {fp wr : List Addr} {n : Nat} {Pv : Nat → Value → Prop} {StW : Nat → Heap → Prop} (Wk : Walks Γ.prog Γ.w A I fp wr n Pv StW) (items : List Item) (hn : items.length = n)
    (hcls : ∀ i h, StW i h → ∃ o nme, h.get? I = some o ∧ o.cls = .type nme ∧ ownsTup nme = false) (hlive : ∀ i h, StW i h → ∀ b ∈ wr, ∃ o, h.get? b = some o) :
    Laws Γ A I wr (PW StW fp wr items fun j it μ g => ∃ p, it = .one p ∧ ∀ v, Pv j v → VR μ g v p) := by
  refine ⟨?_, ?_, ?_, ?_, ?_⟩
  · rintro c μ H h μ' H' h' ⟨i, h1, h2, h3, h4, h5⟩ hp hg hk
    obtain ⟨k1, k2⟩ := h4.keep hg hk
    exact ⟨i, h1, h2, Wk.frame i h h' h3 k2, k1, fun j it hj => by
      obtain ⟨p, e, z⟩ := h5 j it hj
      exact ⟨p, e, fun v hv => (z v hv).mono hp hg⟩⟩
  · rintro c μ H h ⟨i, h1, h2, h3, h4, h5⟩
    exact hlive i h h3
  · rintro σ μ H s c it c' ⟨i, rfl, h2, h3, h4, h5⟩ S hW ha target ht
    obtain ⟨e1, e2, e3⟩ := adv_imm ha
    refine Wk.item i s _ _ (by (first | lia | omega)) h3 fun v h' tk hv hs hk => ⟨v, rfl, ?_⟩
    obtain ⟨o, nme, q1, q2, q3⟩ := hcls _ _ hs
    refine letGo_other q1 q2 q3 ?_
    have g := gr_but (σ := σ) hW hk
    refine ⟨⟨hk, rfl, rfl⟩, ⟨i + 1, e3, e2, hs, fun b hb => (h4 b hb).imp id fun ⟨o, e⟩ => ⟨o, g b o e⟩, fun j it hj => ?_⟩, ?_⟩
    · obtain ⟨p, e, z⟩ := h5 j it hj
      exact ⟨p, e, fun v hv => (z v hv).mono ⟨[], by simp⟩ g⟩
    · obtain ⟨p, rfl, z⟩ := h5 i it e1
      exact (z v hv).mono ⟨[], by simp⟩ g
  · rintro σ μ H s c ⟨i, rfl, h2, h3, h4, h5⟩ S hW ha
    have := adv_end ha
    have hi : i = n := by (first | lia | omega)
    subst hi
    exact Wk.done s _ _ h3 fun h' tk hk => ⟨rfl, hk, rfl, rfl⟩
  · rintro μ H s c Q ⟨i, rfl, h2, h3, h4, h5⟩ q
    exact Wk.self i s Q _ h3 q
theorem Laws.ofWalksT {fp wr : List Addr} {n : Nat} {Pt : Nat → Array Value → Prop} {StW : Nat → Heap → Prop} {Mid : Nat → Addr → Heap → Prop} (Wk : WalksT Γ.prog Γ.w A I fp wr n Pt StW Mid) (items : List Item) (hn : items.length = n)
    (hlive : ∀ i h, StW i h → ∀ b ∈ wr, ∃ o, h.get? b = some o) :
    Laws Γ A I wr (PW StW fp wr items fun j it μ g => ∃ p q, it = .two p q ∧ ∀ vals, Pt j vals → ∃ a b, vals = #[a, b] ∧ VR μ g a p ∧ VR μ g b q) := by
  refine ⟨?_, ?_, ?_, ?_, ?_⟩
  · rintro c μ H h μ' H' h' ⟨i, h1, h2, h3, h4, h5⟩ hp hg hk
    obtain ⟨k1, k2⟩ := h4.keep hg hk
    exact ⟨i, h1, h2, Wk.frame i h h' h3 k2, k1, fun j it hj => by
      obtain ⟨p, q, e, z⟩ := h5 j it hj
      exact ⟨p, q, e, fun v hv => by
        obtain ⟨a, b, e1, e2, e3⟩ := z v hv
        exact ⟨a, b, e1, e2.mono hp hg, e3.mono hp hg⟩⟩⟩
  · rintro c μ H h ⟨i, h1, h2, h3, h4, h5⟩
    exact hlive i h h3
  · rintro σ μ H s c it c' ⟨i, rfl, h2, h3, h4, h5⟩ S hW ha target ht
    obtain ⟨e1, e2, e3⟩ := adv_imm ha
    obtain ⟨p, q, rfl, z⟩ := h5 i it e1
    obtain ⟨es, k, pos, rfl⟩ := ht
    refine Wk.item i s _ _ (by (first | lia | omega)) h3 fun T vals h' tk hv hsz hT hm hk => ⟨.ref T, rfl, ?_⟩
    refine Wk.go es k pos i T _ _ _ hm fun h'' hs hk' => ?_
    have hk2 : ∀ b o, b ∉ wr → s.heap.get? b = some o → h''.get? b = some o := fun b o hb e => hk' b o hb (hk b o hb e)
    have g := gr_but (σ := σ) hW hk2
    refine ⟨⟨hk2, rfl, rfl⟩, ⟨i + 1, e3, e2, hs, fun b hb => (h4 b hb).imp id fun ⟨o, e⟩ => ⟨o, g b o e⟩, fun j it hj => ?_⟩, ?_⟩
    · obtain ⟨p, q, e, z⟩ := h5 j it hj
      exact ⟨p, q, e, fun v hv => by
        obtain ⟨a, b, e1, e2, e3⟩ := z v hv
        exact ⟨a, b, e1, e2.mono ⟨[], by simp⟩ g, e3.mono ⟨[], by simp⟩ g⟩⟩
    · obtain ⟨a, b, rfl, q1, q2⟩ := z vals hv
      obtain ⟨o, ho, r⟩ := hT
      exact ⟨T, a, b, rfl, ⟨o, hk' T o (Wk.apart i T _ hm) ho, r⟩, q1.mono ⟨[], by simp⟩ g, q2.mono ⟨[], by simp⟩ g⟩
  · rintro σ μ H s c ⟨i, rfl, h2, h3, h4, h5⟩ S hW ha
    have := adv_end ha
    have hi : i = n := by (first | lia | omega)
    subst hi
    exact Wk.done s _ _ h3 fun h' tk hk => ⟨rfl, hk, rfl, rfl⟩
  · rintro μ H s c Q ⟨i, rfl, h2, h3, h4, h5⟩ q
    exact Wk.self i s Q _ h3 q
theorem Laws.lo (hA : A.handled = none) : Laws Γ A I [I] (fun c μ _ h => ∃ l i a, c = .lo l i ∧ μ[l]? = some a ∧ h.IsListIter I a i) := by
  refine ⟨?_, ?_, ?_, ?_, ?_⟩
  · rintro c μ H h μ' H' h' ⟨l, i, a, rfl, h1, h2⟩ ⟨ν, rfl⟩ hg hk
    exact ⟨l, i, a, rfl, by rw [List.getElem?_append_left (List.getElem?_eq_some_iff.mp h1).1]; exact h1, h2.at fun o e => hk I (by simp) o e⟩
  · rintro c μ H h ⟨l, i, a, rfl, h1, h2⟩ b hb
    simp at hb
    subst hb
    obtain ⟨o, e, _⟩ := h2
    exact ⟨o, e⟩
  · rintro σ μ H s c it c' ⟨l, i, a, rfl, h1, h2⟩ S hW ha target ht
    obtain ⟨xs, hl, e⟩ := mp_some ha
    obtain ⟨p, hx, e⟩ := mp_some e
    cases e
    obtain ⟨vs, n, ho, hv⟩ := S.objs l a _ h1 (lstAt_some hl)
    obtain ⟨v, hv1, hv2⟩ := vrs_get hv hx
    refine wpAny_pyNext_list_item h2 ⟨_, ho, rfl, n, rfl⟩ (x := v) (by rw [← Array.getElem?_toList]; exact hv1) fun h' hit hs => ⟨v, rfl, ?_⟩
    obtain ⟨o, q1, q2, q3⟩ := id hit
    refine letGo_other q1 q2 (by decide) ?_
    have hk : ∀ b o, b ∉ [I] → s.heap.get? b = some o → h'.get? b = some o := fun b o hb e => (hs.2 b fun q => hb (q ▸ .head _)).trans e
    exact ⟨⟨hk, rfl, rfl⟩, ⟨l, i + 1, a, rfl, h1, hit⟩, hv2.mono ⟨[], by simp⟩ (gr_but (σ := σ) hW hk)⟩
  · rintro σ μ H s c ⟨l, i, a, rfl, h1, h2⟩ S hW ha
    obtain ⟨xs, hl, e⟩ := mp_some ha
    have hx : xs[i]? = none := by
      cases q : xs[i]? with
      | none => rfl
      | some p => rw [q] at e; cases e
    obtain ⟨vs, n, ho, hv⟩ := S.objs l a _ h1 (lstAt_some hl)
    have hx' := vrs_none hv hx
    exact wpAny_pyNext_list_end hA h2 ⟨_, ho, rfl, n, rfl⟩ (by rw [← Array.getElem?_toList]; exact hx') fun h' he => ⟨rfl, fun b o hb e => he b o (fun q => hb (q ▸ .head _)) e, rfl, rfl⟩
  · rintro μ H s c Q ⟨l, i, a, rfl, h1, h2⟩ q
    exact wpAny_pyIter_listiter h2 q
end
end Mine
end
section
namespace Mine
open PySem PySem.W PySem.Calls PyProof.Rows
structure ZApart (z TI TO i1 i2 : Addr) (f1 f2 : List Addr) : Prop where
  TIz : TI ≠ z
  TOz : TO ≠ z
  TITO : TI ≠ TO
  z1 : z ∉ f1
  z2 : z ∉ f2
  I1 : TI ∉ f1
  I2 : TI ∉ f2
  O1 : TO ∉ f1
  O2 : TO ∉ f2
  m1 : i1 ∈ f1
  m2 : i2 ∈ f2
  n1 : i1 ∉ f2
  n2 : i2 ∉ f1
theorem ne_of_nm {a b : Addr} {l : List Addr} (h : a ∉ l) (m : b ∈ l) : a ≠ b := fun e => h (e ▸ m)
section
variable {prog : Program} {w : World} {A : Around} {E : Value → Shared → Prop} {s : Shared} {z TI TO i1 i2 : Addr} {f1 f2 : List Addr} {n : Nat} {P1 P2 : Nat → Value → Prop} {S1 S2 : Nat → Heap → Prop}
noncomputable def ZSt (z TI TO i1 i2 : Addr) (S1 S2 : Nat → Heap → Prop) (f0 : Value) (i : Nat) (h : Heap) : Prop := IsZip h z TI TO f0 ∧ IsPair h TI (.ref i1) (.ref i2) ∧ (∃ a b, IsPair h TO a b) ∧ S1 i h ∧ S2 i h
theorem zip_item {i : Nat} {Q : Value → Shared → Prop} (D1 : Draws prog w A i1 f1 n P1 S1) (D2 : Draws prog w A i2 f2 n P2 S2) (Z : ZApart z TI TO i1 i2 f1 f2) (st : ZSt z TI TO i1 i2 S1 S2 .none i s.heap) (hi : i < n)
    (hQ : ∀ x y h' tk, P1 i x → P2 i y → ZSt z TI TO i1 i2 S1 S2 (rawInt s.heap.objs.size) (i + 1) h' → IsPair h' s.heap.objs.size x y → (∀ c o, c ∉ [z, TO, i1, i2] → s.heap.get? c = some o → h'.get? c = some o) → Q (.ref s.heap.objs.size) { s with heap := h', toks := tk }) :
    wpAny (model prog w) A (Builtin.«zip.__next__» ⟨[.ref z], []⟩) (fun fin s' => ∃ v, fin = .done (.ret v) ∧ Q v s') E s := by
  obtain ⟨hp, g, d, tk₀, os⟩ := s
  obtain ⟨hz, hI, ⟨a, b, hO⟩, h1, h2⟩ := st
  replace hz : IsZip hp z TI TO .none := hz
  replace hI : IsPair hp TI (.ref i1) (.ref i2) := hI
  replace hO : IsPair hp TO a b := hO
  have z1 : z ≠ i1 := ne_of_nm Z.z1 Z.m1
  have z2 : z ≠ i2 := ne_of_nm Z.z2 Z.m2
  have o1 : TO ≠ i1 := ne_of_nm Z.O1 Z.m1
  have o2 : TO ≠ i2 := ne_of_nm Z.O2 Z.m2
  have t1 : TI ≠ i1 := ne_of_nm Z.I1 Z.m1
  have t2 : TI ≠ i2 := ne_of_nm Z.I2 Z.m2
  show wpAny _ _ (field (.ref z) 2 >>= _) _ _ _
  refine wpAny_bind (wpAny_field hz rfl (x := .bool false) rfl ?_)
  show wpAny _ _ (field (.ref z) 3 >>= _) _ _ _
  refine wpAny_bind (wpAny_field hz rfl (x := .ref TI) rfl (wpAny_bind (wpAny_seqItems hI rfl ?_)))
  show wpAny _ _ (Builtin.SmallTypes.ownedTupleIsFree (.ref z) >>= _) _ _ _
  refine wpAny_bind ?_
  unfold Builtin.SmallTypes.ownedTupleIsFree
  refine wpAny_bind (wpAny_field hz rfl (x := .none) rfl (wpAny_pure ?_))
  simp only [if_true]
  refine wpAny_bind (wpAny_rule (wpAny_bind (wpAny_field hz rfl (x := .ref TO) rfl (wpAny_bind (wpAny_setField_rec hz (by simp) fun ha hza sa => ?_)))))
  replace hza : IsZip ha z TI TO .ellipsis := hza
  replace sa : Heap.SameBut z hp ha := sa
  have h1a : S1 i ha := D1.frame _ _ _ h1 fun b hb o e => sa.extBut b o (fun q => Z.z1 (q ▸ hb)) e
  have h2a : S2 i ha := D2.frame _ _ _ h2 fun b hb o e => sa.extBut b o (fun q => Z.z2 (q ▸ hb)) e
  refine wpAny_bind ?_
  simp only [List.zipIdx_cons, List.zipIdx_nil, List.forIn_cons, List.forIn_nil]
  refine wpAny_bind (wpAny_bind (wpAny_onRaise ?_))
  show wpAny _ _ (Builtin.SmallTypes.nextOf (.ref i1) >>= _) _ _ _
  refine wpAny_bind (D1.item i _ _ _ hi h1a fun x hb tkb px h1b sb => wpAny_pure ?_)
  replace sb : Heap.SameBut i1 ha hb := sb
  have hOb : IsPair hb TO a b := sb.extBut _ _ o1 (sa.extBut _ _ Z.TOz hO)
  have h2b : S2 i hb := D2.frame _ _ _ h2a fun b hm o e => sb.extBut b o (fun q => Z.n1 (q ▸ hm)) e
  refine wpAny_bind (wpAny_seqItems hOb rfl (wpAny_bind (wpAny_updateSeq_pair hOb fun hc hOc sc => ?_)))
  replace hOc : IsPair hc TO x b := hOc
  replace sc : Heap.SameBut TO hb hc := sc
  have h1c : S1 (i + 1) hc := D1.frame _ _ _ h1b fun b hm o e => sc.extBut b o (fun q => Z.O1 (q ▸ hm)) e
  have h2c : S2 i hc := D2.frame _ _ _ h2b fun b hm o e => sc.extBut b o (fun q => Z.O2 (q ▸ hm)) e
  refine wpAny_bind (wpAny_letGo (wpAny_pure ?_))
  refine wpAny_bind (wpAny_bind (wpAny_onRaise ?_))
  show wpAny _ _ (Builtin.SmallTypes.nextOf (.ref i2) >>= _) _ _ _
  refine wpAny_bind (D2.item i _ _ _ hi h2c fun y hd tkd py h2d sd => wpAny_pure ?_)
  replace sd : Heap.SameBut i2 hc hd := sd
  have hOd : IsPair hd TO x b := sd.extBut _ _ o2 hOc
  have h1d : S1 (i + 1) hd := D1.frame _ _ _ h1c fun b hm o e => sd.extBut b o (fun q => Z.n2 (q ▸ hm)) e
  refine wpAny_bind (wpAny_seqItems hOd rfl (wpAny_bind (wpAny_updateSeq_pair hOd fun he hOe se => ?_)))
  replace hOe : IsPair he TO x y := hOe
  replace se : Heap.SameBut TO hd he := se
  have h1e : S1 (i + 1) he := D1.frame _ _ _ h1d fun b hm o e => se.extBut b o (fun q => Z.O1 (q ▸ hm)) e
  have h2e : S2 (i + 1) he := D2.frame _ _ _ h2d fun b hm o e => se.extBut b o (fun q => Z.O2 (q ▸ hm)) e
  refine wpAny_bind (wpAny_letGo (wpAny_pure (wpAny_pure ?_)))
  refine wpAny_bind (wpAny_seqItems hOe rfl (wpAny_bind (wpAny_newTuple ?_)))
  have hsz : he.objs.size = hp.objs.size := by rw [se.1, sd.1, sc.1, sb.1, sa.1]
  have hze : IsZip he z TI TO .ellipsis := se.extBut _ _ Z.TOz.symm (sd.extBut _ _ z2 (sc.extBut _ _ Z.TOz.symm (sb.extBut _ _ z1 hza)))
  have hIe : IsPair he TI (.ref i1) (.ref i2) := se.extBut _ _ Z.TITO (sd.extBut _ _ t2 (sc.extBut _ _ Z.TITO (sb.extBut _ _ t1 (sa.extBut _ _ Z.TIz hI))))
  have old : ∀ c o, c ∉ [z, TO, i1, i2] → hp.get? c = some o → he.get? c = some o := fun c o hc e => by
    simp only [List.mem_cons, List.not_mem_nil, or_false, not_or] at hc
    exact se.extBut _ _ hc.2.1 (sd.extBut _ _ hc.2.2.2 (sc.extBut _ _ hc.2.1 (sb.extBut _ _ hc.2.2.1 (sa.extBut _ _ hc.1 e))))
  have hzlt : z < he.objs.size := Heap.lt_size hze
  show wpAny _ _ (Builtin.SmallTypes.ownedTupleHandOut (.ref z) (.ref he.objs.size) >>= _) _ _ _
  refine wpAny_bind ?_
  unfold Builtin.SmallTypes.ownedTupleHandOut
  have hzf : IsZip (he.push { cls := .type "tuple", data := .seq #[x, y] }) z TI TO .ellipsis := Heap.get?_push_of_some _ hze
  refine wpAny_bind (wpAny_setField_rec hzf (by simp) fun hj hzj sj => ?_)
  replace hzj : IsZip hj z TI TO (rawInt he.objs.size) := hzj
  refine wpAny_setField_rec hzj (by simp) fun hk hzk sk => ?_
  replace hzk : IsZip hk z TI TO (rawInt he.objs.size) := hzk
  have up : ∀ c o, c ≠ z → he.get? c = some o → hk.get? c = some o := fun c o c1 e => sk.extBut _ _ c1 (sj.extBut _ _ c1 (Heap.get?_push_of_some _ e))
  have hT : IsPair hk he.objs.size x y := sk.extBut _ _ (Nat.ne_of_gt hzlt) (sj.extBut _ _ (Nat.ne_of_gt hzlt) (Heap.get?_push_size _ rfl))
  refine wpAny_pure ⟨_, rfl, ?_⟩
  show Q (.ref he.objs.size) _
  rw [hsz] at hzk hT ⊢
  exact hQ x y hk _ px py ⟨hzk, up _ _ Z.TIz hIe, ⟨x, y, up _ _ Z.TOz hOe⟩, D1.frame _ _ _ h1e fun b hm o e => up b o (fun q => Z.z1 (q ▸ hm)) e, D2.frame _ _ _ h2e fun b hm o e => up b o (fun q => Z.z2 (q ▸ hm)) e⟩ hT
    fun c o hc e => up c o (fun q => hc (by simp [q])) (old c o hc e)
theorem zip_end {Q : Fin → Shared → Prop} (D1 : Draws prog w A i1 f1 n P1 S1) (Z : ZApart z TI TO i1 i2 f1 f2) (st : ZSt z TI TO i1 i2 S1 S2 .none n s.heap)
    (hE : ∀ h' e, (∀ c o, c ∉ [z, TO, i1, i2] → s.heap.get? c = some o → h'.get? c = some o) → (∃ o, h'.get? e = some o ∧ o.cls = .type "StopIteration") → E (.ref e) { s with heap := h' }) :
    wpAny (model prog w) A (Builtin.«zip.__next__» ⟨[.ref z], []⟩) Q E s := by
  obtain ⟨hp, g, d, tk₀, os⟩ := s
  obtain ⟨hz, hI, ⟨a, b, hO⟩, h1, h2⟩ := st
  replace hz : IsZip hp z TI TO .none := hz
  replace hI : IsPair hp TI (.ref i1) (.ref i2) := hI
  have z1 : z ≠ i1 := ne_of_nm Z.z1 Z.m1
  show wpAny _ _ (field (.ref z) 2 >>= _) _ _ _
  refine wpAny_bind (wpAny_field hz rfl (x := .bool false) rfl ?_)
  show wpAny _ _ (field (.ref z) 3 >>= _) _ _ _
  refine wpAny_bind (wpAny_field hz rfl (x := .ref TI) rfl (wpAny_bind (wpAny_seqItems hI rfl ?_)))
  show wpAny _ _ (Builtin.SmallTypes.ownedTupleIsFree (.ref z) >>= _) _ _ _
  refine wpAny_bind ?_
  unfold Builtin.SmallTypes.ownedTupleIsFree
  refine wpAny_bind (wpAny_field hz rfl (x := .none) rfl (wpAny_pure ?_))
  simp only [if_true]
  refine wpAny_bind (wpAny_rule (wpAny_bind (wpAny_field hz rfl (x := .ref TO) rfl (wpAny_bind (wpAny_setField_rec hz (by simp) fun ha hza sa => ?_)))))
  replace hza : IsZip ha z TI TO .ellipsis := hza
  replace sa : Heap.SameBut z hp ha := sa
  have h1a : S1 n ha := D1.frame _ _ _ h1 fun b hb o e => sa.extBut b o (fun q => Z.z1 (q ▸ hb)) e
  refine wpAny_bind ?_
  simp only [List.zipIdx_cons, List.zipIdx_nil, List.forIn_cons, List.forIn_nil]
  refine wpAny_bind (wpAny_bind (wpAny_onRaise ?_))
  show wpAny _ _ (Builtin.SmallTypes.nextOf (.ref i1) >>= _) _ _ _
  refine wpAny_bind (D1.done _ _ _ h1a fun hb e sb he => ?_)
  obtain ⟨oe, hoe, hce⟩ := he
  have hzb : IsZip hb z TI TO .ellipsis := sb _ _ z1 hza
  have hez : e ≠ z := fun x => by subst x; rw [hzb] at hoe; cases hoe; simp at hce
  refine wpAny_setField_rec hzb (by simp) fun hc _ sc => hE hc e (fun c o hm x => ?_) ⟨oe, sc.extBut _ _ hez hoe, hce⟩
  simp only [List.mem_cons, List.not_mem_nil, or_false, not_or] at hm
  exact sc.extBut _ _ hm.1 (sb _ _ hm.2.2.1 (sa.extBut _ _ hm.1 x))
end
theorem zip_walks {prog : Program} {w : World} {A : Around} {z TI TO i1 i2 : Addr} {f1 f2 : List Addr} {n : Nat} {P1 P2 : Nat → Value → Prop} {S1 S2 : Nat → Heap → Prop}
    (D1 : Draws prog w A.in1 i1 f1 n P1 S1) (D2 : Draws prog w A.in1 i2 f2 n P2 S2) (Z : ZApart z TI TO i1 i2 f1 f2) :
    WalksT prog w A z (z :: TI :: TO :: (f1 ++ f2)) [z, TO, i1, i2] n (fun i vals => ∃ x y, P1 i x ∧ P2 i y ∧ vals = #[x, y]) (ZSt z TI TO i1 i2 S1 S2 .none)
      (fun i T h => ZSt z TI TO i1 i2 S1 S2 (rawInt T) (i + 1) h ∧ T ∉ [z, TO, i1, i2]) where
  sub := fun c hc => by
    simp only [List.mem_cons, List.not_mem_nil, or_false] at hc
    rcases hc with rfl | rfl | rfl | rfl
    · simp
    · simp
    · simp [Z.m1]
    · simp [Z.m2]
  frame := fun i h h' st hk => by
    obtain ⟨hz, hI, ⟨a, b, hO⟩, h1, h2⟩ := st
    exact ⟨hk z (by simp) _ hz, hk TI (by simp) _ hI, ⟨a, b, hk TO (by simp) _ hO⟩, D1.frame _ _ _ h1 fun b hb o e => hk b (by simp [hb]) o e, D2.frame _ _ _ h2 fun b hb o e => hk b (by simp [hb]) o e⟩
  item := fun i s Q E hi st hQ => by
    have hT : s.TypeIs (.ref z) "zip" := ⟨_, st.1, rfl⟩
    have lt : ∀ {c : Addr} {o : Obj}, s.heap.get? c = some o → s.heap.objs.size ≠ c := fun e => Nat.ne_of_gt (Heap.lt_size e)
    unfold pyNext
    refine wpAny_bind (wpAny_attempt (wpAny_callSpecial?_slot (name := Str.ofString "__next__") hT F.slot_zip_next
      (wpAny_call_entry F.slot_zip_next hT F.entry_zip_next (zip_item D1 D2 Z st hi fun x y h' tk px py st' hp hk => wpAny_pure ?_) (F.args_zip_next_1 _))))
    refine hQ s.heap.objs.size #[x, y] h' tk ⟨x, y, px, py, rfl⟩ (Nat.le_refl _) ⟨_, hp, rfl, _, rfl⟩ ⟨st', fun hm => ?_⟩ hk
    simp only [List.mem_cons, List.not_mem_nil, or_false] at hm
    rcases hm with q | q | q | q
    · exact lt st.1 q
    · obtain ⟨_, _, hO⟩ := st.2.2.1
      exact lt hO q
    · obtain ⟨o, e⟩ := D1.live _ _ st.2.2.2.1
      exact lt e q
    · obtain ⟨o, e⟩ := D2.live _ _ st.2.2.2.2
      exact lt e q
  go := fun elts k pos i T s Q E hm hQ => by
    obtain ⟨⟨hz, hI, ⟨a, b, hO⟩, h1, h2⟩, _⟩ := hm
    refine wpAny_letOwnedTupleGo_zip hz fun h' hz' hs' => hQ h' ⟨hz', hs'.extBut _ _ Z.TIz hI, ⟨a, b, hs'.extBut _ _ Z.TOz hO⟩, D1.frame _ _ _ h1 fun b hb o e => hs'.extBut b o (fun q => Z.z1 (q ▸ hb)) e,
      D2.frame _ _ _ h2 fun b hb o e => hs'.extBut b o (fun q => Z.z2 (q ▸ hb)) e⟩ fun c o hc e => hs'.extBut _ _ (fun x => hc (by simp [x])) e
  apart := fun i T h hm => hm.2
  done := fun s Q E st hQ => by
    have hT : s.TypeIs (.ref z) "zip" := ⟨_, st.1, rfl⟩
    unfold pyNext
    refine wpAny_bind (wpAny_attempt (wpAny_callSpecial?_slot (name := Str.ofString "__next__") hT F.slot_zip_next
      (wpAny_call_entry F.slot_zip_next hT F.entry_zip_next (zip_end D1 Z st fun h' e hk he => ?_) (F.args_zip_next_1 _))))
    obtain ⟨o, ho, hc⟩ := he
    refine wpAny_bind (wpAny_isInstance (T := "StopIteration") (b := true) ⟨o, ho, hc⟩ isSubtype_stop ?_)
    exact wpAny_pure (hQ h' s.toks hk)
  self := fun i s Q E st hQ => wpAny_pyIter_zip st.1 hQ
end Mine
end
section
namespace Mine
open PySem PySem.W PySem.Calls PyProof.Rows
inductive IR (Γ : Cx) (A : Around) (h₀ : Heap) (src : Src) (it : Value) (μ : List Addr) (H : Addr → Prop) (h : Heap) : Prop
  | mk (I : Addr) (W : List Addr) (P : Cur → List Addr → (Addr → Prop) → Heap → Prop) (e : it = .ref I) (L : Laws Γ A I W P) (hP : P (curOf src) μ H h) (hW : FOk (· ∈ W) μ H h) (hf : ∀ b ∈ W, h₀.get? b = none)
noncomputable def TI (Γ : Cx) (A : Around) (env : Env) (x : Sem Value) (ρ : En) (σ : Hp) (src : Src) (σ' : Hp) : Prop :=
  ∀ μ H s, Γ.St μ H σ s → EnvR Γ env ρ μ H s.heap → WP Γ A x (fun xv s₁ => WP Γ A (pyIter xv) (Post Γ μ H s.heap s.os (IR Γ A s.heap src) σ') s₁) s
section
variable {Γ : Cx} {A : Around} {env : Env} {ρ ρ' : En} {σ σ₁ σ₂ σ₃ σ₄ : Hp} {μ : List Addr} {H : Addr → Prop} {s : Shared} {n : Nat} {O : Orc} {F : Addr → Prop}
theorem IR.back {h₀ h₁ : Heap} {src : Src} {v : Value} {μ' H' h'} (x : IR Γ A h₁ src v μ' H' h') (hf : ∀ b, h₁.get? b = none → h₀.get? b = none) : IR Γ A h₀ src v μ' H' h' := by
  obtain ⟨I, W, P, h1, h2, h3, h4, h5⟩ := x
  exact ⟨I, W, P, h1, h2, h3, h4, fun b hb => hf b (h5 b hb)⟩
theorem made {I : Addr} {W : List Addr} {P : Cur → List Addr → (Addr → Prop) → Heap → Prop} {src : Src} {s' : Shared} (S : Γ.St μ H σ s) (hk : ∀ b o, s.heap.get? b = some o → s'.heap.get? b = some o) (L : Laws Γ A I W P)
    (new : ∀ b ∈ W, s.heap.get? b = none) (live : ∀ b ∈ W, ∃ o, s'.heap.get? b = some o)
    (hp : (∀ b o, (gr s.heap H).get? b = some o → (gr s'.heap fun b => H b ∨ b ∈ W).get? b = some o) → P (curOf src) μ (fun b => H b ∨ b ∈ W) s'.heap) (hg : s'.gens = s.gens := by rfl) (ho : s'.os = s.os := by rfl) :
    Post Γ μ H s.heap s.os (IR Γ A s.heap src) σ (.ref I) s' :=
  post_grow S (H' := fun b => H b ∨ b ∈ W) hk (fun b o e => by
    have : b ∉ W := fun q => by rw [new b q] at e; cases e
    simp [this]) hg ho fun hm => ⟨I, W, P, rfl, L, hp hm, fun b hb => ⟨S.fresh_out (new b hb), .inr hb, live b hb⟩, new⟩
theorem one_get {ps : List PV} {j : Nat} {it : Item} (h : (ps.map Item.one)[j]? = some it) : ∃ p, ps[j]? = some p ∧ it = .one p := by
  rw [List.getElem?_map] at h
  cases hp : ps[j]? with
  | none => rw [hp] at h; cases h
  | some p => rw [hp] at h; cases h; exact ⟨p, rfl, rfl⟩
theorem vis_list {v : Value} {xs : List PyData} (h : VR μ (gr s.heap H) v (.d (.list xs))) : ∃ a vs, v = .ref a ∧ s.heap.IsList a vs ∧ (∃ o, (gr s.heap H).get? a = some o) ∧ VRs μ (gr s.heap H) vs.toList (xs.map .d) := by
  cases h with
  | d r =>
    cases r with
    | list h1 h2 h3 h4 => exact ⟨_, _, rfl, ⟨_, (only_get.mp h1).1, h2, _, h3⟩, ⟨_, h1⟩, readsAll_vrs h4⟩
theorem iter_list {v : Value} {xs : List PyData} (hA : A.handled = none) (S : Γ.St μ H σ s) (h : VR μ (gr s.heap H) v (.d (.list xs))) : Does Γ A (pyIter v) μ H s (IR Γ A s.heap (.imm ((xs.map PV.d).map .one))) σ := by
  obtain ⟨a, vs, rfl, hl, ⟨o, ho⟩, hv⟩ := vis_list h
  have hlt : a < s.heap.objs.size := Heap.lt_size (only_get.mp ho).1
  have hlen := vrs_len hv
  refine wpAny_pyIter_list hl ?_
  refine made (W := [s.heap.objs.size]) S (fun b o e => Heap.get?_push_of_some _ e)
    (Laws.ofWalks (Walks.list hA s.heap.objs.size a (Nat.ne_of_lt hlt) vs) ((xs.map PV.d).map .one) (by simp at hlen; simp [hlen]) (fun i h st => by
      obtain ⟨o, e, c, _⟩ := st.1
      exact ⟨o, _, e, c, by decide⟩) fun i h st b hb => by
      simp at hb; subst hb
      obtain ⟨o, e, _⟩ := st.1
      exact ⟨o, e⟩) (fun b hb => by simp at hb; subst hb; exact size_none _) (fun b hb => by simp at hb; subst hb; exact ⟨_, Heap.get?_push_size _ rfl⟩) fun hm => ?_
  refine ⟨0, rfl, Nat.zero_le _, ⟨⟨_, Heap.get?_push_size _ rfl, rfl, rfl⟩, hl.push _⟩, fun b hb => ?_, fun j it hj => ?_⟩
  · simp at hb
    rcases hb with rfl | rfl
    · exact .inl (by simp)
    · exact .inr ⟨o, hm _ _ ho⟩
  · obtain ⟨p, hp, rfl⟩ := one_get hj
    obtain ⟨u, h1, h2⟩ := vrs_get hv hp
    refine ⟨p, rfl, fun v hv' => ?_⟩
    have : v = u := by
      have : vs[j]? = some u := by simpa using h1
      rw [hv'] at this; exact Option.some.inj this
    subst this
    exact h2.mono ⟨[], by simp⟩ hm
theorem ascii_all {x : Str} (h : ascii x.cps.toList = true) : x.cps.all (· < 128) = true := by
  unfold ascii at h
  rw [← Array.all_toList]; exact h
theorem chars_get {x : Str} {j : Nat} {p : PV} (h : (chars x)[j]? = some p) : ∃ c, x.cps[j]? = some c ∧ p = .d (.str ⟨#[c]⟩) := by
  unfold chars at h
  rw [List.getElem?_map] at h
  cases hc : x.cps.toList[j]? with
  | none => rw [hc] at h; cases h
  | some c => rw [hc] at h; cases h; exact ⟨c, by simpa using hc, rfl⟩
theorem iter_str {v : Value} {x : Str} (hA : A.handled = none) (S : Γ.St μ H σ s) (h : VR μ (gr s.heap H) v (.d (.str x))) (ha : ascii x.cps.toList = true) : Does Γ A (pyIter v) μ H s (IR Γ A s.heap (.imm ((chars x).map .one))) σ := by
  obtain ⟨t, rfl⟩ := v_str h
  refine wpAny_pyIter_ascii (ascii_all ha) ?_
  refine made (W := [s.heap.objs.size]) S (fun b o e => Heap.get?_push_of_some _ e)
    (Laws.ofWalks (Walks.strAscii hA s.heap.objs.size x t) ((chars x).map .one) (by simp [chars]) (fun i h st => by
      obtain ⟨o, e, c, _⟩ := st
      exact ⟨o, _, e, c, by decide⟩) fun i h st b hb => by
      simp at hb; subst hb
      obtain ⟨o, e, _⟩ := st
      exact ⟨o, e⟩) (fun b hb => by simp at hb; subst hb; exact size_none _) (fun b hb => by simp at hb; subst hb; exact ⟨_, Heap.get?_push_size _ rfl⟩) fun hm => ?_
  refine ⟨0, rfl, Nat.zero_le _, ⟨_, Heap.get?_push_size _ rfl, rfl, rfl⟩, fun b hb => .inl hb, fun j it hj => ?_⟩
  obtain ⟨p, hp, rfl⟩ := one_get hj
  obtain ⟨c, hc, rfl⟩ := chars_get hp
  refine ⟨_, rfl, fun v hv => ?_⟩
  obtain ⟨c', u, h1, rfl⟩ := hv
  rw [hc] at h1; cases h1
  exact vr_str _ _ _
theorem iter_lo {v : Value} {l : Nat} {xs : List PV} (hA : A.handled = none) (S : Γ.St μ H σ s) (h : VR μ (gr s.heap H) v (.loc l)) (hl : σ[l]? = some (.lst xs)) : Does Γ A (pyIter v) μ H s (IR Γ A s.heap (.lo l)) σ := by
  obtain ⟨a, ha, rfl⟩ := v_loc h
  obtain ⟨vs, m, ho, hv⟩ := S.objs l a _ ha hl
  refine wpAny_pyIter_list ⟨_, ho, rfl, m, rfl⟩ ?_
  exact made (W := [s.heap.objs.size]) S (fun b o e => Heap.get?_push_of_some _ e) (Laws.lo hA) (fun b hb => by simp at hb; subst hb; exact size_none _) (fun b hb => by simp at hb; subst hb; exact ⟨_, Heap.get?_push_size _ rfl⟩)
    fun hm => ⟨l, 0, a, rfl, ha, ⟨_, Heap.get?_push_size _ rfl, rfl, rfl⟩⟩
theorem ti_val {x : Sem Value} {p : PV} {src : Src} (h : TV Γ A env x ρ σ p σ₁) (k : ∀ v μ H s, Γ.St μ H σ₁ s → VR μ (gr s.heap H) v p → Does Γ A (pyIter v) μ H s (IR Γ A s.heap src) σ₁) : TI Γ A env x ρ σ src σ₁ := fun μ H s S E =>
  Does.use (h μ H s S E) fun v s₁ μ₁ H₁ T₁ S₁ r => Does.after ((k v μ₁ H₁ s₁ S₁ r).conseq fun _ _ _ _ y => y.back fun b e => T₁.fresh e) T₁
theorem with_type {T : String} {pos : Pos} {ps : List PV} {trees : List (Bool × Sem Value)} {Q : Value → Shared → Prop} (S : Γ.St μ H σ s) (E : EnvR Γ env ρ μ H s.heap) (hp : trees.any (·.1) = false)
    (ha : TVs Γ A env (spliced trees) ρ σ ps σ₁) (h : ∀ μ₂ H₂ s₂ vs, Tr μ H s.heap s.os μ₂ H₂ s₂.heap s₂.os → Γ.St μ₂ H₂ σ₁ s₂ → VRs μ₂ (gr s₂.heap H₂) vs ps → WP Γ A (call (.type T) vs) Q s₂) :
    WP Γ A (callWith pos (.type T) [] trees []) Q s := by
  refine callWith_excType hp (args_ok hp rfl ?_)
  refine Does.use (ha μ H s S E) fun vs s₁ μ₁ H₁ T₁ S₁ r₁ => ?_
  exact wpAny_evalAll_nil (by simpa using h μ₁ H₁ s₁ vs T₁ S₁ r₁)
theorem rangeL_get : ∀ (k : Nat) (a : Int) (j : Nat) {p : PV}, (rangeL a k)[j]? = some p → p = .d (.int (a + j)) ∧ j < k
  | 0, a, j, p, h => by simp [rangeL_z] at h
  | k + 1, a, 0, p, h => by simp [rangeL_c] at h; exact ⟨by rw [← h]; simp, Nat.succ_pos _⟩
  | k + 1, a, j + 1, p, h => by
    simp [rangeL_c] at h
    obtain ⟨h1, h2⟩ := rangeL_get k (a + 1) j h
    refine ⟨?_, by (first | lia | omega)⟩
    rw [h1]
    congr 2
    push_cast
    (first | lia | omega)
theorem rangeL_len : ∀ (k : Nat) (a : Int), (rangeL a k).length = k
  | 0, _ => rfl
  | k + 1, a => by simp [rangeL_c, rangeL_len k]
theorem iter_range {r : Addr} {a b : Int} {t u v : Tok} (hA : A.handled = none) (S : Γ.St μ H σ s) (hr : IsRange s.heap r a b 1 t u v) (ha : -1000 < a ∧ a < 1000) (hb : -1000 < b ∧ b < 1000) :
    Does Γ A (pyIter (.ref r)) μ H s (IR Γ A s.heap (.imm ((rangeL a (b - a).toNat).map .one))) σ := by
  have hsz : Builtin.Range.rangeSize a b 1 = (((b - a).toNat : Nat) : Int) := by
    rw [rangeSize_one]
    split <;> (first | lia | omega)
  refine wpAny_pyIter_range hr (small_one (by (first | lia | omega)) (by (first | lia | omega)) (by (first | lia | omega)) (by (first | lia | omega))) ?_
  rw [hsz]
  refine made (W := [s.heap.objs.size]) S (fun b o e => Heap.get?_push_of_some _ e)
    (Laws.ofWalks (LCg.range_walks hA a (b - a).toNat) ((rangeL a (b - a).toNat).map .one) (by simp [rangeL_len]) (fun i h st => ⟨_, _, st, rfl, by decide⟩) fun i h st b hb => by
      simp at hb; subst hb
      exact ⟨_, st⟩) (fun b hb => by simp at hb; subst hb; exact size_none _) (fun b hb => by simp at hb; subst hb; exact ⟨_, Heap.get?_push_size _ rfl⟩) fun hm => ?_
  refine ⟨0, rfl, Nat.zero_le _, ?_, fun b hb => .inl hb, fun j it hj => ?_⟩
  · show IsRangeIter _ _ _ _ _
    simpa using Heap.get?_push_size s.heap (o := { cls := .type "range_iterator", data := .fields #[rawInt a, rawInt (((b - a).toNat : Nat) : Int), rawInt 1] }) rfl
  · obtain ⟨p, hp, rfl⟩ := one_get hj
    obtain ⟨rfl, _⟩ := rangeL_get _ _ _ hp
    refine ⟨_, rfl, fun v hv => ?_⟩
    obtain ⟨t, rfl⟩ := hv
    exact vr_int _ _ _
end
end Mine
end
section
namespace Mine
open PySem PySem.W PySem.Calls PyProof.Rows
noncomputable def BltIs (Γ : Cx) (env : Env) (id : Str) (v : Value) : Prop := Γ.mg id = none ∧ Γ.mb id = some v ∧ env.kindOf id = some .globalImplicit ∧ (id == ("__debug__" : Str)) = false
section
variable {Γ : Cx} {A : Around} {env : Env} {ρ ρ' : En} {σ σ₁ σ₂ σ₃ σ₄ : Hp} {μ : List Addr} {H : Addr → Prop} {s : Shared} {n : Nat} {O : Orc} {F : Addr → Prop}
theorem grown (S : Γ.St μ H σ s) {s' : Shared} (hk : ∀ b o, s.heap.get? b = some o → s'.heap.get? b = some o) (hg : s'.gens = s.gens := by rfl) (ho : s'.os = s.os := by rfl) : Γ.St μ H σ s' ∧ Tr μ H s.heap s.os μ H s'.heap s'.os :=
  S.grow hk (fun _ _ _ => Iff.rfl) hg ho
theorem after_ir {t : Sem Value} {src : Src} {μ₁ : List Addr} {H₁ : Addr → Prop} {s₁ : Shared} (T : Tr μ H s.heap s.os μ₁ H₁ s₁.heap s₁.os) (x : Does Γ A t μ₁ H₁ s₁ (IR Γ A s₁.heap src) σ₁) : WP Γ A t (Post Γ μ H s.heap s.os (IR Γ A s.heap src) σ₁) s₁ :=
  Does.after (x.conseq fun _ _ _ _ y => y.back fun _ e => T.fresh e) T
theorem ti_range1 {id : Str} {np pos : Pos} {es : List Expr} {b : Int} (K : Γ.Ok) (hA : A.handled = none) (hb : BltIs Γ env id (.type "range")) (hp : (backTo pos (starEach es env)).any (·.1) = false)
    (ha : TVs Γ A env (spliced (backTo pos (starEach es env))) ρ σ [.d (.int b)] σ₁) (h1 : -1000 < b ∧ b < 1000) : TI Γ A env (eval (.Call (.Name id np) es [] pos) env) ρ σ (.imm ((rangeL 0 b.toNat).map .one)) σ₁ := fun μ H s S E => by
  refine wpAny_Call_ofName (name_gl K S E (.inr ⟨hb.1, hb.2.1⟩) hb.2.2.1 hb.2.2.2 ?_)
  refine with_type S E hp ha fun μ₂ H₂ s₂ vs T₂ S₂ r => ?_
  cases r with
  | cons r0 r1 =>
    cases r1
    obtain ⟨t, rfl⟩ := v_int r0
    refine call_range_1 ?_
    have z := grown S₂ (s' := { s₂ with heap := s₂.heap.push { cls := .type "range", data := .fields #[.int 0 s₂.toks, .int b t, .int 1 (s₂.toks + 1)] }, toks := s₂.toks + 1 + 1 }) (fun _ _ e => Heap.get?_push_of_some _ e)
    have := after_ir (T₂.trans z.2) (iter_range hA z.1 (IsRange.new _ _ _ _ _ _ _) (by (first | lia | omega)) h1)
    simpa using this
theorem ti_range2 {id : Str} {np pos : Pos} {es : List Expr} {a b : Int} (K : Γ.Ok) (hA : A.handled = none) (hb : BltIs Γ env id (.type "range")) (hp : (backTo pos (starEach es env)).any (·.1) = false)
    (ha : TVs Γ A env (spliced (backTo pos (starEach es env))) ρ σ [.d (.int a), .d (.int b)] σ₁) (h0 : -1000 < a ∧ a < 1000) (h1 : -1000 < b ∧ b < 1000) :
    TI Γ A env (eval (.Call (.Name id np) es [] pos) env) ρ σ (.imm ((rangeL a (b - a).toNat).map .one)) σ₁ := fun μ H s S E => by
  refine wpAny_Call_ofName (name_gl K S E (.inr ⟨hb.1, hb.2.1⟩) hb.2.2.1 hb.2.2.2 ?_)
  refine with_type S E hp ha fun μ₂ H₂ s₂ vs T₂ S₂ r => ?_
  cases r with
  | cons r0 r1 =>
    cases r1 with
    | cons r1 r2 =>
      cases r2
      obtain ⟨t, rfl⟩ := v_int r0
      obtain ⟨u, rfl⟩ := v_int r1
      refine call_range_2 ?_
      have z := grown S₂ (s' := { s₂ with heap := s₂.heap.push { cls := .type "range", data := .fields #[.int a t, .int b u, .int 1 s₂.toks] }, toks := s₂.toks + 1 }) (fun _ _ e => Heap.get?_push_of_some _ e)
      exact after_ir (T₂.trans z.2) (iter_range hA z.1 (IsRange.new _ _ _ _ _ _ _) h0 h1)
theorem enumF_len : ∀ (ps : List PV) (k : Int), (enumF k ps).length = ps.length
  | [], _ => rfl
  | _ :: r, k => by simp [enumF_c, enumF_len r]
theorem enumF_get : ∀ (ps : List PV) (k : Int) (j : Nat) {it : Item}, (enumF k ps)[j]? = some it → ∃ p, ps[j]? = some p ∧ it = .two (.d (.int (k + j))) p
  | [], _, j, it, h => by simp [enumF_z] at h
  | p :: r, k, 0, it, h => by simp [enumF_c] at h; exact ⟨p, rfl, by rw [← h]; simp⟩
  | p :: r, k, j + 1, it, h => by
    simp [enumF_c] at h
    obtain ⟨q, h1, h2⟩ := enumF_get r (k + 1) j h
    refine ⟨q, by simpa using h1, ?_⟩
    rw [h2]
    congr 3
    push_cast
    (first | lia | omega)
theorem enum_iter {e it : Addr} {fp : List Addr} {ps : List PV} {old : Value} {P : Nat → Value → Prop} {StW : Nat → Heap → Prop} {s' : Shared} (S : Γ.St μ H σ s) (hk : ∀ b o, s.heap.get? b = some o → s'.heap.get? b = some o)
    (D : Draws Γ.prog Γ.w A.in1 it fp ps.length P StW) (he : IsEnum s'.heap e it 0 old) (h0 : StW 0 s'.heap) (hei : e ≠ it) (hef : e ∉ fp) (hif : it ∈ fp) (ne : s.heap.get? e = none) (ni : s.heap.get? it = none)
    (hfp : ∀ b ∈ fp, b = it ∨ ∃ o, (gr s.heap H).get? b = some o) (hP : ∀ j v p, P j v → ps[j]? = some p → VR μ (gr s.heap H) v p) (hg : s'.gens = s.gens := by rfl) (ho : s'.os = s.os := by rfl) :
    WP Γ A (pyIter (.ref e)) (Post Γ μ H s.heap s.os (IR Γ A s.heap (.imm (enumF 0 ps))) σ) s' := by
  refine wpAny_pyIter_enum he ?_
  have live : ∀ (i : Nat) h, (∃ old, IsEnum h e it i old) ∧ StW i h → ∀ b ∈ [e, it], ∃ o, h.get? b = some o := fun i h st b hb => by
    obtain ⟨⟨old, h1⟩, h2⟩ := st
    simp at hb
    rcases hb with rfl | rfl
    · exact ⟨_, h1⟩
    · exact D.live _ _ h2
  refine made (W := [e, it]) S hk (Laws.ofWalksT (WalksT.enumerateD D e hei hef hif) (enumF 0 ps) (enumF_len ps 0) live)
    (fun b hb => by simp at hb; rcases hb with rfl | rfl <;> assumption) (live 0 _ ⟨⟨_, he⟩, h0⟩) (fun hm => ?_) hg ho
  refine ⟨0, rfl, Nat.zero_le _, ⟨⟨_, he⟩, h0⟩, fun b hb => ?_, fun j i hj => ?_⟩
  · rcases List.mem_cons.mp hb with rfl | hb
    · exact .inl (by simp)
    · rcases hfp b hb with rfl | ⟨o, e⟩
      · exact .inl (by simp)
      · exact .inr ⟨o, hm _ _ e⟩
  · obtain ⟨p, hp, rfl⟩ := enumF_get ps 0 j hj
    refine ⟨_, _, rfl, fun vals hv => ?_⟩
    obtain ⟨t, x, hx, rfl⟩ := hv
    exact ⟨_, x, rfl, by simpa using vr_int (μ := μ) (j : Int) t _, (hP j x p hx hp).mono ⟨[], by simp⟩ hm⟩
theorem call_enum {v : Value} {p : PV} {ps : List PV} (hA : A.handled = none) (S : Γ.St μ H σ s) (h : VR μ (gr s.heap H) v p) (hi : immItems σ p = some ps) :
    WP Γ A (call (.type "enumerate") [v]) (fun xv s₁ => WP Γ A (pyIter xv) (Post Γ μ H s.heap s.os (IR Γ A s.heap (.imm (enumF 0 ps))) σ) s₁) s := by
  unfold immItems at hi
  split at hi
  · rename_i xs
    cases hi
    obtain ⟨a, vs, rfl, hl, ⟨o, ho⟩, hv⟩ := vis_list h
    have hlt : a < s.heap.objs.size := Heap.lt_size (only_get.mp ho).1
    have hlen := vrs_len hv
    refine call_enumerate_list hl fun h' he hit hz hk => ?_
    have D := Draws.list (prog := Γ.prog) (w := Γ.w) (A := A.in1) hA s.heap.objs.size a (Nat.ne_of_lt hlt) vs
    have hn : vs.size = (xs.map PV.d).length := by simp at hlen; simp [hlen]
    rw [hn] at D
    refine enum_iter (it := s.heap.objs.size) (fp := [s.heap.objs.size, a]) S hk D he ⟨hit, hl.at fun o e => hk a o e⟩ (Nat.ne_of_gt (Nat.lt_succ_self _)) ?_ (by simp) ?_ (size_none _) ?_ ?_
    · simp only [List.mem_cons, List.not_mem_nil, or_false, not_or]
      exact ⟨Nat.ne_of_gt (Nat.lt_succ_self _), Nat.ne_of_gt (Nat.lt_succ_of_lt hlt)⟩
    · cases q : s.heap.get? (s.heap.objs.size + 1) with
      | none => rfl
      | some o => exact absurd (Heap.lt_size q) (by exact Nat.not_lt.mpr (Nat.le_succ _))
    · intro b hb
      simp at hb
      rcases hb with rfl | rfl
      · exact .inl rfl
      · exact .inr ⟨o, ho⟩
    · intro j v p hj hp
      obtain ⟨u, h1, h2⟩ := vrs_get hv hp
      have e1 : vs[j]? = some u := by simpa using h1
      rw [hj] at e1; cases e1
      exact h2
  · rename_i x
    split at hi
    · rename_i ha
      cases hi
      obtain ⟨t, rfl⟩ := v_str h
      refine call_enumerate_str fun h' he hit hz hk => ?_
      have ha' := ascii_all ha
      have D := Draws.strAscii (prog := Γ.prog) (w := Γ.w) (A := A.in1) hA s.heap.objs.size x t
      have hn : x.cps.size = (chars x).length := by simp [chars]
      rw [hn] at D
      refine enum_iter (it := s.heap.objs.size) (fp := [s.heap.objs.size]) S hk D he (by simpa [strIterType, ha'] using hit) (Nat.ne_of_gt (Nat.lt_succ_self _)) ?_ (by simp) ?_ (size_none _) (fun b hb => .inl (by simpa using hb)) ?_
      · simp only [List.mem_cons, List.not_mem_nil, or_false]
        exact Nat.ne_of_gt (Nat.lt_succ_self _)
      · cases q : s.heap.get? (s.heap.objs.size + 1) with
        | none => rfl
        | some o => exact absurd (Heap.lt_size q) (by exact Nat.not_lt.mpr (Nat.le_succ _))
      · intro j v p hj hp
        obtain ⟨c, hc, rfl⟩ := chars_get hp
        obtain ⟨c', u, h1, rfl⟩ := hj
        rw [hc] at h1; cases h1
        exact vr_str _ _ _
    · cases hi
  · cases hi
theorem ti_enum {id : Str} {np pos : Pos} {es : List Expr} {p : PV} {ps : List PV} (K : Γ.Ok) (hA : A.handled = none) (hb : BltIs Γ env id (.type "enumerate")) (hp : (backTo pos (starEach es env)).any (·.1) = false)
    (ha : TVs Γ A env (spliced (backTo pos (starEach es env))) ρ σ [p] σ₁) (hi : immItems σ₁ p = some ps) : TI Γ A env (eval (.Call (.Name id np) es [] pos) env) ρ σ (.imm (enumF 0 ps)) σ₁ := fun μ H s S E => by
  refine wpAny_Call_ofName (name_gl K S E (.inr ⟨hb.1, hb.2.1⟩) hb.2.2.1 hb.2.2.2 ?_)
  refine with_type S E hp ha fun μ₂ H₂ s₂ vs T₂ S₂ r => ?_
  cases r with
  | cons r0 r1 =>
    cases r1
    refine (call_enum hA S₂ r0 hi).imp fun xv s₃ z => WP.imp z fun v s' y => ?_
    obtain ⟨μ', H', T', S', q⟩ := y
    exact ⟨μ', H', T₂.trans T', S', IR.back q fun _ e => T₂.fresh e⟩
end
end Mine
end
section
namespace Mine
open PySem PySem.W PySem.Calls PyProof.Rows
noncomputable abbrev zH (o1 : Obj) (h : Heap) (l2 : Addr) : Heap := (((h.push o1).push { cls := .type "list_iterator", data := .fields #[.ref l2, .int 0 0] }).push { cls := .type "tuple", data := .seq #[.ref h.objs.size, .ref (h.push o1).objs.size] }).push { cls := .type "tuple", data := .seq #[.none, .none] }
noncomputable abbrev zObj (o1 : Obj) (h : Heap) (l2 : Addr) : Obj := { cls := .type "zip", data := .fields #[.none, .bool false, .bool false, .ref ((h.push o1).push { cls := .type "list_iterator", data := .fields #[.ref l2, .int 0 0] }).objs.size,
  .ref (((h.push o1).push { cls := .type "list_iterator", data := .fields #[.ref l2, .int 0 0] }).push { cls := .type "tuple", data := .seq #[.ref h.objs.size, .ref (h.push o1).objs.size] }).objs.size] }
set_option maxHeartbeats 1000000 in
theorem meets_zip_str (x : Str) (t : Tok) (l2 : Addr) (ys : Array Value) :
    Meets (Builtin.«zip.__new__» ⟨[.type "zip", .str x t, .ref l2], []⟩) (fun _ R s => s.heap.IsList l2 ys ∧
      R (.ok (.ret (.ref (zH { cls := .type (strIterType x), data := .fields #[.str x t, .int 0 0] } s.heap l2).objs.size)))
        { s with heap := (zH { cls := .type (strIterType x), data := .fields #[.str x t, .int 0 0] } s.heap l2).push (zObj { cls := .type (strIterType x), data := .fields #[.str x t, .int 0 0] } s.heap l2) }) :=
  .of_wp fun prog w A R s h => by
    obtain ⟨hp, g, d, tk, os⟩ := s; obtain ⟨hl2, h⟩ := h
    have hsub := sub_zip
    have hL2 : Heap.IsList (Shared.heap ⟨hp.push { cls := .type (strIterType x), data := .fields #[.str x t, .int 0 0] }, g, d, tk, os⟩) l2 ys := Heap.IsList.push hl2 _
    wp_walk using wpAny_pyIter_strU, wpAny_pyIter_list hL2
    exact ⟨_, rfl, h⟩
section
variable {Γ : Cx} {A : Around} {env : Env} {ρ ρ' : En} {σ σ₁ σ₂ σ₃ σ₄ : Hp} {μ : List Addr} {H : Addr → Prop} {s : Shared} {n : Nat} {O : Orc} {F : Addr → Prop}
theorem call_zip_str {x : Str} {t : Tok} {l2 : Addr} {ys : Array Value} {Q : Value → Shared → Prop} (hl2 : s.heap.IsList l2 ys)
    (h : ∀ h', IsZip h' (s.heap.objs.size + 4) (s.heap.objs.size + 2) (s.heap.objs.size + 3) .none → IsPair h' (s.heap.objs.size + 2) (.ref s.heap.objs.size) (.ref (s.heap.objs.size + 1)) →
      IsPair h' (s.heap.objs.size + 3) .none .none → h'.IsStrIter s.heap.objs.size (strIterType x) x t 0 → h'.IsListIter (s.heap.objs.size + 1) l2 0 →
      (∀ c o, s.heap.get? c = some o → h'.get? c = some o) → Q (.ref (s.heap.objs.size + 4)) { s with heap := h' }) :
    WP Γ A (call (.type "zip") [.str x t, .ref l2]) Q s := by
  refine callType_new F.called_zip (by decide) (F.typeCall_zip_2 _ _) (F.newCall_zip_2 _ _) (fun obj => F.args_object_init_3 obj _ _) F.entry_zip_new (meets_zip_str x t l2 ys) ⟨hl2, ?_⟩
  generalize ho1 : ({ cls := .type (strIterType x), data := .fields #[.str x t, .int 0 0] } : Obj) = o1
  have f1 : o1.isFreed = false := by rw [← ho1]; rfl
  have z1 : (s.heap.push o1).objs.size = s.heap.objs.size + 1 := Heap.size_push ..
  have z2 : ((s.heap.push o1).push { cls := .type "list_iterator", data := .fields #[.ref l2, .int 0 0] }).objs.size = s.heap.objs.size + 2 := by rw [Heap.size_push, z1]
  have z3 : (((s.heap.push o1).push { cls := .type "list_iterator", data := .fields #[.ref l2, .int 0 0] }).push { cls := .type "tuple", data := .seq #[.ref s.heap.objs.size, .ref (s.heap.push o1).objs.size] }).objs.size = s.heap.objs.size + 3 := by rw [Heap.size_push, z2]
  have z4 : (zH o1 s.heap l2).objs.size = s.heap.objs.size + 4 := by rw [Heap.size_push, z3]
  have g5 : ((zH o1 s.heap l2).push (zObj o1 s.heap l2)).get? (zH o1 s.heap l2).objs.size = some (zObj o1 s.heap l2) := Heap.get?_push_size _ rfl
  have g4 : ((zH o1 s.heap l2).push (zObj o1 s.heap l2)).get? (((s.heap.push o1).push { cls := .type "list_iterator", data := .fields #[.ref l2, .int 0 0] }).push { cls := .type "tuple", data := .seq #[.ref s.heap.objs.size, .ref (s.heap.push o1).objs.size] }).objs.size = some { cls := .type "tuple", data := .seq #[.none, .none] } :=
    Heap.get?_push_of_some _ (Heap.get?_push_size _ rfl)
  have g3 : ((zH o1 s.heap l2).push (zObj o1 s.heap l2)).get? ((s.heap.push o1).push { cls := .type "list_iterator", data := .fields #[.ref l2, .int 0 0] }).objs.size = some { cls := .type "tuple", data := .seq #[.ref s.heap.objs.size, .ref (s.heap.push o1).objs.size] } :=
    Heap.get?_push_of_some _ (Heap.get?_push_of_some _ (Heap.get?_push_size _ rfl))
  have g2 : ((zH o1 s.heap l2).push (zObj o1 s.heap l2)).get? (s.heap.push o1).objs.size = some { cls := .type "list_iterator", data := .fields #[.ref l2, .int 0 0] } :=
    Heap.get?_push_of_some _ (Heap.get?_push_of_some _ (Heap.get?_push_of_some _ (Heap.get?_push_size _ rfl)))
  have g1 : ((zH o1 s.heap l2).push (zObj o1 s.heap l2)).get? s.heap.objs.size = some o1 :=
    Heap.get?_push_of_some _ (Heap.get?_push_of_some _ (Heap.get?_push_of_some _ (Heap.get?_push_of_some _ (Heap.get?_push_size _ f1))))
  have hzo : zObj o1 s.heap l2 = { cls := .type "zip", data := .fields #[.none, .bool false, .bool false, .ref (s.heap.objs.size + 2), .ref (s.heap.objs.size + 3)] } := by
    show ({ cls := .type "zip", data := .fields #[.none, .bool false, .bool false, .ref _, .ref _] } : Obj) = _
    rw [z2, z3]
  replace g5 := g5.trans (congrArg some hzo)
  rw [z4] at g5
  rw [z1, z2] at g3
  rw [z3] at g4
  rw [z1] at g2
  show _ ∧ _
  rw [z4]
  exact ⟨⟨_, g5, rfl⟩, h _ g5 g3 g4 ⟨_, g1, by subst ho1; rfl, by subst ho1; rfl⟩ ⟨_, g2, rfl, rfl⟩ fun c o e =>
    Heap.get?_push_of_some _ (Heap.get?_push_of_some _ (Heap.get?_push_of_some _ (Heap.get?_push_of_some _ (Heap.get?_push_of_some _ e))))⟩
theorem pairs_len : ∀ (ps qs : List PV), ps.length = qs.length → (pairs ps qs).length = ps.length
  | [], [], _ => rfl
  | p :: ps, q :: qs, h => by simp [pairs, pairs_len ps qs (by simpa using h)]
  | [], _ :: _, h => by simp at h
  | _ :: _, [], h => by simp at h
theorem pairs_get : ∀ (ps qs : List PV) (j : Nat) {it : Item}, (pairs ps qs)[j]? = some it → ∃ p q, ps[j]? = some p ∧ qs[j]? = some q ∧ it = .two p q
  | [], _, j, it, h => by simp [pairs] at h
  | _ :: _, [], j, it, h => by simp [pairs] at h
  | p :: ps, q :: qs, 0, it, h => by simp [pairs] at h; exact ⟨p, q, rfl, rfl, h.symm⟩
  | p :: ps, q :: qs, j + 1, it, h => by
    simp [pairs] at h
    obtain ⟨a, b, h1, h2, h3⟩ := pairs_get ps qs j h
    exact ⟨a, b, by simpa using h1, by simpa using h2, h3⟩
theorem zip_iter {z TI TO i1 i2 : Addr} {f1 f2 : List Addr} {ps qs : List PV} {P1 P2 : Nat → Value → Prop} {S1 S2 : Nat → Heap → Prop} {s' : Shared} (S : Γ.St μ H σ s) (hk : ∀ b o, s.heap.get? b = some o → s'.heap.get? b = some o)
    (D1 : Draws Γ.prog Γ.w A.in1 i1 f1 ps.length P1 S1) (D2 : Draws Γ.prog Γ.w A.in1 i2 f2 ps.length P2 S2) (Z : ZApart z TI TO i1 i2 f1 f2) (st : ZSt z TI TO i1 i2 S1 S2 .none 0 s'.heap) (hl : ps.length = qs.length)
    (new : ∀ b ∈ [z, TI, TO, i1, i2], s.heap.get? b = none) (hf1 : ∀ b ∈ f1, b = i1 ∨ ∃ o, (gr s.heap H).get? b = some o) (hf2 : ∀ b ∈ f2, b = i2 ∨ ∃ o, (gr s.heap H).get? b = some o)
    (hP1 : ∀ j v p, P1 j v → ps[j]? = some p → VR μ (gr s.heap H) v p) (hP2 : ∀ j v p, P2 j v → qs[j]? = some p → VR μ (gr s.heap H) v p) (hg : s'.gens = s.gens := by rfl) (ho : s'.os = s.os := by rfl) :
    WP Γ A (pyIter (.ref z)) (Post Γ μ H s.heap s.os (IR Γ A s.heap (.imm (pairs ps qs))) σ) s' := by
  refine wpAny_pyIter_zip st.1 ?_
  have Wk := zip_walks (A := A) D1 D2 Z
  have live : ∀ (i : Nat) h, ZSt z TI TO i1 i2 S1 S2 .none i h → ∀ b ∈ [z, TO, i1, i2, TI], ∃ o, h.get? b = some o := fun i h st b hb => by
    obtain ⟨h1, h2, ⟨a, c, h3⟩, h4, h5⟩ := st
    simp only [List.mem_cons, List.not_mem_nil, or_false] at hb
    rcases hb with rfl | rfl | rfl | rfl | rfl
    · exact ⟨_, h1⟩
    · exact ⟨_, h3⟩
    · exact D1.live _ _ h4
    · exact D2.live _ _ h5
    · exact ⟨_, h2⟩
  have Wk' : WalksT Γ.prog Γ.w A z (z :: TI :: TO :: (f1 ++ f2)) [z, TO, i1, i2, TI] ps.length (fun i vals => ∃ x y, P1 i x ∧ P2 i y ∧ vals = #[x, y]) (ZSt z TI TO i1 i2 S1 S2 .none)
      (fun i T h => ZSt z TI TO i1 i2 S1 S2 (rawInt T) (i + 1) h ∧ T ∉ [z, TO, i1, i2, TI]) := by
    have sub : ∀ b : Addr, b ∉ [z, TO, i1, i2, TI] → b ∉ [z, TO, i1, i2] := fun b hb hm => hb (by simp only [List.mem_cons, List.not_mem_nil, or_false] at hm ⊢; rcases hm with h | h | h | h <;> simp [h])
    refine ⟨fun b hb => ?_, Wk.frame, fun i s Q E hi st hQ => ?_, fun elts k pos i T s Q E hm hQ => ?_, fun i T h hm => hm.2, fun s Q E st hQ => ?_, Wk.self⟩
    · simp only [List.mem_cons, List.not_mem_nil, or_false] at hb
      rcases hb with rfl | rfl | rfl | rfl | rfl
      · simp
      · simp
      · simp [Z.m1]
      · simp [Z.m2]
      · simp
    · refine Wk.item i s Q E hi st fun T vals h' tk hv hsz hT hm hk => hQ T vals h' tk hv hsz hT ⟨hm.1, fun hq => ?_⟩ fun b o hb e => hk b o (sub b hb) e
      simp only [List.mem_cons, List.not_mem_nil, or_false] at hq
      have hn := hm.2
      simp only [List.mem_cons, List.not_mem_nil, or_false, not_or] at hn
      rcases hq with q | q | q | q | q
      · exact hn.1 q
      · exact hn.2.1 q
      · exact hn.2.2.1 q
      · exact hn.2.2.2 q
      · have := Heap.lt_size st.2.1
        rw [← q] at this
        exact absurd this (Nat.not_lt.mpr hsz)
    · exact Wk.go elts k pos i T s Q E ⟨hm.1, sub T hm.2⟩ fun h' st hk => hQ h' st fun b o hb e => hk b o (sub b hb) e
    · exact Wk.done s Q E st fun h' tk hk => hQ h' tk fun b o hb e => hk b o (sub b hb) e
  refine made (W := [z, TO, i1, i2, TI]) S hk (Laws.ofWalksT Wk' (pairs ps qs) (pairs_len ps qs hl) live)
    (fun b hb => new b (by simp only [List.mem_cons, List.not_mem_nil, or_false] at hb ⊢; rcases hb with h | h | h | h | h <;> simp [h])) (live 0 _ st) (fun hm => ?_) hg ho
  refine ⟨0, rfl, Nat.zero_le _, st, fun b hb => ?_, fun j i hj => ?_⟩
  · simp only [List.mem_cons, List.mem_append] at hb
    rcases hb with rfl | rfl | rfl | hb | hb
    · exact .inl (by simp)
    · exact .inl (by simp)
    · exact .inl (by simp)
    · rcases hf1 b hb with rfl | ⟨o, e⟩
      · exact .inl (by simp)
      · exact .inr ⟨o, hm _ _ e⟩
    · rcases hf2 b hb with rfl | ⟨o, e⟩
      · exact .inl (by simp)
      · exact .inr ⟨o, hm _ _ e⟩
  · obtain ⟨p, q, h1, h2, rfl⟩ := pairs_get ps qs j hj
    refine ⟨_, _, rfl, fun vals hv => ?_⟩
    obtain ⟨x, y, hx, hy, rfl⟩ := hv
    exact ⟨x, y, rfl, (hP1 j x p hx h1).mono ⟨[], by simp⟩ hm, (hP2 j y q hy h2).mono ⟨[], by simp⟩ hm⟩
theorem none_at (h : Heap) (k : Nat) : h.get? (h.objs.size + k) = none := by
  cases q : h.get? (h.objs.size + k) with
  | none => rfl
  | some o => exact absurd (Heap.lt_size q) (by exact Nat.not_lt.mpr (Nat.le_add_right _ _))
theorem call_zip {v w : Value} {p q : PV} {ps qs : List PV} (hA : A.handled = none) (S : Γ.St μ H σ s) (hv : VR μ (gr s.heap H) v p) (hw : VR μ (gr s.heap H) w q) (hi : immItems σ p = some ps) (hj : immItems σ q = some qs)
    (hl : ps.length = qs.length) (hq : isList q = true) :
    WP Γ A (call (.type "zip") [v, w]) (fun xv s₁ => WP Γ A (pyIter xv) (Post Γ μ H s.heap s.os (IR Γ A s.heap (.imm (pairs ps qs))) σ) s₁) s := by
  unfold isList at hq
  split at hq
  · rename_i ys
    cases hj
    obtain ⟨l2, ws, rfl, hl2, ⟨o2, ho2⟩, hv2⟩ := vis_list hw
    have lt2 : l2 < s.heap.objs.size := Heap.lt_size (only_get.mp ho2).1
    have len2 := vrs_len hv2
    have n2 : ws.size = ps.length := by simp at len2 hl; (first | lia | omega)
    have a : ∀ k : Nat, l2 ≠ s.heap.objs.size + k := fun k => Nat.ne_of_lt (Nat.lt_of_lt_of_le lt2 (Nat.le_add_right _ _))
    have a0 : l2 ≠ s.heap.objs.size := a 0
    have ne : ∀ {j k : Nat}, j ≠ k → s.heap.objs.size + j ≠ s.heap.objs.size + k := fun h e => h (Nat.add_left_cancel e)
    have ne0 : ∀ {k : Nat}, 0 ≠ k → s.heap.objs.size ≠ s.heap.objs.size + k := fun h e => h (Nat.add_left_cancel (n := s.heap.objs.size) e)
    have D2 := Draws.list (prog := Γ.prog) (w := Γ.w) (A := A.in1) hA (s.heap.objs.size + 1) l2 (a 1) ws
    rw [n2] at D2
    have hP2 : ∀ j v p, ws[j]? = some v → (ys.map PV.d)[j]? = some p → VR μ (gr s.heap H) v p := fun j v p hj hp => by
      obtain ⟨u, h1, h2⟩ := vrs_get hv2 hp
      have e1 : ws[j]? = some u := by simpa using h1
      rw [hj] at e1; cases e1
      exact h2
    have new : ∀ b ∈ [s.heap.objs.size + 4, s.heap.objs.size + 2, s.heap.objs.size + 3, s.heap.objs.size, s.heap.objs.size + 1], s.heap.get? b = none := fun b hb => by
      simp only [List.mem_cons, List.not_mem_nil, or_false] at hb
      rcases hb with rfl | rfl | rfl | rfl | rfl
      · exact none_at _ _
      · exact none_at _ _
      · exact none_at _ _
      · exact size_none _
      · exact none_at _ _
    have hf2 : ∀ b ∈ [s.heap.objs.size + 1, l2], b = s.heap.objs.size + 1 ∨ ∃ o, (gr s.heap H).get? b = some o := fun b hb => by
      simp only [List.mem_cons, List.not_mem_nil, or_false] at hb
      rcases hb with rfl | rfl
      · exact .inl rfl
      · exact .inr ⟨_, ho2⟩
    unfold immItems at hi
    split at hi
    · rename_i xs
      cases hi
      obtain ⟨l1, vs, rfl, hl1, ⟨o1, ho1⟩, hv1⟩ := vis_list hv
      have lt1 : l1 < s.heap.objs.size := Heap.lt_size (only_get.mp ho1).1
      have len1 := vrs_len hv1
      have n1 : vs.size = (xs.map PV.d).length := by simp at len1; simp [len1]
      have b : ∀ k : Nat, l1 ≠ s.heap.objs.size + k := fun k => Nat.ne_of_lt (Nat.lt_of_lt_of_le lt1 (Nat.le_add_right _ _))
      have b0 : l1 ≠ s.heap.objs.size := b 0
      have D1 := Draws.list (prog := Γ.prog) (w := Γ.w) (A := A.in1) hA s.heap.objs.size l1 b0 vs
      rw [n1] at D1
      refine call_zip_2 hl1 hl2 fun h' hz hTI hTO hi1 hi2 _ hk => ?_
      refine zip_iter (f1 := [s.heap.objs.size, l1]) (f2 := [s.heap.objs.size + 1, l2]) S hk D1 D2 ⟨ne (by decide), ne (by decide), ne (by decide), ?_, ?_, ?_, ?_, ?_, ?_, by simp, by simp, ?_, ?_⟩
        ⟨hz, hTI, ⟨_, _, hTO⟩, ⟨hi1, hl1.at fun o e => hk _ o e⟩, hi2, hl2.at fun o e => hk _ o e⟩ hl new (fun c hc => ?_) hf2 (fun j v p hj hp => ?_) hP2
      · simp only [List.mem_cons, List.not_mem_nil, or_false, not_or]; exact ⟨(ne0 (by decide)).symm, (b 4).symm⟩
      · simp only [List.mem_cons, List.not_mem_nil, or_false, not_or]; exact ⟨ne (by decide), (a 4).symm⟩
      · simp only [List.mem_cons, List.not_mem_nil, or_false, not_or]; exact ⟨(ne0 (by decide)).symm, (b 2).symm⟩
      · simp only [List.mem_cons, List.not_mem_nil, or_false, not_or]; exact ⟨ne (by decide), (a 2).symm⟩
      · simp only [List.mem_cons, List.not_mem_nil, or_false, not_or]; exact ⟨(ne0 (by decide)).symm, (b 3).symm⟩
      · simp only [List.mem_cons, List.not_mem_nil, or_false, not_or]; exact ⟨ne (by decide), (a 3).symm⟩
      · simp only [List.mem_cons, List.not_mem_nil, or_false, not_or]; exact ⟨ne0 (by decide), a0.symm⟩
      · simp only [List.mem_cons, List.not_mem_nil, or_false, not_or]; exact ⟨(ne0 (by decide)).symm, (b 1).symm⟩
      · simp only [List.mem_cons, List.not_mem_nil, or_false] at hc
        rcases hc with rfl | rfl
        · exact .inl rfl
        · exact .inr ⟨_, ho1⟩
      · obtain ⟨u, h1, h2⟩ := vrs_get hv1 hp
        have e1 : vs[j]? = some u := by simpa using h1
        rw [hj] at e1; cases e1
        exact h2
    · rename_i x
      split at hi
      · rename_i ha
        cases hi
        obtain ⟨t, rfl⟩ := v_str hv
        have ha' := ascii_all ha
        have D1 := Draws.strAscii (prog := Γ.prog) (w := Γ.w) (A := A.in1) hA s.heap.objs.size x t
        have n1 : x.cps.size = (chars x).length := by simp [chars]
        rw [n1] at D1
        refine call_zip_str hl2 fun h' hz hTI hTO hi1 hi2 hk => ?_
        refine zip_iter (f1 := [s.heap.objs.size]) (f2 := [s.heap.objs.size + 1, l2]) S hk D1 D2 ⟨ne (by decide), ne (by decide), ne (by decide), ?_, ?_, ?_, ?_, ?_, ?_, by simp, by simp, ?_, ?_⟩
          ⟨hz, hTI, ⟨_, _, hTO⟩, by simpa [strIterType, ha'] using hi1, hi2, hl2.at fun o e => hk _ o e⟩ hl new (fun c hc => .inl (by simpa using hc)) hf2 (fun j v p hj hp => ?_) hP2
        · simp only [List.mem_cons, List.not_mem_nil, or_false]; exact (ne0 (by decide)).symm
        · simp only [List.mem_cons, List.not_mem_nil, or_false, not_or]; exact ⟨ne (by decide), (a 4).symm⟩
        · simp only [List.mem_cons, List.not_mem_nil, or_false]; exact (ne0 (by decide)).symm
        · simp only [List.mem_cons, List.not_mem_nil, or_false, not_or]; exact ⟨ne (by decide), (a 2).symm⟩
        · simp only [List.mem_cons, List.not_mem_nil, or_false]; exact (ne0 (by decide)).symm
        · simp only [List.mem_cons, List.not_mem_nil, or_false, not_or]; exact ⟨ne (by decide), (a 3).symm⟩
        · simp only [List.mem_cons, List.not_mem_nil, or_false, not_or]; exact ⟨ne0 (by decide), a0.symm⟩
        · simp only [List.mem_cons, List.not_mem_nil, or_false]; exact (ne0 (by decide)).symm
        · obtain ⟨c, hc, rfl⟩ := chars_get hp
          obtain ⟨c', u, h1, rfl⟩ := hj
          rw [hc] at h1; cases h1
          exact vr_str _ _ _
      · cases hi
    · cases hi
  · cases hq
theorem ti_zip {id : Str} {np pos : Pos} {es : List Expr} {p q : PV} {ps qs : List PV} (K : Γ.Ok) (hA : A.handled = none) (hb : BltIs Γ env id (.type "zip")) (hp : (backTo pos (starEach es env)).any (·.1) = false)
    (ha : TVs Γ A env (spliced (backTo pos (starEach es env))) ρ σ [p, q] σ₁) (hi : immItems σ₁ p = some ps) (hj : immItems σ₁ q = some qs) (hl : ps.length = qs.length) (hq : isList q = true) :
    TI Γ A env (eval (.Call (.Name id np) es [] pos) env) ρ σ (.imm (pairs ps qs)) σ₁ := fun μ H s S E => by
  refine wpAny_Call_ofName (name_gl K S E (.inr ⟨hb.1, hb.2.1⟩) hb.2.2.1 hb.2.2.2 ?_)
  refine with_type S E hp ha fun μ₂ H₂ s₂ vs T₂ S₂ r => ?_
  cases r with
  | cons r0 r1 =>
    cases r1 with
    | cons r1 r2 =>
      cases r2
      refine (call_zip hA S₂ r0 r1 hi hj hl hq).imp fun xv s₃ z => WP.imp z fun v s' y => ?_
      obtain ⟨μ', H', T', S', q⟩ := y
      exact ⟨μ', H', T₂.trans T', S', IR.back q fun _ e => T₂.fresh e⟩
end
end Mine
end
section
namespace Mine
open PySem PySem.W PySem.Calls PyProof.Rows
noncomputable def testsOf (ifs : List Expr) (env : Env) : Sem Bool := forIn ifs true fun c r => if r = true then do let ok ← isTrue c env (eval c env); pure (ForInStep.yield ok) else pure (ForInStep.yield r)
noncomputable def turnOf (target iter : Expr) (ifs : List Expr) (inner : Sem Fin) (e : Expr) (d : Nat) (it acc : Value) (env : Env) : Sem Fin := do
  standAt iter.pos
  match ← pyNext it with
  | none => pure (.done .next)
  | some v => do
    letOwnedTupleGo target it v
    assign target env v
    let ok ← testsOf ifs env
    if ok = true then inner else again (.compLoop e d it acc env)
theorem bindT_le {t : Tgt} {i : Item} {ρ ρ' : En} (h : bindT t i ρ = some ρ') (hf : ∀ x ∈ tgNames t, getV x ρ = none) : ∀ y q, getV y ρ = some q → getV y ρ' = some q := by
  intro y q hy
  have ne : ∀ x ∈ tgNames t, ¬ y = x := fun x hx e => by subst e; rw [hf _ hx] at hy; cases hy
  cases t with
  | one x =>
    cases i with
    | one p => cases h; rw [getV_upd, if_neg (ne x (by simp [tgNames]))]; exact hy
    | two p q => cases h
  | two x z =>
    have two : ∀ {a b : PV}, getV y (upd z b (upd x a ρ)) = some q := by
      intro a b
      rw [getV_upd, if_neg (ne z (by simp [tgNames])), getV_upd, if_neg (ne x (by simp [tgNames]))]; exact hy
    cases i with
    | one p => obtain ⟨a, b, rfl, rfl⟩ := bindT_pair h; exact two
    | two p r => cases h; exact two
theorem bindT_only {t : Tgt} {i : Item} {ρ ρ' : En} (h : bindT t i ρ = some ρ') {y : Nat} (hy : y ∉ tgNames t) : getV y ρ' = getV y ρ := by
  cases t with
  | one x =>
    cases i with
    | one p => cases h; rw [getV_upd, if_neg (by simpa [tgNames] using hy)]
    | two p q => cases h
  | two x z =>
    have hx : ¬ y = x ∧ ¬ y = z := by simpa [tgNames] using hy
    cases i with
    | one p => obtain ⟨a, b, rfl, rfl⟩ := bindT_pair h; rw [getV_upd, if_neg hx.2, getV_upd, if_neg hx.1]
    | two p r => cases h; rw [getV_upd, if_neg hx.2, getV_upd, if_neg hx.1]
structure Acc (β : Type) (D : Addr) (R : β → List Addr → (Addr → Prop) → Heap → Prop) : Prop where
  stab : ∀ {b μ H h μ' H' h'}, R b μ H h → (∃ ν, μ' = μ ++ ν) → (∀ b o, (gr h H).get? b = some o → (gr h' H').get? b = some o) → (∀ o, h.get? D = some o → h'.get? D = some o) → R b μ' H' h'
section
variable {Γ : Cx} {A : Around} {env : Env} {ρ ρ' : En} {σ σ₁ σ₂ σ₃ σ₄ σ' : Hp} {μ : List Addr} {H : Addr → Prop} {s : Shared} {n : Nat} {O : Orc} {F : Addr → Prop} {β : Type} {D I : Addr} {W : List Addr}
  {R : β → List Addr → (Addr → Prop) → Heap → Prop} {P : Cur → List Addr → (Addr → Prop) → Heap → Prop}
inductive CP (Γ : Cx) (env : Env) (F : Addr → Prop) (D : Addr) {β : Type} (R : β → List Addr → (Addr → Prop) → Heap → Prop) (ρ : En) (b : β) (σ' : Hp) (μ : List Addr) (H : Addr → Prop) (h : Heap) (os : OsState) (s' : Shared) : Prop
  | mk (μ' : List Addr) (H' : Addr → Prop) (T : TrF (Or F [D]) μ H h os μ' H' s'.heap s'.os) (S : Γ.St μ' H' σ' s') (E : EnvR Γ env ρ μ' H' s'.heap) (r : R b μ' H' s'.heap) (f : FOk (Or F [D]) μ' H' s'.heap)
noncomputable def BodyOk (Γ : Cx) (A : Around) (env : Env) (F : Addr → Prop) (D : Addr) {β : Type} (R : β → List Addr → (Addr → Prop) → Heap → Prop) (ifs : List Expr) (inner : Sem Fin) (cd : Code) (bev : En → β → Hp → Option (β × Hp)) (ok : En → Prop) : Prop :=
  ∀ ρ b σ b' σ', bev ρ b σ = some (b', σ') → ok ρ → ∀ μ H s, Γ.St μ H σ s → EnvR Γ env ρ μ H s.heap → FOk F μ H s.heap → FOk (· ∈ [D]) μ H s.heap → R b μ H s.heap →
    WP Γ A (testsOf ifs env) (fun t s₁ => if t = true then WP Γ A inner (fun fin s₂ => fin = .again cd ∧ CP Γ env F D R ρ b' σ' μ H s.heap s.os s₂) s₁ else CP Γ env F D R ρ b' σ' μ H s.heap s.os s₁) s
inductive ComI (Γ : Cx) (env : Env) (F : Addr → Prop) (W : List Addr) (P : Cur → List Addr → (Addr → Prop) → Heap → Prop) (D : Addr) {β : Type} (R : β → List Addr → (Addr → Prop) → Heap → Prop) (ρ : En) (μ₀ : List Addr) (H₀ : Addr → Prop) (h₀ : Heap) (os₀ : OsState)
    (step : Item → β → Hp → Option (Option Flo × β × Hp)) (r : Option Flo × β × Hp) (n : Nat) (s : Shared) : Prop
  | mk (c : Cur) (b : β) (σ : Hp) (μ : List Addr) (H : Addr → Prop) (he : loopG step n c b σ = some r) (S : Γ.St μ H σ s) (E : EnvR Γ env ρ μ H s.heap) (hF : FOk F μ H s.heap) (hD : FOk (· ∈ [D]) μ H s.heap) (hW : FOk (· ∈ W) μ H s.heap)
    (hP : P c μ H s.heap) (hR : R b μ H s.heap) (T : TrF (Or (Or F [D]) W) μ₀ H₀ h₀ os₀ μ H s.heap s.os)
noncomputable def Ends (Q : Shared → Prop) (r : Result) (s : Shared) : Prop := match r with
  | .ok _ => Q s
  | .error _ => False
theorem comp_loop {e : Expr} {d : Nat} {t : Tgt} {target iter : Expr} {ifs : List Expr} {inner : Sem Fin} {bev : En → β → Hp → Option (β × Hp)} {f : Nat} {r : Option Flo × β × Hp} {okE : En → Prop} {μ₀ : List Addr} {H₀ : Addr → Prop} {h₀ : Heap} {os₀ : OsState}
    (L : Laws Γ A I W P) (K : Γ.Ok) (hA : A.handled = none)
    (hq : (Code.compLoop e d (.ref I) (.ref D) env).quiet = true) (hden : (model Γ.prog Γ.w).den (.compLoop e d (.ref I) (.ref D) env) = (compTurn e d (.ref I) (.ref D) env).onRaise (fun x => do noteFrame x env; theTreesLotGoes x))
    (hu : A.under (.compLoop e d (.ref I) (.ref D) env) = A)
    (hturn : compTurn e d (.ref I) (.ref D) env = turnOf target iter ifs inner e d (.ref I) (.ref D) env)
    (ht : TgtOk Γ.I t target) (ho : ∀ x ∈ tgNames t, Own Γ env F x) (hFW : ∀ b ∈ W, ¬ F b) (hEW : EnvOut env W) (hD : D ∉ W) (hDF : ¬ F D) (hR : Acc β D R) (hf : ∀ x ∈ tgNames t, getV x ρ = none)
    (hok : ∀ i ρ', bindT t i ρ = some ρ' → okE ρ') (hB : BodyOk Γ A env F D R ifs inner (.compLoop e d (.ref I) (.ref D) env) bev okE) (hW₀ : ∀ b ∈ W, h₀.get? b = none)
    (x : ComI Γ env F W P D R ρ μ₀ H₀ h₀ os₀ (stepB t ρ bev) r f s) :
    codeAny (model Γ.prog Γ.w) A (.compLoop e d (.ref I) (.ref D) env) (Ends (CP Γ env F D R ρ r.2.1 r.2.2 μ₀ H₀ h₀ os₀)) s := by
  refine codeAny_loop hq (ComI Γ env F W P D R ρ μ₀ H₀ h₀ os₀ (stepB t ρ bev) r) ?_ f x
  rintro n s₁ ⟨c₁, b₁, σ₁, μ₁, H₁, he, S, E, hF, hDo, hW, hP, hb, T⟩
  rw [hden, hu]
  refine wpAny_noted ?_
  rw [hturn]
  refine wpAny_bind (wpAny_standAt ?_)
  cases n with
  | zero => cases he
  | succ n =>
    obtain ⟨y, ha, he⟩ := bn_some he
    cases y with
    | none =>
      cases he
      refine wpAny_bind (wpAny_mono (L.fin hP S hW ha) (fun r s₂ y => ?_) fun _ _ e => e.elim)
      obtain ⟨hr, hk⟩ := y
      subst hr
      exact wpAny_pure (CP.mk μ₁ H₁ (T.last hk hW₀) (S.only hW hk) (E.only hW hEW hk) (hR.stab hb ⟨[], by simp⟩ (gr_but (σ := σ₁) hW hk.1) fun o e => hk.1 _ _ hD e) fun b hb => by
        obtain ⟨q1, q2, o, q3⟩ := (hF.or hDo) b hb
        exact ⟨q1, q2, o, hk.1 b o (fun q => hb.elim (fun x => hFW b q x) fun x => hD (List.mem_singleton.mp x ▸ q)) q3⟩)
    | some y =>
      obtain ⟨i, c'⟩ := y
      have he := onw_some he
      obtain ⟨ρ₂, b₃, σ₃, hbt, hs, he⟩ : ∃ ρ₂ b₃ σ₃, bindT t i ρ = some ρ₂ ∧ bev ρ₂ b₁ σ₁ = some (b₃, σ₃) ∧ loopG (stepB t ρ bev) n c' b₃ σ₃ = some r := by
        cases he with
        | on b σ h e =>
          obtain ⟨ρ₂, h1, h⟩ := bn_some h
          obtain ⟨b', σ', h2, h⟩ := bd_some h
          cases h
          exact ⟨ρ₂, b, σ, h1, h2, e⟩
        | out g h e =>
          obtain ⟨ρ₂, h1, h⟩ := bn_some h
          obtain ⟨b', σ', h2, h⟩ := bd_some h
          cases h
      refine wpAny_bind (wpAny_mono (L.turn K hA S E hF hW hFW hEW hP ha ht ho hbt) (fun r s₂ y => ?_) fun _ _ e => e.elim)
      obtain ⟨v, hr, h1⟩ := y
      subst hr
      refine wpAny_bind (wpAny_mono h1 (fun _ s₃ h2 => wpAny_bind (SPost.use h2 fun _ s₄ μ₄ H₄ T₄ S₄ E₄ P₄ => ?_)) fun _ _ e => e.elim)
      have hF₄ := T₄.fok hF
      have hW₄ := T₄.fok hW
      have hD₄ := T₄.fok hDo
      have R₄ : R b₁ μ₄ H₄ s₄.heap := hR.stab hb T₄.pre (T₄.gr (hF.or hW)) fun o e => T₄.kept _ _ e (fun q => (hDo D (.head _)).1 q.1) fun q => q.elim hDF hD
      have T' := T.trans (T₄.weaken fun b hb => .inl (hb.elim (fun q => .inl (.inl q)) fun q => .inr q))
      have fin : ∀ s₅, CP Γ env F D R ρ₂ b₃ σ₃ μ₄ H₄ s₄.heap s₄.os s₅ → ∃ m, m < n + 1 ∧ ComI Γ env F W P D R ρ μ₀ H₀ h₀ os₀ (stepB t ρ bev) r m s₅ := fun s₅ y => y.rec fun μ₅ H₅ T₅ S₅ E₅ R₅ _ =>
        ⟨n, Nat.lt_succ_self n, c', b₃, σ₃, μ₅, H₅, he, S₅, E₅.le (bindT_le hbt hf), T₅.fok hF₄, T₅.fok hD₄, T₅.fok hW₄,
          L.stable P₄ T₅.pre (T₅.gr (hF₄.or hD₄)) fun b hb o e => T₅.kept b o e (fun q => (hW₄ b hb).1 q.1) (fun q => q.elim (hFW b hb) fun q => hD (List.mem_singleton.mp q ▸ hb)), R₅, T'.trans (T₅.weaken fun b hb => .inl (.inl hb))⟩
      refine wpAny_bind (wpAny_mono (hB ρ₂ b₁ σ₁ b₃ σ₃ hs (hok i ρ₂ hbt) μ₄ H₄ s₄ S₄ E₄ hF₄ hD₄ R₄) (fun tb s₅ h5 => ?_) fun _ _ e => e.elim)
      cases tb with
      | true => exact wpAny_mono h5 (fun f s₆ y => y.1 ▸ ⟨rfl, fin s₆ y.2⟩) fun _ _ e => e.elim
      | false => exact wpAny_pure ⟨rfl, fin s₅ h5⟩
end
end Mine
end
section
namespace Mine
open PySem PySem.W PySem.Calls PyProof.Rows
noncomputable abbrev LC (elt : Expr) (gens : List Comprehension) (scope : Scope) (pos : Pos) : Expr := .ListComp elt gens scope pos
noncomputable def innerL (elt : Expr) (gens : List Comprehension) (scope : Scope) (pos : Pos) (d : Nat) (it acc : Value) (env : Env) : Sem Fin := match gens[d + 1]? with
  | some g' => do
    let x ← eval g'.iter env
    standAt g'.iter.pos
    let x ← foldedSetIterable g'.iter env x
    let l ← holding [x] (pyIter x)
    let _ ← runOwn (.compStart (LC elt gens scope pos) (d + 1) l acc env) env
    again (.compLoop (LC elt gens scope pos) d it acc env)
  | none => (do let _ ← call (.builtin "list.append") [acc, ← eval elt env] : Sem Unit) >>= fun _ => again (.compLoop (LC elt gens scope pos) d it acc env)
theorem turn_list {elt : Expr} {gens : List Comprehension} {scope : Scope} {pos : Pos} {d : Nat} {it acc : Value} {env : Env} {g : Comprehension} (hg : gens[d]? = some g) (ha : ∀ g ∈ gens, g.is_async = 0) :
    compTurn (LC elt gens scope pos) d it acc env = turnOf g.target g.iter g.ifs (innerL elt gens scope pos d it acc env) (LC elt gens scope pos) d it acc env := by
  unfold compTurn turnOf innerL
  simp only [hg, ha g (List.mem_of_getElem? hg), bne_self_eq_false, Bool.false_eq_true, if_false]
  congr 1; funext _
  congr 1; funext r
  cases r with
  | none => rfl
  | some v =>
    dsimp only
    congr 1; funext _
    congr 1; funext _
    unfold testsOf
    congr 1; funext ok
    cases ok with
    | false => rfl
    | true =>
      simp only [if_true]
      cases hg' : gens[d + 1]? with
      | none => rfl
      | some g' =>
        have ha' := ha g' (List.mem_of_getElem? hg')
        simp only [ha', bne_self_eq_false, Bool.false_eq_true, if_false]
section
variable {Γ : Cx} {A : Around} {env : Env} {ρ ρ' : En} {σ σ₁ σ₂ σ₃ σ₄ σ' : Hp} {μ : List Addr} {H : Addr → Prop} {s : Shared} {n : Nat} {O : Orc} {F : Addr → Prop} {β : Type} {D I : Addr} {W : List Addr}
  {R : β → List Addr → (Addr → Prop) → Heap → Prop} {P : Cur → List Addr → (Addr → Prop) → Heap → Prop}
theorem start_list {elt : Expr} {gens : List Comprehension} {scope : Scope} {pos : Pos} {d : Nat} {it acc : Value} {g : Comprehension} {RR : Result → Shared → Prop} (hg : gens[d]? = some g) (ha : g.is_async = 0)
    (h0 : codeAny (model Γ.prog Γ.w) A (.compLoop (LC elt gens scope pos) d it acc env) RR s)
    (h : WP Γ A (pyIter it) (fun it' s' => codeAny (model Γ.prog Γ.w) A (.compLoop (LC elt gens scope pos) d it' acc env) RR s') s) :
    codeAny (model Γ.prog Γ.w) A (.compStart (LC elt gens scope pos) d it acc env) RR s := by
  refine codeAny_of_tree ?_
  show wpAny _ A ((compStart (LC elt gens scope pos) d it acc env).onRaise (fun x => do noteFrame x env; standAt theWindowsPlace)) _ _ s
  refine wpAny_notedAt ?_
  have hc : clausesOf (LC elt gens scope pos) = gens := rfl
  unfold compStart
  simp only [hc, hg, ha, Option.elim, bne_self_eq_false, Bool.false_eq_true, if_false]
  refine wpAny_bind (wpAny_askSetting ?_)
  split
  · exact wpAny_bind (wpAny_pure (wpAny_pure (And.intro rfl h0)))
  · exact wpAny_bind (wpAny_rule (wpAny_bind (wpAny_standAt (wpAny_bind (wpAny_mono h (fun it' s' h' => wpAny_pure (And.intro rfl h')) fun _ _ x => x.elim)))))
inductive RL (D : Addr) (acc : List PV) (μ : List Addr) (H : Addr → Prop) (h : Heap) : Prop
  | mk (vs : Array Value) (n : Nat) (ho : h.get? D = some { cls := .type "list", data := .seq vs n }) (hv : VRs μ (gr h H) vs.toList acc)
theorem accL : Acc (List PV) D (RL D) := ⟨fun y hp hg hk => y.rec fun vs n h1 h2 => ⟨vs, n, hk _ h1, h2.mono hp hg⟩⟩
noncomputable def ForcedOk (env : Env) (iter : Expr) : Prop := ∀ x, foldedSetIterable iter env x = pure x
noncomputable def TestsOk (Γ : Cx) (O : Orc) (A : Around) (env : Env) (ifs : List Expr) (xs : List Ex) : Prop := ∀ ρ σ b σ', evTs Γ.I O xs ρ σ = some (b, σ') → TT Γ A env (testsOf ifs env) ρ σ b σ'
structure Clause (Γ : Cx) (O : Orc) (A : Around) (env : Env) (F : Addr → Prop) (g : Comprehension) (t : Tgt) (xs : List Ex) : Prop where
  sync : g.is_async = 0
  tgt : TgtOk Γ.I t g.target
  own : ∀ x ∈ tgNames t, Own Γ env F x
  tests : TestsOk Γ O A env g.ifs xs
inductive Cl (Γ : Cx) (O : Orc) (A : Around) (env : Env) (F : Addr → Prop) (elt : Expr) : List Comprehension → Cb → Prop
  | last {g t it xs e} : Clause Γ O A env F g t xs → (∀ ρ σ p σ', fin (ev Γ.I O e ρ σ) = some (p, σ') → TV Γ A env (eval elt env) ρ σ p σ') → Cl Γ O A env F elt [g] (.gen t it xs (.emit e))
  | more {g g' gs t it xs t' it' xs' r} : Clause Γ O A env F g t xs → ForcedOk env g'.iter → (∀ ρ σ src σ', evIt Γ.I O it' ρ σ = some (src, σ') → TI Γ A env (eval g'.iter env) ρ σ src σ') →
      Cl Γ O A env F elt (g' :: gs) (.gen t' it' xs' r) → Cl Γ O A env F elt (g :: g' :: gs) (.gen t it xs (.gen t' it' xs' r))
noncomputable def bevL (I : Info) (O : Orc) (xs : List Ex) (r : Cb) : En → List PV → Hp → Option (List PV × Hp) := fun ρ acc σ => bd (evTs I O xs ρ σ) fun c σ' => cond c (evC I O r ρ ρ acc σ') (some (acc, σ'))
noncomputable abbrev stepC (I : Info) (O : Orc) (t : Tgt) (xs : List Ex) (r : Cb) (ρ : En) : Item → List PV → Hp → Option (Option Flo × List PV × Hp) := stepB t ρ (bevL I O xs r)
theorem CP.after {ρ : En} {b : β} {μ₀ : List Addr} {H₀ : Addr → Prop} {h₀ : Heap} {os₀ : OsState} {s' : Shared} (T : TrF (Or F [D]) μ₀ H₀ h₀ os₀ μ H s.heap s.os) (x : CP Γ env F D R ρ b σ' μ H s.heap s.os s') : CP Γ env F D R ρ b σ' μ₀ H₀ h₀ os₀ s' :=
  x.rec fun μ' H' T' S' E' r f => ⟨μ', H', T.trans T', S', E', r, f⟩
theorem emit_ok {elt : Expr} {ifs : List Expr} {xs : List Ex} {e : Ex} {cd : Code} (hDF : ¬ F D) (ht : TestsOk Γ O A env ifs xs) (he : ∀ ρ σ p σ', fin (ev Γ.I O e ρ σ) = some (p, σ') → TV Γ A env (eval elt env) ρ σ p σ') :
    BodyOk Γ A env F D (RL D) ifs ((do let _ ← call (.builtin "list.append") [.ref D, ← eval elt env] : Sem Unit) >>= fun _ => again cd) cd (bevL Γ.I O xs (.emit e)) (fun _ => True) := by
  intro ρ acc σ acc' σ' hev _ μ H s S E hF hD hR
  obtain ⟨b, σ₁, hts, hev⟩ := bd_some hev
  refine Does.is (ht ρ σ b σ₁ hts μ H s S E) fun s₁ μ₁ H₁ T₁ S₁ => ?_
  have E₁ := E.tr T₁
  have D₁ := T₁.fok hD
  have keep : ∀ {μ H h os μ' H' h' os'} (T : Tr μ H h os μ' H' h' os'), FOk (· ∈ [D]) μ H h → ∀ o, h.get? D = some o → h'.get? D = some o := fun T hD o e => (T.kept _ _ e fun q => (hD D (.head _)).1 q.1).1
  have R₁ : RL D acc μ₁ H₁ s₁.heap := accL.stab hR T₁.pre T₁.gr (keep T₁ hD)
  cases b with
  | false =>
    cases hev
    exact ⟨μ₁, H₁, T₁.toF _, S₁, E₁, R₁, T₁.fok (hF.or hD)⟩
  | true =>
    obtain ⟨p, σ₂, hp, hev⟩ := bd_some hev
    obtain ⟨hlen, hev⟩ := gd_val hev
    cases hev
    refine wpAny_bind (wpAny_bind (Does.use (he ρ σ₁ p σ' hp μ₁ H₁ s₁ S₁ E₁) fun v s₂ μ₂ H₂ T₂ S₂ r₂ => ?_))
    have D₂ := T₂.fok D₁
    obtain ⟨vs, m, h1, h2⟩ := accL.stab R₁ T₂.pre T₂.gr (keep T₂ D₁)
    refine wpAny_bind (append_at h1 (fun h' hs hd => wpAny_pure (wpAny_pure ⟨rfl, ?_⟩)) (by
      rw [← Array.length_toList, vrs_len h2]; exact Nat.le_trans (Nat.le_of_lt hlen) (by decide)))
    have z := S₂.but (s' := { s₂ with heap := h' }) (F := (· ∈ [D])) (H' := H₂) D₂ (fun b o hb e => (hs.2 b fun q => hb (q ▸ .head _)).trans e) (fun b hb => List.mem_singleton.mp hb ▸ ⟨_, hd⟩) (fun _ _ _ => Iff.rfl) rfl rfl
    have E₂ := E₁.tr T₂
    have hcell : ∀ n c, env.cells.lookup n = some c → ¬ (c ∈ [D]) := fun n c hc q => by
      obtain ⟨_, _, v, oc, e1, e2⟩ := E₂.cout n c hc
      rw [List.mem_singleton.mp q, h1] at e1; cases e1; cases e2
    have hloc : ¬ env.locals ∈ [D] := fun q => by
      obtain ⟨m', ⟨o', es, ep, e1, e2, _⟩, _⟩ := E₂.ns
      rw [List.mem_singleton.mp q, h1] at e1; cases e1; cases e2
    have gm := z.2.gr D₂
    exact ⟨μ₂, H₂, (((T₁.trans T₂).toF _).trans (z.2.weaken fun b hb => .inl (.inr hb))), z.1, E₂.stay D₂ z.2 hloc hcell,
      ⟨vs.push v, m + 1, hd, by rw [Array.toList_push]; exact vrs_append (h2.mono ⟨[], by simp⟩ gm) (.cons (r₂.mono ⟨[], by simp⟩ gm) .nil)⟩, z.2.fok (T₂.fok (T₁.fok (hF.or hD)))⟩
theorem drop_cons {α : Type} {l : List α} {d : Nat} {g : α} {gs : List α} (h : l.drop d = g :: gs) : l[d]? = some g ∧ l.drop (d + 1) = gs := by
  have h1 : d < l.length := by
    cases Nat.lt_or_ge d l.length with
    | inl h => exact h
    | inr h' => rw [List.drop_eq_nil_of_le h'] at h; cases h
  rw [List.drop_eq_getElem_cons h1] at h
  cases h
  exact ⟨List.getElem?_eq_getElem h1, rfl⟩
end
end Mine
end
section
namespace Mine
open PySem PySem.W PySem.Calls PyProof.Rows
section
variable {Γ : Cx} {A : Around} {env : Env} {ρ ρ' : En} {σ σ₁ σ₂ σ₃ σ₄ σ' : Hp} {μ : List Addr} {H : Addr → Prop} {s : Shared} {n : Nat} {O : Orc} {F : Addr → Prop} {β : Type} {D I : Addr} {W : List Addr}
  {R : β → List Addr → (Addr → Prop) → Heap → Prop} {P : Cur → List Addr → (Addr → Prop) → Heap → Prop}
theorem fresh_apart {h₀ : Heap} (E : EnvR Γ env ρ μ H h₀) (hF : FOk F μ H h₀) (hD : FOk (· ∈ [D]) μ H h₀) (hW : ∀ b ∈ W, h₀.get? b = none) : (∀ b ∈ W, ¬ F b) ∧ EnvOut env W ∧ D ∉ W := by
  refine ⟨fun b hb q => ?_, ⟨fun q => ?_, fun n c hc q => ?_⟩, fun q => ?_⟩
  · obtain ⟨_, _, o, e⟩ := hF b q
    rw [hW b hb] at e; cases e
  · obtain ⟨m, hn, _⟩ := E.ns
    obtain ⟨o, e⟩ := Ns.there hn
    rw [hW _ q] at e; cases e
  · obtain ⟨_, _, v, o, e, _⟩ := E.cout n c hc
    rw [hW _ q] at e; cases e
  · obtain ⟨_, _, o, e⟩ := hD D (by simp)
    rw [hW _ q] at e; cases e
theorem RL.keep {acc : List PV} {μ H h os μ' H' h' os'} (x : RL D acc μ H h) (T : Tr μ H h os μ' H' h' os') (hD : FOk (· ∈ [D]) μ H h) : RL D acc μ' H' h' :=
  accL.stab x T.pre T.gr fun o e => (T.kept _ _ e fun q => (hD D (.head _)).1 q.1).1
theorem clause_ok {elt : Expr} {gens : List Comprehension} {scope : Scope} {pos : Pos} (K : Γ.Ok) (hA : A.handled = none) (ha : ∀ g ∈ gens, g.is_async = 0) (hDF : ¬ F D) {suffix : List Comprehension} {c : Cb} (h : Cl Γ O A env F elt suffix c) :
    ∀ d, gens.drop d = suffix → ∀ t it xs r, c = .gen t it xs r → ∀ {ρ : En} {f : Nat} {res : Option Flo × List PV × Hp}, (∀ x ∈ cbNames c, getV x ρ = none) → (cbNames c).Nodup →
      ∀ {I : Addr} {W : List Addr} {P : Cur → List Addr → (Addr → Prop) → Heap → Prop} (_ : Laws Γ A I W P), (∀ b ∈ W, ¬ F b) → EnvOut env W → D ∉ W →
        ∀ {μ₀ : List Addr} {H₀ : Addr → Prop} {h₀ : Heap} {os₀ : OsState} {s : Shared}, (∀ b ∈ W, h₀.get? b = none) → ComI Γ env F W P D (RL D) ρ μ₀ H₀ h₀ os₀ (stepC Γ.I O t xs r ρ) res f s →
          codeAny (model Γ.prog Γ.w) A (.compLoop (LC elt gens scope pos) d (.ref I) (.ref D) env) (Ends (CP Γ env F D (RL D) ρ res.2.1 res.2.2 μ₀ H₀ h₀ os₀)) s := by
  induction h with
  | @last g t it xs e hC he =>
    intro d hd t' it' xs' r' hc ρ f res hfr hnd I W P L hFW hEW hDW μ₀ H₀ h₀ os₀ s hW₀ x
    cases hc
    obtain ⟨hg, hd'⟩ := drop_cons hd
    have hn : gens[d + 1]? = none := List.getElem?_eq_none_iff.mpr (List.drop_eq_nil_iff.mp hd')
    refine comp_loop (okE := fun _ => True) L K hA rfl rfl rfl (turn_list hg ha) hC.tgt hC.own hFW hEW hDW hDF accL (fun x hx => hfr x (List.mem_append_left _ hx)) (fun _ _ _ => trivial) ?_ hW₀ x
    unfold innerL
    rw [hn]
    exact emit_ok hDF hC.tests he
  | @more g g' gs t it xs t' it' xs' r' hC hfo hit hcl ih =>
    intro d hd t₁ it₁ xs₁ r₁ hc ρ f res hfr hnd I W P L hFW hEW hDW μ₀ H₀ h₀ os₀ s hW₀ x
    cases hc
    obtain ⟨hg, hd'⟩ := drop_cons hd
    obtain ⟨hg', _⟩ := drop_cons hd'
    have hnd' := List.nodup_append.mp (show (tgNames t ++ cbNames (.gen t' it' xs' r')).Nodup from hnd)
    refine comp_loop (okE := fun ρ => ∀ x ∈ cbNames (.gen t' it' xs' r'), getV x ρ = none) L K hA rfl rfl rfl (turn_list hg ha) hC.tgt hC.own hFW hEW hDW hDF accL (fun x hx => hfr x (List.mem_append_left _ hx)) (fun i ρ' hb x hx => ?_) ?_ hW₀ x
    · rw [bindT_only hb fun hm => hnd'.2.2 x hm x hx rfl]
      exact hfr x (List.mem_append_right _ hx)
    · unfold innerL
      rw [hg']
      intro ρ' acc₁ σ₁ acc₂ σ₂ hev hok μ₁ H₁ s₁ S₁ E₁ F₁ D₁ R₁
      obtain ⟨b, σ₃, hts, hev⟩ := bd_some hev
      refine Does.is (hC.tests ρ' σ₁ b σ₃ hts μ₁ H₁ s₁ S₁ E₁) fun s₂ μ₂ H₂ T₂ S₂ => ?_
      have E₂ := E₁.tr T₂
      have F₂ := T₂.fok F₁
      have D₂ := T₂.fok D₁
      have R₂ := R₁.keep T₂ D₁
      cases b with
      | false =>
        cases hev
        exact ⟨μ₂, H₂, T₂.toF _, S₂, E₂, R₂, F₂.or D₂⟩
      | true =>
        obtain ⟨src', σ₄, hi, hev⟩ := bd_some hev
        obtain ⟨⟨out', acc₃, σ₅⟩, hloop, hev⟩ := bn_some hev
        cases hev
        obtain ⟨f', hf'⟩ := loopS_G (stepC Γ.I O t' xs' r' ρ') src' acc₁ σ₄
        have hloop := hf'.symm.trans hloop
        refine wpAny_bind (wpAny_mono (hit ρ' σ₃ src' σ₄ hi μ₂ H₂ s₂ S₂ E₂) (fun xv s₃ hx => ?_) fun _ _ e => e)
        refine wpAny_bind (wpAny_standAt (wpAny_bind (wpAny_of_eq (hfo xv) (wpAny_bind (wpAny_holding (Does.use hx fun itv s₄ μ₄ H₄ T₄ S₄ r₄ => ?_))))))
        obtain ⟨I', W', P', rfl, L', hP', hW', hfresh⟩ := r₄
        obtain ⟨a1, a2, a3⟩ := fresh_apart E₂ F₂ D₂ hfresh
        have loop := ih (d + 1) hd' t' it' xs' r' rfl hok hnd'.2.1 L' a1 a2 a3 hfresh ⟨_, _, _, μ₄, H₄, hloop, S₄, E₂.tr T₄, T₄.fok F₂, T₄.fok D₂, hW', hP', R₂.keep T₄ D₂, T₄.toF (Or (Or F [D]) W')⟩
        exact wpAny_bind (wpAny_runOwn (h := none) (codeAny_mono (start_list hg' (ha g' (List.mem_of_getElem? hg')) loop (L'.self hP' loop)) fun r s₅ z => match r, z with
          | .ok _, z => wpAny_pure ⟨rfl, CP.after (T₂.toF _) z⟩))
end
end Mine
end
section
namespace Mine
open PySem PySem.W PySem.Calls PyProof.Rows
noncomputable def clOf (env : Env) : List (Str × NameKind) → List (Str × Addr) → List (Str × Addr)
  | [], acc => acc
  | (n, k) :: r, acc => if k == .free then clOf env r ((n, (env.cells.lookup n).getD 0) :: acc) else clOf env r acc
theorem clOf_c {env : Env} {n : Str} {k : NameKind} {r : List (Str × NameKind)} {acc : List (Str × Addr)} : clOf env ((n, k) :: r) acc = if k == .free then clOf env r ((n, (env.cells.lookup n).getD 0) :: acc) else clOf env r acc := rfl
theorem closure_eq {scope : Scope} {env : Env} (h : ∀ n, (n, NameKind.free) ∈ scope.names → (env.cells.lookup n).isSome = true) : closureFor scope env = pure (clOf env scope.names []) := by
  unfold closureFor
  have key : ∀ (l : List (Str × NameKind)) (acc : List (Str × Addr)), (∀ n, (n, NameKind.free) ∈ l → (env.cells.lookup n).isSome = true) →
      (forIn l acc fun (x : Str × NameKind) r => (do
        if x.2 == NameKind.free then do
          let c ← cellOf env x.1
          pure (ForInStep.yield ((x.1, c) :: r))
        else pure (ForInStep.yield r) : Sem (ForInStep (List (Str × Addr))))) = pure (clOf env l acc) := by
    intro l
    induction l with
    | nil => intro acc _; rfl
    | cons x r ih =>
      intro acc hl
      obtain ⟨n, k⟩ := x
      rw [List.forIn_cons]
      rw [clOf_c]
      by_cases hk : (k == NameKind.free) = true
      · have hk' : k = .free := by simpa using hk
        subst hk'
        obtain ⟨c, hc⟩ := Option.isSome_iff_exists.mp (hl n List.mem_cons_self)
        simp only [beq_self_eq_true, if_true]
        unfold cellOf
        rw [hc]
        exact ih _ fun m hm => hl m (List.mem_cons_of_mem _ hm)
      · simp only [Bool.not_eq_true] at hk
        simp only [hk, Bool.false_eq_true, if_false]
        exact ih _ fun m hm => hl m (List.mem_cons_of_mem _ hm)
  have := key scope.names [] h
  first
    | exact (congrArg (· >>= fun r => (pure r : Sem _)) this)
    | (rw [show (closureFor scope env) = _ from rfl]; exact this)
theorem clOf_lookup {env : Env} {n : Str} {c : Addr} : ∀ (l : List (Str × NameKind)) (acc : List (Str × Addr)), (∀ m, (m, NameKind.free) ∈ l → (env.cells.lookup m).isSome = true) → (∀ c, acc.lookup n = some c → env.cells.lookup n = some c) →
    (clOf env l acc).lookup n = some c → env.cells.lookup n = some c
  | [], acc, _, ha, h => ha c h
  | (m, k) :: r, acc, hl, ha, h => by
    rw [clOf_c] at h
    split at h
    · rename_i hk
      refine clOf_lookup r _ (fun m hm => hl m (List.mem_cons_of_mem _ hm)) (fun c' hc' => ?_) h
      rw [List.lookup_cons] at hc'
      split at hc'
      · rename_i hb
        have : n = m := by simpa using hb
        subst this
        have hk' : k = .free := by simpa using hk
        subst hk'
        obtain ⟨d, hd⟩ := Option.isSome_iff_exists.mp (hl n List.mem_cons_self)
        rw [hd] at hc' ⊢
        simpa using hc'
      · exact ha c' hc'
    · exact clOf_lookup r acc (fun m hm => hl m (List.mem_cons_of_mem _ hm)) ha h
theorem clOf_isSome {env : Env} {n : Str} : ∀ (l : List (Str × NameKind)) (acc : List (Str × Addr)), ((n, NameKind.free) ∈ l ∨ (acc.lookup n).isSome = true) → ((clOf env l acc).lookup n).isSome = true
  | [], acc, h => by
    rcases h with h | h
    · cases h
    · exact h
  | (m, k) :: r, acc, h => by
    rw [clOf_c]
    split
    · rename_i hk
      refine clOf_isSome r _ ?_
      rcases h with h | h
      · rcases List.mem_cons.mp h with h | h
        · cases h; right; simp
        · exact .inl h
      · right
        rw [List.lookup_cons]
        split
        · rfl
        · exact h
    · rename_i hk
      refine clOf_isSome r _ ?_
      rcases h with h | h
      · rcases List.mem_cons.mp h with h | h
        · cases h; exact absurd rfl hk
        · exact .inl h
      · exact .inr h
theorem clOf_free {env : Env} {n : Str} {c : Addr} : ∀ (l : List (Str × NameKind)) (acc : List (Str × Addr)), (clOf env l acc).lookup n = some c → (n, NameKind.free) ∈ l ∨ acc.lookup n = some c
  | [], acc, h => .inr h
  | (m, k) :: r, acc, h => by
    rw [clOf_c] at h
    split at h
    · rename_i hk
      have hk' : k = .free := by simpa using hk
      subst hk'
      rcases clOf_free r _ h with h | h
      · exact .inl (List.mem_cons_of_mem _ h)
      · rw [List.lookup_cons] at h
        split at h
        · rename_i hb
          have : n = m := by simpa using hb
          subst this
          exact .inl List.mem_cons_self
        · exact .inr h
    · rcases clOf_free r _ h with h | h
      · exact .inl (List.mem_cons_of_mem _ h)
      · exact .inr h
section
variable {Γ : Cx} {A : Around} {env : Env} {s : Shared}
theorem new_comp {scope : Scope} {cl : List (Str × Addr)} {Q : Env → Shared → Prop}
    (hQ : Q (newEnv scope s.heap.objs.size env.globals (cellsFrom (s.heap.objs.size + 1) scope.names cl) env.qual none .none (some env) builtinsNs) { s with heap := pushCells (s.heap.push { cls := .type "dict", data := .dict #[] }) scope.names }) :
    WP Γ A (newFunctionEnv scope env.globals cl [] env.qual none .none (some env)) Q s := by
  simp only [newFunctionEnv, Option.isSome_some, if_true]
  refine wpAny_bind (wpAny_alloc ?_)
  refine wpAny_bind (wpAny_layCells _ (fun name kind cells => by cases hkc : kind == NameKind.cell <;> simp [hkc]) _ _ _ _ ?_)
  rw [show ({ s with heap := s.heap.push { cls := .type "dict", data := .dict #[] } } : Shared).heap.objs.size = s.heap.objs.size + 1 from Heap.size_push ..]
  exact wpAny_bind (wpAny_pure (wpAny_pure hQ))
end
end Mine
end
section
namespace Mine
open PySem PySem.W PySem.Calls PyProof.Rows
structure EnvS (env : Env) (sc : List (Str × NameKind)) : Prop where
  names : env.scope.names = sc
  kind : env.scope.kind = .function
  cells : ∀ n, (sc.lookup n = some .cell ∨ sc.lookup n = some .free) → ∃ c, env.cells.lookup n = some c
structure ScopeOk (I : Info) (sc : List (Str × NameKind)) (scope : Scope) (tg : List Nat) : Prop where
  kind : scope.kind = .function
  nodup : (scope.names.map (·.1)).Nodup
  own : ∀ n k, (n, k) ∈ scope.names → (k = .local ∨ k = .cell) → (∃ x ∈ tg, n = nm I x) ∨ ∀ x, nm I x ≠ n
  free : ∀ n, (n, NameKind.free) ∈ scope.names → sc.lookup n = some .cell ∨ sc.lookup n = some .free
  tgt : ∀ x ∈ tg, x < I.N.length ∧ (scope.names.lookup (nm I x) = some .local ∨ scope.names.lookup (nm I x) = some .cell)
noncomputable def relab (sc : List (Str × NameKind)) (names : List (Str × NameKind)) : List (Str × NameKind) := names.map fun (n, k) => if (k == .free && sc.lookup n == some .cell) then (n, .cell) else (n, k)
theorem relabel_names {scope : Scope} {env : Env} {sc : List (Str × NameKind)} (X : EnvS env sc) : (relabel scope env).names = relab sc scope.names := by
  unfold relabel relab Env.kindOf
  rw [X.names, X.kind]
  simp
theorem lookup_nodup {α : Type} {l : List (Str × α)} {n : Str} {k : α} (hd : (l.map (·.1)).Nodup) (h : (n, k) ∈ l) : l.lookup n = some k := by
  induction l with
  | nil => cases h
  | cons x r ih =>
    obtain ⟨m, j⟩ := x
    simp only [List.map_cons, List.nodup_cons] at hd
    rcases List.mem_cons.mp h with h | h
    · cases h; simp
    · rw [List.lookup_cons]
      have : n ≠ m := fun e => hd.1 (by rw [← e]; exact List.mem_map_of_mem (f := (·.1)) h)
      have hb : (n == m) = false := by simpa using this
      rw [hb]
      exact ih hd.2 h
theorem relab_lookup {sc names : List (Str × NameKind)} {n : Str} {k : NameKind} (h : (relab sc names).lookup n = some k) : ∃ j, names.lookup n = some j ∧ (k = j ∨ (j = .free ∧ k = .cell)) := by
  induction names with
  | nil => cases h
  | cons x r ih =>
    obtain ⟨m, j⟩ := x
    unfold relab at h ih
    rw [List.map_cons] at h
    rw [List.lookup_cons]
    by_cases hb : n = m
    · subst hb
      simp only [beq_self_eq_true]
      refine ⟨j, rfl, ?_⟩
      dsimp only at h
      split at h
      · rename_i hc
        simp only [List.lookup_cons, beq_self_eq_true, Option.some.injEq] at h
        simp only [Bool.and_eq_true, beq_iff_eq] at hc
        exact .inr ⟨hc.1, h.symm⟩
      · simp only [List.lookup_cons, beq_self_eq_true, Option.some.injEq] at h
        exact .inl h.symm
    · have hb' : (n == m) = false := by simpa using hb
      rw [hb']
      dsimp only at h
      refine ih ?_
      split at h <;> (rw [List.lookup_cons, hb'] at h; exact h)
theorem relab_local {sc names : List (Str × NameKind)} {n : Str} {k : NameKind} (hk : k ≠ .free) (h : names.lookup n = some k) : (relab sc names).lookup n = some k := by
  induction names with
  | nil => cases h
  | cons x r ih =>
    obtain ⟨m, j⟩ := x
    unfold relab at ih ⊢
    rw [List.map_cons]
    rw [List.lookup_cons] at h
    by_cases hb : n = m
    · subst hb
      simp only [beq_self_eq_true, Option.some.injEq] at h
      subst h
      dsimp only
      have : (j == NameKind.free) = false := by simpa using hk
      rw [this, Bool.false_and]
      simp
    · have hb' : (n == m) = false := by simpa using hb
      rw [hb'] at h
      dsimp only
      split <;> (rw [List.lookup_cons, hb']; exact ih h)
theorem getV_hide {x : Nat} {p : PV} {ρ : En} : ∀ {tg : List Nat}, getV x (hide tg ρ) = some p → getV x ρ = some p ∧ x ∉ tg
  | [], h => ⟨h, List.not_mem_nil⟩
  | y :: r, h => by
    have h : cond (Nat.beq y x) none (getV x (hide r ρ)) = some p := h
    cases hb : Nat.beq y x with
    | true => rw [hb] at h; cases h
    | false =>
      rw [hb] at h
      obtain ⟨h1, h2⟩ := getV_hide (tg := r) h
      refine ⟨h1, fun q => ?_⟩
      rcases List.mem_cons.mp q with e | q
      · rw [e, Nat.beq_refl] at hb; cases hb
      · exact h2 q
theorem hide_none {x : Nat} {tg : List Nat} {ρ : En} (h : x ∈ tg) : getV x (hide tg ρ) = none := by
  cases q : getV x (hide tg ρ) with
  | none => rfl
  | some p => exact absurd h (getV_hide q).2
theorem lookup_app {α : Type} {l r : List (Str × α)} {n : Str} {k : α} (h : (l ++ r).lookup n = some k) : l.lookup n = some k ∨ (l.lookup n = none ∧ r.lookup n = some k) := by
  rw [List.lookup_append] at h
  cases q : l.lookup n with
  | none => rw [q] at h; exact .inr ⟨rfl, h⟩
  | some j => rw [q] at h; exact .inl h
noncomputable def CF (n : Nat) (names : List (Str × NameKind)) : Addr → Prop := fun b => b = n ∨ ∃ m, (cellsFrom (n + 1) names []).lookup m = some b
section
variable {Γ : Cx} {A : Around} {env : Env} {ρ : En} {σ : Hp} {μ : List Addr} {H : Addr → Prop} {s : Shared}
noncomputable def compE (env : Env) (scope : Scope) (n : Nat) : Env := { newEnv scope n env.globals (cellsFrom (n + 1) scope.names (clOf env scope.names [])) env.qual none .none (some env) builtinsNs with scope := relabel scope env }
theorem comp_env {sc : List (Str × NameKind)} {scope : Scope} {tg : List Nat} (K : Γ.Ok) (S : Γ.St μ H σ s) (E : EnvR Γ env ρ μ H s.heap) (X : EnvS env sc) (Y : ScopeOk Γ.I sc scope tg) {s' : Shared}
    (hs : s' = { s with heap := pushCells (s.heap.push { cls := .type "dict", data := .dict #[] }) scope.names }) :
    Γ.St μ (fun b => H b ∨ s.heap.objs.size ≤ b) σ s' ∧ Tr μ H s.heap s.os μ (fun b => H b ∨ s.heap.objs.size ≤ b) s'.heap s'.os ∧ EnvR Γ (compE env scope s.heap.objs.size) (hide tg ρ) μ (fun b => H b ∨ s.heap.objs.size ≤ b) s'.heap ∧
      FOk (CF s.heap.objs.size scope.names) μ (fun b => H b ∨ s.heap.objs.size ≤ b) s'.heap ∧ (∀ b, CF s.heap.objs.size scope.names b → s.heap.objs.size ≤ b) ∧ (∀ x ∈ tg, Own Γ (compE env scope s.heap.objs.size) (CF s.heap.objs.size scope.names) x) ∧
      EnvS (compE env scope s.heap.objs.size) (relab sc scope.names) ∧ (∀ n c, (compE env scope s.heap.objs.size).cells.lookup n = some c → s.heap.objs.size ≤ c ∨ env.cells.lookup n = some c) := by
  subst hs
  have hsz : (s.heap.push { cls := .type "dict", data := .dict #[] }).objs.size = s.heap.objs.size + 1 := Heap.size_push ..
  have hkeep : ∀ b o, s.heap.get? b = some o → (pushCells (s.heap.push { cls := .type "dict", data := .dict #[] }) scope.names).get? b = some o := fun b o e => pushCells_keeps _ _ b o (Heap.get?_push_of_some _ e)
  have z := S.grow (s' := { s with heap := pushCells (s.heap.push { cls := .type "dict", data := .dict #[] }) scope.names }) (H' := fun b => H b ∨ s.heap.objs.size ≤ b) hkeep (fun b o e => by
    have : ¬ s.heap.objs.size ≤ b := Nat.not_le.mpr (Heap.lt_size e)
    simp [this]) rfl rfl
  have ok := cellsFrom_ok scope.names (s.heap.push { cls := .type "dict", data := .dict #[] }) (s.heap.objs.size + 1) [] ⟨fun _ _ hm => (nomatch hm), List.Pairwise.nil⟩ (Nat.le_of_eq hsz.symm)
  rw [hsz] at ok
  have hmu : ∀ b, s.heap.objs.size ≤ b → b ∉ μ := fun b hb q => by
    obtain ⟨o, e⟩ := S.there b q
    exact absurd (Heap.lt_size e) (Nat.not_lt.mpr hb)
  have hns : (pushCells (s.heap.push { cls := .type "dict", data := .dict #[] }) scope.names).Ns s.heap.objs.size fun _ => none := (Heap.Ns.new s.heap (.type "dict")).keeps (pushCells_keeps _ _)
  have hge : ∀ b, CF s.heap.objs.size scope.names b → s.heap.objs.size ≤ b := by
    rintro b (rfl | ⟨m, hm⟩)
    · exact Nat.le_refl _
    · exact Nat.le_of_succ_le (ok.empty m b (mem_of_lookup hm)).2
  have hfree : ∀ n, (n, NameKind.free) ∈ scope.names → (env.cells.lookup n).isSome = true := fun n hn => by
    obtain ⟨c, hc⟩ := X.cells n (Y.free n hn)
    rw [hc]; rfl
  have hcs : (compE env scope s.heap.objs.size).cells = cellsFrom (s.heap.objs.size + 1) scope.names [] ++ clOf env scope.names [] := cellsFrom_app _ _ _
  have hclo : ∀ n c, (clOf env scope.names []).lookup n = some c → env.cells.lookup n = some c ∧ (n, NameKind.free) ∈ scope.names := fun n c h =>
    ⟨clOf_lookup _ _ hfree (fun _ h => by simp at h) h, (clOf_free _ _ h).elim id fun h => by simp at h⟩
  have hnames : (compE env scope s.heap.objs.size).scope.names = relab sc scope.names := relabel_names X
  have own_no_free : ∀ n, (n, NameKind.free) ∈ scope.names → (cellsFrom (s.heap.objs.size + 1) scope.names []).lookup n = none := fun n hn => by
    cases q : (cellsFrom (s.heap.objs.size + 1) scope.names []).lookup n with
    | none => rfl
    | some c =>
      have h1 := cellsFrom_mem _ _ (mem_of_lookup q)
      have e1 := lookup_nodup Y.nodup h1
      have e2 := lookup_nodup Y.nodup hn
      rw [e1] at e2; cases e2
  have hlk : ∀ n c, (compE env scope s.heap.objs.size).cells.lookup n = some c → (cellsFrom (s.heap.objs.size + 1) scope.names []).lookup n = some c ∨ env.cells.lookup n = some c := fun n c h => by
    rw [hcs] at h
    rcases lookup_app h with h | ⟨_, h⟩
    · exact .inl h
    · exact .inr (hclo n c h).1
  have hfo : FOk (CF s.heap.objs.size scope.names) μ (fun b => H b ∨ s.heap.objs.size ≤ b) (pushCells (s.heap.push { cls := .type "dict", data := .dict #[] }) scope.names) := fun b hb => by
    refine ⟨hmu b (hge b hb), .inr (hge b hb), ?_⟩
    rcases hb with rfl | ⟨m, hm⟩
    · exact Ns.there hns
    · obtain ⟨o, e, _⟩ := (ok.empty m b (mem_of_lookup hm)).1
      exact ⟨o, e⟩
  have lt_env : ∀ n c, env.cells.lookup n = some c → c < s.heap.objs.size := fun n c h => by
    obtain ⟨_, _, v, o, e, _⟩ := E.cout n c h
    exact Heap.lt_size e
  refine ⟨z.1, z.2, ⟨Y.kind, E.glob, E.blt, ⟨_, hns, fun x p hx hk => ?_⟩, fun x p hx hk => ?_, ⟨hmu _ (Nat.le_refl _), .inr (Nat.le_refl _)⟩, fun n c hc => ?_, fun n n' c h1 h2 => ?_, fun n c hc => ?_⟩, hfo, hge, fun x hx => ?_, ⟨hnames, Y.kind, fun n hn => ?_⟩, fun n c hc => (hlk n c hc).imp (fun h => hge c (.inr ⟨n, h⟩)) id⟩
  · obtain ⟨h1, h2⟩ := getV_hide hx
    unfold Env.kindOf at hk
    rw [hnames] at hk
    obtain ⟨j, h3, h4⟩ := relab_lookup hk
    have hj : j = .local := by rcases h4 with h | ⟨_, h⟩; exact h.symm; cases h
    subst hj
    obtain ⟨y, hy, e⟩ := (Y.own _ _ (mem_of_lookup h3) (.inl rfl)).resolve_right fun q => q x rfl
    have := K.inj y x (Y.tgt y hy).1 e.symm
    subst this
    exact absurd hy h2
  · obtain ⟨h1, h2⟩ := getV_hide hx
    have hk' : (relab sc scope.names).lookup (nm Γ.I x) = some .cell ∨ (relab sc scope.names).lookup (nm Γ.I x) = some .free := by
      unfold Env.kindOf at hk; rw [hnames] at hk; exact hk
    have hj : scope.names.lookup (nm Γ.I x) = some .free := by
      rcases hk' with hk' | hk'
      · obtain ⟨j, h3, h4⟩ := relab_lookup hk'
        rcases h4 with h | ⟨h, _⟩
        · subst h
          obtain ⟨y, hy, e⟩ := (Y.own _ _ (mem_of_lookup h3) (.inr rfl)).resolve_right fun q => q x rfl
          have := K.inj y x (Y.tgt y hy).1 e.symm
          subst this
          exact absurd hy h2
        · rw [h3, h]
      · obtain ⟨j, h3, h4⟩ := relab_lookup hk'
        rcases h4 with h | ⟨_, h⟩
        · rw [h3, h]
        · cases h
    have hm := mem_of_lookup hj
    have hkk : env.kindOf (nm Γ.I x) = some .cell ∨ env.kindOf (nm Γ.I x) = some .free := by
      unfold Env.kindOf; rw [X.names]; exact Y.free _ hm
    obtain ⟨c, v, e1, e2, e3⟩ := E.cells x p h1 hkk
    refine ⟨c, v, ?_, e2.keeps hkeep, e3.tr z.2⟩
    rw [hcs, List.lookup_append, own_no_free _ hm]
    obtain ⟨d, hd⟩ := Option.isSome_iff_exists.mp (clOf_isSome (env := env) scope.names [] (.inl hm))
    rw [hd]
    have := (hclo _ d hd).1
    rw [e1] at this
    exact this ▸ rfl
  · rcases hlk n c hc with h | h
    · have := hfo c (.inr ⟨n, h⟩)
      exact ⟨this.1, this.2.1, none, (ok.empty n c (mem_of_lookup h)).1⟩
    · obtain ⟨q1, q2, v, q3⟩ := E.cout n c h
      exact ⟨q1, .inl q2, v, q3.keeps hkeep⟩
  · rcases hlk n c h1 with a | a <;> rcases hlk n' c h2 with b | b
    · exact name_of_addr ok.apart (mem_of_lookup a) (mem_of_lookup b)
    · have l1 := (ok.empty n c (mem_of_lookup a)).2
      have l2 := lt_env n' c b
      exact absurd l2 (Nat.not_lt.mpr (Nat.le_of_succ_le l1))
    · have l1 := (ok.empty n' c (mem_of_lookup b)).2
      have l2 := lt_env n c a
      exact absurd l2 (Nat.not_lt.mpr (Nat.le_of_succ_le l1))
    · exact E.apart n n' c a b
  · rcases hlk n c hc with h | h
    · exact Nat.ne_of_gt (ok.empty n c (mem_of_lookup h)).2
    · exact Nat.ne_of_lt (lt_env n c h)
  · obtain ⟨h1, h2⟩ := Y.tgt x hx
    refine ⟨h1, ?_⟩
    rcases h2 with h2 | h2
    · exact .inl ⟨by unfold Env.kindOf; rw [hnames]; exact relab_local (by decide) h2, .inl rfl⟩
    · refine .inr ⟨by unfold Env.kindOf; rw [hnames]; exact relab_local (by decide) h2, ?_⟩
      obtain ⟨c, hc⟩ := Option.isSome_iff_exists.mp (cellsFrom_isSome (x := nm Γ.I x) scope.names (s.heap.objs.size + 1) [] (.inr (mem_of_lookup h2)))
      exact ⟨c, by rw [hcs, List.lookup_append, hc]; rfl, .inr ⟨_, hc⟩⟩
  · rw [hcs]
    have : scope.names.lookup n = some .cell ∨ scope.names.lookup n = some .free := by
      rcases hn with hn | hn
      · obtain ⟨j, h3, h4⟩ := relab_lookup hn
        rcases h4 with h | ⟨h, _⟩
        · exact .inl (h ▸ h3)
        · exact .inr (h ▸ h3)
      · obtain ⟨j, h3, h4⟩ := relab_lookup hn
        rcases h4 with h | ⟨_, h⟩
        · exact .inr (h ▸ h3)
        · cases h
    rcases this with h | h
    · obtain ⟨c, hc⟩ := Option.isSome_iff_exists.mp (cellsFrom_isSome (x := n) scope.names (s.heap.objs.size + 1) [] (.inr (mem_of_lookup h)))
      exact ⟨c, by rw [List.lookup_append, hc]; rfl⟩
    · obtain ⟨d, hd⟩ := Option.isSome_iff_exists.mp (clOf_isSome (env := env) scope.names [] (.inl (mem_of_lookup h)))
      exact ⟨d, by rw [List.lookup_append, own_no_free _ (mem_of_lookup h), hd]; rfl⟩
end
end Mine
end
section
namespace Mine
open PySem PySem.W PySem.Calls PyProof.Rows
inductive Made {β : Type} (h₀ : Heap) (R : Addr → β → List Addr → (Addr → Prop) → Heap → Prop) (b : β) (v : Value) (μ : List Addr) (H : Addr → Prop) (h : Heap) : Prop
  | mk (a : Addr) (e : v = .ref a) (hf : h₀.get? a = none) (hm : a ∉ μ) (hH : H a) (r : R a b μ H h)
inductive CompEnd (Γ : Cx) (μ : List Addr) (H : Addr → Prop) (s : Shared) (R : Value → List Addr → (Addr → Prop) → Heap → Prop) (σ' : Hp) (v : Value) (C : Addr) (s' : Shared) : Prop
  | mk (μ' : List Addr) (H' : Addr → Prop) (m : Str → Option Value) (T : Tr μ H s.heap s.os μ' H' s'.heap s'.os) (S : Γ.St μ' H' σ' s') (r : R v μ' H' s'.heap) (hn : s'.heap.Ns C m) (hC : C ∉ μ') (hH : H' C) (hf : s.heap.get? C = none) (hv : v ≠ .ref C)
structure CompIn (Γ : Cx) (A : Around) (sc : List (Str × NameKind)) (C : Expr) (scope : Scope) (tg : List Nat) (ρ : En) {β : Type} (R : Addr → β → List Addr → (Addr → Prop) → Heap → Prop) (b₀ : β) (mk : Sem Value) (o₀ : Obj)
    (step : Item → β → Hp → Option (Option Flo × β × Hp)) (res : Option Flo × β × Hp) : Prop where
  sco : ScopeOk Γ.I sc scope tg
  make : ∀ (Q : Value → Shared → Prop) (s : Shared), Q (.ref s.heap.objs.size) { s with heap := s.heap.push o₀ } → WP Γ A mk Q s
  live : ∀ h : Heap, (h.push o₀).get? h.objs.size = some o₀
  zero : ∀ (D : Addr) (μ : List Addr) (H : Addr → Prop) (h : Heap), h.get? D = some o₀ → R D b₀ μ H h
  acc : ∀ D, Acc β D (R D)
  start : ∀ (cenv : Env) (it acc : Value) (RR : Result → Shared → Prop) (s : Shared), codeAny (model Γ.prog Γ.w) A (.compLoop C 0 it acc cenv) RR s → WP Γ A (pyIter it) (fun it' s' => codeAny (model Γ.prog Γ.w) A (.compLoop C 0 it' acc cenv) RR s') s →
    codeAny (model Γ.prog Γ.w) A (.compStart C 0 it acc cenv) RR s
  loop : ∀ {cenv : Env} {F : Addr → Prop} {D I : Addr} {W : List Addr} {P : Cur → List Addr → (Addr → Prop) → Heap → Prop} {μ₀ : List Addr} {H₀ : Addr → Prop} {h₀ : Heap} {os₀ : OsState} {s : Shared} {f : Nat}, EnvS cenv (relab sc scope.names) → (∀ x ∈ tg, Own Γ cenv F x) →
    ¬ F D → cenv.locals ≠ D → Laws Γ A I W P → (∀ b ∈ W, ¬ F b) → EnvOut cenv W → D ∉ W → (∀ b ∈ W, h₀.get? b = none) → ComI Γ cenv F W P D (R D) (hide tg ρ) μ₀ H₀ h₀ os₀ step res f s →
    codeAny (model Γ.prog Γ.w) A (.compLoop C 0 (.ref I) (.ref D) cenv) (Ends (CP Γ cenv F D (R D) (hide tg ρ) res.2.1 res.2.2 μ₀ H₀ h₀ os₀)) s
section
variable {Γ : Cx} {A : Around} {env : Env} {ρ ρ' : En} {σ σ₁ σ₂ σ₃ σ₄ σ' : Hp} {μ : List Addr} {H : Addr → Prop} {s : Shared} {n : Nat} {O : Orc} {F : Addr → Prop} {β : Type} {sc : List (Str × NameKind)} {C iter : Expr} {scope : Scope} {tg : List Nat}
  {R : Addr → β → List Addr → (Addr → Prop) → Heap → Prop} {b₀ : β} {mk : Sem Value} {o₀ : Obj} {step : Item → β → Hp → Option (Option Flo × β × Hp)} {res : Option Flo × β × Hp} {src : Src}
theorem comp_core (K : Γ.Ok) (X : EnvS env sc) (Y : CompIn Γ A sc C scope tg ρ R b₀ mk o₀ step res) (hit : TI Γ A env (eval iter env) ρ σ src σ₁) (hl : loopS step src b₀ σ₁ = some res) (S : Γ.St μ H σ s) (E : EnvR Γ env ρ μ H s.heap) :
    WP Γ A (eval iter env) (fun x s₁ => WP Γ A (pyIter x) (fun it s₂ => WP Γ A mk (fun acc s₃ => WP Γ A (newFunctionEnv scope env.globals (clOf env scope.names []) [] env.qual none .none (some env)) (fun cenv s₄ =>
      codeAny (model Γ.prog Γ.w) A (.compStart C 0 it acc { cenv with scope := relabel scope env }) (Ends (CompEnd Γ μ H s (Made s.heap R res.2.1) res.2.2 acc cenv.locals)) s₄) s₃) s₂) s₁) s := by
  refine wpAny_mono (hit μ H s S E) (fun xv s₁ h1 => Does.use h1 fun itv s₂ μ₂ H₂ T₂ S₂ r₂ => ?_) fun _ _ e => e
  obtain ⟨I, W, P, rfl, L, hP, hW, hfresh⟩ := r₂
  refine Y.make _ _ ?_
  have hD0 := size_none s₂.heap
  have hD1 := Y.live s₂.heap
  have lt : ∀ b o, s₂.heap.get? b = some o → b < s₂.heap.objs.size := fun b o e => Heap.lt_size e
  obtain ⟨S₃, T₃⟩ := S₂.grow (s' := { s₂ with heap := s₂.heap.push o₀ }) (H' := fun b => H₂ b ∨ b = s₂.heap.objs.size) (fun b o e => Heap.get?_push_of_some _ e) (fun b o e => ⟨fun q => q.resolve_right (Nat.ne_of_lt (lt b o e)), .inl⟩) rfl rfl
  have hsz : (s₂.heap.push o₀).objs.size = s₂.heap.objs.size + 1 := Heap.size_push ..
  refine new_comp ?_
  obtain ⟨S₄, T₄, E₄, F₄, hge, hown, hS, hcl'⟩ := comp_env K S₃ ((E.tr T₂).tr T₃) X Y.sco rfl
  dsimp only at S₄ T₄ E₄ F₄ hge hown hS hcl'
  rw [hsz] at S₄ T₄ E₄ F₄ hge hown hS hcl'
  show codeAny _ A (.compStart C 0 (.ref I) (.ref s₂.heap.objs.size) _) _ _
  rw [hsz]
  have T := (T₂.trans T₃).trans T₄
  have hWlt : ∀ b ∈ W, b < s₂.heap.objs.size := fun b hb => by
    obtain ⟨_, _, o, e⟩ := hW b hb
    exact lt b o e
  have hW₃ := T₃.fok hW
  have hDo : FOk (· ∈ [s₂.heap.objs.size]) μ₂ (fun b => H₂ b ∨ b = s₂.heap.objs.size) (s₂.heap.push o₀) := fun b hb => by
    cases List.mem_singleton.mp hb
    exact ⟨S₂.fresh_out hD0, .inr rfl, _, hD1⟩
  have hP₄ := L.stable (L.stable hP T₃.pre T₃.gr fun b hb o e => (T₃.kept b o e fun q => (hW b hb).1 q.1).1) T₄.pre T₄.gr fun b hb o e => (T₄.kept b o e fun q => (hW₃ b hb).1 q.1).1
  have hR := (Y.acc _).stab (Y.zero _ μ₂ (fun b => H₂ b ∨ b = s₂.heap.objs.size) _ hD1) T₄.pre T₄.gr fun o e => (T₄.kept _ o e fun q => (hDo _ (.head _)).1 q.1).1
  obtain ⟨f, hf⟩ := loopS_G step src b₀ σ₁
  have fr : ∀ b, Or (CF (s₂.heap.objs.size + 1) scope.names) [s₂.heap.objs.size] b → s.heap.get? b = none := fun b hb => T₂.fresh (by
    have : s₂.heap.objs.size ≤ b := hb.elim (fun hb => Nat.le_of_succ_le (hge b hb)) fun hb => Nat.le_of_eq (List.mem_singleton.mp hb).symm
    cases q : s₂.heap.get? b with
    | none => rfl
    | some o => exact absurd (lt b o q) (Nat.not_lt.mpr this))
  have loop := Y.loop hS hown (fun q => absurd (hge _ q) (Nat.not_le.mpr (Nat.lt_succ_self _))) (Nat.ne_of_gt (Nat.lt_succ_self _)) L (fun b hb q => absurd (hge b q) (Nat.not_le.mpr (Nat.lt_succ_of_lt (hWlt b hb))))
    ⟨fun q => absurd (hWlt _ q) (Nat.not_lt.mpr (Nat.le_succ _)), fun n c hc q => (hcl' n c hc).elim (fun h => absurd (hWlt _ q) (Nat.not_lt.mpr (Nat.le_of_succ_le h))) fun h => by
      obtain ⟨_, _, v, o, e, _⟩ := E.cout n c h
      rw [hfresh c q] at e; cases e⟩
    (fun q => absurd (hWlt _ q) (Nat.lt_irrefl _)) hfresh ⟨curOf src, b₀, σ₁, μ₂, _, hf.symm.trans hl, S₄, E₄, F₄, T₄.fok hDo, T₄.fok hW₃, hP₄, hR, T.toF _⟩
  have fin := codeAny_mono loop (R' := Ends (CompEnd Γ μ H s (Made s.heap R res.2.1) res.2.2 (.ref s₂.heap.objs.size) (s₂.heap.objs.size + 1))) fun r s' z => by
    match r, z with
    | .ok _, ⟨μ', H', T', S', E', h12, fo⟩ =>
      obtain ⟨m, hn, _⟩ := E'.ns
      have fD := fo s₂.heap.objs.size (.inr (.head _))
      have fC := fo (s₂.heap.objs.size + 1) (.inl (.inl rfl))
      exact ⟨μ', H', m, T'.toTr fr, S', ⟨_, rfl, fr _ (.inr (.head _)), fD.1, fD.2.1, h12⟩, hn, fC.1, fC.2.1, fr _ (.inl (.inl rfl)), fun e => Nat.ne_of_lt (Nat.lt_succ_self _) (Value.ref.inj e)⟩
  exact Y.start _ _ _ _ _ fin (L.self hP₄ fin)
theorem Tr.only {μ' : List Addr} {H' : Addr → Prop} {W : List Addr} {s₁ s₂ : Shared} (T : Tr μ H s.heap s.os μ' H' s₁.heap s₁.os) (hk : Only W s₁ s₂) (hW : ∀ b ∈ W, s.heap.get? b = none) : Tr μ H s.heap s.os μ' H' s₂.heap s₂.os :=
  ((T.toF (Or (fun _ => False) W)).last hk hW).toTr fun _ h => h.elim
theorem cell_ok {D : Addr} {s' : Shared} {μ' : List Addr} {H' : Addr → Prop} {m : Str → Option Value} (hn : s'.heap.Ns D m) (hC : D ∉ μ') (hH : H' D) : FOk (· ∈ [D]) μ' H' s'.heap := fun b hb => by
  cases List.mem_singleton.mp hb; exact ⟨hC, hH, Ns.there hn⟩
theorem same_only {D : Addr} {s' : Shared} {h' : Heap} (hs : Heap.SameBut D s'.heap h') : Only [D] s' { s' with heap := h' } := ⟨fun b o hb e => (hs.2 b fun q => hb (q ▸ .head _)).trans e, rfl, rfl⟩
theorem free_ok (X : EnvS env sc) (Y : ScopeOk Γ.I sc scope tg) : closureFor scope env = pure (clOf env scope.names []) := closure_eq fun n hn => by
  obtain ⟨c, hc⟩ := X.cells n (Y.free n hn)
  rw [hc]; rfl
theorem own_names (Y : ScopeOk Γ.I sc scope tg) : ∀ x ∈ scope.names, ∀ {k}, x.2 = k → scope.names.lookup x.1 = some k := fun x hx k hk => hk ▸ lookup_nodup Y.nodup hx
theorem comp_val {tgx : Expr} {ifs : List Expr} {gs : List Comprehension} (K : Γ.Ok) (X : EnvS env sc) (Y : CompIn Γ A sc C scope tg ρ R b₀ mk o₀ step res) (hcl : clausesOf C = ⟨tgx, iter, ifs, 0⟩ :: gs) (hfo : ForcedOk env iter)
    (hit : TI Γ A env (eval iter env) ρ σ src σ₁) (hl : loopS step src b₀ σ₁ = some res) (S : Γ.St μ H σ s) (E : EnvR Γ env ρ μ H s.heap) {pos : Pos} :
    Does Γ A (comprehension C scope env pos mk false (eval iter env) none) μ H s (Made s.heap R res.2.1) res.2.2 := by
  refine wpAny_comprehension_free (use := none) (g := ⟨tgx, iter, ifs, 0⟩) (gs := gs) (cl := clOf env scope.names []) hcl hfo (free_ok X Y.sco) Y.sco.kind (fun x hx hk => own_names Y.sco x hx hk) ?_
  refine wpAny_mono (comp_core K X Y hit hl S E) (fun xv s₁ h1 => wpAny_mono h1 (fun itv s₂ h2 => wpAny_mono h2 (fun acc s₃ h3 => wpAny_mono h3 (fun cenv s₄ h4 => codeAny_mono h4 fun rr s' z => ?_) fun _ _ e => e) fun _ _ e => e) fun _ _ e => e) fun _ _ e => e
  match rr, z with
  | .ok f, ⟨μ', H', m, T', S', ⟨a, ea, a1, a2, a3, a4⟩, hn, hC, hH, hf, hv⟩ =>
    have fo := cell_ok hn hC hH
    refine ⟨m, hn, fun h' hs => ?_⟩
    have hk := same_only hs
    exact ⟨μ', H', T'.only hk (fun b hb => List.mem_singleton.mp hb ▸ hf), S'.only fo hk, a, ea, a1, a2, a3, (Y.acc a).stab a4 ⟨[], by simp⟩ (gr_but (σ := res.2.2) fo hk.1) fun o e => hk.1 a o (fun q => hv (List.mem_singleton.mp q ▸ ea)) e⟩
theorem comp_use {tgx : Expr} {ifs : List Expr} {gs : List Comprehension} {y : Nat} {py : Pos} {p : PV} (K : Γ.Ok) (X : EnvS env sc) (Y : CompIn Γ A sc C scope tg ρ R b₀ mk o₀ step res) (hcl : clausesOf C = ⟨tgx, iter, ifs, 0⟩ :: gs) (hfo : ForcedOk env iter)
    (hit : TI Γ A env (eval iter env) ρ σ src σ₁) (hl : loopS step src b₀ σ₁ = some res) (ho : Own Γ env F y) (S : Γ.St μ H σ s) (E : EnvR Γ env ρ μ H s.heap) (hF : FOk F μ H s.heap) {pos : Pos}
    (hfin : ∀ {μ' H' s' v}, Tr μ H s.heap s.os μ' H' s'.heap s'.os → Γ.St μ' H' res.2.2 s' → Made s.heap R res.2.1 v μ' H' s'.heap → ∃ μ'' H'', Tr μ H s.heap s.os μ'' H'' s'.heap s'.os ∧ Γ.St μ'' H'' σ' s' ∧ VR μ'' (gr s'.heap H'') v p ∧ ∀ b, b ∉ μ' → H' b → v ≠ .ref b → b ∉ μ'' ∧ H'' b) :
    WP Γ A (comprehension C scope env pos mk false (eval iter env) (some (assign (.Name (nm Γ.I y) py) env))) (fun _ => SPost Γ env F μ H s.heap s.os (upd y p ρ) (FR .next) σ' .next) s := by
  refine wpAny_comprehension_free (use := some (assign (.Name (nm Γ.I y) py) env)) (g := ⟨tgx, iter, ifs, 0⟩) (gs := gs) (cl := clOf env scope.names []) hcl hfo (free_ok X Y.sco) Y.sco.kind (fun x hx hk => own_names Y.sco x hx hk) ?_
  refine wpAny_mono (comp_core K X Y hit hl S E) (fun xv s₁ h1 => wpAny_mono h1 (fun itv s₂ h2 => wpAny_mono h2 (fun acc s₃ h3 => wpAny_mono h3 (fun cenv s₄ h4 => codeAny_mono h4 fun rr s' z => ?_) fun _ _ e => e) fun _ _ e => e) fun _ _ e => e) fun _ _ e => e
  match rr, z with
  | .ok f, ⟨μ', H', m, T', S', md, hn, hC, hH, hf, hv⟩ =>
    obtain ⟨μ'', H'', T'', S'', q'', keep⟩ := hfin T' S' md
    obtain ⟨hC'', hH''⟩ := keep _ hC hH hv
    show WP Γ A (assign (.Name (nm Γ.I y) py) env acc) _ s'
    refine wpAny_assign_Name (SPost.use (store K S'' (E.tr T'') (T''.fok hF) ho q'') fun _ s'' μ₃ H₃ T₃ S₃ E₃ _ => ?_)
    have hFC : ¬ F cenv.locals := fun q => by
      obtain ⟨_, _, o, e⟩ := hF _ q
      rw [hf] at e; cases e
    have fo₃ := T₃.fok (cell_ok hn hC'' hH'')
    refine ⟨m, Ns.at_ hn fun o e => T₃.kept _ _ e (fun q => hC'' q.1) hFC, fun h' hs => ?_⟩
    have hk := same_only hs
    have oe : EnvOut env [cenv.locals] := by
      refine ⟨fun q => ?_, fun n c hc q => ?_⟩
      · obtain ⟨m', hm', _⟩ := E.ns
        obtain ⟨o, e⟩ := Ns.there hm'
        rw [List.mem_singleton.mp q, hf] at e; cases e
      · obtain ⟨_, _, v, o, e, _⟩ := E.cout n _ hc
        rw [List.mem_singleton.mp q, hf] at e; cases e
    exact ⟨μ₃, H₃, TrF.last ((T''.toF _).trans (T₃.weaken fun b hb => .inl (.inl hb))) hk (fun b hb => List.mem_singleton.mp hb ▸ hf), S₃.only fo₃ hk, E₃.only fo₃ oe hk, rfl⟩
end
end Mine
end
section
namespace Mine
open PySem PySem.W PySem.Calls PyProof.Rows
section
variable {Γ : Cx} {A : Around} {env : Env} {ρ ρ' : En} {σ σ₁ σ₂ σ₃ σ₄ σ' : Hp} {μ : List Addr} {H : Addr → Prop} {s : Shared} {n : Nat} {O : Orc} {F : Addr → Prop}
  {sc : List (Str × NameKind)} {elt : Expr} {tgx iter : Expr} {ifs : List Expr} {gs : List Comprehension} {scope : Scope} {pos py spos : Pos} {t : Tgt} {it : It} {xs : List Ex} {r : Cb} {src : Src} {res : Option Flo × List PV × Hp} {y : Nat}
structure LComp (Γ : Cx) (O : Orc) (A : Around) (sc : List (Str × NameKind)) (elt : Expr) (gens : List Comprehension) (scope : Scope) (c : Cb) : Prop where
  sco : ScopeOk Γ.I sc scope (cbNames c)
  sync : ∀ g' ∈ gens, g'.is_async = 0
  nd : (cbNames c).Nodup
  cl : ∀ cenv F, EnvS cenv (relab sc scope.names) → (∀ x ∈ cbNames c, Own Γ cenv F x) → Cl Γ O A cenv F elt gens c
theorem list_in (K : Γ.Ok) (hA : A.handled = none) (Y : LComp Γ O A sc elt (⟨tgx, iter, ifs, 0⟩ :: gs) scope (.gen t it xs r)) :
    CompIn Γ A sc (LC elt (⟨tgx, iter, ifs, 0⟩ :: gs) scope pos) scope (cbNames (.gen t it xs r)) ρ RL [] (newList []) { cls := .type "list", data := .seq #[] } (stepC Γ.I O t xs r (hide (cbNames (.gen t it xs r)) ρ)) res :=
  ⟨Y.sco, fun Q s h => wpAny_newObj_type h, fun h => Heap.get?_push_size _ rfl, fun D μ H h e => ⟨#[], 0, e, .nil⟩, fun D => accL, fun cenv it acc RR s h0 h => start_list rfl rfl h0 h,
    fun hS ho hDF _ L h1 h2 h3 h4 x => clause_ok K hA Y.sync hDF (Y.cl _ _ hS ho) 0 rfl t it xs r rfl (fun x hx => hide_none hx) Y.nd L h1 h2 h3 h4 x⟩
theorem made_rr {h₀ : Heap} {v : Value} {μ' : List Addr} {H' : Addr → Prop} {h' : Heap} {acc : List PV} (x : Made h₀ RL acc v μ' H' h') : RR h₀ (.fresh acc) v μ' H' h' := by
  obtain ⟨a, e, h1, h2, h3, vs, n, h4, h5⟩ := x
  exact ⟨a, vs, n, e, h1, h2, h3, h4, h5⟩
theorem te_comp (K : Γ.Ok) (hA : A.handled = none) (X : EnvS env sc) (Y : LComp Γ O A sc elt (⟨tgx, iter, ifs, 0⟩ :: gs) scope (.gen t it xs r)) (hfo : ForcedOk env iter)
    (hit : TI Γ A env (eval iter env) ρ σ src σ₁) (hl : loopS (stepC Γ.I O t xs r (hide (cbNames (.gen t it xs r)) ρ)) src [] σ₁ = some res) : TE Γ A env (eval (LC elt (⟨tgx, iter, ifs, 0⟩ :: gs) scope pos) env) ρ σ (.fresh res.2.1) res.2.2 := fun μ H s S E => by
  rw [eval_ListComp]
  exact (comp_val K X (list_in K hA Y) rfl hfo hit hl S E).conseq fun v μ' H' h' x => made_rr x
theorem ts_comp {id : Str} (K : Γ.Ok) (hA : A.handled = none) (X : EnvS env sc) (Y : LComp Γ O A sc elt (⟨tgx, iter, ifs, 0⟩ :: gs) scope (.gen t it xs r)) (hfo : ForcedOk env iter)
    (hit : TI Γ A env (eval iter env) ρ σ src σ₁) (hl : loopS (stepC Γ.I O t xs r (hide (cbNames (.gen t it xs r)) ρ)) src [] σ₁ = some res)
    (hsw : swapsWith (LC elt (⟨tgx, iter, ifs, 0⟩ :: gs) scope pos) (some (.Name id py)) spos.line env = pure true) (hn : id = nm Γ.I y) (ho : Own Γ env F y) :
    TS Γ A env F (exec (.Assign [.Name id py] (LC elt (⟨tgx, iter, ifs, 0⟩ :: gs) scope pos) spos) env) ρ σ .next (upd y (finalize res.2.2 (.fresh res.2.1)).1 ρ) (finalize res.2.2 (.fresh res.2.1)).2 := fun μ H s S E hF => by
  subst hn
  rw [exec_Assign_Name_used _ _ _ _ hsw]
  exact wpAny_bind (wpAny_standAt (wpAny_bind (wpAny_bind (wpAny_mono (comp_use K X (list_in K hA Y) rfl hfo hit hl ho S E hF fun T S' x => fin_core T S' (made_rr x)) (fun _ s' hq => wpAny_pure (wpAny_pure hq)) fun _ _ e => e))))
end
end Mine
end
section
namespace Mine
open PySem PySem.W PySem.Calls PyProof.Rows
open AutoSeq1 (wpAny_loadPart')
theorem mapSeq_at {c : Value} {xs : Array Value} {n : Nat} (f : Array Value → Array Value) : ∃ n', Obj.mapSeq f { cls := c, data := .seq xs n } = { cls := c, data := .seq (f xs) n' } := ⟨_, rfl⟩
theorem slice_noidx : typeLookup (.type "slice") "__index__" = pure none := by rw [typeLookup_type, builtinLookup_eq_fast]; kernel_rfl
set_option maxHeartbeats 2000000 in
theorem setitem_all (l b i : Addr) (hlb : l ≠ b) (items items2 : Array Value) (n n2 : Nat) (d2 : Option Addr) (sl2 : Array (Option Value)) (hz : items.size + items2.size < 1000000) :
    Meets (Builtin.«list.__setitem__» ⟨[.ref l, .ref i, .ref b], []⟩) (fun _ R s => s.heap.get? l = some { cls := .type "list", data := .seq items n } ∧ s.heap.get? b = some { cls := .type "list", dict := d2, data := .seq items2 n2, slots := sl2 } ∧
      s.heap.get? i = some { cls := .type "slice", data := .fields #[.none, .none, .none] } ∧ ∀ h' n', h'.get? l = some { cls := .type "list", data := .seq items2 n' } → Heap.SameBut l s.heap h' → R (.ok (.ret Value.none)) { s with heap := h' }) :=
  .of_wp fun prog w A R s h => by
    obtain ⟨hp, g, d, tk, os⟩ := s
    obtain ⟨hl, hb, hi, h⟩ := h
    have f1 := slice_noidx
    wp_walk using wpAny_loadPart' hl, wpAny_loadPart' hb, wpAny_loadPart' hi
    have hsr : Builtin.List.listSameRef (.ref l) (.ref b) = false := by
      show (l == b) = false
      simpa using hlb
    rw [hsr]
    simp only [Bool.false_eq_true, if_false]
    unfold Builtin.List.listAllItems
    wp_walk using wpAny_loadPart' hl, wpAny_loadPart' hb, wpAny_loadPart' hi
    have htl : Builtin.List.listTooLong (items.size + items2.size) = false := by
      show decide (items.size + items2.size > sizeLine) = false
      have e : sizeLine = 16777216 := rfl
      simp; (first | lia | omega)
    rw [htl]
    simp only [Bool.false_eq_true, if_false, gt_iff_lt, show (0 : Int) < 1 by decide, if_true, Int.toNat_zero, Array.extract_zero]
    show wpAny _ _ (updateSeq l (fun xs => _) >>= _) _ _ _
    have hfx : ∀ xs : Array Value, xs = items → (#[] ++ items2 ++ xs.extract (max 0 (items.size : Int)).toNat) = items2 := fun xs hx => by
      subst hx
      have : (max 0 (xs.size : Int)).toNat = xs.size := by (first | lia | omega)
      rw [this]
      simp
    have hsz : items2.size ≤ sizeLine := by have e : sizeLine = 16777216 := rfl; (first | lia | omega)
    refine wpAny_bind (wpAny_updateSeq hl rfl ?_ (by have e : sizeLine = 16777216 := rfl; (first | lia | omega)) ?_)
    · refine wpAny_bind (wpAny_letGo (wpAny_pure ⟨_, rfl, ?_⟩))
      obtain ⟨n', e⟩ := mapSeq_at (c := .type "list") (xs := items) (n := n) (fun xs => #[] ++ items2 ++ xs.extract (max 0 (items.size : Int)).toNat)
      refine h _ n' ?_ (Heap.SameBut.update ..)
      rw [Heap.get?_update_self _ hl rfl]
      refine (congrArg some e).trans ?_
      rw [hfx items rfl]
    · rw [hfx items rfl]; (first | lia | omega)
section
variable {Γ : Cx} {A : Around} {env : Env} {ρ ρ' : En} {σ σ₁ σ₂ σ₃ σ₄ σ' : Hp} {μ : List Addr} {H : Addr → Prop} {s : Shared} {n : Nat} {O : Orc} {F : Addr → Prop}
theorem setItem_at {l : Addr} {items : Array Value} {k : Int} {t : Tok} {v : Value} {m : Nat} {Q : Unit → Shared → Prop} (ho : s.heap.get? l = some { cls := .type "list", data := .seq items m })
    (h0 : 0 ≤ k) (hfit : k < 2 ^ 63) (hn : k < items.size)
    (hQ : ∀ h' n', h'.get? l = some { cls := .type "list", data := .seq (items.setIfInBounds k.toNat v) n' } → Heap.SameBut l s.heap h' → Q () { s with heap := h' }) :
    WP Γ A (setItem (.ref l) (.int k t) v) Q s := by
  have hl : s.heap.IsList l items := ⟨_, ho, rfl, m, rfl⟩
  unfold setItem
  try with_reducible refine wpAny_holding ?_
  refine wpAny_bind (wpAny_sequenceKey hl.typeIs (by decide) ?_)
  refine wpAny_bind (wpAny_callSpecial?_slot (name := Str.ofString "__setitem__") hl.typeIs slot_list_setitem
    (wpAny_call_entry slot_list_setitem hl.typeIs entry_list_setitem ?_ (args_list_setitem _ _ _)))
  show wpAny _ _ (Builtin.List.listSubscript? (.int k t) >>= _) _ _ s
  refine wpAny_bind (wpAny_listSubscript_int (fitsIndex_of h0 hfit) ?_)
  clear hfit
  obtain ⟨j, rfl⟩ := Int.eq_ofNat_of_zero_le h0
  have hj : j < items.size := by (first | lia | omega)
  show wpAny _ _ ((seqItemAt l j >>= fun r => pure (r.map (j, ·))) >>= _) _ _ s
  refine wpAny_bind (wpAny_bind (wpAny_seqItemAt ho rfl (wpAny_pure ?_)))
  rw [Array.getElem?_eq_getElem hj]
  show wpAny _ _ (setSeqItemAt l j v >>= _) _ _ s
  obtain ⟨n', e⟩ := mapSeq_at (c := .type "list") (xs := items) (n := m) (·.setIfInBounds j v)
  refine wpAny_bind (wpAny_setSeqItemAt ho rfl (wpAny_pure ⟨.none, rfl, wpAny_pure (hQ _ n' ?_ (Heap.SameBut.update ..))⟩))
  rw [Heap.get?_update_self _ ho (by rw [e]; rfl), e]
  rfl
end
end Mine
end
section
namespace Mine
open PySem PySem.W PySem.Calls PyProof.Rows
inductive DKs (μ : List Addr) (g : Heap) : List (Str × Value) → List (Str × PV) → Prop
  | nil : DKs μ g [] []
  | cons {k v p vs ps} : VR μ g v p → DKs μ g vs ps → DKs μ g ((k, v) :: vs) ((k, p) :: ps)
theorem DKs.mono {μ μ' : List Addr} {g g' : Heap} {vs : List (Str × Value)} {ps : List (Str × PV)} (x : DKs μ g vs ps) (hm : ∃ ν, μ' = μ ++ ν) (hg : ∀ b o, g.get? b = some o → g'.get? b = some o) : DKs μ' g' vs ps := by
  induction x with
  | nil => exact .nil
  | cons h _ ih => exact .cons (h.mono hm hg) ih
theorem DKs.keys {μ : List Addr} {g : Heap} {vs : List (Str × Value)} {ps : List (Str × PV)} (x : DKs μ g vs ps) : vs.map (·.1) = ps.map (·.1) := by
  induction x with
  | nil => rfl
  | cons h _ ih => simp [ih]
theorem dput_keys (k : Str) (p : PV) : ∀ l : List (Str × PV), k ∉ l.map (·.1) → dput k p l = l ++ [(k, p)]
  | [], _ => rfl
  | (a, q) :: r, h => by
    simp only [List.map_cons, List.mem_cons, not_or] at h
    rw [dput_c]
    rw [if_neg (fun e => h.1 e.symm), dput_keys k p r h.2]
    rfl
theorem dput_map (k : Str) (p : PV) : ∀ l : List (Str × PV), (l.map (·.1)).Nodup → k ∈ l.map (·.1) → dput k p l = l.map fun kv => if kv.1 = k then (kv.1, p) else kv
  | (a, q) :: r, hn, h => by
    simp only [List.map_cons, List.nodup_cons] at hn
    rw [dput_c]
    by_cases ha : a = k
    · subst ha
      rw [if_pos rfl, List.map_cons, if_pos rfl]
      congr 1
      have : ∀ x ∈ r, (if x.1 = a then (x.1, p) else x) = x := fun x hx => by
        have : x.1 ≠ a := fun e => hn.1 (e ▸ List.mem_map_of_mem hx)
        simp [this]
      rw [List.map_congr_left this]; simp
    · rw [if_neg ha, List.map_cons]
      have hk : k ∈ r.map (·.1) := by
        simp only [List.map_cons, List.mem_cons] at h
        exact h.resolve_left fun e => ha e.symm
      rw [dput_map k p r hn.2 hk]
      simp [ha]
theorem dks_stored {μ : List Addr} {g : Heap} {vs : List (Str × Value)} {ps : List (Str × PV)} (x : DKs μ g vs ps) (hn : (ps.map (·.1)).Nodup) {k : Str} {v : Value} {p : PV} (hv : VR μ g v p) : DKs μ g (stored vs k v) (dput k p ps) := by
  have hk := x.keys
  unfold stored
  by_cases h : k ∈ ps.map (·.1)
  · have : (vs.any fun kv => decide (kv.1 = k)) = true := by
      rw [← hk] at h
      obtain ⟨kv, h1, h2⟩ := List.mem_map.mp h
      exact List.any_eq_true.mpr ⟨kv, h1, by simpa using h2⟩
    rw [if_pos this, dput_map k p ps hn h]
    clear this h hk hn
    induction x with
    | nil => exact .nil
    | @cons a u q vs ps h _ ih =>
      rw [List.map_cons, List.map_cons]
      by_cases ha : a = k
      · simp only [ha, if_true]; exact .cons hv ih
      · simp only [ha, if_false]; exact .cons h ih
  · have : ¬ (vs.any fun kv => decide (kv.1 = k)) = true := by
      rw [← hk] at h
      intro e
      obtain ⟨kv, h1, h2⟩ := List.any_eq_true.mp e
      exact h (by rw [← (by simpa using h2 : kv.1 = k)]; exact List.mem_map_of_mem h1)
    rw [if_neg this, dput_keys k p ps h]
    clear this h hk hn
    induction x with
    | nil => exact .cons hv .nil
    | cons h _ ih => exact .cons h ih
theorem dput_nodup (k : Str) (p : PV) (l : List (Str × PV)) (hn : (l.map (·.1)).Nodup) : ((dput k p l).map (·.1)).Nodup := by
  by_cases h : k ∈ l.map (·.1)
  · rw [dput_map k p l hn h, List.map_map]
    have : ((fun kv : Str × PV => kv.1) ∘ fun kv => if kv.1 = k then (kv.1, p) else kv) = fun kv => kv.1 := by
      funext kv
      dsimp only [Function.comp]
      split <;> rfl
    rw [this]; exact hn
  · rw [dput_keys k p l h, List.map_append, List.nodup_append]
    refine ⟨hn, by simp, fun a ha b hb => ?_⟩
    simp at hb; subst hb
    exact fun e => h (e ▸ ha)
theorem dict_of {prog : Program} {w : World} {μ : List Addr} {g h : Heap} {a : Addr} {kvs : List (Str × PV)} (x : ORel w μ g h a (.dct kvs)) : ∃ vals, h.DictOf (PySem.strKind prog w) a vals ∧ DKs μ g vals kvs ∧ (kvs.map (·.1)).Nodup := by
  obtain ⟨es, n, ho, he, hn⟩ := x
  have key : ∀ {l : List DictEntry} {ps : List (Str × PV)}, ERs w μ g l ps → ∃ vals, Pairs (PySem.strKind prog w) l vals ∧ DKs μ g vals ps := by
    intro l ps h
    induction h with
    | nil => exact ⟨[], .nil, .nil⟩
    | @cons k t v p es ps hv _ ih =>
      obtain ⟨vals, h1, h2⟩ := ih
      exact ⟨(k, v) :: vals, .cons (PySem.strKind_is _ _ k t) rfl h1, .cons hv h2⟩
  obtain ⟨vals, h1, h2⟩ := key he
  exact ⟨vals, ⟨_, es, n, ho, ⟨rfl, rfl, rfl⟩, rfl, fun e he' => keys_ers he e (by simpa using he'), h1, by rw [h2.keys]; exact hn⟩, h2, hn⟩
theorem of_dict {prog : Program} {w : World} {μ : List Addr} {g h : Heap} {a : Addr} {kvs : List (Str × PV)} {vals : List (Str × Value)} (x : h.DictOf (PySem.strKind prog w) a vals) (y : DKs μ g vals kvs) (hn : (kvs.map (·.1)).Nodup) : ORel w μ g h a (.dct kvs) := by
  obtain ⟨⟨c, d, dt, sl⟩, es, ep, ho, ⟨h1, h2, h3⟩, hd, hk, hp, _⟩ := x
  dsimp only at h1 h2 h3 hd
  subst h1 h2 h3 hd
  refine ⟨es, ep, ho, ?_, hn⟩
  have key : ∀ {l : List DictEntry} {vs : List (Str × Value)} {ps : List (Str × PV)}, (∀ e ∈ l, ∃ k, (PySem.strKind prog w).is k e.key = true ∧ e.hash = (PySem.strKind prog w).hash k) → Pairs (PySem.strKind prog w) l vs → DKs μ g vs ps → ERs w μ g l ps := by
    intro l vs ps hk hp hy
    induction hp generalizing ps with
    | nil => cases hy; exact .nil
    | @cons e kv es kvs' q1 q2 _ ih =>
      cases hy with
      | cons hv hr =>
        obtain ⟨hash, key, val⟩ := e
        dsimp only at q1 q2
        obtain ⟨k', k1, k2⟩ := hk _ List.mem_cons_self
        dsimp only at k1 k2
        have := (PySem.strKind prog w).inj _ _ _ k1 q1
        subst this
        obtain ⟨t, rfl⟩ := Value.isStrOf_shape q1
        subst q2
        subst k2
        exact .cons hv (ih (fun e he => hk e (List.mem_cons_of_mem _ he)) hr)
  exact key (fun e he => hk e (by simpa using he)) hp y
section
variable {Γ : Cx} {A : Around} {env : Env} {ρ ρ' : En} {σ σ₁ σ₂ σ₃ σ₄ σ' : Hp} {μ : List Addr} {H : Addr → Prop} {s : Shared} {n : Nat} {O : Orc} {F : Addr → Prop}
theorem same_there {a : Addr} {h h' : Heap} {o : Obj} (hs : Heap.SameBut a h h') : ∀ b o, b ≠ a → h.get? b = some o → h'.get? b = some o := fun b o hb e => (hs.2 b hb).trans e
theorem d_putI {v i w : Value} {p j q : PV} (S : Γ.St μ H σ s) (hv : VR μ (gr s.heap H) v p) (hi : VR μ (gr s.heap H) i j) (hw : VR μ (gr s.heap H) w q) (e : putI σ p j q = some σ₁) :
    Does Γ A (setItem v i w) μ H s (fun _ _ _ _ => True) σ₁ := by
  obtain ⟨l, hp, e1⟩ := bn_some e
  rw [locP_some hp] at hv
  obtain ⟨a, ha, ev⟩ := v_loc hv
  rw [ev]
  rcases or_some e1 with e2 | e2
  · obtain ⟨kvs, hl, e3⟩ := bn_some e2
    obtain ⟨k, hj, e4⟩ := bn_some e3
    obtain ⟨hlen, e5⟩ := gd_val e4
    rw [txtP_some hj] at hi
    obtain ⟨t, ei⟩ := v_str hi
    rw [ei, ← e5]
    obtain ⟨vals, h1, h2, h3⟩ := dict_of (prog := Γ.prog) (S.objs l a _ ha (dctAt_some hl))
    have hlen' : vals.length ≤ sizeLine := by
      have e1 : vals.length = kvs.length := by have := congrArg List.length h2.keys; simpa using this
      rw [e1]; exact Nat.le_trans (Nat.le_of_lt hlen) (by decide)
    refine wpAny_setItem_pairs (PySem.strKind_is _ _ k t) h1 (fun h' hd hs => ?_) hlen'
    have z := S.put (s' := { s with heap := h', toks := s.toks + 1 }) ha (dctAt_some hl) (by simp) (same_there (o := default) hs) (by obtain ⟨o, _, _, e, _⟩ := hd; exact ⟨o, e⟩) rfl rfl (o' := .dct (dput k q kvs))
      fun g hg => of_dict hd ((dks_stored (h2.mono ⟨[], by simp⟩ hg) h3 (hw.mono ⟨[], by simp⟩ hg))) (dput_nodup _ _ _ h3)
    exact ⟨_, _, z.2, z.1, trivial⟩
  · obtain ⟨xs, hl, e3⟩ := bn_some e2
    obtain ⟨k, hj, e4⟩ := bn_some e3
    obtain ⟨hb, e5⟩ := gd_val e4
    rw [intP_some hj] at hi
    obtain ⟨t, ei⟩ := v_int hi
    rw [ei, ← e5]
    obtain ⟨vs, m, ho, hvs⟩ := S.objs l a _ ha (lstAt_some hl)
    have hlen : vs.size = xs.length := vrs_len hvs
    refine setItem_at ho hb.1 (by (first | lia | omega)) (by (first | lia | omega)) fun h' n' hd hs => ?_
    have z := S.put (s' := { s with heap := h' }) ha (lstAt_some hl) (by simp) (same_there (o := default) hs) ⟨_, hd⟩ rfl rfl (o' := .lst (xs.set k.toNat q))
      fun g hg => ⟨_, n', hd, by rw [Array.toList_setIfInBounds]; exact vrs_set (hvs.mono ⟨[], by simp⟩ hg) _ (hw.mono ⟨[], by simp⟩ hg)⟩
    exact ⟨_, _, z.2, z.1, trivial⟩
end
end Mine
end
section
namespace Mine
open PySem PySem.W PySem.Calls PyProof.Rows
section
variable {Γ : Cx} {A : Around} {env : Env} {ρ ρ' : En} {σ σ₁ σ₂ σ₃ σ₄ σ' : Hp} {μ : List Addr} {H : Addr → Prop} {s : Shared} {n : Nat} {O : Orc} {F : Addr → Prop}
theorem fresh_env {W : List Addr} {h₀ : Heap} (E : EnvR Γ env ρ μ H h₀) (hF : FOk F μ H h₀) (hW : ∀ b ∈ W, h₀.get? b = none) : (∀ b ∈ W, ¬ F b) ∧ EnvOut env W := by
  refine ⟨fun b hb q => ?_, ⟨fun q => ?_, fun n c hc q => ?_⟩⟩
  · obtain ⟨_, _, o, e⟩ := hF b q
    rw [hW b hb] at e; cases e
  · obtain ⟨m, hn, _⟩ := E.ns
    obtain ⟨o, e⟩ := Ns.there hn
    rw [hW _ q] at e; cases e
  · obtain ⟨_, _, v, o, e, _⟩ := E.cout n c hc
    rw [hW _ q] at e; cases e
theorem ts_for {t : Tgt} {target iter : Expr} {body : List Stmt} {pos : Pos} {B : En → Hp → Option (Flo × En × Hp)} {src : Src} {r : Option Flo × En × Hp} (K : Γ.Ok) (hA : A.handled = none)
    (ht : TgtOk Γ.I t target) (ho : ∀ x ∈ tgNames t, Own Γ env F x) (hfo : ForcedOk env iter) (hi : TI Γ A env (eval iter env) ρ σ src σ₁)
    (hB : ∀ ρ σ f ρ' σ', B ρ σ = some (f, ρ', σ') → TS Γ A env F (execs body env) ρ σ f ρ' σ') (he : loopS (stepF t B) src ρ σ₁ = some r) :
    TS Γ A env F (exec (.For target iter body [] pos) env) ρ σ (floOf r.1) r.2.1 r.2.2 := fun μ H s S E hF => by
  refine wpAny_For (wpAny_mono (hi μ H s S E) (fun xv s₁ h1 => wpAny_mono h1 (fun itv s₂ y => ?_) fun _ _ e => e) fun _ _ e => e) hfo
  obtain ⟨μ₂, H₂, T₂, S₂, I, W, P, ei, L, hP, hW, hfresh⟩ := y
  subst ei
  obtain ⟨a1, a2⟩ := fresh_env E hF hfresh
  obtain ⟨f, hf⟩ := loopS_G (stepF t B) src ρ σ₁
  exact codeAny_mono (for_loop L K hA ht ho a1 a2 hB hfresh ⟨_, _, _, μ₂, H₂, hf.symm.trans he, S₂, E.tr T₂, T₂.fok hF, hW, hP, T₂.toF _⟩) fun r s' z => match r, z with
    | .ok fl, z => z
theorem ts_setIdx {o i value : Expr} {pos' pos : Pos} {p j q : PV} (hv : TV Γ A env (eval value env) ρ σ q σ₁) (ho : TV Γ A env (eval o env) ρ σ₁ p σ₂) (hi : TV Γ A env (eval i env) ρ σ₂ j σ₃) (e : putI σ₃ p j q = some σ₄)
    (hs : swapsWith value (some (.Subscript o i pos')) pos.line env = pure false) : TS Γ A env F (exec (.Assign [.Subscript o i pos'] value pos) env) ρ σ .next ρ σ₄ := fun μ H s S E hF => by
  refine wpAny_Assign_Subscript ?_ hs
  refine Does.use (hv μ H s S E) fun v s₁ μ₁ H₁ T₁ S₁ r₁ => ?_
  refine Does.use (ho μ₁ H₁ s₁ S₁ (E.tr T₁)) fun ov s₂ μ₂ H₂ T₂ S₂ r₂ => ?_
  refine Does.use (hi μ₂ H₂ s₂ S₂ ((E.tr T₁).tr T₂)) fun iv s₃ μ₃ H₃ T₃ S₃ r₃ => ?_
  refine Does.use (d_putI S₃ (r₂.tr T₃) r₃ ((r₁.tr T₂).tr T₃) e) fun _ s₄ μ₄ H₄ T₄ S₄ _ => ?_
  have T := ((T₁.trans T₂).trans T₃).trans T₄
  exact ⟨μ₄, H₄, T.toF F, S₄, E.tr T, rfl⟩
theorem ts_setAttr {o value : Expr} {attr : Str} {pos' pos : Pos} {p q : PV} {x : Nat} (K : Γ.Ok) (hn : attr = nm Γ.I x) (hv : TV Γ A env (eval value env) ρ σ q σ₁) (ho : TV Γ A env (eval o env) ρ σ₁ p σ₂) (e : putA Γ.I σ₂ p x q = some σ₃)
    (hs : swapsWith value (some (.Attribute o attr pos')) pos.line env = pure false) : TS Γ A env F (exec (.Assign [.Attribute o attr pos'] value pos) env) ρ σ .next ρ σ₃ := fun μ H s S E hF => by
  subst hn
  rw [plainObj_exec_Assign_Attribute _ _ _ _ _ hs]
  refine wpAny_bind (wpAny_standAt (wpAny_bind (Does.use (hv μ H s S E) fun v s₁ μ₁ H₁ T₁ S₁ r₁ => ?_)))
  rw [assign_Attribute]
  refine wpAny_bind (wpAny_bind (wpAny_holding (Does.use (ho μ₁ H₁ s₁ S₁ (E.tr T₁)) fun ov s₂ μ₂ H₂ T₂ S₂ r₂ => ?_)))
  refine wpAny_bind (wpAny_standAt (wpAny_bind (wpAny_holding (Does.use (d_putA K S₂ r₂ (r₁.tr T₂) e) fun _ s₃ μ₃ H₃ T₃ S₃ _ => ?_))))
  have T := (T₁.trans T₂).trans T₃
  exact wpAny_release (wpAny_pure ⟨μ₃, H₃, T.toF F, S₃, E.tr T, rfl⟩)
end
end Mine
end
section
namespace Mine
open PySem PySem.W PySem.Calls PyProof.Rows
section
variable {Γ : Cx} {A : Around} {env : Env} {ρ ρ' : En} {σ σ₁ σ₂ σ₃ σ₄ σ' : Hp} {μ : List Addr} {H : Addr → Prop} {s : Shared} {n : Nat} {O : Orc} {F : Addr → Prop}
theorem setItem_all {l b i : Addr} (hlb : l ≠ b) {items items2 : Array Value} {n : Nat} {Q : Unit → Shared → Prop} (hz : items.size + items2.size < 1000000) (hl : s.heap.get? l = some { cls := .type "list", data := .seq items n })
    (hb : s.heap.IsList b items2) (hi : s.heap.get? i = some { cls := .type "slice", data := .fields #[.none, .none, .none] })
    (hQ : ∀ h' n', h'.get? l = some { cls := .type "list", data := .seq items2 n' } → Heap.SameBut l s.heap h' → Q () { s with heap := h' }) : WP Γ A (setItem (.ref l) (.ref i) (.ref b)) Q s := by
  have hL : s.heap.IsList l items := ⟨_, hl, rfl, n, rfl⟩
  obtain ⟨⟨c2, d2, dt2, sl2⟩, hb, h1, n2, h2⟩ := hb
  dsimp only at h1 h2
  subst h1 h2
  unfold setItem
  try with_reducible refine wpAny_holding ?_
  refine wpAny_bind (wpAny_sequenceKey hL.typeIs (by decide) ?_)
  refine wpAny_bind (wpAny_callSpecial?_slot (name := Str.ofString "__setitem__") hL.typeIs slot_list_setitem
    (call_meets slot_list_setitem hL.typeIs entry_list_setitem (args_list_setitem _ _ _) (setitem_all l b i hlb items items2 n n2 d2 sl2 hz) ⟨hl, hb, hi, fun h' n' e sb => ?_⟩))
  exact wpAny_pure (hQ h' n' e sb)
theorem ts_setAll {o value : Expr} {ps pos' pos : Pos} {l : Nat} {xs : List PV} {ys : List PyData} (hv : TV Γ A env (eval value env) ρ σ (.d (.list ys)) σ₁) (ho : TV Γ A env (eval o env) ρ σ₁ (.loc l) σ₂) (hl : σ₂[l]? = some (.lst xs)) (hlen : xs.length + ys.length < 1000)
    (hs : swapsWith value (some (.Subscript o (.Slice none none none ps) pos')) pos.line env = pure false) : TS Γ A env F (exec (.Assign [.Subscript o (.Slice none none none ps) pos'] value pos) env) ρ σ .next ρ (σ₂.set l (.lst (ys.map .d))) := fun μ H s S E hF => by
  refine wpAny_Assign_Subscript ?_ hs
  refine Does.use (hv μ H s S E) fun v s₁ μ₁ H₁ T₁ S₁ r₁ => ?_
  refine Does.use (ho μ₁ H₁ s₁ S₁ (E.tr T₁)) fun ov s₂ μ₂ H₂ T₂ S₂ r₂ => ?_
  obtain ⟨a, ha, rfl⟩ := v_loc r₂
  obtain ⟨b, ws, rfl, hb, ⟨ob, hob⟩, hw⟩ := vis_list (s := s₂) (r₁.tr T₂)
  obtain ⟨vs, m, hao, hvs⟩ := S₂.objs l a _ ha hl
  have hab : a ≠ b := fun q => by
    subst q
    exact (only_get.mp hob).2 (S₂.hid l a _ ha hl (by simp))
  refine wpAny_Slice ?_
  rw [evalPart_none]
  refine wpAny_pure ?_
  refine wpAny_pure ?_
  refine wpAny_pure ?_
  have z := grown S₂ (s' := { s₂ with heap := s₂.heap.push { cls := .type "slice", data := .fields #[.none, .none, .none] } }) (fun _ _ e => Heap.get?_push_of_some _ e)
  have l1 := vrs_len hvs
  have l2 := vrs_len hw
  refine setItem_all hab (by simp at l1 l2; (first | lia | omega)) (Heap.get?_push_of_some _ hao) (hb.push _) (Heap.get?_push_size _ rfl) fun h' n' hd hs' => ?_
  have y := z.1.put (s' := { s₂ with heap := h' }) ha hl (by simp) (fun b o hb e => (hs'.2 b hb).trans e) ⟨_, hd⟩ rfl rfl (o' := .lst (ys.map .d)) fun g hg => ⟨ws, n', hd, (hw.tr z.2).mono ⟨[], by simp⟩ hg⟩
  have T := ((T₁.trans T₂).trans z.2).trans y.2
  exact ⟨_, _, T.toF F, y.1, E.tr T, rfl⟩
end
end Mine
end
section
namespace Mine
open PySem PySem.W PySem.Calls PyProof.Rows
section
variable {Γ : Cx} {A : Around} {env : Env} {ρ ρ' : En} {σ σ₁ σ₂ σ₃ σ₄ σ' : Hp} {μ : List Addr} {H : Addr → Prop} {s : Shared} {n : Nat} {O : Orc} {F : Addr → Prop}
theorem pair_at {v : Value} {p a b : PV} (S : Γ.St μ H σ s) (hv : VR μ (gr s.heap H) v p) (e : two? σ p = some (a, b)) : ∃ T u w, v = .ref T ∧ s.heap.IsTuple T #[u, w] ∧ VR μ (gr s.heap H) u a ∧ VR μ (gr s.heap H) w b := by
  rcases or_some e with e | e
  · obtain ⟨xs, hp, e⟩ := bn_some e
    obtain ⟨x, hx, e⟩ := mp_some e
    rw [tupD_some hp, two2_some hx] at hv
    cases e
    exact vr_pair hv
  · obtain ⟨l, hp, e⟩ := bn_some e
    obtain ⟨xs, hl, e⟩ := bn_some e
    rw [locP_some hp] at hv
    obtain ⟨T, hT, ev⟩ := v_loc hv
    obtain ⟨vs, m, ho, hvs⟩ := S.objs l T _ hT (tupAt_some hl)
    rw [two2_some e] at hvs
    obtain ⟨u, w, el, hu, hw⟩ := vrs_two hvs
    rw [show vs = #[u, w] from Array.toList_inj.mp el] at ho
    exact ⟨T, u, w, ev, ⟨_, ho, rfl, m, rfl⟩, hu, hw⟩
theorem ts_set2 {x y : Nat} {i j : Str} {p₁ p₂ tpos pos : Pos} {k : Nat} {value : Expr} {p a b : PV} (K : Γ.Ok) (hA : A.handled = none) (hn : i = nm Γ.I x) (hm : j = nm Γ.I y) (ox : Own Γ env F x) (oy : Own Γ env F y)
    (h : TV Γ A env (eval value env) ρ σ p σ₁) (h2 : two? σ₁ p = some (a, b)) (hs : swapsWithSole [.Tuple [.Name i p₁, .Name j p₂] k tpos] value pos.line env = pure false)
    (hw : swappedStores [.Tuple [.Name i p₁, .Name j p₂] k tpos] value env = pure none) :
    TS Γ A env F (exec (.Assign [.Tuple [.Name i p₁, .Name j p₂] k tpos] value pos) env) ρ σ .next (upd y b (upd x a ρ)) σ₁ := fun μ H s S E hF => by
  subst hn hm
  refine Assign_Tuple (Does.use (h μ H s S E) fun v s₁ μ₁ H₁ T₁ S₁ r => ?_) hs hw
  obtain ⟨T, u, w, h1, h3, h4, h5⟩ := pair_at S₁ r h2
  refine SPost.use (take (t := .two x y) (i := .two a b) K hA S₁ (E.tr T₁) (T₁.fok hF) ⟨_, _, _, _, rfl⟩ (fun z hz => by
    simp [tgNames] at hz
    rcases hz with rfl | rfl <;> assumption) rfl ⟨T, u, w, h1, h3, h4, h5⟩) fun _ s₂ μ₂ H₂ T₂ S₂ E₂ _ => ⟨μ₂, H₂, (T₁.toF F).trans T₂, S₂, E₂, rfl⟩
end
end Mine
end
section
namespace Mine
open PySem PySem.W PySem.Calls PyProof.Rows
noncomputable abbrev DC (kx vx : Expr) (g : Comprehension) (scope : Scope) (pos : Pos) : Expr := .DictComp kx vx [g] scope pos
theorem turn_dict {kx vx : Expr} {tg iter : Expr} {ifs : List Expr} {scope : Scope} {pos : Pos} {it : Value} {D : Addr} {env : Env} :
    compTurn (DC kx vx ⟨tg, iter, ifs, 0⟩ scope pos) 0 it (.ref D) env = turnOf tg iter ifs ((do
            let kv ← eval kx env
            let vv ← holding [kv] (eval vx env)
            standAt { kx.pos with endLine := vx.pos.endLine, endCol := vx.pos.endCol }
            holding [kv, vv] (dictSet D kv vv) : Sem Unit) >>= fun _ => again (.compLoop (DC kx vx ⟨tg, iter, ifs, 0⟩ scope pos) 0 it (.ref D) env)) (DC kx vx ⟨tg, iter, ifs, 0⟩ scope pos) 0 it (.ref D) env := by
  rw [compTurn_dict]
  unfold turnOf
  congr 1
noncomputable def bevD (I : Info) (O : Orc) (k v : Ex) : En → List (Str × PV) → Hp → Option (List (Str × PV) × Hp) := fun ρ kvs σ =>
  bd (fin (ev I O k ρ σ)) fun a σ' => (txtP a).bind fun a => bd (fin (ev I O v ρ σ')) fun q σ'' => gd (kvs.length < 1000) (some (dput a q kvs, σ''))
end Mine
end
section
namespace Mine
open PySem PySem.W PySem.Calls PyProof.Rows
noncomputable def RD (w : World) (D : Addr) (kvs : List (Str × PV)) : List Addr → (Addr → Prop) → Heap → Prop := fun μ H h => ORel w μ (gr h H) h D (.dct kvs)
theorem accD {w : World} {D : Addr} : Acc (List (Str × PV)) D (RD w D) := ⟨fun x hp hg hk => ORel.mono x hp hg hk⟩
section
variable {Γ : Cx} {A : Around} {env : Env} {ρ ρ' : En} {σ σ₁ σ₂ σ₃ σ₄ σ' : Hp} {μ : List Addr} {H : Addr → Prop} {s : Shared} {n : Nat} {O : Orc} {F : Addr → Prop} {D : Addr}
theorem adopt {μ' : List Addr} {H' : Addr → Prop} {h : Heap} {os : OsState} {s' : Shared} {a : Addr} {o : PO} (T : Tr μ H h os μ' H' s'.heap s'.os) (S' : Γ.St μ' H' σ' s') (hf : h.get? a = none) (ham : a ∉ μ') (hHa : H' a)
    (hlive : ∃ ob, s'.heap.get? a = some ob) (ho : ORel Γ.w μ' (gr s'.heap H') s'.heap a o) :
    Tr μ H h os (μ' ++ [a]) H' s'.heap s'.os ∧ Γ.St (μ' ++ [a]) H' (σ' ++ [o]) s' ∧ VR (μ' ++ [a]) (gr s'.heap H') (.ref a) (.loc σ'.length) := by
  have hfr : ∀ b ∈ μ', b ≠ a := fun b hb q => ham (q ▸ hb)
  have T' : Tr μ H h os (μ' ++ [a]) H' s'.heap s'.os := by
    obtain ⟨ν, e1, e2⟩ := T.ext
    exact ⟨⟨ν ++ [a], by rw [e1, List.append_assoc], fun b hb => by
      rcases List.mem_append.mp hb with hb | hb
      · exact e2 b hb
      · simp at hb; rw [hb]; exact hf⟩, T.kept, T.dom, T.os⟩
  refine ⟨T', ⟨S'.keep, by simp [S'.len], ?_, fun l b o h1 h2 h3 => ?_, fun l b o h1 h2 => ?_, fun b hb => ?_, S'.gens⟩, ?_⟩
  · rw [List.nodup_append]
    exact ⟨S'.nod, by simp, fun x hx y hy => by simp at hy; subst hy; exact hfr x hx⟩
  · by_cases hl : l < μ'.length
    · rw [List.getElem?_append_left hl] at h1
      rw [List.getElem?_append_left (S'.len ▸ hl)] at h2
      exact S'.hid l b o h1 h2 h3
    · rw [List.getElem?_append_right (Nat.le_of_not_lt hl)] at h1
      have : l - μ'.length = 0 := by
        have := (List.getElem?_eq_some_iff.mp h1).1; simp at this; (first | lia | omega)
      rw [this] at h1; cases h1; exact hHa
  · by_cases hl : l < μ'.length
    · rw [List.getElem?_append_left hl] at h1
      rw [List.getElem?_append_left (S'.len ▸ hl)] at h2
      exact (S'.objs l b o h1 h2).mono ⟨[a], rfl⟩ (fun _ _ e => e) fun _ e => e
    · rw [List.getElem?_append_right (Nat.le_of_not_lt hl)] at h1
      rw [List.getElem?_append_right (Nat.le_of_not_lt (S'.len ▸ hl))] at h2
      have : l - μ'.length = 0 := by
        have := (List.getElem?_eq_some_iff.mp h1).1; simp at this; (first | lia | omega)
      rw [this] at h1; cases h1
      rw [← S'.len, this] at h2; cases h2
      exact ho.mono ⟨[a], rfl⟩ (fun _ _ e => e) fun _ e => e
  · rcases List.mem_append.mp hb with hb | hb
    · exact S'.there b hb
    · simp at hb; subst hb; exact hlive
  · refine .loc ?_
    rw [← S'.len, List.getElem?_append_right (Nat.le_refl _)]
    simp
theorem emitD_ok {kx vx : Expr} {k v : Ex} {cd : Code} {sp : Pos} (hlocD : env.locals ≠ D) (hk : ∀ ρ σ p σ', fin (ev Γ.I O k ρ σ) = some (p, σ') → TV Γ A env (eval kx env) ρ σ p σ') (hv : ∀ ρ σ p σ', fin (ev Γ.I O v ρ σ) = some (p, σ') → TV Γ A env (eval vx env) ρ σ p σ') :
    BodyOk Γ A env F D (RD Γ.w D) [] ((do
            let kv ← eval kx env
            let vv ← holding [kv] (eval vx env)
            standAt sp
            holding [kv, vv] (dictSet D kv vv) : Sem Unit) >>= fun _ => again cd) cd (bevD Γ.I O k v) (fun _ => True) := by
  intro ρ kvs σ kvs' σ' hev _ μ H s S E hF hD hR
  have keep : ∀ {μ H h os μ' H' h' os'} (T : Tr μ H h os μ' H' h' os'), FOk (· ∈ [D]) μ H h → ∀ o, h.get? D = some o → h'.get? D = some o := fun T hD o e => (T.kept _ _ e fun q => (hD D (.head _)).1 q.1).1
  obtain ⟨p, σ₁, h1, hev⟩ := bd_some hev
  obtain ⟨a, hp, hev⟩ := bn_some hev
  obtain ⟨q, σ₂, h2, hev⟩ := bd_some hev
  obtain ⟨hlen, hev⟩ := gd_val hev
  cases hev
  have hp := txtP_some hp
  subst hp
  refine wpAny_pure ?_
  show WP Γ A _ _ s
  refine wpAny_bind (wpAny_bind (Does.use (hk ρ σ _ σ₁ h1 μ H s S E) fun kv s₁ μ₁ H₁ T₁ S₁ r₁ => ?_))
  have E₁ := E.tr T₁
  have D₁ := T₁.fok hD
  refine wpAny_bind (wpAny_holding (Does.use (hv ρ σ₁ q σ' h2 μ₁ H₁ s₁ S₁ E₁) fun vv s₂ μ₂ H₂ T₂ S₂ r₂ => ?_))
  have E₂ := E₁.tr T₂
  have D₂ := T₂.fok D₁
  have R₂ : RD Γ.w D kvs μ₂ H₂ s₂.heap := accD.stab (accD.stab hR T₁.pre T₁.gr (keep T₁ hD)) T₂.pre T₂.gr (keep T₂ D₁)
  obtain ⟨t, rfl⟩ := v_str r₁
  obtain ⟨vals, h3, h4, h5⟩ := dict_of (prog := Γ.prog) R₂
  have hlen' : vals.length ≤ sizeLine := by
    have e1 : vals.length = kvs.length := by have := congrArg List.length h4.keys; rwa [List.length_map, List.length_map] at this
    rw [e1]; exact Nat.le_trans (Nat.le_of_lt hlen) (by decide)
  refine wpAny_bind (wpAny_standAt (wpAny_holding (wpAny_dictSet_pairs (PySem.strKind_is _ _ a t) h3 (fun h' hd hs => ?_) hlen')))
  refine wpAny_pure ⟨rfl, ?_⟩
  have z := S₂.but (s' := { s₂ with heap := h', toks := s₂.toks + 1 }) (F := (· ∈ [D])) (H' := H₂) D₂ (fun b o hb e => (hs.2 b fun q => hb (q ▸ .head _)).trans e) (fun b hb => by cases List.mem_singleton.mp hb; obtain ⟨o, _, _, e, _⟩ := hd; exact ⟨o, e⟩) (fun _ _ _ => Iff.rfl) rfl rfl
  obtain ⟨es₀, n₀, ho₀, _⟩ := R₂
  have hcell : ∀ n c, env.cells.lookup n = some c → ¬ (c ∈ [D]) := fun n c hc q => by
    obtain ⟨_, _, v, oc, e1, e2⟩ := E₂.cout n c hc
    rw [List.mem_singleton.mp q, ho₀] at e1; cases e1; cases e2
  have gm := z.2.gr D₂
  exact ⟨μ₂, H₂, (((T₁.trans T₂).toF _).trans (z.2.weaken fun b hb => .inl (.inr hb))), z.1, E₂.stay D₂ z.2 (fun q => hlocD (List.mem_singleton.mp q)) hcell,
    of_dict hd (dks_stored (h4.mono ⟨[], by simp⟩ gm) h5 (r₂.mono ⟨[], by simp⟩ gm)) (dput_nodup _ _ _ h5), z.2.fok (T₂.fok (T₁.fok (hF.or hD)))⟩
theorem orel_there {w : World} {μ : List Addr} {g h : Heap} {a : Addr} {kvs : List (Str × PV)} (x : ORel w μ g h a (.dct kvs)) : ∃ ob, h.get? a = some ob := let ⟨_, _, e, _, _⟩ := x; ⟨_, e⟩
end
end Mine
end
section
namespace Mine
open PySem PySem.W PySem.Calls PyProof.Rows
section
variable {Γ : Cx} {A : Around} {env : Env} {ρ ρ' : En} {σ σ₁ σ₂ σ₃ σ₄ σ' : Hp} {μ : List Addr} {H : Addr → Prop} {s : Shared} {n : Nat} {O : Orc} {F : Addr → Prop} {D : Addr}
  {sc : List (Str × NameKind)} {kx vx tgx iter : Expr} {scope : Scope} {pos py spos : Pos} {t : Tgt} {k v : Ex} {src : Src} {res : Option Flo × List (Str × PV) × Hp} {y : Nat}
structure DComp (Γ : Cx) (O : Orc) (A : Around) (sc : List (Str × NameKind)) (kx vx tgx : Expr) (scope : Scope) (t : Tgt) (k v : Ex) : Prop where
  sco : ScopeOk Γ.I sc scope (tgNames t)
  tgt : TgtOk Γ.I t tgx
  kv : ∀ cenv, EnvS cenv (relab sc scope.names) → (∀ ρ σ p σ', fin (ev Γ.I O k ρ σ) = some (p, σ') → TV Γ A cenv (eval kx cenv) ρ σ p σ') ∧ (∀ ρ σ p σ', fin (ev Γ.I O v ρ σ) = some (p, σ') → TV Γ A cenv (eval vx cenv) ρ σ p σ')
theorem dict_in (K : Γ.Ok) (hA : A.handled = none) (Y : DComp Γ O A sc kx vx tgx scope t k v) :
    CompIn Γ A sc (DC kx vx ⟨tgx, iter, [], 0⟩ scope pos) scope (tgNames t) ρ (RD Γ.w) [] newDict { cls := .type "dict", data := .dict #[] } (stepB t (hide (tgNames t) ρ) (bevD Γ.I O k v)) res :=
  ⟨Y.sco, fun Q s h => wpAny_newObj_type h, fun h => Heap.get?_push_size _ rfl, fun D μ H h e => ⟨#[], 0, e, .nil, .nil⟩, fun D => accD, fun cenv it acc RR s h0 h => codeAny_compStart_dict h0 (wpAny_mono h (fun _ _ e => e) fun _ _ e => e.elim),
    fun hS ho hDF hl L h1 h2 h3 h4 x => comp_loop (okE := fun _ => True) L K hA rfl rfl rfl turn_dict Y.tgt ho h1 h2 h3 hDF accD (fun x hx => hide_none hx) (fun _ _ _ => trivial) (emitD_ok hl (Y.kv _ hS).1 (Y.kv _ hS).2) h4 x⟩
theorem te_dcomp (K : Γ.Ok) (hA : A.handled = none) (X : EnvS env sc) (Y : DComp Γ O A sc kx vx tgx scope t k v) (hfo : ForcedOk env iter) (hit : TI Γ A env (eval iter env) ρ σ src σ₁)
    (hl : loopS (stepB t (hide (tgNames t) ρ) (bevD Γ.I O k v)) src [] σ₁ = some res) : TE Γ A env (eval (DC kx vx ⟨tgx, iter, [], 0⟩ scope pos) env) ρ σ (.val (.loc res.2.2.length)) (res.2.2 ++ [.dct res.2.1]) := fun μ H s S E => by
  rw [arm_eval_DictComp]
  refine wpAny_mono (comp_val K X (dict_in K hA Y) rfl hfo hit hl S E) (fun w s' y => ?_) fun _ _ e => e
  obtain ⟨μ', H', T, S', a, e, hf, ham, hHa, ho⟩ := y
  subst e
  obtain ⟨q1, q2, q3⟩ := adopt T S' hf ham hHa (orel_there ho) ho
  exact ⟨_, _, q1, q2, q3⟩
theorem ts_dcomp {id : Str} (K : Γ.Ok) (hA : A.handled = none) (X : EnvS env sc) (Y : DComp Γ O A sc kx vx tgx scope t k v) (hfo : ForcedOk env iter) (hit : TI Γ A env (eval iter env) ρ σ src σ₁)
    (hl : loopS (stepB t (hide (tgNames t) ρ) (bevD Γ.I O k v)) src [] σ₁ = some res)
    (hsw : swapsWith (DC kx vx ⟨tgx, iter, [], 0⟩ scope pos) (some (.Name id py)) spos.line env = pure true) (hn : id = nm Γ.I y) (ho : Own Γ env F y) :
    TS Γ A env F (exec (.Assign [.Name id py] (DC kx vx ⟨tgx, iter, [], 0⟩ scope pos) spos) env) ρ σ .next (upd y (.loc res.2.2.length) ρ) (res.2.2 ++ [.dct res.2.1]) := fun μ H s S E hF => by
  subst hn
  rw [exec_Assign_Name_used _ _ _ _ hsw]
  refine wpAny_bind (wpAny_standAt (wpAny_bind (wpAny_bind (wpAny_mono (comp_use K X (dict_in K hA Y) rfl hfo hit hl ho S E hF fun {μ' H' s' w} T S' y => ?_) (fun _ s' hq => wpAny_pure (wpAny_pure hq)) fun _ _ e => e))))
  obtain ⟨a, e, hf, ham, hHa, hr⟩ := y
  subst e
  obtain ⟨q1, q2, q3⟩ := adopt T S' hf ham hHa (orel_there hr) hr
  exact ⟨_, _, q1, q2, q3, fun b h1 h2 h3 => ⟨fun q => (List.mem_append.mp q).elim h1 fun q => h3 (by rw [List.mem_singleton.mp q]), h2⟩⟩
end
end Mine
end
section
namespace Mine
open PySem PySem.W PySem.Calls PyProof.Rows
section
variable {Γ : Cx} {A : Around} {env : Env} {ρ ρ' : En} {σ σ₁ σ₂ σ₃ σ₄ σ' : Hp} {μ : List Addr} {H : Addr → Prop} {s : Shared} {n : Nat} {O : Orc} {F : Addr → Prop} {D : Addr}
theorem with_blt {T : String} {pos : Pos} {first : List Value} {fps ps : List PV} {trees : List (Bool × Sem Value)} {R : Value → List Addr → (Addr → Prop) → Heap → Prop} (S : Γ.St μ H σ s) (E : EnvR Γ env ρ μ H s.heap) (hp : trees.any (·.1) = false)
    (ha : TVs Γ A env (spliced trees) ρ σ ps σ₁) (hfirst : VRs μ (gr s.heap H) first fps)
    (h : ∀ μ₂ H₂ s₂ vs, Tr μ H s.heap s.os μ₂ H₂ s₂.heap s₂.os → Γ.St μ₂ H₂ σ₁ s₂ → VRs μ₂ (gr s₂.heap H₂) (first ++ vs) (fps ++ ps) → Does Γ A (call (.builtin T) (first ++ vs)) μ₂ H₂ s₂ R σ₂) :
    Does Γ A (callWith pos (.builtin T) first trees []) μ H s R σ₂ := by
  refine Calls.callWith_builtin hp (args_ok hp rfl ?_)
  refine Does.use (ha μ H s S E) fun vs s₁ μ₁ H₁ T₁ S₁ r₁ => ?_
  exact wpAny_evalAll_nil ((h μ₁ H₁ s₁ vs T₁ S₁ (vrs_append (hfirst.tr T₁) r₁)).after T₁)
theorem te_bi {T : String} {id : Str} {np pos : Pos} {es : List Expr} {ps : List PV} {r : Res} (K : Γ.Ok) (hb : BltIs Γ env id (.builtin T)) (hp : (backTo pos (starEach es env)).any (·.1) = false)
    (ha : TVs Γ A env (spliced (backTo pos (starEach es env))) ρ σ ps σ₁) (h : ∀ μ H s vs, Γ.St μ H σ₁ s → VRs μ (gr s.heap H) vs ps → Does Γ A (call (.builtin T) vs) μ H s (RR s.heap r) σ₂) :
    TE Γ A env (eval (.Call (.Name id np) es [] pos) env) ρ σ r σ₂ := fun μ H s S E => by
  refine wpAny_Call_ofName (name_gl K S E (.inr ⟨hb.1, hb.2.1⟩) hb.2.2.1 hb.2.2.2 ?_)
  refine with_blt (first := []) (fps := []) S E hp ha .nil fun μ₂ H₂ s₂ vs T₂ S₂ r₁ => ?_
  exact (h μ₂ H₂ s₂ vs S₂ r₁).conseq fun _ _ _ _ y => y.back fun b e => T₂.fresh e
theorem te_bt {T : String} {id : Str} {np pos : Pos} {es : List Expr} {ps : List PV} {r : Res} (K : Γ.Ok) (hb : BltIs Γ env id (.type T)) (hp : (backTo pos (starEach es env)).any (·.1) = false)
    (ha : TVs Γ A env (spliced (backTo pos (starEach es env))) ρ σ ps σ₁) (h : ∀ μ H s vs, Γ.St μ H σ₁ s → VRs μ (gr s.heap H) vs ps → Does Γ A (call (.type T) vs) μ H s (RR s.heap r) σ₂) :
    TE Γ A env (eval (.Call (.Name id np) es [] pos) env) ρ σ r σ₂ := fun μ H s S E => by
  refine wpAny_Call_ofName (name_gl K S E (.inr ⟨hb.1, hb.2.1⟩) hb.2.2.1 hb.2.2.2 ?_)
  refine with_type S E hp ha fun μ₂ H₂ s₂ vs T₂ S₂ r₁ => ?_
  exact ((h μ₂ H₂ s₂ vs S₂ r₁).conseq fun _ _ _ _ y => y.back fun b e => T₂.fresh e).after T₂
theorem vrs_three {g : Heap} {vs : List Value} {p q r : PV} (h : VRs μ g vs [p, q, r]) : ∃ v w x, vs = [v, w, x] ∧ VR μ g v p ∧ VR μ g w q ∧ VR μ g x r := by
  cases h with
  | cons a b => obtain ⟨w, x, rfl, hw, hx⟩ := vrs_two b; exact ⟨_, w, x, rfl, a, hw, hx⟩
theorem vis {v : Value} {p : PV} {xs : List PV} (S : Γ.St μ H σ s) (hv : VR μ (gr s.heap H) v p) (e : listOf? σ p = some xs) : ∃ a vs, v = .ref a ∧ s.heap.IsList a vs ∧ VRs μ (gr s.heap H) vs.toList xs := by
  rcases or_some e with e | e
  · obtain ⟨ys, h, e2⟩ := mp_some e
    rw [lstD_some h] at hv
    obtain ⟨a, vs, e1, e3, _, e4⟩ := vis_list hv
    exact ⟨a, vs, e1, e3, e2 ▸ e4⟩
  · obtain ⟨l, h, hl⟩ := bn_some e
    rw [locP_some h] at hv
    obtain ⟨a, ha, ev⟩ := v_loc hv
    obtain ⟨vs, n, h1, h2⟩ := S.objs l a _ ha (lstAt_some hl)
    exact ⟨a, vs, ev, ⟨_, h1, rfl, n, rfl⟩, h2⟩
theorem d_len {v : Value} {p : PV} {r : Res} (S : Γ.St μ H σ s) (hv : VR μ (gr s.heap H) v p) (e : callBi .len [p] σ = some r) : Does Γ A (call (.builtin "len") [v]) μ H s (RR s.heap r) σ := by
  rcases or_some e with e1 | e1
  · obtain ⟨x, hp, e2⟩ := bn_some e1
    obtain ⟨hl, e3⟩ := gd_val e2
    rw [txtP_some hp] at hv
    obtain ⟨t, ev⟩ := v_str hv
    rw [ev, ← e3]
    exact PySem.P.len_str (by show ¬ ((x.cps.size : Nat) : Int) ≥ _; (first | lia | omega)) (Post.now S (R := RR s.heap (.val (.d (.int x.length)))) (vr_int _ _ _) _)
  · obtain ⟨xs, hp, e2⟩ := bn_some e1
    obtain ⟨hl, e3⟩ := gd_val e2
    obtain ⟨a, vs, ev, h1, h2⟩ := vis S hv hp
    have h3 : vs.size = xs.length := vrs_len h2
    rw [ev, ← e3, ← h3]
    exact Calls.call_len_list h1 (by (first | lia | omega)) (Post.now S (R := RR s.heap (.val (.d (.int vs.size)))) (vr_int _ _ _) _)
theorem d_typ {v : Value} {p : PV} {r : Res} (S : Γ.St μ H σ s) (hv : VR μ (gr s.heap H) v p) (e : callBi .typ [p] σ = some r) : Does Γ A (call (.type "type") [v]) μ H s (RR s.heap r) σ := by
  have key : ∀ T, s.TypeIs v T → (Value.type T == Value.type "builtin_function_or_method") = false → Does Γ A (call (.type "type") [v]) μ H s (RR s.heap (.val (.ty T))) σ := fun T hT hn =>
    call_type_of hT hn (Post.now S (R := RR s.heap (.val (.ty T))) .ty s.toks)
  rcases or_some e with e | e
  · obtain ⟨x, hp, e2⟩ := mp_some e
    rw [txtP_some hp] at hv
    obtain ⟨t, ev⟩ := v_str hv
    rw [← e2]
    exact key "str" (by rw [ev]; rfl) (by decide)
  · obtain ⟨xs, hp, e2⟩ := mp_some e
    obtain ⟨a, vs, ev, h1, _⟩ := vis S hv hp
    rw [← e2]
    exact key "list" (by rw [ev]; exact h1.typeIs) (by decide)
theorem wp_t1 {T : String} {id : Str} {np pos : Pos} {inner : Expr} {Q : Value → Shared → Prop} (K : Γ.Ok) (S : Γ.St μ H σ s) (E : EnvR Γ env ρ μ H s.heap) (hb : BltIs Γ env id (.type T)) (hn : starEach [inner] env = (false, eval inner env) :: starEach [] env) (hp : (backTo pos (starEach [inner] env)).any (·.1) = false)
    (h : WP Γ A (eval inner env) (fun x s₁ => WP Γ A (call (.type T) [x]) Q s₁) s) : WP Γ A (eval (.Call (.Name id np) [inner] [] pos) env) Q s := by
  refine wpAny_Call_ofName (name_gl K S E (.inr ⟨hb.1, hb.2.1⟩) hb.2.2.1 hb.2.2.2 ?_)
  refine callWith_excType hp (args_ok hp rfl ?_)
  refine wpAny_items_cons (wpAny_mono h (fun v s₁ h₁ => ?_) fun _ _ e => e) hn
  exact wpAny_items_nil (wpAny_evalAll_nil (by simpa using h₁))
theorem wp_b1 {T : String} {id : Str} {np pos : Pos} {inner : Expr} {Q : Value → Shared → Prop} (K : Γ.Ok) (S : Γ.St μ H σ s) (E : EnvR Γ env ρ μ H s.heap) (hb : BltIs Γ env id (.builtin T)) (hn : starEach [inner] env = (false, eval inner env) :: starEach [] env) (hp : (backTo pos (starEach [inner] env)).any (·.1) = false)
    (h : WP Γ A (eval inner env) (fun x s₁ => WP Γ A (call (.builtin T) [x]) Q s₁) s) : WP Γ A (eval (.Call (.Name id np) [inner] [] pos) env) Q s := by
  refine wpAny_Call_ofName (name_gl K S E (.inr ⟨hb.1, hb.2.1⟩) hb.2.2.1 hb.2.2.2 ?_)
  refine Calls.callWith_builtin hp (args_ok hp rfl ?_)
  refine wpAny_items_cons (wpAny_mono h (fun v s₁ h₁ => ?_) fun _ _ e => e) hn
  exact wpAny_items_nil (wpAny_evalAll_nil (by simpa using h₁))
theorem d_strOf {v : Value} {p : PV} {r : Res} (S : Γ.St μ H σ s) (hv : VR μ (gr s.heap H) v p) (e : callBi .strOf [p] σ = some r) : Does Γ A (call (.type "str") [v]) μ H s (RR s.heap r) σ := by
  obtain ⟨i, hp, e1⟩ := bn_some e
  obtain ⟨hi, e2⟩ := gd_val e1
  rw [intP_some hp] at hv
  obtain ⟨t, ev⟩ := v_int hv
  rw [ev, ← e2]
  refine PySem.P.str_of_int ?_ ?_
  · have : i.natAbs < 10 := by (first | lia | omega)
    have h2 : i.natAbs.log2 ≤ i.natAbs := Nat.log2_le_self _
    (first | lia | omega)
  · have e1 : (toString i : Str) = ⟨#[48 + i.toNat]⟩ := by
      obtain ⟨h0, h1⟩ := hi
      have : i = 0 ∨ i = 1 ∨ i = 2 ∨ i = 3 ∨ i = 4 ∨ i = 5 ∨ i = 6 ∨ i = 7 ∨ i = 8 ∨ i = 9 := by (first | lia | omega)
      rcases this with rfl | rfl | rfl | rfl | rfl | rfl | rfl | rfl | rfl | rfl <;> rfl
    rw [e1]
    exact Post.now S (R := RR s.heap (.val (.d (.str ⟨#[48 + i.toNat]⟩)))) (vr_str _ _ _) _
end
end Mine
end
section
namespace Mine
open PySem PySem.W PySem.Calls PyProof.Rows
theorem minI_of (xs : List PyData) (m : Int) {k : Int} (h : minI m xs = some k) : ∃ ns : List Int, xs = ns.map PyData.int ∧ (k = m ∨ k ∈ ns) ∧ k ≤ m ∧ ∀ a ∈ ns, k ≤ a := by
  induction xs generalizing m with
  | nil => cases h; exact ⟨[], rfl, .inl rfl, Int.le_refl _, by simp⟩
  | cons x r ih => cases x with
    | int i =>
      rw [minI_c] at h
      obtain ⟨ns, rfl, h1, h2, h3⟩ := ih _ h
      refine ⟨i :: ns, rfl, ?_, ?_, ?_⟩
      · by_cases c : i < m
        · rw [if_pos c] at h1; rcases h1 with h1 | h1 <;> simp [h1]
        · rw [if_neg c] at h1; rcases h1 with h1 | h1 <;> simp [h1]
      · by_cases c : i < m
        · rw [if_pos c] at h2; (first | lia | omega)
        · rw [if_neg c] at h2; (first | lia | omega)
      · intro a ha
        rcases List.mem_cons.mp ha with rfl | ha
        · by_cases c : a < m
          · rw [if_pos c] at h2; (first | lia | omega)
          · rw [if_neg c] at h2; (first | lia | omega)
        · exact h3 a ha
    | _ => exact (ns h).elim
theorem maxI_of (xs : List PyData) (m : Int) {k : Int} (h : maxI m xs = some k) : ∃ ns : List Int, xs = ns.map PyData.int ∧ (k = m ∨ k ∈ ns) ∧ m ≤ k ∧ ∀ a ∈ ns, a ≤ k := by
  induction xs generalizing m with
  | nil => cases h; exact ⟨[], rfl, .inl rfl, Int.le_refl _, by simp⟩
  | cons x r ih => cases x with
    | int i =>
      rw [maxI_c] at h
      obtain ⟨ns, rfl, h1, h2, h3⟩ := ih _ h
      refine ⟨i :: ns, rfl, ?_, ?_, ?_⟩
      · by_cases c : m < i
        · rw [if_pos c] at h1; rcases h1 with h1 | h1 <;> simp [h1]
        · rw [if_neg c] at h1; rcases h1 with h1 | h1 <;> simp [h1]
      · by_cases c : m < i
        · rw [if_pos c] at h2; (first | lia | omega)
        · rw [if_neg c] at h2; (first | lia | omega)
      · intro a ha
        rcases List.mem_cons.mp ha with rfl | ha
        · by_cases c : m < a
          · rw [if_pos c] at h2; (first | lia | omega)
          · rw [if_neg c] at h2; (first | lia | omega)
        · exact h3 a ha
    | _ => exact (ns h).elim
section
variable {Γ : Cx} {A : Around} {env : Env} {ρ ρ' : En} {σ σ₁ σ₂ σ₃ σ₄ σ' : Hp} {μ : List Addr} {H : Addr → Prop} {s : Shared} {n : Nat} {O : Orc} {F : Addr → Prop} {D : Addr}
theorem dats_map : ∀ {xs : List PV} {ds : List PyData}, dats xs = some ds → xs = ds.map .d
  | [], _, e => by cases e; rfl
  | p :: r, ds, e => by
    rw [dats_c] at e
    cases hp : datOf p with
    | none => rw [hp] at e; cases e
    | some x =>
      cases hq : dats r with
      | none => rw [hp, hq] at e; cases e
      | some ys =>
        rw [hp, hq] at e; cases e
        cases p with
        | d y => cases hp; rw [List.map_cons, dats_map hq]
        | _ => cases hp
theorem vis_view {v : Value} {p : PV} {xs : List PyData} (S : Γ.St μ H σ s) (hv : VR μ (gr s.heap H) v p) (e : view σ p = some (.list xs)) : ∃ a vs, v = .ref a ∧ s.heap.IsList a vs ∧ VRs μ (gr s.heap H) vs.toList (xs.map .d) := by
  refine vis (σ := σ) (xs := xs.map .d) S hv ?_
  rcases or_some e with e | e
  · rw [datP_some e]; rfl
  · obtain ⟨l, h, e2⟩ := bn_some e
    obtain ⟨ys, hl, e3⟩ := bn_some e2
    obtain ⟨ds, hd, e4⟩ := mp_some e3
    cases e4
    rw [locP_some h, ← dats_map hd]
    exact hl
theorem ints_are {g : Heap} : ∀ {vs : List Value} {ns : List Int}, VRs μ g vs ((ns.map PyData.int).map .d) → IntsAre vs ns
  | _, [], .nil => .nil
  | _, n :: ns, .cons h r => by
    obtain ⟨t, rfl⟩ := v_int h
    exact .cons n t (ints_are r)
theorem post_keep {s' : Shared} {i : Int} {t : Tok} (S : Γ.St μ H σ s) (h₀ : Heap) (hk : ∀ b o, s.heap.get? b = some o → s'.heap.get? b = some o) (hg : s'.gens = s.gens := by rfl) (ho : s'.os = s.os := by rfl) :
    Post Γ μ H s.heap s.os (RR h₀ (.val (.d (.int i)))) σ (.int i t) s' :=
  post_grow (H' := H) S hk (fun _ _ _ => Iff.rfl) hg ho fun _ => vr_int _ _ _
theorem d_min2 {v w : Value} {p q : PV} {r : Res} (hA : A.handled = none) (S : Γ.St μ H σ s) (hv : VR μ (gr s.heap H) v p) (hw : VR μ (gr s.heap H) w q) (e : callBi .min2 [p, q] σ = some r) :
    Does Γ A (call (.builtin "min") [v, w]) μ H s (RR s.heap r) σ := by
  obtain ⟨i, hp, e1⟩ := bn_some e
  obtain ⟨j, hq, e2⟩ := mp_some e1
  rw [intP_some hp] at hv
  rw [intP_some hq] at hw
  obtain ⟨t, ev⟩ := v_int hv
  obtain ⟨u, ew⟩ := v_int hw
  rw [ev, ew, ← e2]
  refine min_two_ints hA fun h' tk hk => ?_
  by_cases c : j < i
  · simp only [if_pos c]; exact post_keep S _ hk
  · simp only [if_neg c]; exact post_keep S _ hk
theorem ints_extreme {vs : Array Value} {ns : List Int} (hi : IntsAre vs.toList ns) : ∃ xs : Array (Int × Tok), vs = intItems xs ∧ ns = xs.toList.map (·.1) := by
  obtain ⟨xs, e⟩ := hi.allInts.items
  have e' : vs = intItems xs := by simpa using e
  refine ⟨xs, e', ?_⟩
  rw [← hi.numsOf, ← nums_intItems, ← e']
theorem d_min1 {v : Value} {p : PV} {i : Int} {xs : List PyData} {k : Int} (hA : A.handled = none) (S : Γ.St μ H σ s) (hv : VR μ (gr s.heap H) v p) (e : view σ p = some (.list (.int i :: xs))) (hm : minI i xs = some k) :
    Does Γ A (call (.builtin "min") [v]) μ H s (RR s.heap (.val (.d (.int k)))) σ := by
  obtain ⟨a, vs, rfl, h1, h2⟩ := vis_view S hv e
  obtain ⟨ns, rfl, k1, k2, k3⟩ := minI_of _ _ hm
  have hi : IntsAre vs.toList (i :: ns) := ints_are h2
  obtain ⟨ys, rfl, hns⟩ := ints_extreme hi
  have hsz : 0 < ys.size := by
    have := congrArg List.length hns
    simp at this; (first | lia | omega)
  refine min_intList hA h1 hsz fun v h' tk hv hk => ?_
  obtain ⟨t, rfl⟩ := intItems_at hv
  obtain ⟨q1, q2⟩ := argBest_lt (numAt ys) (ys.size - 1)
  have hmem : numAt ys (argBest (fun i j => decide (numAt ys i < numAt ys j)) (ys.size - 1)) ∈ i :: ns := by
    rw [hns, numAt_eq]; exact getD_mem (by rw [List.length_map, Array.length_toList]; (first | lia | omega))
  have hle : ∀ a ∈ i :: ns, numAt ys (argBest (fun i j => decide (numAt ys i < numAt ys j)) (ys.size - 1)) ≤ a := by
    intro a ha
    rw [hns] at ha
    obtain ⟨j, hj, rfl⟩ := mem_getD ha
    rw [List.length_map, Array.length_toList] at hj
    rw [← numAt_eq]; exact q2 j (by (first | lia | omega))
  have hk1 : k ∈ i :: ns := by
    rcases k1 with rfl | k1
    · exact List.mem_cons_self
    · exact List.mem_cons_of_mem _ k1
  have hk2 : ∀ a ∈ i :: ns, k ≤ a := by
    intro a ha
    rcases List.mem_cons.mp ha with rfl | ha
    · exact k2
    · exact k3 a ha
  have : numAt ys (argBest (fun i j => decide (numAt ys i < numAt ys j)) (ys.size - 1)) = k := Int.le_antisymm (hle k hk1) (hk2 _ hmem)
  rw [this]
  exact post_keep S _ hk
theorem d_max1 {v : Value} {p : PV} {i : Int} {xs : List PyData} {k : Int} (hA : A.handled = none) (S : Γ.St μ H σ s) (hv : VR μ (gr s.heap H) v p) (e : view σ p = some (.list (.int i :: xs))) (hm : maxI i xs = some k) :
    Does Γ A (call (.builtin "max") [v]) μ H s (RR s.heap (.val (.d (.int k)))) σ := by
  obtain ⟨a, vs, rfl, h1, h2⟩ := vis_view S hv e
  obtain ⟨ns, rfl, k1, k2, k3⟩ := maxI_of _ _ hm
  have hi : IntsAre vs.toList (i :: ns) := ints_are h2
  obtain ⟨ys, rfl, hns⟩ := ints_extreme hi
  have hsz : 0 < ys.size := by
    have := congrArg List.length hns
    simp at this; (first | lia | omega)
  refine max_intList hA h1 hsz fun v h' tk hv hk => ?_
  obtain ⟨t, rfl⟩ := intItems_at hv
  obtain ⟨q1, q2⟩ := argBest_gt (numAt ys) (ys.size - 1)
  have hmem : numAt ys (argBest (fun i j => decide (numAt ys i > numAt ys j)) (ys.size - 1)) ∈ i :: ns := by
    rw [hns, numAt_eq]; exact getD_mem (by rw [List.length_map, Array.length_toList]; (first | lia | omega))
  have hle : ∀ a ∈ i :: ns, a ≤ numAt ys (argBest (fun i j => decide (numAt ys i > numAt ys j)) (ys.size - 1)) := by
    intro a ha
    rw [hns] at ha
    obtain ⟨j, hj, rfl⟩ := mem_getD ha
    rw [List.length_map, Array.length_toList] at hj
    rw [← numAt_eq]; exact q2 j (by (first | lia | omega))
  have hk1 : k ∈ i :: ns := by
    rcases k1 with rfl | k1
    · exact List.mem_cons_self
    · exact List.mem_cons_of_mem _ k1
  have hk2 : ∀ a ∈ i :: ns, a ≤ k := by
    intro a ha
    rcases List.mem_cons.mp ha with rfl | ha
    · exact k2
    · exact k3 a ha
  have : numAt ys (argBest (fun i j => decide (numAt ys i > numAt ys j)) (ys.size - 1)) = k := Int.le_antisymm (hk2 _ hmem) (hle k hk1)
  rw [this]
  exact post_keep S _ hk
theorem rangeS_get : ∀ (k : Nat) (a s : Int) (j : Nat), j < k → (rangeS a s k)[j]? = some (.d (.int (a + j * s)))
  | 0, a, s, j, h => by (first | lia | omega)
  | k + 1, a, s, 0, _ => by simp [rangeS_c]
  | k + 1, a, s, j + 1, h => by
    simp only [rangeS_c, List.getElem?_cons_succ]
    rw [rangeS_get k (a + s) s j (by (first | lia | omega))]
    congr 3
    push_cast
    rw [Int.add_mul]
    (first | lia | omega)
theorem rangeS_len : ∀ (k : Nat) (a s : Int), (rangeS a s k).length = k
  | 0, _, _ => rfl
  | k + 1, a, s => by simp [rangeS_c, rangeS_len k]
theorem vrs_of_get {g : Heap} : ∀ {vs : List Value} {ps : List PV}, vs.length = ps.length → (∀ (j : Nat) (v : Value) (p : PV), vs[j]? = some v → ps[j]? = some p → VR μ g v p) → VRs μ g vs ps
  | [], [], _, _ => .nil
  | [], _ :: _, h, _ => by simp at h
  | _ :: _, [], h, _ => by simp at h
  | v :: vs, p :: ps, h, k => .cons (k 0 v p rfl rfl) (vrs_of_get (by simpa using h) fun j v p h1 h2 => k (j + 1) v p (by simpa using h1) (by simpa using h2))
theorem small_of {a b c : Int} (h : (0 < c ∧ c < 1000) ∧ (-1000 < a ∧ a < 1000) ∧ -1000 < b ∧ b < 1000) : Builtin.Range.small a b c = true ∧ 0 ≤ Builtin.Range.rangeSize a b c ∧ Builtin.Range.rangeSize a b c ≤ 2000 := by
  obtain ⟨⟨c1, c2⟩, ⟨a1, a2⟩, b1, b2⟩ := h
  have hs : 0 ≤ Builtin.Range.rangeSize a b c ∧ Builtin.Range.rangeSize a b c ≤ 2000 := by
    unfold Builtin.Range.rangeSize
    rw [if_pos c1]
    split
    · rename_i hab
      have h1 : 0 ≤ (b - a - 1) / c := Int.ediv_nonneg (by (first | lia | omega)) (by (first | lia | omega))
      have h2 : (b - a - 1) / c ≤ b - a - 1 := Int.ediv_le_self _ (by (first | lia | omega))
      (first | lia | omega)
    · (first | lia | omega)
  refine ⟨?_, hs⟩
  have key : ∀ x : Int, -4000 < x → x < 4000 → Builtin.Range.rangeFitsLong x = true := fun x h1 h2 => by
    unfold Builtin.Range.rangeFitsLong
    simp only [Bool.and_eq_true, decide_eq_true_eq]
    (first | lia | omega)
  unfold Builtin.Range.small
  rw [key a (by (first | lia | omega)) (by (first | lia | omega)), key b (by (first | lia | omega)) (by (first | lia | omega)), key c (by (first | lia | omega)) (by (first | lia | omega)), key _ (by (first | lia | omega)) (by (first | lia | omega)), if_pos c1, key (b + (c - 1)) (by (first | lia | omega)) (by (first | lia | omega))]
  simp
theorem d_listrange {va vb vs : Value} {pa pb ps : PV} {r : Res} (hA : A.handled = none) (S : Γ.St μ H σ s) (ha : VR μ (gr s.heap H) va pa) (hb : VR μ (gr s.heap H) vb pb) (hs : VR μ (gr s.heap H) vs ps)
    (e : callBi .listrange [pa, pb, ps] σ = some r) : WP Γ A (call (.type "range") [va, vb, vs]) (fun x s₁ => WP Γ A (call (.type "list") [x]) (Post Γ μ H s.heap s.os (RR s.heap r) σ) s₁) s := by
  obtain ⟨a, hp, e1⟩ := bn_some e
  obtain ⟨b, hq, e2⟩ := bn_some e1
  obtain ⟨c, hr, e3⟩ := bn_some e2
  obtain ⟨hc, e4⟩ := gd_val e3
  rw [intP_some hp] at ha
  rw [intP_some hq] at hb
  rw [intP_some hr] at hs
  obtain ⟨h1, h2, h3⟩ := small_of hc
  obtain ⟨t, ea⟩ := v_int ha
  obtain ⟨u, eb⟩ := v_int hb
  obtain ⟨w, ec⟩ := v_int hs
  rw [ea, eb, ec, ← e4]
  refine call_range_3 (by (first | lia | omega)) ?_ (.inl (PyProof.noPylong_small (by (first | lia | omega))))
  refine call_list_range (n := (Builtin.Range.rangeSize a b c).toNat) hA (IsRange.new _ _ _ _ _ _ _) h1 (by (first | lia | omega)) (by (first | lia | omega)) fun h' tk acc' c' hk' hS' hacc => ?_
  refine post_fresh S ?_ (fun d o e => hk' d o (Heap.get?_push_of_some _ e)) hS' ?_
  · rw [Heap.size_push]
    exact none_at s.heap 1
  · refine vrs_of_get (by rw [rangeS_len, Array.length_toList, hacc.1]) fun j v p hv hp => ?_
    have hj : j < (Builtin.Range.rangeSize a b c).toNat := by
      have := (List.getElem?_eq_some_iff.mp hp).1
      rwa [rangeS_len] at this
    rw [rangeS_get _ _ _ _ hj] at hp
    cases hp
    obtain ⟨t, rfl⟩ := hacc.2 j v (by simpa using hv)
    exact vr_int _ _ _
theorem te_listrange {id id2 : Str} {np np2 pos pos2 : Pos} {es : List Expr} {ps : List PV} {r : Res} (K : Γ.Ok) (hA : A.handled = none) (hb : BltIs Γ env id (.type "list")) (hb2 : BltIs Γ env id2 (.type "range"))
    (hn : starEach [.Call (.Name id2 np2) es [] pos2] env = (false, eval (.Call (.Name id2 np2) es [] pos2) env) :: starEach [] env) (hp1 : (backTo pos (starEach [.Call (.Name id2 np2) es [] pos2] env)).any (·.1) = false) (hp : (backTo pos2 (starEach es env)).any (·.1) = false)
    (ha : TVs Γ A env (spliced (backTo pos2 (starEach es env))) ρ σ ps σ₁) (e : callBi .listrange ps σ₁ = some r) : TE Γ A env (eval (.Call (.Name id np) [.Call (.Name id2 np2) es [] pos2] [] pos) env) ρ σ r σ₁ := fun μ H s S E => by
  refine wp_t1 K S E hb hn hp1 ?_
  refine wpAny_Call_ofName (name_gl K S E (.inr ⟨hb2.1, hb2.2.1⟩) hb2.2.2.1 hb2.2.2.2 ?_)
  refine with_type S E hp ha fun μ₂ H₂ s₂ vs T₂ S₂ r₁ => ?_
  obtain ⟨p, q, w, rfl, _⟩ := threeA_some e
  obtain ⟨v1, v2, v3, rfl, x1, x2, x3⟩ := vrs_three r₁
  refine wpAny_mono (d_listrange hA S₂ x1 x2 x3 e) (fun x s₁ h1 => wpAny_mono h1 (fun v s' y => ?_) fun _ _ e => e) fun _ _ e => e
  obtain ⟨μ', H', T', S', rr⟩ := y
  exact ⟨μ', H', T₂.trans T', S', rr.back fun b e => T₂.fresh e⟩
end
end Mine
end
section
namespace Mine
open PySem PySem.W PySem.Calls PyProof.Rows
section
variable {Γ : Cx} {A : Around} {env : Env} {ρ ρ' : En} {σ σ₁ σ₂ σ₃ σ₄ σ' : Hp} {μ : List Addr} {H : Addr → Prop} {s : Shared} {n : Nat} {O : Orc} {F : Addr → Prop} {D : Addr}
theorem te_meth {T bid : String} {o : Expr} {id : Str} {apos pos : Pos} {es : List Expr} {p : PV} {ps : List PV} {r : Res} (pa : PlainAttrs T) (slot : Slot T id bid) (hty : typeOf (.builtin bid) = pure (.type "method_descriptor"))
    (hbase : attributeBase o id env (eval o env) = eval o env) (hfew : methodCallForm (es.length + ([] : List Keyword).length) (backTo pos (starEach es env)) (backToKw pos (keywordEach [] env)) = true) (hline : (apos.endLine == pos.line) = true)
    (ho : TV Γ A env (eval o env) ρ σ p σ₁) (hp : (backTo pos (starEach es env)).any (·.1) = false)
    (ha : TVs Γ A env (spliced (backTo pos (starEach es env))) ρ σ₁ ps σ₂)
    (hT : ∀ μ H s v, Γ.St μ H σ₁ s → VR μ (gr s.heap H) v p → s.TypeIs v T ∧ ∀ a, v = .ref a → ∃ ob, s.heap.get? a = some ob ∧ ob.dict = none)
    (h : ∀ μ H s v vs, Γ.St μ H σ₂ s → VR μ (gr s.heap H) v p → VRs μ (gr s.heap H) vs ps → Does Γ A (call (.builtin bid) (v :: vs)) μ H s (RR s.heap r) σ₃) :
    TE Γ A env (eval (.Call (.Attribute o id apos) es [] pos) env) ρ σ r σ₃ := fun μ H s S E => by
  rw [arm_eval_Call, hbase]
  refine Does.bind (R' := RR s.heap r) (ho μ H s S E) fun v μ₁ H₁ s₁ T₁ S₁ rv => wpAny_bind (wpAny_standAt ?_)
  obtain ⟨h1, h2⟩ := hT μ₁ H₁ s₁ v S₁ rv
  unfold methodCall
  rw [hfew]
  refine wpAny_bind (wpAny_holding (getMethod_builtin h1 pa slot hty h2 ?_))
  have hpos : methodCallPos true o env apos pos = pure pos := by unfold methodCallPos; simp [hline]
  refine wpAny_bind (wpAny_of_eq hpos ?_)
  refine with_blt (first := [v]) (fps := [p]) S₁ (E.tr T₁) hp ha (.cons rv .nil) fun μ₂ H₂ s₂ vs T₂ S₂ r₁ => ?_
  cases r₁ with
  | cons x xs => exact (h μ₂ H₂ s₂ v vs S₂ x xs).conseq fun _ _ _ _ y => y.back fun b e => T₁.fresh (T₂.fresh e)
theorem str_type {x : Str} {v : Value} (hv : VR μ (gr s.heap H) v (.d (.str x))) : s.TypeIs v "str" ∧ ∀ a, v = .ref a → ∃ ob, s.heap.get? a = some ob ∧ ob.dict = none := by
  obtain ⟨t, rfl⟩ := v_str hv
  exact ⟨typeIs_str _ _ _, fun a e => nomatch e⟩
theorem up_eq {x y : Str} (h : up x = some y) : x.length ≤ 5592405 ∧ y = Txt.upper x := by
  obtain ⟨hc, h⟩ := gd_val h
  refine ⟨Nat.le_trans (Nat.le_of_lt hc.2) (by decide), ?_⟩
  rw [upper_ascii fun c hm => by have := List.all_eq_true.mp hc.1 c hm; simpa using this, ← h]
  congr 1
  rw [← Array.toList_inj]
  simp [upC, up1]
theorem lo_eq {x y : Str} (h : lo x = some y) : x.length ≤ 5592405 ∧ y = Txt.lower x := by
  obtain ⟨hc, h⟩ := gd_val h
  refine ⟨Nat.le_trans (Nat.le_of_lt hc.2) (by decide), ?_⟩
  rw [lower_ascii fun c hm => by have := List.all_eq_true.mp hc.1 c hm; simpa using this, ← h]
  congr 1
  rw [← Array.toList_inj]
  simp [loC, lo1]
theorem d_upper {I : Info} {v : Value} {p : PV} {r : Res} (S : Γ.St μ H σ s) (hv : VR μ (gr s.heap H) v p) (e : callMt I .upper p [] σ = some (r, σ')) : Does Γ A (call (.builtin "str.upper") [v]) μ H s (RR s.heap r) σ' ∧ ∃ x, p = .d (.str x) := by
  obtain ⟨_, e1⟩ := gd_some e
  obtain ⟨x, hp, e2⟩ := bn_some e1
  obtain ⟨y, hy, e3⟩ := mp_some e2
  rw [txtP_some hp] at hv
  obtain ⟨h1, h2⟩ := up_eq hy
  obtain ⟨t, ev⟩ := v_str hv
  cases e3
  rw [ev, h2]
  exact ⟨SCL.upper h1 fun _ => Post.now S (R := RR s.heap (.val (.d (.str (Txt.upper x))))) (vr_str _ _ _) _, x, txtP_some hp⟩
theorem d_lower {I : Info} {v : Value} {p : PV} {r : Res} (S : Γ.St μ H σ s) (hv : VR μ (gr s.heap H) v p) (e : callMt I .lower p [] σ = some (r, σ')) : Does Γ A (call (.builtin "str.lower") [v]) μ H s (RR s.heap r) σ' ∧ ∃ x, p = .d (.str x) := by
  obtain ⟨_, e1⟩ := gd_some e
  obtain ⟨x, hp, e2⟩ := bn_some e1
  obtain ⟨y, hy, e3⟩ := mp_some e2
  rw [txtP_some hp] at hv
  obtain ⟨h1, h2⟩ := lo_eq hy
  obtain ⟨t, ev⟩ := v_str hv
  cases e3
  rw [ev, h2]
  exact ⟨SCL.lower h1 fun _ => Post.now S (R := RR s.heap (.val (.d (.str (Txt.lower x))))) (vr_str _ _ _) _, x, txtP_some hp⟩
theorem strs_are {g : Heap} {vs : List Value} {xs : List PyData} {l : List Str} (h : VRs μ g vs (xs.map .d)) (e : strsOf xs = some l) : ∃ k : List (Str × Tok), vs = strValues k ∧ k.map (·.1) = l := by
  induction xs generalizing vs l with
  | nil => cases h; cases e; exact ⟨[], rfl, rfl⟩
  | cons x xs ih => cases h with
    | cons h r => cases x with
      | str x =>
        obtain ⟨l', h1, e1⟩ := mp_some e
        obtain ⟨t, e2⟩ := v_str h
        obtain ⟨k, e3, e4⟩ := ih r h1
        exact ⟨(x, t) :: k, by rw [e2, e3]; rfl, by rw [← e1, ← e4]; rfl⟩
      | _ => exact (ns e).elim
theorem d_join {I : Info} {v w : Value} {p q : PV} {r : Res} (S : Γ.St μ H σ s) (hv : VR μ (gr s.heap H) v p) (hw : VR μ (gr s.heap H) w q) (e : callMt I .join p [q] σ = some (r, σ')) : Does Γ A (call (.builtin "str.join") [v, w]) μ H s (RR s.heap r) σ' ∧ ∃ x, p = .d (.str x) := by
  obtain ⟨x, hp, e1⟩ := bn_some e
  obtain ⟨d, hd, e2⟩ := bn_some e1
  obtain ⟨xs, hx, e3⟩ := bn_some e2
  obtain ⟨l, hl, e4⟩ := bn_some e3
  obtain ⟨hj, e5⟩ := gd_val e4
  rw [txtP_some hp] at hv
  rw [lstOf_some hx] at hd
  obtain ⟨t, ev⟩ := v_str hv
  obtain ⟨a, vs, ew, h1, h2⟩ := vis_view S hw hd
  obtain ⟨k, hk, hkl⟩ := strs_are h2 hl
  have h3 : s.heap.IsList a (strValues k).toArray := by rw [← hk]; exact h1
  cases e5
  rw [ev, ew, ← hkl]
  exact ⟨SC.join h3 rfl (hkl ▸ hj) fun t' tk => Post.now S (R := RR s.heap (.val (.d (.str (Txt.join x (k.map (·.1))))))) (vr_str _ _ _) _, x, txtP_some hp⟩
end
end Mine
end
section
namespace Mine
open PySem PySem.W PySem.Calls PyProof.Rows
section
variable {Γ : Cx} {A : Around} {env : Env} {ρ ρ' : En} {σ σ₁ σ₂ σ₃ σ₄ σ' : Hp} {μ : List Addr} {H : Addr → Prop} {s : Shared} {n : Nat} {O : Orc} {F : Addr → Prop} {D : Addr}
theorem list_type {v : Value} {l : Nat} {xs : List PV} (S : Γ.St μ H σ s) (hv : VR μ (gr s.heap H) v (.loc l)) (hl : σ[l]? = some (.lst xs)) : s.TypeIs v "list" ∧ ∀ a, v = .ref a → ∃ ob, s.heap.get? a = some ob ∧ ob.dict = none := by
  obtain ⟨a, ha, rfl⟩ := v_loc hv
  obtain ⟨vs, n, h1, h2⟩ := S.objs l a _ ha hl
  exact ⟨⟨_, h1, rfl⟩, fun b e => by cases e; exact ⟨_, h1, rfl⟩⟩
theorem extend_any (l b : Addr) (hlb : l ≠ b) (items items2 : Array Value) (n n2 : Nat) (d2 : Option Addr) (sl2 : Array (Option Value)) (hz : items.size + items2.size < 1000000) :
    Meets (Builtin.«list.extend» ⟨[.ref l, .ref b], []⟩) (fun _ R s => s.heap.get? l = some { cls := .type "list", data := .seq items n } ∧ s.heap.get? b = some { cls := .type "list", dict := d2, data := .seq items2 n2, slots := sl2 } ∧
      R (.ok (.ret Value.none)) { s with heap := s.heap.update l (Obj.mapSeq (· ++ items2)) }) :=
  .of_wp fun prog w A R s h => by
    obtain ⟨hp, g, d, tk, os⟩ := s
    obtain ⟨hl, hb, h⟩ := h
    have e : sizeLine = 16777216 := rfl
    have hz' : (items ++ items2).size ≤ sizeLine + 1 := by rw [Array.size_append]; (first | lia | omega)
    wp_walk using AutoSeq1.wpAny_loadPart' hl, AutoSeq1.wpAny_loadPart' hb
    have htl : Builtin.List.listTooLong (items.size + items2.size) = false := by
      show decide (items.size + items2.size > sizeLine) = false
      simp; (first | lia | omega)
    rw [htl]
    simp only [Bool.and_false, Bool.false_eq_true, if_false]
    refine wpAny_bind (wpAny_updateSeq hl rfl ?_ (by (first | lia | omega)) hz')
    exact wpAny_pure ⟨_, rfl, h⟩
theorem size_lt {m : Nat} (h : m < 1000) : m ≤ sizeLine := by
  have e : sizeLine = 16777216 := rfl
  (first | lia | omega)
theorem d_append {I : Info} {v w : Value} {p q : PV} {r : Res} (S : Γ.St μ H σ s) (hv : VR μ (gr s.heap H) v p) (hw : VR μ (gr s.heap H) w q) (e : callMt I .append p [q] σ = some (r, σ')) :
    Does Γ A (call (.builtin "list.append") [v, w]) μ H s (RR s.heap r) σ' := by
  obtain ⟨l, hp, e1⟩ := bn_some e
  obtain ⟨xs, hl, e2⟩ := bn_some e1
  obtain ⟨hlen, e3⟩ := gd_val e2
  rw [locP_some hp] at hv
  obtain ⟨a, ha, ev⟩ := v_loc hv
  obtain ⟨vs, n, h1, h2⟩ := S.objs l a _ ha (lstAt_some hl)
  have h3 : vs.size = xs.length := vrs_len h2
  cases e3
  rw [ev]
  refine append_at h1 (fun h' hs hd => ?_) (size_lt (h3 ▸ hlen))
  have z := S.put (s' := { s with heap := h' }) ha (lstAt_some hl) (by simp) (same_there (o := default) hs) ⟨_, hd⟩ rfl rfl (o' := .lst (xs ++ [q]))
    fun g hg => ⟨_, n + 1, hd, by rw [Array.toList_push]; exact vrs_append (h2.mono ⟨[], by simp⟩ hg) (.cons (hw.mono ⟨[], by simp⟩ hg) .nil)⟩
  exact ⟨_, _, z.2, z.1, vr_none _⟩
theorem d_extend {I : Info} {v w : Value} {p q : PV} {r : Res} (S : Γ.St μ H σ s) (hv : VR μ (gr s.heap H) v p) (hw : VR μ (gr s.heap H) w q) (e : callMt I .extend p [q] σ = some (r, σ')) :
    Does Γ A (call (.builtin "list.extend") [v, w]) μ H s (RR s.heap r) σ' := by
  obtain ⟨l, hp, e1⟩ := bn_some e
  obtain ⟨ys, hq, e2⟩ := bn_some e1
  obtain ⟨xs, hl, e3⟩ := bn_some e2
  obtain ⟨hlen, e4⟩ := gd_val e3
  rw [locP_some hp] at hv
  rw [lstD_some hq] at hw
  obtain ⟨a, ha, ev⟩ := v_loc hv
  obtain ⟨vs, n, h1, h2⟩ := S.objs l a _ ha (lstAt_some hl)
  obtain ⟨b, o, ws, m, as, ew, g1, g2, g3, g4⟩ := reads_list (v_d hw).choose_spec
  have hHa := S.hid l a _ ha (lstAt_some hl) (by simp)
  obtain ⟨f1, f2⟩ := only_get.mp g1
  have hne : a ≠ b := fun q => f2 (q ▸ hHa)
  have l1 : vs.size = xs.length := vrs_len h2
  have l2 : ws.size = ys.length := (vrs_len (readsAll_vrs (μ := μ) g4)).trans (List.length_map _)
  obtain ⟨oc, od, odt, osl⟩ := o
  dsimp only at g2 g3
  cases e4
  clear e e1 e2 e3
  subst g2 g3 ev ew
  obtain ⟨k, hk⟩ : ∃ k, (s.heap.update a (Obj.mapSeq (· ++ ws))).get? a = some { cls := .type "list", data := .seq (vs ++ ws) k } := ⟨_, Heap.get?_update_self _ h1 rfl⟩
  have z := S.put (s' := { s with heap := s.heap.update a (Obj.mapSeq (· ++ ws)) }) ha (lstAt_some hl) (by simp) (fun b o hb e => (Heap.get?_update_other _ _ (Ne.symm hb)).trans e) ⟨_, hk⟩ rfl rfl (o' := .lst (xs ++ ys.map .d))
    fun g hg => ⟨_, k, hk, by rw [Array.toList_append]; exact vrs_append (h2.mono ⟨[], by simp⟩ hg) (VRs.mono (μ := μ) (readsAll_vrs g4) ⟨[], by simp⟩ hg)⟩
  refine call_meets PySem.F.slot_list_extend ⟨_, h1, rfl⟩ PySem.F.entry_list_extend (PySem.F.args_list_extend_2 _ _) (extend_any a b hne vs ws n m od osl (by (first | lia | omega))) ⟨h1, f1, ?_⟩
  exact ⟨_, _, z.2, z.1, vr_none _⟩
theorem findD_spec (x : PyData) : ∀ (ds : List PyData) (k : Nat) {i : Nat}, findD x ds k = some i → ∃ j, i = k + j ∧ ∃ h : j < ds.length, PyData.eqv ds[j] x = true ∧ ∀ m (hm : m < ds.length), m < j → PyData.eqv ds[m] x = false
  | [], _, _, h => by cases h
  | y :: r, k, i, h => by
    rw [findD_c] at h
    split at h
    · rename_i hy
      cases h
      exact ⟨0, rfl, by simp, hy, fun m _ hm => absurd hm (Nat.not_lt_zero _)⟩
    · rename_i hy
      obtain ⟨j, rfl, hj, h1, h2⟩ := findD_spec x r (k + 1) h
      refine ⟨j + 1, by (first | lia | omega), by simp; (first | lia | omega), by simpa using h1, fun m hm hlt => ?_⟩
      cases m with
      | zero => simpa using hy
      | succ m => simpa using h2 m (by simpa using hm) (by (first | lia | omega))
theorem readsAll_get {h : Heap} {vs : List Value} {ds : List PyData} {as : List Addr} (r : ReadsAll h vs ds as) : ∀ (j : Nat) (h1 : j < vs.length) (h2 : j < ds.length), ∃ as, Reads h vs[j] ds[j] as := by
  intro j
  induction j generalizing vs ds as with
  | zero =>
    intro h1 h2
    cases r with
    | nil => simp at h1
    | cons a b => exact ⟨_, a⟩
  | succ j ih =>
    intro h1 h2
    cases r with
    | nil => simp at h1
    | cons a b => exact ih b (by simpa using h1) (by simpa using h2)
theorem readsAll_len {h : Heap} {vs : List Value} {ds : List PyData} {as : List Addr} (r : ReadsAll h vs ds as) : vs.length = ds.length := by
  have := vrs_len (readsAll_vrs (μ := []) r)
  simpa using this
theorem shaped_list {xs : List PyData} (h : sh (.list xs) = true) : ∀ x ∈ xs, sh x = true := by
  intro x hx
  unfold sh SeqAt.shaped at *
  simp only [Bool.and_eq_true, decide_eq_true_eq] at h ⊢
  refine ⟨?_, ?_⟩
  · have h1 : PyData.canLayAll0 xs = true := h.1
    clear h
    induction xs with
    | nil => cases hx
    | cons y r ih =>
      simp only [PyData.canLayAll0, Bool.and_eq_true] at h1
      rcases List.mem_cons.mp hx with rfl | hx
      · exact h1.1
      · exact ih hx h1.2
  · have h2 : PyData.depthAll xs + 1 ≤ 64 := h.2
    clear h
    have : x.depth ≤ PyData.depthAll xs := by
      clear h2
      induction xs with
      | nil => cases hx
      | cons y r ih =>
        simp only [PyData.depthAll]
        rcases List.mem_cons.mp hx with rfl | hx
        · exact Nat.le_max_left _ _
        · exact Nat.le_trans (ih hx) (Nat.le_max_right _ _)
    (first | lia | omega)
open Classical in
theorem d_indexL {n : Nat} {v w : Value} {p : PV} {x : PyData} {xs : List PyData} {i : Nat} (R : Room n A) (S : Γ.St μ H σ s) (hv : VR μ (gr s.heap H) v p) (hw : VR μ (gr s.heap H) w (.d x)) (e : view σ p = some (.list xs))
    (h1 : sh x = true) (h2 : sh (.list xs) = true) (hlen : xs.length < 1000) (hf : findD x xs 0 = some i) : Does Γ A (call (.builtin "list.index") [v, w]) μ H s (RR s.heap (.val (.d (.int i)))) σ := by
  obtain ⟨as, r⟩ := view_reads S hv e
  obtain ⟨a, ⟨oc, od, odt, osl⟩, vs, m, bs, rfl, g1, g2, g3, g4⟩ := reads_list r
  dsimp only at g2 g3
  subst g2 g3
  obtain ⟨cs, rx⟩ := v_d hw
  have rx := Reads.up rx
  obtain ⟨j, rfl, hj, q1, q2⟩ := findD_spec x xs 0 hf
  have hl := readsAll_len g4
  have hjs : j < vs.size := by simp at hl; (first | lia | omega)
  have key : ∀ k (hk : k < vs.size) (hk2 : k < xs.length), (if ∃ d as, Reads s.heap vs[k] d as ∧ PyData.eqv d x = true then true else false) = PyData.eqv xs[k] x := by
    intro k hk hk2
    obtain ⟨as, rk⟩ := readsAll_get g4 k (by simpa using hk) hk2
    have rk' : Reads s.heap vs[k] xs[k] as := by simpa using rk
    cases he : PyData.eqv xs[k] x with
    | true => rw [if_pos ⟨_, _, rk', he⟩]
    | false =>
      rw [if_neg]
      rintro ⟨d, as', rd, hd⟩
      have := (reads_det (fun _ _ e _ => e) rk' rd).1
      subst this
      rw [he] at hd; cases hd
  refine call_meets PySem.F.slot_list_index ⟨_, g1, rfl⟩ PySem.F.entry_list_index (PySem.F.args_list_index_2 _ _)
    (SeqAt.list_indexAt a vs m od osl w (fun y => if ∃ d as, Reads s.heap y d as ∧ PyData.eqv d x = true then true else false) j hjs (by (first | lia | omega)) ?_ fun k hk hkj => ?_) ⟨g1, fun y hy => ?_, ?_⟩
  · exact (key j hjs hj).trans q1
  · have hk2 : k < xs.length := by simp at hl; (first | lia | omega)
    exact (key k hk hk2).trans (q2 k hk2 hkj)
  · obtain ⟨k, hk, rfl⟩ := Array.mem_iff_getElem.mp hy
    have hk2 : k < xs.length := by simp at hl; (first | lia | omega)
    rw [key k hk hk2]
    obtain ⟨as, rk⟩ := readsAll_get g4 k (by simpa using hk) hk2
    have hs := shaped_list h2 xs[k] (List.getElem_mem hk2)
    exact SeqAt.eqAt_reads _ _ _ _ _ _ _ _ (by simpa using rk) rx (SeqAt.canLay_of_shaped hs) (SeqAt.canLay_of_shaped h1) (SeqAt.room_of_shaped (A := A.in1) hs (by
      have := R.units
      have e : cLine = 9900 := rfl
      show A.units + 1 + 64 < cLine
      (first | lia | omega)))
  · rw [Nat.zero_add]
    exact Post.now S (R := RR s.heap (.val (.d (.int j)))) (vr_int _ _ _) _
theorem d_indexS {v w : Value} {x y : Str} {i : Nat} {rest : List Nat} (S : Γ.St μ H σ s) (hv : VR μ (gr s.heap H) v (.d (.str x))) (hw : VR μ (gr s.heap H) w (.d (.str y))) (e : Builtin.Str.occurrences x y 0 x.length 1 = i :: rest) :
    Does Γ A (call (.builtin "str.index") [v, w]) μ H s (RR s.heap (.val (.d (.int i)))) σ := by
  obtain ⟨t, rfl⟩ := v_str hv
  obtain ⟨u, rfl⟩ := v_str hw
  exact SC.index e (Post.now S (R := RR s.heap (.val (.d (.int i)))) (vr_int _ _ _) _)
end
end Mine
end
section
namespace Mine
open PySem PySem.W PySem.Calls PyProof.Rows
theorem plainAttrs_pat : PlainAttrs "re.Pattern" :=
  ⟨⟨"object.__getattribute__", by rw [typeLookup_type, builtinLookup_eq_fast]; kernel_rfl, by decide +kernel⟩, by rw [typeLookup_type, builtinLookup_eq_fast]; kernel_rfl⟩
theorem slot_pat_search : Slot "re.Pattern" "search" "re.Pattern.search" :=
  .of (owner := "re.Pattern") (n := "search") (by rw [typeLookup_type, builtinLookup_eq_fast]; kernel_rfl) (by decide +kernel) (by decide +kernel) (by decide +kernel)
    (by first | exact .inl (by decide +kernel) | exact .inr (by decide +kernel)) (by rw [isSubtype_type]; kernel_rfl)
theorem type_pat_search : typeOf (.builtin "re.Pattern.search") = pure (.type "method_descriptor") := by show builtinType _ = _; rw [builtinType_eq_fast]; kernel_rfl
theorem entry_pat_search : entryFor table "re.Pattern.search" = some Builtin.«re.Pattern.search» := entryFor_of_fast (by kernel_rfl)
theorem args_pat_search (a b : Value) : argsOk "re.Pattern.search" ⟨[a, b], []⟩ := by
  unfold argsOk; kernel_rfl
theorem wp_for_unit {M : Model} {A : Around} {E : Value → Shared → Prop} {α : Type} {body : α → PUnit → Sem (ForInStep PUnit)} {Q : PUnit → Shared → Prop}
    (hb : ∀ i s (R : ForInStep PUnit → Shared → Prop), R (.yield ⟨⟩) s → wpAny M A (body i ⟨⟩) R E s) : ∀ (l : List α) (s : Shared), Q ⟨⟩ s → wpAny M A (forIn l (⟨⟩ : PUnit) body) Q E s
  | [], s, h => by rw [List.forIn_nil]; exact wpAny_pure h
  | i :: l, s, h => by
    rw [List.forIn_cons]
    exact wpAny_bind (hb i s _ (wp_for_unit hb l s h))
theorem wp_drive {M : Model} {A : Around} {E : Value → Shared → Prop} {Q : Sre.M → Shared → Prop} {s : Shared} {m' : Sre.M} (h : Q m' s) : ∀ (f : Nat) (m : Sre.M) (n : Nat), f ≤ n → reP f m = some m' → wpAny M A (Builtin.Re.reDrive n m) Q E s
  | 0, _, _, _, e => by cases e
  | f + 1, m, 0, hn, _ => by (first | lia | omega)
  | f + 1, m, n + 1, hn, e => by
    rw [reP_c] at e
    show wpAny M A (if (m.runFor 4).outcome.isSome = true then pure (m.runFor 4) else _) Q E s
    split at e
    · rename_i hc
      cases e
      rw [if_pos hc]
      exact wpAny_pure h
    · rename_i hc
      rw [if_neg hc]
      exact wpAny_bind (wpAny_rule (wp_drive h f _ n (by (first | lia | omega)) e))
theorem pat_search (a c : Addr) (p fl gi ig : Value) (x : Str) (t : Tok) (code : Array Nat) (n : Nat) (hf : searchFails code x.cps.toList = true) (hsz : x.cps.size < 1000) :
    Meets (Builtin.«re.Pattern.search» ⟨[.ref a, .str x t], []⟩) (fun _ R s => s.heap.get? a = some { cls := .type "re.Pattern", data := .fields #[p, fl, .int 0 0, gi, ig, .ref c, .int 0 0] } ∧
      s.heap.get? c = some { cls := .type "tuple", data := .seq (code.map fun (w : Nat) => Value.int (w : Int) 0) n } ∧ R (.ok (.ret Value.none)) s) :=
  .of_wp fun prog w A R s h => by
    obtain ⟨hp, g, d, tk, os⟩ := s
    obtain ⟨ha, hc, h⟩ := h
    have hcode : Array.map (fun x : Int => x.toNat) ((code.map fun (w : Nat) => Value.int (w : Int) 0).map Builtin.Re.reRawOf) = code := by
      rw [Array.map_map, Array.map_map]
      conv => rhs; rw [← Array.map_id code]
      congr 1
    have hlim : min (2 ^ 63 - 1 : Int).toNat x.cps.size = x.cps.size := by
      apply Nat.min_eq_right
      have : (2 ^ 63 - 1 : Int).toNat = 9223372036854775807 := by decide
      (first | lia | omega)
    have hT : ∀ (E : Value → Shared → Prop) (Q : Builtin.Re.ReTarget → Shared → Prop), Q { pattern := .ref a, string := .str x t, code := code, text := x.cps, kind := 0, groups := 0, pos := 0, lim := x.cps.size } { heap := hp, gens := g, drawn := d, toks := tk, os := os } →
        wpAny (model prog w) A.in1 (Builtin.Re.reTarget "re.Pattern.search" "search" ⟨[.ref a, .str x t], []⟩) Q E { heap := hp, gens := g, drawn := d, toks := tk, os := os } := by
      intro E Q hq
      unfold Builtin.Re.reTarget
      dsimp only
      refine wpAny_bind (wpAny_of_eq (show Builtin.Re.reNamed "re.Pattern.search" "search" ["string", "pos", "endpos"] 1 [.str x t] [] = pure [some (.str x t), none, none] from rfl) ?_)
      dsimp only
      refine wpAny_bind (wpAny_pure (wpAny_bind (wpAny_pure ?_)))
      wp_walk using AutoSeq1.wpAny_loadPart' ha, AutoSeq1.wpAny_loadPart' hc
      have e : ({ pattern := .ref a, string := .str x t, code := Array.map (fun x : Int => x.toNat) (Array.map Builtin.Re.reRawOf ((some (Array.map (fun (w : Nat) => Value.int (w : Int) 0) code)).getD #[])), text := x.cps, kind := 0, groups := 0, pos := 0, lim := min (2 ^ 63 - 1 : Int).toNat x.cps.size } : Builtin.Re.ReTarget) =
          { pattern := .ref a, string := .str x t, code := code, text := x.cps, kind := 0, groups := 0, pos := 0, lim := x.cps.size } := by
        rw [hlim, show (some (Array.map (fun (w : Nat) => Value.int (w : Int) 0) code)).getD #[] = Array.map (fun (w : Nat) => Value.int (w : Int) 0) code from rfl, hcode]
      rw [← e] at hq
      exact hq
    unfold Builtin.«re.Pattern.search»
    refine wpAny_bind (hT _ _ ?_)
    unfold Builtin.Re.reAnswer Builtin.Re.reRunToEnd
    dsimp only
    unfold searchFails at hf
    cases hr : reP 100 (Sre.forSearch code x.cps.toList.toArray 0 0 x.cps.toList.length false) with
    | none => rw [hr] at hf; cases hf
    | some m =>
      rw [hr] at hf
      have ho : m.outcome = some .failed := by
        dsimp only at hf
        split at hf
        · rename_i h; exact h
        · cases hf
      have hr' : reP 100 (Sre.forSearch code x.cps 0 0 x.cps.size false) = some m := by simpa using hr
      refine wpAny_bind (wpAny_bind (wp_drive ?_ 100 _ _ (by decide) hr'))
      refine wpAny_bind (wp_for_unit (fun i s R hR => ?_) _ _ ?_)
      · split
        · exact wpAny_bind (wpAny_rule (wpAny_pure hR))
        · exact wpAny_pure hR
      · rw [ho]
        exact wpAny_pure (wpAny_pure ⟨_, rfl, h⟩)
section
variable {Γ : Cx} {A : Around} {env : Env} {ρ ρ' : En} {σ σ₁ σ₂ σ₃ σ₄ σ' : Hp} {μ : List Addr} {H : Addr → Prop} {s : Shared} {n : Nat} {O : Orc} {F : Addr → Prop} {D : Addr}
theorem PatOk.base {a : Addr} {code : Array Nat} (S : Γ.St μ H σ s) (h : PatOk Γ.B a code) : PatOk s.heap a code :=
  let ⟨p, fl, gi, ig, c, n, h1, h2⟩ := h
  ⟨p, fl, gi, ig, c, n, St.base S _ _ h1, St.base S _ _ h2⟩
theorem pat_type {a : Addr} {code : Array Nat} {v : Value} (S : Γ.St μ H σ s) (hP : PatOk Γ.B a code) (hv : VR μ (gr s.heap H) v (.gl a)) : s.TypeIs v "re.Pattern" ∧ ∀ b, v = .ref b → ∃ ob, s.heap.get? b = some ob ∧ ob.dict = none := by
  have := v_gl hv
  subst this
  obtain ⟨p, fl, gi, ig, c, n, h1, h2⟩ := hP.base S
  exact ⟨⟨_, h1, rfl⟩, fun b e => by cases e; exact ⟨_, h1, rfl⟩⟩
theorem d_search {a : Addr} {code : Array Nat} {v w : Value} {x : Str} (S : Γ.St μ H σ s) (hP : PatOk Γ.B a code) (hv : VR μ (gr s.heap H) v (.gl a)) (hw : VR μ (gr s.heap H) w (.d (.str x))) (hf : searchFails code x.cps.toList = true) (hsz : x.cps.size < 1000) :
    Does Γ A (call (.builtin "re.Pattern.search") [v, w]) μ H s (RR s.heap (.val (.d .none))) σ := by
  have := v_gl hv
  subst this
  obtain ⟨t, rfl⟩ := v_str hw
  obtain ⟨p, fl, gi, ig, c, n, h1, h2⟩ := hP.base S
  exact call_meets slot_pat_search ⟨_, h1, rfl⟩ entry_pat_search (args_pat_search _ _) (pat_search a c p fl gi ig x t code n hf hsz) ⟨h1, h2, Post.now S (R := RR s.heap (.val (.d .none))) (vr_none _) s.toks⟩
end
end Mine
end
section
namespace Mine
open PySem PySem.W PySem.Calls PyProof.Rows
noncomputable abbrev Sc := List (Str × NameKind)
noncomputable def nameOk (id : Str) : Bool := !(id == ("__debug__" : Str)) && !(id == ("__classdict__" : Str))
noncomputable def isLoc (sc : Sc) (id : Str) : Bool := decide (sc.lookup id = some .local) || decide (sc.lookup id = some .cell) || decide (sc.lookup id = some .free)
noncomputable def isOwn (sc : Sc) (id : Str) : Bool := decide (sc.lookup id = some .local) || decide (sc.lookup id = some .cell)
noncomputable def isGlob (sc : Sc) (id : Str) : Bool := decide (sc.lookup id = some .globalImplicit)
noncomputable def plain : Expr → Bool
  | .Starred .. => false
  | _ => true
noncomputable def noSlice : Expr → Bool
  | .Slice .. => false
  | _ => true
noncomputable def baseOk : Expr → Bool
  | .Call _ [] _ _ => false
  | _ => true
noncomputable def setOk : Expr → Bool
  | .Set .. => false
  | _ => true
noncomputable def btName (C : Ck) (sc : Sc) (id : Str) : Bool := isGlob sc id && (C.bl.contains id && nameOk id)
noncomputable def biName : Bi → Str
  | .len => "len"
  | .min2 => "min"
  | .min1 => "min"
  | .max1 => "max"
  | .sorted => "sorted"
  | .sortedset => "sorted"
  | .typ => "type"
  | .strOf => "str"
  | .listzip => "list"
  | .listrange => "list"
noncomputable def biInner : Bi → Option Str
  | .sortedset => some "set"
  | .listzip => some "zip"
  | .listrange => some "range"
  | _ => none
noncomputable def mtName (I : Info) : Mt → Str
  | .upper => "upper"
  | .lower => "lower"
  | .join => "join"
  | .index => "index"
  | .append => "append"
  | .extend => "extend"
  | .remove => "remove"
  | .search => "search"
  | .own x => nm I x
noncomputable def scopeOkB (I : Info) (sc : Sc) (scope : Scope) (tg : List Nat) : Bool :=
  decide (scope.kind = .function) && decide ((scope.names.map (·.1)).Nodup) &&
    scope.names.all (fun nk => match nk.2 with
      | .local => tg.any (fun x => decide (nk.1 = nm I x)) || decide (nk.1 = (".0" : Str))
      | .cell => tg.any (fun x => decide (nk.1 = nm I x)) || decide (nk.1 = (".0" : Str))
      | .free => decide (sc.lookup nk.1 = some .cell) || decide (sc.lookup nk.1 = some .free)
      | _ => true) &&
    tg.all fun x => decide (x < I.N.length) && isOwn scope.names (nm I x)
noncomputable def kwN : Option Nat → Nat
  | none => 0
  | some _ => 1
noncomputable def kwOk (C : Ck) (x na : Nat) (kw : Option Nat) : Bool := C.I.cls.all fun c => match lk x c.2.meths with
  | none => true
  | some f => (C.forms f).contains (na, kwN kw) && (match kw with
    | none => true
    | some k => decide (((C.par f).drop na).take 1 = [k]))
inductive Nd where
  | e (x : Expr)
  | s (x : Stmt)
  | b (l : List Stmt)
  | c (x : Comprehension)
  | k (x : Keyword)
noncomputable def kids : Nd → List Nd
  | .e x => match x with
    | .BoolOp _ vs _ => vs.map .e
    | .BinOp l _ r _ => [.e l, .e r]
    | .UnaryOp _ x _ => [.e x]
    | .IfExp t b o _ => [.e t, .e b, .e o]
    | .ListComp elt gens _ _ => .e elt :: gens.map .c
    | .DictComp k v gens _ _ => .e k :: .e v :: gens.map .c
    | .Compare l _ rs _ => .e l :: rs.map .e
    | .Call f xs ks _ => .e f :: (xs.map .e ++ ks.map .k)
    | .Attribute v _ _ => [.e v]
    | .Subscript v s _ => [.e v, .e s]
    | .List xs _ => xs.map .e
    | .Tuple xs _ _ => xs.map .e
    | .Slice l h _ _ => [.e (l.getD default), .e (h.getD default)]
    | _ => []
  | .c g => .e g.target :: .e g.iter :: g.ifs.map .e
  | .k w => [.e w.value]
  | .b l => l.map .s
  | .s st => match st with
    | .Assign ts v _ => .e v :: ts.map .e
    | .AugAssign t _ v _ => [.e v, .e t]
    | .Expr v _ => [.e v]
    | .If c b o _ => [.e c, .b b, .b o]
    | .While c b _ _ => [.e c, .b b]
    | .For t i b _ _ => [.e t, .e i, .b b]
    | .Return (some v) _ => [.e v]
    | .Delete ts _ => ts.map .e
    | _ => []
noncomputable def nav : Nd → List Nat → Nd
  | n, [] => n
  | n, i :: p => nav ((kids n).getD i (.b [])) p
noncomputable abbrev Px := List Nat → Nd
noncomputable def Px.at (P : Px) (i : Nat) : Px := fun l => P (i :: l)
noncomputable def Px.pos (P : Px) : Pos := match P [] with
  | .e x => x.pos
  | .k x => x.pos
  | .s (.Assign _ _ p) => p
  | .s (.AugAssign _ _ _ p) => p
  | .s (.Expr _ p) => p
  | .s (.If _ _ _ p) => p
  | .s (.While _ _ _ p) => p
  | .s (.For _ _ _ _ p) => p
  | .s (.Return _ p) => p
  | .s (.Delete _ p) => p
  | .s (.Break p) => p
  | _ => default
noncomputable def Px.n (P : Px) : Nat := match P [] with
  | .e (.Constant _ k _) => k
  | .e (.Tuple _ k _) => k
  | _ => 0
noncomputable def Px.sc (P : Px) : Scope := match P [] with
  | .e (.ListComp _ _ s _) => s
  | .e (.DictComp _ _ _ s _) => s
  | _ => default
noncomputable def Px.st (P : Px) : Stmt := match P [] with
  | .s x => x
  | _ => default
noncomputable def trT (I : Info) : Tgt → Px → Expr
  | .one x, P => .Name (nm I x) P.pos
  | .two x y, P => .Tuple [.Name (nm I x) (P.at 0).pos, .Name (nm I y) (P.at 1).pos] P.n P.pos
mutual
noncomputable def tr (C : Ck) : Ex → Px → Expr
  | .int i, P => .Constant (.int i) P.n P.pos
  | .str s, P => .Constant (.str s) P.n P.pos
  | .non, P => .Constant .none P.n P.pos
  | .bool b, P => .Constant (.bool b) P.n P.pos
  | .dbg, P => .Name "__debug__" P.pos
  | .var x, P => .Name (nm C.I x) P.pos
  | .gl x, P => .Name (nm C.I x) P.pos
  | .bin op a b, P => .BinOp (tr C a (P.at 0)) op (tr C b (P.at 1)) P.pos
  | .rep es i, P => .BinOp (.List (trs C es 0 (P.at 0)) (P.at 0).pos) .Mult (.Constant (.int i) (P.at 1).n (P.at 1).pos) P.pos
  | .usub a, P => .UnaryOp .USub (tr C a (P.at 0)) P.pos
  | .not a, P => .UnaryOp .Not (tr C a (P.at 0)) P.pos
  | .and a b, P => .BoolOp .And [tr C a (P.at 0), tr C b (P.at 1)] P.pos
  | .and3 a b c, P => .BoolOp .And [tr C a (P.at 0), tr C b (P.at 1), tr C c (P.at 2)] P.pos
  | .or a b, P => .BoolOp .Or [tr C a (P.at 0), tr C b (P.at 1)] P.pos
  | .cmp op a b, P => .Compare (tr C a (P.at 0)) [op] [tr C b (P.at 1)] P.pos
  | .ite c a b, P => .IfExp (tr C c (P.at 0)) (tr C a (P.at 1)) (tr C b (P.at 2)) P.pos
  | .tup es, P => .Tuple (trs C es 0 P) P.n P.pos
  | .lst es, P => .List (trs C es 0 P) P.pos
  | .edct, P => .Dict [] [] P.pos
  | .idx a i, P => .Subscript (tr C a (P.at 0)) (tr C i (P.at 1)) P.pos
  | .slc a lo hi, P => .Subscript (tr C a (P.at 0)) (.Slice (tro C lo ((P.at 1).at 0)) (tro C hi ((P.at 1).at 1)) none (P.at 1).pos) P.pos
  | .attr a x, P => .Attribute (tr C a (P.at 0)) (nm C.I x) P.pos
  | .call f es, P => .Call (.Name (C.fname f) (P.at 0).pos) (trs C es 1 P) [] P.pos
  | .bi b es, P => .Call (.Name (biName b) (P.at 0).pos) (match biInner b with
      | none => trs C es 1 P
      | some j => [.Call (.Name j ((P.at 1).at 0).pos) (trs C es 1 (P.at 1)) [] (P.at 1).pos]) [] P.pos
  | .new c es, P => .Call (.Name (nm C.I c) (P.at 0).pos) (trs C es 1 P) [] P.pos
  | .meth a m es kw, P => .Call (.Attribute (tr C a ((P.at 0).at 0)) (mtName C.I m) (P.at 0).pos) (trs C es 1 P) (trk C kw (1 + es.length) P) P.pos
  | .comp c, P => .ListComp (trE C c P) (trG C c 1 P) P.sc P.pos
  | .dcomp t it k v, P => .DictComp (tr C k (P.at 0)) (tr C v (P.at 1)) [⟨trT C.I t ((P.at 2).at 0), trI C it ((P.at 2).at 1), [], 0⟩] P.sc P.pos
  | .mut a, P => tr C a P
termination_by structural x => x
noncomputable def trs (C : Ck) : List Ex → Nat → Px → List Expr
  | [], _, _ => []
  | x :: r, i, P => tr C x (P.at i) :: trs C r (i + 1) P
noncomputable def tro (C : Ck) : Option Ex → Px → Option Expr
  | none, _ => none
  | some x, P => some (tr C x P)
noncomputable def trk (C : Ck) : Option (Nat × Ex) → Nat → Px → List Keyword
  | none, _, _ => []
  | some (n, x), i, P => [⟨some (nm C.I n), tr C x ((P.at i).at 0), (P.at i).pos⟩]
noncomputable def trI (C : Ck) : It → Px → Expr
  | .ex x, P => tr C x P
  | .range es, P => .Call (.Name "range" (P.at 0).pos) (trs C es 1 P) [] P.pos
  | .enum x, P => .Call (.Name "enumerate" (P.at 0).pos) [tr C x (P.at 1)] [] P.pos
  | .zip x y, P => .Call (.Name "zip" (P.at 0).pos) [tr C x (P.at 1), tr C y (P.at 2)] [] P.pos
noncomputable def trE (C : Ck) : Cb → Px → Expr
  | .emit x, P => tr C x (P.at 0)
  | .gen _ _ _ r, P => trE C r P
noncomputable def trG (C : Ck) : Cb → Nat → Px → List Comprehension
  | .emit _, _, _ => []
  | .gen t it ifs r, i, P => ⟨trT C.I t ((P.at i).at 0), trI C it ((P.at i).at 1), trs C ifs 2 (P.at i), 0⟩ :: trG C r (i + 1) P
end
mutual
noncomputable def wf (C : Ck) : Bool → Ex → Sc → Px → Bool
  | _, .int _, _, _ => true
  | _, .str _, _, _ => true
  | _, .non, _, _ => true
  | _, .bool _, _, _ => true
  | _, .dbg, _, _ => true
  | _, .var x, sc, _ => isLoc sc (nm C.I x) && nameOk (nm C.I x)
  | _, .gl x, sc, _ => isGlob sc (nm C.I x) && nameOk (nm C.I x)
  | _, .bin _ a b, sc, P => wf C false a sc (P.at 0) && wf C false b sc (P.at 1)
  | _, .rep es _, sc, P => wfs C es sc 0 (P.at 0)
  | _, .usub a, sc, P => wf C false a sc (P.at 0)
  | t, .not a, sc, P => wf C t a sc (P.at 0)
  | t, .and a b, sc, P => t && (wf C true a sc (P.at 0) && wf C true b sc (P.at 1))
  | t, .and3 a b c, sc, P => t && (wf C true a sc (P.at 0) && (wf C true b sc (P.at 1) && wf C true c sc (P.at 2)))
  | t, .or a b, sc, P => wf C t a sc (P.at 0) && wf C t b sc (P.at 1)
  | _, .cmp op a b, sc, P => !behindInMarks op (tr C b (P.at 1)) && (wf C false a sc (P.at 0) && wf C false b sc (P.at 1))
  | t, .ite c a b, sc, P => !t && (wf C true c sc (P.at 0) && (wf C false a sc (P.at 1) && wf C false b sc (P.at 2)))
  | _, .tup es, sc, P => wfs C es sc 0 P
  | _, .lst es, sc, P => wfs C es sc 0 P
  | _, .edct, _, _ => true
  | _, .idx a i, sc, P => noSlice (tr C i (P.at 1)) && (wf C false a sc (P.at 0) && wf C false i sc (P.at 1))
  | _, .slc a lo hi, sc, P => wf C false a sc (P.at 0) && (wfo C lo sc ((P.at 1).at 0) && wfo C hi sc ((P.at 1).at 1))
  | _, .attr a _, sc, P => baseOk (tr C a (P.at 0)) && wf C false a sc (P.at 0)
  | _, .call f es, sc, P => (isGlob sc (C.fname f) && nameOk (C.fname f)) && ((C.fids.contains f && (C.forms f).contains (es.length, 0)) && wfs C es sc 1 P)
  | _, .bi b es, sc, P => btName C sc (biName b) && (match biInner b with
      | none => wfs C es sc 1 P
      | some j => btName C sc j && wfs C es sc 1 (P.at 1))
  | _, .new c es, sc, P => (isGlob sc (nm C.I c) && nameOk (nm C.I c)) && ((match lk c C.I.cls with
      | some k => (C.forms k.init).contains (es.length + 1, 0)
      | none => false) && wfs C es sc 1 P)
  | _, .meth a m es kw, sc, P => ((baseOk (tr C a ((P.at 0).at 0)) && ((P.at 0).pos.endLine == P.pos.line)) && (Nat.blt es.length 20 && wf C false a sc ((P.at 0).at 0))) && (wfs C es sc 1 P && (match m with
      | .own x => kwOk C x (es.length + 1) (kw.map (·.1)) && wfk C kw sc (1 + es.length) P
      | _ => kw.isNone))
  | _, .comp c, sc, P => (decide ((cbNames c).Nodup) && scopeOkB C.I sc P.sc (cbNames c)) && ((match c with
      | .gen _ it _ _ => setOk (trI C it ((P.at 1).at 1)) && wfI C it sc ((P.at 1).at 1)
      | .emit _ => false) && wfC C true c (relab sc P.sc.names) 1 P)
  | _, .dcomp t it k v, sc, P => (setOk (trI C it ((P.at 2).at 1)) && scopeOkB C.I sc P.sc (tgNames t)) && (wfI C it sc ((P.at 2).at 1) && (wf C false k (relab sc P.sc.names) (P.at 0) && wf C false v (relab sc P.sc.names) (P.at 1)))
  | _, .mut a, sc, P => wf C false a sc P
termination_by structural _ x => x
noncomputable def wfs (C : Ck) : List Ex → Sc → Nat → Px → Bool
  | [], _, _, _ => true
  | x :: r, sc, i, P => plain (tr C x (P.at i)) && (wf C false x sc (P.at i) && wfs C r sc (i + 1) P)
noncomputable def wfo (C : Ck) : Option Ex → Sc → Px → Bool
  | none, _, _ => true
  | some x, sc, P => wf C false x sc P
noncomputable def wfk (C : Ck) : Option (Nat × Ex) → Sc → Nat → Px → Bool
  | none, _, _, _ => true
  | some (_, x), sc, i, P => wf C false x sc ((P.at i).at 0)
noncomputable def wfI (C : Ck) : It → Sc → Px → Bool
  | .ex x, sc, P => wf C false x sc P
  | .range es, sc, P => btName C sc "range" && wfs C es sc 1 P
  | .enum x, sc, P => btName C sc "enumerate" && (plain (tr C x (P.at 1)) && wf C false x sc (P.at 1))
  | .zip x y, sc, P => btName C sc "zip" && ((plain (tr C x (P.at 1)) && plain (tr C y (P.at 2))) && (wf C false x sc (P.at 1) && wf C false y sc (P.at 2)))
noncomputable def wfC (C : Ck) : Bool → Cb → Sc → Nat → Px → Bool
  | _, .emit x, sc, _, P => wf C false x sc (P.at 0)
  | first, .gen _ it ifs r, sc, i, P => (first || (setOk (trI C it ((P.at i).at 1)) && wfI C it sc ((P.at i).at 1))) && (wfT C ifs sc 2 (P.at i) && wfC C false r sc (i + 1) P)
noncomputable def wfT (C : Ck) : List Ex → Sc → Nat → Px → Bool
  | [], _, _, _ => true
  | x :: r, sc, i, P => wf C true x sc (P.at i) && wfT C r sc (i + 1) P
end
theorem andL {a b : Bool} (h : (a && b) = true) : a = true := by
  cases a with
  | false => cases h
  | true => rfl
theorem andR {a b : Bool} (h : (a && b) = true) : b = true := by
  cases a with
  | false => cases h
  | true => exact h
theorem and2 {a b : Bool} (h : (a && b) = true) : a = true ∧ b = true := by
  cases a with
  | false => cases h
  | true => exact ⟨rfl, h⟩
end Mine
end
section
namespace Mine
open PySem PySem.W PySem.Calls PyProof.Rows
section
variable {prog : Program} {w : World} {A : Around} {E : Value → Shared → Prop} {s : Shared} {z TI TO i1 i2 : Addr} {f1 f2 : List Addr} {n : Nat} {P1 P2 : Nat → Value → Prop} {S1 S2 : Nat → Heap → Prop}
theorem wp_alive {a : Addr} {Q : Option Obj → Shared → Prop} (h : Q (s.heap.get? a) s) : wpAny (model prog w) A (loadIfAlive a) Q E s := fun Γ p _ => by
  unfold loadIfAlive
  rw [Sem.wp_loadIfAlive]
  simpa using h
noncomputable def ZS2 (z TI i1 i2 : Addr) (S1 S2 : Nat → Heap → Prop) (TO T : Addr) (b : Bool) (i : Nat) (h : Heap) : Prop :=
  h.get? z = some { cls := .type "zip", dict := none, data := .fields #[rawInt T, .bool b, .bool false, .ref TI, .ref TO], slots := #[] } ∧ IsPair h TI (.ref i1) (.ref i2) ∧ (∃ o, h.get? T = some o) ∧ S1 i h ∧ S2 i h
theorem zip_held {TO T : Addr} {b : Bool} {i : Nat} {Q : Bool → Shared → Prop} (D1 : Draws prog w A i1 f1 n P1 S1) (D2 : Draws prog w A i2 f2 n P2 S2) (hTI : TI ≠ z) (hT : T ≠ z) (z1 : z ∉ f1) (z2 : z ∉ f2)
    (st : ZS2 z TI i1 i2 S1 S2 TO T b i s.heap) (hQ : ∀ h', ZS2 z TI i1 i2 S1 S2 TO T true i h' → Heap.SameBut z s.heap h' → Q false { s with heap := h' }) :
    wpAny (model prog w) A (Builtin.SmallTypes.ownedTupleIsFree (.ref z)) Q E s := by
  obtain ⟨hz, hI, ⟨o, ho⟩, h1, h2⟩ := st
  unfold Builtin.SmallTypes.ownedTupleIsFree
  refine wpAny_bind (wpAny_field hz rfl (x := rawInt T) rfl ?_)
  show wpAny _ _ (loadIfAlive ((T : Int).toNat) >>= _) _ _ _
  refine wpAny_bind (wp_alive ?_)
  rw [Int.toNat_natCast, ho]
  simp only [Option.isNone_some, Bool.false_eq_true, if_false]
  refine wpAny_bind (wpAny_field hz rfl (x := .bool b) rfl ?_)
  cases b with
  | true =>
    have e : ((Value.bool true) != Value.bool true) = false := by decide
    simp only [e, Bool.false_eq_true, if_false]
    exact wpAny_pure (hQ s.heap ⟨hz, hI, ⟨o, ho⟩, h1, h2⟩ ⟨rfl, fun _ _ => rfl⟩)
  | false =>
    have e : ((Value.bool false) != Value.bool true) = true := by decide
    simp only [e, if_true]
    refine wpAny_bind (wpAny_setField_rec hz (by simp) fun h' hz' sb => wpAny_pure (hQ h' ⟨hz', sb.extBut _ _ hTI hI, ⟨o, sb.extBut _ _ hT ho⟩, D1.frame _ _ _ h1 fun b hb o e => sb.extBut b o (fun q => z1 (q ▸ hb)) e, D2.frame _ _ _ h2 fun b hb o e => sb.extBut b o (fun q => z2 (q ▸ hb)) e⟩ sb))
theorem zip_item2 {TO T : Addr} {b : Bool} {i : Nat} {Q : Value → Shared → Prop} (D1 : Draws prog w A i1 f1 n P1 S1) (D2 : Draws prog w A i2 f2 n P2 S2) (hTI : TI ≠ z) (hT : T ≠ z) (z1 : z ∉ f1) (z2 : z ∉ f2)
    (I1 : TI ∉ f1) (I2 : TI ∉ f2) (m1 : i1 ∈ f1) (m2 : i2 ∈ f2) (n1 : i1 ∉ f2) (n2 : i2 ∉ f1) (T1 : T ∉ f1) (T2 : T ∉ f2) (hi : i < n)
    (st : ZS2 z TI i1 i2 S1 S2 TO T b i s.heap)
    (hQ : ∀ x y h' tk, P1 i x → P2 i y → ZS2 z TI i1 i2 S1 S2 TO T true (i + 1) h' → IsPair h' s.heap.objs.size x y → h'.objs.size = s.heap.objs.size + 1 → (∀ c o, c ∉ [z, i1, i2] → s.heap.get? c = some o → h'.get? c = some o) → Q (.ref s.heap.objs.size) { s with heap := h', toks := tk }) :
    wpAny (model prog w) A (Builtin.«zip.__next__» ⟨[.ref z], []⟩) (fun fin s' => ∃ v, fin = .done (.ret v) ∧ Q v s') E s := by
  obtain ⟨hp, g, d, tk₀, os⟩ := s
  have st' := st
  obtain ⟨hz, hI, ⟨o, ho⟩, h1, h2⟩ := st'
  show wpAny _ _ (field (.ref z) 2 >>= _) _ _ _
  refine wpAny_bind (wpAny_field hz rfl (x := .bool false) rfl ?_)
  show wpAny _ _ (field (.ref z) 3 >>= _) _ _ _
  refine wpAny_bind (wpAny_field hz rfl (x := .ref TI) rfl (wpAny_bind (wpAny_seqItems hI rfl ?_)))
  show wpAny _ _ (Builtin.SmallTypes.ownedTupleIsFree (.ref z) >>= _) _ _ _
  refine wpAny_bind (zip_held D1 D2 hTI hT z1 z2 st fun ha st2 sa => ?_)
  obtain ⟨hza, hIa, ⟨oa, hoa⟩, h1a, h2a⟩ := st2
  simp only [Bool.false_eq_true, if_false]
  refine wpAny_bind ?_
  rw [← Array.forIn_toList]
  simp only [List.forIn_cons, List.forIn_nil]
  refine wpAny_bind (wpAny_bind (wpAny_holding ?_))
  show wpAny _ _ (Builtin.SmallTypes.nextOf (.ref i1) >>= _) _ _ _
  refine wpAny_bind (D1.item i _ _ _ hi h1a fun x hb tkb px h1b sb => wpAny_pure (wpAny_pure ?_))
  replace sb : Heap.SameBut i1 ha hb := sb
  have h2b : S2 i hb := D2.frame _ _ _ h2a fun b hm o e => sb.extBut b o (fun q => n1 (q ▸ hm)) e
  refine wpAny_bind (wpAny_bind (wpAny_holding ?_))
  show wpAny _ _ (Builtin.SmallTypes.nextOf (.ref i2) >>= _) _ _ _
  refine wpAny_bind (D2.item i _ _ _ hi h2b fun y hd tkd py h2d sd => wpAny_pure (wpAny_pure (wpAny_pure ?_)))
  replace sd : Heap.SameBut i2 hb hd := sd
  have h1d : S1 (i + 1) hd := D1.frame _ _ _ h1b fun b hm o e => sd.extBut b o (fun q => n2 (q ▸ hm)) e
  have hsz : hd.objs.size = hp.objs.size := by rw [sd.1, sb.1, sa.1]
  refine wpAny_bind (wpAny_newTuple (items := [x, y]) ?_ (by show 2 ≤ sizeLine; decide))
  have old : ∀ c o, c ∉ [z, i1, i2] → hp.get? c = some o → hd.get? c = some o := fun c o hc e => by
    simp only [List.mem_cons, List.not_mem_nil, or_false, not_or] at hc
    exact sd.extBut _ _ hc.2.2 (sb.extBut _ _ hc.2.1 (sa.extBut _ _ hc.1 e))
  have nz1 : z ≠ i1 := fun q => z1 (q ▸ m1)
  have nz2 : z ≠ i2 := fun q => z2 (q ▸ m2)
  have ti1 : TI ≠ i1 := fun q => I1 (q ▸ m1)
  have ti2 : TI ≠ i2 := fun q => I2 (q ▸ m2)
  have tt1 : T ≠ i1 := fun q => T1 (q ▸ m1)
  have tt2 : T ≠ i2 := fun q => T2 (q ▸ m2)
  refine wpAny_pure ⟨_, rfl, ?_⟩
  show Q (.ref hd.objs.size) _
  have key := hQ x y (hd.push { cls := .type "tuple", data := .seq #[x, y] }) tkd px py
    ⟨Heap.get?_push_of_some _ (sd.extBut _ _ nz2 (sb.extBut _ _ nz1 hza)), Heap.get?_push_of_some _ (sd.extBut _ _ ti2 (sb.extBut _ _ ti1 hIa)), ⟨oa, Heap.get?_push_of_some _ (sd.extBut _ _ tt2 (sb.extBut _ _ tt1 hoa))⟩,
      D1.frame _ _ _ h1d fun b _ o e => Heap.get?_push_of_some _ e, D2.frame _ _ _ h2d fun b _ o e => Heap.get?_push_of_some _ e⟩
    (by show (hd.push _).get? hp.objs.size = _; rw [← hsz]; exact Heap.get?_push_size _ rfl) (by rw [Heap.size_push, hsz]) (fun c o hc e => Heap.get?_push_of_some _ (old c o hc e))
  rw [hsz]
  exact key
theorem zip_end2 {TO T : Addr} {b : Bool} {Q : Fin → Shared → Prop} (D1 : Draws prog w A i1 f1 n P1 S1) (D2 : Draws prog w A i2 f2 n P2 S2) (hTI : TI ≠ z) (hT : T ≠ z) (z1 : z ∉ f1) (z2 : z ∉ f2)
    (st : ZS2 z TI i1 i2 S1 S2 TO T b n s.heap)
    (hE : ∀ h' e, (∀ c o, c ∉ [z, i1, i2] → s.heap.get? c = some o → h'.get? c = some o) → (∃ o, h'.get? e = some o ∧ o.cls = .type "StopIteration") → E (.ref e) { s with heap := h' }) :
    wpAny (model prog w) A (Builtin.«zip.__next__» ⟨[.ref z], []⟩) Q E s := by
  obtain ⟨hp, g, d, tk₀, os⟩ := s
  have st' := st
  obtain ⟨hz, hI, ⟨o, ho⟩, h1, h2⟩ := st'
  show wpAny _ _ (field (.ref z) 2 >>= _) _ _ _
  refine wpAny_bind (wpAny_field hz rfl (x := .bool false) rfl ?_)
  show wpAny _ _ (field (.ref z) 3 >>= _) _ _ _
  refine wpAny_bind (wpAny_field hz rfl (x := .ref TI) rfl (wpAny_bind (wpAny_seqItems hI rfl ?_)))
  show wpAny _ _ (Builtin.SmallTypes.ownedTupleIsFree (.ref z) >>= _) _ _ _
  refine wpAny_bind (zip_held D1 D2 hTI hT z1 z2 st fun ha st2 sa => ?_)
  obtain ⟨hza, hIa, ⟨oa, hoa⟩, h1a, h2a⟩ := st2
  simp only [Bool.false_eq_true, if_false]
  refine wpAny_bind ?_
  rw [← Array.forIn_toList]
  simp only [List.forIn_cons, List.forIn_nil]
  refine wpAny_bind (wpAny_bind (wpAny_holding ?_))
  show wpAny _ _ (Builtin.SmallTypes.nextOf (.ref i1) >>= _) _ _ _
  refine wpAny_bind (D1.done _ _ _ h1a fun hb e sb he => hE hb e (fun c o hc x => ?_) he)
  simp only [List.mem_cons, List.not_mem_nil, or_false, not_or] at hc
  exact sb _ _ hc.2.1 (sa.extBut _ _ hc.1 x)
end
end Mine
end
section
namespace Mine
open PySem PySem.W PySem.Calls PyProof.Rows
section
variable {prog : Program} {w : World} {A : Around} {s : Shared} {z TI TO i1 i2 S : Addr} {f1 f2 : List Addr} {n : Nat} {P1 P2 : Nat → Value → Prop} {S1 S2 : Nat → Heap → Prop} {R : Result → Shared → Prop}
noncomputable def ZC (z TI TO i1 i2 : Addr) (S1 S2 : Nat → Heap → Prop) (lo : Nat) (i : Nat) (h : Heap) : Prop := ZSt z TI TO i1 i2 S1 S2 .none i h ∨ ∃ T b, lo ≤ T ∧ ZS2 z TI i1 i2 S1 S2 TO T b i h
theorem zc_item {lo i : Nat} {E : Value → Shared → Prop} {Q : Option Value → Shared → Prop} (D1 : Draws prog w A.in1 i1 f1 n P1 S1) (D2 : Draws prog w A.in1 i2 f2 n P2 S2) (Z : ZApart z TI TO i1 i2 f1 f2) (hz : z < lo) (hf1 : ∀ b ∈ f1, b < lo) (hf2 : ∀ b ∈ f2, b < lo)
    (hlo : lo ≤ s.heap.objs.size) (hi : i < n) (st : ZC z TI TO i1 i2 S1 S2 lo i s.heap)
    (hQ : ∀ x y h' tk, P1 i x → P2 i y → ZC z TI TO i1 i2 S1 S2 lo (i + 1) h' → IsPair h' s.heap.objs.size x y → (∀ c o, c ∉ [z, TO, i1, i2] → s.heap.get? c = some o → h'.get? c = some o) → Q (some (.ref s.heap.objs.size)) { s with heap := h', toks := tk }) :
    wpAny (model prog w) A (pyNext (.ref z)) Q E s := by
  rcases st with st | ⟨T, b, hT, st⟩
  · have hT : s.TypeIs (.ref z) "zip" := ⟨_, st.1, rfl⟩
    unfold pyNext
    refine wpAny_bind (wpAny_attempt (wpAny_callSpecial?_slot (name := Str.ofString "__next__") hT F.slot_zip_next
      (wpAny_call_entry F.slot_zip_next hT F.entry_zip_next (zip_item D1 D2 Z st hi fun x y h' tk px py st' hp hk => wpAny_pure ?_) (F.args_zip_next_1 _))))
    exact hQ x y h' tk px py (.inr ⟨s.heap.objs.size, false, hlo, st'.1, st'.2.1, ⟨_, hp⟩, st'.2.2.2.1, st'.2.2.2.2⟩) hp hk
  · have hz' : s.TypeIs (.ref z) "zip" := ⟨_, st.1, rfl⟩
    have n1 : ∀ {c : Addr}, c < lo → T ≠ c := fun h => Nat.ne_of_gt (Nat.lt_of_lt_of_le h hT)
    unfold pyNext
    refine wpAny_bind (wpAny_attempt (wpAny_callSpecial?_slot (name := Str.ofString "__next__") hz' F.slot_zip_next
      (wpAny_call_entry F.slot_zip_next hz' F.entry_zip_next (zip_item2 D1 D2 Z.TIz (n1 hz) Z.z1 Z.z2 Z.I1 Z.I2 Z.m1 Z.m2 Z.n1 Z.n2 (fun h => n1 (hf1 _ h) rfl) (fun h => n1 (hf2 _ h) rfl) hi st fun x y h' tk px py st' hp _ hk => wpAny_pure ?_) (F.args_zip_next_1 _))))
    refine hQ x y h' tk px py (.inr ⟨T, true, hT, st'⟩) hp fun c o hc e => hk c o (fun hm => hc ?_) e
    simp only [List.mem_cons, List.not_mem_nil, or_false] at hm ⊢
    rcases hm with h | h | h <;> simp [h]
theorem zc_end {lo : Nat} {E : Value → Shared → Prop} {Q : Option Value → Shared → Prop} (D1 : Draws prog w A.in1 i1 f1 n P1 S1) (D2 : Draws prog w A.in1 i2 f2 n P2 S2) (Z : ZApart z TI TO i1 i2 f1 f2) (hz : z < lo)
    (st : ZC z TI TO i1 i2 S1 S2 lo n s.heap) (hQ : ∀ h' tk, (∀ c o, c ∉ [z, TO, i1, i2] → s.heap.get? c = some o → h'.get? c = some o) → Q none { s with heap := h', toks := tk }) :
    wpAny (model prog w) A (pyNext (.ref z)) Q E s := by
  rcases st with st | ⟨T, b, hT, st⟩
  · have hT : s.TypeIs (.ref z) "zip" := ⟨_, st.1, rfl⟩
    unfold pyNext
    refine wpAny_bind (wpAny_attempt (wpAny_callSpecial?_slot (name := Str.ofString "__next__") hT F.slot_zip_next
      (wpAny_call_entry F.slot_zip_next hT F.entry_zip_next (zip_end D1 Z st fun h' e hk he => ?_) (F.args_zip_next_1 _))))
    obtain ⟨o, ho, hc⟩ := he
    refine wpAny_bind (wpAny_isInstance (T := "StopIteration") (b := true) ⟨o, ho, hc⟩ isSubtype_stop ?_)
    exact wpAny_pure (hQ h' s.toks hk)
  · have hz' : s.TypeIs (.ref z) "zip" := ⟨_, st.1, rfl⟩
    unfold pyNext
    refine wpAny_bind (wpAny_attempt (wpAny_callSpecial?_slot (name := Str.ofString "__next__") hz' F.slot_zip_next
      (wpAny_call_entry F.slot_zip_next hz' F.entry_zip_next (zip_end2 D1 D2 Z.TIz (Nat.ne_of_gt (Nat.lt_of_lt_of_le hz hT)) Z.z1 Z.z2 st fun h' e hk he => ?_) (F.args_zip_next_1 _))))
    obtain ⟨o, ho, hc⟩ := he
    refine wpAny_bind (wpAny_isInstance (T := "StopIteration") (b := true) ⟨o, ho, hc⟩ isSubtype_stop ?_)
    refine wpAny_pure (hQ h' s.toks fun c o hc e => hk c o (fun hm => hc ?_) e)
    simp only [List.mem_cons, List.not_mem_nil, or_false] at hm ⊢
    rcases hm with h | h | h <;> simp [h]
end
end Mine
end
section
namespace Mine
open PySem PySem.W PySem.Calls PyProof.Rows
section
variable {prog : Program} {w : World} {A : Around} {s : Shared} {z TI TO i1 i2 S : Addr} {f1 f2 : List Addr} {n : Nat} {P1 P2 : Nat → Value → Prop} {S1 S2 : Nat → Heap → Prop} {R : Result → Shared → Prop}
theorem zc_keep {lo i : Nat} {h h' : Heap} (D1 : Draws prog w A i1 f1 n P1 S1) (D2 : Draws prog w A i2 f2 n P2 S2) (hS : S ∉ z :: TI :: TO :: (f1 ++ f2)) (hSl : S < lo) (x : ZC z TI TO i1 i2 S1 S2 lo i h) (k : ∀ b o, b ≠ S → h.get? b = some o → h'.get? b = some o) : ZC z TI TO i1 i2 S1 S2 lo i h' := by
  simp only [List.mem_cons, List.mem_append, not_or] at hS
  obtain ⟨a1, a2, a3, a4, a5⟩ := hS
  rcases x with ⟨h1, h2, ⟨u, v, h3⟩, h4, h5⟩ | ⟨T, b, hT, h1, h2, ⟨o, h3⟩, h4, h5⟩
  · exact .inl ⟨k _ _ (Ne.symm a1) h1, k _ _ (Ne.symm a2) h2, ⟨u, v, k _ _ (Ne.symm a3) h3⟩, D1.frame _ _ _ h4 fun b hb o e => k b o (fun q => a4 (q ▸ hb)) e, D2.frame _ _ _ h5 fun b hb o e => k b o (fun q => a5 (q ▸ hb)) e⟩
  · exact .inr ⟨T, b, hT, k _ _ (Ne.symm a1) h1, k _ _ (Ne.symm a2) h2, ⟨o, k _ _ (Nat.ne_of_gt (Nat.lt_of_lt_of_le hSl hT)) h3⟩, D1.frame _ _ _ h4 fun b hb o e => k b o (fun q => a4 (q ▸ hb)) e, D2.frame _ _ _ h5 fun b hb o e => k b o (fun q => a5 (q ▸ hb)) e⟩
noncomputable def ZPairs (P1 P2 : Nat → Value → Prop) (lo : Nat) (h : Heap) (as : List Addr) : Prop := ∀ (j : Nat) (a : Addr), as[j]? = some a → lo ≤ a ∧ ∃ x y, P1 j x ∧ P2 j y ∧ IsPair h a x y
theorem zl_loop {lo : Nat} (D1 : Draws prog w A.in1.in1 i1 f1 n P1 S1) (D2 : Draws prog w A.in1.in1 i2 f2 n P2 S2) (Z : ZApart z TI TO i1 i2 f1 f2) (hz : z < lo) (hTO : TO < lo) (hf1 : ∀ b ∈ f1, b < lo) (hf2 : ∀ b ∈ f2, b < lo)
    (hS : S ∉ z :: TI :: TO :: (f1 ++ f2)) (hSl : S < lo) (hn : n ≤ sizeLine) (res : Value) {h₁ : Heap}
    (hR : ∀ h' tk acc c as, (∀ b o, b ∉ [S, z, TO, i1, i2] → h₁.get? b = some o → h'.get? b = some o) → h'.get? S = some { cls := .type "list", dict := none, data := .seq acc c, slots := #[] } → as.length = n → ZPairs P1 P2 lo h' as →
      acc.toList = as.map Value.ref → R (.ok (.ret res)) { s with heap := h', toks := tk }) :
    ∀ (k i : Nat) (h : Heap) (tk c : Nat) (acc : Array Value) (as : List Addr), n - i = k → i ≤ n → ZC z TI TO i1 i2 S1 S2 lo i h → lo ≤ h.objs.size → (∀ b o, b ∉ [S, z, TO, i1, i2] → h₁.get? b = some o → h.get? b = some o) →
      h.get? S = some { cls := .type "list", dict := none, data := .seq acc c, slots := #[] } → acc.toList = as.map Value.ref → as.length = i → ZPairs P1 P2 lo h as →
      codeAny (model prog w) A (.builtin "list.extend.loop" ⟨[.ref S, .ref z, res], []⟩) R { s with heap := h, toks := tk } := by
  have hS' := hS
  simp only [List.mem_cons, List.mem_append, not_or] at hS'
  obtain ⟨a1, a2, a3, a4, a5⟩ := hS'
  have Si1 : S ≠ i1 := fun q => a4 (q ▸ Z.m1)
  have Si2 : S ≠ i2 := fun q => a5 (q ▸ Z.m2)
  have li1 : i1 < lo := hf1 _ Z.m1
  have li2 : i2 < lo := hf2 _ Z.m2
  have Snm : S ∉ [z, TO, i1, i2] := by simp only [List.mem_cons, List.not_mem_nil, or_false, not_or]; exact ⟨a1, a3, Si1, Si2⟩
  have hi : ∀ a : Addr, lo ≤ a → a ∉ [z, TO, i1, i2] := fun a ha hm => by
    simp only [List.mem_cons, List.not_mem_nil, or_false] at hm
    rcases hm with q | q | q | q <;> subst q
    · exact Nat.lt_irrefl _ (Nat.lt_of_lt_of_le hz ha)
    · exact Nat.lt_irrefl _ (Nat.lt_of_lt_of_le hTO ha)
    · exact Nat.lt_irrefl _ (Nat.lt_of_lt_of_le li1 ha)
    · exact Nat.lt_irrefl _ (Nat.lt_of_lt_of_le li2 ha)
  have up4 : ∀ b : Addr, b ∉ [S, z, TO, i1, i2] → b ≠ S ∧ b ∉ [z, TO, i1, i2] := fun b hb => by
    simp only [List.mem_cons, List.not_mem_nil, or_false, not_or] at hb ⊢
    exact hb
  intro k
  induction k with
  | zero =>
    intro i h tk c acc as hk hi' hst hlo hkeep hSo hacc hal hG
    have hin : i = n := by (first | lia | omega)
    subst hin
    refine codeAny_builtin PySem.F.entry_extend_loop ?_
    rw [Around.under_plainId PySem.F.plain_extend_loop _]
    show wpAny _ A.in1 (pyNext (.ref z) >>= _) _ _ _
    refine wpAny_bind (zc_end (s := { s with heap := h, toks := tk }) (A := A.in1) D1 D2 Z hz hst fun h' tk' he => ?_)
    refine wpAny_pure (hR h' tk' acc c as (fun b o hb e => he b o (up4 b hb).2 (hkeep b o hb e)) (he S _ Snm hSo) hal (fun j a hj => ?_) hacc)
    obtain ⟨g1, x, y, g2, g3, g4⟩ := hG j a hj
    exact ⟨g1, x, y, g2, g3, he a _ (hi a g1) g4⟩
  | succ k ih =>
    intro i h tk c acc as hk hi' hst hlo hkeep hSo hacc hal hG
    have hlt : i < n := by (first | lia | omega)
    have hsz : acc.size = i := by rw [← Array.length_toList, hacc, List.length_map, hal]
    refine codeAny_builtin PySem.F.entry_extend_loop ?_
    rw [Around.under_plainId PySem.F.plain_extend_loop _]
    show wpAny _ A.in1 (pyNext (.ref z) >>= _) _ _ _
    refine wpAny_bind (zc_item (s := { s with heap := h, toks := tk }) (A := A.in1) D1 D2 Z hz hf1 hf2 hlo hlt hst fun x y h' tk' px py hst' hp hkp => ?_)
    dsimp only at hp hkp ⊢
    have hSo' := hkp S _ Snm hSo
    have up : ∀ b o, b ≠ S → h'.get? b = some o → (h'.update S (Obj.mapSeq (·.push (Value.ref h.objs.size)))).get? b = some o := fun b o hb e => (Heap.get?_update_other _ _ (Ne.symm hb)).trans e
    have hne : h.objs.size ≠ S := Nat.ne_of_gt (Nat.lt_of_lt_of_le hSl hlo)
    have hp' : IsPair (h'.update S (Obj.mapSeq (·.push (Value.ref h.objs.size)))) h.objs.size x y := up _ _ hne hp
    show wpAny _ A.in1 (updateSeq S (·.push (Value.ref h.objs.size)) >>= _) _ _ _
    refine wpAny_bind ?_
    refine wpAny_updateSeq hSo' rfl (wpAny_pure ⟨plainId_quiet PySem.F.plain_extend_loop _, ih (i + 1) _ tk' _ (acc.push (Value.ref h.objs.size)) (as ++ [h.objs.size]) (by (first | lia | omega)) hlt (zc_keep D1 D2 hS hSl hst' up)
      (Nat.le_trans hlo (Nat.le_of_lt (Heap.lt_size hp'))) (fun b o hb e => up b o (up4 b hb).1 (hkp b o (up4 b hb).2 (hkeep b o hb e))) (Heap.get?_update_self _ hSo' rfl) (by rw [Array.toList_push, hacc, List.map_append]; rfl) (by rw [List.length_append, hal]; rfl)
      fun j a hj => ?_⟩) (by rw [hsz]; (first | lia | omega)) (by show (acc.push _).size ≤ sizeLine + 1; rw [Array.size_push, hsz]; (first | lia | omega))
    rcases Nat.lt_trichotomy j as.length with q | q | q
    · rw [List.getElem?_append_left q] at hj
      obtain ⟨g1, x', y', g2, g3, g4⟩ := hG j a hj
      exact ⟨g1, x', y', g2, g3, up a _ (Nat.ne_of_gt (Nat.lt_of_lt_of_le hSl g1)) (hkp a _ (hi a g1) g4)⟩
    · subst q
      have hb : h.objs.size = a := by simpa using hj
      subst hb
      rw [hal]
      exact ⟨hlo, x, y, px, py, hp'⟩
    · have hnone : (as ++ [h.objs.size])[j]? = none := List.getElem?_eq_none (by rw [List.length_append, List.length_singleton]; (first | lia | omega))
      rw [hnone] at hj; cases hj
end
end Mine
end
section
namespace Mine
open PySem PySem.W PySem.Calls PyProof.Rows
theorem zip_no_len : typeLookup (.type "zip") "__len__" = pure none := by rw [typeLookup_type, builtinLookup_eq_fast]; kernel_rfl
theorem zip_no_hint : typeLookup (.type "zip") "__length_hint__" = pure none := by rw [typeLookup_type, builtinLookup_eq_fast]; kernel_rfl
section
variable {prog : Program} {w : World} {A : Around} {E : Value → Shared → Prop} {s : Shared} {z TI TO i1 i2 S : Addr} {f1 f2 : List Addr} {n : Nat} {P1 P2 : Nat → Value → Prop} {S1 S2 : Nat → Heap → Prop}
theorem zl_extend {R : Result → Shared → Prop} {lo : Nat} (D1 : Draws prog w A.in1.in1 i1 f1 n P1 S1) (D2 : Draws prog w A.in1.in1 i2 f2 n P2 S2) (Z : ZApart z TI TO i1 i2 f1 f2) (hz : z < lo) (hTO : TO < lo) (hf1 : ∀ b ∈ f1, b < lo) (hf2 : ∀ b ∈ f2, b < lo)
    (hS : S ∉ z :: TI :: TO :: (f1 ++ f2)) (hSl : S < lo) (hn : n ≤ sizeLine) (res : Value) (c₀ : Nat) (hlo : lo ≤ s.heap.objs.size) (st : ZSt z TI TO i1 i2 S1 S2 .none 0 s.heap) (hSo : s.heap.get? S = some { cls := .type "list", data := .seq #[] c₀ })
    (hR : ∀ h' tk acc c as, (∀ b o, b ∉ [S, z, TO, i1, i2] → s.heap.get? b = some o → h'.get? b = some o) → h'.get? S = some { cls := .type "list", dict := none, data := .seq acc c, slots := #[] } → as.length = n → ZPairs P1 P2 lo h' as →
      acc.toList = as.map Value.ref → R (.ok (.ret res)) { s with heap := h', toks := tk }) :
    wpAny (model prog w) A.in1 (Builtin.List.listExtendWith (.ref S) (.ref z) res)
      (fun fin s' => match fin with | .done f => R (.ok f) s' | .again c' => c'.quiet = true ∧ codeAny (model prog w) A c' R s') (fun e s' => R (.error e) s') s := by
  have hS' := hS
  simp only [List.mem_cons, List.mem_append, not_or] at hS'
  obtain ⟨a1, _⟩ := hS'
  have key : ∀ (h : Heap) (c₁ tk : Nat), ZC z TI TO i1 i2 S1 S2 lo 0 h → lo ≤ h.objs.size → (∀ b o, b ≠ S → s.heap.get? b = some o → h.get? b = some o) →
      h.get? S = some { cls := .type "list", data := .seq #[] c₁ } → codeAny (model prog w) A (.builtin "list.extend.loop" ⟨[.ref S, .ref z, res], []⟩) R { s with heap := h, toks := tk } := by
    intro h c₁ tk hst hl hk hS₁
    exact zl_loop (s := s) (h₁ := s.heap) D1 D2 Z hz hTO hf1 hf2 hS hSl hn res hR n 0 h tk c₁ #[] [] (Nat.sub_zero _) (Nat.zero_le _) hst hl (fun b o hb e => hk b o (fun q => hb (by simp [q])) e) hS₁ rfl rfl (fun j a hj => by simp at hj)
  unfold Builtin.List.listExtendWith
  refine wpAny_bind (wpAny_typeOf (T := "zip") ⟨_, st.1, rfl⟩ ?_)
  have h1 : Builtin.List.listSameRef (.ref S) (.ref z) = false := by simp [Builtin.List.listSameRef, a1]
  have h2 : (Value.type "zip" == Value.type "list") = false := by decide
  have h3 : (Value.type "zip" == Value.type "tuple") = false := by decide
  simp only [h1, h2, h3, Bool.or_false, Bool.false_eq_true, if_false]
  refine wpAny_bind (wpAny_pyIter_zip st.1 ?_)
  refine wpAny_bind (wpAny_holding ?_)
  unfold Builtin.List.listLengthHint
  refine wpAny_bind (wpAny_specialOf (T := "zip") ⟨_, st.1, rfl⟩ zip_no_len ?_)
  show wpAny _ A.in1 (specialOf (Value.ref z) (Str.ofString "__length_hint__") >>= _) _ _ _
  refine wpAny_bind (wpAny_specialOf (T := "zip") ⟨_, st.1, rfl⟩ zip_no_hint ?_)
  refine wpAny_pure ?_
  show wpAny _ A.in1 (rule "list.extend.makes-room" >>= fun _ => Builtin.List.listTouch (.ref S) >>= fun _ =>
    again (.builtin "list.extend.loop" ⟨[.ref S, .ref z, res], []⟩)) _ _ _
  refine wpAny_bind (wpAny_rule ?_)
  refine wpAny_bind ?_
  show wpAny _ A.in1 (updateSeq S (·.push .none) >>= fun _ => updateSeq S (·.pop)) _ _ _
  refine wpAny_bind (wpAny_updateSeq hSo rfl ?_)
  have hS₂ := Heap.get?_update_self (Obj.mapSeq (·.push Value.none)) hSo rfl
  refine wpAny_updateSeq (hz := by seq_fits) hS₂ rfl ?_
  have hS₃ := Heap.get?_update_self (Obj.mapSeq (·.pop)) hS₂ rfl
  have oth : ∀ b o, b ≠ S → s.heap.get? b = some o → ((s.heap.update S (Obj.mapSeq (·.push Value.none))).update S (Obj.mapSeq (·.pop))).get? b = some o :=
    fun b o hb e => (Heap.get?_update_other _ _ (Ne.symm hb)).trans ((Heap.get?_update_other _ _ (Ne.symm hb)).trans e)
  refine wpAny_pure ⟨plainId_quiet PySem.F.plain_extend_loop _, key _ _ _ (zc_keep D1 D2 hS hSl (.inl st) oth) ?_ oth hS₃⟩
  simpa [Heap.size_update] using hlo
theorem call_list_zip {Q : Value → Shared → Prop} (D1 : Draws prog w A.in1.in1.in1 i1 f1 n P1 S1) (D2 : Draws prog w A.in1.in1.in1 i2 f2 n P2 S2) (Z : ZApart z TI TO i1 i2 f1 f2) (hz : z < s.heap.objs.size) (hTI : TI < s.heap.objs.size) (hTO : TO < s.heap.objs.size) (hf1 : ∀ b ∈ f1, b < s.heap.objs.size) (hf2 : ∀ b ∈ f2, b < s.heap.objs.size)
    (hn : n ≤ sizeLine) (st : ZSt z TI TO i1 i2 S1 S2 .none 0 s.heap)
    (hQ : ∀ h' tk acc c as, (∀ b o, b ∉ [z, TO, i1, i2] → s.heap.get? b = some o → h'.get? b = some o) → h'.get? s.heap.objs.size = some { cls := .type "list", dict := none, data := .seq acc c, slots := #[] } → as.length = n → ZPairs P1 P2 (s.heap.objs.size + 1) h' as →
      acc.toList = as.map Value.ref → Q (.ref s.heap.objs.size) { s with heap := h', toks := tk }) :
    wpAny (model prog w) A (call (.type "list") [.ref z]) Q E s := by
  have hlt : ∀ {a : Addr}, a < s.heap.objs.size → s.heap.objs.size ≠ a := fun h => Nat.ne_of_gt h
  have hS : s.heap.objs.size ∉ z :: TI :: TO :: (f1 ++ f2) := fun hm => by
    simp only [List.mem_cons, List.mem_append] at hm
    rcases hm with q | q | q | q | q
    · exact hlt hz q
    · exact hlt hTI q
    · exact hlt hTO q
    · exact hlt (hf1 _ q) rfl
    · exact hlt (hf2 _ q) rfl
  refine callType_codes (Q₁ := fun obj s₁ => obj = .ref s.heap.objs.size ∧ s₁ = { s with heap := s.heap.push { cls := .type "list", data := .seq #[] } }) PySem.F.called_list (PySem.F.typeCall_list_1 _) PySem.F.entry_list_init
    (code_list_new _ ⟨rfl, rfl⟩) fun obj s₁ h₁ => ?_
  obtain ⟨rfl, rfl⟩ := h₁
  have hSo : (s.heap.push { cls := .type "list", data := .seq #[] }).get? s.heap.objs.size = some { cls := .type "list", data := .seq #[] } := Heap.get?_push_size _ rfl
  refine ⟨⟨_, hSo, rfl⟩, PySem.F.args_list_init_2 _ _, ?_⟩
  show wpAny _ _ (do let old ← Builtin.List.listItems (.ref s.heap.objs.size); Builtin.List.listUpdate (.ref s.heap.objs.size) (fun _ => #[]); letGo old.toList.reverse; Builtin.List.listExtendWith (.ref s.heap.objs.size) (.ref z) .none) _ _ _
  refine wpAny_bind ?_
  unfold Builtin.List.listItems
  refine wpAny_bind (wpAny_seqItems hSo rfl (wpAny_pure ?_))
  show wpAny _ _ (updateSeq s.heap.objs.size (fun _ => #[]) >>= fun _ => letGo (#[] : Array Value).toList.reverse >>= fun _ => Builtin.List.listExtendWith (.ref s.heap.objs.size) (.ref z) .none) _ _ _
  refine wpAny_bind (wpAny_updateSeq hSo rfl ?_)
  have hS₂ := Heap.get?_update_self (Obj.mapSeq (fun _ => (#[] : Array Value))) hSo rfl
  have oth : ∀ b o, b ≠ s.heap.objs.size → s.heap.get? b = some o → ((s.heap.push { cls := .type "list", data := .seq #[] }).update s.heap.objs.size (Obj.mapSeq (fun _ => (#[] : Array Value)))).get? b = some o :=
    fun b o hb e => (Heap.get?_update_other _ _ (Ne.symm hb)).trans (Heap.get?_push_of_some _ e)
  refine wpAny_bind (wpAny_letGo ?_)
  have up1 : ∀ {a : Addr}, a < s.heap.objs.size → a < s.heap.objs.size + 1 := fun h => Nat.lt_succ_of_lt h
  have st2 : ZSt z TI TO i1 i2 S1 S2 .none 0 ((s.heap.push { cls := .type "list", data := .seq #[] }).update s.heap.objs.size (Obj.mapSeq (fun _ => (#[] : Array Value)))) := by
    obtain ⟨k1, k2, ⟨u, v, k3⟩, k4, k5⟩ := st
    exact ⟨oth _ _ (Nat.ne_of_lt hz) k1, oth _ _ (Nat.ne_of_lt hTI) k2, ⟨u, v, oth _ _ (Nat.ne_of_lt hTO) k3⟩, D1.frame _ _ _ k4 fun b hb o e => oth b o (Nat.ne_of_lt (hf1 b hb)) e, D2.frame _ _ _ k5 fun b hb o e => oth b o (Nat.ne_of_lt (hf2 b hb)) e⟩
  refine zl_extend (lo := s.heap.objs.size + 1) D1 D2 Z (up1 hz) (up1 hTO) (fun b hb => up1 (hf1 b hb)) (fun b hb => up1 (hf2 b hb)) hS (Nat.lt_succ_self _) hn .none _ (by simp [Heap.size_update, Heap.size_push]) st2 hS₂ fun h' tk acc c as hk hS' hl hp hacc => ?_
  refine ⟨rfl, hQ h' tk acc c as (fun b o hb e => hk b o (fun hm => ?_) (oth b o (Nat.ne_of_lt (Heap.lt_size e)) e)) hS' hl hp hacc⟩
  simp only [List.mem_cons, List.not_mem_nil, or_false] at hm hb
  rcases hm with q | q
  · exact Nat.ne_of_lt (Heap.lt_size e) q
  · exact hb q
end
end Mine
end
section
namespace Mine
open PySem PySem.W PySem.Calls PyProof.Rows
section
variable {Γ : Cx} {A : Around} {σ : Hp} {μ : List Addr} {H : Addr → Prop} {s : Shared}
theorem pairsD_get : ∀ (ps qs : List PV) (ds : List PyData), ps.length = qs.length → pairsD (pairs ps qs) = some ds → ds.length = ps.length ∧ ∀ (j : Nat) (p q : PV), ps[j]? = some p → qs[j]? = some q → ∃ x y, p = .d x ∧ q = .d y ∧ ds[j]? = some (.tuple [x, y])
  | [], [], ds, _, h => by cases h; exact ⟨rfl, fun j p q h => by simp at h⟩
  | [], _ :: _, _, h, _ => by simp at h
  | _ :: _, [], _, h, _ => by simp at h
  | p :: ps, q :: qs, ds, hl, h => by
    rw [pairs_c, pairsD_c] at h
    cases p with
    | d x =>
      cases q with
      | d y =>
        simp only [pairD] at h
        cases hr : pairsD (pairs ps qs) with
        | none => rw [hr] at h; cases h
        | some es =>
          rw [hr] at h
          cases h
          obtain ⟨e1, e2⟩ := pairsD_get ps qs es (by simpa using hl) hr
          refine ⟨by simp [e1], fun j p q hp hq => ?_⟩
          cases j with
          | zero => cases hp; cases hq; exact ⟨x, y, rfl, rfl, rfl⟩
          | succ j => exact e2 j p q (by simpa using hp) (by simpa using hq)
      | _ => simp [pairD] at h
    | _ => simp [pairD] at h
theorem lz_tail {z TI TO i1 i2 : Addr} {f1 f2 : List Addr} {ps qs : List PV} {ds : List PyData} {P1 P2 : Nat → Value → Prop} {S1 S2 : Nat → Heap → Prop} {s' : Shared} (S : Γ.St μ H σ s) (hk : ∀ b o, s.heap.get? b = some o → s'.heap.get? b = some o)
    (D1 : Draws Γ.prog Γ.w A.in1.in1.in1 i1 f1 ps.length P1 S1) (D2 : Draws Γ.prog Γ.w A.in1.in1.in1 i2 f2 ps.length P2 S2) (Z : ZApart z TI TO i1 i2 f1 f2) (st : ZSt z TI TO i1 i2 S1 S2 .none 0 s'.heap) (hl : ps.length = qs.length)
    (new : ∀ b ∈ [z, TI, TO, i1, i2], s.heap.get? b = none) (hf1 : ∀ b ∈ f1, b = i1 ∨ ∃ o, (gr s.heap H).get? b = some o) (hf2 : ∀ b ∈ f2, b = i2 ∨ ∃ o, (gr s.heap H).get? b = some o)
    (hP1 : ∀ j v p, P1 j v → ps[j]? = some p → VR μ (gr s.heap H) v p) (hP2 : ∀ j v p, P2 j v → qs[j]? = some p → VR μ (gr s.heap H) v p) (hd : pairsD (pairs ps qs) = some ds) (hn : ps.length ≤ sizeLine) (hg : s'.gens = s.gens := by rfl) (ho : s'.os = s.os := by rfl) :
    WP Γ A (call (.type "list") [.ref z]) (Post Γ μ H s.heap s.os (RR s.heap (.fresh (ds.map .d))) σ) s' := by
  obtain ⟨dl, dg⟩ := pairsD_get ps qs ds hl hd
  have st' := st
  obtain ⟨k1, k2, ⟨u, v, k3⟩, k4, k5⟩ := st'
  obtain ⟨o1, l1⟩ := D1.live _ _ k4
  obtain ⟨o2, l2⟩ := D2.live _ _ k5
  have up : ∀ b o, s.heap.get? b = some o → b < s'.heap.objs.size := fun b o e => Heap.lt_size (hk b o e)
  refine call_list_zip D1 D2 Z (Heap.lt_size k1) (Heap.lt_size k2) (Heap.lt_size k3) (fun b hb => ?_) (fun b hb => ?_) hn st fun h' tk acc c as q1 q2 q3 q4 q5 => ?_
  · rcases hf1 b hb with rfl | ⟨o, e⟩
    · exact Heap.lt_size l1
    · exact up b o (only_get.mp e).1
  · rcases hf2 b hb with rfl | ⟨o, e⟩
    · exact Heap.lt_size l2
    · exact up b o (only_get.mp e).1
  have hS0 : s.heap.get? s'.heap.objs.size = none := by
    cases q : s.heap.get? s'.heap.objs.size with
    | none => rfl
    | some o => exact absurd (up _ _ q) (Nat.lt_irrefl _)
  have keep : ∀ b o, s.heap.get? b = some o → h'.get? b = some o := fun b o e => q1 b o (fun hm => by
    have := new b (by simp only [List.mem_cons, List.not_mem_nil, or_false] at hm ⊢; rcases hm with h | h | h | h <;> simp [h])
    rw [this] at e; cases e) (hk b o e)
  refine post_grow S (s' := { s' with heap := h', toks := tk }) (H' := fun b => (H b ∧ ∃ o, s.heap.get? b = some o) ∨ b = s'.heap.objs.size) keep (fun b o e => ?_) hg ho fun hm => ?_
  · have : b ≠ s'.heap.objs.size := Nat.ne_of_lt (up b o e)
    simp [this, e]
  refine ⟨s'.heap.objs.size, acc, c, rfl, hS0, S.fresh_out hS0, .inr rfl, q2, ?_⟩
  rw [q5]
  refine vrs_of_get (by simp [q3, dl]) fun j v p hv hp => ?_
  rw [List.getElem?_map] at hv hp
  cases ha : as[j]? with
  | none => rw [ha] at hv; cases hv
  | some a =>
    rw [ha] at hv
    cases hv
    obtain ⟨g1, x, y, g2, g3, g4⟩ := q4 j a ha
    have hj : j < ps.length := by rw [← q3]; exact (List.getElem?_eq_some_iff.mp ha).1
    obtain ⟨dx, dy, e1, e2, e3⟩ := dg j _ _ (List.getElem?_eq_getElem hj) (List.getElem?_eq_getElem (by (first | lia | omega)))
    rw [e3] at hp
    cases hp
    have vx := hP1 j x _ g2 (List.getElem?_eq_getElem hj)
    have vy := hP2 j y _ g3 (List.getElem?_eq_getElem (by (first | lia | omega)))
    rw [e1] at vx
    rw [e2] at vy
    cases vx with
    | d rx =>
      cases vy with
      | d ry =>
        have hnew : s.heap.get? a = none := by
          cases q : s.heap.get? a with
          | none => rfl
          | some o => exact absurd (up _ _ q) (Nat.not_lt.mpr (Nat.le_of_succ_le g1))
        refine .d (Reads.tuple (only_get.mpr ⟨g4, fun q => ?_⟩) rfl rfl (ReadsAll.keeps hm (.cons rx (.cons ry .nil))))
        rcases q with ⟨_, o, e⟩ | q
        · rw [hnew] at e; cases e
        · exact absurd q (Nat.ne_of_gt g1)
end
end Mine
end
section
namespace Mine
open PySem PySem.W PySem.Calls PyProof.Rows
section
variable {Γ : Cx} {A : Around} {σ : Hp} {μ : List Addr} {H : Addr → Prop} {s : Shared}
theorem call_zipL {v w : Value} {p q : PV} {ps qs : List PV} {ds : List PyData} (hA : A.handled = none) (S : Γ.St μ H σ s) (hv : VR μ (gr s.heap H) v p) (hw : VR μ (gr s.heap H) w q) (hi : immItems σ p = some ps) (hj : immItems σ q = some qs)
    (hl : ps.length = qs.length) (hq : isList q = true) (hd : pairsD (pairs ps qs) = some ds) (hn : ps.length ≤ sizeLine) :
    WP Γ A (call (.type "zip") [v, w]) (fun xv s₁ => WP Γ A (call (.type "list") [xv]) (Post Γ μ H s.heap s.os (RR s.heap (.fresh (ds.map .d))) σ) s₁) s := by
  unfold isList at hq
  split at hq
  · rename_i ys
    cases hj
    obtain ⟨l2, ws, rfl, hl2, ⟨o2, ho2⟩, hv2⟩ := vis_list hw
    have lt2 : l2 < s.heap.objs.size := Heap.lt_size (only_get.mp ho2).1
    have len2 := vrs_len hv2
    have n2 : ws.size = ps.length := by simp at len2 hl; (first | lia | omega)
    have a : ∀ k : Nat, l2 ≠ s.heap.objs.size + k := fun k => Nat.ne_of_lt (Nat.lt_of_lt_of_le lt2 (Nat.le_add_right _ _))
    have a0 : l2 ≠ s.heap.objs.size := a 0
    have ne : ∀ {j k : Nat}, j ≠ k → s.heap.objs.size + j ≠ s.heap.objs.size + k := fun h e => h (Nat.add_left_cancel e)
    have ne0 : ∀ {k : Nat}, 0 ≠ k → s.heap.objs.size ≠ s.heap.objs.size + k := fun h e => h (Nat.add_left_cancel (n := s.heap.objs.size) e)
    have D2 := Draws.list (prog := Γ.prog) (w := Γ.w) (A := A.in1.in1.in1) hA (s.heap.objs.size + 1) l2 (a 1) ws
    rw [n2] at D2
    have hP2 : ∀ j v p, ws[j]? = some v → (ys.map PV.d)[j]? = some p → VR μ (gr s.heap H) v p := fun j v p hj hp => by
      obtain ⟨u, h1, h2⟩ := vrs_get hv2 hp
      have e1 : ws[j]? = some u := by simpa using h1
      rw [hj] at e1; cases e1
      exact h2
    have new : ∀ b ∈ [s.heap.objs.size + 4, s.heap.objs.size + 2, s.heap.objs.size + 3, s.heap.objs.size, s.heap.objs.size + 1], s.heap.get? b = none := fun b hb => by
      simp only [List.mem_cons, List.not_mem_nil, or_false] at hb
      rcases hb with rfl | rfl | rfl | rfl | rfl
      · exact none_at _ _
      · exact none_at _ _
      · exact none_at _ _
      · exact size_none _
      · exact none_at _ _
    have hf2 : ∀ b ∈ [s.heap.objs.size + 1, l2], b = s.heap.objs.size + 1 ∨ ∃ o, (gr s.heap H).get? b = some o := fun b hb => by
      simp only [List.mem_cons, List.not_mem_nil, or_false] at hb
      rcases hb with rfl | rfl
      · exact .inl rfl
      · exact .inr ⟨_, ho2⟩
    unfold immItems at hi
    split at hi
    · rename_i xs
      cases hi
      obtain ⟨l1, vs, rfl, hl1, ⟨o1, ho1⟩, hv1⟩ := vis_list hv
      have lt1 : l1 < s.heap.objs.size := Heap.lt_size (only_get.mp ho1).1
      have len1 := vrs_len hv1
      have n1 : vs.size = (xs.map PV.d).length := by simp at len1; simp [len1]
      have b : ∀ k : Nat, l1 ≠ s.heap.objs.size + k := fun k => Nat.ne_of_lt (Nat.lt_of_lt_of_le lt1 (Nat.le_add_right _ _))
      have b0 : l1 ≠ s.heap.objs.size := b 0
      have D1 := Draws.list (prog := Γ.prog) (w := Γ.w) (A := A.in1.in1.in1) hA s.heap.objs.size l1 b0 vs
      rw [n1] at D1
      refine call_zip_2 hl1 hl2 fun h' hz hTI hTO hi1 hi2 _ hk => ?_
      refine lz_tail (f1 := [s.heap.objs.size, l1]) (f2 := [s.heap.objs.size + 1, l2]) S hk D1 D2 ⟨ne (by decide), ne (by decide), ne (by decide), ?_, ?_, ?_, ?_, ?_, ?_, by simp, by simp, ?_, ?_⟩
        ⟨hz, hTI, ⟨_, _, hTO⟩, ⟨hi1, hl1.at fun o e => hk _ o e⟩, hi2, hl2.at fun o e => hk _ o e⟩ hl new (fun c hc => ?_) hf2 (fun j v p hj hp => ?_) hP2 hd hn
      · simp only [List.mem_cons, List.not_mem_nil, or_false, not_or]; exact ⟨(ne0 (by decide)).symm, (b 4).symm⟩
      · simp only [List.mem_cons, List.not_mem_nil, or_false, not_or]; exact ⟨ne (by decide), (a 4).symm⟩
      · simp only [List.mem_cons, List.not_mem_nil, or_false, not_or]; exact ⟨(ne0 (by decide)).symm, (b 2).symm⟩
      · simp only [List.mem_cons, List.not_mem_nil, or_false, not_or]; exact ⟨ne (by decide), (a 2).symm⟩
      · simp only [List.mem_cons, List.not_mem_nil, or_false, not_or]; exact ⟨(ne0 (by decide)).symm, (b 3).symm⟩
      · simp only [List.mem_cons, List.not_mem_nil, or_false, not_or]; exact ⟨ne (by decide), (a 3).symm⟩
      · simp only [List.mem_cons, List.not_mem_nil, or_false, not_or]; exact ⟨ne0 (by decide), a0.symm⟩
      · simp only [List.mem_cons, List.not_mem_nil, or_false, not_or]; exact ⟨(ne0 (by decide)).symm, (b 1).symm⟩
      · simp only [List.mem_cons, List.not_mem_nil, or_false] at hc
        rcases hc with rfl | rfl
        · exact .inl rfl
        · exact .inr ⟨_, ho1⟩
      · obtain ⟨u, h1, h2⟩ := vrs_get hv1 hp
        have e1 : vs[j]? = some u := by simpa using h1
        rw [hj] at e1; cases e1
        exact h2
    · rename_i x
      split at hi
      · rename_i ha
        cases hi
        obtain ⟨t, rfl⟩ := v_str hv
        have ha' := ascii_all ha
        have D1 := Draws.strAscii (prog := Γ.prog) (w := Γ.w) (A := A.in1.in1.in1) hA s.heap.objs.size x t
        have n1 : x.cps.size = (chars x).length := by simp [chars]
        rw [n1] at D1
        refine call_zip_str hl2 fun h' hz hTI hTO hi1 hi2 hk => ?_
        refine lz_tail (f1 := [s.heap.objs.size]) (f2 := [s.heap.objs.size + 1, l2]) S hk D1 D2 ⟨ne (by decide), ne (by decide), ne (by decide), ?_, ?_, ?_, ?_, ?_, ?_, by simp, by simp, ?_, ?_⟩
          ⟨hz, hTI, ⟨_, _, hTO⟩, by simpa [strIterType, ha'] using hi1, hi2, hl2.at fun o e => hk _ o e⟩ hl new (fun c hc => .inl (by simpa using hc)) hf2 (fun j v p hj hp => ?_) hP2 hd hn
        · simp only [List.mem_cons, List.not_mem_nil, or_false]; exact (ne0 (by decide)).symm
        · simp only [List.mem_cons, List.not_mem_nil, or_false, not_or]; exact ⟨ne (by decide), (a 4).symm⟩
        · simp only [List.mem_cons, List.not_mem_nil, or_false]; exact (ne0 (by decide)).symm
        · simp only [List.mem_cons, List.not_mem_nil, or_false, not_or]; exact ⟨ne (by decide), (a 2).symm⟩
        · simp only [List.mem_cons, List.not_mem_nil, or_false]; exact (ne0 (by decide)).symm
        · simp only [List.mem_cons, List.not_mem_nil, or_false, not_or]; exact ⟨ne (by decide), (a 3).symm⟩
        · simp only [List.mem_cons, List.not_mem_nil, or_false, not_or]; exact ⟨ne0 (by decide), a0.symm⟩
        · simp only [List.mem_cons, List.not_mem_nil, or_false]; exact (ne0 (by decide)).symm
        · obtain ⟨c, hc, rfl⟩ := chars_get hp
          obtain ⟨c', u, h1, rfl⟩ := hj
          rw [hc] at h1; cases h1
          exact vr_str _ _ _
      · cases hi
    · cases hi
  · cases hq
theorem d_listzip {v w : Value} {p q : PV} {r : Res} {n : Nat} (R : Room n A) (S : Γ.St μ H σ s) (hv : VR μ (gr s.heap H) v p) (hw : VR μ (gr s.heap H) w q) (e : callBi .listzip [p, q] σ = some r) :
    WP Γ A (call (.type "zip") [v, w]) (fun x s₁ => WP Γ A (call (.type "list") [x]) (Post Γ μ H s.heap s.os (RR s.heap r) σ) s₁) s := by
  obtain ⟨xs, h1, e1⟩ := bn_some e
  obtain ⟨ys, h2, e2⟩ := bn_some e1
  obtain ⟨hc, e3⟩ := gd_some e2
  obtain ⟨ds, hd, e4⟩ := mp_some e3
  rw [← e4]
  exact call_zipL R.hand S hv hw h1 h2 hc.1.1 hc.1.2 hd (Nat.le_trans (Nat.le_of_lt hc.2) (by decide))
end
end Mine
end
section
namespace Mine
open PySem PySem.W PySem.Calls PyProof.Rows
section
variable {prog : Program} {w : World} {A : Around} {E : Value → Shared → Prop} {s : Shared} {a : Addr} {vs : List Value}
theorem q_list_sort {n : Nat} {P : PySem.Fin → Shared → Prop} (ho : s.heap.get? a = some (seqObj "list" vs.toArray n)) (h2 : 2 ≤ vs.length) (h64 : vs.length < 64)
    (h : ∀ e1 h', (∀ b o, b ≠ a → s.heap.get? b = some o → h'.get? b = some o) → h'.get? a = some (seqObj "list" #[] e1) →
      wpAny (model prog w) A (keyKind' vs.toArray) (fun κ s' => (kas_sort vs.length).kasWp (kas_ask prog w A κ vs) (fun p s'' => s''.heap.get? a = some (seqObj "list" #[] e1) ∧
        ∀ h3 c2, Heap.SameBut a s''.heap h3 → h3.get? a = some (seqObj "list" (List.toArray (p.toList.map fun i => vs.getD i Value.none)) c2) → P (.done (.ret .none)) { s'' with heap := h3 }) s') (fun _ _ => False) { s with heap := h' }) :
    wpAny (model prog w) A (Builtin.«list.sort» ⟨[.ref a], []⟩) P E s := by
  obtain ⟨e1, ho1⟩ : ∃ e1, (s.heap.update a (Obj.mapSeq fun _ => (#[] : Array Value))).get? a = some (seqObj "list" #[] e1) := ⟨_, get?_update_seq ho fun _ => #[]⟩
  have s1 := Heap.SameBut.update s.heap a (Obj.mapSeq fun _ => (#[] : Array Value))
  have ask := h e1 (((s.heap.update a (Obj.mapSeq fun _ => (#[] : Array Value))).push (seqObj "tuple" vs.toArray 0)).push (seqObj "list" #[] 0))
    (fun b o hb e => Heap.get?_push_of_some _ (Heap.get?_push_of_some _ (s1.extBut b o hb e))) (Heap.get?_push_of_some _ (Heap.get?_push_of_some _ ho1))
  rw [list_sort_plain]
  refine wpAny_bind (listItems_at ho rfl ?_)
  refine wpAny_bind (listUpdate_at ho rfl ?_ (by rw [List.size_toArray, sizeLine_eq]; (first | lia | omega)) (Nat.zero_le _))
  refine wpAny_bind (seqEpoch_at ho1 rfl ?_)
  refine wpAny_bind (wpAny_newTuple ?_ (by show vs.length ≤ _; rw [sizeLine_eq]; (first | lia | omega)))
  refine wpAny_bind (wpAny_newList ?_ (Nat.zero_le _))
  refine wpAny_holding ?_
  show wpAny (model prog w) A _ P E { s with heap := ((s.heap.update a (Obj.mapSeq fun _ => (#[] : Array Value))).push (seqObj "tuple" vs.toArray 0)).push (seqObj "list" #[] 0) }
  dsimp only
  have hn2 : ¬ vs.toArray.size < 2 := by rw [List.size_toArray]; (first | lia | omega)
  rw [if_neg hn2, if_neg hn2]
  refine wpAny_bind (wpAny_mono ask (fun κ s0 hk => ?_) fun _ _ x => x.elim)
  refine wpAny_bind (wpAny_mono (kat_run (Q := fun st' s' => ∃ p : Array Nat, p.size = vs.length ∧ arrOf st' = p.map (kas_item (vs.toArray.zip vs.toArray)) ∧ failedOf st' = none ∧ (s'.heap.get? a = some (seqObj "list" #[] e1) ∧
        ∀ h3 c2, Heap.SameBut a s'.heap h3 → h3.get? a = some (seqObj "list" (List.toArray (p.toList.map fun i => vs.getD i Value.none)) c2) → P (.done (.ret .none)) { s' with heap := h3 }))
    rfl h2 h64 (fun p' st' s' a1 a2 a3 a4 => ⟨p', a1, a2, a3, a4⟩) hk) ?_ fun _ _ e => e)
  rintro ⟨⟨⟩, st'⟩ s' ⟨p, hp, har, hf, na, k⟩
  dsimp only
  have hout := kat_snds rfl har
  have hsz : (List.toArray (p.toList.map fun i => vs.getD i Value.none)).size = vs.length := by rw [List.size_toArray, List.length_map, Array.length_toList, hp]
  rw [hout]
  have s2 := Heap.SameBut.update s'.heap a (Obj.mapSeq fun _ => List.toArray (p.toList.map fun i => vs.getD i Value.none))
  obtain ⟨c2, hc2⟩ : ∃ c2, (s'.heap.update a (Obj.mapSeq fun _ => List.toArray (p.toList.map fun i => vs.getD i Value.none))).get? a = some (seqObj "list" (List.toArray (p.toList.map fun i => vs.getD i Value.none)) c2) := ⟨_, get?_update_seq na fun _ => List.toArray (p.toList.map fun i => vs.getD i Value.none)⟩
  refine wpAny_bind (seqEpoch_at na rfl ?_)
  refine wpAny_bind (listUpdate_at na rfl ?_ (Nat.zero_le _) (Nat.le_trans (Nat.le_of_eq hsz) (by rw [sizeLine_eq]; (first | lia | omega))))
  rw [hf]
  simp only [bne_self_eq_false, Bool.false_eq_true, if_false]
  exact wpAny_pure (k _ c2 s2 hc2)
end
end Mine
end
section
namespace Mine
open PySem PySem.W PySem.Calls PyProof.Rows
section
variable {prog : Program} {w : World} {A : Around} {E : Value → Shared → Prop} {s : Shared} {l : Addr} {vs : List Value}
theorem q_sorted {Q : Value → Shared → Prop} (hl : s.heap.IsList l vs.toArray) (h2 : 2 ≤ vs.length) (h64 : vs.length < 64)
    (h : ∀ D e1 h', s.heap.get? D = none → (∀ b o, s.heap.get? b = some o → h'.get? b = some o) → h'.get? D = some (seqObj "list" #[] e1) →
      wpAny (model prog w) A.in1.in1 (keyKind' vs.toArray) (fun κ s' => (kas_sort vs.length).kasWp (kas_ask prog w A.in1.in1 κ vs) (fun p s'' => s''.heap.get? D = some (seqObj "list" #[] e1) ∧
        ∀ h3 c2, Heap.SameBut D s''.heap h3 → h3.get? D = some (seqObj "list" (List.toArray (p.toList.map fun i => vs.getD i Value.none)) c2) → Q (.ref D) { s'' with heap := h3 }) s') (fun _ _ => False) { s with heap := h' }) :
    wpAny (model prog w) A (call (.builtin "sorted") [.ref l]) Q E s := by
  refine Calls.call_function_entry kind_sorted plain_sorted entry_sorted (args_sorted1 _) ?_
  unfold Builtin.«sorted»
  refine wpAny_bind (m := checkCount "sorted" 1 1 _) (wpAny_pure ?_)
  refine wpAny_bind (collect_list hl ?_ (by rw [sizeLine_eq]; (first | lia | omega)))
  refine wpAny_bind (wpAny_newList ?_ (by rw [sizeLine_eq]; (first | lia | omega)))
  have hsz : ((s.heap.push (seqObj "list" #[] 0)).update s.heap.objs.size (Obj.mapSeq (· ++ vs.toArray))).objs.size = s.heap.objs.size + 1 := by
    rw [Heap.size_update, size_push']
  have hoL : (((s.heap.push (seqObj "list" #[] 0)).update s.heap.objs.size (Obj.mapSeq (· ++ vs.toArray))).push (seqObj "list" vs.toArray 0)).get? (s.heap.objs.size + 1) = some (seqObj "list" vs.toArray 0) := by
    rw [← hsz]; exact Heap.get?_push_size _ rfl
  have keep : ∀ b o, s.heap.get? b = some o → (((s.heap.push (seqObj "list" #[] 0)).update s.heap.objs.size (Obj.mapSeq (· ++ vs.toArray))).push (seqObj "list" vs.toArray 0)).get? b = some o := fun b o q => by
    have hlt : b < s.heap.objs.size := Heap.lt_size q
    rw [Heap.get?_push_ne _ _ _ (by rw [hsz]; exact Nat.ne_of_lt (Nat.lt_succ_of_lt hlt)), Heap.get?_update_ne _ _ _ _ (Nat.ne_of_lt hlt), Heap.get?_push_ne _ _ _ (Nat.ne_of_lt hlt)]
    exact q
  show wpAny _ _ _ _ _ { s with heap := ((s.heap.push (seqObj "list" #[] 0)).update s.heap.objs.size (Obj.mapSeq (· ++ vs.toArray))).push (seqObj "list" vs.toArray 0) }
  rw [hsz]
  refine wpAny_bind (wpAny_holding (wpAny_call_entry slot_list_sort ⟨_, hoL, rfl⟩ entry_list_sort ?body (args_list_sort _)))
  case body =>
    refine q_list_sort (s := { s with heap := ((s.heap.push (seqObj "list" #[] 0)).update s.heap.objs.size (Obj.mapSeq (· ++ vs.toArray))).push (seqObj "list" vs.toArray 0) })
      hoL h2 h64 fun e1 h' hk' ho' => ?_
    refine wpAny_mono (h _ e1 h' (none_at _ 1) (fun b o e => hk' b o (Nat.ne_of_lt (Nat.lt_succ_of_lt (Heap.lt_size e))) (keep b o e)) ho') (fun κ s' hk => ?_) fun _ _ x => x
    rw [kat_ask_eq rfl] at hk ⊢
    exact kas_wp_mono hk fun p s'' hk' => ⟨hk'.1, fun h3 c2 hs ho => ⟨_, rfl, wpAny_pure ⟨_, rfl, hk'.2 h3 c2 hs ho⟩⟩⟩
end
end Mine
end
section
namespace Mine
open PySem PySem.W PySem.Calls PyProof.Rows
section
variable {prog : Program} {w : World} {A : Around} {s : Shared}
theorem run_wp {α : Type} {lt : Nat → Nat → Option Bool} {cmp : Nat → Nat → (Bool → Shared → Prop) → Shared → Prop} (h : ∀ i j b, lt i j = some b → ∀ C : Bool → Shared → Prop, C b s → cmp i j C s) {Q : α → Shared → Prop} :
    ∀ (t : KasT α) (a : α), runT lt t = some a → Q a s → t.kasWp cmp Q s
  | .ret a, b, e, q => by cases e; exact q
  | .ask i j k, a, e, q => by
    obtain ⟨b, hb, e⟩ := bn_some e
    exact h i j b hb _ (run_wp h (k b) a e q)
theorem isPair_eq {d : PyData} (h : isPair d = true) : ∃ a b, d = .tuple [.int a, .int b] := by
  cases d with
  | tuple l =>
    cases l with
    | nil => exact (ft h).elim
    | cons x r =>
      cases x with
      | int a =>
        cases r with
        | nil => exact (ft h).elim
        | cons y t =>
          cases y with
          | int b =>
            cases t with
            | nil => exact ⟨a, b, rfl⟩
            | cons _ _ => exact (ft h).elim
          | _ => exact (ft h).elim
      | _ => exact (ft h).elim
  | _ => exact (ft h).elim
theorem pair_val {μ : List Addr} {g : Heap} {v : Value} {a b : Int} (h : VR μ g v (.d (.tuple [.int a, .int b]))) : ∃ T o n t u, v = .ref T ∧ g.get? T = some o ∧ o.cls = .type "tuple" ∧ o.data = .seq #[.int a t, .int b u] n := by
  obtain ⟨as, r⟩ := v_d h
  obtain ⟨T, o, vs, n, bs, e, h1, h2, h3, h4⟩ := reads_tuple r
  obtain ⟨x, y, el, hx, hy⟩ := vrs_two (readsAll_vrs (μ := μ) h4)
  obtain ⟨t, ex⟩ := v_int hx
  obtain ⟨u, ey⟩ := v_int hy
  rw [ex, ey] at el
  have ev : vs = #[.int a t, .int b u] := Array.toList_inj.mp el
  exact ⟨T, o, n, t, u, e, h1, h2, ev ▸ h3⟩
end
end Mine
end
section
namespace Mine
open PySem PySem.W PySem.Calls PyProof.Rows
section
variable {prog : Program} {w : World} {A : Around} {s : Shared}
theorem pair_lt {x y : Addr} {ox oy : Obj} {a b c d : Int} {ta tb tc td : Tok} {n k : Nat} {r : Bool} {C : Bool → Shared → Prop} (hx : s.heap.get? x = some ox) (dx : ox.data = .seq #[.int a ta, .int b tb] n) (hy : s.heap.get? y = some oy) (dy : oy.data = .seq #[.int c tc, .int d td] k)
    (hr : lt3 (.tuple [.int a, .int b]) (.tuple [.int c, .int d]) = some r) (h : C r s) : wpAny (model prog w) A (keyLt' (tuples' true) (.ref x) (.ref y)) C (fun _ _ => False) s := by
  refine kat_lt hx dx hy dy ?_
  show KatLex prog w A true (decide (2 < 2)) C [(.int a ta, .int c tc), (.int b tb, .int d td)] 0 s
  replace hr : (if (a == c) = true then (if (b == d) = true then some false else some (decide (b < d))) else some (decide (a < c))) = some r := hr
  refine kat_cons (wpAny_eqBool_int ?_)
  cases h1 : (a == c) with
  | false =>
    simp only [h1, Bool.false_eq_true, if_false] at hr
    cases hr
    exact kat_no (oneLt_int h)
  | true =>
    simp only [h1, if_true] at hr
    refine kat_yes (kat_cons (wpAny_eqBool_int ?_))
    cases h2 : (b == d) with
    | false =>
      simp only [h2, Bool.false_eq_true, if_false] at hr
      cases hr
      exact kat_no (kat_one _ _ (P.lt_int h))
    | true =>
      simp only [h2, if_true] at hr
      cases hr
      exact kat_yes (kat_nil h)
end
section
variable {Γ : Cx} {A : Around} {σ : Hp} {μ : List Addr} {H : Addr → Prop} {s : Shared} {n : Nat}
theorem kat_of {g h' : Heap} (hk : ∀ b o, g.get? b = some o → h'.get? b = some o) : ∀ (vs : List Value) (ds : List PyData), VRs μ g vs (ds.map .d) → ds.all isPair = true → ∃ fs, KatTups h' vs fs ∧ fs.length = ds.length ∧ ∀ f ∈ fs, ∃ a t, f = Value.int a t
  | [], [], _, _ => ⟨[], .nil, rfl, fun _ h => nomatch h⟩
  | v :: vs, [], h, _ => by cases h
  | [], d :: ds, h, _ => by cases h
  | v :: vs, d :: ds, h, hp => by
    rw [List.all_cons, Bool.and_eq_true] at hp
    obtain ⟨a, b, rfl⟩ := isPair_eq hp.1
    cases h with
    | cons h1 h2 =>
      obtain ⟨fs, k1, k2, k3⟩ := kat_of hk vs ds h2 hp.2
      obtain ⟨T, o, n, t, u, rfl, g1, g2, g3⟩ := pair_val h1
      refine ⟨.int a t :: fs, .cons (hk _ _ g1) g2 g3 rfl k1, by simp [k2], fun f hf => ?_⟩
      rcases List.mem_cons.mp hf with e | hf
      · exact ⟨a, t, e⟩
      · exact k3 f hf
theorem d_sortPairs {v : Value} {p : PV} {ds ys : List PyData} (S : Γ.St μ H σ s) (hv : VR μ (gr s.heap H) v p) (e : Mine.view σ p = some (.list ds)) (hp : ds.all isPair = true) (hs : sortT ds = some ys) : Does Γ A (call (.builtin "sorted") [v]) μ H s (RR s.heap (.fresh (ys.map .d))) σ := by
  obtain ⟨a, vs, rfl, h1, h2⟩ := vis_view S hv e
  have len := vrs_len h2
  rw [List.length_map] at len
  unfold sortT at hs
  split at hs
  · rename_i hl
    obtain ⟨q, hq, eq⟩ := mp_some hs
    subst eq
    have at' : ∀ i, i < ds.length → ∃ a b v, ds.getD i .none = .tuple [.int a, .int b] ∧ vs.toList.getD i Value.none = v ∧ VR μ (gr s.heap H) v (.d (.tuple [.int a, .int b])) := fun i hi => by
      have hx : ds[i]? = some ds[i] := List.getElem?_eq_getElem hi
      obtain ⟨u, g1, g2⟩ := vrs_get h2 (p := PV.d ds[i]) (i := i) (by rw [List.getElem?_map, hx]; rfl)
      obtain ⟨a, b, hab⟩ := isPair_eq (List.all_eq_true.mp hp ds[i] (List.getElem_mem hi))
      rw [hab] at g2
      exact ⟨a, b, u, by rw [List.getD_eq_getElem?_getD, hx, ← hab]; rfl, by rw [List.getD_eq_getElem?_getD, g1]; rfl, g2⟩
    have h1' : s.heap.IsList a vs.toList.toArray := by simpa using h1
    refine q_sorted h1' (by (first | lia | omega)) (by (first | lia | omega)) fun D e1 h' hD hk hDo => ?_
    obtain ⟨fs, f1, f2, f3⟩ := kat_of (h' := h') (fun b o e => hk b o (only_get.mp e).1) vs.toList ds h2 hp
    refine kat_kind (s := { s with heap := h' }) (T := .type "int") f1 (by (first | lia | omega)) (fun f hf => ?_) (by decide) ?_
    · obtain ⟨b, t, rfl⟩ := f3 f hf
      exact .now
    · rw [len]
      refine run_wp (lt := fun i j => lt3 (ds.getD i .none) (ds.getD j .none)) (fun i j b hb C hC => ?_) _ q hq ⟨hDo, fun h3 c2 hs ho => ?_⟩
      · have bi : i < ds.length := by
          refine Classical.byContradiction fun hn => ?_
          rw [List.getD_eq_getElem?_getD, List.getElem?_eq_none (by (first | lia | omega))] at hb
          cases hb
        have bj : j < ds.length := by
          refine Classical.byContradiction fun hn => ?_
          obtain ⟨a, b, _, e1, _⟩ := at' i bi
          rw [e1, List.getD_eq_getElem?_getD, List.getElem?_eq_none (by (first | lia | omega))] at hb
          cases hb
        obtain ⟨a1, b1, v1, e1, e2, e3⟩ := at' i bi
        obtain ⟨a2, b2, v2, g1, g2, g3⟩ := at' j bj
        rw [e1, g1] at hb
        obtain ⟨T, o, n, t, u, rfl, k1, _, k3⟩ := pair_val e3
        obtain ⟨T', o', n', t', u', rfl, l1, _, l3⟩ := pair_val g3
        show wpAny _ _ (keyLt' (tuples' true) (vs.toList.getD i Value.none) (vs.toList.getD j Value.none)) C _ _
        rw [e2, g2]
        exact pair_lt (hk _ _ (only_get.mp k1).1) k3 (hk _ _ (only_get.mp l1).1) l3 hb hC
      · refine post_fresh (s' := { s with heap := h3 }) S hD (fun b o e => hs.extBut b o (fun q => by rw [q, hD] at e; cases e) (hk b o e)) ho ?_
        generalize q.toList = l
        clear hq
        induction l with
        | nil => exact .nil
        | cons i r ih =>
          refine .cons ?_ ih
          show VR μ (gr s.heap H) (vs.toList.getD i Value.none) (.d (ds.getD i .none))
          by_cases bi : i < ds.length
          · obtain ⟨a1, b1, v1, e1, e2, e3⟩ := at' i bi
            rw [e1, e2]
            exact e3
          · have e1 : vs.toList.getD i Value.none = Value.none := by rw [List.getD_eq_getElem?_getD, List.getElem?_eq_none (by rw [len]; (first | lia | omega))]; rfl
            have e2 : ds.getD i PyData.none = .none := by rw [List.getD_eq_getElem?_getD, List.getElem?_eq_none (by (first | lia | omega))]; rfl
            rw [e1, e2]
            exact vr_none _
  · cases hs
end
end Mine
end
section
namespace Mine
open PySem PySem.W PySem.Calls PyProof.Rows
noncomputable def esS (tok : Nat → Tok) (T : List Nat) : Array (Int × Value) := (T.map fun k => (((k : Nat) : Int), Value.int ((k : Nat) : Int) (tok k))).toArray
noncomputable def tabM (led : Bool) (T : List Nat) : SetTable := { mask := 7, place := T.toArray, dummies := #[], finger := 0, led, moves := 0, plain := true }
noncomputable def tabS (led : Bool) (T : List Nat) : SetTable := if T.length = 5 then { mask := 31, place := T.toArray, dummies := #[], finger := 0, led, moves := 1, plain := true } else tabM led T
noncomputable def insN (k : Nat) : List Nat → List Nat
  | [] => [k]
  | x :: r => if k < x then k :: x :: r else x :: insN k r
noncomputable def updT (tok : Nat → Tok) (k : Nat) (t : Tok) : Nat → Tok := fun j => if j = k then t else tok j
noncomputable def subsN : List (List Nat) := [0, 1, 2, 3, 4].foldr (fun a r => r ++ r.map (a :: ·)) [[]]
noncomputable def addsN : List (List Nat × Nat) := subsN.flatMap fun T => ((List.range 5).filter fun k => !T.contains k).map fun k => (T, k)
theorem lay_all {led : Bool} {tok : Nat → Tok} {t : Tok} : addsN.map (fun x => layNew (tabS led x.1) (esS tok x.1) (hashInt ((x.2 : Nat) : Int)) (.int ((x.2 : Nat) : Int) t)) = addsN.map fun x => (esS (updT tok x.2 t) (insN x.2 x.1), tabM led (insN x.2 x.1), false, false) := by kernel_rfl
theorem full_all {led : Bool} : addsN.map (fun x => (tabM led (insN x.2 x.1)).tooFull) = addsN.map fun x => decide ((insN x.2 x.1).length = 5) := by kernel_rfl
theorem relay_all {led : Bool} {tok : Nat → Tok} : relayAll (tabM led [0, 1, 2, 3, 4]) (esS tok [0, 1, 2, 3, 4]) (SetTable.grown (esS tok [0, 1, 2, 3, 4]).size) = (esS tok [0, 1, 2, 3, 4], tabS led [0, 1, 2, 3, 4], false) := by kernel_rfl
theorem five_all : addsN.all (fun x => if (insN x.2 x.1).length = 5 then insN x.2 x.1 == [0, 1, 2, 3, 4] else true) = true := by kernel_rfl
theorem subs_ins : addsN.all (fun x => subsN.contains (insN x.2 x.1)) = true := by kernel_rfl
theorem fits_all {led : Bool} : subsN.map (fun T => (tabS led T).fits T.length) = subsN.map fun _ => true := by kernel_rfl
end Mine
end
section
namespace Mine
open PySem PySem.W PySem.Calls PyProof.Rows
inductive SmSet (led : Bool) (h : Heap) (a : Addr) (T : List Nat) : Prop
  | mk (ep : Nat) (tok : Nat → Tok) (ho : h.get? a = some { cls := .type "set", dict := none, data := .set (esS tok T) ep (tabS led T), slots := #[] }) (hT : T ∈ subsN)
theorem subs_lt : ∀ T ∈ subsN, ∀ k ∈ T, k < 5 := by decide
theorem subs_len : ∀ T ∈ subsN, T.length ≤ 5 := by decide
theorem hash_small : ∀ k, k < 5 → hashInt ((k : Nat) : Int) = ((k : Nat) : Int) := by decide +kernel
theorem esS_size (tok : Nat → Tok) (T : List Nat) : (esS tok T).size = T.length := by unfold esS; rw [List.size_toArray, List.length_map]
theorem fits_S {led : Bool} {tok : Nat → Tok} {T : List Nat} (h : T ∈ subsN) : (tabS led T).fits (esS tok T).size = true := by
  rw [esS_size]
  exact List.map_inj_left.mp fits_all T h
theorem map_one {α β : Type} {f g : α → β} : ∀ {l : List α}, l.map f = l.map g → ∀ x ∈ l, f x = g x := fun h x hx => List.map_inj_left.mp h x hx
section
variable {prog : Program} {w : World} {A : Around} {E : Value → Shared → Prop} {s : Shared} {led : Bool}
theorem elems_S {tok : Nat → Tok} {T : List Nat} (h : T ∈ subsN) : ElemsOf (intKind prog w) (esS tok T).toList := by
  intro e he
  unfold esS at he
  obtain ⟨k, hk, q⟩ := List.mem_map.mp he
  subst q
  exact ⟨⟨((k : Nat) : Int), intKind_is _ _ _ _, (hash_small k (subs_lt T h k hk)).symm⟩, rfl⟩
theorem adds_mem {T : List Nat} {k : Nat} (hT : T ∈ subsN) (hk : k < 5) (hn : T.contains k = false) : (T, k) ∈ addsN :=
  List.mem_flatMap.mpr ⟨T, hT, List.mem_map.mpr ⟨k, List.mem_filter.mpr ⟨List.mem_range.mpr hk, by rw [hn]; rfl⟩, rfl⟩⟩
noncomputable def addN (k : Nat) (T : List Nat) : List Nat := if T.contains k then T else insN k T
theorem sm_add {a : Addr} {T : List Nat} {k : Nat} {t : Tok} {Q : Bool → Shared → Prop} (hk : k < 5) (hS : SmSet led s.heap a T)
    (h : ∀ b h', Heap.SameBut a s.heap h' → SmSet led h' a (addN k T) → Q b { s with heap := h' }) :
    wpAny (model prog w) A (setAddHashed a (.int ((k : Nat) : Int) t) (hashInt ((k : Nat) : Int))) Q E s := by
  obtain ⟨ep, tok, ho, hT⟩ := hS
  have hf := fits_S (led := led) (tok := tok) hT
  have hel := elems_S (prog := prog) (w := w) (tok := tok) hT
  have hlen := subs_len T hT
  have hb : (esS tok T).size < scanBound := by rw [esS_size]; exact Nat.lt_of_le_of_lt hlen (by decide)
  unfold setAddHashed setAddHashedIn
  refine wpAny_holding (wpAny_bind (wpAny_setState_of ho rfl hf ?_))
  dsimp only
  rw [byScan_of (knd := intKind prog w) rfl hb hel]
  simp only [↓reduceIte]
  unfold setAddByScan
  refine wpAny_bind ?_
  refine wpAny_bind (wpAny_rule ?_)
  refine wpAny_bind (wpAny_setScan_of (knd := intKind prog w) (k := ((k : Nat) : Int)) (intKind_is _ _ _ _) ho rfl hf hel ?_)
  cases hr : List.findIdx? (fun e => (intKind prog w).is ((k : Nat) : Int) e.2) (esS tok T).toList with
  | some j =>
    dsimp only
    obtain ⟨hj, hpj, _⟩ := List.findIdx?_eq_some_iff_getElem.mp hr
    have hc : T.contains k = true := by
      have hm := List.getElem_mem hj
      unfold esS at hm
      obtain ⟨k', hk', q⟩ := List.mem_map.mp hm
      have e : ((k : Nat) : Int) = ((k' : Nat) : Int) := by
        have e1 := intKind_is prog w ((k' : Nat) : Int) (tok k')
        have e2 : (esS tok T).toList[j].2 = .int ((k' : Nat) : Int) (tok k') := (congrArg Prod.snd q).symm
        rw [e2] at hpj
        exact (intKind prog w).inj _ _ _ hpj e1
      rw [show k = k' from by (first | lia | omega)]
      exact List.contains_iff_mem.mpr hk'
    refine wpAny_pure (wpAny_pure ?_)
    have q := h false s.heap (Heap.SameBut.refl a s.heap) (by unfold addN; rw [if_pos hc]; exact ⟨ep, tok, ho, hT⟩)
    exact q
  | none =>
    dsimp only
    have hc : T.contains k = false := by
      refine Bool.eq_false_iff.mpr fun hc => ?_
      have := List.findIdx?_eq_none_iff.mp hr (((k : Nat) : Int), Value.int ((k : Nat) : Int) (tok k)) (by
        unfold esS
        exact List.mem_map.mpr ⟨k, List.contains_iff_mem.mp hc, rfl⟩)
      rw [intKind_is] at this
      cases this
    have hm := adds_mem hT hk hc
    have hL := map_one (lay_all (led := led) (tok := tok) (t := t)) _ hm
    have hF := map_one (full_all (led := led)) _ hm
    have h5 := List.all_eq_true.mp five_all _ hm
    have hI := List.contains_iff_mem.mp (List.all_eq_true.mp subs_ins _ hm)
    dsimp only at hL hF h5 hI
    rw [hL]
    dsimp only
    generalize hT' : insN k T = T' at hF h5 hI
    have hsz : (esS (updT tok k t) T').size ≤ sizeLine := by rw [esS_size]; exact Nat.le_trans (subs_len T' hI) (by decide)
    refine wpAny_bind (wpAny_pure ?_)
    refine wpAny_bind ?_
    refine wpAny_of_eq (a := true) (hashByValue_scannable 8 (x := .int ((k : Nat) : Int) t) rfl) ?_
    simp only [↓reduceIte]
    have fin : ∀ h', Heap.SameBut a s.heap h' → SmSet led h' a T' → Q true { s with heap := h' } := fun h' sb hs => h true h' sb (by unfold addN; rw [if_neg (by rw [hc]; exact Bool.false_ne_true), hT']; exact hs)
    refine wpAny_bind (wpAny_storeSet_of ho rfl ?_ hsz)
    have put : ∀ {h : Heap} {es : Array (Int × Value)} {ep : Nat} {t : SetTable} (es' : Array (Int × Value)) (t' : SetTable), h.get? a = some { cls := .type "set", dict := none, data := .set es ep t, slots := #[] } →
        (h.update a (Obj.putSet es' t')).get? a = some { cls := .type "set", dict := none, data := .set es' (ep + 1) t', slots := #[] } := fun es' t' ho => Heap.get?_update_self (Obj.putSet es' t') ho rfl
    have ho1 := put (esS (updT tok k t) T') (tabM led T') ho
    rw [hF]
    by_cases c5 : T'.length = 5
    · rw [if_pos c5] at h5
      have e5 : T' = [0, 1, 2, 3, 4] := eq_of_beq h5
      subst e5
      rw [if_pos (by rfl), relay_all]
      refine wpAny_bind (wpAny_pure ?_)
      refine wpAny_bind (wpAny_storeSet_of ho1 rfl ?_ hsz)
      exact wpAny_pure (wpAny_pure (fin _ ((Heap.SameBut.update _ _ _).trans (Heap.SameBut.update _ _ _)) ⟨_, _, put _ _ ho1, hI⟩))
    · rw [if_neg (by rw [decide_eq_false c5]; exact Bool.false_ne_true)]
      refine wpAny_pure (wpAny_pure (fin _ (Heap.SameBut.update _ _ _) ⟨ep + 1, updT tok k t, ?_, hI⟩))
      rw [show tabS led T' = tabM led T' from if_neg c5]
      exact ho1
end
end Mine
end
section
namespace Mine
open PySem PySem.W PySem.Calls PyProof.Rows
noncomputable def stT (val : Nat → Nat) : Nat → Nat → List Nat → List Nat
  | 0, _, T => T
  | k + 1, i, T => stT val k (i + 1) (addN (val i) T)
section
variable {prog : Program} {w : World} {A : Around} {led : Bool}
theorem SmSet.keep {h h' : Heap} {a : Addr} {T : List Nat} (x : SmSet led h a T) (k : ∀ o, h.get? a = some o → h'.get? a = some o) : SmSet led h' a T := by
  obtain ⟨ep, tok, ho, hT⟩ := x
  exact ⟨ep, tok, k _ ho, hT⟩
theorem sm_loop {R : Result → Shared → Prop} {I : Addr} {fp wr : List Addr} {G : Array GenState → Array GenState → Prop} {n : Nat} {P : Nat → Value → Prop} {St : Nat → Shared → Prop} (W : WalksS prog w A.in1 I fp wr G n P St) (S : Addr) (hSf : S ∉ fp)
    (val : Nat → Nat) (hval : ∀ i v, i < n → P i v → val i < 5 ∧ ∃ t, v = .int ((val i : Nat) : Int) t) :
    ∀ (k i : Nat) (s : Shared) (T : List Nat), n - i = k → i ≤ n → St i s → SmSet led s.heap S T →
      (∀ s', Moved (S :: wr) G s s' → SmSet led s'.heap S (stT val k i T) → R (.ok (.ret .none)) s') →
      codeAny (model prog w) A (.builtin "set.update.loop" ⟨[.ref S, .ref I], []⟩) R s := by
  have hSw : S ∉ wr := fun h => hSf (W.sub _ h)
  have hsub : ∀ b ∈ wr, b ∈ S :: wr := fun b hb => List.mem_cons_of_mem _ hb
  intro k
  induction k with
  | zero =>
    intro i s T hk hi hst hS hR
    have hin : i = n := by (first | lia | omega)
    subst hin
    refine codeAny_builtin PyProof.Rows.F.entry_set_update_loop ?_
    rw [Around.under_plainId PyProof.Rows.F.plain_set_update_loop _]
    show wpAny _ A.in1 (pyNext (.ref I) >>= _) _ _ s
    refine wpAny_bind (W.done s _ _ hst fun s' hm => ?_)
    show wpAny _ A.in1 (ret Value.none) _ _ s'
    exact wpAny_pure (hR s' (hm.mono hsub) (hS.keep fun o e => hm.heap S o hSw e))
  | succ k ih =>
    intro i s T hk hi hst hS hR
    have hlt : i < n := by (first | lia | omega)
    refine codeAny_builtin PyProof.Rows.F.entry_set_update_loop ?_
    rw [Around.under_plainId PyProof.Rows.F.plain_set_update_loop _]
    show wpAny _ A.in1 (pyNext (.ref I) >>= _) _ _ s
    refine wpAny_bind (W.item i s _ _ hlt hst fun v s' hP hst' hm => ?_)
    obtain ⟨h5, t, e⟩ := hval i v hlt hP
    subst e
    have hS' : SmSet led s'.heap S T := hS.keep fun o e => hm.heap S o hSw e
    show wpAny _ A.in1 (holding [Value.int _ t] (setAdd S (.int _ t)) >>= _) _ _ s'
    refine wpAny_bind (wpAny_holding ?_)
    unfold setAdd
    refine wpAny_holding ?_
    refine wpAny_bind ((intKind prog w).pyHash (k := ((val i : Nat) : Int)) (intKind_is _ _ _ _) ?_)
    refine sm_add (s := { s' with toks := s'.toks + 1 }) h5 hS' fun b h' sb hS2 => ?_
    refine wpAny_pure ⟨plainId_quiet PyProof.Rows.F.plain_set_update_loop _, ih (i + 1) _ (addN (val i) T) (by (first | lia | omega)) hlt (W.frame _ s' _ _ hst' (Nat.le_succ _) fun b hb o e => ?_) hS2 fun s'' hm'' hS'' => ?_⟩
    · rw [sb.2 b (fun h : b = S => hSf (by rw [← h]; exact hb))]; exact e
    · refine hR s'' (Moved.trans W.gtrans ((hm.mono hsub).then_heap (Nat.le_succ _) fun b o hb e => ?_) hm'') hS''
      rw [sb.2 b (fun h : b = S => hb (by rw [h]; exact List.mem_cons_self))]; exact e
end
section
variable {prog : Program} {w : World} {A : Around} {E : Value → Shared → Prop} {s : Shared}
noncomputable def byTx (w : World) : Bool := w.params.followText "set-order"
theorem sm_new (a : Value) {Q₁ : Value → Shared → Prop}
    (h : Q₁ (.ref s.heap.objs.size) { s with heap := s.heap.push { cls := .type "set", dict := none, data := .set #[] 0 (.fresh 0 0 (!byTx w)) } }) :
    codeAny (model prog w) A (.call (.builtin "set.__new__") ⟨[.type "set", a], []⟩) (wants Q₁ E) s := by
  refine codeAny_of_tree ?_
  show wpAny _ A.in1 (do checkBuiltinCall "set.__new__" ⟨[.type "set", a], []⟩; again (.builtin "set.__new__" ⟨[.type "set", a], []⟩)) _ _ s
  refine wpAny_bind (wpAny_of_eq (PySem.F.newCall_set_1 a) (wpAny_pure ⟨plainId_quiet PySem.F.plain_set_new _, codeAny_builtin PySem.F.entry_set_new ?_⟩))
  rw [Around.under_plainId PySem.F.plain_set_new _]
  unfold Builtin.«set.__new__» Builtin.Frozenset.newClass
  have hsub := sub_set_self
  obtain ⟨hp, g, d, tk, os⟩ := s
  dsimp only
  wp_walk
  refine wpAny_askSetting (wpAny_pure ?_)
  dsimp only
  simp only [newObj]
  refine wpAny_bind (wpAny_alloc (wpAny_pure ?_))
  exact wpAny_pure h
end
end Mine
end
section
namespace Mine
open PySem PySem.W PySem.Calls PyProof.Rows
section
variable {prog : Program} {w : World} {A : Around} {E : Value → Shared → Prop} {s : Shared}
set_option maxHeartbeats 1000000 in
theorem sm_call {l : Addr} {items : Array Value} {val : Nat → Nat} {Q : Value → Shared → Prop}
    (hh : A.handled = none) (hl : s.heap.IsList l items) (hv : ∀ i v, items[i]? = some v → val i < 5 ∧ ∃ t, v = .int ((val i : Nat) : Int) t)
    (h : ∀ (h' : Heap) (tk : Nat), SmSet (!byTx w) h' s.heap.objs.size (stT val items.size 0 []) → s.heap.objs.size < h'.objs.size → (∀ b o, b < s.heap.objs.size → s.heap.get? b = some o → h'.get? b = some o) → Q (.ref s.heap.objs.size) { s with heap := h', toks := tk }) :
    wpAny (model prog w) A (call (.type "set") [.ref l]) Q E s := by
  obtain ⟨c, tl, hmro⟩ := PySem.F.called_set.mro
  have hmade := PySem.F.called_set.made
  have hsub := PySem.F.called_set.sub
  refine wpAny_call (codeAny_of_tree ?_)
  show wpAny _ _ (callAny (.type "set") _) _ _ _
  refine wpAny_pure ⟨Code.quiet_builtin _ (by decide +kernel), codeAny_builtin PySem.F.entry_type_call ?_⟩
  rw [Around.under_plain (weight_type_call_type "set" [.ref l] []) rfl]
  have h1 := PySem.F.called_set.notType
  have h2 := PySem.F.called_set.canCreate
  have hct := PySem.F.typeCall_set_1 (.ref l)
  repeat (any_goals (first | assumption | wp_step))
  refine codeAny_mono (sm_new (.ref l) (E := E) (Q₁ := fun obj s₁ => obj = .ref s.heap.objs.size ∧ s₁ = { s with heap := s.heap.push { cls := .type "set", dict := none, data := .set #[] 0 (.fresh 0 0 (!byTx w)) } }) ⟨rfl, rfl⟩) fun r s₁ hr => ?_
  cases r with
  | error e => exact hr
  | ok fl =>
    cases fl with
    | ret obj =>
      obtain ⟨rfl, rfl⟩ := hr
      have hS : (s.heap.push { cls := .type "set", dict := none, data := .set #[] 0 (.fresh 0 0 (!byTx w)) }).get? s.heap.objs.size = some { cls := .type "set", dict := none, data := .set #[] 0 (.fresh 0 0 (!byTx w)) } := Heap.get?_push_size _ rfl
      have hT : Shared.TypeIs { s with heap := s.heap.push { cls := .type "set", dict := none, data := .set #[] 0 (.fresh 0 0 (!byTx w)) } } (.ref s.heap.objs.size) "set" := ⟨_, hS, rfl⟩
      have hli := PySem.F.called_set.init.lookup
      have hbi := PySem.F.called_set.init.bind (.ref s.heap.objs.size)
      repeat (any_goals (first | assumption | wp_step))
      refine codeAny_mono (codeAny_call_builtin (R := wants (fun r s₂ => r = .none ∧ Q (.ref s.heap.objs.size) s₂) E) PySem.F.called_set.init.plain PySem.F.entry_set_init (check_set_init_1 hT ?_)) fun r₂ s₂ hr₂ => ?_
      · obtain ⟨ol, hol, hcl, nl, hdl⟩ := hl
        obtain ⟨ocls, odict, odata, oslots⟩ := ol
        simp only at hcl hdl
        subst hcl; subst hdl
        have hol' : (s.heap.push { cls := .type "set", dict := none, data := .set #[] 0 (.fresh 0 0 (!byTx w)) }).get? l = some { cls := .type "list", dict := odict, data := .seq items nl, slots := oslots } := Heap.get?_push_of_some _ hol
        have hsls := PySem.F.sub_list_set
        have hslf := PySem.F.sub_list_frozenset
        have hne : (Value.type "list" == Value.type "dict") = false := by decide
        have hl1 : (s.heap.push { cls := .type "set", dict := none, data := .set #[] 0 (.fresh 0 0 (!byTx w)) }).IsList l items := ⟨_, hol', rfl, nl, rfl⟩
        unfold Builtin.«set.__init__» noKeywords Builtin.Frozenset.updateFrom
        generalize hPI : pyIter = PI
        wp_walk
        subst hPI
        refine wpAny_pyIter_list hl1 ?_
        refine wpAny_bind (wpAny_runValue ?_)
        have hlS : l < s.heap.objs.size := Heap.lt_size hol
        have hh3 : A.in1.in1.in1.handled = none := by simp [hh]
        have hneI : l ≠ (s.heap.push { cls := .type "set", dict := none, data := .set #[] 0 (.fresh 0 0 (!byTx w)) }).objs.size := by
          rw [Heap.size_push]; exact Nat.ne_of_lt (Nat.lt_succ_of_lt hlS)
        have hSf : s.heap.objs.size ∉ [(s.heap.push { cls := .type "set", dict := none, data := .set #[] 0 (.fresh 0 0 (!byTx w)) }).objs.size, l] := by
          rw [Heap.size_push]; simp only [List.mem_cons, List.not_mem_nil, or_false, not_or]
          exact ⟨Nat.ne_of_lt (Nat.lt_succ_self _), Nat.ne_of_gt hlS⟩
        refine sm_loop (Walks.list hh3 _ l hneI items).toS s.heap.objs.size hSf val (fun i v _ hi => hv i v hi) items.size 0 _ [] (Nat.sub_zero _) (Nat.zero_le _)
          ⟨⟨_, Heap.get?_push_size _ rfl, rfl, rfl⟩, hl1.push _⟩ ⟨0, fun _ => default, Heap.get?_push_of_some _ hS, by decide⟩ fun s' hm hS' => ?_
        obtain ⟨h', g', d', tk', os'⟩ := s'
        have eg : g' = s.gens := hm.gens
        have ed : d' = s.drawn := hm.drawn
        have eo : os' = s.os := hm.os
        subst eg; subst ed; subst eo
        show wpAny _ _ _ _ _ _
        refine wpAny_pure ?_
        show wpAny _ _ (ret Value.none) _ _ _
        have hS2 : SmSet (!byTx w) h' s.heap.objs.size (stT val items.size 0 []) := hS'
        refine wpAny_pure ⟨rfl, h h' tk' hS2 (by obtain ⟨_, _, e, _⟩ := hS2; exact Heap.lt_size e) fun b o hb e => ?_⟩
        have hb1 : b ≠ s.heap.objs.size := Nat.ne_of_lt hb
        have hb2 : b ≠ (s.heap.push { cls := .type "set", dict := none, data := .set #[] 0 (.fresh 0 0 (!byTx w)) }).objs.size := by
          rw [Heap.size_push]; exact Nat.ne_of_lt (Nat.lt_succ_of_lt hb)
        exact hm.heap b o (by simp only [List.mem_cons, List.not_mem_nil, or_false, not_or]; exact ⟨hb1, hb2⟩) (Heap.get?_push_of_some _ (Heap.get?_push_of_some _ e))
      · cases r₂ with
        | error e => exact hr₂
        | ok fl₂ =>
          cases fl₂ with
          | ret r =>
            obtain ⟨rfl, hq⟩ := hr₂
            repeat (any_goals (first | assumption | wp_step))
          | _ => exact hr₂.elim
    | _ => exact hr.elim
end
end Mine
end
section
namespace Mine
open PySem PySem.W PySem.Calls PyProof.Rows
theorem slot_si_next : Slot "set_iterator" "__next__" "set_iterator.__next__" :=
  .of (owner := "set_iterator") (n := "__next__") (by rw [typeLookup_type, builtinLookup_eq_fast]; kernel_rfl) (by decide +kernel) (by decide +kernel) (by decide +kernel)
    (by first | exact .inl (by decide +kernel) | exact .inr (by decide +kernel)) (by rw [isSubtype_type]; kernel_rfl)
theorem entry_si_next : entryFor table "set_iterator.__next__" = some Builtin.«set_iterator.__next__» := entryFor_of_fast (by kernel_rfl)
theorem args_si_next (a : Value) : argsOk "set_iterator.__next__" ⟨[a], []⟩ := by
  unfold argsOk; kernel_rfl
theorem entry_set_iter : entryFor table "set.__iter__" = some Builtin.«frozenset.__iter__» :=
  entryFor_alias (id' := "frozenset.__iter__") (by kernel_rfl) rfl (by decide +kernel) (by kernel_rfl)
noncomputable def slotAt (T : List Nat) : Nat → Nat
  | 0 => 0
  | i + 1 => T.getD i 0 + 1
theorem below_all : ∀ T ∈ subsN, ∀ i, i ≤ T.length → SetTable.below T.toArray (slotAt T i) = i := by decide +kernel
theorem cons_erase {α : Type} : ∀ {l : List α} {i : Nat} (h : i < l.length), (l[i] :: l.eraseIdx i).Perm l
  | _ :: _, 0, _ => .refl _
  | a :: r, i + 1, h => (List.Perm.swap _ _ _).trans ((cons_erase (l := r) (i := i) (Nat.lt_of_succ_lt_succ h)).cons a)
theorem pick_go {α : Type} (next : Nat → Nat) : ∀ (fuel k : Nat) (left : List α) (out : Array α), left.length = fuel → (pickOrder.go next fuel k left out).toList.Perm (out.toList ++ left)
  | 0, k, left, out, h => by
    rw [List.length_eq_zero_iff.mp h, List.append_nil]
    exact .refl _
  | fuel + 1, k, left, out, h => by
    have hl : next k % left.length < left.length := Nat.mod_lt _ (by (first | lia | omega))
    unfold pickOrder.go
    rw [List.getElem?_eq_getElem hl]
    dsimp only
    refine (pick_go next fuel (k + 1) (left.eraseIdx (next k % left.length)) _ (by rw [List.length_eraseIdx_of_lt hl]; (first | lia | omega))).trans ?_
    rw [Array.toList_push, List.append_assoc]
    exact (cons_erase hl).append_left _
theorem pick_perm {α : Type} (next : Nat → Nat) (xs : Array α) : (pickOrder next xs).toList.Perm xs.toList := (pick_go next xs.size 0 xs.toList #[] (Array.length_toList)).trans (by rw [show (#[] : Array α).toList = [] from rfl, List.nil_append])
noncomputable def ordS (w : World) (a : Addr) (ep : Nat) (es : Array (Int × Value)) : Array (Int × Value) := if byTx w then pickOrder (w.params.setOrder a ep) es else es
theorem ord_perm (w : World) (a : Addr) (ep : Nat) (es : Array (Int × Value)) : (ordS w a ep es).toList.Perm es.toList := by
  unfold ordS
  split
  · exact pick_perm _ _
  · exact .refl _
theorem ord_size (w : World) (a : Addr) (ep : Nat) (es : Array (Int × Value)) : (ordS w a ep es).size = es.size := by
  rw [← Array.length_toList, (ord_perm w a ep es).length_eq, Array.length_toList]
noncomputable def slotW (w : World) (T : List Nat) (i : Nat) : Nat := if byTx w then 0 else slotAt T i
section
variable {prog : Program} {w : World} {A : Around} {E : Value → Shared → Prop} {s : Shared}
theorem set_state {a : Addr} {T : List Nat} {ep : Nat} {tok : Nat → Tok} {Q : (Array (Int × Value) × Nat × SetTable) → Shared → Prop} (hT : T ∈ subsN)
    (ho : s.heap.get? a = some { cls := .type "set", dict := none, data := .set (esS tok T) ep (tabS (!byTx w) T), slots := #[] }) (h : Q (esS tok T, ep, tabS (!byTx w) T) s) : wpAny (model prog w) A (setState a) Q E s :=
  wpAny_setState_of ho rfl (fits_S hT) h
theorem tab_plain (led : Bool) (T : List Nat) : (tabS led T).plain = true := by unfold tabS; split <;> rfl
theorem tab_led (led : Bool) (T : List Nat) : (tabS led T).led = led := by unfold tabS; split <;> rfl
theorem tab_place (led : Bool) (T : List Nat) : (tabS led T).place = T.toArray := by unfold tabS; split <;> rfl
noncomputable def drawnS (es : Array (Int × Value)) (t : SetTable) : Bool := !t.plain && es.size > 1
theorem set_walk {a : Addr} {T : List Nat} {ep : Nat} {tok : Nat → Tok} {Q : Array (Int × Value) → Shared → Prop} (hT : T ∈ subsN)
    (ho : s.heap.get? a = some { cls := .type "set", dict := none, data := .set (esS tok T) ep (tabS (!byTx w) T), slots := #[] })
    (h : Q (ordS w a ep (esS tok T)) s) : wpAny (model prog w) A (setWalk a) Q E s := by
  unfold setWalk
  refine wpAny_bind (set_state hT ho ?_)
  dsimp only
  unfold setsByText
  refine wpAny_bind (wpAny_bind (wpAny_askSetting (wpAny_pure ?_)))
  dsimp only
  unfold ordS at h
  cases hb : byTx w with
  | true =>
    have hb' : w.params.followText "set-order" = true := hb
    rw [hb] at h
    simp only [model, hb', if_true]
    exact wpAny_bind (wpAny_askSetting (wpAny_pure h))
  | false =>
    have hb' : w.params.followText "set-order" = false := hb
    rw [hb] at h
    simp only [model, hb', Bool.false_eq_true, if_false]
    show wpAny _ _ (if drawnS (esS tok T) (tabS (!false) T) = true then _ else _) _ _ _
    rw [if_neg (show ¬ (drawnS (esS tok T) (tabS (!false) T) = true) from by unfold drawnS; rw [tab_plain]; exact Bool.false_ne_true)]
    refine wpAny_bind ?_
    show wpAny _ _ (if (!(tabS (!false) T).led && decide ((esS tok T).size > 1)) = true then _ else pure ()) _ _ _
    rw [tab_led, if_neg (by exact Bool.false_ne_true)]
    exact wpAny_pure (wpAny_pure h)
theorem set_next {a : Addr} {T : List Nat} {ep i : Nat} {tok : Nat → Tok} {Q : Option (Value × Nat) → Shared → Prop} (hT : T ∈ subsN) (hi : i ≤ T.length)
    (ho : s.heap.get? a = some { cls := .type "set", dict := none, data := .set (esS tok T) ep (tabS (!byTx w) T), slots := #[] })
    (h : Q (((ordS w a ep (esS tok T))[i]?).map fun e => (e.2, slotW w T (i + 1))) s) : wpAny (model prog w) A (setNext a (slotW w T i) i ep) Q E s := by
  unfold setNext
  refine wpAny_bind (set_state hT ho ?_)
  dsimp only
  unfold setsByText
  refine wpAny_bind (wpAny_bind (wpAny_askSetting (wpAny_pure ?_)))
  dsimp only
  cases hb : byTx w with
  | true =>
    have hb' : w.params.followText "set-order" = true := hb
    simp only [model, hb', if_true]
    rw [if_neg (by simp)]
    refine wpAny_bind (set_walk hT ho (wpAny_pure ?_))
    rw [show slotW w T i = slotW w T (i + 1) from by unfold slotW; rw [hb]; rfl]
    exact h
  | false =>
    have hb' : w.params.followText "set-order" = false := hb
    simp only [model, hb', Bool.false_eq_true, if_false]
    show wpAny _ _ (if drawnS (esS tok T) (tabS (!false) T) = true then _ else _) _ _ _
    rw [if_neg (show ¬ (drawnS (esS tok T) (tabS (!false) T) = true) from by unfold drawnS; rw [tab_plain]; exact Bool.false_ne_true)]
    refine wpAny_bind ?_
    show wpAny _ _ (if (!(tabS (!false) T).led && !(esS tok T).isEmpty) = true then _ else pure ()) _ _ _
    rw [tab_led, if_neg (by exact Bool.false_ne_true)]
    refine wpAny_pure (wpAny_pure ?_)
    have e1 : slotW w T i = slotAt T i := by unfold slotW; rw [hb]; rfl
    have e2 : slotW w T (i + 1) = T.getD i 0 + 1 := by unfold slotW; rw [hb]; rfl
    have e3 : ordS w a ep (esS tok T) = esS tok T := by unfold ordS; rw [hb]; rfl
    rw [e3, e2] at h
    rw [tab_place, e1, below_all T hT i hi]
    have e4 : (esS tok T)[i]? = T[i]?.map fun k => (((k : Nat) : Int), Value.int ((k : Nat) : Int) (tok k)) := by
      unfold esS
      rw [List.getElem?_toArray, List.getElem?_map]
    rw [e4, List.getElem?_toArray]
    rw [e4, List.getD_eq_getElem?_getD] at h
    cases hk : T[i]? with
    | none => rw [hk] at h; exact h
    | some k => rw [hk] at h; exact h
end
end Mine
end
section
namespace Mine
open PySem PySem.W PySem.Calls PyProof.Rows
section
variable {prog : Program} {w : World} {A : Around} {E : Value → Shared → Prop} {s : Shared}
noncomputable def siO (w : World) (a : Addr) (T : List Nat) (ep i : Nat) : Obj := { cls := .type "set_iterator", dict := none, data := .fields #[rawInt (slotW w T i), rawInt i, .ref a, rawInt T.length, rawInt ep], slots := #[] }
theorem si_item {I a : Addr} {T : List Nat} {ep i : Nat} {tok : Nat → Tok} {Q : Option Value → Shared → Prop} (hT : T ∈ subsN) (hi : i < T.length) (hI : s.heap.get? I = some (siO w a T ep i))
    (ho : s.heap.get? a = some { cls := .type "set", dict := none, data := .set (esS tok T) ep (tabS (!byTx w) T), slots := #[] })
    (hQ : ∀ e h', (ordS w a ep (esS tok T))[i]? = some e → h'.get? I = some (siO w a T ep (i + 1)) → Heap.SameBut I s.heap h' → Q (some e.2) { s with heap := h' }) :
    wpAny (model prog w) A (pyNext (.ref I)) Q E s := by
  have hTy : s.TypeIs (.ref I) "set_iterator" := ⟨_, hI, rfl⟩
  unfold pyNext
  refine wpAny_bind (wpAny_attempt (wpAny_callSpecial?_slot (name := Str.ofString "__next__") hTy slot_si_next
    (wpAny_call_entry slot_si_next hTy entry_si_next ?_ (args_si_next _))))
  show wpAny _ _ (fieldsOf (.ref I) >>= _) _ _ s
  refine wpAny_bind (wpAny_fieldsOf hI rfl ?_)
  show wpAny _ _ (setEntries a >>= _) _ _ s
  refine wpAny_bind (wpAny_setEntries_of ho rfl (fits_S hT) ?_)
  have e1 : (((esS tok T).size : Int) != ((T.length : Nat) : Int)) = false := by rw [esS_size]; simp
  show wpAny _ _ (if (((esS tok T).size : Int) != ((T.length : Nat) : Int)) = true then _ else _) _ _ s
  rw [e1, if_neg Bool.false_ne_true]
  show wpAny _ _ (setNext a (((slotW w T i : Nat) : Int).toNat) (((i : Nat) : Int).toNat) (((ep : Nat) : Int).toNat) >>= _) _ _ s
  rw [Int.toNat_natCast, Int.toNat_natCast, Int.toNat_natCast]
  refine wpAny_bind (set_next hT (Nat.le_of_lt hi) ho ?_)
  have hsz : i < (ordS w a ep (esS tok T)).size := by rw [ord_size, esS_size]; exact hi
  have he : (ordS w a ep (esS tok T))[i]? = some (ordS w a ep (esS tok T))[i] := Array.getElem?_eq_getElem hsz
  rw [he]
  dsimp only [Option.map_some]
  refine wpAny_bind (wpAny_setField_rec hI (by simp) fun h1 hI1 sb1 => ?_)
  refine wpAny_bind (wpAny_setField_rec hI1 (by simp) fun h2 hI2 sb2 => ?_)
  refine wpAny_pure ⟨_, rfl, wpAny_pure (hQ _ _ he hI2 (sb1.trans sb2))⟩
theorem si_end {I a : Addr} {T : List Nat} {ep : Nat} {tok : Nat → Tok} {Q : Option Value → Shared → Prop} (hh : A.handled = none) (hT : T ∈ subsN) (hI : s.heap.get? I = some (siO w a T ep T.length))
    (ho : s.heap.get? a = some { cls := .type "set", dict := none, data := .set (esS tok T) ep (tabS (!byTx w) T), slots := #[] })
    (hQ : ∀ h', Heap.ExtBut I s.heap h' → Q none { s with heap := h' }) :
    wpAny (model prog w) A (pyNext (.ref I)) Q E s := by
  have hTy : s.TypeIs (.ref I) "set_iterator" := ⟨_, hI, rfl⟩
  unfold pyNext
  refine wpAny_bind (wpAny_attempt (wpAny_callSpecial?_slot (name := Str.ofString "__next__") hTy slot_si_next
    (wpAny_call_entry slot_si_next hTy entry_si_next ?_ (args_si_next _))))
  show wpAny _ _ (fieldsOf (.ref I) >>= _) _ _ s
  refine wpAny_bind (wpAny_fieldsOf hI rfl ?_)
  show wpAny _ _ (setEntries a >>= _) _ _ s
  refine wpAny_bind (wpAny_setEntries_of ho rfl (fits_S hT) ?_)
  have e1 : (((esS tok T).size : Int) != ((T.length : Nat) : Int)) = false := by rw [esS_size]; simp
  show wpAny _ _ (if (((esS tok T).size : Int) != ((T.length : Nat) : Int)) = true then _ else _) _ _ s
  rw [e1, if_neg Bool.false_ne_true]
  show wpAny _ _ (setNext a (((slotW w T T.length : Nat) : Int).toNat) (((T.length : Nat) : Int).toNat) (((ep : Nat) : Int).toNat) >>= _) _ _ s
  rw [Int.toNat_natCast, Int.toNat_natCast, Int.toNat_natCast]
  refine wpAny_bind (set_next hT (Nat.le_refl _) ho ?_)
  have he : (ordS w a ep (esS tok T))[T.length]? = none := Array.getElem?_eq_none (by rw [ord_size, esS_size]; exact Nat.le_refl _)
  rw [he]
  dsimp only [Option.map_none]
  refine wpAny_bind (wpAny_setField_rec hI (by simp) fun h1 hI1 sb1 => ?_)
  show wpAny _ _ (newExc (.type "StopIteration") [] >>= _) _ _ _
  refine wpAny_bind ?_
  simp only [newExc, newTuple]
  refine wpAny_bind (wpAny_newObj_type ?_ (by size_fits))
  refine wpAny_bind (m := firstArgMember _ _) (wpAny_of_eq (a := Value.none) (by first | rfl | (simp only [firstArgMember]; rfl)) ?_)
  refine wpAny_newObj_type ?_ (by size_fits)
  simp only [raiseNew]
  refine wpAny_bind (wpAny_handled ?_)
  rw [show A.in1.handled = none from hh]
  refine wpAny_bind (wpAny_pure (wpAny_throw ?_))
  refine wpAny_bind (wpAny_isInstance (T := "StopIteration") (b := true) ⟨_, Heap.get?_push_size _ rfl, rfl⟩ isSubtype_stop ?_)
  exact wpAny_pure (hQ _ ((sb1.extBut.push _).push _))
end
end Mine
end
section
namespace Mine
open PySem PySem.W PySem.Calls PyProof.Rows
theorem slot_si_iter : Slot "set_iterator" "__iter__" "set_iterator.__iter__" :=
  .of (owner := "set_iterator") (n := "__iter__") (by rw [typeLookup_type, builtinLookup_eq_fast]; kernel_rfl) (by decide +kernel) (by decide +kernel) (by decide +kernel)
    (by first | exact .inl (by decide +kernel) | exact .inr (by decide +kernel)) (by rw [isSubtype_type]; kernel_rfl)
theorem entry_si_iter : entryFor table "set_iterator.__iter__" = some Builtin.«dict_keyiterator.__iter__» :=
  entryFor_alias (id' := "dict_keyiterator.__iter__") (by kernel_rfl) rfl (by decide +kernel) (by kernel_rfl)
theorem args_si_iter (a : Value) : argsOk "set_iterator.__iter__" ⟨[a], []⟩ := by
  unfold argsOk; kernel_rfl
section
variable {prog : Program} {w : World} {A : Around} {E : Value → Shared → Prop} {s : Shared}
theorem set_iter {a : Addr} {T : List Nat} {ep : Nat} {tok : Nat → Tok} {Q : Value → Shared → Prop} (hT : T ∈ subsN)
    (ho : s.heap.get? a = some { cls := .type "set", dict := none, data := .set (esS tok T) ep (tabS (!byTx w) T), slots := #[] })
    (hQ : Q (.ref s.heap.objs.size) { s with heap := s.heap.push (siO w a T ep 0) }) : wpAny (model prog w) A (pyIter (.ref a)) Q E s := by
  have hTy : s.TypeIs (.ref a) "set" := ⟨_, ho, rfl⟩
  refine wpAny_pyIter_slot hTy PySem.F.slot_set_iter (wpAny_call_entry PySem.F.slot_set_iter hTy entry_set_iter ?_ (PySem.F.args_set_iter_1 _))
  show wpAny _ _ (Builtin.Frozenset.sizeOf a >>= _) _ _ s
  unfold Builtin.Frozenset.sizeOf
  refine wpAny_bind (wpAny_bind (wpAny_setEntries_of ho rfl (fits_S hT) (wpAny_pure ?_)))
  unfold setDrawn
  refine wpAny_bind (wpAny_bind (set_state hT ho ?_))
  dsimp only
  unfold setsByText
  refine wpAny_bind (wpAny_bind (wpAny_askSetting (wpAny_pure (wpAny_pure ?_))))
  show wpAny _ _ (if (!(model prog w).w.params.followText "set-order" && drawnS (esS tok T) (tabS (!byTx w) T)) = true then _ else _) _ _ s
  rw [show drawnS (esS tok T) (tabS (!byTx w) T) = false from by unfold drawnS; rw [tab_plain]; rfl, Bool.and_false, if_neg Bool.false_ne_true]
  refine wpAny_bind (wpAny_pure ?_)
  refine wpAny_bind (wpAny_setEpoch_of ho rfl (fits_S hT) ?_)
  rw [esS_size]
  have e : slotW w T 0 = 0 := by unfold slotW; split <;> rfl
  refine wpAny_bind (wpAny_newObj_type (wpAny_pure ⟨_, rfl, "set_iterator", _, ⟨_, Heap.get?_push_size _ rfl, rfl⟩, slot_si_next.lookup, ?_⟩))
  unfold siO at hQ
  rw [e] at hQ
  exact hQ
theorem set_walks {I a : Addr} {T : List Nat} {ep : Nat} {tok : Nat → Tok} (hh : A.handled = none) (hT : T ∈ subsN) (hne : I ≠ a) :
    ∃ (P : Nat → Value → Prop) (St : Nat → Shared → Prop), WalksS prog w A I [I, a] [I] (· = ·) T.length P St ∧ (∀ i v, P i v ↔ ∃ h, (ordS w a ep (esS tok T))[i]? = some (h, v)) ∧
      ∀ s : Shared, s.heap.get? I = some (siO w a T ep 0) → s.heap.get? a = some { cls := .type "set", dict := none, data := .set (esS tok T) ep (tabS (!byTx w) T), slots := #[] } → St 0 s := by
  refine ⟨fun i v => ∃ h, (ordS w a ep (esS tok T))[i]? = some (h, v), fun i s => s.heap.get? I = some (siO w a T ep i) ∧ s.heap.get? a = some { cls := .type "set", dict := none, data := .set (esS tok T) ep (tabS (!byTx w) T), slots := #[] },
    ⟨fun b hb => ?_, fun _ => rfl, fun _ _ _ x y => x.trans y, fun i s h' tk st _ k => ?_, fun i s Q E hi st hQ => ?_, fun s Q E st hQ => ?_, fun i s Q E st hQ => ?_⟩, fun _ _ => Iff.rfl, fun s h1 h2 => ⟨h1, h2⟩⟩
  · rw [List.mem_singleton.mp hb]; exact List.mem_cons_self
  · exact ⟨k I (by simp) _ st.1, k a (by simp) _ st.2⟩
  · refine si_item hT hi st.1 st.2 fun e h' he hI sb => ?_
    refine hQ e.2 _ ⟨e.1, he⟩ ⟨hI, sb.extBut _ _ (Ne.symm hne) st.2⟩ ⟨fun b o hb e => sb.extBut _ _ (fun q => hb (by rw [q]; exact List.mem_singleton_self _)) e, rfl, rfl, rfl, Nat.le_refl _⟩
  · exact si_end hh hT st.1 st.2 fun h' sb => hQ _ ⟨fun b o hb e => sb _ _ (fun q => hb (by rw [q]; exact List.mem_singleton_self _)) e, rfl, rfl, rfl, Nat.le_refl _⟩
  · have hTy : s.TypeIs (.ref I) "set_iterator" := ⟨_, st.1, rfl⟩
    refine wpAny_pyIter_slot hTy slot_si_iter (wpAny_call_entry slot_si_iter hTy entry_si_iter ?_ (args_si_iter _))
    show wpAny _ _ (ret (.ref I)) _ _ s
    exact wpAny_pure ⟨_, rfl, "set_iterator", _, hTy, slot_si_next.lookup, hQ⟩
end
end Mine
end
section
namespace Mine
open PySem PySem.W PySem.Calls PyProof.Rows
theorem set_len : typeLookup (.type "set") "__len__" = pure (some (.builtin "set.__len__")) := by rw [typeLookup_type, builtinLookup_eq_fast]; kernel_rfl
theorem split_len : splitId "set.__len__" = some ("set", "__len__") := by kernel_rfl
section
variable {prog : Program} {w : World} {A : Around} {E : Value → Shared → Prop} {s : Shared}
theorem wpAny_ite_pos {α : Type} {c : Prop} [Decidable c] {x y : Sem α} {Q : α → Shared → Prop} (hc : c) (h : wpAny (model prog w) A x Q E s) : wpAny (model prog w) A (if c then x else y) Q E s := by
  rw [if_pos hc]
  exact h
theorem collect_set {a : Addr} {T : List Nat} {ep : Nat} {tok : Nat → Tok} {Q : List Value → Shared → Prop} (hh : A.handled = none) (hT : T ∈ subsN)
    (ho : s.heap.get? a = some { cls := .type "set", dict := none, data := .set (esS tok T) ep (tabS (!byTx w) T), slots := #[] })
    (hQ : ∀ h' tk (acc : Array Value), (∀ b o, b < s.heap.objs.size → s.heap.get? b = some o → h'.get? b = some o) → s.heap.objs.size ≤ h'.objs.size → acc.size = T.length → (∀ (j : Nat) (v : Value), acc[j]? = some v → ∃ h, (ordS w a ep (esS tok T))[j]? = some (h, v)) → Q acc.toList { s with heap := h', toks := tk }) :
    wpAny (model prog w) A (collect (.ref a)) Q E s := by
  have ha : a < s.heap.objs.size := Heap.lt_size ho
  unfold collect
  refine wpAny_bind (wpAny_runValue (codeAny_builtin PySem.F.entry_proto_collect ?_))
  rw [Around.under_plainId PySem.F.plain_proto_collect _]
  show wpAny _ A.in1 (newList [] >>= fun l => again (.builtin "list.__iadd__" ⟨[l, .ref a], []⟩)) _ _ s
  refine wpAny_bind (wpAny_newObj_type ?_)
  refine wpAny_pure ⟨plainId_quiet PySem.F.plain_list_iadd _, codeAny_builtin PySem.F.entry_list_iadd ?_⟩
  rw [Around.under_plainId PySem.F.plain_list_iadd _]
  have ho1 : (s.heap.push { cls := .type "list", data := .seq ([] : List Value).toArray }).get? a = some { cls := .type "set", dict := none, data := .set (esS tok T) ep (tabS (!byTx w) T), slots := #[] } := Heap.get?_push_of_some _ ho
  show wpAny _ A.in1 (Builtin.List.listExtendWith (.ref s.heap.objs.size) (.ref a) (.ref s.heap.objs.size)) _ _ _
  unfold Builtin.List.listExtendWith
  refine wpAny_bind (wpAny_typeOf (T := "set") ⟨_, ho1, rfl⟩ ?_)
  have hSa : s.heap.objs.size ≠ a := Nat.ne_of_gt ha
  have h1 : Builtin.List.listSameRef (.ref s.heap.objs.size) (.ref a) = false := by simp [Builtin.List.listSameRef, hSa]
  have h2 : (Value.type "set" == Value.type "list") = false := by decide
  have h3 : (Value.type "set" == Value.type "tuple") = false := by decide
  simp only [h1, h2, h3, Bool.or_false, Bool.false_eq_true, if_false]
  refine wpAny_bind (set_iter (s := { s with heap := s.heap.push { cls := .type "list", data := .seq ([] : List Value).toArray } }) hT ho1 ?_)
  refine wpAny_bind (wpAny_holding ?_)
  have hTa : Shared.TypeIs { s with heap := (s.heap.push { cls := .type "list", data := .seq ([] : List Value).toArray }).push (siO w a T ep 0) } (.ref a) "set" := ⟨_, Heap.get?_push_of_some _ ho1, rfl⟩
  unfold Builtin.List.listLengthHint
  refine wpAny_bind (wpAny_specialOf (T := "set") (r := some (.builtin "set.__len__")) hTa set_len ?_)
  dsimp only
  simp only [split_len]
  refine wpAny_bind (wpAny_isInstance (T := "set") (b := true) hTa sub_set_self ?_)
  rw [if_neg (show ¬ ((!true) = true) from by decide)]
  refine wpAny_ite_pos (by decide +kernel) ?_
  refine wpAny_bind (wpAny_typeOf (T := "set") hTa ?_)
  refine wpAny_pure ?_
  refine wpAny_ite_pos (by decide +kernel) ?_
  refine wpAny_bind (wpAny_rule ?_)
  have hsz1 : (s.heap.push { cls := .type "list", data := .seq ([] : List Value).toArray }).objs.size = s.heap.objs.size + 1 := Heap.size_push _ _
  have hSI : s.heap.objs.size ≠ (s.heap.push { cls := .type "list", data := .seq ([] : List Value).toArray }).objs.size := by rw [hsz1]; exact Nat.ne_of_lt (Nat.lt_succ_self _)
  have hIa : (s.heap.push { cls := .type "list", data := .seq ([] : List Value).toArray }).objs.size ≠ a := by rw [hsz1]; exact Nat.ne_of_gt (Nat.lt_succ_of_lt ha)
  have hS₁ : ((s.heap.push { cls := .type "list", data := .seq ([] : List Value).toArray }).push (siO w a T ep 0)).get? s.heap.objs.size = some { cls := .type "list", data := .seq ([] : List Value).toArray } := Heap.get?_push_of_some _ (Heap.get?_push_size _ rfl)
  have hI : ((s.heap.push { cls := .type "list", data := .seq ([] : List Value).toArray }).push (siO w a T ep 0)).get? (s.heap.push { cls := .type "list", data := .seq ([] : List Value).toArray }).objs.size = some (siO w a T ep 0) := Heap.get?_push_size _ rfl
  refine wpAny_bind ?_
  show wpAny _ A.in1 (updateSeq s.heap.objs.size (·.push .none) >>= fun _ => updateSeq s.heap.objs.size (·.pop)) _ _ _
  refine wpAny_bind (wpAny_updateSeq hS₁ rfl ?_)
  have hS₂ := Heap.get?_update_self (Obj.mapSeq (·.push Value.none)) hS₁ rfl
  refine wpAny_updateSeq hS₂ rfl ?_
  have hS₃ := Heap.get?_update_self (Obj.mapSeq (·.pop)) hS₂ rfl
  have oth : ∀ b o, b ≠ s.heap.objs.size → ((s.heap.push { cls := .type "list", data := .seq ([] : List Value).toArray }).push (siO w a T ep 0)).get? b = some o →
      ((((s.heap.push { cls := .type "list", data := .seq ([] : List Value).toArray }).push (siO w a T ep 0)).update s.heap.objs.size (Obj.mapSeq (·.push Value.none))).update s.heap.objs.size (Obj.mapSeq (·.pop))).get? b = some o :=
    fun b o hb e => (Heap.get?_update_other _ _ (Ne.symm hb)).trans ((Heap.get?_update_other _ _ (Ne.symm hb)).trans e)
  obtain ⟨P, St, W, hP, hSt⟩ := set_walks (prog := prog) (w := w) (A := A.in1) (ep := ep) (tok := tok) (by simp [hh]) hT hIa
  refine wpAny_pure ⟨plainId_quiet PySem.F.plain_extend_loop _, codeAny_extend_loopS W (Nat.le_trans (subs_len T hT) (by decide)) _ (by
      simp only [List.mem_cons, List.not_mem_nil, or_false, not_or]
      exact ⟨hSI, hSa⟩) _ T.length 0 _ _ _ rfl (Nat.zero_le _)
    (hSt _ (oth _ _ (Ne.symm hSI) hI) (oth _ _ (Ne.symm hSa) (Heap.get?_push_of_some _ ho1))) hS₃ (ItemsOf.nil P) fun s' acc' c' hm hS' hacc => ?_⟩
  show wpAny _ A (load s.heap.objs.size >>= _) _ _ s'
  refine wpAny_bind (wpAny_load hS' ?_)
  obtain ⟨h', g', d', tk', os'⟩ := s'
  have eg : s.gens = g' := hm.gens
  have ed : d' = s.drawn := hm.drawn
  have eo : os' = s.os := hm.os
  subst eg; subst ed; subst eo
  refine wpAny_pure (hQ h' tk' acc' (fun b o hb e => ?_) (Nat.le_of_lt (Heap.lt_size hS')) hacc.1 fun j v hj => (hP j v).mp (hacc.2 j v hj))
  exact hm.heap b o (by
    simp only [List.mem_cons, List.not_mem_nil, or_false, not_or]
    exact ⟨Nat.ne_of_lt hb, by rw [hsz1]; exact Nat.ne_of_lt (Nat.lt_succ_of_lt hb)⟩) (oth b o (Nat.ne_of_lt hb) (Heap.get?_push_of_some _ (Heap.get?_push_of_some _ e)))
end
end Mine
end
section
namespace Mine
open PySem PySem.W PySem.Calls PyProof.Rows
theorem ded_mem {x : Int} : ∀ l : List Int, x ∈ dedI l ↔ x ∈ l
  | [] => Iff.rfl
  | y :: r => by
    unfold dedI
    by_cases h : r.contains y = true
    · rw [if_pos h, ded_mem r, List.mem_cons]
      exact ⟨.inr, fun h' => h'.elim (fun e => by rw [e]; exact List.contains_iff_mem.mp h) id⟩
    · rw [if_neg h, List.mem_cons, List.mem_cons, ded_mem r]
theorem ded_nd : ∀ l : List Int, (dedI l).Nodup
  | [] => List.nodup_nil
  | y :: r => by
    unfold dedI
    by_cases h : r.contains y = true
    · rw [if_pos h]; exact ded_nd r
    · rw [if_neg h, List.nodup_cons]
      exact ⟨fun m => h (List.contains_iff_mem.mpr ((ded_mem r).mp m)), ded_nd r⟩
theorem ins_mem {x y : Int} : ∀ l : List Int, y ∈ insI x l ↔ y = x ∨ y ∈ l
  | [] => by unfold insI; rw [List.mem_singleton]; exact ⟨.inl, fun h => h.elim id fun h => by cases h⟩
  | z :: r => by
    unfold insI
    by_cases h : x ≤ z
    · rw [if_pos h, List.mem_cons]
    · rw [if_neg h, List.mem_cons, List.mem_cons, ins_mem r]
      exact ⟨fun h => h.elim (fun h => .inr (.inl h)) fun h => h.imp_right .inr, fun h => h.elim (fun h => .inr (.inl h)) fun h => h.imp_right .inr⟩
theorem ins_lt {x : Int} : ∀ {l : List Int}, l.Pairwise (· < ·) → x ∉ l → (insI x l).Pairwise (· < ·)
  | [], _, _ => List.pairwise_singleton _ _
  | z :: r, h, n => by
    obtain ⟨h1, h2⟩ := List.pairwise_cons.mp h
    have hn : x ≠ z := fun e => n (by rw [e]; exact List.mem_cons_self)
    unfold insI
    by_cases c : x ≤ z
    · rw [if_pos c, List.pairwise_cons]
      refine ⟨fun y hy => ?_, h⟩
      rcases List.mem_cons.mp hy with e | hy
      · (first | lia | omega)
      · have := h1 y hy; (first | lia | omega)
    · rw [if_neg c, List.pairwise_cons]
      refine ⟨fun y hy => ?_, ins_lt h2 fun m => n (List.mem_cons_of_mem _ m)⟩
      rcases (ins_mem r).mp hy with e | hy
      · (first | lia | omega)
      · exact h1 y hy
theorem srt_mem {y : Int} : ∀ l : List Int, y ∈ sortZ l ↔ y ∈ l
  | [] => Iff.rfl
  | x :: r => by
    unfold sortZ
    rw [ins_mem, List.mem_cons, srt_mem r]
theorem srt_lt : ∀ {l : List Int}, l.Nodup → (sortZ l).Pairwise (· < ·)
  | [], _ => List.Pairwise.nil
  | x :: r, h => by
    obtain ⟨h1, h2⟩ := List.nodup_cons.mp h
    unfold sortZ
    exact ins_lt (srt_lt h2) fun m => h1 ((srt_mem r).mp m)
theorem lt_ext : ∀ {a b : List Int}, a.Pairwise (· < ·) → b.Pairwise (· < ·) → (∀ x, x ∈ a ↔ x ∈ b) → a = b
  | [], [], _, _, _ => rfl
  | [], y :: _, _, _, h => by cases (h y).mpr List.mem_cons_self
  | x :: _, [], _, _, h => by cases (h x).mp List.mem_cons_self
  | x :: r, y :: t, h1, h2, h => by
    obtain ⟨p1, p2⟩ := List.pairwise_cons.mp h1
    obtain ⟨q1, q2⟩ := List.pairwise_cons.mp h2
    have e : x = y := by
      rcases List.mem_cons.mp ((h x).mp List.mem_cons_self) with e | m
      · exact e
      · rcases List.mem_cons.mp ((h y).mpr List.mem_cons_self) with e | m'
        · exact e.symm
        · have := q1 x m; have := p1 y m'; (first | lia | omega)
    subst e
    refine congrArg (x :: ·) (lt_ext p2 q2 fun z => ⟨fun m => ?_, fun m => ?_⟩)
    · rcases List.mem_cons.mp ((h z).mp (List.mem_cons_of_mem _ m)) with e | m'
      · have := p1 z m; (first | lia | omega)
      · exact m'
    · rcases List.mem_cons.mp ((h z).mpr (List.mem_cons_of_mem _ m)) with e | m'
      · have := q1 z m; (first | lia | omega)
      · exact m'
theorem subs_up : ∀ T ∈ subsN, T.Pairwise (· < ·) := by decide
theorem ins_mem2 {k j : Nat} : ∀ T : List Nat, j ∈ insN k T ↔ j = k ∨ j ∈ T
  | [] => by unfold insN; rw [List.mem_singleton]; exact ⟨.inl, fun h => h.elim id fun h => by cases h⟩
  | x :: r => by
    unfold insN
    by_cases h : k < x
    · rw [if_pos h, List.mem_cons]
    · rw [if_neg h, List.mem_cons, List.mem_cons, ins_mem2 r]
      exact ⟨fun h => h.elim (fun h => .inr (.inl h)) fun h => h.imp_right .inr, fun h => h.elim (fun h => .inr (.inl h)) fun h => h.imp_right .inr⟩
theorem addN_mem {k j : Nat} (T : List Nat) : j ∈ addN k T ↔ j = k ∨ j ∈ T := by
  unfold addN
  by_cases h : T.contains k = true
  · rw [if_pos h]
    exact ⟨.inr, fun h' => h'.elim (fun e => by rw [e]; exact List.contains_iff_mem.mp h) id⟩
  · rw [if_neg h]; exact ins_mem2 T
theorem stT_mem {val : Nat → Nat} {j : Nat} : ∀ (k i : Nat) (T : List Nat), j ∈ stT val k i T ↔ j ∈ T ∨ ∃ x, i ≤ x ∧ x < i + k ∧ j = val x
  | 0, i, T => ⟨.inl, fun h => h.elim id fun ⟨x, h1, h2, _⟩ => by (first | lia | omega)⟩
  | k + 1, i, T => by
    unfold stT
    rw [stT_mem k (i + 1) _, addN_mem]
    constructor
    · rintro ((h | h) | ⟨x, h1, h2, h3⟩)
      · exact .inr ⟨i, Nat.le_refl _, by (first | lia | omega), h⟩
      · exact .inl h
      · exact .inr ⟨x, by (first | lia | omega), by (first | lia | omega), h3⟩
    · rintro (h | ⟨x, h1, h2, h3⟩)
      · exact .inl (.inr h)
      · by_cases c : x = i
        · exact .inl (.inl (by rw [h3, c]))
        · exact .inr ⟨x, by (first | lia | omega), by (first | lia | omega), h3⟩
theorem set_sorted {ns : List Int} (h5 : ∀ i ∈ ns, 0 ≤ i ∧ i < 5) (hT : stT (fun i => (ns.getD i 0).toNat) ns.length 0 [] ∈ subsN) : (stT (fun i => (ns.getD i 0).toNat) ns.length 0 []).map (fun (k : Nat) => (k : Int)) = sortZ (dedI ns) := by
  refine lt_ext ?_ (srt_lt (ded_nd _)) fun x => ?_
  · rw [List.pairwise_map]
    exact (subs_up _ hT).imp fun h => by (first | lia | omega)
  · rw [srt_mem, ded_mem, List.mem_map]
    constructor
    · rintro ⟨k, h, e⟩
      rcases (stT_mem _ _ _).mp h with h | ⟨j, _, h2, h3⟩
      · cases h
      · have hj : j < ns.length := by (first | lia | omega)
        have hg : ns.getD j 0 = ns[j] := by rw [List.getD_eq_getElem?_getD, List.getElem?_eq_getElem hj]; rfl
        rw [hg] at h3
        have := h5 _ (List.getElem_mem hj)
        rw [← e, h3, Int.toNat_of_nonneg this.1]
        exact List.getElem_mem hj
    · intro h
      obtain ⟨j, hj⟩ := List.mem_iff_getElem?.mp h
      obtain ⟨hj1, hj2⟩ := List.getElem?_eq_some_iff.mp hj
      refine ⟨x.toNat, (stT_mem _ _ _).mpr (.inr ⟨j, Nat.zero_le _, by (first | lia | omega), ?_⟩), Int.toNat_of_nonneg (h5 x h).1⟩
      rw [List.getD_eq_getElem?_getD, hj]
      rfl
theorem ints_eq : ∀ {xs : List PyData} {ns : List Int}, intsOf xs = some ns → xs = ns.map .int
  | [], _, h => by cases h; rfl
  | x :: r, ns, h => by
    cases x with
    | int i =>
      obtain ⟨l, h1, h2⟩ := mp_some h
      rw [← h2, ints_eq h1]
      rfl
    | _ => exact (Mine.ns h).elim
noncomputable def numV : Value → Int
  | .int i _ => i
  | _ => 0
theorem ints_snd : ∀ (l : List (Int × Value)), (∀ e ∈ l, ∃ (k : Int) (t : Tok), e.2 = .int k t) → IntsAre (l.map (·.2)) (l.map fun e => numV e.2)
  | [], _ => .nil
  | e :: r, h => by
    obtain ⟨k, t, q⟩ := h e List.mem_cons_self
    rw [List.map_cons, List.map_cons, q]
    exact .cons k t (ints_snd r fun e he => h e (List.mem_cons_of_mem _ he))
theorem ints_vr {μ : List Addr} {g : Heap} : ∀ {vs : List Value} {ns : List Int}, IntsAre vs ns → VRs μ g vs (ns.map fun i => .d (.int i))
  | _, _, .nil => .nil
  | _, _, .cons n t r => .cons (vr_int n t g) (ints_vr r)
section
variable {prog : Program} {w : World} {A : Around} {E : Value → Shared → Prop} {s : Shared}
theorem sorted_set {a : Addr} {T : List Nat} {Q : Value → Shared → Prop} (hh : A.handled = none) (hS : SmSet (!byTx w) s.heap a T)
    (hQ : ∀ D h' tk (out : Array Value) e, s.heap.objs.size ≤ D → (∀ b o, b < s.heap.objs.size → s.heap.get? b = some o → h'.get? b = some o) → h'.get? D = some { cls := .type "list", data := .seq out e } → IntsAre out.toList (T.map fun (k : Nat) => (k : Int)) → Q (.ref D) { s with heap := h', toks := tk }) :
    wpAny (model prog w) A (call (.builtin "sorted") [.ref a]) Q E s := by
  obtain ⟨ep, tok, ho, hT⟩ := hS
  refine Calls.call_function_entry kind_sorted plain_sorted entry_sorted (args_sorted1 _) ?_
  unfold Builtin.«sorted»
  refine wpAny_bind (m := checkCount "sorted" 1 1 _) (wpAny_pure ?_)
  refine wpAny_bind (collect_set (by simp [hh]) hT ho fun h1 tk acc hk hlt hsz hacc => ?_)
  refine wpAny_bind (wpAny_newList ?_ (by rw [Array.length_toList, hsz]; exact Nat.le_trans (subs_len T hT) (by decide)))
  have hoL : (h1.push (seqObj "list" acc.toList.toArray 0)).get? h1.objs.size = some (seqObj "list" acc.toList.toArray 0) := Heap.get?_push_size _ rfl
  have e1 : acc.toList = (ordS w a ep (esS tok T)).toList.map (·.2) := by
    apply List.ext_getElem?
    intro j
    rw [List.getElem?_map, Array.getElem?_toList, Array.getElem?_toList]
    by_cases c : j < acc.size
    · obtain ⟨h, q⟩ := hacc j acc[j] (Array.getElem?_eq_getElem c)
      rw [Array.getElem?_eq_getElem c, q]
      rfl
    · rw [Array.getElem?_eq_none (Nat.le_of_not_lt c), Array.getElem?_eq_none (by rw [ord_size, esS_size, ← hsz]; exact Nat.le_of_not_lt c)]
      rfl
  have hes : ∀ e ∈ (ordS w a ep (esS tok T)).toList, ∃ (k : Int) (t : Tok), e.2 = .int k t := fun e he => by
    have h2 := (ord_perm w a ep (esS tok T)).mem_iff.mp he
    unfold esS at h2
    obtain ⟨k, _, q⟩ := List.mem_map.mp h2
    exact ⟨k, tok k, by rw [← q]⟩
  have hI : IntsAre acc.toList ((ordS w a ep (esS tok T)).toList.map fun e => numV e.2) := by rw [e1]; exact ints_snd _ hes
  have hP : ((ordS w a ep (esS tok T)).toList.map fun e => numV e.2).Perm (T.map fun (k : Nat) => (k : Int)) := by
    refine ((ord_perm w a ep (esS tok T)).map _).trans (List.Perm.of_eq ?_)
    unfold esS
    rw [List.map_map]
    rfl
  have h64 : acc.toList.length < 64 := by rw [Array.length_toList, hsz]; exact Nat.lt_of_le_of_lt (subs_len T hT) (by decide)
  show wpAny _ _ _ _ _ { s with heap := h1.push (seqObj "list" acc.toList.toArray 0), toks := tk }
  refine wpAny_bind (wpAny_holding (wpAny_call_entry slot_list_sort ⟨_, hoL, rfl⟩ entry_list_sort (list_sort_tree hoL hI h64 fun out ns' a1 a2 a3 => ⟨_, rfl, ?_⟩) (args_list_sort _)))
  have e2 : ns' = T.map fun (k : Nat) => (k : Int) := by
    refine ksm_same (a2.trans hP) a3 ?_
    rw [List.pairwise_map]
    exact (subs_up T hT).imp fun h => by (first | lia | omega)
  obtain ⟨e, he⟩ := sortedHeap_at (out := out) hoL
  refine wpAny_pure ⟨_, rfl, hQ h1.objs.size _ tk out e hlt (fun b o hb q => ?_) he (by rw [← e2]; exact a1)⟩
  have q1 := hk b o hb q
  have q2 := Heap.lt_size q1
  show (sortedHeap _ _ _ _).get? b = _
  rw [sortedHeap_old (Nat.ne_of_lt q2) (by rw [Heap.size_push]; exact Nat.lt_succ_of_lt q2)]
  exact Heap.get?_push_of_some _ q1
end
end Mine
end
section
namespace Mine
open PySem PySem.W PySem.Calls PyProof.Rows
section
variable {Γ : Cx} {A : Around} {σ : Hp} {μ : List Addr} {H : Addr → Prop} {s : Shared}
theorem d_sortedset0 {v : Value} {p : PV} {xs : List PyData} {ns : List Int} (hA : A.handled = none) (S : Γ.St μ H σ s) (hv : VR μ (gr s.heap H) v p) (hd : Mine.view σ p = some (.list xs)) (hi : intsOf xs = some ns) (h5 : ∀ i ∈ ns, 0 ≤ i ∧ i < 5) :
    WP Γ A (call (.type "set") [v]) (fun x s₁ => WP Γ A (call (.builtin "sorted") [x]) (Post Γ μ H s.heap s.os (RR s.heap (.fresh ((sortZ (dedI ns)).map fun i => .d (.int i)))) σ) s₁) s := by
  obtain ⟨a, vs, e1, h1, h2⟩ := vis_view S hv hd
  subst e1
  rw [ints_eq hi] at h2
  have hI : IntsAre vs.toList ns := ints_are h2
  have hlen : vs.size = ns.length := by rw [← Array.length_toList]; exact IntsAre.length hI
  refine sm_call (val := fun i => (ns.getD i 0).toNat) hA h1 (fun i v hv => ?_) fun h' tk hS hlt hk => ?_
  · obtain ⟨t, e⟩ := IntsAre.int_at hI i v (by rw [Array.getElem?_toList]; exact hv)
    have hj : i < ns.length := by rw [← hlen]; exact (Array.getElem?_eq_some_iff.mp hv).1
    have hg : ns.getD i 0 = ns[i] := by rw [List.getD_eq_getElem?_getD, List.getElem?_eq_getElem hj]; rfl
    have q := h5 _ (List.getElem_mem hj)
    rw [hg] at e
    show (ns.getD i 0).toNat < 5 ∧ ∃ t, v = .int (((ns.getD i 0).toNat : Nat) : Int) t
    rw [hg]
    exact ⟨by (first | lia | omega), t, by rw [Int.toNat_of_nonneg q.1]; exact e⟩
  · rw [hlen] at hS
    have hT : stT (fun i => (ns.getD i 0).toNat) ns.length 0 [] ∈ subsN := by
      obtain ⟨_, _, _, hT⟩ := hS
      exact hT
    refine sorted_set (s := { s with heap := h', toks := tk }) hA hS fun D h2 tk2 out e hD hk2 ho hout => ?_
    rw [set_sorted h5 hT] at hout
    refine post_fresh (s' := { s with heap := h2, toks := tk2 }) (n := e) S ?_ (fun b o q => hk2 b o (Nat.lt_trans (Heap.lt_size q) hlt) (hk b o (Heap.lt_size q) q)) ho (ints_vr hout)
    cases q : s.heap.get? D with
    | none => rfl
    | some o => exact absurd (Nat.lt_of_lt_of_le (Nat.lt_trans (Heap.lt_size q) hlt) hD) (Nat.lt_irrefl _)
end
end Mine
end
section
namespace Mine
open PySem PySem.W PySem.Calls PyProof.Rows
section
variable {Γ : Cx} {A : Around} {env : Env} {ρ ρ' : En} {σ σ₁ σ₂ σ₃ σ₄ σ' : Hp} {μ : List Addr} {H : Addr → Prop} {s : Shared} {n : Nat}
theorem repl_length {α : Type} (l : List α) : ∀ i, (repl i l).length = i * l.length
  | 0 => by simp [repl]
  | i + 1 => by rw [repl, List.length_append, repl_length l i, Nat.add_mul]; (first | lia | omega)
theorem foldl_cat {α : Type} (a : Array α) : ∀ (i : Nat) (b : Array α), (List.foldl (fun x y => x ++ y) b (List.replicate i a)).toList = b.toList ++ repl i a.toList
  | 0, b => by simp [repl]
  | i + 1, b => by rw [List.replicate_succ, List.foldl_cons, foldl_cat a i, repl, Array.toList_append, List.append_assoc]
theorem vrs_app {g : Heap} : ∀ {vs us : List Value} {ps qs : List PV}, VRs μ g vs ps → VRs μ g us qs → VRs μ g (vs ++ us) (ps ++ qs)
  | _, _, _, _, .nil, h => h
  | _, _, _, _, .cons h r, h2 => .cons h (vrs_app r h2)
theorem vrs_repl {g : Heap} {vs : List Value} {ps : List PV} (h : VRs μ g vs ps) : ∀ i, VRs μ g (repl i vs) (repl i ps)
  | 0 => .nil
  | i + 1 => vrs_app h (vrs_repl h i)
theorem repl_nil {α : Type} : ∀ i, repl i ([] : List α) = []
  | 0 => rfl
  | i + 1 => by rw [repl, repl_nil i]; rfl
theorem q_mul_list {prog : Program} {w : World} {E : Value → Shared → Prop} {l : Addr} {items : Array Value} {k : Nat} {x : Int} {u : Tok} {Q : Value → Shared → Prop}
    (hl : s.heap.get? l = some { cls := .type "list", dict := none, data := .seq items k, slots := #[] })
    (hlo : -(2 ^ 63 : Int) ≤ x) (hhi : x < 2 ^ 63) (hsz : items.size * x.toNat ≤ 2 ^ 24)
    (h : Q (.ref s.heap.objs.size) { s with heap := s.heap.push { cls := .type "list", data := .seq (List.foldl (fun x1 x2 => x1 ++ x2) #[] (List.replicate (if items.isEmpty = true then 0 else x.toNat) items)) } }) :
    wpAny (model prog w) A (binaryOp .Mult (.ref l) (.int x u)) Q E s :=
  wpAny_binaryOp_repeat_ref (T := "list") (U := "int") (by decide) ⟨_, hl, rfl⟩ (fun s' => typeIs_int s' x u) noFill_list_mul F.fills_int_mul F.slot_int_rmul repeat_list F.slot_int_index.lookup
    (call_meets F.slot_int_rmul (typeIs_int s x u) F.entry_int_rmul (F.args_int_rmul_2 _ _) (int___rmul___int_list x u l items k)
      ⟨hl, rfl, ⟨_, hl, rfl⟩, call_meets F.slot_list_mul ⟨_, hl, rfl⟩ F.entry_list_mul (F.args_list_mul_2 _ _)
        (AutoListH.list___mul___list_int_3 l items k x u (by simp [Builtin.List.listFitsIndex]; (first | lia | omega)) (by (first | lia | omega)) (by simp [Builtin.List.listTooLong, sizeLine]; (first | lia | omega)))
        ⟨hl, h⟩⟩)
theorem te_rep0 {es : List Expr} {i k : Nat} {lp cp pos : Pos} {ps : List PV} (h : TVs Γ A env (spliced (backTo lp (starEach es env))) ρ σ ps σ₁) (hl : ps.length < 1000) (hi : i < 100) :
    TE Γ A env (eval (.BinOp (.List es lp) .Mult (.Constant (.int i) k cp) pos) env) ρ σ (.fresh (repl i ps)) σ₁ := fun μ H s S E => by
  refine wpAny_BinOp ?_
  refine wpAny_mono (te_lst (pos := lp) h hl μ H s S E) (fun v s₁ ⟨μ₁, H₁, T₁, S₁, q⟩ => ?_) fun _ _ e => e
  obtain ⟨a, vs, n, rfl, hf, ham, hHa, ho, hv⟩ := q
  have hlen := vrs_len hv
  refine wpAny_Constant_int ?_
  have hz : vs.size * i ≤ 1000 * 100 := Nat.mul_le_mul (by rw [← Array.length_toList]; (first | lia | omega)) (by (first | lia | omega))
  refine q_mul_list ho (by (first | lia | omega)) (by (first | lia | omega)) (by rw [Int.toNat_natCast]; (first | lia | omega)) ?_
  refine Post.after T₁ ?_
  obtain ⟨μ', H', T', S', q⟩ := post_fresh (n := 0) (σ := σ₁) (xs := repl i ps) (s' := { s₁ with toks := s₁.toks + 1, heap := s₁.heap.push { cls := .type "list", data := .seq (List.foldl (fun x1 x2 => x1 ++ x2) #[] (List.replicate (if vs.isEmpty = true then 0 else ((i : Nat) : Int).toNat) vs)) } }) S₁ (size_none _) (fun b o e => Heap.get?_push_of_some _ e) (Heap.get?_push_size _ rfl) (by
    rw [foldl_cat]
    by_cases hz : vs.isEmpty = true
    · rw [if_pos hz]
      have h0 : vs.toList = [] := by simpa using hz
      rw [h0] at hv
      cases hv
      rw [repl_nil]
      exact .nil
    · rw [if_neg hz, Int.toNat_natCast]
      simpa using vrs_repl hv i)
  exact ⟨μ', H', T', S', RR.back q fun b e => T₁.fresh e⟩
end
end Mine
end
section
namespace Mine
open PySem PySem.W PySem.Calls PyProof.Rows
structure CkOk (Γ : Cx) : Prop where
  fn : ∀ f, Γ.C.fids.contains f = true → Γ.mg (Γ.C.fname f) = some (.ref (Γ.fa f)) ∧ fnIn Γ.K (Γ.fa f) = true
  cl : ∀ c k, lk c Γ.I.cls = some k → Γ.mg (nm Γ.I c) = some (.ref k.addr)
  bf : ∀ s ∈ (["len", "min", "max", "sorted"] : List String), Γ.C.bl.contains (Str.ofString s) = true → Γ.mg (Str.ofString s) = none ∧ Γ.mb (Str.ofString s) = some (.builtin s)
  bt : ∀ s ∈ (["type", "str", "list", "set", "zip", "range", "enumerate"] : List String), Γ.C.bl.contains (Str.ofString s) = true → Γ.mg (Str.ofString s) = none ∧ Γ.mb (Str.ofString s) = some (.type s)
  dot : ∀ x, nm Γ.I x ≠ (".0" : Str)
  fGet : kwOk Γ.C Γ.C.I.nGet 2 none = true
  fLen : kwOk Γ.C Γ.C.I.nLen 1 none = true
  fDel : kwOk Γ.C Γ.C.I.nDel 2 none = true
section
variable {Γ : Cx} {A : Around} {env : Env} {ρ ρ' : En} {σ σ₁ σ₂ σ₃ σ₄ σ' : Hp} {μ : List Addr} {H : Addr → Prop} {s : Shared} {n : Nat} {O : Orc} {F : Addr → Prop} {D : Addr} {sc : Sc}
theorem name_ok {id : Str} (h : nameOk id = true) : (id == ("__debug__" : Str)) = false ∧ (id == ("__classdict__" : Str)) = false := by
  have h1 := andL h
  have h2 := andR h
  exact ⟨by simpa using h1, by simpa using h2⟩
theorem glob_ok {id : Str} (X : EnvS env sc) (h : isGlob sc id = true) : env.kindOf id = some .globalImplicit := by
  unfold Env.kindOf
  rw [X.names]
  exact of_decide_eq_true h
theorem or3 {a b c : Prop} [Decidable a] [Decidable b] [Decidable c] (h : ((decide a || decide b) || decide c) = true) : a ∨ b ∨ c := by
  rcases (Bool.or_eq_true _ _).mp h with h | h
  · rcases (Bool.or_eq_true _ _).mp h with h | h
    · exact .inl (of_decide_eq_true h)
    · exact .inr (.inl (of_decide_eq_true h))
  · exact .inr (.inr (of_decide_eq_true h))
theorem loc_ok {id : Str} (X : EnvS env sc) (h : isLoc sc id = true) : env.kindOf id = some .local ∨ env.kindOf id = some .cell ∨ env.kindOf id = some .free := by
  unfold Env.kindOf
  rw [X.names]
  exact or3 h
theorem bt_ok {s : String} (X : EnvS env sc) (K : CkOk Γ) (hs : s ∈ (["type", "str", "list", "set", "zip", "range", "enumerate"] : List String)) (h : btName Γ.C sc (Str.ofString s) = true) : BltIs Γ env (Str.ofString s) (.type s) :=
  have h1 := andL h
  have h2 := andR h
  have h3 := andL h2
  have h4 := andR h2
  have ab := K.bt s hs h3
  ⟨ab.1, ab.2, glob_ok X h1, (name_ok h4).1⟩
theorem bf_ok {s : String} (X : EnvS env sc) (K : CkOk Γ) (hs : s ∈ (["len", "min", "max", "sorted"] : List String)) (h : btName Γ.C sc (Str.ofString s) = true) : BltIs Γ env (Str.ofString s) (.builtin s) :=
  have h1 := andL h
  have h2 := andR h
  have h3 := andL h2
  have h4 := andR h2
  have ab := K.bf s hs h3
  ⟨ab.1, ab.2, glob_ok X h1, (name_ok h4).1⟩
theorem star_cons {e : Expr} {es : List Expr} (h : plain e = true) : starEach (e :: es) env = (false, eval e env) :: starEach es env := by
  cases e <;> first | rfl | cases h
theorem any_back {pos : Pos} (l : List (Bool × Sem Value)) : (backTo pos l).any (·.1) = l.any (·.1) := by
  unfold backTo
  rw [List.any_map]
  rfl
theorem base_ok {e : Expr} {at' : Str} (h : baseOk e = true) : attributeBase e at' env (eval e env) = eval e env := by
  cases e <;> try rfl
  rename_i f args kws pos
  cases args with
  | nil => cases h
  | cons a r => cases f <;> rfl
theorem set_ok {e : Expr} (h : setOk e = true) : ForcedOk env e := by
  intro x
  cases e <;> first | rfl | cases h
theorem sub_ok {e : Expr} (h : noSlice e = true) (b : Bool) (v w : Value) : subscripted e b v w = if b then runValue (.builtin "lifetime.subscript" ⟨[v, w], []⟩) else operate [v, w] (getItem v w) := by
  cases e <;> cases b <;> first | rfl | cases h
theorem cls_mem {I : Info} {A : Addr} {k : Cls} (h : clsAt I A = some k) : ∃ c, (c, k) ∈ I.cls := by
  obtain ⟨⟨c, k'⟩, h1, h2⟩ := mp_some h
  exact ⟨c, h2 ▸ List.mem_of_find?_eq_some h1⟩
theorem methOf_lk {I : Info} {l x f : Nat} (h : methOf I σ l x = some f) : ∃ c k, (c, k) ∈ I.cls ∧ lk x k.meths = some f := by
  obtain ⟨i, _, h⟩ := bn_some h
  obtain ⟨k, h1, h⟩ := bn_some h
  obtain ⟨kvs, _, h⟩ := bn_some h
  obtain ⟨c, hc⟩ := cls_mem h1
  exact ⟨c, k, hc, (gd_some h).2⟩
theorem form_ok {l x f na : Nat} {kw : Option Nat} (h : methOf Γ.I σ l x = some f) (hk : kwOk Γ.C x na kw = true) : (na, kwN kw) ∈ Γ.forms f ∧ ∀ k, kw = some k → ((Γ.par f).drop na).take 1 = [k] := by
  obtain ⟨c, k, hc, hl⟩ := methOf_lk h
  have := List.all_eq_true.mp hk (c, k) hc
  dsimp only at this
  rw [hl] at this
  obtain ⟨h1, h2⟩ := and2 this
  refine ⟨by simpa using h1, fun j hj => ?_⟩
  subst hj
  exact of_decide_eq_true h2
theorem te_mut {t : Sem Value} {xs : List PV} (h : TE Γ A env t ρ σ (.fresh xs) σ₁) : TE Γ A env t ρ σ (.val (.loc σ₁.length)) (σ₁ ++ [.lst xs]) := fun μ H s S E => by
  refine Does.use (h μ H s S E) fun v s' μ' H' T S' r => ?_
  obtain ⟨a, vs, m, e, h1, h2, h3, h4, h5⟩ := r
  subst e
  obtain ⟨q1, q2, q3⟩ := adopt T S' h1 h2 h3 ⟨_, h4⟩ (o := .lst xs) ⟨vs, m, h4, h5⟩
  exact ⟨_, _, q1, q2, q3⟩
theorem fin_some {o : Option (Res × Hp)} {p : PV} {σ' : Hp} (h : fin o = some (p, σ')) : ∃ r σ₁, o = some (r, σ₁) ∧ finalize σ₁ r = (p, σ') := by
  unfold fin at h
  split at h
  · rename_i r σ₁
    exact ⟨r, σ₁, rfl, Option.some.inj h⟩
  · cases h
theorem te_fin {t : Sem Value} {r : Res} {p : PV} (h : TE Γ A env t ρ σ r σ₁) (e : finalize σ₁ r = (p, σ')) : TV Γ A env t ρ σ p σ' := by
  have := h.fin
  rw [e] at this
  exact this
theorem te_rep {es : List Expr} {i k : Nat} {lp cp pos : Pos} {ps : List PV} (h : TVs Γ A env (spliced (backTo lp (starEach es env))) ρ σ ps σ₁) (hl : ps.length < 1000) (hi : i < 100) :
    TE Γ A env (eval (.BinOp (.List es lp) .Mult (.Constant (.int i) k cp) pos) env) ρ σ (.fresh (repl i ps)) σ₁ := te_rep0 h hl hi
theorem d_sortLists {v : Value} {p : PV} {ds ys : List PyData} (S : Γ.St μ H σ s) (hv : VR μ (gr s.heap H) v p) (e : Mine.view σ p = some (.list ds)) (hp : ds.all isPair = false) (hs : sortT ds = some ys) : Does Γ A (call (.builtin "sorted") [v]) μ H s (RR s.heap (.fresh (ys.map .d))) σ := by
  unfold sortT at hs
  split at hs
  · rw [if_neg (by rw [hp]; exact Bool.false_ne_true)] at hs; cases hs
  · cases hs
theorem d_sorted {v : Value} {p : PV} {r : Res} {n : Nat} (R : Room n A) (S : Γ.St μ H σ s) (hv : VR μ (gr s.heap H) v p) (e : callBi .sorted [p] σ = some r) : Does Γ A (call (.builtin "sorted") [v]) μ H s (RR s.heap r) σ := by
  obtain ⟨d, hd, e⟩ := bn_some e
  obtain ⟨xs, hx, e⟩ := bn_some e
  obtain ⟨ys, hs, e⟩ := mp_some e
  rw [lstOf_some hx] at hd
  cases e
  cases hp : xs.all isPair with
  | true => exact d_sortPairs S hv hd hp hs
  | false => exact d_sortLists S hv hd hp hs
theorem d_minTup {v : Value} {p : PV} {r : Res} {n : Nat} {a xs : List PyData} (R : Room n A) (S : Γ.St μ H σ s) (hv : VR μ (gr s.heap H) v p) (hw : Mine.view σ p = some (.list (.tuple a :: xs))) (e : min1F (.list (.tuple a :: xs)) = some r) :
    Does Γ A (call (.builtin "min") [v]) μ H s (RR s.heap r) σ := absurd (gd_some e).1 (Nat.not_lt_zero _)
theorem min1F_some {d : PyData} {r : Res} (h : min1F d = some r) : (∃ i xs, d = .list (.int i :: xs)) ∨ ∃ a xs, d = .list (.tuple a :: xs) := by
  cases d with
  | list l => cases l with
    | nil => exact (ns h).elim
    | cons x xs => cases x with
      | int i => exact .inl ⟨i, xs, rfl⟩
      | tuple a => exact .inr ⟨a, xs, rfl⟩
      | _ => exact (ns h).elim
  | _ => exact (ns h).elim
theorem max1F_some {d : PyData} {r : Res} (h : max1F d = some r) : ∃ i xs, d = .list (.int i :: xs) := by
  cases d with
  | list l => cases l with
    | nil => exact (ns h).elim
    | cons x xs => cases x with
      | int i => exact ⟨i, xs, rfl⟩
      | _ => exact (ns h).elim
  | _ => exact (ns h).elim
theorem d_minAny {v : Value} {p : PV} {r : Res} {n : Nat} (R : Room n A) (S : Γ.St μ H σ s) (hv : VR μ (gr s.heap H) v p) (e : callBi .min1 [p] σ = some r) : Does Γ A (call (.builtin "min") [v]) μ H s (RR s.heap r) σ := by
  obtain ⟨d, hd, e⟩ := bn_some e
  rcases min1F_some e with ⟨i, xs, e1⟩ | ⟨a, xs, e1⟩
  · subst e1
    obtain ⟨k, hm, e⟩ := mp_some e
    cases e
    exact d_min1 R.hand S hv hd hm
  · subst e1
    exact d_minTup R S hv hd e
theorem d_maxAny {v : Value} {p : PV} {r : Res} (hA : A.handled = none) (S : Γ.St μ H σ s) (hv : VR μ (gr s.heap H) v p) (e : callBi .max1 [p] σ = some r) : Does Γ A (call (.builtin "max") [v]) μ H s (RR s.heap r) σ := by
  obtain ⟨d, hd, e⟩ := bn_some e
  obtain ⟨i, xs, e1⟩ := max1F_some e
  subst e1
  obtain ⟨k, hm, e⟩ := mp_some e
  cases e
  exact d_max1 hA S hv hd hm
theorem d_sortedset {v : Value} {p : PV} {r : Res} {n : Nat} (R : Room n A) (S : Γ.St μ H σ s) (hv : VR μ (gr s.heap H) v p) (e : callBi .sortedset [p] σ = some r) :
    WP Γ A (call (.type "set") [v]) (fun x s₁ => WP Γ A (call (.builtin "sorted") [x]) (Post Γ μ H s.heap s.os (RR s.heap r) σ) s₁) s := by
  obtain ⟨d, hd, e⟩ := bn_some e
  obtain ⟨xs, hx, e⟩ := bn_some e
  obtain ⟨ns, hn, e⟩ := bn_some e
  obtain ⟨hc, e⟩ := gd_val e
  rw [lstOf_some hx] at hd
  rw [← e]
  exact d_sortedset0 R.hand S hv hd hn fun i hi => of_decide_eq_true (List.all_eq_true.mp hc.2 i hi)
theorem d_remove {I : Info} {v w : Value} {p q : PV} {r : Res} (S : Γ.St μ H σ s) (hv : VR μ (gr s.heap H) v p) (hw : VR μ (gr s.heap H) w q) (e : callMt I .remove p [q] σ = some (r, σ')) :
    Does Γ A (call (.builtin "list.remove") [v, w]) μ H s (RR s.heap r) σ' := by
  obtain ⟨l, _, e⟩ := bn_some e
  exact absurd (gd_some e).1 (Nat.not_lt_zero _)
end
end Mine
end
section
namespace Mine
open PySem PySem.W PySem.Calls PyProof.Rows
noncomputable abbrev Asked (e : Expr) (env : Env) : Prop := isTrue e env (eval e env) = (do let v ← eval e env; standAt e.pos; holding [v] (truthy v))
structure GoodE (Γ : Cx) (O : Orc) (A : Around) (env : Env) (sc : Sc) (x : Ex) (P : Px) (ρ : En) (σ : Hp) : Prop where
  v : wf Γ.C false x sc P = true → ∀ r σ', ev Γ.I O x ρ σ = some (r, σ') → TE Γ A env (eval (tr Γ.C x P) env) ρ σ r σ'
  t : wf Γ.C true x sc P = true → ∀ b σ', test Γ.I O x ρ σ = some (b, σ') → TT Γ A env (isTrue (tr Γ.C x P) env (eval (tr Γ.C x P) env)) ρ σ b σ'
noncomputable def GE (Γ : Cx) (n : Nat) (O : Orc) (x : Ex) : Prop := ∀ {A : Around} {env : Env} {sc : Sc} {P : Px} {ρ : En} {σ : Hp}, Room (n + 1) A → EnvS env sc → GoodE Γ O A env sc x P ρ σ
structure GoodEs (Γ : Cx) (A : Around) (env : Env) (es : List Expr) (ρ : En) (σ : Hp) (ps : List PV) (k : Nat) (σ' : Hp) : Prop where
  v : ∀ pos, TVs Γ A env (spliced (backTo pos (starEach es env))) ρ σ ps σ'
  plain : ∀ pos, (backTo pos (starEach es env)).any (·.1) = false
  len : ps.length = k
  elen : es.length = k
noncomputable def GEs (Γ : Cx) (n : Nat) (O : Orc) (xs : List Ex) : Prop := ∀ {A : Around} {env : Env} {sc : Sc} {P : Px} {i : Nat} {ρ : En} {σ : Hp}, Room (n + 1) A → EnvS env sc → wfs Γ.C xs sc i P = true →
  ∀ {ps σ'}, evs Γ.I O xs ρ σ = some (ps, σ') → GoodEs Γ A env (trs Γ.C xs i P) ρ σ ps xs.length σ'
noncomputable def GEo (Γ : Cx) (n : Nat) (O : Orc) (x : Option Ex) : Prop := ∀ {A : Around} {env : Env} {sc : Sc} {P : Px} {ρ : En} {σ : Hp}, Room (n + 1) A → EnvS env sc → wfo Γ.C x sc P = true →
  ∀ p σ' a, evo Γ.I O x ρ σ = some (p, σ') → ofIdx p = some a → TP Γ A env (tro Γ.C x P) ρ σ a σ'
section
variable {Γ : Cx} {A : Around} {env : Env} {ρ ρ' : En} {σ σ₁ σ₂ σ₃ σ₄ σ' : Hp} {μ : List Addr} {H : Addr → Prop} {s : Shared} {n : Nat} {O : Orc} {F : Addr → Prop} {D : Addr} {sc : Sc} {P : Px}
theorem tv_of {x : Ex} {p : PV} (g : GoodE Γ O A env sc x P ρ σ) (h : wf Γ.C false x sc P = true) (hf : fin (ev Γ.I O x ρ σ) = some (p, σ')) : TV Γ A env (eval (tr Γ.C x P) env) ρ σ p σ' := by
  obtain ⟨r, σ₁, h1, h2⟩ := fin_some hf
  exact te_fin (g.v h r σ₁ h1) h2
theorem test_some {x : Ex} {b : Bool} (h : test Γ.I O x ρ σ = some (b, σ')) : ∃ p, fin (ev Γ.I O x ρ σ) = some (p, σ') ∧ truth σ' p = some b := by
  obtain ⟨p, σ₁, h1, h⟩ := bd_some h
  obtain ⟨c, h2, h⟩ := mp_some h
  cases h
  exact ⟨p, h1, h2⟩
theorem test_mk {x : Ex} {p : PV} {b : Bool} (h1 : fin (ev Γ.I O x ρ σ) = some (p, σ')) (h2 : truth σ' p = some b) : test Γ.I O x ρ σ = some (b, σ') := by
  unfold test
  rw [h1]
  show (truth σ' p).map _ = _
  rw [h2]
  rfl
theorem both_of {x : Ex} (hc : wf Γ.C true x sc P = wf Γ.C false x sc P) (hp : Asked (tr Γ.C x P) env) (main : wf Γ.C false x sc P = true → ∀ r σ', ev Γ.I O x ρ σ = some (r, σ') → TE Γ A env (eval (tr Γ.C x P) env) ρ σ r σ') : GoodE Γ O A env sc x P ρ σ :=
  ⟨main, fun h b σ' ht => by
    obtain ⟨p, h3, h4⟩ := test_some ht
    obtain ⟨r, σ₁, h5, h6⟩ := fin_some h3
    exact tt_val hp (te_fin (main (hc ▸ h) r σ₁ h5) h6) h4⟩
theorem test_and {a b : Ex} {c : Bool} (h : test Γ.I O (.and a b) ρ σ = some (c, σ')) : (test Γ.I O a ρ σ = some (false, σ') ∧ c = false) ∨ ∃ σ₁, test Γ.I O a ρ σ = some (true, σ₁) ∧ test Γ.I O b ρ σ₁ = some (c, σ') := by
  obtain ⟨p, h1, h2⟩ := test_some h
  obtain ⟨r, σ₁, h3, h4⟩ := fin_some h1
  obtain ⟨q, σ₂, h5, h3⟩ := bd_some h3
  obtain ⟨t, h6, h3⟩ := bn_some h3
  cases t with
  | true =>
    obtain ⟨q', h7, e⟩ := valR_some h3
    subst e
    cases h4
    exact .inr ⟨σ₂, test_mk h5 h6, test_mk h7 h2⟩
  | false =>
    cases h3
    cases h4
    rw [h6] at h2
    cases h2
    exact .inl ⟨test_mk h5 h6, rfl⟩
theorem test_or {a b : Ex} {c : Bool} (h : test Γ.I O (.or a b) ρ σ = some (c, σ')) : (test Γ.I O a ρ σ = some (true, σ') ∧ c = true) ∨ ∃ σ₁, test Γ.I O a ρ σ = some (false, σ₁) ∧ test Γ.I O b ρ σ₁ = some (c, σ') := by
  obtain ⟨p, h1, h2⟩ := test_some h
  obtain ⟨r, σ₁, h3, h4⟩ := fin_some h1
  obtain ⟨q, σ₂, h5, h3⟩ := bd_some h3
  obtain ⟨t, h6, h3⟩ := bn_some h3
  cases t with
  | false =>
    obtain ⟨q', h7, e⟩ := valR_some h3
    subst e
    cases h4
    exact .inr ⟨σ₂, test_mk h5 h6, test_mk h7 h2⟩
  | true =>
    cases h3
    cases h4
    rw [h6] at h2
    cases h2
    exact .inl ⟨test_mk h5 h6, rfl⟩
theorem test_not {a : Ex} {c : Bool} (h : test Γ.I O (.not a) ρ σ = some (c, σ')) : ∃ d, test Γ.I O a ρ σ = some (d, σ') ∧ c = !d := by
  obtain ⟨p, h1, h2⟩ := test_some h
  obtain ⟨r, σ₁, h3, h4⟩ := fin_some h1
  obtain ⟨q, σ₂, h5, h3⟩ := bd_some h3
  obtain ⟨v, hv, e, e2⟩ := keepR_some h3
  obtain ⟨d, h6, e3⟩ := mp_some hv
  subst e e2 e3
  cases h4
  cases h2
  exact ⟨d, test_mk h5 h6, rfl⟩
theorem ge_int {i : Int} : GE Γ n O (.int i) := fun R Y => both_of rfl rfl fun h r σ' he => by cases he; exact te_int
theorem ge_str {i : Str} : GE Γ n O (.str i) := fun R Y => both_of rfl rfl fun h r σ' he => by cases he; exact te_str
theorem ge_non : GE Γ n O .non := fun R Y => both_of rfl rfl fun h r σ' he => by cases he; exact te_none
theorem ge_bool {b : Bool} : GE Γ n O (.bool b) := fun R Y => both_of rfl rfl fun h r σ' he => by cases he; exact te_bool
theorem ge_dbg : GE Γ n O .dbg := fun R Y => both_of rfl rfl fun h r σ' he => by cases he; exact te_dbg
theorem ge_var {x : Nat} : GE Γ n O (.var x) := fun R Y => both_of rfl rfl fun h r σ' he => by
  obtain ⟨p, q1, q2, q3⟩ := keepR_some he
  subst q2 q3
  exact te_var rfl q1 (loc_ok Y (and2 h).1) (name_ok (and2 h).2).1 (name_ok (and2 h).2).2
theorem ge_gl (K : Γ.Ok) {x : Nat} : GE Γ n O (.gl x) := fun R Y => both_of rfl rfl fun h r σ' he => by
  obtain ⟨p, q1, q2, q3⟩ := keepR_some he
  subst q2 q3
  exact te_gl K rfl q1 (glob_ok Y (and2 h).1) (name_ok (and2 h).2).1
theorem ge_bin {op : Operator} {a b : Ex} (ga : GE Γ n O a) (gb : GE Γ n O b) : GE Γ n O (.bin op a b) := fun R Y => both_of rfl rfl fun h r σ' he => by
  obtain ⟨p, σ₁, h1, he⟩ := bd_some he
  obtain ⟨q, σ₂, h2, he⟩ := bd_some he
  obtain ⟨r', h3, he⟩ := mp_some he
  cases he
  exact te_bin (tv_of (ga R Y) (and2 h).1 h1) (tv_of (gb R Y) (and2 h).2 h2) fun μ H s v w S hv hw => d_binop S hv hw h3
theorem ge_rep {es : List Ex} {i : Nat} (g : GEs Γ n O es) : GE Γ n O (.rep es i) := fun R Y => both_of rfl rfl fun h r σ' he => by
  obtain ⟨ps, σ₁, h1, he⟩ := bd_some he
  obtain ⟨hl, he⟩ := gd_val he
  cases he
  exact te_rep ((g R Y h h1).v _) hl.1 hl.2
theorem ge_usub {a : Ex} (ga : GE Γ n O a) : GE Γ n O (.usub a) := fun R Y => both_of rfl rfl fun h r σ' he => by
  obtain ⟨p, σ₁, h1, he⟩ := bd_some he
  obtain ⟨v, hv, e, e2⟩ := keepR_some he
  obtain ⟨i, hi, e3⟩ := mp_some hv
  subst e e2 e3
  rw [intP_some hi] at h1
  exact te_usub (tv_of (ga R Y) h h1)
theorem ge_not {a : Ex} (ga : GE Γ n O a) : GE Γ n O (.not a) := fun R Y => by
  refine ⟨fun h r σ' he => ?_, fun h b σ' ht => ?_⟩
  · obtain ⟨p, σ₁, h1, he⟩ := bd_some he
    obtain ⟨v, hv, e, e2⟩ := keepR_some he
    obtain ⟨d, h6, e3⟩ := mp_some hv
    subst e e2 e3
    exact te_not (tv_of (ga R Y) h h1) h6
  · obtain ⟨d, h1, e⟩ := test_not ht
    subst e
    exact tt_not ((ga R Y).t h d σ' h1)
theorem ta_and {a : Ex} {rest : List Expr} {c : Bool} {P' : Px} {T : En → Hp → Option (Bool × Hp)} (ga : GoodE Γ O A env sc a P' ρ σ) (h : wf Γ.C true a sc P' = true) (x : (test Γ.I O a ρ σ = some (false, σ') ∧ c = false) ∨ ∃ σ₁, test Γ.I O a ρ σ = some (true, σ₁) ∧ T ρ σ₁ = some (c, σ'))
    (k : ∀ σ₁, T ρ σ₁ = some (c, σ') → TA Γ A env .And rest ρ σ₁ c σ') : TA Γ A env .And (tr Γ.C a P' :: rest) ρ σ c σ' := by
  rcases x with ⟨h1, e⟩ | ⟨σ₁, h1, h2⟩
  · subst e; exact ta_andF (ga.t h _ _ h1)
  · exact ta_andT (ga.t h _ _ h1) (k σ₁ h2)
theorem ge_and {a b : Ex} (ga : GE Γ n O a) (gb : GE Γ n O b) : GE Γ n O (.and a b) := fun R Y => ⟨fun h => (nomatch h), fun h c σ' ht =>
  have h := and2 (and2 h).2
  tt_bool (ta_and (T := test Γ.I O b) (ga R Y) h.1 (test_and ht) fun σ₁ h2 => ta_and1 ((gb R Y).t h.2 _ _ h2))⟩
theorem ge_and3 {a b c : Ex} (ga : GE Γ n O a) (gb : GE Γ n O b) (gc : GE Γ n O c) : GE Γ n O (.and3 a b c) := fun R Y => ⟨fun h => (nomatch h), fun h d σ' ht =>
  have h := and2 (and2 h).2
  have h2 := and2 h.2
  tt_bool (ta_and (T := test Γ.I O (.and b c)) (ga R Y) h.1 (test_and (a := a) (b := .and b c) ht) fun σ₁ k => ta_and (T := test Γ.I O c) (gb R Y) h2.1 (test_and k) fun σ₂ k => ta_and1 ((gc R Y).t h2.2 _ _ k))⟩
theorem ge_or {a b : Ex} (ga : GE Γ n O a) (gb : GE Γ n O b) : GE Γ n O (.or a b) := fun R Y => by
  refine ⟨fun h r σ' he => ?_, fun h c σ' ht => tt_bool ?_⟩
  · obtain ⟨p, σ₁, h1, he⟩ := bd_some he
    obtain ⟨t, h2, he⟩ := bn_some he
    cases t with
    | true => cases he; exact te_orT (tv_of (ga R Y) (and2 h).1 h1) h2
    | false =>
      obtain ⟨q, h3, e⟩ := valR_some he
      subst e
      exact te_orF (tv_of (ga R Y) (and2 h).1 h1) h2 (tv_of (gb R Y) (and2 h).2 h3)
  · rcases test_or ht with ⟨h1, e⟩ | ⟨σ₁, h1, h2⟩
    · subst e; exact ta_orT ((ga R Y).t (and2 h).1 _ _ h1)
    · exact ta_orF ((ga R Y).t (and2 h).1 _ _ h1) (ta_or1 ((gb R Y).t (and2 h).2 _ _ h2))
theorem ge_cmp {op : CmpOp} {a b : Ex} (ga : GE Γ n O a) (gb : GE Γ n O b) : GE Γ n O (.cmp op a b) := fun {A env sc P ρ σ} R Y => by
  have cm : ∀ {r σ'}, ev Γ.I O (.cmp op a b) ρ σ = some (r, σ') → wf Γ.C false (.cmp op a b) sc P = true → ∃ p σ₁ q b', TV Γ A env (eval (tr Γ.C a (P.at 0)) env) ρ σ p σ₁ ∧ TV Γ A env (eval (tr Γ.C b (P.at 1)) env) ρ σ₁ q σ' ∧ cmpop σ' op p q = some b' ∧ r = .val (.d (.bool b')) := fun he h => by
    obtain ⟨p, σ₁, h1, he⟩ := bd_some he
    obtain ⟨q, σ₂, h2, he⟩ := bd_some he
    obtain ⟨v, hv, e, e2⟩ := keepR_some he
    obtain ⟨b', h3, e3⟩ := mp_some hv
    subst e e2 e3
    have hab := and2 (and2 h).2
    exact ⟨p, σ₁, q, b', tv_of (ga R Y) hab.1 h1, tv_of (gb R Y) hab.2 h2, h3, rfl⟩
  have hm : wf Γ.C false (.cmp op a b) sc P = true → behindInMarks op (tr Γ.C b (P.at 1)) = false := fun h => by simpa using (and2 h).1
  refine ⟨fun h r σ' he => ?_, fun h c σ' ht => ?_⟩
  · obtain ⟨p, σ₁, q, b', h1, h2, h3, e⟩ := cm he h
    subst e
    exact te_cmp R (hm h) h1 h2 h3
  · obtain ⟨p', k1, k2⟩ := test_some ht
    obtain ⟨r, σ₀, k3, k4⟩ := fin_some k1
    obtain ⟨p, σ₁, q, b', h1, h2, h3, e⟩ := cm k3 h
    subst e
    cases k4
    cases k2
    exact tt_cmp R (hm h) h1 h2 h3
theorem ge_ite {c a b : Ex} (gc : GE Γ n O c) (ga : GE Γ n O a) (gb : GE Γ n O b) : GE Γ n O (.ite c a b) := fun R Y => ⟨fun h r σ' he => by
  obtain ⟨p, σ₁, h1, he⟩ := bd_some he
  obtain ⟨t, h2, he⟩ := bn_some he
  obtain ⟨q, h3, e⟩ := valR_some he
  subst e
  have h := and2 (and2 h).2
  have hab := and2 h.2
  have tc := (gc R Y).t h.1 _ _ (test_mk h1 h2)
  cases t with
  | true => exact te_ite tc (tv_of (ga R Y) hab.1 h3)
  | false => exact te_ite tc (tv_of (gb R Y) hab.2 h3), fun h => (nomatch h)⟩
theorem ge_tup {es : List Ex} (g : GEs Γ n O es) : GE Γ n O (.tup es) := fun R Y => both_of rfl rfl fun h r σ' he => by
  obtain ⟨ps, σ₁, h1, he⟩ := bd_some he
  obtain ⟨hl, he⟩ := gd_val he
  have h2 := (g R Y h h1).v
  unfold mkTup at he
  cases hd : dats ps with
  | some ds => rw [hd] at he; cases he; exact te_tup (h2 _) hl hd
  | none => rw [hd] at he; cases he; exact te_tupL (h2 _) hl
theorem ge_lst {es : List Ex} (g : GEs Γ n O es) : GE Γ n O (.lst es) := fun R Y => both_of rfl rfl fun h r σ' he => by
  obtain ⟨ps, σ₁, h1, he⟩ := bd_some he
  obtain ⟨hl, he⟩ := gd_val he
  cases he
  exact te_lst ((g R Y h h1).v _) hl
theorem ge_edct : GE Γ n O .edct := fun R Y => both_of rfl rfl fun h r σ' he => by cases he; exact te_edct
theorem ge_idx (K : Γ.Ok) (X : CkOk Γ) (CO : CallOk Γ n O) {a i : Ex} (ga : GE Γ n O a) (gi : GE Γ n O i) : GE Γ n O (.idx a i) := fun R Y => both_of rfl rfl fun h r σ' he => by
  obtain ⟨p, σ₁, h1, he⟩ := bd_some he
  obtain ⟨q, σ₂, h2, he⟩ := bd_some he
  obtain ⟨v, h3, e⟩ := valR_some he
  subst e
  have hai := and2 (and2 h).2
  refine te_idx (tv_of (ga R Y) hai.1 h1) (tv_of (gi R Y) hai.2 h2) fun μ H s v w S hv hw => ?_
  refine d_index S hv hw h3 (sub_ok (and2 h).1 false v w) fun l f hp hm hO => ?_
  rw [hp] at hv hO
  exact d_idxI K R CO S hv hw hm (form_ok hm X.fGet).1 hO (sub_ok (and2 h).1 true v w)
theorem ge_slc {a : Ex} {lo hi : Option Ex} (ga : GE Γ n O a) (gl : GEo Γ n O lo) (gh : GEo Γ n O hi) : GE Γ n O (.slc a lo hi) := fun R Y => both_of rfl rfl fun h r σ' he => by
  obtain ⟨p, σ₁, h1, he⟩ := bd_some he
  obtain ⟨l, σ₂, h2, he⟩ := bd_some he
  obtain ⟨u, σ₃, h3, he⟩ := bd_some he
  obtain ⟨r', h4, e⟩ := mp_some he
  cases e
  obtain ⟨x, e1, h5⟩ := bn_some h4
  obtain ⟨y, e2, _⟩ := bn_some h5
  have hlh := and2 (and2 h).2
  exact te_slc (tv_of (ga R Y) (and2 h).1 h1) (gl R Y hlh.1 l σ₂ x h2 e1) (gh R Y hlh.2 u _ y h3 e2) e1 e2 h4
theorem ge_attr (K : Γ.Ok) {a : Ex} {x : Nat} (ga : GE Γ n O a) : GE Γ n O (.attr a x) := fun R Y => both_of rfl rfl fun h r σ' he => by
  obtain ⟨p, σ₁, h1, he⟩ := bd_some he
  obtain ⟨q, h2, e, e2⟩ := keepR_some he
  subst e e2
  exact te_attr K rfl (base_ok (and2 h).1) (tv_of (ga R Y) (and2 h).2 h1) h2
theorem ge_mut {a : Ex} (ga : GE Γ n O a) : GE Γ n O (.mut a) := fun {A env sc P ρ σ} R Y => by
  have key : ∀ r σ', ev Γ.I O (.mut a) ρ σ = some (r, σ') → ∃ xs σ₁, ev Γ.I O a ρ σ = some (.fresh xs, σ₁) ∧ r = .val (.loc σ₁.length) ∧ σ' = σ₁ ++ [.lst xs] := fun r σ' he => by
    obtain ⟨r', σ₁, h1, he⟩ := bd_some he
    obtain ⟨xs, h2, he⟩ := bn_some he
    rw [frsh_some h2] at h1
    cases he
    exact ⟨xs, σ₁, h1, rfl, rfl⟩
  refine ⟨fun h r σ' he => ?_, fun h b σ' ht => ?_⟩
  · obtain ⟨xs, σ₁, h1, e, e2⟩ := key r σ' he
    subst e e2
    exact te_mut ((ga R Y).v h _ _ h1)
  · obtain ⟨p, h1, h2⟩ := test_some ht
    obtain ⟨r, σ₁, h3, h4⟩ := fin_some h1
    obtain ⟨xs, σ₂, h5, e, e2⟩ := key r σ₁ h3
    subst e
    cases h4
    cases h2
theorem ges_nil : GEs Γ n O [] := fun R Y h ps σ' he => by
  cases he
  exact ⟨fun pos => tvs_nil, fun pos => rfl, rfl, rfl⟩
theorem ges_cons {x : Ex} {xs : List Ex} (g : GE Γ n O x) (gs : GEs Γ n O xs) : GEs Γ n O (x :: xs) := fun R Y h ps σ' he => by
  obtain ⟨p, σ₁, h4, he⟩ := bd_some he
  obtain ⟨ps', σ₂, h5, he⟩ := bd_some he
  cases he
  have h2 := and2 (and2 h).2
  have q := gs R Y h2.2 h5
  refine ⟨fun pos => tvs_cons (star_cons (and2 h).1) (tv_of (g R Y) h2.1 h4) (q.v pos), fun pos => ?_, congrArg (· + 1) q.len, congrArg (· + 1) q.elen⟩
  have k := q.plain pos
  rw [any_back] at k ⊢
  show ((starEach (tr Γ.C x _ :: _) _).any _) = false
  rw [star_cons (and2 h).1]
  exact k
theorem geo_none : GEo Γ n O none := fun R Y h p σ' a he ha => by
  cases he
  cases ha
  exact tp_none
theorem geo_some {x : Ex} (g : GE Γ n O x) : GEo Γ n O (some x) := fun R Y h p σ' a he ha => by
  obtain ⟨q, σ₁, h1, he⟩ := bd_some he
  cases he
  exact tp_some (tv_of (g R Y) h h1) ha
end
end Mine
end
section
namespace Mine
open PySem PySem.W PySem.Calls PyProof.Rows
section
variable {Γ : Cx} {A : Around} {env : Env} {ρ ρ' : En} {σ σ₁ σ₂ σ₃ σ₄ σ' : Hp} {μ : List Addr} {H : Addr → Prop} {s : Shared} {n : Nat} {O : Orc} {F : Addr → Prop} {D : Addr} {sc : Sc} {P : Px}
theorem ge_call (K : Γ.Ok) (X : CkOk Γ) (CO : CallOk Γ n O) {f : Nat} {es : List Ex} (g : GEs Γ n O es) : GE Γ n O (.call f es) := fun R Y => both_of rfl rfl fun h r σ' he => by
  obtain ⟨ps, σ₁, h7, he⟩ := bd_some he
  obtain ⟨p, h8, e⟩ := valR_some he
  subst e
  have ha := andL h
  have hb := andR h
  have hc := andR hb
  have hb := andL hb
  have hd := andL hb
  have hf := andR hb
  have q := g R Y hc h7
  have k := X.fn f hd
  exact te_call K R CO k.1 (glob_ok Y (and2 ha).1) (name_ok (and2 ha).2).1 (fn_keep k.2) (q.plain _) (q.v _) (by rw [q.len]; exact List.contains_iff_mem.mp hf) h8
theorem ge_new (K : Γ.Ok) (X : CkOk Γ) (CO : CallOk Γ n O) {c : Nat} {es : List Ex} (g : GEs Γ n O es) : GE Γ n O (.new c es) := fun R Y => both_of rfl rfl fun h r σ' he => by
  obtain ⟨k, hk, he⟩ := bn_some he
  obtain ⟨ps, σ₁, h7, he⟩ := bd_some he
  obtain ⟨p, σ₂, h8, he⟩ := bd_some he
  obtain ⟨hp, he⟩ := gd_val he
  cases he
  rw [isNonP_eq hp] at h8
  have ha := andL h
  have hb := andR h
  have hc := andR hb
  have hb := andL hb
  have q := g R Y hc h7
  have hk' : lk c Γ.C.I.cls = some k := hk
  rw [hk'] at hb
  exact te_new K R CO hk (X.cl _ _ hk) (glob_ok Y (and2 ha).1) (name_ok (and2 ha).2).1 (q.plain _) (q.v _) (by rw [q.len]; exact List.contains_iff_mem.mp hb) h8
theorem mem1 {α : Type} {a : α} {l : List α} : a ∈ a :: l := .head _
theorem mem2 {α : Type} {a b : α} {l : List α} : b ∈ a :: b :: l := .tail _ (.head _)
theorem mem3 {α : Type} {a b c : α} {l : List α} : c ∈ a :: b :: c :: l := .tail _ mem2
theorem mem4 {α : Type} {a b c d : α} {l : List α} : d ∈ a :: b :: c :: d :: l := .tail _ mem3
theorem mem5 {α : Type} {a b c d e : α} {l : List α} : e ∈ a :: b :: c :: d :: e :: l := .tail _ mem4
theorem mem6 {α : Type} {a b c d e f : α} {l : List α} : f ∈ a :: b :: c :: d :: e :: f :: l := .tail _ mem5
theorem mem7 {α : Type} {a b c d e f g : α} {l : List α} : g ∈ a :: b :: c :: d :: e :: f :: g :: l := .tail _ mem6
noncomputable abbrev On1 (Γ : Cx) (A : Around) (T : Value) (σ σ' : Hp) (p : PV) (r : Res) : Prop := ∀ μ H s v, Γ.St μ H σ s → VR μ (gr s.heap H) v p → Does Γ A (call T [v]) μ H s (RR s.heap r) σ'
theorem on1 {T : Value} {p : PV} {r : Res} (h : On1 Γ A T σ σ' p r) : ∀ μ H s vs, Γ.St μ H σ s → VRs μ (gr s.heap H) vs [p] → Does Γ A (call T vs) μ H s (RR s.heap r) σ' := fun μ H s vs S hv => by
  obtain ⟨v, e, hv'⟩ := vrs_one hv
  subst e
  exact h μ H s v S hv'
theorem in_two {T : String} {j : Str} {np2 pos2 : Pos} {ys : List Expr} {r : Res} {f : Value → Sem Value} {ps : List PV} {ρ : En} (K : Γ.Ok) (q : GoodEs Γ A env ys ρ σ ps n σ₁) (hb2 : BltIs Γ env j (.type T))
    (hd : ∀ μ H s vs, Γ.St μ H σ₁ s → VRs μ (gr s.heap H) vs ps → WP Γ A (call (.type T) vs) (fun x s₁ => WP Γ A (f x) (Post Γ μ H s.heap s.os (RR s.heap r) σ₁) s₁) s) (S : Γ.St μ H σ s) (E : EnvR Γ env ρ μ H s.heap) :
    WP Γ A (eval (.Call (.Name j np2) ys [] pos2) env) (fun x s₁ => WP Γ A (f x) (Post Γ μ H s.heap s.os (RR s.heap r) σ₁) s₁) s := by
  refine wpAny_Call_ofName (name_gl K S E (.inr ⟨hb2.1, hb2.2.1⟩) hb2.2.2.1 hb2.2.2.2 ?_)
  refine with_type S E (q.plain _) (q.v _) fun μ₂ H₂ s₂ vs T₂ S₂ r₁ => ?_
  refine wpAny_mono (hd μ₂ H₂ s₂ vs S₂ r₁) (fun x s₁ y => Does.use y fun v s' μ' H' T' S' rr => ?_) fun _ _ e => e
  exact ⟨μ', H', T₂.trans T', S', rr.back fun b e => T₂.fresh e⟩
theorem bi1 {T : String} {id : Str} {np pos : Pos} {xs : List Expr} {ps : List PV} {r : Res} {f : PV → Option Res} (K : Γ.Ok) (hb : BltIs Γ env id (.builtin T)) (q : GoodEs Γ A env xs ρ σ ps n σ₁) (hr : one ps f = some r) (h : ∀ p, f p = some r → On1 Γ A (.builtin T) σ₁ σ₁ p r) :
    TE Γ A env (eval (.Call (.Name id np) xs [] pos) env) ρ σ r σ₁ := by
  obtain ⟨p, e, hp⟩ := one_some hr
  exact te_bi K hb (q.plain _) (q.v _) (by rw [e]; exact on1 (h p hp))
theorem bt1 {T : String} {id : Str} {np pos : Pos} {xs : List Expr} {ps : List PV} {r : Res} {f : PV → Option Res} (K : Γ.Ok) (hb : BltIs Γ env id (.type T)) (q : GoodEs Γ A env xs ρ σ ps n σ₁) (hr : one ps f = some r) (h : ∀ p, f p = some r → On1 Γ A (.type T) σ₁ σ₁ p r) :
    TE Γ A env (eval (.Call (.Name id np) xs [] pos) env) ρ σ r σ₁ := by
  obtain ⟨p, e, hp⟩ := one_some hr
  exact te_bt K hb (q.plain _) (q.v _) (by rw [e]; exact on1 (h p hp))
theorem ge_bi (K : Γ.Ok) (X : CkOk Γ) (CO : CallOk Γ n O) {b : Bi} {es : List Ex} (g : GEs Γ n O es) : GE Γ n O (.bi b es) := fun {A env sc P ρ σ} R Y => both_of (by cases b <;> rfl) (by cases b <;> rfl) fun h r σ' he => by
  have hA := R.hand
  obtain ⟨ps, σ₁, h7, he⟩ := bd_some he
  have h1 := andL h
  have h2 := andR h
  have gen : ∀ r, callBi b ps σ₁ = some r → TE Γ A env (eval (tr Γ.C (.bi b es) P) env) ρ σ r σ₁ := fun r hr => by
    cases b with
    | len => exact bi1 K (bf_ok (s := "len") Y X mem1 h1) (g R Y h2 h7) hr fun p hp μ H s v S hv => d_len S hv hp
    | typ => exact bt1 K (bt_ok (s := "type") Y X mem1 h1) (g R Y h2 h7) hr fun p hp μ H s v S hv => d_typ S hv hp
    | strOf => exact bt1 K (bt_ok (s := "str") Y X mem2 h1) (g R Y h2 h7) hr fun p hp μ H s v S hv => d_strOf S hv hp
    | min1 => exact bi1 K (bf_ok (s := "min") Y X mem2 h1) (g R Y h2 h7) hr fun p hp μ H s v S hv => d_minAny R S hv hp
    | max1 => exact bi1 K (bf_ok (s := "max") Y X mem3 h1) (g R Y h2 h7) hr fun p hp μ H s v S hv => d_maxAny hA S hv hp
    | sorted => exact bi1 K (bf_ok (s := "sorted") Y X mem4 h1) (g R Y h2 h7) hr fun p hp μ H s v S hv => d_sorted R S hv hp
    | min2 =>
      obtain ⟨p, p', e, _⟩ := twoA_some hr
      subst e
      have q := g R Y h2 h7
      exact te_bi (T := "min") K (bf_ok (s := "min") Y X mem2 h1) (q.plain _) (q.v _) fun μ H s vs S hv => by
        obtain ⟨v, w, e, hv', hw⟩ := vrs_two hv
        subst e
        exact d_min2 hA S hv' hw hr
    | sortedset =>
      obtain ⟨p, e, _⟩ := one_some hr
      subst e
      have h3 := andR h2
      have h2 := andL h2
      have q := g R Y h3 h7
      exact fun μ H s S E => wp_b1 (T := "sorted") K S E (bf_ok (s := "sorted") Y X mem4 h1) rfl rfl (in_two (f := fun x => call (.builtin "sorted") [x]) K q (bt_ok (s := "set") Y X mem4 h2) (fun μ H s vs S hv => by
        obtain ⟨v, e, hv'⟩ := vrs_one hv
        subst e
        exact d_sortedset R S hv' hr) S E)
    | listzip =>
      obtain ⟨p, p', e, _⟩ := twoA_some hr
      subst e
      have h3 := andR h2
      have h2 := andL h2
      have q := g R Y h3 h7
      exact fun μ H s S E => wp_t1 (T := "list") K S E (bt_ok (s := "list") Y X mem3 h1) rfl rfl (in_two (f := fun x => call (.type "list") [x]) K q (bt_ok (s := "zip") Y X mem5 h2) (fun μ H s vs S hv => by
        obtain ⟨v, w, e, hv', hw⟩ := vrs_two hv
        subst e
        exact d_listzip R S hv' hw hr) S E)
    | listrange =>
      have h3 := andR h2
      have h2 := andL h2
      have q := g R Y h3 h7
      exact te_listrange K hA (bt_ok (s := "list") Y X mem3 h1) (bt_ok (s := "range") Y X mem6 h2) rfl rfl (q.plain _) (q.v _) hr
  rcases or_some he with he | he
  · obtain ⟨hb, he⟩ := gd_some he
    obtain ⟨p, e1, he⟩ := one_some he
    obtain ⟨l, hl, he⟩ := bn_some he
    obtain ⟨f, hm, he⟩ := bn_some he
    obtain ⟨q', σ₂, h8, he⟩ := bd_some he
    obtain ⟨k, hk, he⟩ := bn_some he
    obtain ⟨hz, he⟩ := gd_val he
    cases he
    rw [intP_some hk] at h8
    rw [e1, locP_some hl] at h7
    cases b with
    | len =>
      have q := g R Y h2 h7
      exact te_bi (T := "len") K (bf_ok (s := "len") Y X mem1 h1) (q.plain _) (q.v _) (on1 fun μ H s v S hv => d_lenI K R CO S hv hm (form_ok hm X.fLen).1 h8 ⟨hz.1, by (first | lia | omega)⟩)
    | _ => cases hb
  · obtain ⟨r', h8, e⟩ := mp_some he
    cases e
    exact gen _ h8
end
end Mine
end
section
namespace Mine
open PySem PySem.W PySem.Calls PyProof.Rows
structure GoodK (Γ : Cx) (A : Around) (env : Env) (kws : List Keyword) (ρ : En) (σ : Hp) (qs : List PV) (k : Option Nat) (σ' : Hp) : Prop where
  v : ∀ pos, TKs Γ A env (backToKw pos (keywordEach kws env)) ρ σ qs σ'
  all : ∀ pos, (backToKw pos (keywordEach kws env)).all (·.1.isSome) = true
  names : ∀ pos, (backToKw pos (keywordEach kws env)).filterMap (·.1) = k.toList.map (nm Γ.I)
  len : qs.length = kwN k
  klen : kws.length ≤ 1
noncomputable def GEk (Γ : Cx) (n : Nat) (O : Orc) (kw : Option (Nat × Ex)) : Prop := ∀ {A : Around} {env : Env} {sc : Sc} {P : Px} {i : Nat} {ρ : En} {σ : Hp}, Room (n + 1) A → EnvS env sc → wfk Γ.C kw sc i P = true →
  ∀ {qs σ'}, evk Γ.I O kw ρ σ = some (qs, σ') → GoodK Γ A env (trk Γ.C kw i P) ρ σ qs (kw.map (·.1)) σ'
section
variable {Γ : Cx} {A : Around} {env : Env} {ρ ρ' : En} {σ σ₁ σ₂ σ₃ σ₄ σ' : Hp} {μ : List Addr} {H : Addr → Prop} {s : Shared} {n : Nat} {O : Orc} {F : Addr → Prop} {D : Addr} {sc : Sc} {P : Px}
theorem gek_none : GEk Γ n O none := fun R Y h qs σ' he => by
  cases he
  exact ⟨fun pos => tks_nil, fun pos => rfl, fun pos => rfl, rfl, Nat.zero_le _⟩
theorem gek_some {j : Nat} {x : Ex} (g : GE Γ n O x) : GEk Γ n O (some (j, x)) := fun R Y h qs σ' he => by
  obtain ⟨q, σ₁, h1, he⟩ := bd_some he
  cases he
  exact ⟨fun pos => tks_one (tv_of (g R Y) h h1), fun pos => rfl, fun pos => rfl, rfl, Nat.le_refl _⟩
theorem few_ok {pos : Pos} {xs : List Expr} {kws : List Keyword} {k : Nat} (hp : (backTo pos (starEach xs env)).any (·.1) = false) (hk : (backToKw pos (keywordEach kws env)).all (·.1.isSome) = true) (hl : k < 25) : methodCallForm k (backTo pos (starEach xs env)) (backToKw pos (keywordEach kws env)) = true := by
  unfold methodCallForm
  have h1 : (backTo pos (starEach xs env)).all (fun x => !x.1) = true := by
    rw [List.all_eq_true]
    intro x hx
    have := List.any_eq_false.mp hp x hx
    simpa using this
  rw [h1, hk]
  simp only [Bool.true_and, decide_eq_true_eq]
  split <;> (first | lia | omega)
theorem methOf_fn {l x f : Nat} (K : Γ.Ok) (h : methOf Γ.I σ l x = some f) : fnIn Γ.K (Γ.fa f) = true := by
  obtain ⟨i, _, h⟩ := bn_some h
  obtain ⟨k, h1, h⟩ := bn_some h
  obtain ⟨kvs, _, h⟩ := bn_some h
  exact ((K.clsAt _ _ h1).2.meths x f (gd_some h).2).2.2
theorem ge_own (K : Γ.Ok) (CO : CallOk Γ n O) {a : Ex} {x : Nat} {es : List Ex} {kw : Option (Nat × Ex)} (ga : GE Γ n O a) (gs : GEs Γ n O es) (gk : GEk Γ n O kw) : GE Γ n O (.meth a (.own x) es kw) := fun R Y => both_of rfl rfl fun h r σ' he => by
  obtain ⟨p, σ₁, e1, he⟩ := bd_some he
  obtain ⟨ps, σ₂, e2, he⟩ := bd_some he
  obtain ⟨qs, σ₃, e3, he⟩ := bd_some he
  obtain ⟨f, hf, he⟩ := bn_some he
  obtain ⟨q, e4, e⟩ := valR_some he
  obtain ⟨l, hl, hm⟩ := bn_some hf
  have h1 := andL h
  have h5 := andR h
  have h3 := andR h1
  have h1 := andL h1
  have h2 := andR h1
  have h1 := andL h1
  have h4 := andR h3
  have h3 := andL h3
  have h6 := andR h5
  have h5 := andL h5
  have h7 := andR h6
  have h6 := andL h6
  have qa := gs R Y h5 e2
  have qk := gk R Y h7 e3
  have hfo := form_ok hm h6
  have e1 := tv_of (ga R Y) h4 e1
  rw [locP_some hl] at e1 e4
  rw [e]
  refine te_own K R CO rfl (base_ok h1) (few_ok (qa.plain _) (qk.all _) ?_) h2 e1 (qa.plain _) (qk.all _) (qa.v _) (qk.v _) hm ?_ ?_ (methOf_fn K hm) e4
  · rw [qa.elen]
    exact Nat.lt_of_lt_of_le (Nat.add_lt_add_of_lt_of_le (Nat.le_of_ble_eq_true h3) qk.klen) (by decide)
  · rw [qa.len, qk.len]; exact hfo.1
  · rw [qk.names, qa.len, qk.len]
    unfold kwn
    cases kw with
    | none => rw [show kwN (Option.map (·.1) (none : Option (Nat × Ex))) = 0 from rfl, List.take_zero]; rfl
    | some jx => exact congrArg (List.map (nm Γ.I)) (hfo.2 jx.1 rfl).symm
theorem rcv_list {l : Nat} (h : rcv σ (.loc l) = true) : ∃ xs, σ[l]? = some (.lst xs) := by
  obtain ⟨xs, h⟩ := Option.isSome_iff_exists.mp h
  exact ⟨xs, lstAt_some h⟩
structure MtIn (Γ : Cx) (A : Around) (env : Env) (o : Expr) (id : Str) (apos pos : Pos) (es : List Expr) (ρ : En) (σ : Hp) (p : PV) (σ₁ : Hp) (ps : List PV) (σ₂ : Hp) : Prop where
  base : attributeBase o id env (eval o env) = eval o env
  few : methodCallForm (es.length + ([] : List Keyword).length) (backTo pos (starEach es env)) (backToKw pos (keywordEach [] env)) = true
  line : (apos.endLine == pos.line) = true
  o : TV Γ A env (eval o env) ρ σ p σ₁
  plain : (backTo pos (starEach es env)).any (·.1) = false
  args : TVs Γ A env (spliced (backTo pos (starEach es env))) ρ σ₁ ps σ₂
theorem mt_in {T bid : String} {o : Expr} {id : Str} {apos pos : Pos} {es : List Expr} {p : PV} {ps : List PV} {r : Res} (x : MtIn Γ A env o id apos pos es ρ σ p σ₁ ps σ₂) (pa : PlainAttrs T) (slot : Slot T id bid) (hty : typeOf (.builtin bid) = pure (.type "method_descriptor"))
    (hT : ∀ μ H s v, Γ.St μ H σ₁ s → VR μ (gr s.heap H) v p → s.TypeIs v T ∧ ∀ a, v = .ref a → ∃ ob, s.heap.get? a = some ob ∧ ob.dict = none)
    (h : ∀ μ H s v vs, Γ.St μ H σ₂ s → VR μ (gr s.heap H) v p → VRs μ (gr s.heap H) vs ps → Does Γ A (call (.builtin bid) (v :: vs)) μ H s (RR s.heap r) σ₃) :
    TE Γ A env (eval (.Call (.Attribute o id apos) es [] pos) env) ρ σ r σ₃ := te_meth pa slot hty x.base x.few x.line x.o x.plain x.args hT h
theorem mt_str {bid : String} {o : Expr} {id : Str} {apos pos : Pos} {es : List Expr} {y : Str} {p : PV} {ps : List PV} {r : Res} (x : MtIn Γ A env o id apos pos es ρ σ p σ₁ ps σ₂) (hp : txtP p = some y) (slot : Slot "str" id bid) (hty : typeOf (.builtin bid) = pure (.type "method_descriptor"))
    (h : ∀ μ H s v vs, Γ.St μ H σ₂ s → VR μ (gr s.heap H) v p → VRs μ (gr s.heap H) vs ps → Does Γ A (call (.builtin bid) (v :: vs)) μ H s (RR s.heap r) σ₃) :
    TE Γ A env (eval (.Call (.Attribute o id apos) es [] pos) env) ρ σ r σ₃ := mt_in x PySem.F.plainAttrs_str slot hty (fun μ H s v S hv => str_type (txtP_some hp ▸ hv)) h
theorem mt_list {bid : String} {o : Expr} {id : Str} {apos pos : Pos} {es : List Expr} {l : Nat} {p : PV} {ps : List PV} {r : Res} (x : MtIn Γ A env o id apos pos es ρ σ p σ₁ ps σ₂) (hp : locP p = some l) (hr : rcv σ₁ p = true) (slot : Slot "list" id bid) (hty : typeOf (.builtin bid) = pure (.type "method_descriptor"))
    (h : ∀ μ H s v vs, Γ.St μ H σ₂ s → VR μ (gr s.heap H) v p → VRs μ (gr s.heap H) vs ps → Does Γ A (call (.builtin bid) (v :: vs)) μ H s (RR s.heap r) σ₃) :
    TE Γ A env (eval (.Call (.Attribute o id apos) es [] pos) env) ρ σ r σ₃ := by
  rw [locP_some hp] at hr
  obtain ⟨xs, hl⟩ := rcv_list hr
  exact mt_in x PySem.F.plainAttrs_list slot hty (fun μ H s v S hv => list_type S (locP_some hp ▸ hv) hl) h
noncomputable abbrev On2 (Γ : Cx) (A : Around) (T : Value) (σ σ' : Hp) (p q : PV) (r : Res) : Prop := ∀ μ H s v w, Γ.St μ H σ s → VR μ (gr s.heap H) v p → VR μ (gr s.heap H) w q → Does Γ A (call T [v, w]) μ H s (RR s.heap r) σ'
theorem on2 {T : Value} {p q : PV} {r : Res} (h : On2 Γ A T σ σ' p q r) : ∀ μ H s v vs, Γ.St μ H σ s → VR μ (gr s.heap H) v p → VRs μ (gr s.heap H) vs [q] → Does Γ A (call T (v :: vs)) μ H s (RR s.heap r) σ' := fun μ H s v vs S hv hvs => by
  obtain ⟨w, e, hw⟩ := vrs_one hvs
  subst e
  exact h μ H s v w S hv hw
theorem on0 {T : Value} {p : PV} {r : Res} {ps : List PV} (e : ps.isEmpty = true) (h : On1 Γ A T σ σ' p r) : ∀ μ H s v vs, Γ.St μ H σ s → VR μ (gr s.heap H) v p → VRs μ (gr s.heap H) vs ps → Does Γ A (call T (v :: vs)) μ H s (RR s.heap r) σ' := fun μ H s v vs S hv hvs => by
  cases hvs with
  | nil => exact h μ H s v S hv
  | cons _ _ => cases e
theorem mt_index {o : Expr} {apos pos : Pos} {es : List Expr} {p : PV} {ps : List PV} {r : Res} (R : Room n A) (x : MtIn Γ A env o "index" apos pos es ρ σ p σ₁ ps σ₂) (hr : rcv σ₁ p = true) (he : callMt Γ.I .index p ps σ₂ = some (r, σ')) : TE Γ A env (eval (.Call (.Attribute o "index" apos) es [] pos) env) ρ σ r σ' := by
  obtain ⟨q, e, h1⟩ := one_some he
  rw [e] at x
  rcases or_some h1 with h2 | h2
  · obtain ⟨y, hy, h3⟩ := bn_some h2
    obtain ⟨z, hz, h4⟩ := bn_some h3
    obtain ⟨i, hi, h5⟩ := mp_some h4
    cases h5
    cases ho : Builtin.Str.occurrences y z 0 y.length 1 with
    | nil => rw [ho] at hi; cases hi
    | cons j rest =>
      rw [ho] at hi
      cases hi
      exact mt_str (bid := "str.index") x hy PySem.F.slot_str_index PySem.F.type_str_index (on2 fun μ H s v w S hv hw => d_indexS S (txtP_some hy ▸ hv) (txtP_some hz ▸ hw) ho)
  · obtain ⟨l, hl, h3⟩ := bn_some h2
    obtain ⟨y, hy, h4⟩ := bn_some h3
    obtain ⟨d, hd, h5⟩ := bn_some h4
    obtain ⟨xs, hx, h6⟩ := bn_some h5
    obtain ⟨hc, h7⟩ := gd_some h6
    obtain ⟨i, hi, h8⟩ := mp_some h7
    cases h8
    have hs := and2 hc.1
    rw [lstOf_some hx] at hd
    exact mt_list (bid := "list.index") x hl hr PySem.F.slot_list_index PySem.F.type_list_index (on2 fun μ H s v w S hv hw => d_indexL R S (locP_some hl ▸ hv) (datP_some hy ▸ hw) hd hs.1 hs.2 hc.2 hi)
theorem mt_search {o : Expr} {apos pos : Pos} {es : List Expr} {p : PV} {ps : List PV} {r : Res} (K : Γ.Ok) (x : MtIn Γ A env o "search" apos pos es ρ σ p σ₁ ps σ₂) (he : callMt Γ.I .search p ps σ₂ = some (r, σ')) : TE Γ A env (eval (.Call (.Attribute o "search" apos) es [] pos) env) ρ σ r σ' := by
  obtain ⟨q, e, h1⟩ := one_some he
  obtain ⟨a, ha, h2⟩ := bn_some h1
  obtain ⟨t, ht, h3⟩ := bn_some h2
  obtain ⟨code, hc, h4⟩ := bn_some h3
  obtain ⟨hs, h5⟩ := gd_val h4
  cases h5
  rw [e] at x
  have hP := K.pats _ _ hc
  exact mt_in (bid := "re.Pattern.search") x plainAttrs_pat slot_pat_search type_pat_search (fun μ H s v S hv => pat_type S hP (glP_some ha ▸ hv)) (on2 fun μ H s v w S hv hw => d_search S hP (glP_some ha ▸ hv) (txtP_some ht ▸ hw) hs.1 hs.2)
theorem mt_one {p : PV} {ps : List PV} {r : Res} {f : Nat → PV → Option (Res × Hp)} (he : (one ps fun q => (locP p).bind fun l => f l q) = some (r, σ')) : ∃ l q, locP p = some l ∧ ps = [q] := by
  obtain ⟨q, e, h1⟩ := one_some he
  obtain ⟨l, hl, _⟩ := bn_some h1
  exact ⟨l, q, hl, e⟩
theorem mt_all {o : Expr} {apos pos : Pos} {es : List Expr} {p : PV} {ps : List PV} {r : Res} (K : Γ.Ok) (R : Room n A) : (m : Mt) → MtIn Γ A env o (mtName Γ.C.I m) apos pos es ρ σ p σ₁ ps σ₂ → rcv σ₁ p = true → callMt Γ.I m p ps σ₂ = some (r, σ') → TE Γ A env (eval (.Call (.Attribute o (mtName Γ.C.I m) apos) es [] pos) env) ρ σ r σ'
  | .own x, _, _, he => nomatch he
  | .upper, x, _, he => by
    obtain ⟨h0, h1⟩ := gd_some he
    obtain ⟨y, hy, _⟩ := bn_some h1
    cases ps with
    | cons _ _ => cases h0
    | nil => exact mt_str (bid := "str.upper") x hy PySem.F.slot_str_upper PySem.F.type_str_upper (on0 rfl fun μ H s v S hv => (d_upper S hv he).1)
  | .lower, x, _, he => by
    obtain ⟨h0, h1⟩ := gd_some he
    obtain ⟨y, hy, _⟩ := bn_some h1
    cases ps with
    | cons _ _ => cases h0
    | nil => exact mt_str (bid := "str.lower") x hy PySem.F.slot_str_lower PySem.F.type_str_lower (on0 rfl fun μ H s v S hv => (d_lower S hv he).1)
  | .join, x, _, he => by
    obtain ⟨q, e, h1⟩ := one_some he
    obtain ⟨y, hy, _⟩ := bn_some h1
    rw [e] at x he
    exact mt_str (bid := "str.join") x hy PySem.F.slot_str_join PySem.F.type_str_join (on2 fun μ H s v w S hv hw => (d_join S hv hw he).1)
  | .index, x, hr, he => mt_index R x hr he
  | .append, x, hr, he => by
    obtain ⟨l, q, hl, e⟩ := mt_one he
    rw [e] at x he
    exact mt_list (bid := "list.append") x hl hr PySem.F.slot_list_append PySem.F.type_list_append (on2 fun μ H s v w S hv hw => d_append S hv hw he)
  | .extend, x, hr, he => by
    obtain ⟨l, q, hl, e⟩ := mt_one he
    rw [e] at x he
    exact mt_list (bid := "list.extend") x hl hr PySem.F.slot_list_extend PySem.F.type_list_extend (on2 fun μ H s v w S hv hw => d_extend S hv hw he)
  | .remove, x, hr, he => by
    obtain ⟨l, q, hl, e⟩ := mt_one he
    rw [e] at x he
    exact mt_list (bid := "list.remove") x hl hr PySem.F.slot_list_remove PySem.F.type_list_remove (on2 fun μ H s v w S hv hw => d_remove S hv hw he)
  | .search, x, hr, he => mt_search K x he
theorem ge_mt (K : Γ.Ok) {a : Ex} {m : Mt} {es : List Ex} {kw : Option (Nat × Ex)} (hw : ∀ {sc : Sc} {P : Px}, wf Γ.C false (.meth a m es kw) sc P = true → kw.isNone = true)
    (he : ∀ {p : PV} {ps : List PV} {σ₁ σ₂ : Hp} {y : Res × Hp}, callM Γ.I O p m ps [] σ₁ σ₂ = some y → gd (rcv σ₁ p && true) (callMt Γ.I m p ps σ₂) = some y) (ga : GE Γ n O a) (gs : GEs Γ n O es) : GE Γ n O (.meth a m es kw) := fun R Y => both_of rfl rfl fun h r σ' ev' => by
  have h0 := hw h
  obtain ⟨p, σ₁, e1, ev'⟩ := bd_some ev'
  obtain ⟨ps, σ₂, e2, ev'⟩ := bd_some ev'
  obtain ⟨qs, σ₃, e3, ev'⟩ := bd_some ev'
  cases kw with
  | some _ => cases h0
  | none =>
    cases e3
    obtain ⟨hr, h8⟩ := gd_some (he ev')
    have h1 := andL h
    have h5 := andR h
    have h3 := andR h1
    have h1 := andL h1
    have h2 := andR h1
    have h1 := andL h1
    have h4 := andR h3
    have h3 := andL h3
    have q := gs R Y (and2 h5).1 e2
    exact mt_all K R m ⟨base_ok h1, few_ok (q.plain _) rfl (by rw [q.elen]; exact Nat.lt_of_lt_of_le (Nat.le_of_ble_eq_true h3) (by decide)), h2, tv_of (ga R Y) h4 e1, q.plain _, q.v _⟩ (and2 hr).1 h8
end
end Mine
end
section
namespace Mine
open PySem PySem.W PySem.Calls PyProof.Rows
noncomputable def GIt (Γ : Cx) (n : Nat) (O : Orc) (it : It) : Prop := ∀ {A : Around} {env : Env} {sc : Sc} {P : Px} {ρ : En} {σ : Hp}, Room (n + 1) A → EnvS env sc → wfI Γ.C it sc P = true →
  ∀ {src σ'}, evIt Γ.I O it ρ σ = some (src, σ') → TI Γ A env (eval (trI Γ.C it P) env) ρ σ src σ'
noncomputable def GTs (Γ : Cx) (n : Nat) (O : Orc) (xs : List Ex) : Prop := ∀ {A : Around} {env : Env} {sc : Sc} {P : Px} {i : Nat}, Room (n + 1) A → EnvS env sc → wfT Γ.C xs sc i P = true → TestsOk Γ O A env (trs Γ.C xs i P) xs
noncomputable def GCb (Γ : Cx) (n : Nat) (O : Orc) : Cb → Prop
  | .emit x => GE Γ n O x
  | .gen t it ifs r => GIt Γ n O it ∧ ∀ {A : Around} {env : Env} {F : Addr → Prop} {sc : Sc} {first : Bool} {i : Nat} {P : Px}, Room (n + 1) A → EnvS env sc → (∀ x ∈ cbNames (.gen t it ifs r), Own Γ env F x) → wfC Γ.C first (.gen t it ifs r) sc i P = true →
      Cl Γ O A env F (trE Γ.C (.gen t it ifs r) P) (trG Γ.C (.gen t it ifs r) i P) (.gen t it ifs r)
section
variable {Γ : Cx} {A : Around} {env : Env} {ρ ρ' : En} {σ σ₁ σ₂ σ₃ σ₄ σ' : Hp} {μ : List Addr} {H : Addr → Prop} {s : Shared} {n : Nat} {O : Orc} {F : Addr → Prop} {D : Addr} {sc : Sc} {P : Px}
theorem imm_ti {x : Sem Value} {p : PV} {xs : List PV} (hA : A.handled = none) (hv : TV Γ A env x ρ σ p σ₁) (h : immItems σ₁ p = some xs) : TI Γ A env x ρ σ (.imm (xs.map .one)) σ₁ := by
  cases p with
  | d y =>
    cases y with
    | list ys => cases h; exact ti_val hv fun v μ H s S r => iter_list hA S r
    | str y =>
      have h : gd (ascii y.cps.toList = true) (some (chars y)) = some xs := h
      obtain ⟨ha, e⟩ := gd_val h
      rw [← e]
      exact ti_val hv fun v μ H s S r => iter_str hA S r ha
    | _ => exact (ns h).elim
  | _ => exact (ns h).elim
theorem git_ex {x : Ex} (g : GE Γ n O x) : GIt Γ n O (.ex x) := fun R Y h src σ' he => by
  obtain ⟨p, σ₁, h1, he⟩ := bd_some he
  obtain ⟨q, h2, he⟩ := mp_some he
  cases he
  have hv := tv_of (g R Y) h h1
  rcases or_some h2 with h3 | h3
  · obtain ⟨xs, h4, e⟩ := mp_some h3
    rw [← e]
    exact imm_ti R.hand hv h4
  · obtain ⟨l, hl, h4⟩ := bn_some h3
    obtain ⟨xs, h5, e⟩ := mp_some h4
    rw [locP_some hl] at hv
    rw [← e]
    exact ti_val hv fun v μ H s S r => iter_lo R.hand S r (lstAt_some h5)
theorem git_range (K : Γ.Ok) (X : CkOk Γ) {es : List Ex} (g : GEs Γ n O es) : GIt Γ n O (.range es) := fun {A env sc P ρ σ} R Y h src σ' he => by
  obtain ⟨ps, σ₁, h1, he⟩ := bd_some he
  obtain ⟨q, h2, he⟩ := mp_some he
  cases he
  have hb := bt_ok (s := "range") Y X mem6 (and2 h).1
  have q := g R Y (and2 h).2 h1
  rcases or_some h2 with h3 | h3
  · obtain ⟨p, e, h4⟩ := one_some h3
    obtain ⟨b, hp, h5⟩ := bn_some h4
    obtain ⟨hc, e2⟩ := gd_val h5
    have qv := q.v P.pos
    rw [e, intP_some hp] at qv
    rw [← e2]
    exact ti_range1 K R.hand hb (q.plain _) qv hc
  · obtain ⟨p, p', e, h4⟩ := twoA_some h3
    obtain ⟨a, hp, h5⟩ := bn_some h4
    obtain ⟨b, hp', h6⟩ := bn_some h5
    obtain ⟨hc, e2⟩ := gd_val h6
    have qv := q.v P.pos
    rw [e, intP_some hp, intP_some hp'] at qv
    rw [← e2]
    exact ti_range2 K R.hand hb (q.plain _) qv hc.1 hc.2
theorem plain_one {e : Expr} {pos : Pos} (h : plain e = true) : (backTo pos (starEach [e] env)).any (·.1) = false := by rw [any_back, star_cons h]; rfl
theorem plain_two {e e' : Expr} {pos : Pos} (h : plain e = true) (h' : plain e' = true) : (backTo pos (starEach [e, e'] env)).any (·.1) = false := by rw [any_back, star_cons h, star_cons h']; rfl
theorem git_enum (K : Γ.Ok) (X : CkOk Γ) {x : Ex} (g : GE Γ n O x) : GIt Γ n O (.enum x) := fun R Y h src σ' he => by
  obtain ⟨p, σ₁, h1, he⟩ := bd_some he
  obtain ⟨xs, h2, he⟩ := mp_some he
  cases he
  have h3 := and2 (and2 h).2
  exact ti_enum K R.hand (bt_ok (s := "enumerate") Y X mem7 (and2 h).1) (plain_one h3.1) (tvs_cons (star_cons h3.1) (tv_of (g R Y) h3.2 h1) tvs_nil) h2
theorem git_zip (K : Γ.Ok) (X : CkOk Γ) {x y : Ex} (g : GE Γ n O x) (g' : GE Γ n O y) : GIt Γ n O (.zip x y) := fun R Y h src σ' he => by
  obtain ⟨p, σ₁, h1, he⟩ := bd_some he
  obtain ⟨q, σ₂, h2, he⟩ := bd_some he
  obtain ⟨src', h3, he⟩ := mp_some he
  cases he
  obtain ⟨xs, h4, h3⟩ := bn_some h3
  obtain ⟨ys, h5, h3⟩ := bn_some h3
  obtain ⟨hc, e⟩ := gd_val h3
  have hl := and2 hc
  have h6 := and2 (and2 h).2
  have h7 := and2 h6.1
  have h8 := and2 h6.2
  rw [← e]
  exact ti_zip K R.hand (bt_ok (s := "zip") Y X mem5 (and2 h).1) (plain_two h7.1 h7.2) (tvs_cons (star_cons h7.1) (tv_of (g R Y) h8.1 h1) (tvs_cons (star_cons h7.2) (tv_of (g' R Y) h8.2 h2) tvs_nil)) h4 h5 (of_decide_eq_true hl.1) hl.2
theorem tests_false (env : Env) : ∀ l : List Expr, (forIn l false fun c r => if r = true then do let ok ← isTrue c env (eval c env); pure (ForInStep.yield ok) else pure (ForInStep.yield r) : Sem Bool) = pure false
  | [] => rfl
  | e :: l => by
    rw [List.forIn_cons]
    simp only [Bool.false_eq_true, if_false]
    exact tests_false env l
theorem tests_cons (e : Expr) (es : List Expr) (env : Env) : testsOf (e :: es) env = (isTrue e env (eval e env) >>= fun ok => (forIn es ok fun c r => if r = true then do let ok ← isTrue c env (eval c env); pure (ForInStep.yield ok) else pure (ForInStep.yield r) : Sem Bool)) := by
  unfold testsOf
  rw [List.forIn_cons]
  simp only [if_true, bind_assoc, pure_bind]
theorem gts_nil : GTs Γ n O [] := fun R Y h ρ σ b σ' he => by
  cases he
  exact fun μ H s S E => Does.pure S rfl rfl
theorem gts_cons {x : Ex} {xs : List Ex} (g : GE Γ n O x) (gs : GTs Γ n O xs) : GTs Γ n O (x :: xs) := fun R Y h ρ σ b σ' he μ H s S E => by
  obtain ⟨p, σ₁, h1, he⟩ := bd_some he
  obtain ⟨t, h2, he⟩ := bn_some he
  show WP _ _ (testsOf (_ :: _) _) _ _
  rw [tests_cons]
  refine Does.bind ((g R Y).t (and2 h).1 _ _ (test_mk h1 h2) μ H s S E) fun v μ₁ H₁ s₁ T₁ S₁ rv => ?_
  have rv : v = t := rv
  subst rv
  cases v with
  | true => exact (gs R Y (and2 h).2 _ σ₁ b σ' he μ₁ H₁ s₁ S₁ (E.tr T₁))
  | false =>
    cases he
    exact Does.pure S₁ (tests_false _ _) rfl
theorem tgt_ok {I : Info} : (t : Tgt) → TgtOk I t (trT I t P)
  | .one _ => ⟨_, rfl⟩
  | .two _ _ => ⟨_, _, _, _, rfl⟩
theorem scope_ok (X : CkOk Γ) {scope : Scope} {tg : List Nat} (h : scopeOkB Γ.I sc scope tg = true) : ScopeOk Γ.I sc scope tg := by
  obtain ⟨h, h4⟩ := and2 h
  obtain ⟨h, h3⟩ := and2 h
  obtain ⟨h1, h2⟩ := and2 h
  rw [List.all_eq_true] at h3 h4
  refine ⟨of_decide_eq_true h1, of_decide_eq_true h2, fun n k hm hk => ?_, fun n hm => ?_, fun x hx => ?_⟩
  · have key : (tg.any (fun x => decide (n = nm Γ.I x)) || decide (n = (".0" : Str))) = true := by
      rcases hk with e | e <;> rw [e] at hm <;> exact h3 _ hm
    rcases (Bool.or_eq_true _ _).mp key with key | key
    · obtain ⟨x, hx, e⟩ := List.any_eq_true.mp key
      exact .inl ⟨x, hx, of_decide_eq_true e⟩
    · exact .inr fun x => (of_decide_eq_true key : n = _) ▸ X.dot x
  · exact ((Bool.or_eq_true _ _).mp (h3 (n, .free) hm)).imp of_decide_eq_true of_decide_eq_true
  · obtain ⟨h5, h6⟩ := and2 (h4 x hx)
    exact ⟨of_decide_eq_true h5, ((Bool.or_eq_true _ _).mp h6).imp of_decide_eq_true of_decide_eq_true⟩
theorem trG_sync {C : Ck} : ∀ (c : Cb) (i : Nat), ∀ g ∈ trG C c i P, g.is_async = 0
  | .emit _, _, g, h => nomatch h
  | .gen _ _ _ r, i, g, h => by
    cases h with
    | head => rfl
    | tail _ h => exact trG_sync r (i + 1) g h
theorem gcb_gen {t : Tgt} {it : It} {ifs : List Ex} {r : Cb} (gi : GIt Γ n O it) (gt : GTs Γ n O ifs) (gr : GCb Γ n O r) : GCb Γ n O (.gen t it ifs r) := by
  refine ⟨gi, fun {A env F sc first i P} R Y ho h => ?_⟩
  have h2 := and2 (and2 h).2
  have cl : ∀ it', Clause Γ O A env F ⟨trT Γ.C.I t ((P.at i).at 0), it', trs Γ.C ifs 2 (P.at i), 0⟩ t ifs := fun it' => ⟨rfl, tgt_ok t, fun x hx => ho x (List.mem_append_left _ hx), gt R Y h2.1⟩
  cases r with
  | emit x => exact .last (cl _) fun ρ σ p σ' hf => tv_of (gr R Y) h2.2 hf
  | gen t' it' ifs' r' =>
    have h3 := and2 (and2 h2.2).1
    exact .more (cl _) (set_ok h3.1) (fun ρ σ src σ' he => gr.1 R Y h3.2 he) (gr.2 R Y (fun x hx => ho x (List.mem_append_right _ hx)) h2.2)
theorem lcomp_of (X : CkOk Γ) {t : Tgt} {it : It} {ifs : List Ex} {r : Cb} {b : Bool} (g : GCb Γ n O (.gen t it ifs r)) (R : Room (n + 1) A) (h : wf Γ.C b (.comp (.gen t it ifs r)) sc P = true) :
    LComp Γ O A sc (trE Γ.C (.gen t it ifs r) P) (trG Γ.C (.gen t it ifs r) 1 P) P.sc (.gen t it ifs r) ∧ setOk (trI Γ.C it ((P.at 1).at 1)) = true ∧ wfI Γ.C it sc ((P.at 1).at 1) = true := by
  have h1 := and2 (and2 h).1
  have h2 := and2 (and2 h).2
  have h3 := and2 h2.1
  exact ⟨⟨scope_ok X h1.2, trG_sync _ 1, of_decide_eq_true h1.1, fun cenv F Y' ho => g.2 R Y' ho h2.2⟩, h3.1, h3.2⟩
theorem comp_ev {t : Tgt} {it : It} {ifs : List Ex} {r : Cb} {x : Res} (he : ev Γ.I O (.comp (.gen t it ifs r)) ρ σ = some (x, σ')) : ∃ src σ₁ out acc, evIt Γ.I O it ρ σ = some (src, σ₁) ∧ loopS (stepC Γ.I O t ifs r (hide (cbNames (.gen t it ifs r)) ρ)) src [] σ₁ = some (out, acc, σ') ∧ x = .fresh acc := by
  obtain ⟨ps, σ₂, h1, he⟩ := bd_some he
  cases he
  obtain ⟨src, σ₁, h2, h1⟩ := bd_some h1
  obtain ⟨⟨out, acc, σ₃⟩, h3, h1⟩ := bn_some h1
  cases h1
  exact ⟨src, σ₁, out, _, h2, h3, rfl⟩
theorem ge_comp (K : Γ.Ok) (X : CkOk Γ) : {c : Cb} → (g : GCb Γ n O c) → GE Γ n O (.comp c)
  | .emit x, _, _, _, _, _, _, _, _, _ => ⟨fun h => (nomatch (and2 (and2 h).2).1), fun h => (nomatch (and2 (and2 h).2).1)⟩
  | .gen t it ifs r, g, _, _, _, _, _, _, R, Y => both_of rfl rfl fun h x σ' he => by
    obtain ⟨src, σ₁, out, acc, h1, h2, e⟩ := comp_ev he
    obtain ⟨L, h3, h4⟩ := lcomp_of X g R h
    rw [e]
    exact te_comp K R.hand Y L (set_ok h3) (g.1 R Y h4 h1) h2
theorem dcomp_of_ (X : CkOk Γ) {t : Tgt} {it : It} {k v : Ex} {b : Bool} (gk : GE Γ n O k) (gv : GE Γ n O v) (R : Room (n + 1) A) (h : wf Γ.C b (.dcomp t it k v) sc P = true) :
    DComp Γ O A sc (tr Γ.C k (P.at 0)) (tr Γ.C v (P.at 1)) (trT Γ.C.I t ((P.at 2).at 0)) P.sc t k v ∧ setOk (trI Γ.C it ((P.at 2).at 1)) = true ∧ wfI Γ.C it sc ((P.at 2).at 1) = true := by
  have h1 := and2 (and2 h).1
  have h2 := and2 (and2 h).2
  have h3 := and2 h2.2
  exact ⟨⟨scope_ok X h1.2, tgt_ok t, fun cenv Y' => ⟨fun ρ σ p σ' hf => tv_of (gk R Y') h3.1 hf, fun ρ σ p σ' hf => tv_of (gv R Y') h3.2 hf⟩⟩, h1.1, h2.1⟩
theorem dcomp_ev {t : Tgt} {it : It} {k v : Ex} {x : Res} (he : ev Γ.I O (.dcomp t it k v) ρ σ = some (x, σ')) : ∃ src σ₁ out kvs σ₂, evIt Γ.I O it ρ σ = some (src, σ₁) ∧ loopS (stepB t (hide (tgNames t) ρ) (bevD Γ.I O k v)) src [] σ₁ = some (out, kvs, σ₂) ∧ x = .val (.loc σ₂.length) ∧ σ' = σ₂ ++ [.dct kvs] := by
  obtain ⟨src, σ₁, h1, he⟩ := bd_some he
  obtain ⟨⟨out, kvs, σ₂⟩, h2, he⟩ := bn_some he
  cases he
  exact ⟨src, σ₁, out, kvs, σ₂, h1, h2, rfl, rfl⟩
theorem ge_dcomp (K : Γ.Ok) (X : CkOk Γ) {t : Tgt} {it : It} {k v : Ex} (gi : GIt Γ n O it) (gk : GE Γ n O k) (gv : GE Γ n O v) : GE Γ n O (.dcomp t it k v) := fun R Y => both_of rfl rfl fun h r σ' he => by
  obtain ⟨src, σ₁, out, kvs, σ₂, h1, h2, e, e2⟩ := dcomp_ev he
  obtain ⟨L, h3, h4⟩ := dcomp_of_ X gk gv R h
  rw [e, e2]
  exact te_dcomp K R.hand Y L (set_ok h3) (gi R Y h4 h1) h2
end
section
variable {Γ : Cx} {n : Nat} {O : Orc} (K : Γ.Ok) (X : CkOk Γ) (CO : CallOk Γ n O)
include K X CO
mutual
theorem sndE : (x : Ex) → GE Γ n O x
  | .int _ => ge_int
  | .str _ => ge_str
  | .non => ge_non
  | .bool _ => ge_bool
  | .dbg => ge_dbg
  | .var _ => ge_var
  | .gl _ => ge_gl K
  | .bin _ a b => ge_bin (sndE a) (sndE b)
  | .rep es _ => ge_rep (sndEs es)
  | .usub a => ge_usub (sndE a)
  | .not a => ge_not (sndE a)
  | .and a b => ge_and (sndE a) (sndE b)
  | .and3 a b c => ge_and3 (sndE a) (sndE b) (sndE c)
  | .or a b => ge_or (sndE a) (sndE b)
  | .cmp _ a b => ge_cmp (sndE a) (sndE b)
  | .ite c a b => ge_ite (sndE c) (sndE a) (sndE b)
  | .tup es => ge_tup (sndEs es)
  | .lst es => ge_lst (sndEs es)
  | .edct => ge_edct
  | .idx a i => ge_idx K X CO (sndE a) (sndE i)
  | .slc a lo hi => ge_slc (sndE a) (sndO lo) (sndO hi)
  | .attr a _ => ge_attr K (sndE a)
  | .call _ es => ge_call K X CO (sndEs es)
  | .bi _ es => ge_bi K X CO (sndEs es)
  | .new _ es => ge_new K X CO (sndEs es)
  | .meth a (.own _) es kw => ge_own K CO (sndE a) (sndEs es) (sndK kw)
  | .meth a .upper es kw => ge_mt (m := .upper) (kw := kw) K (fun h => (and2 (and2 h).2).2) id (sndE a) (sndEs es)
  | .meth a .lower es kw => ge_mt (m := .lower) (kw := kw) K (fun h => (and2 (and2 h).2).2) id (sndE a) (sndEs es)
  | .meth a .join es kw => ge_mt (m := .join) (kw := kw) K (fun h => (and2 (and2 h).2).2) id (sndE a) (sndEs es)
  | .meth a .index es kw => ge_mt (m := .index) (kw := kw) K (fun h => (and2 (and2 h).2).2) id (sndE a) (sndEs es)
  | .meth a .append es kw => ge_mt (m := .append) (kw := kw) K (fun h => (and2 (and2 h).2).2) id (sndE a) (sndEs es)
  | .meth a .extend es kw => ge_mt (m := .extend) (kw := kw) K (fun h => (and2 (and2 h).2).2) id (sndE a) (sndEs es)
  | .meth a .remove es kw => ge_mt (m := .remove) (kw := kw) K (fun h => (and2 (and2 h).2).2) id (sndE a) (sndEs es)
  | .meth a .search es kw => ge_mt (m := .search) (kw := kw) K (fun h => (and2 (and2 h).2).2) id (sndE a) (sndEs es)
  | .comp c => ge_comp K X (sndC c)
  | .dcomp _ it k v => ge_dcomp K X (sndI it) (sndE k) (sndE v)
  | .mut a => ge_mut (sndE a)
termination_by structural x => x
theorem sndEs : (xs : List Ex) → GEs Γ n O xs
  | [] => ges_nil
  | x :: r => ges_cons (sndE x) (sndEs r)
theorem sndO : (x : Option Ex) → GEo Γ n O x
  | none => geo_none
  | some x => geo_some (sndE x)
theorem sndK : (x : Option (Nat × Ex)) → GEk Γ n O x
  | none => gek_none
  | some (_, x) => gek_some (sndE x)
theorem sndI : (it : It) → GIt Γ n O it
  | .ex x => git_ex (sndE x)
  | .range es => git_range K X (sndEs es)
  | .enum x => git_enum K X (sndE x)
  | .zip x y => git_zip K X (sndE x) (sndE y)
theorem sndC : (c : Cb) → GCb Γ n O c
  | .emit x => sndE x
  | .gen _ it ifs r => gcb_gen (sndI it) (sndT ifs) (sndC r)
theorem sndT : (xs : List Ex) → GTs Γ n O xs
  | [] => gts_nil
  | x :: r => gts_cons (sndE x) (sndT r)
end
end
end Mine
end
section
namespace Mine
open PySem PySem.W PySem.Calls PyProof.Rows
noncomputable def isFreeze : St' → Bool
  | .freeze _ => true
  | _ => false
noncomputable def isComp : Ex → Bool
  | .comp _ => true
  | .dcomp .. => true
  | _ => false
noncomputable def isCallE : Expr → Bool
  | .Call .. => true
  | _ => false
noncomputable def noTuple : Expr → Bool
  | .Tuple .. => false
  | _ => true
noncomputable def swI (sc : Sc) (s : Scope) (q : Pos) (id : Str) (p : Pos) : Bool := decide (sc.lookup id = some .local) && (p.line == q.line) && !(s.names.any fun (n, k) => n == id && (k == .local || k == .cell))
noncomputable def swB (sc : Sc) (v : Expr) (id : Str) (p : Pos) : Bool := match v with
  | .ListComp _ _ s q => swI sc s q id p
  | .DictComp _ _ _ s q => swI sc s q id p
  | .SetComp _ _ s q => swI sc s q id p
  | _ => false
noncomputable def ownB (I : Info) (sc : Sc) (x : Nat) : Bool := decide (x < I.N.length) && isOwn sc (nm I x)
mutual
noncomputable def trS (C : Ck) : St' → Px → Stmt
  | .set x e, P => .Assign [.Name (nm C.I x) (P.at 1).pos] (tr C e (P.at 0)) P.pos
  | .set2 x y e, P => .Assign [.Tuple [.Name (nm C.I x) ((P.at 1).at 0).pos, .Name (nm C.I y) ((P.at 1).at 1).pos] (P.at 1).n (P.at 1).pos] (tr C e (P.at 0)) P.pos
  | .setB x y e, P => .Assign [.Name (nm C.I x) (P.at 1).pos, .Name (nm C.I y) (P.at 2).pos] (tr C e (P.at 0)) P.pos
  | .no, P => P.st
  | .setIdx a i e, P => .Assign [.Subscript (tr C a ((P.at 1).at 0)) (tr C i ((P.at 1).at 1)) (P.at 1).pos] (tr C e (P.at 0)) P.pos
  | .setAttr a x e, P => .Assign [.Attribute (tr C a ((P.at 1).at 0)) (nm C.I x) (P.at 1).pos] (tr C e (P.at 0)) P.pos
  | .setAll a e, P => .Assign [.Subscript (tr C a ((P.at 1).at 0)) (.Slice none none none ((P.at 1).at 1).pos) (P.at 1).pos] (tr C e (P.at 0)) P.pos
  | .aug x op e, P => .AugAssign (.Name (nm C.I x) (P.at 1).pos) op (tr C e (P.at 0)) P.pos
  | .exp e, P => .Expr (tr C e (P.at 0)) P.pos
  | .cond c s t, P => .If (tr C c (P.at 0)) (trSs C s 0 (P.at 1)) (trSs C t 0 (P.at 2)) P.pos
  | .whil c s, P => .While (tr C c (P.at 0)) (trSs C s 0 (P.at 1)) [] P.pos
  | .fo t it s, P => .For (trT C.I t (P.at 0)) (trI C it (P.at 1)) (trSs C s 0 (P.at 2)) [] P.pos
  | .ret e, P => .Return (some (tr C e (P.at 0))) P.pos
  | .brk, P => .Break P.pos
  | .del a i, P => .Delete [.Subscript (tr C a ((P.at 0).at 0)) (tr C i ((P.at 0).at 1)) (P.at 0).pos] P.pos
  | .freeze _, P => P.st
termination_by structural s => s
noncomputable def trSs (C : Ck) : List St' → Nat → Px → List Stmt
  | [], _, _ => []
  | s :: r, i, P => cond (isFreeze s) (trSs C r i P) (trS C s (P.at i) :: trSs C r (i + 1) P)
end
mutual
noncomputable def wfS (C : Ck) : St' → Sc → Px → Bool
  | .set x e, sc, P => (ownB C.I sc x && (!swB sc (tr C e (P.at 0)) (nm C.I x) (P.at 1).pos || isComp e)) && wf C false e sc (P.at 0)
  | .set2 x y e, sc, P => (ownB C.I sc x && ownB C.I sc y) && ((noTuple (tr C e (P.at 0)) || isTupE e) && wf C false e sc (P.at 0))
  | .setB x y e, sc, P => (ownB C.I sc x && ownB C.I sc y) && wf C false e sc (P.at 0)
  | .no, _, _ => true
  | .setIdx a i e, sc, P => wf C false e sc (P.at 0) && (wf C false a sc ((P.at 1).at 0) && wf C false i sc ((P.at 1).at 1))
  | .setAttr a _ e, sc, P => wf C false e sc (P.at 0) && wf C false a sc ((P.at 1).at 0)
  | .setAll a e, sc, P => wf C false e sc (P.at 0) && wf C false a sc ((P.at 1).at 0)
  | .aug x _ e, sc, P => ownB C.I sc x && wf C false e sc (P.at 0)
  | .exp e, sc, P => isCallE (tr C e (P.at 0)) && wf C false e sc (P.at 0)
  | .cond c s t, sc, P => wf C true c sc (P.at 0) && (wfSs C s sc 0 (P.at 1) && wfSs C t sc 0 (P.at 2))
  | .whil c s, sc, P => wf C true c sc (P.at 0) && wfSs C s sc 0 (P.at 1)
  | .fo t it s, sc, P => ((tgNames t).all (ownB C.I sc) && setOk (trI C it (P.at 1))) && (wfI C it sc (P.at 1) && wfSs C s sc 0 (P.at 2))
  | .ret e, sc, P => wf C false e sc (P.at 0)
  | .brk, _, _ => true
  | .del a i, sc, P => wf C false a sc ((P.at 0).at 0) && wf C false i sc ((P.at 0).at 1)
  | .freeze _, _, _ => false
termination_by structural s => s
noncomputable def wfSs (C : Ck) : List St' → Sc → Nat → Px → Bool
  | [], _, _, _ => true
  | s :: r, sc, i, P => cond (isFreeze s) (wfSs C r sc i P) (wfS C s sc (P.at i) && wfSs C r sc (i + 1) P)
end
section
variable {Γ : Cx} {A : Around} {env : Env} {ρ ρ' ρ₂ : En} {σ σ₁ σ₂ σ₃ σ₄ σ' : Hp} {μ : List Addr} {H : Addr → Prop} {s : Shared} {n : Nat} {O : Orc} {F : Addr → Prop} {D : Addr} {sc : Sc} {P : Px}
noncomputable def OwnAll (Γ : Cx) (env : Env) (F : Addr → Prop) (sc : Sc) : Prop := ∀ x, ownB Γ.C.I sc x = true → Own Γ env F x
theorem own_frame (Y : EnvS env sc) : OwnAll Γ env (Frame env) sc := fun x h => by
  have h := and2 h
  refine ⟨of_decide_eq_true h.1, ?_⟩
  rcases (Bool.or_eq_true _ _).mp h.2 with h2 | h2
  · exact .inl ⟨by unfold Env.kindOf; rw [Y.names]; exact of_decide_eq_true h2, .inl rfl⟩
  · have h2 := of_decide_eq_true h2
    obtain ⟨c, hc⟩ := Y.cells _ (.inl h2)
    exact .inr ⟨by unfold Env.kindOf; rw [Y.names]; exact h2, c, hc, .inr ⟨_, hc⟩⟩
theorem sw_name (Y : EnvS env sc) {v : Expr} {id : Str} {p : Pos} {l : Nat} : swapsWith v (some (.Name id p)) l env = pure (swB sc v id p) := by
  have hb : (env.blockKind == ScopeKind.function) = true := by
    unfold Env.blockKind
    rw [Y.kind]; rfl
  have hk : (env.kindOf id == some NameKind.local) = decide (sc.lookup id = some .local) := by
    unfold Env.kindOf
    rw [Y.names]
    by_cases h : sc.lookup id = some .local
    · rw [h]; rfl
    · rw [decide_eq_false h]
      simpa using h
  cases v <;> first
    | rfl
    | (show (pure (env.blockKind == ScopeKind.function && env.kindOf id == some NameKind.local && p.line == _ && _) : Sem Bool) = _
       rw [hb, hk]; rfl)
theorem sw_sub {v o i : Expr} {p : Pos} {l : Nat} : swapsWith v (some (.Subscript o i p)) l env = pure false := by cases v <;> rfl
theorem sw_attr {v o : Expr} {a : Str} {p : Pos} {l : Nat} : swapsWith v (some (.Attribute o a p)) l env = pure false := by cases v <;> rfl
theorem sw_tup {v : Expr} {ts : List Expr} {k l : Nat} {p : Pos} : swapsWithSole [.Tuple ts k p] v l env = pure false := by cases v <;> rfl
theorem sw_none {v : Expr} {l : Nat} (h : isCallE v = true) : swapsWith v none l env = pure false := by cases v <;> first | rfl | cases h
theorem st_none {v : Expr} {ts : List Expr} {k : Nat} {p : Pos} (h : noTuple v = true) : swappedStores [.Tuple ts k p] v env = pure none := by cases v <;> first | rfl | cases h
theorem st_two {v : Expr} {i j : Str} {p q : Pos} : swappedStores [.Name i p, .Name j q] v env = pure none := by cases v <;> rfl
theorem ts_freeze {t : Sem Flow} {x l : Nat} {xs : List PV} {ds : List PyData} {fl : Flo} (hx : getV x ρ = some (.loc l)) (hl : σ[l]? = some (.lst xs)) (hd : dats xs = some ds)
    (h : TS Γ A env F t (upd x (.d (.list ds)) ρ) (σ.set l .dead) fl ρ₂ σ₂) : TS Γ A env F t ρ σ fl ρ₂ σ₂ := fun μ H s S E hF => by
  obtain ⟨a, ha⟩ := S.lt hl
  have hHa := S.hid l a _ ha hl (by simp)
  have ham := List.mem_of_getElem? ha
  obtain ⟨vs, n, ho, hvs⟩ := S.objs l a _ ha hl
  have hg : ∀ b o, (gr s.heap H).get? b = some o → (gr s.heap fun b => H b ∧ b ≠ a).get? b = some o := fun b o e => by
    obtain ⟨e1, e2⟩ := only_get.mp e
    exact only_get.mpr ⟨e1, fun q => e2 q.1⟩
  have hlt : l < σ.length := by rw [← S.len]; exact (List.getElem?_eq_some_iff.mp ha).1
  have uniq : ∀ k, μ[k]? = some a → k = l := fun k hk => by
    obtain ⟨p1, q1⟩ := List.getElem?_eq_some_iff.mp hk
    obtain ⟨p2, q2⟩ := List.getElem?_eq_some_iff.mp ha
    exact (List.getElem_inj S.nod).mp (q1.trans q2.symm)
  have S' : Γ.St μ (fun b => H b ∧ b ≠ a) (σ.set l .dead) s := by
    refine ⟨fun b o e => ?_, by rw [List.length_set]; exact S.len, S.nod, fun k b o h1 h2 h3 => ?_, fun k b o h1 h2 => ?_, S.there, S.gens⟩
    · obtain ⟨h1, h2⟩ := S.keep b o e
      exact ⟨h1, fun q => h2 q.1⟩
    · by_cases hk : k = l
      · subst hk
        rw [List.getElem?_set_self hlt] at h2
        cases h2
        exact absurd rfl h3
      · rw [List.getElem?_set_ne (Ne.symm hk)] at h2
        exact ⟨S.hid k b o h1 h2 h3, fun q => hk (uniq k (q ▸ h1))⟩
    · by_cases hk : k = l
      · subst hk
        rw [List.getElem?_set_self hlt] at h2
        cases h2
        trivial
      · rw [List.getElem?_set_ne (Ne.symm hk)] at h2
        exact (S.objs k b o h1 h2).mono ⟨[], by simp⟩ hg fun _ e => e
  have E' : EnvR Γ env (upd x (.d (.list ds)) ρ) μ (fun b => H b ∧ b ≠ a) s.heap := by
    have val : ∀ v, VR μ (gr s.heap H) v (.loc l) → VR μ (gr s.heap fun b => H b ∧ b ≠ a) v (.d (.list ds)) := fun v hv => by
      obtain ⟨b, hb, rfl⟩ := v_loc hv
      rw [ha] at hb
      cases hb
      obtain ⟨as, rd⟩ := dats_reads hvs hd
      exact .d (Reads.list (o := { cls := .type "list", data := .seq vs n }) (n := n) (only_get.mpr ⟨ho, fun q => q.2 rfl⟩) rfl rfl (ReadsAll.keeps hg rd))
    obtain ⟨m, hn, hv⟩ := E.ns
    refine ⟨E.kind, E.glob, E.blt, ⟨m, hn, fun y p hy hk => ?_⟩, fun y p hy hk => ?_, ⟨E.lout.1, E.lout.2, fun q => E.lout.1 (q ▸ ham)⟩, fun nn c hc => ?_, E.apart, E.lne⟩
    · rw [getV_upd] at hy
      split at hy
      · rename_i e
        subst e
        cases hy
        obtain ⟨v, h1, h2⟩ := hv y _ hx hk
        exact ⟨v, h1, val v h2⟩
      · obtain ⟨v, h1, h2⟩ := hv y p hy hk
        exact ⟨v, h1, h2.mono ⟨[], by simp⟩ hg⟩
    · rw [getV_upd] at hy
      split at hy
      · rename_i e
        subst e
        cases hy
        obtain ⟨c, v, h1, h2, h3⟩ := E.cells y _ hx hk
        exact ⟨c, v, h1, h2, val v h3⟩
      · obtain ⟨c, v, h1, h2, h3⟩ := E.cells y p hy hk
        exact ⟨c, v, h1, h2, h3.mono ⟨[], by simp⟩ hg⟩
    · obtain ⟨h1, h2, h3⟩ := E.cout nn c hc
      exact ⟨h1, ⟨h2, fun q => h1 (q ▸ ham)⟩, h3⟩
  have F' : FOk F μ (fun b => H b ∧ b ≠ a) s.heap := fun b hb => by
    obtain ⟨h1, h2, h3⟩ := hF b hb
    exact ⟨h1, ⟨h2, fun q => h1 (q ▸ ham)⟩, h3⟩
  refine (h μ _ s S' E' F').imp fun v s' x => ?_
  refine SPost.after (μ := μ) (H := H) (h := s.heap) (os := s.os) ⟨⟨[], by simp, fun _ h => nomatch h⟩, fun b o e _ _ => e, fun b o e hn => ?_, fun b o e => ⟨o, e⟩, rfl⟩ x
  constructor
  · exact fun q => q.1
  · exact fun q => ⟨q, fun e => hn ⟨e ▸ ham, q⟩⟩
end
end Mine
end
section
namespace Mine
open PySem PySem.W PySem.Calls PyProof.Rows
noncomputable def GS (Γ : Cx) (n : Nat) (O : Orc) (s : St') : Prop := ∀ {A : Around} {env : Env} {sc : Sc} {F : Addr → Prop} {P : Px} {ρ : En} {σ : Hp}, Room (n + 1) A → EnvS env sc → OwnAll Γ env F sc → wfS Γ.C s sc P = true →
  ∀ {fl ρ' σ'}, exS Γ.I O s ρ σ = some (fl, ρ', σ') → TS Γ A env F (exec (trS Γ.C s P) env) ρ σ fl ρ' σ'
noncomputable def GSs (Γ : Cx) (n : Nat) (O : Orc) (ss : List St') : Prop := ∀ {A : Around} {env : Env} {sc : Sc} {F : Addr → Prop} {P : Px} {i : Nat} {ρ : En} {σ : Hp}, Room (n + 1) A → EnvS env sc → OwnAll Γ env F sc → wfSs Γ.C ss sc i P = true →
  ∀ {fl ρ' σ'}, exSs Γ.I O ss ρ σ = some (fl, ρ', σ') → TS Γ A env F (execs (trSs Γ.C ss i P) env) ρ σ fl ρ' σ'
section
variable {Γ : Cx} {A : Around} {env : Env} {ρ ρ' ρ₂ : En} {σ σ₁ σ₂ σ₃ σ₄ σ' : Hp} {μ : List Addr} {H : Addr → Prop} {s : Shared} {n : Nat} {O : Orc} {F : Addr → Prop} {D : Addr} {sc : Sc} {P : Px}
theorem gs_setC (K : Γ.Ok) (X : CkOk Γ) (CO : CallOk Γ n O) {x : Nat} {t : Tgt} {it : It} {ifs : List Ex} {r' : Cb} {q : PV} (R : Room (n + 1) A) (Y : EnvS env sc) (W : Own Γ env F x) (h3 : wf Γ.C false (.comp (.gen t it ifs r')) sc (P.at 0) = true)
    (hs : swB sc (tr Γ.C (.comp (.gen t it ifs r')) (P.at 0)) (nm Γ.C.I x) (P.at 1).pos = true) (h5 : fin (ev Γ.I O (.comp (.gen t it ifs r')) ρ σ) = some (q, σ')) : TS Γ A env F (exec (trS Γ.C (.set x (.comp (.gen t it ifs r'))) P) env) ρ σ .next (upd x q ρ) σ' := by
  obtain ⟨r, σ₂, h6, h7⟩ := fin_some h5
  obtain ⟨src, σ₁, out, acc, k1, k2, k3⟩ := comp_ev h6
  have g := sndC K X CO (.gen t it ifs r')
  obtain ⟨L, k4, k5⟩ := lcomp_of X g R h3
  have := ts_comp (spos := P.pos) (id := nm Γ.C.I x) (y := x) K R.hand Y L (set_ok k4) (g.1 R Y k5 k1) k2 (by rw [sw_name Y]; exact congrArg pure hs) rfl W
  rw [k3] at h7
  dsimp only at this
  rw [h7] at this
  exact this
theorem gs_setD (K : Γ.Ok) (X : CkOk Γ) (CO : CallOk Γ n O) {x : Nat} {t : Tgt} {it : It} {k v : Ex} {q : PV} (R : Room (n + 1) A) (Y : EnvS env sc) (W : Own Γ env F x) (h3 : wf Γ.C false (.dcomp t it k v) sc (P.at 0) = true)
    (hs : swB sc (tr Γ.C (.dcomp t it k v) (P.at 0)) (nm Γ.C.I x) (P.at 1).pos = true) (h5 : fin (ev Γ.I O (.dcomp t it k v) ρ σ) = some (q, σ')) : TS Γ A env F (exec (trS Γ.C (.set x (.dcomp t it k v)) P) env) ρ σ .next (upd x q ρ) σ' := by
  obtain ⟨r, σ₂, h6, h7⟩ := fin_some h5
  obtain ⟨src, σ₁, out, kvs, σ₃, k1, k2, k3, k6⟩ := dcomp_ev h6
  obtain ⟨L, k4, k5⟩ := dcomp_of_ X (sndE K X CO k) (sndE K X CO v) R h3
  have := ts_dcomp (spos := P.pos) (id := nm Γ.C.I x) (y := x) K R.hand Y L (set_ok k4) (sndI K X CO it R Y k5 k1) k2 (by rw [sw_name Y]; exact congrArg pure hs) rfl W
  rw [k3, k6] at h7
  cases h7
  exact this
theorem gs_set (K : Γ.Ok) (X : CkOk Γ) (CO : CallOk Γ n O) {x : Nat} {e : Ex} : GS Γ n O (.set x e) := fun {A env sc F P ρ σ} R Y W h fl ρ' σ' he => by
  obtain ⟨q, σ₁, h5, he⟩ := bd_some he
  cases he
  have h1 := andL h
  have h3 := andR h
  have h2 := andL h1
  have h4 := andR h1
  cases hs : swB sc (tr Γ.C e (P.at 0)) (nm Γ.C.I x) (P.at 1).pos with
  | false => exact ts_set K rfl (W x h2) (tv_of (sndE K X CO e R Y) h3 h5) (by rw [sw_name Y, hs])
  | true =>
    rw [hs] at h4
    cases e with
    | comp c =>
      cases c with
      | emit _ => cases (and2 (and2 h3).2).1
      | gen t it ifs r' => exact gs_setC K X CO R Y (W x h2) h3 hs h5
    | dcomp t it k v => exact gs_setD K X CO R Y (W x h2) h3 hs h5
    | _ => exact (ft h4).elim
theorem gs_set2 (K : Γ.Ok) (X : CkOk Γ) (CO : CallOk Γ n O) {x y : Nat} {e : Ex} : GS Γ n O (.set2 x y e) := fun R Y W h fl ρ' σ' he => by
  obtain ⟨hz, he⟩ := gd_some he
  obtain ⟨q, σ₁, h5, he⟩ := bd_some he
  obtain ⟨a, b, h6, he⟩ := bd_some he
  cases he
  have h1 := and2 (and2 h).1
  have h2 := and2 (and2 h).2
  rw [hz, Bool.or_false] at h2
  exact ts_set2 K R.hand rfl rfl (W x h1.1) (W y h1.2) (tv_of (sndE K X CO e R Y) h2.2 h5) h6 sw_tup (st_none h2.1)
theorem gs_setB (K : Γ.Ok) (X : CkOk Γ) (CO : CallOk Γ n O) {x y : Nat} {e : Ex} : GS Γ n O (.setB x y e) := fun R Y W h fl ρ' σ' he => by
  obtain ⟨q, σ₁, h5, he⟩ := bd_some he
  cases he
  exact ts_setB K rfl rfl (W x (and2 (and2 h).1).1) (W y (and2 (and2 h).1).2) (tv_of (sndE K X CO e R Y) (and2 h).2 h5) st_two
theorem gs_setIdx (K : Γ.Ok) (X : CkOk Γ) (CO : CallOk Γ n O) {a i e : Ex} : GS Γ n O (.setIdx a i e) := fun R Y W h fl ρ' σ' he => by
  obtain ⟨q, σ₁, e1, he⟩ := bd_some he
  obtain ⟨p, σ₂, e2, he⟩ := bd_some he
  obtain ⟨j, σ₃, e3, he⟩ := bd_some he
  obtain ⟨σ₄, e4, he⟩ := mp_some he
  cases he
  have h2 := and2 (and2 h).2
  exact ts_setIdx (tv_of (sndE K X CO e R Y) (and2 h).1 e1) (tv_of (sndE K X CO a R Y) h2.1 e2) (tv_of (sndE K X CO i R Y) h2.2 e3) e4 sw_sub
theorem gs_setAttr (K : Γ.Ok) (X : CkOk Γ) (CO : CallOk Γ n O) {a e : Ex} {x : Nat} : GS Γ n O (.setAttr a x e) := fun R Y W h fl ρ' σ' he => by
  obtain ⟨q, σ₁, e1, he⟩ := bd_some he
  obtain ⟨p, σ₂, e2, he⟩ := bd_some he
  obtain ⟨σ₃, e3, he⟩ := mp_some he
  cases he
  exact ts_setAttr K rfl (tv_of (sndE K X CO e R Y) (and2 h).1 e1) (tv_of (sndE K X CO a R Y) (and2 h).2 e2) e3 sw_attr
theorem gs_setAll (K : Γ.Ok) (X : CkOk Γ) (CO : CallOk Γ n O) {a e : Ex} : GS Γ n O (.setAll a e) := fun R Y W h fl ρ' σ' he => by
  obtain ⟨q, σ₁, e1, he⟩ := bd_some he
  obtain ⟨p, σ₂, e2, he⟩ := bd_some he
  obtain ⟨ys, hq, he⟩ := bn_some he
  obtain ⟨l, hp, he⟩ := bn_some he
  obtain ⟨xs, hl, he⟩ := bn_some he
  obtain ⟨hlen, he⟩ := gd_val he
  cases he
  rw [lstD_some hq] at e1
  rw [locP_some hp] at e2
  exact ts_setAll (tv_of (sndE K X CO e R Y) (and2 h).1 e1) (tv_of (sndE K X CO a R Y) (and2 h).2 e2) (lstAt_some hl) hlen sw_sub
theorem augI_some {op : Operator} {i j k : Int} (h : augI op i j = some k) : (op = .Add ∧ k = i + j) ∨ (op = .Sub ∧ k = i - j) := by
  cases op with
  | Add => cases h; exact .inl ⟨rfl, rfl⟩
  | Sub => cases h; exact .inr ⟨rfl, rfl⟩
  | _ => exact (ns h).elim
theorem gs_aug (K : Γ.Ok) (X : CkOk Γ) (CO : CallOk Γ n O) {x : Nat} {op : Operator} {e : Ex} : GS Γ n O (.aug x op e) := fun R Y W h fl ρ' σ' he => by
  obtain ⟨v, hv, he⟩ := bn_some he
  obtain ⟨i, hi, he⟩ := bn_some he
  obtain ⟨q, σ₁, e1, he⟩ := bd_some he
  obtain ⟨j, hj, he⟩ := bn_some he
  obtain ⟨k, hk, he⟩ := mp_some he
  cases he
  rw [intP_some hj] at e1
  rw [intP_some hi] at hv
  exact ts_aug K rfl (W x (and2 h).1) hv (tv_of (sndE K X CO e R Y) (and2 h).2 e1) (augI_some hk)
theorem dropP_some {p : PV} (h : dropP p = true) : (∃ x, p = .d (.str x)) ∨ p = .d .none := by
  cases p with
  | d y =>
    cases y with
    | str x => exact .inl ⟨x, rfl⟩
    | none => exact .inr rfl
    | _ => exact (ft h).elim
  | _ => exact (ft h).elim
theorem gs_exp (K : Γ.Ok) (X : CkOk Γ) (CO : CallOk Γ n O) {e : Ex} : GS Γ n O (.exp e) := fun R Y W h fl ρ' σ' he => by
  obtain ⟨p, σ₁, e1, he⟩ := bd_some he
  obtain ⟨hd, he⟩ := gd_val he
  cases he
  exact ts_exp (tv_of (sndE K X CO e R Y) (and2 h).2 e1) (dropP_some hd) (by unfold interactive; rw [Y.kind]; rfl) (sw_none (and2 h).1)
theorem gs_cond (K : Γ.Ok) (X : CkOk Γ) (CO : CallOk Γ n O) {c : Ex} {s t : List St'} (gs : GSs Γ n O s) (gt : GSs Γ n O t) : GS Γ n O (.cond c s t) := fun R Y W h fl ρ' σ' he => by
  obtain ⟨b, σ₁, e1, he⟩ := bd_some he
  have h2 := and2 (and2 h).2
  have hc := (sndE K X CO c R Y).t (and2 h).1 _ _ e1
  cases b with
  | true => exact ts_cond hc (gs R Y W h2.1 he)
  | false => exact ts_cond hc (gt R Y W h2.2 he)
theorem gs_whil (K : Γ.Ok) (X : CkOk Γ) (CO : CallOk Γ n O) {c : Ex} {s : List St'} (gs : GSs Γ n O s) : GS Γ n O (.whil c s) := fun R Y W h fl ρ' σ' he =>
  ts_while (r := (fl, ρ', σ')) R.hand (fun ρ σ b σ' ht => (sndE K X CO c R Y).t (and2 h).1 _ _ ht) (fun ρ σ f ρ' σ' hb => gs R Y W (and2 h).2 hb) he
theorem ofFlo_some {o : Option (Option Flo × En × Hp)} {fl : Flo} {y : En × Hp} (h : ofFlo o = some (fl, y)) : ∃ out, o = some (out, y) ∧ fl = floOf out := by
  match o, h with
  | some (none, _, _), h => cases h; exact ⟨_, rfl, rfl⟩
  | some (some .brk, _, _), h => cases h; exact ⟨_, rfl, rfl⟩
  | some (some .next, _, _), h => cases h; exact ⟨_, rfl, rfl⟩
  | some (some (.ret p), _, _), h => cases h; exact ⟨_, rfl, rfl⟩
theorem gs_fo (K : Γ.Ok) (X : CkOk Γ) (CO : CallOk Γ n O) {t : Tgt} {it : It} {s : List St'} (gs : GSs Γ n O s) : GS Γ n O (.fo t it s) := fun R Y W h fl ρ' σ' he => by
  obtain ⟨src, σ₁, e1, he⟩ := bd_some he
  obtain ⟨out, e2, e3⟩ := ofFlo_some he
  have h1 := and2 (and2 h).1
  have h2 := and2 (and2 h).2
  rw [e3]
  exact ts_for (r := (out, ρ', σ')) K R.hand (tgt_ok t) (fun x hx => W x (List.all_eq_true.mp h1.1 x hx)) (set_ok h1.2) (sndI K X CO it R Y h2.1 e1) (fun ρ σ f ρ' σ' hb => gs R Y W h2.2 hb) e2
theorem gs_ret (K : Γ.Ok) (X : CkOk Γ) (CO : CallOk Γ n O) {e : Ex} : GS Γ n O (.ret e) := fun R Y W h fl ρ' σ' he => by
  obtain ⟨p, σ₁, e1, he⟩ := bd_some he
  cases he
  exact ts_ret (tv_of (sndE K X CO e R Y) h e1)
theorem gs_brk : GS Γ n O .brk := fun R Y W h fl ρ' σ' he => by
  cases he
  exact ts_brk
theorem gs_del (K : Γ.Ok) (X : CkOk Γ) (CO : CallOk Γ n O) {a i : Ex} : GS Γ n O (.del a i) := fun R Y W h fl ρ' σ' he => by
  obtain ⟨p, σ₁, e1, he⟩ := bd_some he
  obtain ⟨l, hp, he⟩ := bn_some he
  obtain ⟨q, σ₂, e2, he⟩ := bd_some he
  obtain ⟨f, hm, he⟩ := bn_some he
  obtain ⟨p', σ₃, e3, he⟩ := bd_some he
  cases he
  rw [locP_some hp] at e1
  exact ts_del K R CO (tv_of (sndE K X CO a R Y) (and2 h).1 e1) (tv_of (sndE K X CO i R Y) (and2 h).2 e2) hm (form_ok hm X.fDel).1 e3
theorem isFreeze_eq {s : St'} (h : isFreeze s = true) : ∃ x, s = .freeze x := by
  cases s with
  | freeze x => exact ⟨x, rfl⟩
  | _ => exact (ft h).elim
theorem trSs_c {C : Ck} {s : St'} {r : List St'} {i : Nat} {P : Px} : trSs C (s :: r) i P = cond (isFreeze s) (trSs C r i P) (trS C s (P.at i) :: trSs C r (i + 1) P) := rfl
theorem wfSs_c {C : Ck} {s : St'} {r : List St'} {sc : Sc} {i : Nat} {P : Px} : wfSs C (s :: r) sc i P = cond (isFreeze s) (wfSs C r sc i P) (wfS C s sc (P.at i) && wfSs C r sc (i + 1) P) := rfl
theorem gss_cons {s : St'} {r : List St'} (hz : isFreeze s = false) (g : GS Γ n O s) (gr : GSs Γ n O r) : GSs Γ n O (s :: r) := fun R Y W h fl ρ' σ' he => by
  rw [wfSs_c, hz] at h
  rw [trSs_c, hz]
  obtain ⟨f, y, e1, he⟩ := bd_some he
  cases f with
  | next => exact ts_cons (g R Y W (and2 h).1 e1) (gr R Y W (and2 h).2 he)
  | brk => cases he; exact ts_stop (fun h => nomatch h) (g R Y W (and2 h).1 e1)
  | ret p => cases he; exact ts_stop (fun h => nomatch h) (g R Y W (and2 h).1 e1)
theorem gss_freeze {x : Nat} {r : List St'} (gr : GSs Γ n O r) : GSs Γ n O (.freeze x :: r) := fun R Y W h fl ρ' σ' he => by
  obtain ⟨f, y, e1, he⟩ := bd_some he
  obtain ⟨v, hv, e1⟩ := bn_some e1
  obtain ⟨l, hl, e1⟩ := bn_some e1
  obtain ⟨xs, hx, e1⟩ := bn_some e1
  obtain ⟨ds, hd, e1⟩ := mp_some e1
  cases e1
  rw [locP_some hl] at hv
  exact ts_freeze hv (lstAt_some hx) hd (gr R Y W h he)
end
section
variable {Γ : Cx} {n : Nat} {O : Orc} (K : Γ.Ok) (X : CkOk Γ) (CO : CallOk Γ n O)
include K X CO
mutual
theorem sndS : (s : St') → GS Γ n O s
  | .set _ _ => gs_set K X CO
  | .set2 _ _ _ => gs_set2 K X CO
  | .setB _ _ _ => gs_setB K X CO
  | .no => fun _ _ _ _ _ _ _ he => nomatch he
  | .setIdx _ _ _ => gs_setIdx K X CO
  | .setAttr _ _ _ => gs_setAttr K X CO
  | .setAll _ _ => gs_setAll K X CO
  | .aug _ _ _ => gs_aug K X CO
  | .exp _ => gs_exp K X CO
  | .cond _ s t => gs_cond K X CO (sndSs s) (sndSs t)
  | .whil _ s => gs_whil K X CO (sndSs s)
  | .fo _ _ s => gs_fo K X CO (sndSs s)
  | .ret _ => gs_ret K X CO
  | .brk => gs_brk
  | .del _ _ => gs_del K X CO
  | .freeze _ => fun _ _ _ h _ _ _ _ => nomatch h
termination_by structural s => s
theorem sndSs : (ss : List St') → GSs Γ n O ss
  | [] => fun _ _ _ _ _ _ _ he => by cases he; exact ts_nil
  | s :: r => by
    cases hz : isFreeze s with
    | false => exact gss_cons hz (sndS s) (sndSs r)
    | true =>
      obtain ⟨x, e⟩ := isFreeze_eq hz
      exact e ▸ gss_freeze (sndSs r)
end
end
end Mine
end
section
namespace Mine
open PySem PySem.W PySem.Calls PyProof.Rows
structure FnIn (Γ : Cx) (k : Nat) (f : Fn) : Prop where
  ex : ∃ fd P, FnOk Γ k f fd (trSs Γ.C f.body 0 P) ∧ wfSs Γ.C f.body fd.scope.names 0 P = true ∧ ∀ n, fd.scope.names.lookup n ≠ some .free
theorem CallOk.le {Γ : Cx} {n m : Nat} {O : Orc} (h : CallOk Γ n O) (hl : n ≤ m) : CallOk Γ m O := fun f ps σ p σ' e A R => h f ps σ p σ' e A (R.le hl)
theorem calls_ok {Γ : Cx} (K : Γ.Ok) (X : CkOk Γ) : ∀ fns : List (Nat × Fn), (∀ kf ∈ fns, FnIn Γ kf.1 kf.2) → CallOk Γ (2 * fns.length) (calls Γ.I fns)
  | [], _ => fun f ps σ p σ' e => nomatch e
  | (k, fn) :: r, h => fun f ps σ p σ' e A R μ H s as ks S hv hf => by
    have ih := calls_ok K X r fun kf hk => h kf (List.mem_cons_of_mem _ hk)
    rw [calls_c] at e
    by_cases hk : k = f
    · rw [if_pos hk] at e
      subst hk
      obtain ⟨fd, P, hF, hc, hfree⟩ := (h (k, fn) List.mem_cons_self).ex
      refine call_one K hF (fun A' RA env hs hcell ρ σ fl ρ' σ' he => ?_) e (n := 2 * r.length + 1) R S hv hf
      have Y : EnvS env fd.scope.names := ⟨by rw [hs], by rw [hs]; exact hF.kind, fun n hn => hn.elim (hcell n) fun hn => absurd hn (hfree n)⟩
      exact sndSs K X ih fn.body RA Y (own_frame Y) hc he
    · rw [if_neg hk] at e
      exact ih f ps σ p σ' e A (R.le (Nat.mul_le_mul_left 2 (Nat.le_succ _))) μ H s as ks S hv hf
noncomputable def fdOf (K : Frag) (a : Addr) : FuncData := match K.lookup a with
  | some ⟨_, _, .func fd, _⟩ => fd
  | _ => default
noncomputable def isFd (K : Frag) (a : Addr) : Bool := match K.lookup a with
  | some ⟨_, _, .func _, _⟩ => true
  | _ => false
noncomputable def bodyOf (fd : FuncData) : List Stmt := match fd.body with
  | .stmts b => b
  | _ => []
noncomputable def isStmts (fd : FuncData) : Bool := match fd.body with
  | .stmts _ => true
  | _ => false
noncomputable def navF (fd : FuncData) : Px := nav (.b (bodyOf fd))
noncomputable def fnB (C : Ck) (fd : FuncData) (k : Nat) (f : Fn) : Bool := isStmts fd && (fd.closure.isEmpty && (!fd.scope.isCoroutine && (!fd.scope.isGenerator && (decide (fd.scope.kind = .function) && (decide (fd.globals = mainGlobals) && (decide (fd.builtins = builtinsNs) &&
  (decide ((f.params.map (nm C.I)).Nodup) && (f.params.all (fun x => isOwn fd.scope.names (nm C.I x)) && (f.dflts.all isNonP && (decide (C.par k = f.params) && (fd.scope.names.all (fun nk => decide (nk.2 ≠ .free)) && wfSs C f.body fd.scope.names 0 (navF fd))))))))))))
noncomputable def BindOk (Γ : Cx) (fd : FuncData) (k : Nat) (f : Fn) : Prop := ∀ na nk, (na, nk) ∈ Γ.forms k → ∀ s as ks, (∀ b o, Γ.B.get? b = some o → s.heap.get? b = some o) → as.length = na → ks.length = nk →
    BindsTo s fd ⟨as, (kwn Γ k na nk).zip ks⟩ ((f.params.map (nm Γ.I)).zip (as ++ ks ++ List.replicate (f.params.length - na - nk) .none))
theorem not_eq {b : Bool} (h : (!b) = true) : b = false := by
  cases b with
  | false => rfl
  | true => cases h
theorem nil_of {α : Type} {l : List α} (h : l.isEmpty = true) : l = [] := by
  cases l with
  | nil => rfl
  | cons _ _ => cases h
theorem isFd_some {K : Frag} {a : Addr} (h : isFd K a = true) : ∃ c d fd sl, K.lookup a = some ⟨c, d, .func fd, sl⟩ := by
  unfold isFd at h
  cases e : K.lookup a with
  | none => rw [e] at h; exact (ft h).elim
  | some o =>
    rw [e] at h
    obtain ⟨c, d, x, sl⟩ := o
    cases x with
    | func fd => exact ⟨c, d, fd, sl, rfl⟩
    | _ => exact (ft h).elim
theorem stmts_of {fd : FuncData} (h : isStmts fd = true) : fd.body = .stmts (bodyOf fd) := by
  unfold isStmts at h
  unfold bodyOf
  cases hb : fd.body with
  | stmts b => rfl
  | _ => rw [hb] at h; cases h
theorem fnIn_of {Γ : Cx} {fd : FuncData} {k : Nat} {f : Fn} (hat : ∃ o, Γ.B.get? (Γ.fa k) = some o ∧ o.data = .func fd) (hcd : Γ.B.CodeRec fd.code fd.qualname) (hb : fnB Γ.C fd k f = true) (ht : trSs Γ.C f.body 0 (navF fd) = bodyOf fd) (hB : BindOk Γ fd k f) : FnIn Γ k f := by
  have b1 := andL hb
  have hb := andR hb
  have b2 := andL hb
  have hb := andR hb
  have b3 := andL hb
  have hb := andR hb
  have b4 := andL hb
  have hb := andR hb
  have b5 := andL hb
  have hb := andR hb
  have b6 := andL hb
  have hb := andR hb
  have b7 := andL hb
  have hb := andR hb
  have b8 := andL hb
  have hb := andR hb
  have b9 := andL hb
  have hb := andR hb
  have b10 := andL hb
  have hb := andR hb
  have b11 := andL hb
  have hb := andR hb
  have b12 := andL hb
  have b13 := andR hb
  exact ⟨fd, navF fd, ⟨hat, hcd, by rw [ht]; exact stmts_of b1, nil_of b2, not_eq b3, not_eq b4, of_decide_eq_true b5, of_decide_eq_true b6, of_decide_eq_true b7, of_decide_eq_true b8,
    fun x hx => ((Bool.or_eq_true _ _).mp (List.all_eq_true.mp b9 x hx)).imp of_decide_eq_true of_decide_eq_true, fun d hd => isNonP_eq (List.all_eq_true.mp b10 d hd), of_decide_eq_true b11, hB⟩, b13,
    fun n hn => of_decide_eq_true (List.all_eq_true.mp b12 _ (mem_of_lookup hn)) rfl⟩
noncomputable def isRef (v : Option (Option Value)) (a : Addr) : Bool := match v with
  | some (some (.ref b)) => decide (b = a)
  | _ => false
noncomputable def isBlt (v : Option (Option Value)) (s : String) : Bool := match v with
  | some (some (.builtin t)) => decide (t = s)
  | _ => false
noncomputable def isNo (v : Option (Option Value)) : Bool := match v with
  | some none => true
  | _ => false
noncomputable def isTy (v : Option Value) (s : String) : Bool := match v with
  | some (.type t) => decide (t = s)
  | _ => false
theorem isRef_eq {v : Option (Option Value)} {a : Addr} (h : isRef v a = true) : v = some (some (.ref a)) := by
  cases v with
  | none => exact (ft h).elim
  | some v => cases v with
    | none => exact (ft h).elim
    | some v => cases v with
      | ref b => exact congrArg (fun x => some (some (Value.ref x))) (of_decide_eq_true h)
      | _ => exact (ft h).elim
theorem isBlt_eq {v : Option (Option Value)} {a : String} (h : isBlt v a = true) : v = some (some (.builtin a)) := by
  cases v with
  | none => exact (ft h).elim
  | some v => cases v with
    | none => exact (ft h).elim
    | some v => cases v with
      | builtin b => exact congrArg (fun x => some (some (Value.builtin x))) (of_decide_eq_true h)
      | _ => exact (ft h).elim
theorem isNo_eq {v : Option (Option Value)} (h : isNo v = true) : v = some none := by
  cases v with
  | none => exact (ft h).elim
  | some v => cases v with
    | none => rfl
    | some v => exact (ft h).elim
theorem isTy_eq {v : Option Value} {a : String} (h : isTy v a = true) : v = some (.type a) := by
  cases v with
  | none => exact (ft h).elim
  | some v => cases v with
    | type b => exact congrArg (fun x => some (Value.type x)) (of_decide_eq_true h)
    | _ => exact (ft h).elim
structure Tab where
  I : Info
  fns : List (Nat × Fn)
  fad : List (Nat × Nat)
  fnm : List (Nat × Str)
  frm : List (Nat × List (Nat × Nat))
  bl : List Str
noncomputable def Tab.fa (T : Tab) (k : Nat) : Addr := (lk k T.fad).getD 0
noncomputable def Tab.ck (T : Tab) : Ck := { I := T.I, fname := fun k => (lk k T.fnm).getD ⟨#[]⟩, par := fun k => ((lk k T.fns).map (·.params)).getD [], forms := fun k => (lk k T.frm).getD [], fids := T.fnm.map (·.1), bl := T.bl }
noncomputable def clsB (K : Frag) (I : Info) (fa : Nat → Addr) (k : Cls) : Bool :=
  makesIn K k.addr && (isRef (findIn K (.ref k.addr) "__init__") (fa k.init) && (isTy (typeIn K (.ref (fa k.init))) "function" && (isBlt (findIn K (.ref k.addr) "__getattribute__") "object.__getattribute__" &&
    (isNo (findIn K (.ref k.addr) "__getattr__") && (hasDictIn K k.addr && (keepIn K (.ref k.addr) && (noSeq K k.addr && (isBlt (findIn K (.ref k.addr) "__setattr__") "object.__setattr__" && (plainOver K k.addr &&
    (k.attrs.all (fun x => isNo (findIn K (.ref k.addr) (nm I x))) && k.meths.all (fun xf => isRef (findIn K (.ref k.addr) (nm I xf.1)) (fa xf.2) && (isTy (typeIn K (.ref (fa xf.2))) "function" && fnIn K (fa xf.2)))))))))))))
theorem lk_mem {β : Type} {x : Nat} {b : β} : ∀ {l : List (Nat × β)}, lk x l = some b → (x, b) ∈ l
  | (y, p) :: r, h => by
    rw [lk_c] at h
    by_cases e : y = x
    · rw [if_pos e] at h; subst e; cases h; exact List.mem_cons_self
    · rw [if_neg e] at h; exact List.mem_cons_of_mem _ (lk_mem h)
theorem cls_ok {K : Frag} {I : Info} {fa : Nat → Addr} {k : Cls} (h : clsB K I fa k = true) : ClsOk K I fa k := by
  have h1 := andL h
  have h := andR h
  have h2 := andL h
  have h := andR h
  have h3 := andL h
  have h := andR h
  have h4 := andL h
  have h := andR h
  have h5 := andL h
  have h := andR h
  have h6 := andL h
  have h := andR h
  have h7 := andL h
  have h := andR h
  have h8 := andL h
  have h := andR h
  have h9 := andL h
  have h := andR h
  have h10 := andL h
  have h := andR h
  have h11 := andL h
  have h12 := andR h
  exact ⟨h1, isRef_eq h2, isTy_eq h3, isBlt_eq h4, isNo_eq h5, h6, h7, h8, isBlt_eq h9, h10, fun x hx => isNo_eq (List.all_eq_true.mp h11 x (List.contains_iff_mem.mp hx)), fun x f hl =>
    have q := and2 (List.all_eq_true.mp h12 _ (lk_mem hl))
    have q2 := and2 q.2
    ⟨isRef_eq q.1, isTy_eq q2.1, q2.2⟩⟩
noncomputable def patC (K : Frag) (a : Addr) : Addr := match K.lookup a with
  | some ⟨_, _, .fields vs, _⟩ => (match (vs.toList.getD 5 Value.none : Value) with
    | .ref c => c
    | _ => 0)
  | _ => 0
noncomputable def patV (K : Frag) (a : Addr) (i : Nat) : Value := match K.lookup a with
  | some ⟨_, _, .fields vs, _⟩ => vs.toList.getD i Value.none
  | _ => .none
noncomputable def patN (K : Frag) (a : Addr) : Nat := match K.lookup a with
  | some ⟨_, _, .seq _ n, _⟩ => n
  | _ => 0
noncomputable def PatB (K : Frag) (a : Addr) (code : Array Nat) : Prop := K.lookup a = some { cls := .type "re.Pattern", data := .fields #[patV K a 0, patV K a 1, .int 0 0, patV K a 3, patV K a 4, .ref (patC K a), .int 0 0] } ∧
  K.lookup (patC K a) = some { cls := .type "tuple", data := .seq (code.map fun (w : Nat) => Value.int (w : Int) 0) (patN K (patC K a)) }
theorem pat_ok {K : Frag} {B : Heap} (X : K.In B) {a : Addr} {code : Array Nat} (h : PatB K a code) : PatOk B a code := ⟨_, _, _, _, _, _, X _ _ h.1, X _ _ h.2⟩
noncomputable def gtok : Option (Option Value) → Tok
  | some (some (.int _ t)) => t
  | _ => 0
noncomputable def gval (u : Option (Option Value)) : PV → Option (Option Value)
  | .d (.int i) => some (some (.int i (gtok u)))
  | .gl a => some (some (.ref a))
  | .ty _ => some none
  | _ => none
noncomputable def glT (I : Info) (x : Nat) : PV → Bool
  | .d (.int _) => true
  | .gl _ => true
  | .ty t => decide (nm I x = Str.ofString t) && (["str", "list"] : List String).contains t
  | _ => false
noncomputable def Tab.all (T : Tab) (K : Frag) : Bool :=
  T.I.cls.all (fun ck => clsB K T.I T.fa ck.2 && isRef (nsIn K mainGlobals (nm T.I ck.1)) ck.2.addr) && (T.I.G.all (fun xp => glT T.I xp.1 xp.2) &&
  (decide (nm T.I T.I.nLen = "__len__") && (decide (nm T.I T.I.nGet = "__getitem__") && (decide (nm T.I T.I.nDel = "__delitem__") &&
  (decide (T.I.N.Nodup) && (!T.I.N.contains ⟨#[]⟩ && (!T.I.N.contains (".0" : Str) &&
  (T.fnm.all (fun kn => isRef (nsIn K mainGlobals kn.2) (T.fa kn.1) && fnIn K (T.fa kn.1)) &&
  (T.bl.all (fun s => isNo (nsIn K mainGlobals s)) &&
  (kwOk T.ck T.I.nGet 2 none && (kwOk T.ck T.I.nLen 1 none && (kwOk T.ck T.I.nDel 2 none &&
  T.fns.all (fun kf => isFd K (T.fa kf.1) && (codeIn K (fdOf K (T.fa kf.1)).code (fdOf K (T.fa kf.1)).qualname && fnB T.ck (fdOf K (T.fa kf.1)) kf.1 kf.2))))))))))))))
noncomputable def Vs : Nat → (List Value → Prop) → Prop
  | 0, P => P []
  | n + 1, P => ∀ a, Vs n fun l => P (a :: l)
theorem vs_of {n : Nat} {P : List Value → Prop} (h : Vs n P) (l : List Value) (e : l.length = n) : P l := by
  subst e
  induction l generalizing P with
  | nil => exact h
  | cons a l ih => exact ih (h a)
inductive BindS (K : Frag) (fd : FuncData) (args : Args) (binds : List (Str × Value)) : Prop
  | plain (h : bindArgs fd args = pure binds)
  | dflt (t : Addr) (o : Obj) (n : Nat) (k : Option (Array Value) → Sem (List (Str × Value))) (hd : fd.defaults = .ref t) (hl : K.lookup t = some o) (ho : o.data = .seq #[.none] n) (h₁ : bindArgs fd args = seqItems? fd.defaults >>= k) (h₂ : k (some #[.none]) = pure binds)
noncomputable def bindOpen (fd : FuncData) (as : List Value) : { k : Option (Array Value) → Sem (List (Str × Value)) // bindArgs fd ⟨as, []⟩ = seqItems? fd.defaults >>= k } := ⟨_, by unfold bindArgs; with_unfolding_all rfl⟩
noncomputable def dfT (fd : FuncData) : Addr := match fd.defaults with
  | .ref t => t
  | _ => 0
noncomputable def dfO (K : Frag) (a : Addr) : Obj := (K.lookup a).getD default
theorem BindS.one {K : Frag} {fd : FuncData} {as : List Value} {binds : List (Str × Value)} (hd : fd.defaults = .ref (dfT fd)) (hl : K.lookup (dfT fd) = some (dfO K (dfT fd))) (ho : (dfO K (dfT fd)).data = .seq #[.none] (patN K (dfT fd))) (h : (bindOpen fd as).1 (some #[.none]) = pure binds) : BindS K fd ⟨as, []⟩ binds :=
  .dflt _ _ _ _ hd hl ho (bindOpen fd as).2 h
noncomputable def BindG (T : Tab) (K : Frag) (kf : Nat × Fn) (nn : Nat × Nat) : Prop := Vs nn.1 fun as => Vs nn.2 fun ks => BindS K (fdOf K (T.fa kf.1)) ⟨as, ((((T.ck.par kf.1).drop nn.1).take nn.2).map (nm T.I)).zip ks⟩ ((kf.2.params.map (nm T.I)).zip (as ++ ks ++ List.replicate (kf.2.params.length - nn.1 - nn.2) .none))
noncomputable def AllP {α : Type} (P : α → Prop) : List α → Prop
  | [] => True
  | x :: r => P x ∧ AllP P r
theorem allP_mem {α : Type} {P : α → Prop} {l : List α} (h : AllP P l) (x : α) (hx : x ∈ l) : P x := by
  induction hx with
  | head => exact h.1
  | tail _ _ ih => exact ih h.2
noncomputable def BindsT (T : Tab) (K : Frag) : Prop := AllP (fun kf => AllP (BindG T K kf) (T.ck.forms kf.1)) T.fns
theorem BindS.ok {K : Frag} {B : Heap} {s : Shared} (X : K.In B) (hB : ∀ b o, B.get? b = some o → s.heap.get? b = some o) {fd : FuncData} {args : Args} {binds : List (Str × Value)} (h : BindS K fd args binds) : BindsTo s fd args binds := by
  cases h with
  | plain h => exact .of_eq h
  | dflt t o n k hd hl ho h₁ h₂ => exact .of_defaults hd (hB _ _ (X _ _ hl)) ho h₁ h₂
end Mine
end
section
namespace Mine
open PySem PySem.W PySem.Calls PyProof.Rows
theorem map_all {α β : Type} {f g : α → β} {l : List α} (h : l.map f = l.map g) (x : α) (hx : x ∈ l) : f x = g x := by
  induction hx with
  | head => exact (List.cons.inj h).1
  | tail _ _ ih => exact ih (List.cons.inj h).2
theorem boot_bf : ∀ s ∈ (["len", "min", "max", "sorted"] : List String), bootBuiltins (Str.ofString s) = some (.builtin s) :=
  map_all (f := fun s => bootBuiltins (Str.ofString s)) (g := fun s => some (.builtin s)) (by kernel_rfl)
theorem boot_bt : ∀ s ∈ (["type", "str", "list", "set", "zip", "range", "enumerate"] : List String), bootBuiltins (Str.ofString s) = some (.type s) :=
  map_all (f := fun s => bootBuiltins (Str.ofString s)) (g := fun s => some (.type s)) (by kernel_rfl)
theorem name_not : ∀ s ∈ (["len", "min", "max", "sorted", "type", "str", "list", "set", "zip", "range", "enumerate"] : List String), Str.ofString s ≠ ("__name__" : Str) := by decide
noncomputable def Tab.cx (T : Tab) (prog : Program) (w : World) (B : Heap) (K : Frag) (mg mb : Str → Option Value) : Cx :=
  { prog := prog, w := w, B := B, K := K, fa := T.fa, mg := mg, mb := mb, C := T.ck }
theorem nm_get {I : Info} (x : Nat) : (∃ h : x < I.N.length, nm I x = I.N[x]) ∨ (I.N.length ≤ x ∧ nm I x = ⟨#[]⟩) := by
  unfold nm
  rw [List.getD_eq_getElem?_getD]
  by_cases hx : x < I.N.length
  · exact .inl ⟨hx, by rw [List.getElem?_eq_getElem hx]; rfl⟩
  · exact .inr ⟨Nat.le_of_not_lt hx, by rw [List.getElem?_eq_none (Nat.le_of_not_lt hx)]; rfl⟩
theorem not_in {l : List Str} {n : Str} (h : l.contains n = false) : n ∉ l := fun q => by rw [List.contains_iff_mem.mpr q] at h; cases h
theorem nm_inj {I : Info} (h1 : I.N.Nodup) (h2 : I.N.contains ⟨#[]⟩ = false) {x y : Nat} (hx : x < I.N.length) (e : nm I x = nm I y) : x = y := by
  rcases nm_get (I := I) x with ⟨hx, e1⟩ | ⟨hn, _⟩
  · rcases nm_get (I := I) y with ⟨hy, e2⟩ | ⟨_, e2⟩
    · exact (List.getElem_inj h1).mp (e1.symm.trans (e.trans e2))
    · exact absurd (e2 ▸ e ▸ e1 ▸ List.getElem_mem hx) (not_in h2)
  · exact absurd hx (Nat.not_lt.mpr hn)
theorem nm_not {I : Info} {n : Str} (h : I.N.contains n = false) (hn : n ≠ ⟨#[]⟩) (x : Nat) : nm I x ≠ n := fun e => by
  rcases nm_get (I := I) x with ⟨hx, e1⟩ | ⟨_, e1⟩
  · exact not_in h (e ▸ e1 ▸ List.getElem_mem hx)
  · exact hn (e.symm.trans e1)
theorem lk_of {β : Type} {x : Nat} : ∀ {l : List (Nat × β)}, x ∈ l.map (·.1) → ∃ b, lk x l = some b
  | (y, b) :: r, h => by
    rw [lk_c]
    by_cases e : y = x
    · exact ⟨b, by rw [if_pos e]⟩
    · rw [if_neg e]
      cases h with
      | head => exact absurd rfl e
      | tail _ h => exact lk_of h
theorem fnm_fn {T : Tab} {K : Frag} (h1 : T.fnm.all (fun kn => isRef (nsIn K mainGlobals kn.2) (T.fa kn.1) && fnIn K (T.fa kn.1)) = true) {f : Nat} (hf : T.ck.fids.contains f = true) : nsIn K mainGlobals (T.ck.fname f) = some (some (.ref (T.fa f))) ∧ fnIn K (T.fa f) = true := by
  obtain ⟨n, hn⟩ := lk_of (List.contains_iff_mem.mp hf)
  have q := and2 (List.all_eq_true.mp h1 _ (lk_mem hn))
  have e : T.ck.fname f = n := by show (lk f T.fnm).getD ⟨#[]⟩ = n; rw [hn]; rfl
  exact ⟨e ▸ isRef_eq q.1, q.2⟩
structure TabIn (T : Tab) (K : Frag) : Prop where
  all : T.all K = true
  gl : T.I.G.map (fun xp => nsIn K mainGlobals (nm T.I xp.1)) = T.I.G.map fun xp => gval (nsIn K mainGlobals (nm T.I xp.1)) xp.2
  pat : AllP (fun ac => PatB K ac.1 ac.2) T.I.safe
  body : T.fns.map (fun kf => trSs T.ck kf.2.body 0 (navF (fdOf K (T.fa kf.1)))) = T.fns.map fun kf => bodyOf (fdOf K (T.fa kf.1))
  bind : BindsT T K
section
variable {T : Tab} {prog : Program} {w : World} {B : Heap} {K : Frag} {mg mb : Str → Option Value}
theorem glob_at (KX : K.In B) (g : B.Ns mainGlobals mg) (hmb : ∀ x, x ≠ ("__name__" : Str) → mb x = bootBuiltins x) {x : Nat} {n : Str} {p : PV} (hn : n = nm T.I x) (h1 : nsIn K mainGlobals n = gval (nsIn K mainGlobals n) p) (h2 : glT T.I x p = true) :
    ∃ v, (mg n = some v ∨ (mg n = none ∧ mb n = some v)) ∧ ∀ (μ : List Addr) (g : Heap), VR μ g v p := by
  cases p with
  | gl a => exact ⟨_, .inl (mg_of KX g h1), fun μ g => .gl⟩
  | ty t =>
    have h2 := and2 h2
    have e : n = Str.ofString t := hn.trans (of_decide_eq_true h2.1)
    refine ⟨.type t, .inr ⟨mg_none_of KX g h1, ?_⟩, fun μ gg => .ty⟩
    have h3 := List.contains_iff_mem.mp h2.2
    have key : ∀ t ∈ (["str", "list"] : List String), Str.ofString t ≠ ("__name__" : Str) ∧ bootBuiltins (Str.ofString t) = some (.type t)
      | _, .head _ => ⟨by decide, by kernel_rfl⟩
      | _, .tail _ (.head _) => ⟨by decide, by kernel_rfl⟩
    rw [e, hmb _ (key t h3).1]
    exact (key t h3).2
  | d x =>
    cases x with
    | int i => exact ⟨_, .inl (mg_of KX g h1), fun μ g => vr_int _ _ _⟩
    | _ => cases h2
  | _ => cases h2
theorem tab_ok (KX : K.In B) (g : B.Ns mainGlobals mg) (b : B.Ns builtinsNs mb) (hmb : ∀ x, x ≠ ("__name__" : Str) → mb x = bootBuiltins x) (lim : B.NoLimit) (X : TabIn T K) : (T.cx prog w B K mg mb).Ok ∧ CallOk (T.cx prog w B K mg mb) (2 * T.fns.length) (calls T.I T.fns) := by
  have a1 := andL X.all
  have h := andR X.all
  have a3 := andL h
  have h := andR h
  have a4 := andL h
  have h := andR h
  have a5 := andL h
  have h := andR h
  have a6 := andL h
  have h := andR h
  have a7 := andL h
  have h := andR h
  have a8 := andL h
  have h := andR h
  have a9 := andL h
  have h := andR h
  have a10 := andL h
  have h := andR h
  have a12 := andL h
  have h := andR h
  have a13 := andL h
  have h := andR h
  have a14 := andL h
  have h := andR h
  have a15 := andL h
  have a16 := andR h
  have hcls : ∀ c k, (c, k) ∈ T.I.cls → ClsOk K T.I T.fa k ∧ nsIn K mainGlobals (nm T.I c) = some (some (.ref k.addr)) := fun c k hm =>
    have q := and2 (List.all_eq_true.mp a1 _ hm)
    ⟨cls_ok q.1, isRef_eq q.2⟩
  have ok : (T.cx prog w B K mg mb).Ok := by
    refine ⟨fun a code hl => pat_ok KX (allP_mem X.pat _ (lk_mem hl)), KX, fun c k hl => (hcls c k (lk_mem hl)).1, fun C k hc => ?_, g, b, lim, of_decide_eq_true a4, of_decide_eq_true a5, of_decide_eq_true a6, fun x y hx e => nm_inj (of_decide_eq_true a7) (not_eq a8) hx e,
      fun x p hl => glob_at KX g hmb rfl (map_all X.gl _ (lk_mem hl)) (List.all_eq_true.mp a3 _ (lk_mem hl))⟩
    obtain ⟨⟨c, k'⟩, h1, h2⟩ := mp_some hc
    have h3 := List.find?_some h1
    dsimp only at h2 h3
    subst h2
    exact ⟨eq_of_beq h3, (hcls c k' (List.mem_of_find?_eq_some h1)).1⟩
  have no : ∀ s : Str, T.ck.bl.contains s = true → mg s = none := fun s hc => mg_none_of KX g (isNo_eq (List.all_eq_true.mp a12 _ (List.contains_iff_mem.mp hc)))
  have ck : CkOk (T.cx prog w B K mg mb) := ⟨fun f hf => ⟨mg_of KX g (fnm_fn a10 hf).1, (fnm_fn a10 hf).2⟩, fun c k hl => mg_of KX g (hcls c k (lk_mem hl)).2,
    fun s hs hc => ⟨no _ hc, (hmb _ (name_not s (List.mem_append_left (as := ["len", "min", "max", "sorted"]) (bs := ["type", "str", "list", "set", "zip", "range", "enumerate"]) hs))).trans (boot_bf s hs)⟩,
    fun s hs hc => ⟨no _ hc, (hmb _ (name_not s (List.mem_append_right (as := ["len", "min", "max", "sorted"]) (bs := ["type", "str", "list", "set", "zip", "range", "enumerate"]) hs))).trans (boot_bt s hs)⟩, nm_not (not_eq a9) (by decide), a13, a14, a15⟩
  refine ⟨ok, calls_ok ok ck T.fns fun kf hk => ?_⟩
  have q := and2 (List.all_eq_true.mp a16 _ hk)
  have q2 := and2 q.2
  refine fnIn_of ?_ (codeRec_of KX q2.1) q2.2 (map_all X.body _ hk) fun na nk hf s as ks hB ha hk' => ?_
  · have q1 := q.1
    obtain ⟨c, d, fd, sl, e⟩ := isFd_some q1
    exact ⟨_, KX _ _ e, by unfold fdOf; rw [e]⟩
  · exact (vs_of (vs_of (allP_mem (allP_mem X.bind _ hk) _ hf) as ha) ks hk').ok KX hB
end
theorem room_caller : Room 60 callerA := ⟨by decide, by decide, rfl⟩
theorem start_st {prog : Program} {w : World} {s : Shared} (hg : s.gens = #[]) : Mine.St w s.heap [] (fun _ => False) [] s :=
  ⟨fun b o e => ⟨e, fun q => q⟩, rfl, .nil, fun l a o h1 => (nomatch h1), fun l a o h1 => (nomatch h1), fun a h => (nomatch h), hg⟩
theorem finish (T : Tab) {prog : Program} {w : World} {s₁ : Shared} {K : Frag} {mg mb : Str → Option Value} {fa l : Addr} {lid : Nat} {ns : List Int} {as : List Addr} {Q E : Value → Shared → Prop}
    (KX : K.In s₁.heap) (g : s₁.heap.Ns mainGlobals mg) (b : s₁.heap.Ns builtinsNs mb) (hmb : ∀ x, x ≠ ("__name__" : Str) → mb x = bootBuiltins x) (lim : s₁.heap.NoLimit) (hg : s₁.gens = #[]) (X : TabIn T K)
    (hmg : mg (T.ck.fname lid) = some (.ref fa)) (hlid : T.ck.fids.contains lid = true) (hform : (1, 0) ∈ T.ck.forms lid) (hlen : T.fns.length ≤ 30)
    (hr : Reads s₁.heap (.ref l) (.list (ns.map .int)) as) (hden : ∃ σ', calls T.I T.fns lid [.d (.list (ns.map .int))] [] = some (.d (.bool true), σ'))
    (hQ : ∀ s', (∀ b o, s₁.heap.get? b = some o → s'.heap.get? b = some o) → s'.os = s₁.os → s'.gens = #[] → Q (.bool true) s') : wpAny (model prog w) callerA (call (.ref fa) [.ref l]) Q E s₁ := by
  obtain ⟨ok, co⟩ := tab_ok (prog := prog) (w := w) KX g b hmb lim X
  obtain ⟨σ', hd⟩ := hden
  have hfa : fa = T.fa lid := by
    have h := (and2 (and2 (and2 (and2 (and2 (and2 (and2 (and2 (and2 X.all).2).2).2).2).2).2).2).2).1
    have := mg_of KX g (fnm_fn h hlid).1
    rw [hmg] at this
    exact Value.ref.inj (Option.some.inj this)
  subst hfa
  have S : (T.cx prog w s₁.heap K mg mb).St [] (fun _ => False) [] s₁ := start_st (prog := prog) hg
  have hr' : Reads (gr s₁.heap fun _ => False) (.ref l) (.list (ns.map .int)) as := Reads.keeps (fun b o e => only_get.mpr ⟨e, fun q => q⟩) hr
  have := co lid [.d (.list (ns.map .int))] [] _ σ' hd callerA (room_caller.le (Nat.mul_le_mul_left 2 hlen)) [] (fun _ => False) s₁ [.ref l] [] S (.cons (.d hr') .nil) hform
  have e : (kwn (T.cx prog w s₁.heap K mg mb) lid ([Value.ref l] : List Value).length ([] : List Value).length).zip ([] : List Value) = [] := List.zip_nil_right
  rw [e] at this
  refine Does.use (CR.call this) fun v s' μ' H' Tt S' rv => ?_
  rw [show v = .bool true from v_bool rv]
  exact hQ s' (fun b o e => (Tt.kept b o e fun q => (nomatch q.1)).1) Tt.os S'.gens
theorem good_true {c : ClaimW} {cl : Str → Option Addr} {mean : ExcName → Option Value} {args : List WData} {s₁ s' : Shared} (hk : ∀ b o, s₁.heap.get? b = some o → s'.heap.get? b = some o) (ho : s'.os = s₁.os) (hg : s'.gens = #[])
    (hn : ∀ cls, c.raises args cls = false) (hp : c.post args (.bool true) args = true) (hu : c.unshared = true → ([] : List Addr).Nodup ∧ ∀ a ∈ ([] : List Addr), s₁.heap.get? a = none) : GoodWG c cl mean args s₁ (.ok (.ret (.bool true))) s' :=
  GoodW.toG ⟨.inl ⟨.bool true, .bool true, [], rfl, hn, .bool true, hp, hu⟩, hk, ho, hg⟩
end Mine
end
section
open PySem PySem.W Mine
namespace L2
noncomputable def N : List Str := [(S [95, 95, 108, 101, 110, 95, 95]), (S [95, 95, 103, 101, 116, 105, 116, 101, 109, 95, 95]), (S [95, 95, 100, 101, 108, 105, 116, 101, 109, 95, 95]), (S [95, 95, 105, 110, 105, 116, 95, 95]), (S [99, 104, 95, 97]), (S [99, 104, 95, 98]), (S [95, 67, 65, 83, 69, 95, 67, 79, 83, 84]), (S [95, 77, 79, 86, 69, 95, 67, 79, 83, 84]), (S [97]), (S [98]), (S [112, 114, 101]), (S [112, 111, 115, 116]), (S [95, 77, 65, 88, 95, 83, 84, 82, 73, 78, 71, 95, 83, 73, 90, 69]), (S [109, 97, 120, 95, 99, 111, 115, 116]), (S [114, 111, 119]), (S [114, 101, 115, 117, 108, 116]), (S [98, 105, 110, 100, 101, 120]), (S [98, 99, 104, 97, 114]), (S [100, 105, 115, 116, 97, 110, 99, 101]), (S [109, 105, 110, 105, 109, 117, 109]), (S [105, 110, 100, 101, 120]), (S [115, 117, 98, 115, 116, 105, 116, 117, 116, 101]), (S [105, 110, 115, 101, 114, 116, 95, 100, 101, 108, 101, 116, 101]), (S [115, 101, 108, 102]), (S [99, 111, 109, 112, 95, 115, 101, 108, 101, 99, 116, 95, 108, 105, 115, 116]), (S [100, 105, 114, 101, 99, 116, 105, 111, 110]), (S [108, 101, 102, 116]), (S [108]), (S [114, 105, 103, 104, 116]), (S [114]), (S [118, 97, 108, 117, 101]), (S [115, 116, 114]), (S [110, 97, 109, 101]), (S [95, 110, 97, 109, 101, 95, 100, 105, 115, 97, 108, 108, 111, 119, 101, 100, 95, 114, 101]), (S [95, 118, 97, 108, 117, 101, 95, 100, 105, 115, 97, 108, 108, 111, 119, 101, 100, 95, 114, 101]), (S [114, 101, 103, 101, 120]), (S [104, 101, 97, 100, 101, 114, 115]), (S [108, 105, 115, 116]), (S [95, 104, 101, 97, 100, 101, 114, 115]), (S [107]), (S [118]), (S [95, 99, 111, 110, 118, 101, 114, 116, 95, 115, 116, 114, 105, 110, 103, 95, 116, 121, 112, 101]), (S [100, 101, 102, 97, 117, 108, 116]), (S [103, 101, 116]), (S [107, 118]), (S [110, 101, 101, 100, 101, 100]), (S [99, 111, 108, 117, 109, 110]), (S [84, 117, 112, 108, 101, 67, 111, 109, 112]), (S [106, 117, 100, 103, 101]), (S [114, 111, 119, 115]), (S [111, 116, 104, 101, 114]), (S [99, 111, 109, 112, 97, 114, 101]), (S [119, 111, 114, 100]), (S [119, 111, 114, 100, 115]), (S [112, 108, 97, 99, 101]), (S [72, 101, 97, 100, 101, 114, 115]), (S [116, 97, 98, 108, 101]), (S [98, 105, 116]), (S [115, 101, 116, 100, 101, 102, 97, 117, 108, 116]), (S [110, 117, 109, 98, 101, 114, 115]), (S [115, 99, 114, 105, 112, 116]), (S [108, 101, 116, 116, 101, 114]), (S [109, 97, 110, 121]), (S [116, 111, 108, 100]), (S [107, 101, 121, 115]), (S [105, 116, 101, 109, 115])]
noncomputable def f__substitution_cost : Fn := { params := [4, 5], dflts := [], body := [
  (.cond (.cmp .Eq (.var 4) (.var 5)) [(.ret (.int 0))] []),
  (.cond (.cmp .Eq (.meth (.var 4) .lower [] none) (.meth (.var 5) .lower [] none)) [(.ret (.gl 6))] []),
  (.ret (.gl 7))] }
noncomputable def f__levenshtein_distance : Fn := { params := [8, 9, 13], dflts := [], body := [
  (.cond (.cmp .Eq (.var 8) (.var 9)) [(.ret (.int 0))] []),
  (.set 10 (.int 0)),
  (.whil (.and3 (.slc (.var 8) (some (.var 10)) none) (.slc (.var 9) (some (.var 10)) none) (.cmp .Eq (.idx (.var 8) (.var 10)) (.idx (.var 9) (.var 10)))) [(.aug 10 .Add (.int 1))]),
  (.set 8 (.slc (.var 8) (some (.var 10)) none)),
  (.set 9 (.slc (.var 9) (some (.var 10)) none)),
  (.set 11 (.int 0)),
  (.whil (.and3 (.slc (.var 8) none (some (.or (.var 11) .non))) (.slc (.var 9) none (some (.or (.var 11) .non))) (.cmp .Eq (.idx (.var 8) (.bin .Sub (.var 11) (.int 1))) (.idx (.var 9) (.bin .Sub (.var 11) (.int 1))))) [(.aug 11 .Sub (.int 1))]),
  (.set 8 (.slc (.var 8) none (some (.or (.var 11) .non)))),
  (.set 9 (.slc (.var 9) none (some (.or (.var 11) .non)))),
  (.cond (.or (.not (.var 8)) (.not (.var 9))) [(.ret (.bin .Mult (.gl 7) (.bin .Add (.bi .len [(.var 8)]) (.bi .len [(.var 9)]))))] []),
  (.cond (.or (.cmp .Gt (.bi .len [(.var 8)]) (.gl 12)) (.cmp .Gt (.bi .len [(.var 9)]) (.gl 12))) [(.ret (.bin .Add (.var 13) (.int 1)))] []),
  (.cond (.cmp .Lt (.bi .len [(.var 9)]) (.bi .len [(.var 8)])) [(.set2 8 9 (.tup [(.var 9), (.var 8)]))] []),
  (.cond (.cmp .Gt (.bin .Mult (.bin .Sub (.bi .len [(.var 9)]) (.bi .len [(.var 8)])) (.gl 7)) (.var 13)) [(.ret (.bin .Add (.var 13) (.int 1)))] []),
  (.set 14 (.mut (.bi .listrange [(.gl 7), (.bin .Mult (.gl 7) (.bin .Add (.bi .len [(.var 8)]) (.int 1))), (.gl 7)]))),
  (.set 15 (.int 0)),
  (.fo (.one 16) (.range [(.bi .len [(.var 9)])]) [(.set 17 (.idx (.var 9) (.var 16))), (.setB 18 15 (.bin .Mult (.var 16) (.gl 7))), (.set 19 (.int 9223372036854775807)), (.fo (.one 20) (.range [(.bi .len [(.var 8)])]) [(.set 21 (.bin .Add (.var 18) (.call 0 [(.var 17), (.idx (.var 8) (.var 20))]))), (.set 18 (.idx (.var 14) (.var 20))), (.set 22 (.bin .Add (.bi .min2 [(.var 15), (.var 18)]) (.gl 7))), (.set 15 (.bi .min2 [(.var 22), (.var 21)])), (.setIdx (.var 14) (.var 20) (.var 15)), (.cond (.cmp .Lt (.var 15) (.var 19)) [(.set 19 (.var 15))] [])]), (.cond (.cmp .Gt (.var 19) (.var 13)) [(.ret (.bin .Add (.var 13) (.int 1)))] [])]),
  (.ret (.var 15))] }
noncomputable def f_TupleComp___init__ : Fn := { params := [23, 24], dflts := [], body := [
  (.setAttr (.var 23) 24 (.var 24))] }
noncomputable def f_TupleComp_compare : Fn := { params := [23, 26, 28], dflts := [], body := [
  (.fo (.two 20 25) (.ex (.attr (.var 23) 24)) [(.set 27 (.idx (.var 26) (.var 20))), (.set 29 (.idx (.var 28) (.var 20))), (.cond (.cmp .Lt (.var 27) (.var 29)) [(.ret (.usub (.var 25)))] []), (.cond (.cmp .Gt (.var 27) (.var 29)) [(.ret (.var 25))] [])]),
  (.ret (.int 0))] }
noncomputable def f_Headers__convert_string_type : Fn := { params := [23, 30, 32], dflts := [], body := [
  (.cond (.cmp .Is (.bi .typ [(.var 30)]) (.gl 31)) [(.set 35 (.ite (.var 32) (.gl 33) (.gl 34))), (.cond (.meth (.var 35) .search [(.var 30)] none) [.no] []), (.ret (.var 30))] []),
  .no] }
noncomputable def f_Headers___init__ : Fn := { params := [23, 36], dflts := [.d .none], body := [
  (.set 36 (.ite (.cmp .IsNot (.var 36) .non) (.var 36) (.mut (.lst [])))),
  (.cond (.cmp .IsNot (.bi .typ [(.var 36)]) (.gl 37)) [.no] []),
  (.setAttr (.var 23) 38 (.var 36)),
  (.cond (.bool true) [(.fo (.two 39 40) (.ex (.var 36)) [(.exp (.meth (.var 23) (.own 41) [(.var 39)] (some (32, (.bool true))))), (.exp (.meth (.var 23) (.own 41) [(.var 40)] (some (32, (.bool false)))))])] [])] }
noncomputable def f_Headers___len__ : Fn := { params := [23], dflts := [], body := [
  (.ret (.bi .len [(.attr (.var 23) 38)]))] }
noncomputable def f_Headers_get : Fn := { params := [23, 32, 42], dflts := [.d .none], body := [
  (.set 32 (.meth (.var 23) (.own 41) [(.meth (.var 32) .lower [] none)] (some (32, (.bool true))))),
  (.fo (.two 39 40) (.ex (.attr (.var 23) 38)) [(.cond (.cmp .Eq (.meth (.var 39) .lower [] none) (.var 32)) [(.ret (.var 40))] [])]),
  (.ret (.var 42))] }
noncomputable def f_Headers___getitem__ : Fn := { params := [23, 32], dflts := [], body := [
  (.ret (.meth (.var 23) (.own 43) [(.var 32)] none))] }
noncomputable def f_Headers___delitem__ : Fn := { params := [23, 32], dflts := [], body := [
  (.set 32 (.meth (.var 23) (.own 41) [(.meth (.var 32) .lower [] none)] (some (32, (.bool true))))),
  (.setAll (.attr (.var 23) 38) (.comp (.gen (.one 44) (.ex (.attr (.var 23) 38)) [(.cmp .NotEq (.meth (.idx (.var 44) (.int 0)) .lower [] none) (.var 32))] (.emit (.var 44)))))] }
noncomputable def f_Headers_keys : Fn := { params := [23], dflts := [], body := [
  (.ret (.comp (.gen (.two 39 40) (.ex (.attr (.var 23) 38)) [] (.emit (.var 39)))))] }
noncomputable def f_Headers_items : Fn := { params := [23], dflts := [], body := [
  (.ret (.slc (.attr (.var 23) 38) none none))] }
noncomputable def f_Headers_setdefault : Fn := { params := [23, 32, 30], dflts := [], body := [
  (.set 15 (.meth (.var 23) (.own 43) [(.var 32)] none)),
  (.cond (.cmp .Is (.var 15) .non) [(.exp (.meth (.attr (.var 23) 38) .append [(.tup [(.meth (.var 23) (.own 41) [(.var 32)] (some (32, (.bool true)))), (.meth (.var 23) (.own 41) [(.var 30)] (some (32, (.bool false))))])] none)), (.ret (.var 30))] [(.ret (.var 15))])] }
noncomputable def f__law_by_keys : Fn := { params := [49], dflts := [], body := [
  (.set 45 (.mut (.lst []))),
  (.fo (.one 46) (.range [(.int 5)]) [(.set 48 (.new 47 [(.comp (.gen (.one 39) (.range [(.int 5)]) [(.cmp .NotEq (.var 39) (.var 46))] (.emit (.tup [(.var 39), (.int 1)]))))])), (.cond (.cmp .NotEq (.comp (.gen (.two 39 14) (.enum (.var 49)) [] (.gen (.one 50) (.ex (.slc (.var 49) none (some (.var 39)))) [(.cmp .Eq (.meth (.var 48) (.own 51) [(.var 14), (.var 50)] none) (.int 0))] (.emit (.int 1))))) (.lst [])) [(.exp (.meth (.var 45) .append [(.var 46)] none))] [])]),
  (.freeze 45),
  (.ret (.var 45))] }
noncomputable def f__law_by_words : Fn := { params := [53], dflts := [], body := [
  (.set 45 (.mut (.lst []))),
  (.fo (.two 39 52) (.enum (.var 53)) [(.fo (.one 50) (.ex (.slc (.var 53) none (some (.var 39)))) [(.cond (.cmp .Eq (.call 1 [(.var 52), (.var 50), (.int 1)]) (.int 1)) [(.exp (.meth (.var 45) .extend [(.comp (.gen (.one 54) (.range [(.int 5)]) [(.cmp .NotEq (.idx (.var 52) (.var 54)) (.idx (.var 50) (.var 54)))] (.emit (.var 54))))] none))] [])])]),
  (.ret (.bi .sortedset [(.var 45)]))] }
noncomputable def f__law_by_names : Fn := { params := [49], dflts := [], body := [
  (.set 45 (.mut (.lst []))),
  (.fo (.one 46) (.range [(.int 5)]) [(.set 56 (.new 55 [])), (.fo (.two 39 14) (.enum (.var 49)) [(.set 32 (.meth (.str (S [])) .join [(.comp (.gen (.one 57) (.ex (.bin .Add (.slc (.var 14) none (some (.var 46))) (.slc (.var 14) (some (.bin .Add (.var 46) (.int 1))) none))) [] (.emit (.idx (.str (S [120, 111])) (.var 57)))))] none)), (.cond (.cmp .NotEq (.meth (.var 56) (.own 58) [(.ite (.bin .Mod (.var 39) (.int 2)) (.meth (.var 32) .upper [] none) (.var 32)), (.bi .strOf [(.var 39)])] none) (.bi .strOf [(.var 39)])) [(.exp (.meth (.var 45) .append [(.var 46)] none)), .brk] [])])]),
  (.freeze 45),
  (.ret (.var 45))] }
noncomputable def f_law : Fn := { params := [60], dflts := [], body := [
  (.set 59 (.mut (.lst []))),
  (.fo (.one 40) (.ex (.bin .Add (.slc (.var 60) none (some (.int 5))) (.slc (.lst [(.int 0), (.int 1), (.int 3), (.int 7), (.int 15)]) (some (.bi .len [(.var 60)])) none))) [(.whil (.cmp .In (.bin .Mod (.var 40) (.int 32)) (.var 59)) [(.aug 40 .Add (.int 1))]), (.exp (.meth (.var 59) .append [(.bin .Mod (.var 40) (.int 32))] none))]),
  (.freeze 59),
  (.set 49 (.comp (.gen (.one 40) (.ex (.var 59)) [] (.emit (.comp (.gen (.one 39) (.range [(.int 5)]) [] (.emit (.bin .BitAnd (.bin .RShift (.var 40) (.var 39)) (.int 1))))))))),
  (.set 53 (.comp (.gen (.one 14) (.ex (.var 49)) [] (.emit (.meth (.str (S [])) .join [(.comp (.gen (.two 61 57) (.zip (.str (S [97, 98, 99, 100, 101])) (.var 14)) [] (.emit (.ite (.var 57) (.meth (.var 61) .upper [] none) (.var 61)))))] none))))),
  (.fo (.one 62) (.range [(.int 3), (.int 6)]) [(.set 63 (.lst [(.call 13 [(.slc (.var 49) none (some (.var 62)))]), (.call 14 [(.slc (.var 53) none (some (.var 62)))]), (.call 15 [(.slc (.var 49) none (some (.var 62)))])])), (.cond (.cmp .GtE (.bi .max1 [(.comp (.gen (.one 45) (.ex (.var 63)) [] (.emit (.bi .len [(.var 45)]))))]) (.var 62)) [(.ret (.bool false))] []), (.cond (.cmp .NotEq (.var 63) (.rep [(.comp (.gen (.one 46) (.range [(.int 5)]) [(.cmp .NotEq (.comp (.gen (.one 40) (.ex (.slc (.var 59) none (some (.var 62)))) [(.cmp .In (.bin .BitXor (.var 40) (.bin .LShift (.int 1) (.var 46))) (.slc (.var 59) none (some (.var 62))))] (.emit (.int 1)))) (.lst []))] (.emit (.var 46))))] 3)) [(.ret (.bool false))] [])]),
  (.ret (.bool true))] }
noncomputable def fns : List (Nat × Fn) := [(16, f_law), (15, f__law_by_names), (14, f__law_by_words), (13, f__law_by_keys), (12, f_Headers_setdefault), (11, f_Headers_items), (10, f_Headers_keys), (9, f_Headers___delitem__), (8, f_Headers___getitem__), (7, f_Headers_get), (6, f_Headers___len__), (5, f_Headers___init__), (4, f_Headers__convert_string_type), (3, f_TupleComp_compare), (2, f_TupleComp___init__), (1, f__levenshtein_distance), (0, f__substitution_cost)]
noncomputable def fnNames : List (Nat × String) := [(0, "_substitution_cost"), (1, "_levenshtein_distance"), (2, "TupleComp.__init__"), (3, "TupleComp.compare"), (4, "Headers._convert_string_type"), (5, "Headers.__init__"), (6, "Headers.__len__"), (7, "Headers.get"), (8, "Headers.__getitem__"), (9, "Headers.__delitem__"), (10, "Headers.keys"), (11, "Headers.items"), (12, "Headers.setdefault"), (13, "_law_by_keys"), (14, "_law_by_words"), (15, "_law_by_names"), (16, "law")]
noncomputable def lawId : Nat := 16
noncomputable def info : Info := { N := N, G := [(12, .d (.int 40)), (7, .d (.int 2)), (6, .d (.int 1)), (33, .gl 85), (34, .gl 90), (31, .ty "str"), (37, .ty "list")], cls := [(47, { addr := 76, init := 2, meths := [(3, 2), (51, 3)], attrs := [24] }), (55, { addr := 213, init := 5, meths := [(41, 4), (3, 5), (0, 6), (43, 7), (1, 8), (2, 9), (64, 10), (65, 11), (58, 12)], attrs := [38] })], safe := [(85, codeName), (90, codeVal)], nLen := 0, nGet := 1, nDel := 2 }
noncomputable def tab : Tab := { I := info, fns := fns, fad := [(0, 45), (1, 52), (2, 66), (3, 73), (4, 112), (5, 105), (6, 119), (7, 160), (8, 138), (9, 131), (10, 165), (11, 177), (12, 203), (13, 222), (14, 227), (15, 232), (16, 237)], fnm := [(0, (S [95, 115, 117, 98, 115, 116, 105, 116, 117, 116, 105, 111, 110, 95, 99, 111, 115, 116])), (1, (S [95, 108, 101, 118, 101, 110, 115, 104, 116, 101, 105, 110, 95, 100, 105, 115, 116, 97, 110, 99, 101])), (13, (S [95, 108, 97, 119, 95, 98, 121, 95, 107, 101, 121, 115])), (14, (S [95, 108, 97, 119, 95, 98, 121, 95, 119, 111, 114, 100, 115])), (15, (S [95, 108, 97, 119, 95, 98, 121, 95, 110, 97, 109, 101, 115])), (16, (S [108, 97, 119]))], frm := [(0, [(2, 0)]), (1, [(3, 0)]), (2, [(2, 0)]), (3, [(3, 0)]), (4, [(2, 1)]), (5, [(1, 0)]), (6, [(1, 0)]), (7, [(2, 0)]), (8, [(2, 0)]), (9, [(2, 0)]), (10, []), (11, []), (12, [(3, 0)]), (13, [(1, 0)]), (14, [(1, 0)]), (15, [(1, 0)]), (16, [(1, 0)])], bl := ["len", "min", "max", "sorted", "type", "str", "list", "set", "zip", "range", "enumerate"] }
end L2
end
section
namespace Mine
open PySem PySem.W
theorem loopI_inv {β : Type} {step : Item → β → Hp → Option (Option Flo × β × Hp)} (P : Nat → β → Hp → Prop) : ∀ (xs : List Item) (k : Nat) (b : β) (σ : Hp), P k b σ →
    (∀ j i b σ, xs[j]? = some i → P (k + j) b σ → ∃ b' σ', step i b σ = some (none, b', σ') ∧ P (k + j + 1) b' σ') →
    ∃ b' σ', loopI step xs b σ = some (none, b', σ') ∧ P (k + xs.length) b' σ'
  | [], k, b, σ, h, _ => ⟨b, σ, rfl, h⟩
  | i :: r, k, b, σ, h, hs => by
    obtain ⟨b', σ', e, h'⟩ := hs 0 i b σ rfl h
    obtain ⟨b2, σ2, e2, h2⟩ := loopI_inv P r (k + 1) b' σ' h' fun j i b σ hj hp => by
      have := hs (j + 1) i b σ (by simpa using hj) (by rwa [show k + (j + 1) = k + 1 + j from by (first | lia | omega)])
      rwa [show k + (j + 1) + 1 = k + 1 + j + 1 from by (first | lia | omega)] at this
    refine ⟨b2, σ2, ?_, by rwa [show k + (i :: r).length = k + 1 + r.length from by simp; (first | lia | omega)]⟩
    rw [loopI_c, e]
    exact e2
theorem loopL_eq {β : Type} {step : Item → β → Hp → Option (Option Flo × β × Hp)} {l : Nat} {σ : Hp} {xs : List PV} (P : β → Prop) (hl : σ[l]? = some (.lst xs))
    (hs : ∀ p ∈ xs, ∀ b, P b → ∃ o b', step (.one p) b σ = some (o, b', σ) ∧ P b') : ∀ (f i : Nat) (b : β), P b → xs.length < f + i → i ≤ xs.length → loopL step l f i b σ = loopI step ((xs.drop i).map .one) b σ
  | 0, i, b, hb, h, hi => by (first | lia | omega)
  | f + 1, i, b, hb, h, hi => by
    rw [loopL_c]
    rw [lstAt_of hl]
    dsimp only [Option.bind_some]
    cases hx : xs[i]? with
    | none =>
      have : xs.length ≤ i := by simpa using hx
      rw [List.drop_of_length_le this]
      rfl
    | some p =>
      obtain ⟨hi, hp⟩ := List.getElem?_eq_some_iff.mp hx
      have e : xs.drop i = p :: xs.drop (i + 1) := by rw [List.drop_eq_getElem_cons hi, hp]
      rw [e]
      show onw (step (.one p) b σ) _ = onw (step (.one p) b σ) _
      obtain ⟨o, b', e1, h1⟩ := hs p (hp ▸ List.getElem_mem hi) b hb
      rw [e1]
      cases o with
      | none => exact loopL_eq P hl hs f (i + 1) b' h1 (by (first | lia | omega)) (by (first | lia | omega))
      | some _ => rfl
inductive SrcIs (σ : Hp) : Src → List Item → Prop
  | imm {xs} : SrcIs σ (.imm xs) xs
  | lo {l ys} : σ[l]? = some (.lst ys) → ys.length < 100 → SrcIs σ (.lo l) (ys.map .one)
theorem loopS_eq {β : Type} {step : Item → β → Hp → Option (Option Flo × β × Hp)} {s : Src} {σ : Hp} {xs : List Item} (P : β → Prop) (h : SrcIs σ s xs)
    (hs : ∀ i ∈ xs, ∀ b, P b → ∃ o b', step i b σ = some (o, b', σ) ∧ P b') (b : β) (hb : P b) : loopS step s b σ = loopI step xs b σ := by
  cases h with
  | imm => rfl
  | lo hl hn =>
    show loopL step _ 100 0 b σ = _
    rw [loopL_eq P hl (fun p hp b hb => hs _ (List.mem_map_of_mem hp) b hb) 100 0 b hb (by (first | lia | omega)) (by (first | lia | omega))]
    rfl
theorem loopS_fold {β : Type} {step : Item → β → Hp → Option (Option Flo × β × Hp)} {s : Src} {σ : Hp} {xs : List Item} (P : List Item → β → Prop) (h : SrcIs σ s xs)
    (hs : ∀ done i rest b, xs = done ++ i :: rest → P done b → ∃ b', step i b σ = some (none, b', σ) ∧ P (done ++ [i]) b') (b : β) (hb : P [] b) : ∃ b', loopS step s b σ = some (none, b', σ) ∧ P xs b' := by
  have key : ∀ (rest done : List Item) (b : β), xs = done ++ rest → P done b → ∃ b', loopI step rest b σ = some (none, b', σ) ∧ P xs b' := by
    intro rest
    induction rest with
    | nil => intro done b e h; exact ⟨b, rfl, by rw [e, List.append_nil]; exact h⟩
    | cons i r ih =>
      intro done b e h
      obtain ⟨b', e1, h1⟩ := hs done i r b e h
      obtain ⟨b2, e2, h2⟩ := ih (done ++ [i]) b' (by rw [e]; simp) h1
      refine ⟨b2, ?_, h2⟩
      rw [loopI_c, e1]
      exact e2
  cases h with
  | imm => exact key xs [] b rfl hb
  | lo hl hn =>
    rename_i l ys
    obtain ⟨b', e, h'⟩ := key _ [] b rfl hb
    refine ⟨b', ?_, h'⟩
    rw [← e]
    have gen : ∀ (f i : Nat) (b : β), ys.length < f + i → i ≤ ys.length → P ((ys.take i).map .one) b → loopL step l f i b σ = loopI step ((ys.drop i).map .one) b σ := by
      intro f
      induction f with
      | zero => intro i b h1 h2; (first | lia | omega)
      | succ f ih =>
        intro i b h1 h2 hp
        rw [loopL_c]
        rw [lstAt_of hl]
        dsimp only [Option.bind_some]
        cases hx : ys[i]? with
        | none =>
          have : ys.length ≤ i := by simpa using hx
          rw [List.drop_of_length_le this]
          rfl
        | some p =>
          obtain ⟨hi, hq⟩ := List.getElem?_eq_some_iff.mp hx
          have e : ys.drop i = p :: ys.drop (i + 1) := by rw [List.drop_eq_getElem_cons hi, hq]
          have e' : ys.take (i + 1) = ys.take i ++ [p] := by rw [List.take_succ_eq_append_getElem hi, hq]
          rw [e]
          show onw (step (.one p) b σ) _ = onw (step (.one p) b σ) _
          obtain ⟨b', e1, h1⟩ := hs ((ys.take i).map .one) (.one p) ((ys.drop (i + 1)).map .one) b (by rw [← List.map_cons, ← e, ← List.map_append, List.take_append_drop]) hp
          rw [e1]
          exact ih (i + 1) b' (by (first | lia | omega)) (by (first | lia | omega)) (by rw [e', List.map_append]; exact h1)
    exact gen 100 0 b (by (first | lia | omega)) (by (first | lia | omega)) hb
section
variable {I : Info} {O : Orc} {ρ₀ ρ : En} {σ σ₁ : Hp}
theorem emit1 {e : Ex} {p : PV} {acc : List PV} (h : fin (ev I O e ρ σ) = some (p, σ)) (hl : acc.length < 1000) : evC I O (.emit e) ρ₀ ρ acc σ = some (acc ++ [p], σ) := by
  show bd (fin (ev I O e ρ σ)) _ = _
  rw [h]
  exact gd_pos hl _
theorem gen_flat {t : Tgt} {it : It} {ifs : List Ex} {r : Cb} {s : Src} {xs : List Item} {acc : List PV} (f : Item → List PV) (hi : evIt I O it ρ₀ σ = some (s, σ₁)) (hsrc : SrcIs σ₁ s xs)
    (hs : ∀ i ∈ xs, ∃ ρ', bindT t i ρ = some ρ' ∧ ((evTs I O ifs ρ' σ₁ = some (true, σ₁) ∧ ∀ acc, acc.length + (f i).length ≤ 1000 → evC I O r ρ' ρ' acc σ₁ = some (acc ++ f i, σ₁)) ∨ (evTs I O ifs ρ' σ₁ = some (false, σ₁) ∧ f i = [])))
    (hl : acc.length + (xs.flatMap f).length ≤ 1000) : evC I O (.gen t it ifs r) ρ₀ ρ acc σ = some (acc ++ xs.flatMap f, σ₁) := by
  show bd (evIt I O it ρ₀ σ) _ = _
  rw [hi]
  obtain ⟨b, e, hb⟩ := loopS_fold (β := List PV) (σ := σ₁) (fun done b => b = acc ++ done.flatMap f) hsrc (step := stepB t ρ fun ρ' acc σ => bd (evTs I O ifs ρ' σ) fun c σ' => cond c (evC I O r ρ' ρ' acc σ') (some (acc, σ'))) (fun done i rest b e hb => by
      obtain ⟨ρ', h1, h2⟩ := hs i (by rw [e]; simp)
      unfold stepB
      rw [h1]
      rcases h2 with ⟨h2, h3⟩ | ⟨h2, h3⟩
      · refine ⟨b ++ f i, ?_, by rw [hb]; simp⟩
        have := h3 b (by
          rw [hb]
          rw [e] at hl
          simp only [List.flatMap_append, List.flatMap_cons, List.length_append] at hl ⊢
          (first | lia | omega))
        show bd (bd (evTs I O ifs ρ' σ₁) _) _ = _
        rw [h2]
        show bd (evC I O r ρ' ρ' b σ₁) _ = _
        rw [this]
        rfl
      · refine ⟨b, ?_, by rw [hb]; simp [h3]⟩
        show bd (bd (evTs I O ifs ρ' σ₁) _) _ = _
        rw [h2]
        rfl) acc (by simp)
  exact (congrArg (fun o => left o fun (acc' : List PV) (σ₂ : Hp) => some (acc', σ₂)) e).trans (by rw [hb]; rfl)
theorem comp_map {t : Tgt} {it : It} {e : Ex} {s : Src} {xs : List Item} {acc : List PV} (g : Item → PV) (hi : evIt I O it ρ₀ σ = some (s, σ₁)) (hsrc : SrcIs σ₁ s xs)
    (hs : ∀ i ∈ xs, ∃ ρ', bindT t i ρ = some ρ' ∧ fin (ev I O e ρ' σ₁) = some (g i, σ₁)) (hl : acc.length + xs.length ≤ 1000) : evC I O (.gen t it [] (.emit e)) ρ₀ ρ acc σ = some (acc ++ xs.map g, σ₁) := by
  have e0 : xs.flatMap (fun i => [g i]) = xs.map g := by clear hs hsrc hi hl; induction xs <;> simp_all
  rw [← e0]
  refine gen_flat (fun i => [g i]) hi hsrc (fun i hx => ?_) (by rw [e0]; simpa using hl)
  obtain ⟨ρ', h1, h2⟩ := hs i hx
  exact ⟨ρ', h1, .inl ⟨rfl, fun acc ha => emit1 h2 (by simp at ha; (first | lia | omega))⟩⟩
end
end Mine
end
section
namespace Mine
open PySem PySem.W
section
variable {I : Info} {O : Orc} {ρ₀ ρ : En} {σ σ₁ : Hp}
noncomputable def floP : Option PV → Flo
  | some p => .ret p
  | none => .next
noncomputable def floLoop : Option PV → Option Flo
  | some p => some (.ret p)
  | none => none
theorem loopI_find {β : Type} {step : Item → β → Hp → Option (Option Flo × β × Hp)} {σ : Hp} (P : β → Prop) (f : Item → Option PV) : ∀ {xs : List Item} {b : β}, P b →
    (∀ i ∈ xs, ∀ b, P b → ∃ b', step i b σ = some (floLoop (f i), b', σ) ∧ P b') → ∃ b', loopI step xs b σ = some (floLoop (xs.findSome? f), b', σ) ∧ P b'
  | [], b, hb, _ => ⟨b, rfl, hb⟩
  | i :: r, b, hb, hs => by
    obtain ⟨b', h1, h2⟩ := hs i (by simp) b hb
    rw [loopI_c, h1, List.findSome?_cons]
    cases hf : f i with
    | none => exact loopI_find P f h2 fun i hx => hs i (by simp [hx])
    | some p => exact ⟨b', rfl, h2⟩
theorem for_find {t : Tgt} {it : It} {body : List St'} {s : Src} {xs : List Item} (P : En → Prop) (f : Item → Option PV) (hi : evIt I O it ρ σ = some (s, σ₁)) (hsrc : SrcIs σ₁ s xs) (h0 : P ρ)
    (hs : ∀ i ∈ xs, ∀ ρ, P ρ → ∃ ρ₁, bindT t i ρ = some ρ₁ ∧ ∃ ρ₂, exSs I O body ρ₁ σ₁ = some (floP (f i), ρ₂, σ₁) ∧ P ρ₂) :
    ∃ ρ', exS I O (.fo t it body) ρ σ = some (floP (xs.findSome? f), ρ', σ₁) ∧ P ρ' := by
  have step : ∀ i ∈ xs, ∀ ρ, P ρ → ∃ ρ₂, stepF t (fun ρ σ => exSs I O body ρ σ) i ρ σ₁ = some (floLoop (f i), ρ₂, σ₁) ∧ P ρ₂ := fun i hx ρ hp => by
    obtain ⟨ρ₁, h1, ρ₂, h2, h3⟩ := hs i hx ρ hp
    refine ⟨ρ₂, ?_, h3⟩
    unfold stepF
    rw [h1]
    show bd (exSs I O body ρ₁ σ₁) _ = _
    rw [h2]
    cases f i <;> rfl
  obtain ⟨b, e, hb⟩ := loopI_find (step := stepF t fun ρ σ => exSs I O body ρ σ) P f h0 step
  rw [← loopS_eq P hsrc (fun i hx b hb => by
    obtain ⟨ρ₂, h1, h2⟩ := step i hx b hb
    exact ⟨_, ρ₂, h1, h2⟩) ρ h0] at e
  refine ⟨b, ?_, hb⟩
  show bd (evIt I O it ρ σ) _ = _
  rw [hi]
  exact (congrArg ofFlo e).trans (by cases xs.findSome? f <;> rfl)
theorem for_inv {t : Tgt} {it : It} {body : List St'} {xs : List Item} (P : Nat → En → Hp → Prop) (hi : evIt I O it ρ σ = some (.imm xs, σ₁)) (h0 : P 0 ρ σ₁)
    (hs : ∀ j i ρ σ, xs[j]? = some i → P j ρ σ → ∃ ρ₁, bindT t i ρ = some ρ₁ ∧ ∃ ρ₂ σ₂, exSs I O body ρ₁ σ = some (.next, ρ₂, σ₂) ∧ P (j + 1) ρ₂ σ₂) :
    ∃ ρ' σ', exS I O (.fo t it body) ρ σ = some (.next, ρ', σ') ∧ P xs.length ρ' σ' := by
  obtain ⟨b, σ', e, hb⟩ := loopI_inv (step := stepF t fun ρ σ => exSs I O body ρ σ) (fun k ρ σ => P k ρ σ) xs 0 ρ σ₁ h0 fun j i ρ σ hj hp => by
    rw [Nat.zero_add] at hp
    obtain ⟨ρ₁, h1, ρ₂, σ₂, h2, h3⟩ := hs j i ρ σ hj hp
    refine ⟨ρ₂, σ₂, ?_, by rwa [Nat.zero_add]⟩
    unfold stepF
    rw [h1]
    show bd (exSs I O body ρ₁ σ) _ = _
    rw [h2]
    rfl
  rw [Nat.zero_add] at hb
  refine ⟨b, σ', ?_, hb⟩
  show bd (evIt I O it ρ σ) _ = _
  rw [hi]
  exact congrArg ofFlo e
theorem whil_inv {c : Ex} {body : List St'} (P : Nat → En → Hp → Prop) (Q : En → Hp → Prop)
    (hs : ∀ n ρ σ, P n ρ σ → (∃ σ₁, test I O c ρ σ = some (false, σ₁) ∧ Q ρ σ₁) ∨ ∃ σ₁ ρ₂ σ₂ m, test I O c ρ σ = some (true, σ₁) ∧ exSs I O body ρ σ₁ = some (.next, ρ₂, σ₂) ∧ m < n ∧ P m ρ₂ σ₂)
    (n : Nat) (hn : n < 200) (h0 : P n ρ σ) : ∃ ρ' σ', exS I O (.whil c body) ρ σ = some (.next, ρ', σ') ∧ Q ρ' σ' := by
  have key : ∀ (f n : Nat) (ρ : En) (σ : Hp), P n ρ σ → n < f → ∃ ρ' σ', loopW (fun ρ σ => test I O c ρ σ) (fun ρ σ => exSs I O body ρ σ) f ρ σ = some (.next, ρ', σ') ∧ Q ρ' σ' := by
    intro f
    induction f with
    | zero => intro n ρ σ _ h; (first | lia | omega)
    | succ f ih =>
      intro n ρ σ hp h
      rw [loopW_c]
      rcases hs n ρ σ hp with ⟨σ₁, h1, h2⟩ | ⟨σ₁, ρ₂, σ₂, m, h1, h2, h3, h4⟩
      · exact ⟨ρ, σ₁, by rw [h1]; rfl, h2⟩
      · obtain ⟨ρ', σ', e, hq⟩ := ih m ρ₂ σ₂ h4 (by (first | lia | omega))
        refine ⟨ρ', σ', ?_, hq⟩
        rw [h1]
        show bd (exSs I O body ρ σ₁) _ = _
        rw [h2]
        exact e
  exact key 200 n ρ σ h0 hn
theorem seq_next {s : St'} {r : List St'} {ρ₁ : En} (h : exS I O s ρ σ = some (.next, ρ₁, σ₁)) : exSs I O (s :: r) ρ σ = exSs I O r ρ₁ σ₁ := by
  show bd (exS I O s ρ σ) _ = _
  rw [h]
  rfl
end
end Mine
end
section
namespace Mine
open PySem
section
variable {I : Info} {O : Orc} {ρ ρ₁ ρ' : En} {σ σ₁ σ' : Hp} {s : St'} {r : List St'} {R : PV → Hp → Prop} {p : PV}
noncomputable def Tells (I : Info) (O : Orc) (body : List St') (ρ : En) (σ : Hp) (R : PV → Hp → Prop) : Prop := ∃ p ρ' σ', exSs I O body ρ σ = some (.ret p, ρ', σ') ∧ R p σ'
theorem tell_next (h : exS I O s ρ σ = some (.next, ρ₁, σ₁)) (k : Tells I O r ρ₁ σ₁ R) : Tells I O (s :: r) ρ σ R := by
  obtain ⟨p, ρ', σ', e, q⟩ := k
  exact ⟨p, ρ', σ', (seq_next h).trans e, q⟩
theorem tell_ex {Q : En → Hp → Prop} (h : ∃ ρ' σ', exS I O s ρ σ = some (.next, ρ', σ') ∧ Q ρ' σ') (k : ∀ ρ' σ', Q ρ' σ' → Tells I O r ρ' σ' R) : Tells I O (s :: r) ρ σ R := by
  obtain ⟨ρ', σ', e, q⟩ := h
  exact tell_next e (k _ _ q)
theorem seq_ret (h : exS I O s ρ σ = some (.ret p, ρ', σ')) : exSs I O (s :: r) ρ σ = some (.ret p, ρ', σ') := by
  show bd (exS I O s ρ σ) _ = _
  rw [h]
  rfl
theorem tell_ret (h : exS I O s ρ σ = some (.ret p, ρ', σ')) (k : R p σ') : Tells I O (s :: r) ρ σ R := ⟨p, ρ', σ', seq_ret h, k⟩
theorem run_of {f : Fn} {as : List PV} (hb : bindArgs' f.params f.dflts as = some ρ) (h : exSs I O f.body ρ σ = some (.ret p, ρ', σ')) : runFn I O f as σ = some (p, σ') := by
  unfold runFn
  rw [hb]
  show bd (exSs I O f.body ρ σ) _ = _
  rw [h]
  rfl
theorem run_end {f : Fn} {as : List PV} (hb : bindArgs' f.params f.dflts as = some ρ) (h : exSs I O f.body ρ σ = some (.next, ρ', σ')) : runFn I O f as σ = some (.d .none, σ') := by
  unfold runFn
  rw [hb]
  show bd (exSs I O f.body ρ σ) _ = _
  rw [h]
  rfl
theorem tells_fn {f : Fn} {as : List PV} (hb : bindArgs' f.params f.dflts as = some ρ) (h : Tells I O f.body ρ σ R) : ∃ p σ', runFn I O f as σ = some (p, σ') ∧ R p σ' := by
  obtain ⟨p, ρ', σ', e, q⟩ := h
  exact ⟨p, σ', run_of hb e, q⟩
noncomputable def Goes (I : Info) (O : Orc) (body : List St') (ρ : En) (σ : Hp) (Q : En → Hp → Prop) : Prop := ∃ ρ' σ', exSs I O body ρ σ = some (.next, ρ', σ') ∧ Q ρ' σ'
theorem goes_next {Q : En → Hp → Prop} (h : exS I O s ρ σ = some (.next, ρ₁, σ₁)) (k : Goes I O r ρ₁ σ₁ Q) : Goes I O (s :: r) ρ σ Q := by
  obtain ⟨ρ', σ', e, q⟩ := k
  exact ⟨ρ', σ', (seq_next h).trans e, q⟩
theorem goes_ex {Q Q' : En → Hp → Prop} (h : ∃ ρ' σ', exS I O s ρ σ = some (.next, ρ', σ') ∧ Q' ρ' σ') (k : ∀ ρ' σ', Q' ρ' σ' → Goes I O r ρ' σ' Q) : Goes I O (s :: r) ρ σ Q := by
  obtain ⟨ρ', σ', e, q⟩ := h
  exact goes_next e (k _ _ q)
theorem goes_nil {Q : En → Hp → Prop} (h : Q ρ σ) : Goes I O [] ρ σ Q := ⟨ρ, σ, rfl, h⟩
theorem whil_goes {c : Ex} {body : List St'} (P : Nat → En → Hp → Prop) (Q : En → Hp → Prop)
    (hs : ∀ n ρ σ, P n ρ σ → (test I O c ρ σ = some (false, σ) ∧ Q ρ σ) ∨ (test I O c ρ σ = some (true, σ) ∧ Goes I O body ρ σ fun ρ' σ' => ∃ m, m < n ∧ P m ρ' σ'))
    (n : Nat) (hn : n < 200) (h0 : P n ρ σ) : ∃ ρ' σ', exS I O (.whil c body) ρ σ = some (.next, ρ', σ') ∧ Q ρ' σ' := by
  refine whil_inv P Q (fun n ρ σ hp => ?_) n hn h0
  rcases hs n ρ σ hp with ⟨h1, h2⟩ | ⟨h1, ρ₂, σ₂, h2, m, h3, h4⟩
  · exact .inl ⟨σ, h1, h2⟩
  · exact .inr ⟨σ, ρ₂, σ₂, m, h1, h2, h3, h4⟩
theorem for_goes {t : Tgt} {it : It} {body : List St'} {xs : List Item} (P : Nat → En → Hp → Prop) (hi : evIt I O it ρ σ = some (.imm xs, σ₁)) (h0 : P 0 ρ σ₁)
    (hs : ∀ j i ρ σ, xs[j]? = some i → P j ρ σ → ∃ ρ₁, bindT t i ρ = some ρ₁ ∧ Goes I O body ρ₁ σ (P (j + 1))) :
    ∃ ρ' σ', exS I O (.fo t it body) ρ σ = some (.next, ρ', σ') ∧ P xs.length ρ' σ' := for_inv P hi h0 hs
theorem for_tells {t : Tgt} {it : It} {body : List St'} {xs : List Item} (P : Nat → En → Hp → Prop) (hi : evIt I O it ρ σ = some (.imm xs, σ₁)) (h0 : P 0 ρ σ₁)
    (hs : ∀ j i ρ σ, xs[j]? = some i → P j ρ σ → ∃ ρ₁, bindT t i ρ = some ρ₁ ∧ (Goes I O body ρ₁ σ (P (j + 1)) ∨ Tells I O body ρ₁ σ R)) (hk : ∀ ρ σ, P xs.length ρ σ → Tells I O r ρ σ R) : Tells I O (.fo t it body :: r) ρ σ R := by
  have key : ∀ (ys : List Item) (k : Nat) (ρ : En) (σ : Hp), (∀ j, ys[j]? = xs[k + j]?) → k + ys.length = xs.length → P k ρ σ →
      (∃ ρ' σ', loopI (stepF t fun ρ σ => exSs I O body ρ σ) ys ρ σ = some (none, ρ', σ') ∧ P xs.length ρ' σ') ∨ ∃ p ρ' σ', loopI (stepF t fun ρ σ => exSs I O body ρ σ) ys ρ σ = some (some (.ret p), ρ', σ') ∧ R p σ' := by
    intro ys
    induction ys with
    | nil =>
      intro k ρ σ _ hl hp
      have hl : k = xs.length := by simpa using hl
      exact .inl ⟨ρ, σ, rfl, hl ▸ hp⟩
    | cons i ys ih =>
      intro k ρ σ hj hl hp
      obtain ⟨ρ₁, h1, h2⟩ := hs k i ρ σ (by rw [← Nat.add_zero k, ← hj 0]; rfl) hp
      have st : ∀ fl ρ₂ σ₂, exSs I O body ρ₁ σ = some (fl, ρ₂, σ₂) → stepF t (fun ρ σ => exSs I O body ρ σ) i ρ σ = some (outF fl, ρ₂, σ₂) := fun fl ρ₂ σ₂ e => by
        unfold stepF
        rw [h1]
        show bd (exSs I O body ρ₁ σ) _ = _
        rw [e]
        rfl
      rw [loopI_c]
      rcases h2 with ⟨ρ₂, σ₂, h2, h3⟩ | ⟨p, ρ₂, σ₂, h2, h3⟩
      · rw [st _ _ _ h2]
        exact ih (k + 1) ρ₂ σ₂ (fun j => by rw [Nat.add_assoc, Nat.add_comm 1 j, ← hj (j + 1)]; rfl) (by simp at hl; (first | lia | omega)) h3
      · rw [st _ _ _ h2]
        exact .inr ⟨p, ρ₂, σ₂, rfl, h3⟩
  have ex : exS I O (.fo t it body) ρ σ = ofFlo (loopI (stepF t fun ρ σ => exSs I O body ρ σ) xs ρ σ₁) := by
    show bd (evIt I O it ρ σ) _ = _
    rw [hi]
    rfl
  rcases key xs 0 ρ σ₁ (fun j => by rw [Nat.zero_add]) (Nat.zero_add _) h0 with ⟨ρ', σ', e, h⟩ | ⟨p, ρ', σ', e, h⟩
  · exact tell_next (ex.trans (congrArg ofFlo e)) (hk _ _ h)
  · exact tell_ret (ex.trans (congrArg ofFlo e)) h
end
theorem cut_from {α : Type} (l : List α) (k : Nat) : cut l (some (k : Int)) none = l.drop k := by
  unfold cut clampI
  have h : (0 : Int) ≤ k := Int.natCast_nonneg k
  simp only [h, if_true, Int.toNat_natCast]
  by_cases c : k ≤ l.length
  · rw [Nat.min_eq_left c, List.take_of_length_le (by simp)]
  · rw [Nat.min_eq_right (by (first | lia | omega)), List.drop_length, List.drop_of_length_le (by (first | lia | omega))]; simp
theorem cut_to {α : Type} (l : List α) (k : Nat) (h0 : 0 < k) (hk : k ≤ l.length) : cut l none (some (-(k : Int))) = l.take (l.length - k) := by
  unfold cut clampI
  have h : ¬ (0 : Int) ≤ -k := by (first | lia | omega)
  simp only [h, if_false, List.drop_zero, Nat.sub_zero]
  congr 1
  (first | lia | omega)
theorem cut_all {α : Type} (l : List α) : cut l none none = l := by simp [cut, List.take_of_length_le]
theorem nth_at {α : Type} (l : List α) (k : Nat) (h : k < 1000) : nth l (k : Int) = l[k]? := by
  unfold nth nthI
  rw [gd_pos (by (first | lia | omega)), gd_pos (by (first | lia | omega)), Int.toNat_natCast]
  rfl
theorem nth_back {α : Type} (l : List α) (k : Nat) (h : k < 900) (hk : k < l.length) : nth l (-(k : Int) - 1) = l.reverse[k]? := by
  unfold nth nthI
  have h1 : gd (0 ≤ -(k : Int) - 1) (some (-(k : Int) - 1).toNat) = none := if_neg (by (first | lia | omega))
  rw [gd_pos (by (first | lia | omega)), h1, List.getElem?_reverse hk]
  show (gd _ _).bind _ = _
  rw [gd_pos (by (first | lia | omega))]
  show l[_]? = _
  congr 1
  (first | lia | omega)
noncomputable def preN : List Nat → List Nat → Nat
  | a :: r, b :: t => if a = b then preN r t + 1 else 0
  | _, _ => 0
theorem preN_c {a b : Nat} {r t : List Nat} : preN (a :: r) (b :: t) = if a = b then preN r t + 1 else 0 := rfl
noncomputable def subC (c d : Nat) : Int := if c = d then 0 else if loC c = loC d then 1 else 2
structure Dp where
  dist : Int
  res : Int
  row : List Int
  mn : Int
noncomputable def cellD (bc : Nat) (d : Dp) (x : Nat × Nat) : Dp :=
  let su := d.dist + subC bc x.1
  let di := d.row.getD x.2 0
  let ins := (if di < d.res then di else d.res) + 2
  let re := if su < ins then su else ins
  ⟨di, re, d.row.set x.2 re, if re < d.mn then re else d.mn⟩
noncomputable def rowD (la : List Nat) (row : List Int) (i : Nat) (bc : Nat) : Dp := la.zipIdx.foldl (cellD bc) ⟨i * 2, i * 2, row, 9223372036854775807⟩
noncomputable def rowsD (la : List Nat) (mc : Int) : List Nat → Nat → List Int → Int → Int
  | [], _, _, res => res
  | bc :: r, i, row, _ => let d := rowD la row i bc
    if mc < d.mn then mc + 1 else rowsD la mc r (i + 1) d.row d.res
theorem rowsD_c {la : List Nat} {mc : Int} {bc : Nat} {r : List Nat} {i : Nat} {row : List Int} {x : Int} : rowsD la mc (bc :: r) i row x = if mc < (rowD la row i bc).mn then mc + 1 else rowsD la mc r (i + 1) (rowD la row i bc).row (rowD la row i bc).res := rfl
theorem rowsD_z {la : List Nat} {mc : Int} {i : Nat} {row : List Int} {x : Int} : rowsD la mc [] i row x = x := rfl
noncomputable def firstRow (n : Nat) : List Int := (List.range n).map fun (j : Nat) => (2 : Int) + j * 2
noncomputable def coreF (la lb : List Nat) (mc : Int) : Int := if la = [] then 0 else rowsD la mc lb 0 (firstRow la.length) 0
noncomputable def levF (la lb : List Nat) (mc : Int) : Int :=
  if la = lb then 0 else
  let p := preN la lb
  let a := la.drop p
  let b := lb.drop p
  let q := preN a.reverse b.reverse
  coreF (a.take (a.length - q)) (b.take (b.length - q)) mc
theorem preN_le : ∀ (a b : List Nat), preN a b ≤ a.length
  | [], _ => Nat.le_refl 0
  | _ :: _, [] => Nat.zero_le _
  | a :: r, b :: t => by
    rw [preN_c]
    split
    · have := preN_le r t; simp; (first | lia | omega)
    · simp
theorem rangeL_at : ∀ (n : Nat) (a : Int) (j : Nat), (rangeL a n)[j]? = if j < n then some (.d (.int (a + j))) else none
  | 0, a, j => by simp [rangeL_z]
  | n + 1, a, 0 => by simp [rangeL_c]
  | n + 1, a, j + 1 => by
    rw [rangeL_c, List.getElem?_cons_succ, rangeL_at n (a + 1) j]
    by_cases h : j < n
    · rw [if_pos h, if_pos (by (first | lia | omega))]
      congr 3
      (first | lia | omega)
    · rw [if_neg h, if_neg (by (first | lia | omega))]
theorem rangeL_length : ∀ (n : Nat) (a : Int), (rangeL a n).length = n
  | 0, _ => rfl
  | n + 1, a => by rw [rangeL_c, List.length_cons, rangeL_length n]
noncomputable def intsP (l : List Int) : List PV := l.map fun i => .d (.int i)
theorem rangeS_row (n : Nat) : rangeS 2 2 n = intsP (firstRow n) := by
  apply List.ext_getElem?
  intro j
  have h1 := rangeS_len n 2 2
  by_cases h : j < n
  · rw [rangeS_get n 2 2 j h]
    simp [intsP, firstRow, h]
  · rw [List.getElem?_eq_none (by (first | lia | omega)), List.getElem?_eq_none (by simp [intsP, firstRow]; (first | lia | omega))]
theorem cellD_len (bc : Nat) (d : Dp) (x : Nat × Nat) : (cellD bc d x).row.length = d.row.length := by simp [cellD]
end Mine
end
section
namespace Mine
open PySem
section
variable {I : Info} {O : Orc} {ρ ρ₁ ρ' : En} {σ σ₁ σ₂ σ₃ σ' : Hp} {a b c e i : Ex} {p q : PV} {ps qs : List PV}
theorem bd_eq {α β γ : Type} {o : Option (α × β)} {f : α → β → Option γ} {a : α} {b : β} {r : Option γ} (h : o = some (a, b)) (k : f a b = r) : bd o f = r := by rw [h]; exact k
theorem bn_eq {α β : Type} {o : Option α} {f : α → Option β} {a : α} {r : Option β} (h : o = some a) (k : f a = r) : o.bind f = r := by rw [h]; exact k
theorem mp_eq {α β : Type} {o : Option α} {f : α → β} {a : α} {r : β} (h : o = some a) (k : f a = r) : o.map f = some r := by rw [h, ← k]; rfl
theorem gd_eq {α : Type} {c : Prop} [Decidable c] {o r : Option α} (h : c) (k : o = r) : gd c o = r := (gd_pos h o).trans k
theorem or_l {α : Type} {a b : Option α} {x : α} (h : a = some x) : orE a b = some x := by rw [h]; rfl
theorem or_r {α : Type} {a b r : Option α} (h : a = none) (k : b = r) : orE a b = r := by rw [h]; exact k
theorem keep_eq {o : Option PV} {p : PV} (h : o = some p) : keepR σ o = some (.val p, σ) := by rw [h]; rfl
theorem valR_eq {o : Option (PV × Hp)} {p : PV} (h : o = some (p, σ)) : valR o = some (.val p, σ) := by rw [h]; rfl
noncomputable def EV (I : Info) (O : Orc) (e : Ex) (ρ : En) (σ : Hp) (p : PV) (σ' : Hp) : Prop := fin (ev I O e ρ σ) = some (p, σ')
theorem EV.of_val (h : ev I O e ρ σ = some (.val p, σ')) : EV I O e ρ σ p σ' := by unfold EV; rw [h]; rfl
theorem fin_ds {xs : List PV} {ds : List PyData} (hd : dats xs = some ds) : finalize σ (.fresh xs) = (.d (.list ds), σ) := by unfold finalize; dsimp only; rw [hd]
theorem EV.of_fresh {xs : List PV} {ds : List PyData} (h : ev I O e ρ σ = some (.fresh xs, σ')) (hd : dats xs = some ds) : EV I O e ρ σ (.d (.list ds)) σ' := by unfold EV; rw [h]; exact congrArg some (fin_ds hd)
theorem EV.var {x : Nat} (h : getV x ρ = some p) : EV I O (.var x) ρ σ p σ := .of_val (keep_eq h)
theorem EV.gl {x : Nat} (h : lk x I.G = some p) : EV I O (.gl x) ρ σ p σ := .of_val (keep_eq h)
theorem EV.int {k : Int} : EV I O (.int k) ρ σ (.d (.int k)) σ := rfl
theorem EV.str {s : Str} : EV I O (.str s) ρ σ (.d (.str s)) σ := rfl
theorem EV.cmp {op : CmpOp} {r : Bool} (h1 : EV I O a ρ σ p σ₁) (h2 : EV I O b ρ σ₁ q σ₂) (h3 : cmpop σ₂ op p q = some r) : EV I O (.cmp op a b) ρ σ (.d (.bool r)) σ₂ := .of_val (bd_eq h1 (bd_eq h2 (keep_eq (mp_eq h3 rfl))))
theorem ev_bin {op : Operator} {r : Res} (h1 : EV I O a ρ σ p σ₁) (h2 : EV I O b ρ σ₁ q σ₂) (h3 : binop op p q = some r) : ev I O (.bin op a b) ρ σ = some (r, σ₂) := bd_eq h1 (bd_eq h2 (mp_eq h3 rfl))
theorem EV.bin {op : Operator} {i j k : Int} (h1 : EV I O a ρ σ (.d (.int i)) σ₁) (h2 : EV I O b ρ σ₁ (.d (.int j)) σ₂) (h3 : arith op i j = some k) : EV I O (.bin op a b) ρ σ (.d (.int k)) σ₂ :=
  .of_val (ev_bin h1 h2 (or_l (mp_eq h3 rfl)))
theorem EV.or1 (h1 : EV I O a ρ σ p σ₁) (h2 : truth σ₁ p = some true) : EV I O (.or a b) ρ σ p σ₁ := .of_val (bd_eq h1 (bn_eq h2 rfl))
theorem EV.or2 (h1 : EV I O a ρ σ p σ₁) (h2 : truth σ₁ p = some false) (h3 : EV I O b ρ σ₁ q σ₂) : EV I O (.or a b) ρ σ q σ₂ := .of_val (bd_eq h1 (bn_eq h2 (valR_eq h3)))
theorem EV.and1 (h1 : EV I O a ρ σ p σ₁) (h2 : truth σ₁ p = some false) : EV I O (.and a b) ρ σ p σ₁ := .of_val (bd_eq h1 (bn_eq h2 rfl))
theorem EV.and2 (h1 : EV I O a ρ σ p σ₁) (h2 : truth σ₁ p = some true) (h3 : EV I O b ρ σ₁ q σ₂) : EV I O (.and a b) ρ σ q σ₂ := .of_val (bd_eq h1 (bn_eq h2 (valR_eq h3)))
theorem EV.and3 (h : EV I O (.and a (.and b c)) ρ σ p σ') : EV I O (.and3 a b c) ρ σ p σ' := h
theorem EV.not {r : Bool} (h1 : EV I O a ρ σ p σ₁) (h2 : truth σ₁ p = some r) : EV I O (.not a) ρ σ (.d (.bool (!r))) σ₁ := .of_val (bd_eq h1 (keep_eq (mp_eq h2 rfl)))
theorem EV.ite {r : Bool} (h1 : EV I O c ρ σ p σ₁) (h2 : truth σ₁ p = some r) (h3 : EV I O (if r then a else b) ρ σ₁ q σ₂) : EV I O (.ite c a b) ρ σ q σ₂ := .of_val (bd_eq h1 (bn_eq h2 (by
  cases r
  · exact valR_eq h3
  · exact valR_eq h3)))
theorem EV.idx {r : PV} (h1 : EV I O a ρ σ p σ₁) (h2 : EV I O i ρ σ₁ q σ₂) (h3 : index I O p q σ₂ = some (r, σ₃)) : EV I O (.idx a i) ρ σ r σ₃ := .of_val (bd_eq h1 (bd_eq h2 (valR_eq h3)))
theorem EV.usub {k : Int} (h1 : EV I O a ρ σ (.d (.int k)) σ₁) : EV I O (.usub a) ρ σ (.d (.int (-k))) σ₁ := .of_val (bd_eq h1 rfl)
noncomputable def EVs (I : Info) (O : Orc) (es : List Ex) (ρ : En) (σ : Hp) (ps : List PV) (σ' : Hp) : Prop := evs I O es ρ σ = some (ps, σ')
theorem EVs.nil : EVs I O [] ρ σ [] σ := rfl
theorem EVs.cons {es : List Ex} (h1 : EV I O e ρ σ p σ₁) (h2 : EVs I O es ρ σ₁ ps σ₂) : EVs I O (e :: es) ρ σ (p :: ps) σ₂ := bd_eq h1 (bd_eq h2 rfl)
theorem EVs.one (h1 : EV I O e ρ σ p σ₁) : EVs I O [e] ρ σ [p] σ₁ := .cons h1 .nil
theorem EVs.two {e' : Ex} (h1 : EV I O e ρ σ p σ₁) (h2 : EV I O e' ρ σ₁ q σ₂) : EVs I O [e, e'] ρ σ [p, q] σ₂ := .cons h1 (.one h2)
theorem EVs.three {e' e'' : Ex} {r : PV} (h1 : EV I O e ρ σ p σ₁) (h2 : EV I O e' ρ σ₁ q σ₂) (h3 : EV I O e'' ρ σ₂ r σ₃) : EVs I O [e, e', e''] ρ σ [p, q, r] σ₃ := .cons h1 (.two h2 h3)
theorem EV.tup {es : List Ex} {ds : List PyData} (h : EVs I O es ρ σ ps σ₁) (hl : ps.length < 1000) (hd : dats ps = some ds) : EV I O (.tup es) ρ σ (.d (.tuple ds)) σ₁ := .of_val (bd_eq h (gd_eq hl (by unfold mkTup; rw [hd])))
theorem EV.lst {es : List Ex} {ds : List PyData} (h : EVs I O es ρ σ ps σ₁) (hl : ps.length < 1000) (hd : dats ps = some ds) : EV I O (.lst es) ρ σ (.d (.list ds)) σ₁ := .of_fresh (bd_eq h (gd_eq hl rfl)) hd
theorem EV.call {f : Nat} {es : List Ex} (h1 : EVs I O es ρ σ ps σ₁) (h2 : O f ps σ₁ = some (p, σ₂)) : EV I O (.call f es) ρ σ p σ₂ := .of_val (bd_eq h1 (valR_eq h2))
theorem EV.own {x f : Nat} {es : List Ex} {l : Nat} (h1 : EV I O a ρ σ (.loc l) σ₁) (h2 : EVs I O es ρ σ₁ ps σ₂) (h3 : methOf I σ₁ l x = some f) (h4 : O f (.loc l :: ps) σ₂ = some (p, σ₃)) : EV I O (.meth a (.own x) es none) ρ σ p σ₃ :=
  .of_val (bd_eq h1 (bd_eq h2 (bd_eq rfl (bn_eq h3 (valR_eq (by rw [List.append_nil]; exact h4))))))
theorem EV.mt {m : Mt} {es : List Ex} (h1 : EV I O a ρ σ p σ₁) (h2 : EVs I O es ρ σ₁ ps σ₂) (hm : ∀ x, m ≠ .own x) (h3 : rcv σ₁ p = true) (h4 : callMt I m p ps σ₂ = some (.val q, σ₃)) : EV I O (.meth a m es none) ρ σ q σ₃ :=
  .of_val (bd_eq h1 (bd_eq h2 (bd_eq rfl (by
    cases m with
    | own x => exact absurd rfl (hm x)
    | _ => exact gd_eq (by rw [h3]; rfl) h4))))
theorem ev_bi {f : Bi} {es : List Ex} {r : Res} (h1 : EVs I O es ρ σ ps σ₁) (hf : isLen f = false) (h2 : callBi f ps σ₁ = some r) : ev I O (.bi f es) ρ σ = some (r, σ₁) := bd_eq h1 (or_r (if_neg (by rw [hf]; exact Bool.false_ne_true)) (mp_eq h2 rfl))
theorem EV.lenD {k : Int} {x : PyData} (h1 : EV I O a ρ σ (.d x) σ₁) (h2 : callBi .len [.d x] σ₁ = some (.val (.d (.int k)))) : EV I O (.bi .len [a]) ρ σ (.d (.int k)) σ₁ := .of_val (bd_eq (EVs.one h1) (or_r rfl (mp_eq h2 rfl)))
theorem EV.mut {xs : List PV} (h : ev I O e ρ σ = some (.fresh xs, σ₁)) : EV I O (.mut e) ρ σ (.loc σ₁.length) (σ₁ ++ [.lst xs]) := .of_val (bd_eq h rfl)
theorem EV.attr {x : Nat} (h1 : EV I O a ρ σ p σ₁) (h2 : getA I σ₁ p x = some q) : EV I O (.attr a x) ρ σ q σ₁ := .of_val (bd_eq h1 (keep_eq h2))
theorem ev_comp {c : Cb} {xs : List PV} (h : evC I O c ρ (hide (cbNames c) ρ) [] σ = some (xs, σ₁)) : ev I O (.comp c) ρ σ = some (.fresh xs, σ₁) := bd_eq h rfl
theorem ev_slc {lo hi : Option Ex} {l h : Option PV} {r : Res} (h1 : EV I O a ρ σ p σ₁) (h2 : evo I O lo ρ σ₁ = some (l, σ₁)) (h3 : evo I O hi ρ σ₁ = some (h, σ₁)) (h4 : slice σ₁ p l h = some r) : ev I O (.slc a lo hi) ρ σ = some (r, σ₁) := bd_eq h1 (bd_eq h2 (bd_eq h3 (mp_eq h4 rfl)))
theorem evo_none : evo I O none ρ σ = some (none, σ) := rfl
theorem evo_some (h : EV I O e ρ σ p σ₁) : evo I O (some e) ρ σ = some (some p, σ₁) := bd_eq h rfl
noncomputable def Tst (I : Info) (O : Orc) (c : Ex) (ρ : En) (σ : Hp) (r : Bool) (σ' : Hp) : Prop := test I O c ρ σ = some (r, σ')
theorem Tst.of {r : Bool} (h : EV I O c ρ σ p σ₁) (h2 : truth σ₁ p = some r) : Tst I O c ρ σ r σ₁ := bd_eq h (mp_eq h2 rfl)
theorem Tst.cmp {op : CmpOp} {r : Bool} (h1 : EV I O a ρ σ p σ₁) (h2 : EV I O b ρ σ₁ q σ₂) (h3 : cmpop σ₂ op p q = some r) : Tst I O (.cmp op a b) ρ σ r σ₂ := .of (.cmp h1 h2 h3) rfl
theorem st_set {x : Nat} (h : EV I O e ρ σ p σ₁) : exS I O (.set x e) ρ σ = some (.next, upd x p ρ, σ₁) := bd_eq h rfl
theorem st_ret (h : EV I O e ρ σ p σ₁) : exS I O (.ret e) ρ σ = some (.ret p, ρ, σ₁) := bd_eq h rfl
theorem st_exp (h : EV I O e ρ σ p σ₁) (hp : p = .d .none ∨ ∃ s, p = .d (.str s)) : exS I O (.exp e) ρ σ = some (.next, ρ, σ₁) := bd_eq h (gd_eq (by rcases hp with e | ⟨s, e⟩ <;> rw [e] <;> rfl) rfl)
theorem st_if1 {s t : List St'} (h : Tst I O c ρ σ true σ₁) : exS I O (.cond c s t) ρ σ = exSs I O s ρ σ₁ := bd_eq h rfl
theorem st_if0 {s t : List St'} (h : Tst I O c ρ σ false σ₁) : exS I O (.cond c s t) ρ σ = exSs I O t ρ σ₁ := bd_eq h rfl
theorem st_no {s : List St'} (h : Tst I O c ρ σ false σ₁) : exS I O (.cond c s []) ρ σ = some (.next, ρ, σ₁) := st_if0 h
theorem st_idx {j : PV} (h1 : EV I O e ρ σ q σ₁) (h2 : EV I O a ρ σ₁ p σ₂) (h3 : EV I O i ρ σ₂ j σ₃) (h4 : putI σ₃ p j q = some σ') : exS I O (.setIdx a i e) ρ σ = some (.next, ρ, σ') := bd_eq h1 (bd_eq h2 (bd_eq h3 (mp_eq h4 rfl)))
theorem st_setA {x : Nat} (h1 : EV I O e ρ σ q σ₁) (h2 : EV I O a ρ σ₁ p σ₂) (h3 : putA I σ₂ p x q = some σ') : exS I O (.setAttr a x e) ρ σ = some (.next, ρ, σ') := bd_eq h1 (bd_eq h2 (mp_eq h3 rfl))
theorem tell_if1 {s t r : List St'} {R : PV → Hp → Prop} (h : Tst I O c ρ σ true σ₁) (k : Tells I O s ρ σ₁ R) : Tells I O (.cond c s t :: r) ρ σ R := by
  obtain ⟨p, ρ', σ', e, q⟩ := k
  exact tell_ret (by rw [st_if1 h]; exact e) q
theorem tell_no {s r : List St'} {R : PV → Hp → Prop} (h : Tst I O c ρ σ false σ₁) (k : Tells I O r ρ σ₁ R) : Tells I O (.cond c s [] :: r) ρ σ R := tell_next (st_no h) k
theorem goes_no {s r : List St'} {Q : En → Hp → Prop} (h : Tst I O c ρ σ false σ₁) (k : Goes I O r ρ σ₁ Q) : Goes I O (.cond c s [] :: r) ρ σ Q := goes_next (st_no h) k
theorem goes_if {s r : List St'} {Q : En → Hp → Prop} (h : Tst I O c ρ σ true σ₁) (k : Goes I O s ρ σ₁ fun ρ' σ' => Goes I O r ρ' σ' Q) : Goes I O (.cond c s [] :: r) ρ σ Q := by
  obtain ⟨ρ', σ', e, q⟩ := k
  exact goes_next (by rw [st_if1 h]; exact e) q
theorem tell_now {r : List St'} {R : PV → Hp → Prop} (h : EV I O e ρ σ p σ₁) (k : R p σ₁) : Tells I O (.ret e :: r) ρ σ R := tell_ret (st_ret h) k
end
end Mine
end
section
namespace Mine
open PySem
section
variable {I : Info} {O : Orc} {ρ₀ ρ : En} {σ σ₁ : Hp}
end
end Mine
end
section
namespace Mine
open PySem PySem.W
section
variable {I : Info} {O : Orc} {ρ : En} {σ : Hp}
theorem evIt_data {s : Ex} {ds : List PyData} {σ₁ : Hp} (h : EV I O s ρ σ (.d (.list ds)) σ₁) : evIt I O (.ex s) ρ σ = some (.imm ((ds.map PV.d).map .one), σ₁) := bd_eq h rfl
theorem dats_d : ∀ ds : List PyData, dats (ds.map PV.d) = some ds
  | [] => rfl
  | d :: r => dats_dc (dats_d r)
theorem comp_data {x : Nat} {s e : Ex} {ds : List PyData} (g : PyData → PyData) (h : EV I O s ρ σ (.d (.list ds)) σ) (he : ∀ d ∈ ds, EV I O e (upd x (.d d) (hide [x] ρ)) σ (.d (g d)) σ) (hl : ds.length < 1000) :
    EV I O (.comp (.gen (.one x) (.ex s) [] (.emit e))) ρ σ (.d (.list (ds.map g))) σ := by
  refine .of_fresh (xs := (ds.map g).map PV.d) (ev_comp ?_) (dats_d _)
  have := comp_map (I := I) (O := O) (t := .one x) (it := .ex s) (e := e) (ρ₀ := ρ) (ρ := hide [x] ρ) (σ := σ) (σ₁ := σ) (s := .imm ((ds.map PV.d).map .one)) (xs := (ds.map PV.d).map .one) (acc := []) (fun i => match i with
    | .one (.d d) => .d (g d)
    | _ => .d .none) (evIt_data h) .imm (fun i hi => by
      simp only [List.map_map, List.mem_map, Function.comp_apply] at hi
      obtain ⟨d, hd, rfl⟩ := hi
      exact ⟨_, rfl, he d hd⟩) (by simp; (first | lia | omega))
  refine this.trans ?_
  simp only [List.nil_append, List.map_map]
  rfl
theorem range1 {b : Nat} {e : Ex} (h : EV I O e ρ σ (.d (.int b)) σ) (hb : b < 1000) : evIt I O (.range [e]) ρ σ = some (.imm ((rangeL (0 : Nat) b).map .one), σ) := by
  have h2 : -1000 < (b : Int) ∧ (b : Int) < 1000 := by (first | lia | omega)
  exact bd_eq (EVs.one h) (mp_eq (or_l (gd_eq h2 rfl)) rfl)
theorem evIt_lo {e : Ex} {h : Nat} {xs : List PV} {σ₁ : Hp} (h1 : EV I O e ρ σ (.loc h) σ₁) (h2 : σ₁[h]? = some (.lst xs)) : evIt I O (.ex e) ρ σ = some (.lo h, σ₁) := bd_eq h1 (mp_eq (or_r rfl (mp_eq (lstAt_of h2) rfl)) rfl)
theorem eqv_str (a b : Str) : PyData.eqv (.str a) (.str b) = decide (a = b) := by
  by_cases h : a = b
  · subst h; simp [PyData.eqv]
  · simp [PyData.eqv, h]
theorem eqF_str {a b : Str} (ha : sh (.str a) = true) (hb : sh (.str b) = true) : eqF σ (.d (.str a)) (.d (.str b)) = some (decide (a = b)) := bn_eq rfl (bn_eq rfl (gd_eq (by rw [ha, hb]; rfl) (congrArg some (eqv_str a b))))
theorem eq_S {a b : Str} (ha : sh (.str a) = true) (hb : sh (.str b) = true) : cmpop σ .Eq (.d (.str a)) (.d (.str b)) = some (decide (a = b)) := or_r rfl (eqF_str ha hb)
theorem ne_S {a b : Str} (ha : sh (.str a) = true) (hb : sh (.str b) = true) : cmpop σ .NotEq (.d (.str a)) (.d (.str b)) = some (!decide (a = b)) := mp_eq (eqF_str ha hb) rfl
theorem EV.bool {b : Bool} : EV I O (.bool b) ρ σ (.d (.bool b)) σ := rfl
theorem EV.ownK {a e : Ex} {x f k : Nat} {es : List Ex} {l : Nat} {p q : PV} {ps : List PV} {σ₁ σ₂ σ₃ σ₄ : Hp} (h1 : EV I O a ρ σ (.loc l) σ₁) (h2 : EVs I O es ρ σ₁ ps σ₂) (hk : EV I O e ρ σ₂ q σ₃) (h3 : methOf I σ₁ l x = some f) (h4 : O f (.loc l :: (ps ++ [q])) σ₃ = some (p, σ₄)) : EV I O (.meth a (.own x) es (some (k, e))) ρ σ p σ₄ :=
  .of_val (bd_eq h1 (bd_eq h2 (bd_eq (bd_eq hk rfl) (bn_eq h3 (valR_eq h4)))))
theorem EV.lower {a : Ex} {s t : Str} {σ₁ : Hp} (h1 : EV I O a ρ σ (.d (.str s)) σ₁) (h2 : lo s = some t) : EV I O (.meth a .lower [] none) ρ σ (.d (.str t)) σ₁ := .mt h1 .nil (fun _ h => nomatch h) rfl (gd_eq rfl (bn_eq rfl (mp_eq h2 rfl)))
theorem idx_lst {xs : List PyData} {i : Int} {u : PyData} (h : nth xs i = some u) : index I O (.d (.list xs)) (.d (.int i)) σ = some (.d u, σ) := or_r rfl (bn_eq rfl (or_l (bn_eq rfl (mp_eq h rfl))))
theorem idx_txt {s : Str} {i : Int} {c : Nat} (h : nth s.cps.toList i = some c) : index I O (.d (.str s)) (.d (.int i)) σ = some (.d (.str ⟨#[c]⟩), σ) := or_r rfl (bn_eq rfl (or_r rfl (or_r rfl (bn_eq rfl (mp_eq h rfl)))))
theorem dct_lst {l : Nat} {xs : List PV} (h : σ[l]? = some (.lst xs)) : dctAt σ l = none := by unfold dctAt; rw [h]
theorem bn_none {α β : Type} {o : Option α} {f : α → Option β} (h : o = none) : o.bind f = none := by rw [h]; rfl
theorem idx_lo {l : Nat} {xs : List PV} {i : Int} {v : PV} (h1 : σ[l]? = some (.lst xs)) (h2 : nth xs i = some v) : index I O (.loc l) (.d (.int i)) σ = some (v, σ) := or_l (bn_eq rfl (or_r (bn_none (dct_lst h1)) (or_l (bn_eq (lstAt_of h1) (bn_eq rfl (mp_eq h2 rfl))))))
theorem stepF_eq {t : Tgt} {B : En → Hp → Option (Flo × En × Hp)} {i : Item} {ρ ρ' : En} {f : Flo} {y : En × Hp} (hb : bindT t i ρ = some ρ') (h : B ρ' σ = some (f, y)) : stepF t B i ρ σ = some (outF f, y) := bn_eq hb (bd_eq (a := f) (b := y) h rfl)
theorem st_aug {x : Nat} {op : Operator} {e : Ex} {i j k : Int} {σ₁ : Hp} (h1 : getV x ρ = some (.d (.int i))) (h2 : EV I O e ρ σ (.d (.int j)) σ₁) (h3 : augI op i j = some k) : exS I O (.aug x op e) ρ σ = some (.next, upd x (.d (.int k)) ρ, σ₁) := bn_eq h1 (bn_eq rfl (bd_eq h2 (bn_eq rfl (mp_eq h3 rfl))))
theorem st_setB {x y : Nat} {e : Ex} {p : PV} {σ₁ : Hp} (h : EV I O e ρ σ p σ₁) : exS I O (.setB x y e) ρ σ = some (.next, upd y p (upd x p ρ), σ₁) := bd_eq h rfl
theorem putI_lo {l : Nat} {xs : List PV} {j : Nat} {q : PV} (h : σ[l]? = some (.lst xs)) (hj : j < xs.length) (hl : xs.length < 1000) : putI σ (.loc l) (.d (.int j)) q = some (σ.set l (.lst (xs.set j q))) :=
  bn_eq rfl (or_r (bn_none (dct_lst h)) (bn_eq (lstAt_of h) (bn_eq rfl (gd_eq ⟨Int.natCast_nonneg j, Int.ofNat_lt.mpr hj, hl⟩ rfl))))
theorem mt_append {l : Nat} {xs : List PV} {q : PV} (h : σ[l]? = some (.lst xs)) (hl : xs.length < 1000) : callMt I .append (.loc l) [q] σ = some (.val (.d .none), σ.set l (.lst (xs ++ [q]))) := by
  show (lstAt σ l).bind _ = _
  exact bn_eq (lstAt_of h) (gd_eq hl rfl)
theorem rcv_lst {l : Nat} {xs : List PV} (h : σ[l]? = some (.lst xs)) : rcv σ (.loc l) = true := by
  show (lstAt σ l).isSome = true
  rw [lstAt_of h]; rfl
theorem ev_new {c : Nat} {k : Cls} {es : List Ex} {ps : List PV} {σ₁ σ₂ : Hp} (hk : lk c I.cls = some k) (h1 : EVs I O es ρ σ ps σ₁) (h2 : O k.init (.loc (σ₁.length + 1) :: ps) (σ₁ ++ [.ns []] ++ [.inst k.addr σ₁.length]) = some (.d .none, σ₂)) : ev I O (.new c es) ρ σ = some (.val (.loc (σ₁.length + 1)), σ₂) :=
  bn_eq hk (bd_eq h1 (bd_eq h2 (gd_eq rfl rfl)))
theorem meth_at {l d x : Nat} {C : Addr} {k : Cls} {kvs : List (Str × PV)} (h1 : σ[l]? = some (.inst C d)) (h2 : σ[d]? = some (.ns kvs)) (hk : clsAt I C = some k) (hx : dget (nm I x) kvs = none) : methOf I σ l x = lk x k.meths := bn_eq (instAt_of h1) (bn_eq hk (bn_eq (nsAt_of h2) (gd_eq (by rw [hx]; rfl) rfl)))
theorem getA_at {l d x : Nat} {C : Addr} {k : Cls} {kvs : List (Str × PV)} (h1 : σ[l]? = some (.inst C d)) (h2 : σ[d]? = some (.ns kvs)) (hk : clsAt I C = some k) (hx : k.attrs.contains x = true) : getA I σ (.loc l) x = dget (nm I x) kvs := bn_eq rfl (bn_eq (instAt_of h1) (bn_eq hk (bn_eq (nsAt_of h2) (gd_eq hx rfl))))
theorem putA_at {l d x : Nat} {C : Addr} {k : Cls} {kvs : List (Str × PV)} {q : PV} (h1 : σ[l]? = some (.inst C d)) (h2 : σ[d]? = some (.ns kvs)) (hk : clsAt I C = some k) (hx : k.attrs.contains x = true ∧ kvs.length < 1000) : putA I σ (.loc l) x q = some (σ.set d (.ns (dput (nm I x) q kvs))) := bn_eq rfl (bn_eq (instAt_of h1) (bn_eq hk (bn_eq (nsAt_of h2) (gd_eq hx rfl))))
theorem cut_take {α : Type} (l : List α) (k : Nat) : cut l none (some (k : Int)) = l.take k := by
  unfold cut clampI
  have h : (0 : Int) ≤ k := Int.natCast_nonneg k
  simp only [h, if_true, Int.toNat_natCast, List.drop_zero, Nat.sub_zero]
  rw [List.take_eq_take_iff]
  (first | lia | omega)
end
end Mine
end
section
open PySem Mine
namespace L2
noncomputable def O0 : Orc := calls info []
noncomputable def O1 : Orc := calls info [(0, f__substitution_cost)]
noncomputable def O2 : Orc := calls info [(1, f__levenshtein_distance), (0, f__substitution_cost)]
noncomputable def O3 : Orc := calls info [(2, f_TupleComp___init__), (1, f__levenshtein_distance), (0, f__substitution_cost)]
noncomputable def O4 : Orc := calls info [(3, f_TupleComp_compare), (2, f_TupleComp___init__), (1, f__levenshtein_distance), (0, f__substitution_cost)]
noncomputable def O5 : Orc := calls info [(4, f_Headers__convert_string_type), (3, f_TupleComp_compare), (2, f_TupleComp___init__), (1, f__levenshtein_distance), (0, f__substitution_cost)]
noncomputable def O7 : Orc := calls info [(6, f_Headers___len__), (5, f_Headers___init__), (4, f_Headers__convert_string_type), (3, f_TupleComp_compare), (2, f_TupleComp___init__), (1, f__levenshtein_distance), (0, f__substitution_cost)]
noncomputable def O12 : Orc := calls info [(11, f_Headers_items), (10, f_Headers_keys), (9, f_Headers___delitem__), (8, f_Headers___getitem__), (7, f_Headers_get), (6, f_Headers___len__), (5, f_Headers___init__), (4, f_Headers__convert_string_type), (3, f_TupleComp_compare), (2, f_TupleComp___init__), (1, f__levenshtein_distance), (0, f__substitution_cost)]
noncomputable def O13 : Orc := calls info [(12, f_Headers_setdefault), (11, f_Headers_items), (10, f_Headers_keys), (9, f_Headers___delitem__), (8, f_Headers___getitem__), (7, f_Headers_get), (6, f_Headers___len__), (5, f_Headers___init__), (4, f_Headers__convert_string_type), (3, f_TupleComp_compare), (2, f_TupleComp___init__), (1, f__levenshtein_distance), (0, f__substitution_cost)]
noncomputable def O14 : Orc := calls info [(13, f__law_by_keys), (12, f_Headers_setdefault), (11, f_Headers_items), (10, f_Headers_keys), (9, f_Headers___delitem__), (8, f_Headers___getitem__), (7, f_Headers_get), (6, f_Headers___len__), (5, f_Headers___init__), (4, f_Headers__convert_string_type), (3, f_TupleComp_compare), (2, f_TupleComp___init__), (1, f__levenshtein_distance), (0, f__substitution_cost)]
noncomputable def O15 : Orc := calls info [(14, f__law_by_words), (13, f__law_by_keys), (12, f_Headers_setdefault), (11, f_Headers_items), (10, f_Headers_keys), (9, f_Headers___delitem__), (8, f_Headers___getitem__), (7, f_Headers_get), (6, f_Headers___len__), (5, f_Headers___init__), (4, f_Headers__convert_string_type), (3, f_TupleComp_compare), (2, f_TupleComp___init__), (1, f__levenshtein_distance), (0, f__substitution_cost)]
noncomputable def O16 : Orc := calls info [(15, f__law_by_names), (14, f__law_by_words), (13, f__law_by_keys), (12, f_Headers_setdefault), (11, f_Headers_items), (10, f_Headers_keys), (9, f_Headers___delitem__), (8, f_Headers___getitem__), (7, f_Headers_get), (6, f_Headers___len__), (5, f_Headers___init__), (4, f_Headers__convert_string_type), (3, f_TupleComp_compare), (2, f_TupleComp___init__), (1, f__levenshtein_distance), (0, f__substitution_cost)]
noncomputable def hN : Str := nm info 38
noncomputable def pr (kv : Str × Str) : PV := .d (.tuple [.str kv.1, .str kv.2])
structure IsH (σ : Hp) (l h : Nat) (kvs : List (Str × Str)) : Prop where
  dl : ∃ dl, σ[l]? = some (.inst 213 dl) ∧ σ[dl]? = some (.ns [(hN, .loc h)])
  hs : σ[h]? = some (.lst (kvs.map pr))
noncomputable def okS (s : Str) : Bool := (searchFails codeName s.cps.toList && searchFails codeVal s.cps.toList && decide (s.cps.size < 1000)) && sh (.str s)
noncomputable def low (s : Str) : Str := (lo s).getD s
noncomputable def hasLow (s : Str) : Bool := (lo s).isSome
theorem lo_low {s : Str} (h : hasLow s = true) : lo s = some (low s) := by
  unfold hasLow at h
  unfold low
  cases e : lo s with
  | none => rw [e] at h; cases h
  | some t => rfl
noncomputable def okN (s : Str) : Bool := hasLow s && okS (low s)
theorem conv_ok (s : Str) (b : Bool) (p : PV) (σ : Hp) (h : okS s = true) :
    runFn info O4 f_Headers__convert_string_type [p, .d (.str s), .d (.bool b)] σ = some (.d (.str s), σ) := by
  have h := (and2 (and2 h).1)
  have h3 : s.cps.size < 1000 := of_decide_eq_true h.2
  have h1 := and2 h.1
  have q : ∀ {a : Addr} {code : Array Nat}, lk a info.safe = some code → searchFails code s.cps.toList = true → callMt info .search (.gl a) [.d (.str s)] σ = some (.val (.d .none), σ) := fun {a code} hc hs => by
    show (lk a info.safe).bind _ = _
    exact bn_eq hc (gd_eq ⟨hs, h3⟩ rfl)
  have key : ∀ {ρ : En} {a : Addr} {code : Array Nat}, lk a info.safe = some code → searchFails code s.cps.toList = true → getV 30 ρ = some (.d (.str s)) → getV 35 ρ = some (.gl a) → exSs info O4 [(.cond (.meth (.var 35) .search [(.var 30)] none) [.no] []), (.ret (.var 30))] ρ σ = some (.ret (.d (.str s)), ρ, σ) := fun hc hs h4 h9 =>
    (seq_next (st_no (Tst.of (EV.mt (m := .search) (.var h9) (.one (.var h4)) (fun _ h => nomatch h) rfl (q hc hs)) rfl))).trans (seq_ret (st_ret (.var h4)))
  have t : ∀ {ρ : En}, getV 30 ρ = some (.d (.str s)) → Tst info O4 (.cmp .Is (.bi .typ [(.var 30)]) (.gl 31)) ρ σ true σ := fun h4 => Tst.cmp (.of_val (ev_bi (.one (.var h4)) rfl rfl)) (.gl rfl) (congrArg some (decide_eq_true rfl))
  cases b with
  | true => exact run_of rfl (seq_ret ((st_if1 (t rfl)).trans ((seq_next (st_set (.ite (r := true) (.var rfl) rfl (.gl rfl)))).trans (key (code := codeName) rfl h1.1 rfl rfl))))
  | false => exact run_of rfl (seq_ret ((st_if1 (t rfl)).trans ((seq_next (st_set (.ite (r := false) (.var rfl) rfl (.gl rfl)))).trans (key (code := codeVal) rfl h1.2 rfl rfl))))
noncomputable def mH : List (Nat × Nat) := match lk 55 info.cls with
  | some k => k.meths
  | none => []
noncomputable def kH : Cls := (lk 55 info.cls).getD ⟨0, 0, [], []⟩
theorem clsH : clsAt info 213 = some kH := rfl
theorem meth_h {σ : Hp} {l h : Nat} {kvs : List (Str × Str)} (x : Nat) (H : IsH σ l h kvs) (hx : (nm info x == hN) = false) : methOf info σ l x = lk x mH := by
  obtain ⟨dl, h1, h2⟩ := H.dl
  exact meth_at h1 h2 clsH (if_neg fun e : hN = nm info x => by rw [e] at hx; simp at hx)
theorem att_h {σ : Hp} {l h : Nat} {kvs : List (Str × Str)} (H : IsH σ l h kvs) : getA info σ (.loc l) 38 = some (.loc h) := by
  obtain ⟨dl, h1, h2⟩ := H.dl
  exact (getA_at h1 h2 clsH rfl).trans (if_pos rfl)
theorem okS_sh {s : Str} (h : okS s = true) : sh (.str s) = true := (and2 h).2
theorem eq_str {σ : Hp} {a b : Str} (ha : okS a = true) (hb : okS b = true) : cmpop σ .Eq (.d (.str a)) (.d (.str b)) = some (decide (a = b)) := eq_S (okS_sh ha) (okS_sh hb)
noncomputable def getO (kvs : List (Str × Str)) (n : Str) : Option Str := (kvs.find? fun kv => decide (low kv.1 = low n)).map (·.2)
noncomputable def strP : Option Str → PV
  | some s => .d (.str s)
  | none => .d .none
theorem name_low {O : Orc} {σ : Hp} {l h : Nat} {kvs : List (Str × Str)} {ρ : En} {n : Str} (H : IsH σ l h kvs) (hn : okN n = true) (h10 : getV 23 ρ = some (.loc l)) (h6 : getV 32 ρ = some (.d (.str n)))
    (hO : ∀ as, O 4 as σ = runFn info O4 f_Headers__convert_string_type as σ) :
    exS info O (.set 32 (.meth (.var 23) (.own 41) [(.meth (.var 32) .lower [] none)] (some (32, (.bool true))))) ρ σ = some (.next, upd 32 (.d (.str (low n))) ρ, σ) :=
  st_set (.ownK (.var h10) (.one (.lower (.var h6) (lo_low (and2 hn).1))) (q := .d (.bool true)) rfl ((meth_h _ H (by decide +kernel)).trans rfl) ((hO _).trans (conv_ok _ _ _ _ (and2 hn).2)))
noncomputable def hdE (l : Nat) (n : Str) (r : En) : En := (23, some (.loc l)) :: (32, some (.d (.str n))) :: r
noncomputable def getI (n : Str) : Item → Option PV
  | .one (.d (.tuple [.str a, b])) => if low a = low n then some (.d b) else none
  | _ => none
theorem getI_all (n : Str) : ∀ ks : List (Str × Str), List.findSome? (getI n) ((ks.map pr).map .one) = (getO ks n).map fun s => .d (.str s)
  | [] => rfl
  | kv :: r => by
    have ih := getI_all n r
    unfold getO at ih ⊢
    rw [List.map_cons, List.map_cons, List.findSome?_cons, List.find?_cons, show getI n (.one (pr kv)) = if low kv.1 = low n then some (.d (.str kv.2)) else none from rfl]
    by_cases c : low kv.1 = low n
    · rw [if_pos c, decide_eq_true c]; rfl
    · rw [if_neg c, decide_eq_false c]; exact ih
theorem pr_mem {kvs : List (Str × Str)} {i : Item} (h : i ∈ (kvs.map pr).map Item.one) : ∃ a b, (a, b) ∈ kvs ∧ i = .one (pr (a, b)) := by
  obtain ⟨p, hp, e⟩ := List.mem_map.mp h
  obtain ⟨⟨a, b⟩, hm, e2⟩ := List.mem_map.mp hp
  exact ⟨a, b, hm, by rw [← e, ← e2]⟩
theorem len_pr {kvs : List (Str × Str)} {n : Nat} (h : kvs.length < n) : (kvs.map pr).length < n := by rw [List.length_map]; exact h
theorem get_ok {σ : Hp} {l h : Nat} {kvs : List (Str × Str)} {n : Str} (H : IsH σ l h kvs) (hn : okN n = true) (hk : ∀ kv ∈ kvs, okN kv.1 = true) (hlen : kvs.length < 100) :
    runFn info O7 f_Headers_get [.loc l, .d (.str n)] σ = some (strP (getO kvs n), σ) := by
  obtain ⟨ρ', h1, h2⟩ := for_find (I := info) (O := O7) (s := .lo h) (xs := (kvs.map pr).map .one) (σ₁ := σ) (ρ := upd 32 (.d (.str (low n))) (hdE l n [(42, some (.d .none))])) (σ := σ)
    (t := .two 39 40) (it := .ex (.attr (.var 23) 38)) (body := [(.cond (.cmp .Eq (.meth (.var 39) .lower [] none) (.var 32)) [(.ret (.var 40))] [])])
    (fun ρ => getV 32 ρ = some (.d (.str (low n))) ∧ getV 42 ρ = some (.d .none)) (getI n) (evIt_lo (.attr (.var rfl) (att_h H)) H.hs) (.lo H.hs (len_pr hlen)) ⟨rfl, rfl⟩ (fun i hi ρ hp => by
      obtain ⟨a, b, hm, e⟩ := pr_mem hi
      have ha := and2 (hk _ hm)
      rw [e]
      refine ⟨_, rfl, upd 40 (.d (.str b)) (upd 39 (.d (.str a)) ρ), ?_, hp⟩
      have t := Tst.cmp (I := info) (O := O7) (.lower (.var (x := 39) rfl) (lo_low ha.1)) (.var (ρ := upd 40 (.d (.str b)) (upd 39 (.d (.str a)) ρ)) (x := 32) hp.1) (eq_str (σ := σ) ha.2 (and2 hn).2)
      show _ = some (floP (if low a = low n then some (PV.d (.str b)) else none), _, _)
      by_cases c : low a = low n
      · rw [decide_eq_true c] at t
        rw [if_pos c]
        exact seq_ret ((st_if1 t).trans (seq_ret (st_ret (EV.var (x := 40) (ρ := upd 40 (.d (.str b)) (upd 39 (.d (.str a)) ρ)) rfl))))
      · rw [decide_eq_false c] at t
        rw [if_neg c]
        exact seq_next (st_no t))
  rw [getI_all] at h1
  have key : exSs info O7 f_Headers_get.body (hdE l n [(42, some (.d .none))]) σ = some (.ret (strP (getO kvs n)), ρ', σ) := by
    refine (seq_next (name_low H hn rfl rfl (fun _ => rfl))).trans ?_
    cases hg : getO kvs n with
    | some s => rw [hg] at h1; exact seq_ret h1
    | none => rw [hg] at h1; exact (seq_next h1).trans (seq_ret (st_ret (.var h2.2)))
  exact run_of rfl key
end L2
end
section
open PySem Mine
namespace L2
noncomputable def chS (c : Nat) : Str := ⟨#[c]⟩
noncomputable def tx (l : List Nat) : PV := .d (.str (S l))
theorem sh_S {l : List Nat} (h : ∀ c ∈ l, c < 128) : sh (.str (S l)) = true := by
  have : SeqAt.shaped (.str (S l)) = true := by
    unfold SeqAt.shaped
    have h1 : PyData.canLay0 (.str (S l)) = true := by
      simp only [PyData.canLay0, PyData.strOk, S, List.all_toArray, List.all_eq_true, decide_eq_true_eq]
      intro c hc
      have := h c hc
      (first | lia | omega)
    rw [h1]
    rfl
  exact this
theorem S_inj {a b : List Nat} : (S a = S b) ↔ a = b := by
  constructor
  · intro h
    unfold S at h
    simpa using h
  · intro h; rw [h]
theorem eqS {σ : Hp} {a b : List Nat} (ha : ∀ c ∈ a, c < 128) (hb : ∀ c ∈ b, c < 128) : cmpop σ .Eq (.d (.str (S a))) (.d (.str (S b))) = some (decide (a = b)) := (eq_S (sh_S ha) (sh_S hb)).trans (congrArg some (decide_eq_decide.mpr S_inj))
theorem one_lt {a : Nat} (h : a < 128) : ∀ c ∈ [a], c < 128 := fun c hc => by rw [List.mem_singleton.mp hc]; exact h
theorem eqC {σ : Hp} {a b : Nat} (ha : a < 128) (hb : b < 128) : cmpop σ .Eq (.d (.str (chS a))) (.d (.str (chS b))) = some (decide (a = b)) := (eqS (one_lt ha) (one_lt hb)).trans (congrArg some (decide_eq_decide.mpr ⟨fun h => (List.cons.inj h).1, fun h => by rw [h]⟩))
theorem loC_lt {c : Nat} (h : c < 128) : loC c < 128 := by
  unfold loC
  split <;> (first | lia | omega)
theorem lo_ch {c : Nat} (h : c < 128) : lo (chS c) = some (chS (loC c)) := gd_eq ⟨by show (decide (c < 128) && true) = true; rw [decide_eq_true h]; rfl, by show 1 < 1000; decide⟩ rfl
theorem tru_B {σ : Hp} {b : Bool} : truth σ (.d (.bool b)) = some b := rfl
theorem sub_ok {σ : Hp} {c d : Nat} (hc : c < 128) (hd : d < 128) : runFn info O0 f__substitution_cost [.d (.str (chS c)), .d (.str (chS d))] σ = some (.d (.int (subC c d)), σ) := by
  have t1 : Tst info O0 (.cmp .Eq (.var 4) (.var 5)) [(4, some (.d (.str (chS c)))), (5, some (.d (.str (chS d))))] σ (decide (c = d)) σ := Tst.cmp (.var rfl) (.var rfl) (eqC hc hd)
  have t2 : Tst info O0 (.cmp .Eq (.meth (.var 4) .lower [] none) (.meth (.var 5) .lower [] none)) [(4, some (.d (.str (chS c)))), (5, some (.d (.str (chS d))))] σ (decide (loC c = loC d)) σ := Tst.cmp (.lower (.var rfl) (lo_ch hc)) (.lower (.var rfl) (lo_ch hd)) (eqC (loC_lt hc) (loC_lt hd))
  unfold subC
  by_cases h1 : c = d
  · rw [decide_eq_true h1] at t1
    rw [if_pos h1]
    exact run_of rfl (seq_ret ((st_if1 t1).trans (seq_ret (st_ret .int))))
  · rw [decide_eq_false h1] at t1
    rw [if_neg h1]
    by_cases h2 : loC c = loC d
    · rw [decide_eq_true h2] at t2
      rw [if_pos h2]
      exact run_of rfl ((seq_next (st_no t1)).trans (seq_ret ((st_if1 t2).trans (seq_ret (st_ret (EV.gl rfl))))))
    · rw [decide_eq_false h2] at t2
      rw [if_neg h2]
      exact run_of rfl ((seq_next (st_no t1)).trans ((seq_next (st_no t2)).trans (seq_ret (st_ret (EV.gl rfl)))))
structure LvR (la lb : List Nat) (mc : Int) (ρ : En) : Prop where
  a : getV 8 ρ = some (tx la)
  b : getV 9 ρ = some (tx lb)
  mc : getV 13 ρ = some (.d (.int mc))
theorem tru_S {σ : Hp} {l : List Nat} (h : l.length < 1000) : truth σ (.d (.str (S l))) = some (decide (l ≠ [])) := by
  show (if l.length < 1000 then some (decide (l.length ≠ 0)) else none) = _
  rw [if_pos h]
  cases l <;> rfl
theorem tru_0 {σ : Hp} {l : List Nat} (h : l = []) : truth σ (tx l) = some false := by rw [h]; rfl
theorem tru_1 {σ : Hp} {l : List Nat} (h : l.length < 1000) (hn : l ≠ []) : truth σ (tx l) = some true := (tru_S h).trans (congrArg some (decide_eq_true hn))
theorem slcS {σ : Hp} {l : List Nat} {lo hi : Option PV} {a b : Option Int} (h : l.length < 1000) (h1 : ofIdx lo = some a) (h2 : ofIdx hi = some b) : slice σ (.d (.str (S l))) lo hi = some (.val (.d (.str (S (cut l a b))))) := bn_eq h1 (bn_eq h2 (or_l (bn_eq rfl (gd_eq h rfl))))
theorem idxS {O : Orc} {σ : Hp} {l : List Nat} {i : Int} {c : Nat} (h : nth l i = some c) : index info O (.d (.str (S l))) (.d (.int i)) σ = some (.d (.str (chS c)), σ) := idx_txt h
theorem slcFrom {O : Orc} {ρ : En} {σ : Hp} {l : List Nat} {v k : Nat} (h : getV v ρ = some (tx l)) (hp : getV 10 ρ = some (.d (.int k))) (hl : l.length < 1000) : EV info O (.slc (.var v) (some (.var 10)) none) ρ σ (tx (l.drop k)) σ := by
  rw [← cut_from]
  exact .of_val (ev_slc (.var h) (evo_some (.var hp)) evo_none (slcS hl rfl rfl))
noncomputable abbrev preC : Ex := .and3 (.slc (.var 8) (some (.var 10)) none) (.slc (.var 9) (some (.var 10)) none) (.cmp .Eq (.idx (.var 8) (.var 10)) (.idx (.var 9) (.var 10)))
theorem pre_loop {O : Orc} {σ : Hp} {la lb : List Nat} {mc : Int} {ρ : En} (h : LvR la lb mc ρ) (h33 : getV 10 ρ = some (.d (.int 0))) (hl : la.length = lb.length) (hn : la.length ≤ 40) (ha : ∀ c ∈ la, c < 128) (hb : ∀ c ∈ lb, c < 128) :
    ∃ ρ' σ', exS info O (.whil preC [(.aug 10 .Add (.int 1))]) ρ σ = some (.next, ρ', σ') ∧ σ' = σ ∧ LvR la lb mc ρ' ∧ getV 10 ρ' = some (.d (.int (preN la lb))) := by
  refine whil_goes (fun n ρ σ' => σ' = σ ∧ ∃ k, (n = la.length - k ∧ k ≤ la.length) ∧ LvR la lb mc ρ ∧ getV 10 ρ = some (.d (.int (k : Nat))) ∧ preN la lb = k + preN (la.drop k) (lb.drop k)) _ (fun n ρ σ' y => ?_) la.length (Nat.lt_of_le_of_lt hn (by decide)) ⟨rfl, 0, ⟨rfl, Nat.zero_le _⟩, h, h33, by rw [List.drop_zero, List.drop_zero, Nat.zero_add]⟩
  obtain ⟨e1, k, ⟨hk, hk2⟩, hr, h3, e3⟩ := y
  subst e1
  have l1 : la.length < 1000 := Nat.lt_of_le_of_lt hn (by decide)
  have l2 : lb.length < 1000 := hl ▸ l1
  have d1 : (la.drop k).length < 1000 := by rw [List.length_drop]; exact Nat.lt_of_le_of_lt (Nat.sub_le _ _) l1
  have d2 : (lb.drop k).length < 1000 := by rw [List.length_drop]; exact Nat.lt_of_le_of_lt (Nat.sub_le _ _) l2
  by_cases c : k < la.length
  · have c' : k < lb.length := hl ▸ c
    have q1 : la.drop k = la[k] :: la.drop (k + 1) := List.drop_eq_getElem_cons c
    have q2 : lb.drop k = lb[k] :: lb.drop (k + 1) := List.drop_eq_getElem_cons c'
    have n1 : nth la (k : Int) = some la[k] := by rw [nth_at _ _ (Nat.lt_trans c l1)]; exact List.getElem?_eq_getElem c
    have n2 : nth lb (k : Int) = some lb[k] := by rw [nth_at _ _ (Nat.lt_trans c' l2)]; exact List.getElem?_eq_getElem c'
    have tt : Tst info O preC ρ σ' (decide (la[k] = lb[k])) σ' := Tst.of (EV.and3 (.and2 (slcFrom hr.a h3 l1) (tru_1 d1 (by rw [q1]; exact List.cons_ne_nil _ _)) (.and2 (slcFrom hr.b h3 l2) (tru_1 d2 (by rw [q2]; exact List.cons_ne_nil _ _))
      (.cmp (.idx (.var hr.a) (.var h3) (idxS n1)) (.idx (.var hr.b) (.var h3) (idxS n2)) (eqC (ha _ (List.getElem_mem c)) (hb _ (List.getElem_mem c'))))))) tru_B
    rw [q1, q2, preN_c] at e3
    by_cases e : la[k] = lb[k]
    · rw [if_pos e] at e3
      rw [decide_eq_true e] at tt
      exact .inr ⟨tt, goes_next (st_aug h3 .int rfl) (goes_nil ⟨la.length - (k + 1), hk ▸ Nat.sub_lt_sub_left c (Nat.lt_succ_self k), rfl, k + 1, ⟨rfl, c⟩, ⟨hr.a, hr.b, hr.mc⟩, rfl, e3.trans (Nat.add_right_comm k _ 1)⟩)⟩
    · rw [if_neg e] at e3
      rw [decide_eq_false e] at tt
      exact .inl ⟨tt, rfl, hr, by rw [e3]; exact h3⟩
  · have t1 : la.drop k = [] := List.drop_of_length_le (Nat.le_of_not_lt c)
    refine .inl ⟨Tst.of (EV.and3 (.and1 (slcFrom hr.a h3 l1) (tru_0 t1))) (tru_0 t1), rfl, hr, ?_⟩
    rw [e3, t1]
    exact h3
theorem slcBack {O : Orc} {ρ : En} {σ : Hp} {l : List Nat} {v k : Nat} (h : getV v ρ = some (tx l)) (hp : getV 11 ρ = some (.d (.int (-(k : Int))))) (hk : k ≤ l.length) (hl : l.length < 1000) :
    EV info O (.slc (.var v) none (some (.or (.var 11) .non))) ρ σ (tx (l.take (l.length - k))) σ := by
  by_cases c : k = 0
  · rw [c, Nat.sub_zero, List.take_length]
    rw [c] at hp
    have := slcS (σ := σ) hl (lo := none) (hi := some (.d .none)) rfl rfl
    rw [cut_all] at this
    exact .of_val (ev_slc (.var h) evo_none (evo_some (.or2 (.var hp) rfl (q := .d .none) rfl)) this)
  · rw [← cut_to l k (Nat.pos_of_ne_zero c) hk]
    exact .of_val (ev_slc (.var h) evo_none (evo_some (.or1 (.var hp) (congrArg some (decide_eq_true (Int.neg_ne_zero.mpr (Int.ofNat_ne_zero.mpr c)))))) (slcS hl rfl rfl))
theorem neg_sub1 (k : Nat) : -(k : Int) - 1 = -((k + 1 : Nat) : Int) := by (first | lia | omega)
noncomputable abbrev postC : Ex := .and3 (.slc (.var 8) none (some (.or (.var 11) .non))) (.slc (.var 9) none (some (.or (.var 11) .non))) (.cmp .Eq (.idx (.var 8) (.bin .Sub (.var 11) (.int 1))) (.idx (.var 9) (.bin .Sub (.var 11) (.int 1))))
theorem take_ne {l : List Nat} {k : Nat} (h : k < l.length) : l.take (l.length - k) ≠ [] := fun e => by
  have := congrArg List.length e
  rw [List.length_take, List.length_nil] at this
  exact absurd this (Nat.ne_of_gt (Nat.lt_of_lt_of_le (Nat.sub_pos_of_lt h) (Nat.le_min.mpr ⟨Nat.le_refl _, Nat.sub_le _ _⟩)))
theorem post_loop {O : Orc} {σ : Hp} {la lb : List Nat} {mc : Int} {ρ : En} (h : LvR la lb mc ρ) (h34 : getV 11 ρ = some (.d (.int 0))) (hl : la.length = lb.length) (hn : la.length ≤ 40) (ha : ∀ c ∈ la, c < 128) (hb : ∀ c ∈ lb, c < 128) :
    ∃ ρ' σ', exS info O (.whil postC [(.aug 11 .Sub (.int 1))]) ρ σ = some (.next, ρ', σ') ∧ σ' = σ ∧ LvR la lb mc ρ' ∧ getV 11 ρ' = some (.d (.int (-(preN la.reverse lb.reverse : Nat)))) := by
  refine whil_goes (fun n ρ σ' => σ' = σ ∧ ∃ k, (n = la.length - k ∧ k ≤ la.length) ∧ LvR la lb mc ρ ∧ getV 11 ρ = some (.d (.int (-(k : Nat)))) ∧ preN la.reverse lb.reverse = k + preN (la.reverse.drop k) (lb.reverse.drop k)) _ (fun n ρ σ' y => ?_) la.length (Nat.lt_of_le_of_lt hn (by decide)) ⟨rfl, 0, ⟨rfl, Nat.zero_le _⟩, h, h34, by rw [List.drop_zero, List.drop_zero, Nat.zero_add]⟩
  obtain ⟨e1, k, ⟨hk, hk2⟩, hr, h4, e3⟩ := y
  subst e1
  have l1 : la.length < 1000 := Nat.lt_of_le_of_lt hn (by decide)
  have l2 : lb.length < 1000 := hl ▸ l1
  have s1 : EV info O (.slc (.var 8) none (some (.or (.var 11) .non))) ρ σ' (tx (la.take (la.length - k))) σ' := slcBack hr.a h4 hk2 l1
  have s2 : EV info O (.slc (.var 9) none (some (.or (.var 11) .non))) ρ σ' (tx (lb.take (lb.length - k))) σ' := slcBack hr.b h4 (hl ▸ hk2) l2
  have d1 : (la.take (la.length - k)).length < 1000 := Nat.lt_of_le_of_lt (List.length_take_le _ _) (Nat.lt_of_le_of_lt (Nat.sub_le _ _) l1)
  have d2 : (lb.take (lb.length - k)).length < 1000 := Nat.lt_of_le_of_lt (List.length_take_le _ _) (Nat.lt_of_le_of_lt (Nat.sub_le _ _) l2)
  by_cases c : k < la.length
  · have c' : k < lb.length := hl ▸ c
    have r1 : k < la.reverse.length := by rw [List.length_reverse]; exact c
    have r2 : k < lb.reverse.length := by rw [List.length_reverse]; exact c'
    have q1 : la.reverse.drop k = la.reverse[k] :: la.reverse.drop (k + 1) := List.drop_eq_getElem_cons r1
    have q2 : lb.reverse.drop k = lb.reverse[k] :: lb.reverse.drop (k + 1) := List.drop_eq_getElem_cons r2
    have n1 : nth la (-(k : Int) - 1) = some la.reverse[k] := by rw [nth_back _ _ (Nat.lt_of_lt_of_le c (Nat.le_trans hn (by decide))) c]; exact List.getElem?_eq_getElem r1
    have n2 : nth lb (-(k : Int) - 1) = some lb.reverse[k] := by rw [nth_back _ _ (Nat.lt_of_lt_of_le c (Nat.le_trans hn (by decide))) c']; exact List.getElem?_eq_getElem r2
    have m1 : la.reverse[k] < 128 := ha _ (List.mem_reverse.mp (List.getElem_mem r1))
    have m2 : lb.reverse[k] < 128 := hb _ (List.mem_reverse.mp (List.getElem_mem r2))
    generalize la.reverse[k] = x at n1 m1 q1
    generalize lb.reverse[k] = y at n2 m2 q2
    have tt : Tst info O postC ρ σ' (decide (x = y)) σ' := Tst.of (EV.and3 (.and2 s1 (tru_1 d1 (take_ne c)) (.and2 s2 (tru_1 d2 (take_ne c')) (.cmp (.idx (.var hr.a) (.bin (.var h4) .int rfl) (idxS n1)) (.idx (.var hr.b) (.bin (.var h4) .int rfl) (idxS n2)) (eqC m1 m2))))) tru_B
    rw [q1, q2, preN_c] at e3
    by_cases e : x = y
    · rw [if_pos e] at e3
      rw [decide_eq_true e] at tt
      exact .inr ⟨tt, goes_next (st_aug h4 .int (k := -((k + 1 : Nat) : Int)) (congrArg some (neg_sub1 k))) (goes_nil ⟨la.length - (k + 1), hk ▸ Nat.sub_lt_sub_left c (Nat.lt_succ_self k), rfl, k + 1, ⟨rfl, c⟩, ⟨hr.a, hr.b, hr.mc⟩, rfl, e3.trans (Nat.add_right_comm k _ 1)⟩)⟩
    · rw [if_neg e] at e3
      rw [decide_eq_false e] at tt
      exact .inl ⟨tt, rfl, hr, by rw [e3]; exact h4⟩
  · have t1 : la.reverse.drop k = [] := List.drop_of_length_le (by rw [List.length_reverse]; exact Nat.le_of_not_lt c)
    have e : la.take (la.length - k) = [] := by rw [Nat.sub_eq_zero_of_le (Nat.le_of_not_lt c)]; rfl
    refine .inl ⟨Tst.of (EV.and3 (.and1 s1 (tru_0 e))) (tru_0 e), rfl, hr, ?_⟩
    rw [e3, t1]
    exact h4
end L2
end
section
open PySem Mine
namespace L2
structure DpR (la lb : List Nat) (mc : Int) (r : Nat) (bc : Nat) (d : Dp) (ρ : En) : Prop where
  a : getV 8 ρ = some (tx la)
  b : getV 9 ρ = some (tx lb)
  mc : getV 13 ρ = some (.d (.int mc))
  row : getV 14 ρ = some (.loc r)
  bc : getV 17 ρ = some (.d (.str (chS bc)))
  dist : getV 18 ρ = some (.d (.int d.dist))
  res : getV 15 ρ = some (.d (.int d.res))
  mn : getV 19 ρ = some (.d (.int d.mn))
noncomputable def innerB : List St' := [(.set 21 (.bin .Add (.var 18) (.call 0 [(.var 17), (.idx (.var 8) (.var 20))]))), (.set 18 (.idx (.var 14) (.var 20))), (.set 22 (.bin .Add (.bi .min2 [(.var 15), (.var 18)]) (.gl 7))), (.set 15 (.bi .min2 [(.var 22), (.var 21)])), (.setIdx (.var 14) (.var 20) (.var 15)), (.cond (.cmp .Lt (.var 15) (.var 19)) [(.set 19 (.var 15))] [])]
theorem min2_of {i j : Int} {σ : Hp} : callBi .min2 [.d (.int i), .d (.int j)] σ = some (.val (.d (.int (if j < i then j else i)))) := rfl
theorem inner_step {la lb : List Nat} {mc : Int} {bc j : Nat} {d : Dp} {ρ : En} {σ : Hp} (hρ : DpR la lb mc σ.length bc d ρ) (hj : j < la.length) (hl : la.length ≤ 40) (ha : ∀ c ∈ la, c < 128) (hbc : bc < 128) (hr : d.row.length = la.length) :
    Goes info O1 innerB (upd 20 (.d (.int j)) ρ) (σ ++ [.lst (intsP d.row)]) fun ρ' σ' => σ' = σ ++ [.lst (intsP (cellD bc d (la[j], j)).row)] ∧ DpR la lb mc σ.length bc (cellD bc d (la[j], j)) ρ' := by
  have hj' : j < d.row.length := hr ▸ hj
  have n1 : nth la (j : Int) = some la[j] := by rw [nth_at _ _ (by (first | lia | omega))]; exact List.getElem?_eq_getElem hj
  have n2 : nth (intsP d.row) (j : Int) = some (.d (.int (d.row.getD j 0))) := by
    rw [nth_at _ _ (by (first | lia | omega)), intsP, List.getElem?_map, List.getD_eq_getElem?_getD, List.getElem?_eq_getElem hj']
    rfl
  have hx : la[j] < 128 := ha _ (List.getElem_mem hj)
  have hc : O1 0 [.d (.str (chS bc)), .d (.str (chS la[j]))] (σ ++ [.lst (intsP d.row)]) = some (.d (.int (subC bc la[j])), σ ++ [.lst (intsP d.row)]) := sub_ok hbc hx
  have hg : (σ ++ [PO.lst (intsP d.row)])[σ.length]? = some (PO.lst (intsP d.row)) := by rw [List.getElem?_append_right (Nat.le_refl _), Nat.sub_self]; rfl
  generalize la[j] = x at *
  have cell : cellD bc d (x, j) = ⟨d.row.getD j 0, (cellD bc d (x, j)).res, d.row.set j (cellD bc d (x, j)).res, if (cellD bc d (x, j)).res < d.mn then (cellD bc d (x, j)).res else d.mn⟩ := rfl
  have cres : (cellD bc d (x, j)).res = if d.dist + subC bc x < (if d.row.getD j 0 < d.res then d.row.getD j 0 else d.res) + 2 then d.dist + subC bc x else (if d.row.getD j 0 < d.res then d.row.getD j 0 else d.res) + 2 := rfl
  generalize hR : (cellD bc d (x, j)).res = R at cell cres
  rw [cell]
  generalize d.row.getD j 0 = y at *
  unfold innerB
  refine goes_next (st_set (.bin (.var hρ.dist) (.call (.two (.var hρ.bc) (.idx (.var hρ.a) (.var rfl) (idxS n1))) hc) rfl)) ?_
  refine goes_next (st_set (.idx (.var hρ.row) (.var rfl) (idx_lo hg n2))) ?_
  refine goes_next (st_set (.bin (.of_val (ev_bi (.two (.var hρ.res) (.var rfl)) rfl min2_of)) (.gl rfl) rfl)) ?_
  refine goes_next (st_set (p := .d (.int R)) (.of_val (ev_bi (.two (.var rfl) (.var rfl)) rfl (min2_of.trans (by rw [cres]))))) ?_
  have hi : (intsP d.row).length = d.row.length := List.length_map _
  refine goes_next (st_idx (.var (x := 15) (p := .d (.int R)) rfl) (.var hρ.row) (.var rfl) (putI_lo hg (hi ▸ hj') (by (first | lia | omega)))) ?_
  have h3 : (σ ++ [PO.lst (intsP d.row)]).set σ.length (PO.lst ((intsP d.row).set j (.d (.int R)))) = σ ++ [PO.lst (intsP (d.row.set j R))] := by
    rw [List.set_append_right _ _ (Nat.le_refl _), Nat.sub_self, intsP, intsP, List.map_set]
    rfl
  rw [h3]
  have tt : Tst info O1 (.cmp .Lt (.var 15) (.var 19)) (upd 15 (.d (.int R)) (upd 22 (.d (.int ((if y < d.res then y else d.res) + 2))) (upd 18 (.d (.int y)) (upd 21 (.d (.int (d.dist + subC bc x))) (upd 20 (.d (.int j)) ρ))))) (σ ++ [.lst (intsP (d.row.set j R))]) (decide (R < d.mn)) (σ ++ [.lst (intsP (d.row.set j R))]) :=
    Tst.cmp (.var rfl) (.var hρ.mn) rfl
  by_cases c : R < d.mn
  · rw [decide_eq_true c] at tt
    rw [if_pos c]
    exact goes_if tt (goes_next (st_set (.var rfl)) (goes_nil (goes_nil ⟨rfl, hρ.a, hρ.b, hρ.mc, hρ.row, hρ.bc, rfl, rfl, rfl⟩)))
  · rw [decide_eq_false c] at tt
    rw [if_neg c]
    exact goes_no tt (goes_nil ⟨rfl, hρ.a, hρ.b, hρ.mc, hρ.row, hρ.bc, rfl, rfl, hρ.mn⟩)
noncomputable def outerB : List St' := [(.set 17 (.idx (.var 9) (.var 16))), (.setB 18 15 (.bin .Mult (.var 16) (.gl 7))), (.set 19 (.int 9223372036854775807)), (.fo (.one 20) (.range [(.bi .len [(.var 8)])]) innerB), (.cond (.cmp .Gt (.var 19) (.var 13)) [(.ret (.bin .Add (.var 13) (.int 1)))] [])]
theorem len_S {σ : Hp} {l : List Nat} (h : l.length < 1000) : callBi .len [tx l] σ = some (.val (.d (.int l.length))) := or_l (bn_eq rfl (gd_eq (Nat.lt_trans h (by decide)) rfl))
theorem len_ev {O : Orc} {ρ : En} {σ : Hp} {l : List Nat} {v : Nat} (h : getV v ρ = some (tx l)) (hl : l.length < 1000) : EV info O (.bi .len [(.var v)]) ρ σ (.d (.int l.length)) σ := .lenD (.var h) (len_S hl)
theorem range_at {n j : Nat} {i : Item} (h : ((rangeL 0 n).map Item.one)[j]? = some i) : j < n ∧ i = .one (.d (.int j)) := by
  rw [List.getElem?_map, rangeL_at] at h
  by_cases c : j < n
  · rw [if_pos c, Int.zero_add] at h
    exact ⟨c, (Option.some.inj h).symm⟩
  · rw [if_neg c] at h
    cases h
theorem range_S {O : Orc} {ρ : En} {σ : Hp} {l : List Nat} {v : Nat} (h : getV v ρ = some (tx l)) (hl : l.length < 1000) : evIt info O (.range [(.bi .len [(.var v)])]) ρ σ = some (.imm ((rangeL 0 l.length).map .one), σ) := range1 (len_ev h hl) hl
theorem outer_step {la lb : List Nat} {mc : Int} {i : Nat} {row : List Int} {ρ : En} {σ : Hp} (h : LvR la lb mc ρ) (h4 : getV 14 ρ = some (.loc σ.length))
    (hi : i < lb.length) (hl : la.length ≤ 40) (hl2 : lb.length ≤ 40) (ha : ∀ c ∈ la, c < 128) (hb : ∀ c ∈ lb, c < 128) (hr : row.length = la.length) :
    (¬ mc < (rowD la row i lb[i]).mn ∧ Goes info O1 outerB (upd 16 (.d (.int i)) ρ) (σ ++ [.lst (intsP row)]) fun ρ' σ' => σ' = σ ++ [.lst (intsP (rowD la row i lb[i]).row)] ∧ LvR la lb mc ρ' ∧ getV 14 ρ' = some (.loc σ.length) ∧ getV 15 ρ' = some (.d (.int (rowD la row i lb[i]).res)) ∧ (rowD la row i lb[i]).row.length = la.length) ∨
    (mc < (rowD la row i lb[i]).mn ∧ Tells info O1 outerB (upd 16 (.d (.int i)) ρ) (σ ++ [.lst (intsP row)]) fun p σ' => p = .d (.int (mc + 1)) ∧ ∃ τ, σ' = σ ++ τ) := by
  have n1 : nth lb (i : Int) = some lb[i] := by rw [nth_at _ _ (by (first | lia | omega))]; exact List.getElem?_eq_getElem hi
  have hx : lb[i] < 128 := hb _ (List.getElem_mem hi)
  generalize lb[i] = bc at *
  have s1 : exS info O1 (.set 17 (.idx (.var 9) (.var 16))) (upd 16 (.d (.int i)) ρ) (σ ++ [.lst (intsP row)]) = some (.next, upd 17 (.d (.str (chS bc))) (upd 16 (.d (.int i)) ρ), σ ++ [.lst (intsP row)]) := st_set (.idx (.var h.b) (.var rfl) (idxS n1))
  have s2 : exS info O1 (.setB 18 15 (.bin .Mult (.var 16) (.gl 7))) (upd 17 (.d (.str (chS bc))) (upd 16 (.d (.int i)) ρ)) (σ ++ [.lst (intsP row)]) = some (.next, upd 15 (.d (.int (i * 2))) (upd 18 (.d (.int (i * 2))) (upd 17 (.d (.str (chS bc))) (upd 16 (.d (.int i)) ρ))), σ ++ [.lst (intsP row)]) := st_setB (.bin (.var rfl) (.gl rfl) (j := 2) (gd_eq (by (first | lia | omega)) rfl))
  have s4 : ∀ ρ', DpR la lb mc σ.length bc ⟨i * 2, i * 2, row, 9223372036854775807⟩ ρ' → ∃ ρ₂ σ₂, exS info O1 (.fo (.one 20) (.range [(.bi .len [(.var 8)])]) innerB) ρ' (σ ++ [.lst (intsP row)]) = some (.next, ρ₂, σ₂) ∧ σ₂ = σ ++ [.lst (intsP (rowD la row i bc).row)] ∧ DpR la lb mc σ.length bc (rowD la row i bc) ρ₂ ∧ (rowD la row i bc).row.length = la.length := by
    intro ρ' g
    obtain ⟨ρ₂, σ₂, e, q1, q2, q3⟩ := for_goes (I := info) (O := O1) (t := .one 20) (it := .range [(.bi .len [(.var 8)])]) (body := innerB) (ρ := ρ') (σ := σ ++ [.lst (intsP row)]) (fun j ρ' σ' => σ' = σ ++ [.lst (intsP ((la.zipIdx.take j).foldl (cellD bc) ⟨i * 2, i * 2, row, 9223372036854775807⟩).row)] ∧ DpR la lb mc σ.length bc ((la.zipIdx.take j).foldl (cellD bc) ⟨i * 2, i * 2, row, 9223372036854775807⟩) ρ' ∧ ((la.zipIdx.take j).foldl (cellD bc) ⟨i * 2, i * 2, row, 9223372036854775807⟩).row.length = la.length)
      (range_S g.a (by (first | lia | omega))) ⟨rfl, g, hr⟩ (fun j it ρ σ' hj y => by
        obtain ⟨p1, p2, p3⟩ := y
        obtain ⟨c, rfl⟩ := range_at hj
        refine ⟨_, rfl, ?_⟩
        have ez : la.zipIdx.take (j + 1) = la.zipIdx.take j ++ [(la[j], j)] := by
          rw [List.take_succ_eq_append_getElem (by rw [List.length_zipIdx]; exact c), List.getElem_zipIdx, Nat.zero_add]
        rw [ez, List.foldl_append, p1]
        obtain ⟨ρ₃, σ₃, e, q1, q2⟩ := inner_step (σ := σ) p2 c hl ha hx p3
        exact ⟨ρ₃, σ₃, e, q1, q2, by rw [List.foldl_cons, List.foldl_nil, cellD_len]; exact p3⟩)
    refine ⟨ρ₂, σ₂, e, ?_⟩
    have ez : la.zipIdx.take ((rangeL 0 la.length).map Item.one).length = la.zipIdx := by
      rw [List.length_map, rangeL_length]
      exact List.take_of_length_le (by rw [List.length_zipIdx]; exact Nat.le_refl _)
    rw [ez] at q1 q2 q3
    exact ⟨q1, q2, q3⟩
  obtain ⟨ρ₄, σ₄, e4, q1, q2, q3⟩ := s4 (upd 19 (.d (.int 9223372036854775807)) (upd 15 (.d (.int (i * 2))) (upd 18 (.d (.int (i * 2))) (upd 17 (.d (.str (chS bc))) (upd 16 (.d (.int i)) ρ))))) ⟨h.a, h.b, h.mc, h4, rfl, rfl, rfl, rfl⟩
  subst q1
  generalize rowD la row i bc = d at *
  have tt : Tst info O1 (.cmp .Gt (.var 19) (.var 13)) ρ₄ (σ ++ [.lst (intsP d.row)]) (decide (mc < d.mn)) (σ ++ [.lst (intsP d.row)]) := Tst.cmp (.var q2.mn) (.var q2.mc) rfl
  by_cases c : mc < d.mn
  · rw [decide_eq_true c] at tt
    exact .inr ⟨c, tell_next s1 (tell_next s2 (tell_next (st_set .int) (tell_next e4 (tell_if1 tt (tell_now (.bin (.var q2.mc) .int rfl) ⟨rfl, _, rfl⟩)))))⟩
  · rw [decide_eq_false c] at tt
    exact .inl ⟨c, goes_next s1 (goes_next s2 (goes_next (st_set .int) (goes_next e4 (goes_no tt (goes_nil ⟨rfl, ⟨q2.a, q2.b, q2.mc⟩, q2.row, q2.res, q3⟩)))))⟩
theorem lev_ok {la lb : List Nat} {mc : Int} {σ : Hp} (hl : la.length = lb.length) (hn : la.length ≤ 40) (ha : ∀ c ∈ la, c < 128) (hb : ∀ c ∈ lb, c < 128) (hm : 0 ≤ mc) :
    ∃ τ, runFn info O1 f__levenshtein_distance [tx la, tx lb, .d (.int mc)] σ = some (.d (.int (levF la lb mc)), σ ++ τ) := by
  refine Exists.elim (tells_fn (R := fun p σ' => p = .d (.int (levF la lb mc)) ∧ ∃ τ, σ' = σ ++ τ) (ρ := [(8, some (tx la)), (9, some (tx lb)), (13, some (.d (.int mc)))]) rfl ?_) fun p hp => by
    obtain ⟨σ', e, h1, τ, h2⟩ := hp
    exact ⟨τ, by rw [← h1, ← h2]; exact e⟩
  have h0 : LvR la lb mc [(8, some (tx la)), (9, some (tx lb)), (13, some (.d (.int mc)))] := ⟨rfl, rfl, rfl⟩
  unfold f__levenshtein_distance
  dsimp only
  generalize [(8, some (tx la)), (9, some (tx lb)), (13, some (PV.d (.int mc)))] = ρ₀ at h0
  have t0 : Tst info O1 (.cmp .Eq (.var 8) (.var 9)) ρ₀ σ (decide (la = lb)) σ := Tst.cmp (.var h0.a) (.var h0.b) (eqS ha hb)
  by_cases c0 : la = lb
  · rw [decide_eq_true c0] at t0
    exact tell_if1 t0 (tell_now .int ⟨by rw [levF, if_pos c0], [], (List.append_nil σ).symm⟩)
  rw [decide_eq_false c0] at t0
  refine tell_no t0 (tell_next (st_set .int) ?_)
  refine tell_ex (pre_loop (ρ := upd 10 (.d (.int 0)) ρ₀) ⟨h0.a, h0.b, h0.mc⟩ rfl hl hn ha hb) fun ρ' σ' y => ?_
  obtain ⟨e1, h1, g1⟩ := y
  subst e1
  have hv : levF la lb mc = coreF ((la.drop (preN la lb)).take ((la.drop (preN la lb)).length - preN (la.drop (preN la lb)).reverse (lb.drop (preN la lb)).reverse)) ((lb.drop (preN la lb)).take ((lb.drop (preN la lb)).length - preN (la.drop (preN la lb)).reverse (lb.drop (preN la lb)).reverse)) mc := by rw [levF, if_neg c0]
  rw [hv]
  have l1 : la.length < 1000 := Nat.lt_of_le_of_lt hn (by decide)
  have l2 : lb.length < 1000 := hl ▸ l1
  generalize preN la lb = p at *
  refine tell_next (st_set (slcFrom h1.a g1 l1)) (tell_next (st_set (slcFrom (v := 9) (l := lb) h1.b g1 l2)) ?_)
  have hl' : (la.drop p).length = (lb.drop p).length := by rw [List.length_drop, List.length_drop, hl]
  have hn' : (la.drop p).length ≤ 40 := by rw [List.length_drop]; exact Nat.le_trans (Nat.sub_le _ _) hn
  have ha' : ∀ c ∈ la.drop p, c < 128 := fun c hc => ha c (List.mem_of_mem_drop hc)
  have hb' : ∀ c ∈ lb.drop p, c < 128 := fun c hc => hb c (List.mem_of_mem_drop hc)
  generalize la.drop p = xa at *
  generalize lb.drop p = xb at *
  refine tell_next (st_set .int) ?_
  refine tell_ex (post_loop (la := xa) (lb := xb) (mc := mc) (ρ := upd 11 (.d (.int 0)) (upd 9 (tx xb) (upd 8 (tx xa) ρ'))) ⟨rfl, rfl, h1.mc⟩ rfl hl' hn' ha' hb') fun ρ₂ σ₂ y => ?_
  obtain ⟨e1, h2, g2⟩ := y
  subst e1
  have hq : preN xa.reverse xb.reverse ≤ xa.length := by simpa using preN_le xa.reverse xb.reverse
  generalize preN xa.reverse xb.reverse = q at *
  refine tell_next (st_set (slcBack h2.a g2 hq (Nat.lt_of_le_of_lt hn' (by decide)))) (tell_next (st_set (slcBack (v := 9) (l := xb) h2.b g2 (hl' ▸ hq) (hl' ▸ Nat.lt_of_le_of_lt hn' (by decide)))) ?_)
  have hl2 : (xa.take (xa.length - q)).length = (xb.take (xb.length - q)).length := by rw [List.length_take, List.length_take, hl']
  have hn2 : (xa.take (xa.length - q)).length ≤ 40 := Nat.le_trans (List.length_take_le _ _) (Nat.le_trans (Nat.sub_le _ _) hn')
  have ha2 : ∀ c ∈ xa.take (xa.length - q), c < 128 := fun c hc => ha' c (List.mem_of_mem_take hc)
  have hb2 : ∀ c ∈ xb.take (xb.length - q), c < 128 := fun c hc => hb' c (List.mem_of_mem_take hc)
  generalize xa.take (xa.length - q) = ya at *
  generalize xb.take (xb.length - q) = yb at *
  have h3 : LvR ya yb mc (upd 9 (tx yb) (upd 8 (tx ya) ρ₂)) := ⟨rfl, rfl, h2.mc⟩
  generalize upd 9 (tx yb) (upd 8 (tx ya) ρ₂) = ρ₃ at h3
  have l5 : ya.length < 1000 := Nat.lt_of_le_of_lt hn2 (by decide)
  have l6 : yb.length < 1000 := hl2 ▸ l5
  have E1 : EV info O1 (.bi .len [.var 8]) ρ₃ σ₂ (.d (.int ya.length)) σ₂ := len_ev h3.a l5
  have E2 : EV info O1 (.bi .len [.var 9]) ρ₃ σ₂ (.d (.int ya.length)) σ₂ := by rw [hl2]; exact len_ev h3.b l6
  by_cases c1 : ya = []
  · refine tell_if1 (Tst.of (.or1 (.not (.var h3.a) (tru_0 c1)) rfl) rfl) (tell_now (.bin (.gl rfl) (.bin E1 E2 rfl) (i := 2) (k := 0) ?_) ⟨by rw [coreF, if_pos c1], [], (List.append_nil _).symm⟩)
    rw [c1]
    rfl
  have c2 : yb ≠ [] := fun e => c1 (by rw [e] at hl2; exact List.length_eq_zero_iff.mp hl2)
  have gt0 : cmpop σ₂ .Gt (.d (.int ya.length)) (.d (.int 40)) = some false := congrArg some (decide_eq_false (by (first | lia | omega)))
  refine tell_no (Tst.of (.or2 (.not (.var h3.a) (tru_1 l5 c1)) rfl (.not (.var h3.b) (tru_1 l6 c2))) rfl) ?_
  refine tell_no (Tst.of (.or2 (.cmp E1 (.gl rfl) gt0) rfl (.cmp E2 (.gl rfl) gt0)) rfl) ?_
  refine tell_no (Tst.cmp E2 E1 (r := false) (congrArg some (decide_eq_false (by (first | lia | omega))))) ?_
  refine tell_no (Tst.cmp (.bin (.bin E2 E1 (k := 0) (congrArg some (by (first | lia | omega)))) (.gl rfl) (k := 0) rfl) (.var h3.mc) (r := false) (congrArg some (decide_eq_false (by (first | lia | omega))))) ?_
  refine tell_next (ρ₁ := upd 14 (.loc σ₂.length) ρ₃) (σ₁ := σ₂ ++ [.lst (intsP (firstRow ya.length))]) (by
    have h0 : 0 < ya.length := List.length_pos_iff.mpr c1
    have e1 : (Builtin.Range.rangeSize 2 (2 * ((ya.length : Int) + 1)) 2).toNat = ya.length := by
      unfold Builtin.Range.rangeSize
      rw [if_pos (by (first | lia | omega)), if_pos (by (first | lia | omega))]
      (first | lia | omega)
    have g3 : callBi .listrange [.d (.int 2), .d (.int (2 * ((ya.length : Int) + 1))), .d (.int 2)] σ₂ = some (.fresh (intsP (firstRow ya.length))) := bn_eq rfl (bn_eq rfl (bn_eq rfl (gd_eq (by (first | lia | omega)) (by rw [e1, rangeS_row]))))
    exact st_set (.mut (ev_bi (.three (.gl rfl) (.bin (.gl rfl) (.bin E1 .int rfl) (i := 2) (gd_eq (by decide) rfl)) (.gl rfl)) rfl g3))) ?_
  refine tell_next (st_set .int) ?_
  have hcore : coreF ya yb mc = rowsD ya mc yb 0 (firstRow ya.length) 0 := by rw [coreF, if_neg c1]
  refine for_tells (P := fun i ρ σ' => ∃ (row : List Int) (res : Int), σ' = σ₂ ++ [.lst (intsP row)] ∧ row.length = ya.length ∧ LvR ya yb mc ρ ∧ getV 14 ρ = some (.loc σ₂.length) ∧ getV 15 ρ = some (.d (.int res)) ∧ coreF ya yb mc = rowsD ya mc (yb.drop i) i row res)
    (xs := (rangeL 0 yb.length).map .one) (σ₁ := σ₂ ++ [.lst (intsP (firstRow ya.length))]) (range_S h3.b l6) ⟨firstRow ya.length, 0, rfl, (List.length_map _).trans List.length_range, ⟨h3.a, h3.b, h3.mc⟩, rfl, rfl, hcore⟩ (fun i it ρ σ' hj y => ?_) fun ρ σ' y => ?_
  · obtain ⟨row, res, k1, k2, k3, k6, k7, k8⟩ := y
    obtain ⟨hi, rfl⟩ := range_at hj
    refine ⟨_, rfl, ?_⟩
    subst k1
    have kk : yb.drop i = yb[i] :: yb.drop (i + 1) := List.drop_eq_getElem_cons hi
    rw [kk, rowsD_c] at k8
    rcases outer_step (i := i) (row := row) (σ := σ₂) k3 k6 hi hn2 (by (first | lia | omega)) ha2 hb2 k2 with ⟨g1, ρ', σ', g2, z1, z2, z5, z6, z7⟩ | ⟨g1, g2⟩
    · exact .inl ⟨ρ', σ', g2, (rowD ya row i yb[i]).row, (rowD ya row i yb[i]).res, z1, z7, z2, z5, z6, k8.trans (if_neg g1)⟩
    · refine .inr ?_
      rw [k8.trans (if_pos g1)]
      exact g2
  · obtain ⟨row, res, k1, k2, k3, k6, k7, k8⟩ := y
    refine tell_ret (st_ret (.var k7)) ⟨?_, _, k1⟩
    rw [k8, List.length_map, rangeL_length, List.drop_length, rowsD_z]
end L2
end
section
open PySem Mine
namespace L2
noncomputable def bit (v k : Nat) : Nat := v / 2 ^ k % 2
noncomputable def bitsL (v : Nat) : List PyData := (List.range' 0 5).map fun (k : Nat) => PyData.int (bit v k : Nat)
noncomputable def rowD (v : Nat) : PyData := .list (bitsL v)
noncomputable def wd5 (v : Nat) : List Nat := (List.range 5).map fun k => if bit v k = 1 then 65 + k else 97 + k
noncomputable def agree (c v w : Nat) : Bool := (List.range 5).all fun k => decide (k = c) || decide (bit v k = bit w k)
noncomputable def anyP (us : List Nat) (q : Nat → Nat → Bool) : Bool := (List.range us.length).any fun k => (us.take k).any fun w => q (us.getD k 0) w
noncomputable def need (us : List Nat) (c : Nat) : Bool := anyP us (agree c)
noncomputable def cols (us : List Nat) : List Nat := (List.range 5).filter (need us)
noncomputable def iP (l : List Nat) : List PV := l.map fun x => .d (.int (x : Nat))
noncomputable def iD (l : List Nat) : List PyData := l.map fun x => .int (x : Nat)
theorem dats_iP : ∀ l : List Nat, dats (iP l) = some (iD l)
  | [] => rfl
  | _ :: r => dats_dc (dats_iP r)
noncomputable def tN : Str := nm info 24
noncomputable def IsT (σ : Hp) (l : Nat) (ks : PyData) : Prop := ∃ dl, σ[l]? = some (.inst 76 dl) ∧ σ[dl]? = some (.ns [(tN, .d ks)])
noncomputable def kT : Cls := (lk 47 info.cls).getD ⟨0, 0, [], []⟩
theorem clsT : clsAt info 76 = some kT := rfl
theorem att_t {σ : Hp} {l : Nat} {ks : PyData} (H : IsT σ l ks) : getA info σ (.loc l) 24 = some (.d ks) := by
  obtain ⟨dl, h1, h2⟩ := H
  exact (getA_at h1 h2 clsT rfl).trans (if_pos rfl)
theorem meth_t {σ : Hp} {l : Nat} {ks : PyData} (H : IsT σ l ks) : methOf info σ l 51 = some 3 := by
  obtain ⟨dl, h1, h2⟩ := H
  exact (meth_at h1 h2 clsT (if_neg (by decide +kernel))).trans rfl
theorem newT_ok {O : Orc} {ρ : En} {σ σ₁ : Hp} {e : Ex} {ks : PyData} (hO : ∀ as σ, O 2 as σ = runFn info O2 f_TupleComp___init__ as σ) (he : fin (ev info O e ρ σ) = some (.d ks, σ₁)) :
    ev info O (.new 47 [e]) ρ σ = some (.val (.loc (σ₁.length + 1)), σ₁ ++ [PO.ns [(tN, .d ks)], PO.inst 76 σ₁.length]) ∧ IsT (σ₁ ++ [PO.ns [(tN, .d ks)], PO.inst 76 σ₁.length]) (σ₁.length + 1) ks := by
  have q1 : (σ₁ ++ [PO.ns []] ++ [PO.inst 76 σ₁.length])[σ₁.length + 1]? = some (.inst 76 σ₁.length) := by simp
  have q2 : (σ₁ ++ [PO.ns []] ++ [PO.inst 76 σ₁.length])[σ₁.length]? = some (.ns []) := by simp
  have q3 : (σ₁ ++ [PO.ns []] ++ [PO.inst 76 σ₁.length]).set σ₁.length (.ns [(tN, .d ks)]) = σ₁ ++ [PO.ns [(tN, .d ks)], PO.inst 76 σ₁.length] := by simp
  have a : runFn info O2 f_TupleComp___init__ [.loc (σ₁.length + 1), .d ks] (σ₁ ++ [PO.ns []] ++ [PO.inst 76 σ₁.length]) = some (.d .none, σ₁ ++ [PO.ns [(tN, .d ks)], PO.inst 76 σ₁.length]) := by
    rw [← q3]
    exact run_end rfl (seq_next (st_setA (.var rfl) (.var rfl) (putA_at q1 q2 clsT ⟨rfl, by decide⟩)))
  exact ⟨ev_new (k := kT) rfl (.one he) ((hO _ _).trans a), ⟨σ₁.length, by simp, by simp⟩⟩
theorem bit_at {v k : Nat} (h : k < 5) : nth (bitsL v) (k : Int) = some (.int (bit v k : Nat)) := by
  rw [nth_at _ _ (Nat.lt_trans h (by decide)), bitsL, List.getElem?_map, List.getElem?_range' h, Nat.zero_add, Nat.one_mul]
  rfl
noncomputable def keysL (c : Nat) : List Nat := (List.range 5).filter fun k => !decide (k = c)
noncomputable def keyT (k : Nat) : PyData := .tuple [.int (k : Nat), .int 1]
noncomputable def keysD (c : Nat) : PyData := .list ((keysL c).map keyT)
noncomputable def sgP (a b : Nat) : Option PV := if (a : Int) < b then some (.d (.int (-1))) else if (b : Int) < a then some (.d (.int 1)) else none
noncomputable def cmpI (v w : Nat) : Item → Option PV
  | .one (.d (.tuple [.int k, _])) => sgP (bit v k.toNat) (bit w k.toNat)
  | _ => none
noncomputable def cmpB : List St' := [(.set 27 (.idx (.var 26) (.var 20))), (.set 29 (.idx (.var 28) (.var 20))), (.cond (.cmp .Lt (.var 27) (.var 29)) [(.ret (.usub (.var 25)))] []), (.cond (.cmp .Gt (.var 27) (.var 29)) [(.ret (.var 25))] [])]
theorem cmp_turn {ρ : En} {σ : Hp} {v w k : Nat} (hk : k < 5) (h1 : getV 26 ρ = some (.d (rowD v))) (h2 : getV 28 ρ = some (.d (rowD w))) :
    ∃ ρ₂, exSs info O3 cmpB (upd 25 (.d (.int 1)) (upd 20 (.d (.int k)) ρ)) σ = some (floP (sgP (bit v k) (bit w k)), ρ₂, σ) ∧ getV 26 ρ₂ = some (.d (rowD v)) ∧ getV 28 ρ₂ = some (.d (rowD w)) := by
  refine ⟨upd 29 (.d (.int (bit w k : Nat))) (upd 27 (.d (.int (bit v k : Nat))) (upd 25 (.d (.int 1)) (upd 20 (.d (.int k)) ρ))), ?_, h1, h2⟩
  refine (seq_next (st_set (.idx (.var (ρ := upd 25 (.d (.int 1)) (upd 20 (.d (.int k)) ρ)) (x := 26) h1) (.var (x := 20) rfl) (idx_lst (bit_at hk))))).trans ((seq_next (st_set (.idx (.var (ρ := upd 27 (.d (.int (bit v k : Nat))) (upd 25 (.d (.int 1)) (upd 20 (.d (.int k)) ρ))) (x := 28) h2) (.var (x := 20) rfl) (idx_lst (bit_at hk))))).trans ?_)
  generalize bit v k = a
  generalize bit w k = b
  have t1 : Tst info O3 (.cmp .Lt (.var 27) (.var 29)) (upd 29 (.d (.int (b : Nat))) (upd 27 (.d (.int (a : Nat))) (upd 25 (.d (.int 1)) (upd 20 (.d (.int k)) ρ)))) σ (decide ((a : Int) < b)) σ := Tst.cmp (.var rfl) (.var rfl) rfl
  have t2 : Tst info O3 (.cmp .Gt (.var 27) (.var 29)) (upd 29 (.d (.int (b : Nat))) (upd 27 (.d (.int (a : Nat))) (upd 25 (.d (.int 1)) (upd 20 (.d (.int k)) ρ)))) σ (decide ((b : Int) < a)) σ := Tst.cmp (.var rfl) (.var rfl) rfl
  unfold sgP
  by_cases c : (a : Int) < b
  · rw [decide_eq_true c] at t1
    rw [if_pos c]
    exact seq_ret ((st_if1 t1).trans (seq_ret (st_ret (.usub (.var rfl)))))
  · rw [decide_eq_false c] at t1
    rw [if_neg c]
    refine (seq_next (st_no t1)).trans ?_
    by_cases d : (b : Int) < a
    · rw [decide_eq_true d] at t2
      rw [if_pos d]
      exact seq_ret ((st_if1 t2).trans (seq_ret (st_ret (.var rfl))))
    · rw [decide_eq_false d] at t2
      rw [if_neg d]
      exact seq_next (st_no t2)
theorem key_lt {c k : Nat} (h : k ∈ keysL c) : k < 5 := List.mem_range.mp (List.mem_filter.mp h).1
theorem compare_ok {σ : Hp} {l c v w : Nat} (H : IsT σ l (keysD c)) :
    runFn info O3 f_TupleComp_compare [.loc l, .d (rowD v), .d (rowD w)] σ = some (((((keysL c).map keyT).map PV.d).map Item.one).findSome? (cmpI v w) |>.getD (.d (.int 0)), σ) := by
  obtain ⟨ρ', h1, h2⟩ := for_find (I := info) (O := O3) (t := .two 20 25) (it := .ex (.attr (.var 23) 24)) (body := cmpB) (s := .imm ((((keysL c).map keyT).map PV.d).map Item.one)) (ρ := [(23, some (.loc l)), (26, some (.d (rowD v))), (28, some (.d (rowD w)))]) (σ := σ) (σ₁ := σ)
    (fun ρ => getV 26 ρ = some (.d (rowD v)) ∧ getV 28 ρ = some (.d (rowD w))) (cmpI v w) (evIt_data (.attr (.var rfl) (att_t H))) .imm ⟨rfl, rfl⟩ (fun i hi ρ hp => by
      simp only [List.map_map, List.mem_map, Function.comp_apply] at hi
      obtain ⟨k, hk, e⟩ := hi
      subst e
      obtain ⟨ρ₂, e2, e3⟩ := cmp_turn (σ := σ) (key_lt hk) hp.1 hp.2
      exact ⟨_, rfl, ρ₂, e2, e3⟩)
  cases h : ((((keysL c).map keyT).map PV.d).map Item.one).findSome? (cmpI v w) with
  | some p => rw [h] at h1; exact run_of rfl (seq_ret h1)
  | none => rw [h] at h1; exact run_of rfl ((seq_next h1).trans (seq_ret (st_ret .int)))
theorem sg_none {a b : Nat} : sgP a b = none ↔ a = b := by
  unfold sgP
  by_cases c : (a : Int) < b
  · rw [if_pos c]; exact ⟨fun h => (ns h.symm).elim, fun h => by (first | lia | omega)⟩
  · rw [if_neg c]
    by_cases d : (b : Int) < a
    · rw [if_pos d]; exact ⟨fun h => (ns h.symm).elim, fun h => by (first | lia | omega)⟩
    · rw [if_neg d]; exact ⟨fun _ => by (first | lia | omega), fun _ => rfl⟩
theorem agree_iff {c v w : Nat} : agree c v w = true ↔ ∀ k ∈ keysL c, bit v k = bit w k := by
  unfold agree keysL
  rw [List.all_eq_true]
  constructor
  · intro h k hk
    obtain ⟨h1, h2⟩ := List.mem_filter.mp hk
    have := h k h1
    simp only [Bool.or_eq_true, decide_eq_true_eq] at this
    exact this.resolve_left (by simpa using h2)
  · intro h k hk
    simp only [Bool.or_eq_true, decide_eq_true_eq]
    by_cases e : k = c
    · exact .inl e
    · exact .inr (h k (List.mem_filter.mpr ⟨hk, by simpa using e⟩))
theorem sg_some {a b : Nat} {p : PV} (h : sgP a b = some p) : ∃ z, p = .d (.int z) ∧ z ≠ 0 := by
  unfold sgP at h
  split at h
  · cases h; exact ⟨_, rfl, by decide⟩
  · split at h
    · cases h; exact ⟨_, rfl, by decide⟩
    · cases h
theorem judge_eq {σ : Hp} {c v w : Nat} : cmpop σ .Eq (((((keysL c).map keyT).map PV.d).map Item.one).findSome? (cmpI v w) |>.getD (.d (.int 0))) (.d (.int 0)) = some (agree c v w) := by
  cases h : ((((keysL c).map keyT).map PV.d).map Item.one).findSome? (cmpI v w) with
  | none =>
    have : agree c v w = true := agree_iff.mpr fun k hk => sg_none.mp (List.findSome?_eq_none_iff.mp h (.one (.d (keyT k))) (List.mem_map_of_mem (List.mem_map_of_mem (List.mem_map_of_mem hk))))
    rw [this]
    rfl
  | some p =>
    obtain ⟨i, hi, hp⟩ := List.exists_of_findSome?_eq_some h
    simp only [List.map_map, List.mem_map, Function.comp_apply] at hi
    obtain ⟨k, hk, e⟩ := hi
    subst e
    obtain ⟨z, e, hz⟩ := sg_some (a := bit v k) (b := bit w k) hp
    subst e
    have : agree c v w = false := Bool.eq_false_iff.mpr fun h => by
      have := sg_none.mpr (agree_iff.mp h k hk)
      exact ns (this.symm.trans hp)
    rw [this]
    show orE none (some (decide (z = 0))) = _
    rw [decide_eq_false hz]
    rfl
end L2
end
section
open PySem Mine
namespace L2
structure OkD (n : Nat) (x : PyData) : Prop where
  lay : x.canLay0 = true
  dep : x.depth ≤ n
theorem OkD.int {i : Int} {n : Nat} : OkD n (.int i) := ⟨rfl, by unfold PyData.depth; exact Nat.zero_le _⟩
theorem OkD.list {n : Nat} {ds : List PyData} (h : ∀ x ∈ ds, OkD n x) : OkD (n + 1) (.list ds) := by
  have k : PyData.canLayAll0 ds = true ∧ PyData.depthAll ds ≤ n := by
    induction ds with
    | nil => exact ⟨rfl, by unfold PyData.depthAll; exact Nat.zero_le _⟩
    | cons x r ih =>
      obtain ⟨h1, h2⟩ := ih fun y hy => h y (List.mem_cons_of_mem _ hy)
      obtain ⟨h3, h4⟩ := h x List.mem_cons_self
      refine ⟨?_, ?_⟩
      · rw [PyData.canLayAll0, h3, h1]; rfl
      · rw [PyData.depthAll]; (first | lia | omega)
  refine ⟨?_, ?_⟩
  · rw [PyData.canLay0]; exact k.1
  · rw [PyData.depth]; (first | lia | omega)
theorem OkD.sh {n : Nat} {x : PyData} (h : OkD n x) (hn : n ≤ 64) : sh x = true := by
  show SeqAt.shaped x = true
  unfold SeqAt.shaped
  rw [h.lay, decide_eq_true (Nat.le_trans h.dep hn)]
  rfl
theorem sh_iD (l : List Nat) : sh (.list (iD l)) = true := (OkD.list (n := 0) fun x hx => by
  obtain ⟨k, _, e⟩ := List.mem_map.mp hx
  subst e
  exact .int).sh (by decide)
theorem eqF_d {σ : Hp} {x y : PyData} (hx : sh x = true) (hy : sh y = true) : eqF σ (.d x) (.d y) = some (PyData.eqv x y) := bn_eq rfl (bn_eq rfl (gd_eq (by rw [hx, hy]; rfl) rfl))
theorem ne_d {σ : Hp} {x y : PyData} (hx : sh x = true) (hy : sh y = true) : cmpop σ .NotEq (.d x) (.d y) = some (!PyData.eqv x y) := mp_eq (eqF_d hx hy) rfl
theorem get_mid {σ τ : Hp} {x : PO} : (σ ++ [x] ++ τ)[σ.length]? = some x := by
  rw [List.append_assoc, List.getElem?_append_right (Nat.le_refl _), Nat.sub_self]; rfl
theorem set_mid {σ τ : Hp} {x y : PO} : (σ ++ [x] ++ τ).set σ.length y = σ ++ [y] ++ τ := by
  rw [List.append_assoc, List.set_append_right _ _ (Nat.le_refl _), Nat.sub_self, List.append_assoc]; rfl
noncomputable def rowsP (us : List Nat) : PyData := .list (us.map rowD)
noncomputable def unrow : PyData → Nat
  | .list [.int a, .int b, .int c, .int d, .int e] => a.toNat + 2 * b.toNat + 4 * c.toNat + 8 * d.toNat + 16 * e.toNat
  | _ => 0
theorem unrow_ok : ∀ v, v < 32 → unrow (rowD v) = v := by decide +kernel
noncomputable def ok32 (us : List Nat) : Prop := ∀ u ∈ us, u < 32
noncomputable def qI (c v : Nat) : Item → Bool
  | .one (.d r) => agree c v (unrow r)
  | _ => false
noncomputable def oneI (_ : Item) : PV := .d (.int 1)
noncomputable def earlier (us : List Nat) (k : Nat) : List Item := (((us.take k).map rowD).map PV.d).map Item.one
noncomputable def pairI (us : List Nat) (c : Nat) : Item → List PV
  | .two (.d (.int k)) (.d r) => ((earlier us k.toNat).filter (qI c (unrow r))).map oneI
  | _ => []
noncomputable def pairE : Ex := .comp (.gen (.two 39 14) (.enum (.var 49)) [] (.gen (.one 50) (.ex (.slc (.var 49) none (some (.var 39)))) [(.cmp .Eq (.meth (.var 48) (.own 51) [(.var 14), (.var 50)] none) (.int 0))] (.emit (.int 1))))
theorem slc_d {σ : Hp} {xs : List PyData} {k : Nat} (h : xs.length < 1000) : slice σ (.d (.list xs)) none (some (.d (.int k))) = some (.fresh ((xs.take k).map .d)) :=
  bn_eq rfl (bn_eq rfl (or_r rfl (or_l (bn_eq rfl (gd_eq (Nat.lt_trans h (by decide)) (by rw [cut_take]))))))
theorem take_ev {O : Orc} {ρ : En} {σ : Hp} {us : List Nat} {k v x : Nat} (hl : us.length ≤ 5) (h : getV x ρ = some (.d (rowsP us))) (hk : getV v ρ = some (.d (.int k))) : EV info O (.slc (.var x) none (some (.var v))) ρ σ (.d (rowsP (us.take k))) σ := by
  have s := ev_slc (I := info) (O := O) (.var h) evo_none (evo_some (.var hk)) (slc_d (σ := σ) (xs := us.map rowD) (k := k) (by rw [List.length_map]; exact Nat.lt_of_le_of_lt hl (by decide)))
  rw [← List.map_take] at s
  exact .of_fresh s (dats_d _)
theorem enum_ev {O : Orc} {ρ : En} {σ : Hp} {e : Ex} {ds : List PyData} (h : EV info O e ρ σ (.d (.list ds)) σ) : evIt info O (.enum e) ρ σ = some (.imm (enumF 0 (ds.map .d)), σ) := bd_eq h rfl
theorem enum_at {ds : List PyData} {i : Item} {j : Nat} (h : (enumF 0 (ds.map .d))[j]? = some i) : ∃ d, ds[j]? = some d ∧ i = .two (.d (.int j)) (.d d) := by
  obtain ⟨p, h1, h2⟩ := enumF_get _ _ _ h
  rw [List.getElem?_map] at h1
  obtain ⟨d, h3, h4⟩ := mp_some h1
  exact ⟨d, h3, by rw [h2, ← h4, Int.zero_add]⟩
theorem enum_mem {ds : List PyData} {i : Item} (h : i ∈ enumF 0 (ds.map .d)) : ∃ (j : Nat) (d : PyData), ds[j]? = some d ∧ i = .two (.d (.int j)) (.d d) := by
  obtain ⟨j, hj⟩ := List.mem_iff_getElem?.mp h
  obtain ⟨d, h1, h2⟩ := enum_at hj
  exact ⟨j, d, h1, h2⟩
theorem row_at {us : List Nat} {j : Nat} {d : PyData} (h : (us.map rowD)[j]? = some d) : ∃ u, us[j]? = some u ∧ d = rowD u := by
  rw [List.getElem?_map] at h
  obtain ⟨u, h1, h2⟩ := mp_some h
  exact ⟨u, h1, h2.symm⟩
theorem earlier_mem {us : List Nat} {k : Nat} {i : Item} (h : i ∈ earlier us k) : ∃ w, w ∈ us.take k ∧ i = .one (.d (rowD w)) := by
  unfold earlier at h
  simp only [List.map_map, List.mem_map, Function.comp_apply] at h
  obtain ⟨w, h1, h2⟩ := h
  exact ⟨w, h1, h2.symm⟩
theorem earlier_len {us : List Nat} {k : Nat} : (earlier us k).length ≤ us.length := by
  unfold earlier
  simp only [List.length_map, List.length_take]
  exact Nat.min_le_right _ _
theorem flat_le {α β : Type} {f : α → List β} {n : Nat} : ∀ {l : List α}, (∀ x ∈ l, (f x).length ≤ n) → (l.flatMap f).length ≤ l.length * n
  | [], _ => Nat.zero_le _
  | a :: r, h => by
    have h1 := h a List.mem_cons_self
    have h2 := flat_le (l := r) fun x hx => h x (List.mem_cons_of_mem _ hx)
    rw [List.flatMap_cons, List.length_append, List.length_cons, Nat.add_mul]
    (first | lia | omega)
theorem comp_filterW {I : Info} {O : Orc} {ρ₀ ρ : En} {σ σ₁ : Hp} {t : Tgt} {it : It} {c e : Ex} {s : Src} {xs : List Item} {acc : List PV} (q : Item → Bool) (g : Item → PV) (hi : evIt I O it ρ₀ σ = some (s, σ₁)) (hsrc : SrcIs σ₁ s xs)
    (hs : ∀ i ∈ xs, ∃ ρ', bindT t i ρ = some ρ' ∧ (∃ p, fin (ev I O c ρ' σ₁) = some (p, σ₁) ∧ truth σ₁ p = some (q i)) ∧ (q i = true → fin (ev I O e ρ' σ₁) = some (g i, σ₁))) (hl : acc.length + ((xs.filter q).map g).length ≤ 1000) :
    evC I O (.gen t it [c] (.emit e)) ρ₀ ρ acc σ = some (acc ++ (xs.filter q).map g, σ₁) := by
  have e0 : xs.flatMap (fun i => if q i then [g i] else []) = (xs.filter q).map g := by
    clear hs hsrc hi hl
    induction xs with
    | nil => rfl
    | cons i r ih =>
      rw [List.flatMap_cons, List.filter_cons, ih]
      split <;> rfl
  rw [← e0] at hl ⊢
  refine gen_flat (fun i => if q i then [g i] else []) hi hsrc (fun i hx => ?_) hl
  obtain ⟨ρ', h1, ⟨p, h2, h3⟩, h4⟩ := hs i hx
  refine ⟨ρ', h1, ?_⟩
  cases hq : q i with
  | true =>
    refine .inl ⟨bd_eq h2 (bn_eq h3 (by rw [hq]; rfl)), fun acc ha => ?_⟩
    simp only [hq, if_true] at ha ⊢
    exact emit1 (h4 hq) (by simp at ha; (first | lia | omega))
  | false => exact .inr ⟨bd_eq h2 (bn_eq h3 (by rw [hq]; rfl)), by simp only [Bool.false_eq_true, if_false]⟩
theorem pairs_ev {O : Orc} {ρ : En} {σ : Hp} {us : List Nat} {c l : Nat} (hO : ∀ as σ, O 3 as σ = runFn info O3 f_TupleComp_compare as σ) (hl : us.length ≤ 5) (hu : ok32 us) (h1 : getV 49 ρ = some (.d (rowsP us))) (h2 : getV 48 ρ = some (.loc l)) (H : IsT σ l (keysD c)) :
    ev info O pairE ρ σ = some (.fresh ((enumF 0 ((us.map rowD).map .d)).flatMap (pairI us c)), σ) := by
  have le : ∀ i ∈ enumF 0 ((us.map rowD).map .d), (pairI us c i).length ≤ 5 := fun i hi => by
    obtain ⟨j, d, _, e⟩ := enum_mem hi
    subst e
    show (((earlier us j).filter _).map oneI).length ≤ 5
    rw [List.length_map]
    exact Nat.le_trans (List.length_filter_le _ _) (Nat.le_trans earlier_len hl)
  have len : (enumF 0 ((us.map rowD).map .d)).length ≤ 5 := by rw [enumF_len, List.length_map, List.length_map]; exact hl
  refine ev_comp ?_
  have := gen_flat (I := info) (O := O) (t := .two 39 14) (it := .enum (.var 49)) (ifs := []) (r := .gen (.one 50) (.ex (.slc (.var 49) none (some (.var 39)))) [(.cmp .Eq (.meth (.var 48) (.own 51) [(.var 14), (.var 50)] none) (.int 0))] (.emit (.int 1)))
    (ρ₀ := ρ) (ρ := hide [39, 14, 50] ρ) (σ := σ) (σ₁ := σ) (acc := []) (pairI us c) (enum_ev (.var h1)) .imm (fun i hi => by
      obtain ⟨j, d, hj, e⟩ := enum_mem hi
      obtain ⟨u, hu1, e1⟩ := row_at hj
      subst e e1
      have hu2 : u < 32 := hu u (List.mem_of_getElem? hu1)
      have w1 : getV 49 (upd 14 (.d (rowD u)) (upd 39 (.d (.int j)) (hide [39, 14, 50] ρ))) = some (.d (rowsP us)) := h1
      have w2 : getV 39 (upd 14 (.d (rowD u)) (upd 39 (.d (.int j)) (hide [39, 14, 50] ρ))) = some (.d (.int j)) := rfl
      refine ⟨_, rfl, .inl ⟨rfl, fun acc ha => ?_⟩⟩
      refine comp_filterW (qI c (unrow (rowD u))) oneI (evIt_data (take_ev hl w1 w2)) .imm (fun i hi => ?_) ha
      obtain ⟨w, hw, e⟩ := earlier_mem hi
      subst e
      have hw2 : w < 32 := hu w (List.mem_of_mem_take hw)
      refine ⟨_, rfl, ⟨_, EV.cmp (.own (.var (x := 48) h2) (.two (.var (x := 14) rfl) (.var (x := 50) rfl)) (meth_t H) ((hO _ _).trans (compare_ok H))) .int judge_eq, ?_⟩, fun _ => rfl⟩
      show some (agree c u w) = some (agree c (unrow (rowD u)) (unrow (rowD w)))
      rw [unrow_ok u hu2, unrow_ok w hw2]) (by
      have := flat_le le
      rw [List.length_nil]
      (first | lia | omega))
  rw [List.nil_append] at this
  exact this
end L2
end
section
open PySem Mine
namespace L2
theorem ones_dats : ∀ (L : List PV), (∀ p ∈ L, p = .d (.int 1)) → dats L = some (L.map fun _ => .int 1)
  | [], _ => rfl
  | p :: r, h => by
    rw [h p List.mem_cons_self]
    exact dats_dc (ones_dats r fun q hq => h q (List.mem_cons_of_mem _ hq))
theorem ne_ones {σ : Hp} (L : List PV) : cmpop σ .NotEq (.d (.list (L.map fun _ => .int 1))) (.d (.list [])) = some (!L.isEmpty) := by
  refine (ne_d ((OkD.list (n := 0) fun x hx => ?_).sh (by decide)) rfl).trans ?_
  · obtain ⟨k, _, e⟩ := List.mem_map.mp hx
    subst e
    exact .int
  · cases L <;> rfl
theorem any_pair {us : List Nat} {c : Nat} (hu : ok32 us) : (!((enumF 0 ((us.map rowD).map .d)).flatMap (pairI us c)).isEmpty) = need us c := by
  have key : ((enumF 0 ((us.map rowD).map .d)).flatMap (pairI us c)) = [] ↔ need us c = false := by
    rw [List.flatMap_eq_nil_iff]
    unfold need anyP
    rw [List.any_eq_false]
    constructor
    · intro h k hk hc
      obtain ⟨w, hw, hw2⟩ := List.any_eq_true.mp hc
      have hk2 := List.mem_range.mp hk
      have e1 : (enumF 0 ((us.map rowD).map PV.d))[k]? = some (.two (.d (.int k)) (.d (rowD us[k]))) := by
        have hk3 : k < (enumF 0 ((us.map rowD).map PV.d)).length := by rw [enumF_len, List.length_map, List.length_map]; exact hk2
        obtain ⟨d, h1, h2⟩ := enum_at (List.getElem?_eq_getElem hk3)
        obtain ⟨u, h3, h4⟩ := row_at h1
        rw [List.getElem?_eq_getElem hk3, h2, h4]
        rw [List.getElem?_eq_getElem hk2] at h3
        rw [← Option.some.inj h3]
      have := h _ (List.mem_of_getElem? e1)
      have z : ((earlier us k).filter (qI c (unrow (rowD us[k])))).map oneI = [] := this
      rw [unrow_ok _ (hu _ (List.getElem_mem hk2))] at z
      have z2 := List.map_eq_nil_iff.mp z
      have := List.filter_eq_nil_iff.mp z2 (.one (.d (rowD w))) (List.mem_map_of_mem (List.mem_map_of_mem (List.mem_map_of_mem hw)))
      refine this ?_
      show agree c us[k] (unrow (rowD w)) = true
      rw [unrow_ok _ (hu _ (List.mem_of_mem_take hw))]
      rw [List.getD_eq_getElem?_getD, List.getElem?_eq_getElem hk2] at hw2
      exact hw2
    · intro h i hi
      obtain ⟨j, d, hj, e⟩ := enum_mem hi
      obtain ⟨u, hu1, e1⟩ := row_at hj
      subst e e1
      show ((earlier us j).filter (qI c (unrow (rowD u)))).map oneI = []
      rw [unrow_ok _ (hu _ (List.mem_of_getElem? hu1)), List.map_eq_nil_iff, List.filter_eq_nil_iff]
      intro i hi hq
      obtain ⟨w, hw, e⟩ := earlier_mem hi
      subst e
      refine h j (List.mem_range.mpr (List.getElem?_eq_some_iff.mp hu1).1) (List.any_eq_true.mpr ⟨w, hw, ?_⟩)
      rw [List.getD_eq_getElem?_getD, hu1]
      have hq2 : agree c u (unrow (rowD w)) = true := hq
      rw [unrow_ok _ (hu _ (List.mem_of_mem_take hw))] at hq2
      exact hq2
  cases h : need us c with
  | false => rw [key.mpr h]; rfl
  | true =>
    cases h2 : (enumF 0 ((us.map rowD).map .d)).flatMap (pairI us c) with
    | nil => exact absurd (h.symm.trans (key.mp h2)) (by decide)
    | cons _ _ => rfl
theorem pair_tst {O : Orc} {ρ : En} {σ : Hp} {us : List Nat} {c l : Nat} (hO : ∀ as σ, O 3 as σ = runFn info O3 f_TupleComp_compare as σ) (hl : us.length ≤ 5) (hu : ok32 us) (h1 : getV 49 ρ = some (.d (rowsP us))) (h2 : getV 48 ρ = some (.loc l)) (H : IsT σ l (keysD c)) :
    Tst info O (.cmp .NotEq pairE (.lst [])) ρ σ (need us c) σ := by
  have e := pairs_ev hO hl hu h1 h2 H
  have h := ne_ones (σ := σ) ((enumF 0 ((us.map rowD).map .d)).flatMap (pairI us c))
  rw [any_pair hu] at h
  refine Tst.cmp (.of_fresh e (ones_dats _ fun p hp => ?_)) rfl h
  obtain ⟨i, hi, hp⟩ := List.mem_flatMap.mp hp
  obtain ⟨j, d, hj, e⟩ := enum_mem hi
  subst e
  obtain ⟨_, _, e⟩ := List.mem_map.mp hp
  exact e.symm
noncomputable def keysE : Ex := .comp (.gen (.one 39) (.range [(.int 5)]) [(.cmp .NotEq (.var 39) (.var 46))] (.emit (.tup [(.var 39), (.int 1)])))
theorem keys_all {O : Orc} {ρ : En} {σ : Hp} : (List.range 5).map (fun (j : Nat) => fin (ev info O keysE (upd 46 (.d (.int j)) ρ) σ)) = (List.range 5).map fun (j : Nat) => some (.d (keysD j), σ) := by kernel_rfl
theorem keys_ev {O : Orc} {ρ : En} {σ : Hp} {j : Nat} (h : j < 5) : EV info O keysE (upd 46 (.d (.int j)) ρ) σ (.d (keysD j)) σ := map_all keys_all j (List.mem_range.mpr h)
theorem r5_at {j : Nat} {i : Item} (h : ((rangeL 0 5).map Item.one)[j]? = some i) : j < 5 ∧ i = .one (.d (.int j)) := range_at h
noncomputable def colsP (us : List Nat) (j : Nat) : List PV := iP ((List.range j).filter (need us))
theorem cols_succ {us : List Nat} {j : Nat} : colsP us (j + 1) = if need us j then colsP us j ++ [.d (.int j)] else colsP us j := by
  unfold colsP iP
  rw [List.range_succ, List.filter_append, List.map_append]
  cases h : need us j with
  | true => rw [List.filter_cons, if_pos h, if_pos rfl]; rfl
  | false => rw [List.filter_cons, if_neg (by rw [h]; decide), if_neg (by decide)]; exact List.append_nil _
theorem cols_len {us : List Nat} {j : Nat} (h : j ≤ 5) : (colsP us j).length < 1000 := by
  unfold colsP iP
  rw [List.length_map]
  have := List.length_filter_le (need us) (List.range j)
  rw [List.length_range] at this
  (first | lia | omega)
theorem st_freeze {O : Orc} {ρ : En} {σ : Hp} {x l : Nat} {xs : List PV} {ds : List PyData} (h1 : getV x ρ = some (.loc l)) (h2 : σ[l]? = some (.lst xs)) (h3 : dats xs = some ds) : exS info O (.freeze x) ρ σ = some (.next, upd x (.d (.list ds)) ρ, σ.set l .dead) := bn_eq h1 (bn_eq rfl (bn_eq (lstAt_of h2) (mp_eq h3 rfl)))
theorem keys_law {σ : Hp} {us : List Nat} (hl : us.length ≤ 5) (hu : ok32 us) : ∃ τ, runFn info O13 f__law_by_keys [.d (rowsP us)] σ = some (.d (.list (iD (cols us))), σ ++ τ) := by
  refine Exists.elim (tells_fn (R := fun p σ' => p = .d (.list (iD (cols us))) ∧ ∃ τ, σ' = σ ++ τ) (ρ := [(49, some (.d (rowsP us)))]) rfl ?_) fun p hp => by
    obtain ⟨σ', e, h1, τ, h2⟩ := hp
    exact ⟨τ, by rw [← h1, ← h2]; exact e⟩
  unfold f__law_by_keys
  dsimp only
  refine tell_next (st_set (.mut (xs := []) rfl)) ?_
  refine tell_ex (for_goes (xs := (rangeL 0 5).map .one) (σ₁ := σ ++ [.lst []]) (fun j ρ σ' => getV 49 ρ = some (.d (rowsP us)) ∧ getV 45 ρ = some (.loc σ.length) ∧ ∃ τ, σ' = σ ++ [PO.lst (colsP us j)] ++ τ)
    (range1 (b := 5) .int (by decide)) ⟨rfl, rfl, [], (List.append_nil _).symm⟩ fun j i ρ σ' hj y => ?_) fun ρ σ' y => ?_
  · obtain ⟨p1, p2, τ, p3⟩ := y
    obtain ⟨j5, e⟩ := r5_at hj
    subst e p3
    refine ⟨_, rfl, ?_⟩
    obtain ⟨n1, n2⟩ := newT_ok (O := O13) (fun _ _ => rfl) (keys_ev (O := O13) (ρ := ρ) (σ := σ ++ [PO.lst (colsP us j)] ++ τ) j5)
    refine goes_next (st_set (.of_val n1)) ?_
    have tt := pair_tst (O := O13) (ρ := upd 48 (.loc ((σ ++ [PO.lst (colsP us j)] ++ τ).length + 1)) (upd 46 (.d (.int j)) ρ)) (us := us) (c := j) (fun _ _ => rfl) hl hu p1 rfl n2
    rw [List.append_assoc (σ ++ [PO.lst (colsP us j)]) τ] at tt ⊢
    generalize τ ++ [PO.ns [(tN, .d (keysD j))], PO.inst 76 (σ ++ [PO.lst (colsP us j)] ++ τ).length] = τ' at tt
    cases h : need us j with
    | true =>
      rw [h] at tt
      have e := cols_succ (us := us) (j := j)
      rw [h, if_pos rfl] at e
      refine goes_if tt (goes_next (st_exp (.mt (.var (x := 45) p2) (.one (.var (x := 46) rfl)) (fun _ h => nomatch h) (rcv_lst get_mid) (mt_append get_mid (cols_len (Nat.le_of_lt j5)))) (.inl rfl)) (goes_nil (goes_nil ⟨p1, p2, τ', ?_⟩)))
      rw [set_mid, e]
    | false =>
      rw [h] at tt
      have e := cols_succ (us := us) (j := j)
      rw [h, if_neg (by decide)] at e
      exact goes_no tt (goes_nil ⟨p1, p2, τ', by rw [e]⟩)
  · obtain ⟨p1, p2, τ, p3⟩ := y
    subst p3
    refine tell_next (st_freeze p2 get_mid (dats_iP _)) (tell_now (.var rfl) ⟨rfl, [.dead] ++ τ, ?_⟩)
    rw [set_mid, List.append_assoc]
end L2
end
section
open PySem Mine
namespace L2
noncomputable def agr (u w : Nat) : List Nat := (List.range 5).filter fun c => agree c u w
noncomputable def diffs (u w : Nat) : List Nat := (List.range 5).filter fun k => !decide ((wd5 u).getD k 0 = (wd5 w).getD k 0)
theorem lev_agr : ∀ u, u < 32 → ∀ w, w < 32 → u ≠ w → (if levF (wd5 u) (wd5 w) 1 = 1 then diffs u w else []) = agr u w := by decide +kernel
theorem wd5_lt : ∀ u, u < 32 → ∀ c ∈ wd5 u, c < 128 := by decide +kernel
theorem wd5_len (u : Nat) : (wd5 u).length = 5 := by unfold wd5; rw [List.length_map, List.length_range]
noncomputable def wdD (u : Nat) : PyData := .str (S (wd5 u))
noncomputable def wordsP (us : List Nat) : PyData := .list (us.map wdD)
theorem wtake_ev {O : Orc} {ρ : En} {σ : Hp} {us : List Nat} {k v x : Nat} (hl : us.length ≤ 5) (h : getV x ρ = some (.d (wordsP us))) (hk : getV v ρ = some (.d (.int k))) : EV info O (.slc (.var x) none (some (.var v))) ρ σ (.d (wordsP (us.take k))) σ := by
  have s := ev_slc (I := info) (O := O) (.var h) evo_none (evo_some (.var hk)) (slc_d (σ := σ) (xs := us.map wdD) (k := k) (by rw [List.length_map]; exact Nat.lt_of_le_of_lt hl (by decide)))
  rw [← List.map_take] at s
  exact .of_fresh s (dats_d _)
theorem wch_at {u k : Nat} (h : k < 5) : nth (wd5 u) (k : Int) = some ((wd5 u).getD k 0) := by
  rw [nth_at _ _ (Nat.lt_trans h (by decide)), List.getD_eq_getElem?_getD, List.getElem?_eq_getElem (by rw [wd5_len]; exact h)]
  rfl
noncomputable def placeE : Ex := .comp (.gen (.one 54) (.range [(.int 5)]) [(.cmp .NotEq (.idx (.var 52) (.var 54)) (.idx (.var 50) (.var 54)))] (.emit (.var 54)))
noncomputable def qD (u w : Nat) : Item → Bool
  | .one (.d (.int k)) => !decide ((wd5 u).getD k.toNat 0 = (wd5 w).getD k.toNat 0)
  | _ => false
noncomputable def vI : Item → PV
  | .one p => p
  | _ => .d .none
theorem r_items (n : Nat) : (rangeL 0 n).map Item.one = (List.range n).map fun (k : Nat) => Item.one (.d (.int k)) := by
  apply List.ext_getElem?
  intro j
  rw [List.getElem?_map, List.getElem?_map, rangeL_at]
  by_cases h : j < n
  · rw [if_pos h, List.getElem?_range h, Int.zero_add]; rfl
  · rw [if_neg h, List.getElem?_eq_none (by rw [List.length_range]; exact Nat.le_of_not_lt h)]; rfl
theorem ch_ne {σ : Hp} {a b : Nat} (ha : a < 128) (hb : b < 128) : cmpop σ .NotEq (.d (.str (chS a))) (.d (.str (chS b))) = some (!decide (a = b)) := by
  have e : decide (chS a = chS b) = decide (a = b) := decide_eq_decide.mpr ⟨fun h => (List.cons.inj ((S_inj (a := [a]) (b := [b])).mp h)).1, fun h => by rw [h]⟩
  rw [← e]
  exact ne_S (sh_S (one_lt ha)) (sh_S (one_lt hb))
theorem place_ev {O : Orc} {ρ : En} {σ : Hp} {u w : Nat} (hu : u < 32) (hw : w < 32) (h1 : getV 52 ρ = some (.d (wdD u))) (h2 : getV 50 ρ = some (.d (wdD w))) : EV info O placeE ρ σ (.d (.list (iD (diffs u w)))) σ := by
  have lt : ∀ {u k : Nat}, u < 32 → k < 5 → (wd5 u).getD k 0 < 128 := fun {u k} hu hk => by
    rw [List.getD_eq_getElem?_getD, List.getElem?_eq_getElem (by rw [wd5_len]; exact hk)]
    exact wd5_lt u hu _ (List.getElem_mem _)
  have e := comp_filterW (I := info) (O := O) (t := .one 54) (it := .range [(.int 5)]) (c := .cmp .NotEq (.idx (.var 52) (.var 54)) (.idx (.var 50) (.var 54))) (e := .var 54) (ρ₀ := ρ) (ρ := hide [54] ρ) (σ := σ) (σ₁ := σ) (acc := []) (qD u w) vI (range1 (b := 5) .int (by decide)) .imm (fun i hi => by
    obtain ⟨k, hk, e⟩ := List.mem_iff_getElem?.mp hi |>.imp fun j hj => r5_at hj
    subst e
    exact ⟨_, rfl, ⟨_, EV.cmp (.idx (.var (x := 52) h1) (.var (x := 54) rfl) (idxS (wch_at hk))) (.idx (.var (x := 50) h2) (.var (x := 54) rfl) (idxS (wch_at hk))) (ch_ne (lt hu hk) (lt hw hk)), rfl⟩, fun _ => EV.var rfl⟩) (by
      have h1 := List.length_filter_le (qD u w) ((rangeL ((0 : Nat) : Int) 5).map Item.one)
      rw [List.length_map, rangeL_length] at h1
      rw [List.length_map, List.length_nil]
      (first | lia | omega))
  rw [List.nil_append, show ((rangeL ((0 : Nat) : Int) 5).map Item.one) = _ from r_items 5, List.filter_map, List.map_map] at e
  exact .of_fresh (ev_comp e) (dats_iP (diffs u w))
theorem mt_extend {I : Info} {σ : Hp} {l : Nat} {xs : List PV} {ys : List PyData} (h : σ[l]? = some (.lst xs)) (hl : xs.length + ys.length < 1000) : callMt I .extend (.loc l) [.d (.list ys)] σ = some (.val (.d .none), σ.set l (.lst (xs ++ ys.map .d))) := by
  show (lstAt σ l).bind _ = _
  exact bn_eq (lstAt_of h) (gd_eq hl rfl)
noncomputable def accJ (us : List Nat) (k j : Nat) : List Nat := ((us.take k).take j).flatMap (agr (us.getD k 0))
noncomputable def accK (us : List Nat) (k : Nat) : List Nat := (List.range k).flatMap fun i => (us.take i).flatMap (agr (us.getD i 0))
noncomputable def tri : Nat → Nat
  | 0 => 0
  | k + 1 => tri k + k * 5
theorem agr_len (u w : Nat) : (agr u w).length ≤ 5 := by
  have := List.length_filter_le (fun c => agree c u w) (List.range 5)
  rwa [List.length_range] at this
theorem accK_succ {us : List Nat} {k : Nat} : accK us (k + 1) = accK us k ++ (us.take k).flatMap (agr (us.getD k 0)) := by
  unfold accK
  rw [List.range_succ, List.flatMap_append, List.flatMap_cons, List.flatMap_nil, List.append_nil]
theorem accK_len (us : List Nat) : ∀ k, (accK us k).length ≤ tri k
  | 0 => Nat.le_refl 0
  | k + 1 => by
    rw [accK_succ, List.length_append]
    have h1 := accK_len us k
    have h2 := flat_le (n := 5) (l := us.take k) (f := agr (us.getD k 0)) fun w _ => agr_len _ w
    have h3 := Nat.mul_le_mul_right 5 (List.length_take_le k us)
    show _ ≤ tri k + k * 5
    (first | lia | omega)
theorem accJ_succ {us : List Nat} {k j w : Nat} (h : (us.take k)[j]? = some w) : accJ us k (j + 1) = accJ us k j ++ agr (us.getD k 0) w := by
  unfold accJ
  obtain ⟨h1, h2⟩ := List.getElem?_eq_some_iff.mp h
  rw [List.take_succ_eq_append_getElem h1, h2, List.flatMap_append, List.flatMap_cons, List.flatMap_nil, List.append_nil]
theorem iP_app (a b : List Nat) : iP (a ++ b) = iP a ++ (iD b).map .d := by
  unfold iP iD
  rw [List.map_append, List.map_map]
  rfl
theorem acc_mem {us : List Nat} {c : Nat} (hc : c < 5) : c ∈ accK us us.length ↔ need us c = true := by
  unfold accK need anyP
  rw [List.mem_flatMap, List.any_eq_true]
  constructor
  · intro ⟨k, hk, h⟩
    obtain ⟨w, hw, h⟩ := List.mem_flatMap.mp h
    exact ⟨k, hk, List.any_eq_true.mpr ⟨w, hw, (List.mem_filter.mp h).2⟩⟩
  · intro ⟨k, hk, h⟩
    obtain ⟨w, hw, h⟩ := List.any_eq_true.mp h
    exact ⟨k, hk, List.mem_flatMap.mpr ⟨w, hw, List.mem_filter.mpr ⟨List.mem_range.mpr hc, h⟩⟩⟩
theorem acc_lt {us : List Nat} {k c : Nat} (h : c ∈ accK us k) : c < 5 := by
  obtain ⟨i, _, h⟩ := List.mem_flatMap.mp h
  obtain ⟨w, _, h⟩ := List.mem_flatMap.mp h
  exact List.mem_range.mp (List.mem_filter.mp h).1
end L2
end
section
open PySem Mine
namespace L2
theorem ints_iD : ∀ l : List Nat, intsOf (iD l) = some (l.map fun (x : Nat) => (x : Int))
  | [] => rfl
  | x :: r => mp_eq (ints_iD r) rfl
theorem sorted_cols {us : List Nat} : sortZ (dedI ((accK us us.length).map fun (x : Nat) => (x : Int))) = (cols us).map fun (x : Nat) => (x : Int) := by
  refine lt_ext (srt_lt (ded_nd _)) ?_ fun x => ?_
  · rw [List.pairwise_map]
    refine (List.Pairwise.filter _ (List.pairwise_lt_range (n := 5))).imp ?_
    intro a b h
    (first | lia | omega)
  · rw [srt_mem, ded_mem, List.mem_map, List.mem_map]
    constructor
    · intro ⟨c, h, e⟩
      exact ⟨c, List.mem_filter.mpr ⟨List.mem_range.mpr (acc_lt h), (acc_mem (acc_lt h)).mp h⟩, e⟩
    · intro ⟨c, h, e⟩
      obtain ⟨h1, h2⟩ := List.mem_filter.mp h
      exact ⟨c, (acc_mem (List.mem_range.mp h1)).mpr h2, e⟩
theorem word_at {us : List Nat} {j : Nat} {d : PyData} (h : (us.map wdD)[j]? = some d) : ∃ u, us[j]? = some u ∧ d = wdD u := by
  rw [List.getElem?_map] at h
  obtain ⟨u, h1, h2⟩ := mp_some h
  exact ⟨u, h1, h2.symm⟩
theorem tri_le : ∀ k ≤ 5, tri k ≤ 50 := by decide
theorem acc_small {us : List Nat} {k j w : Nat} (hl : us.length ≤ 5) (hk : k < us.length) (hj : (us.take k)[j]? = some w) : (iP (accK us k ++ accJ us k j)).length + (iD (agr (us.getD k 0) w)).length < 1000 := by
  unfold iP iD
  rw [List.length_map, List.length_map, List.length_append]
  have h1 := accK_len us k
  have h2 := flat_le (n := 5) (l := (us.take k).take j) (f := agr (us.getD k 0)) fun w _ => agr_len _ w
  have h3 := agr_len (us.getD k 0) w
  have h4 : ((us.take k).take j).length ≤ us.length := Nat.le_trans (List.length_take_le' _ _) (List.length_take_le' _ _)
  have h5 : tri k ≤ 50 := tri_le k (Nat.le_of_lt (Nat.lt_of_lt_of_le hk hl))
  show (accK us k).length + (((us.take k).take j).flatMap (agr (us.getD k 0))).length + _ < 1000
  (first | lia | omega)
theorem words_law {σ : Hp} {us : List Nat} (hl : us.length ≤ 5) (hu : ok32 us) (hn : us.Nodup) : ∃ τ, runFn info O14 f__law_by_words [.d (wordsP us)] σ = some (.d (.list (iD (cols us))), σ ++ τ) := by
  refine Exists.elim (tells_fn (R := fun p σ' => p = .d (.list (iD (cols us))) ∧ ∃ τ, σ' = σ ++ τ) (ρ := [(53, some (.d (wordsP us)))]) rfl ?_) fun p hp => by
    obtain ⟨σ', e, h1, τ, h2⟩ := hp
    exact ⟨τ, by rw [← h1, ← h2]; exact e⟩
  unfold f__law_by_words
  dsimp only
  refine tell_next (st_set (.mut (xs := []) rfl)) ?_
  refine tell_ex (for_goes (xs := enumF 0 ((us.map wdD).map .d)) (σ₁ := σ ++ [PO.lst []]) (fun k ρ σ' => getV 53 ρ = some (.d (wordsP us)) ∧ getV 45 ρ = some (.loc σ.length) ∧ ∃ τ, σ' = σ ++ [PO.lst (iP (accK us k))] ++ τ)
    (enum_ev (ds := us.map wdD) (.var rfl)) ⟨rfl, rfl, [], (List.append_nil _).symm⟩ fun k i ρ σ' hj y => ?_) fun ρ σ' y => ?_
  · obtain ⟨p1, p2, τ, p3⟩ := y
    obtain ⟨d, h1, e⟩ := enum_at hj
    obtain ⟨u, h2, e1⟩ := word_at h1
    subst e e1 p3
    obtain ⟨hk, hk2⟩ := List.getElem?_eq_some_iff.mp h2
    have hg : us.getD k 0 = u := by rw [List.getD_eq_getElem?_getD, h2]; rfl
    refine ⟨_, rfl, ?_⟩
    refine goes_ex (for_goes (I := info) (O := O14) (t := .one 50) (it := .ex (.slc (.var 53) none (some (.var 39)))) (xs := ((((us.take k).map wdD).map PV.d).map .one)) (σ₁ := σ ++ [PO.lst (iP (accK us k))] ++ τ) (fun j ρ σ' => getV 53 ρ = some (.d (wordsP us)) ∧ getV 45 ρ = some (.loc σ.length) ∧ getV 52 ρ = some (.d (wdD u)) ∧ ∃ τ, σ' = σ ++ [PO.lst (iP (accK us k ++ accJ us k j))] ++ τ)
      (evIt_data (wtake_ev hl (x := 53) p1 (v := 39) rfl)) ⟨p1, p2, rfl, τ, by rw [show accJ us k 0 = [] from rfl, List.append_nil]⟩ fun j i ρ σ' hj y => ?_) fun ρ σ' y => ?_
    · obtain ⟨p1, p2, p4, τ, p3⟩ := y
      rw [List.getElem?_map, List.getElem?_map, List.getElem?_map] at hj
      obtain ⟨q1, hj1, e1⟩ := mp_some hj
      obtain ⟨q2, hj2, e2⟩ := mp_some hj1
      obtain ⟨w, hj3, e3⟩ := mp_some hj2
      clear hj hj1 hj2
      subst e1 e2 e3 p3
      have hw : w ∈ us.take k := List.mem_of_getElem? hj3
      have u32 : u < 32 := hu u (List.mem_of_getElem? h2)
      have w32 : w < 32 := hu w (List.mem_of_mem_take hw)
      have huw : u ≠ w := fun e => by
        obtain ⟨j2, hj2⟩ := List.mem_iff_getElem?.mp hw
        rw [List.getElem?_take] at hj2
        by_cases c : j2 < k
        · rw [if_pos c] at hj2
          exact absurd ((List.getElem?_inj hk hn).mp (h2.trans (by rw [e]; exact hj2.symm))) (by (first | lia | omega))
        · rw [if_neg c] at hj2; cases hj2
      refine ⟨_, rfl, ?_⟩
      obtain ⟨τ2, lv⟩ := lev_ok (σ := σ ++ [PO.lst (iP (accK us k ++ accJ us k j))] ++ τ) (la := wd5 u) (lb := wd5 w) (mc := 1) (by rw [wd5_len, wd5_len]) (by rw [wd5_len]; decide) (wd5_lt u u32) (wd5_lt w w32) (by decide)
      have tt : Tst info O14 (.cmp .Eq (.call 1 [(.var 52), (.var 50), (.int 1)]) (.int 1)) (upd 50 (.d (wdD w)) ρ) (σ ++ [PO.lst (iP (accK us k ++ accJ us k j))] ++ τ) (decide (levF (wd5 u) (wd5 w) 1 = 1)) (σ ++ [PO.lst (iP (accK us k ++ accJ us k j))] ++ τ ++ τ2) :=
        Tst.cmp (.call (.three (.var (x := 52) p4) (.var (x := 50) rfl) .int) lv) .int rfl
      have ag := lev_agr u u32 w w32 huw
      have sc := accJ_succ (us := us) hj3
      rw [hg] at sc
      rw [List.append_assoc (σ ++ [PO.lst (iP (accK us k ++ accJ us k j))])] at tt
      by_cases c : levF (wd5 u) (wd5 w) 1 = 1
      · rw [decide_eq_true c] at tt
        rw [if_pos c] at ag
        have sm := acc_small hl hk hj3
        rw [hg, ← ag] at sm
        refine goes_if tt (goes_next (st_exp (.mt (.var (x := 45) p2) (.one (place_ev u32 w32 p4 rfl)) (fun _ h => nomatch h) (rcv_lst get_mid) (mt_extend get_mid sm)) (.inl rfl)) (goes_nil (goes_nil ⟨p1, p2, p4, τ ++ τ2, ?_⟩)))
        rw [set_mid, ag, ← iP_app, sc, List.append_assoc (accK us k)]
      · rw [decide_eq_false c] at tt
        rw [if_neg c] at ag
        refine goes_no tt (goes_nil ⟨p1, p2, p4, τ ++ τ2, ?_⟩)
        rw [sc, ← ag, List.append_nil]
    · obtain ⟨p1, p2, p4, τ, p3⟩ := y
      refine goes_nil ⟨p1, p2, τ, ?_⟩
      rw [p3, accK_succ]
      have : accJ us k ((((us.take k).map wdD).map PV.d).map Item.one).length = (us.take k).flatMap (agr (us.getD k 0)) := by
        unfold accJ
        rw [List.length_map, List.length_map, List.length_map, List.take_length]
      rw [this]
  · obtain ⟨p1, p2, τ, p3⟩ := y
    rw [enumF_len, List.length_map, List.length_map] at p3
    have h1 : callBi .sortedset [.loc σ.length] σ' = some (.fresh (iP (cols us))) := by
      have hv : Mine.view σ' (.loc σ.length) = some (.list (iD (accK us us.length))) := by
        rw [p3]
        exact or_r rfl (bn_eq rfl (bn_eq (lstAt_of get_mid) (mp_eq (dats_iP _) rfl)))
      have hlen : ((accK us us.length).map fun (x : Nat) => (x : Int)).length < 60 ∧ ((accK us us.length).map fun (x : Nat) => (x : Int)).all (fun i => decide (0 ≤ i ∧ i < 5)) = true := by
        refine ⟨?_, List.all_eq_true.mpr fun i hi => by
          obtain ⟨c, hc, e⟩ := List.mem_map.mp hi
          have := acc_lt hc
          exact decide_eq_true (by (first | lia | omega))⟩
        rw [List.length_map]
        have := accK_len us us.length
        have := tri_le _ hl
        (first | lia | omega)
      refine bn_eq hv (bn_eq rfl (bn_eq (ints_iD _) (gd_eq hlen ?_)))
      rw [sorted_cols, List.map_map]
      rfl
    exact tell_now (.of_fresh (ev_bi (.one (.var p2)) rfl h1) (dats_iP _)) ⟨rfl, [PO.lst (iP (accK us us.length))] ++ τ, by rw [p3, List.append_assoc]⟩
end L2
end
section
open PySem Mine
namespace L2
theorem init0_ok {σ : Hp} {l dl : Nat} (h1 : σ[l]? = some (.inst 213 dl)) (h2 : σ[dl]? = some (.ns [])) :
    runFn info O5 f_Headers___init__ [.loc l] σ = some (.d .none, (σ ++ [PO.lst []]).set dl (.ns [(hN, .loc σ.length)])) ∧ IsH ((σ ++ [PO.lst []]).set dl (.ns [(hN, .loc σ.length)])) l σ.length [] := by
  have n1 : dl < σ.length := (List.getElem?_eq_some_iff.mp h2).1
  have n0 : l < σ.length := (List.getElem?_eq_some_iff.mp h1).1
  have n2 : dl ≠ l := fun e => by subst e; rw [h1] at h2; cases h2
  have h1' : (σ ++ [PO.lst []])[l]? = some (.inst 213 dl) := by rw [List.getElem?_append_left n0]; exact h1
  have h2' : (σ ++ [PO.lst []])[dl]? = some (.ns []) := by rw [List.getElem?_append_left n1]; exact h2
  have h3' : (σ ++ [PO.lst []])[σ.length]? = some (.lst []) := by rw [List.getElem?_append_right (Nat.le_refl _), Nat.sub_self]; rfl
  have HH : IsH ((σ ++ [PO.lst []]).set dl (.ns [(hN, .loc σ.length)])) l σ.length [] :=
    ⟨⟨dl, by rw [List.getElem?_set_ne n2]; exact h1', by rw [List.getElem?_set_self (by rw [List.length_append]; (first | lia | omega))]⟩, by rw [List.getElem?_set_ne (by (first | lia | omega))]; exact h3'⟩
  refine ⟨?_, HH⟩
  have s1 : exS info O5 (.set 36 (.ite (.cmp .IsNot (.var 36) .non) (.var 36) (.mut (.lst [])))) [(23, some (.loc l)), (36, some (.d .none))] σ = some (.next, upd 36 (.loc σ.length) [(23, some (.loc l)), (36, some (.d .none))], σ ++ [PO.lst []]) :=
    st_set (.ite (r := false) (.cmp (.var rfl) (q := .d .none) rfl rfl) rfl (.mut rfl))
  have s2 : exS info O5 (.cond (.cmp .IsNot (.bi .typ [(.var 36)]) (.gl 37)) [.no] []) (upd 36 (.loc σ.length) [(23, some (.loc l)), (36, some (.d .none))]) (σ ++ [PO.lst []]) = some (.next, upd 36 (.loc σ.length) [(23, some (.loc l)), (36, some (.d .none))], σ ++ [PO.lst []]) :=
    st_no (Tst.cmp (.of_val (ev_bi (.one (.var rfl)) rfl (or_r rfl (mp_eq (a := []) (lstAt_of h3') rfl)))) (.gl rfl) (congrArg some (by decide)))
  have s3 : exS info O5 (.setAttr (.var 23) 38 (.var 36)) (upd 36 (.loc σ.length) [(23, some (.loc l)), (36, some (.d .none))]) (σ ++ [PO.lst []]) = some (.next, upd 36 (.loc σ.length) [(23, some (.loc l)), (36, some (.d .none))], (σ ++ [PO.lst []]).set dl (.ns [(hN, .loc σ.length)])) :=
    st_setA (.var rfl) (.var rfl) (putA_at h1' h2' clsH ⟨rfl, by decide⟩)
  generalize (σ ++ [PO.lst []]).set dl (.ns [(hN, .loc σ.length)]) = τ at HH s3
  obtain ⟨ρ', f1, f2⟩ := for_find (I := info) (O := O5) (s := .lo σ.length) (xs := []) (σ₁ := τ) (ρ := upd 36 (.loc σ.length) [(23, some (.loc l)), (36, some (.d .none))]) (σ := τ)
    (t := .two 39 40) (it := .ex (.var 36)) (body := [(.exp (.meth (.var 23) (.own 41) [(.var 39)] (some (32, (.bool true))))), (.exp (.meth (.var 23) (.own 41) [(.var 40)] (some (32, (.bool false)))))])
    (fun _ => True) (fun _ => none) (evIt_lo (.var rfl) HH.hs) (.lo (ys := []) HH.hs (by decide)) trivial (fun i hi => by cases hi)
  exact run_end rfl ((seq_next s1).trans ((seq_next s2).trans ((seq_next s3).trans (seq_next ((st_if1 (Tst.of EV.bool rfl)).trans (seq_next f1))))))
theorem new0_ok {O : Orc} {ρ : En} {σ : Hp} (hO : ∀ as σ, O 5 as σ = runFn info O5 f_Headers___init__ as σ) :
    ev info O (.new 55 []) ρ σ = some (.val (.loc (σ.length + 1)), σ ++ [PO.ns [(hN, .loc (σ.length + 2))], PO.inst 213 σ.length, PO.lst []]) ∧ IsH (σ ++ [PO.ns [(hN, .loc (σ.length + 2))], PO.inst 213 σ.length, PO.lst []]) (σ.length + 1) (σ.length + 2) [] := by
  obtain ⟨a, b⟩ := init0_ok (σ := σ ++ [PO.ns []] ++ [PO.inst 213 σ.length]) (l := σ.length + 1) (dl := σ.length) (by simp) (by simp)
  have e2 : (σ ++ [PO.ns []] ++ [PO.inst 213 σ.length] ++ [PO.lst []]).set σ.length (.ns [(hN, .loc (σ ++ [PO.ns []] ++ [PO.inst 213 σ.length]).length)]) = σ ++ [PO.ns [(hN, .loc (σ.length + 2))], PO.inst 213 σ.length, PO.lst []] := by simp
  rw [e2] at a b
  rw [show (σ ++ [PO.ns []] ++ [PO.inst 213 σ.length]).length = σ.length + 2 from by simp] at b
  exact ⟨ev_new (k := kH) rfl .nil ((hO _ _).trans a), b⟩
theorem IsH.put {σ : Hp} {l h : Nat} {kvs kvs' : List (Str × Str)} (H : IsH σ l h kvs) : IsH (σ.set h (.lst (kvs'.map pr))) l h kvs' := by
  obtain ⟨⟨dl, h1, h2⟩, h3⟩ := H
  have n : h < σ.length := (List.getElem?_eq_some_iff.mp h3).1
  refine ⟨⟨dl, ?_, ?_⟩, List.getElem?_set_self n⟩
  · rw [List.getElem?_set_ne fun e => by subst e; rw [h1] at h3; cases h3]; exact h1
  · rw [List.getElem?_set_ne fun e => by subst e; rw [h2] at h3; cases h3]; exact h2
theorem setdefault_ok {σ : Hp} {l h : Nat} {kvs : List (Str × Str)} {n v : Str} (H : IsH σ l h kvs) (hn : okN n = true) (hn2 : okS n = true) (hv : okS v = true) (hk : ∀ kv ∈ kvs, okN kv.1 = true) (hlen : kvs.length < 100) :
    runFn info O12 f_Headers_setdefault [.loc l, .d (.str n), .d (.str v)] σ = match getO kvs n with
      | some s => some (.d (.str s), σ)
      | none => some (.d (.str v), σ.set h (.lst ((kvs ++ [(n, v)]).map pr))) := by
  have g : exS info O12 (.set 15 (.meth (.var 23) (.own 43) [(.var 32)] none)) [(23, some (.loc l)), (32, some (.d (.str n))), (30, some (.d (.str v)))] σ = some (.next, upd 15 (strP (getO kvs n)) [(23, some (.loc l)), (32, some (.d (.str n))), (30, some (.d (.str v)))], σ) :=
    st_set (.own (f := 7) (.var rfl) (.one (.var rfl)) ((meth_h _ H (by decide +kernel)).trans rfl) (get_ok H hn hk hlen))
  cases hg : getO kvs n with
  | some s =>
    rw [hg] at g
    have t : Tst info O12 (.cmp .Is (.var 15) .non) (upd 15 (strP (some s)) [(23, some (.loc l)), (32, some (.d (.str n))), (30, some (.d (.str v)))]) σ false σ := Tst.cmp (.var rfl) (q := .d .none) rfl rfl
    exact run_of rfl ((seq_next g).trans (seq_ret ((st_if0 t).trans (seq_ret (st_ret (.var rfl))))))
  | none =>
    rw [hg] at g
    have t : Tst info O12 (.cmp .Is (.var 15) .non) (upd 15 (strP none) [(23, some (.loc l)), (32, some (.d (.str n))), (30, some (.d (.str v)))]) σ true σ := Tst.cmp (.var rfl) (q := .d .none) rfl rfl
    have e1 : methOf info σ l 41 = some 4 := (meth_h _ H (by decide +kernel)).trans rfl
    have a1 : EV info O12 (.attr (.var 23) 38) (upd 15 (strP none) [(23, some (.loc l)), (32, some (.d (.str n))), (30, some (.d (.str v)))]) σ (.loc h) σ := .attr (.var rfl) (att_h H)
    have b1 : EV info O12 (.meth (.var 23) (.own 41) [(.var 32)] (some (32, (.bool true)))) (upd 15 (strP none) [(23, some (.loc l)), (32, some (.d (.str n))), (30, some (.d (.str v)))]) σ (.d (.str n)) σ := .ownK (.var rfl) (.one (.var rfl)) (q := .d (.bool true)) rfl e1 (conv_ok n true _ _ hn2)
    have b2 : EV info O12 (.meth (.var 23) (.own 41) [(.var 30)] (some (32, (.bool false)))) (upd 15 (strP none) [(23, some (.loc l)), (32, some (.d (.str n))), (30, some (.d (.str v)))]) σ (.d (.str v)) σ := .ownK (.var rfl) (.one (.var rfl)) (q := .d (.bool false)) rfl e1 (conv_ok v false _ _ hv)
    have m := mt_append (I := info) (q := pr (n, v)) H.hs (len_pr (Nat.lt_trans hlen (by decide)))
    rw [show kvs.map pr ++ [pr (n, v)] = (kvs ++ [(n, v)]).map pr from (List.map_append (l₁ := kvs) (l₂ := [(n, v)]) (f := pr)).symm] at m
    exact run_of rfl ((seq_next g).trans (seq_ret ((st_if1 t).trans ((seq_next (st_exp (.mt a1 (.one (.tup (.two b1 b2) (by show 2 < 1000; decide) rfl)) (fun _ h => by cases h) (rcv_lst H.hs) m) (.inl rfl))).trans (seq_ret (st_ret (.var rfl)))))))
noncomputable def nameL (c u : Nat) : List Nat := (keysL c).map fun k => if bit u k = 1 then 111 else 120
noncomputable def nkL (c k u : Nat) : List Nat := if k % 2 = 1 then (nameL c u).map upC else nameL c u
theorem name_rest : (List.range 5).flatMap (fun c => (List.range 32).map fun u => (bitsL u).take c ++ (bitsL u).drop (c + 1)) = (List.range 5).flatMap fun c => (List.range 32).map fun u => (keysL c).map fun k => PyData.int (bit u k : Nat) := by kernel_rfl
noncomputable def nameD (c u : Nat) : List PyData := (keysL c).map fun k => .str (chS (if bit u k = 1 then 111 else 120))
theorem join_all {σ : Hp} : (List.range 5).flatMap (fun c => (List.range 32).map fun u => callMt info .join (.d (.str (S []))) [.d (.list (nameD c u))] σ) = (List.range 5).flatMap fun c => (List.range 32).map fun u => some (.val (.d (.str (S (nameL c u)))), σ) := by kernel_rfl
theorem flat_all {α : Type} {f g : Nat → Nat → α} {m n : Nat} (h : (List.range m).flatMap (fun c => (List.range n).map fun u => f c u) = (List.range m).flatMap fun c => (List.range n).map fun u => g c u) {c u : Nat} (hc : c < m) (hu : u < n) : f c u = g c u := by
  have h1 : ∀ (l : List Nat), l.flatMap (fun c => (List.range n).map fun u => f c u) = l.flatMap (fun c => (List.range n).map fun u => g c u) → ∀ c ∈ l, f c u = g c u := by
    intro l
    induction l with
    | nil => intro _ c hc; cases hc
    | cons a r ih =>
      intro h c hc
      rw [List.flatMap_cons, List.flatMap_cons] at h
      obtain ⟨h1, h2⟩ := List.append_inj h (by rw [List.length_map, List.length_map])
      rcases List.mem_cons.mp hc with e | hc
      · rw [e]; exact map_all h1 u (List.mem_range.mpr hu)
      · exact ih h2 c hc
  exact h1 _ h c (List.mem_range.mpr hc)
theorem name_ok : ∀ c, c < 5 → ∀ u, u < 32 → ∀ b, b < 2 → okN (S (nkL c b u)) = true ∧ okS (S (nkL c b u)) = true ∧ low (S (nkL c b u)) = S (nameL c u) := by decide +kernel
theorem name_up {σ : Hp} : (List.range 5).flatMap (fun c => (List.range 32).map fun u => callMt info .upper (.d (.str (S (nameL c u)))) [] σ) = (List.range 5).flatMap fun c => (List.range 32).map fun u => some (.val (.d (.str (S (nkL c 1 u)))), σ) := by kernel_rfl
end L2
end
section
open PySem Mine
namespace L2
theorem for_brk {I : Info} {O : Orc} {ρ : En} {σ σ₁ : Hp} {t : Tgt} {it : It} {body : List St'} {xs : List Item} (P : Nat → En → Hp → Prop) (Q : En → Hp → Prop) (hi : evIt I O it ρ σ = some (.imm xs, σ₁)) (h0 : P 0 ρ σ₁)
    (hs : ∀ j i ρ σ, xs[j]? = some i → P j ρ σ → ∃ ρ₁, bindT t i ρ = some ρ₁ ∧ (Goes I O body ρ₁ σ (P (j + 1)) ∨ ∃ ρ₂ σ₂, exSs I O body ρ₁ σ = some (.brk, ρ₂, σ₂) ∧ Q ρ₂ σ₂)) :
    ∃ ρ' σ', exS I O (.fo t it body) ρ σ = some (.next, ρ', σ') ∧ (P xs.length ρ' σ' ∨ Q ρ' σ') := by
  have key : ∀ (ys : List Item) (k : Nat) (ρ : En) (σ : Hp), (∀ j, ys[j]? = xs[k + j]?) → k + ys.length = xs.length → P k ρ σ →
      (∃ ρ' σ', loopI (stepF t fun ρ σ => exSs I O body ρ σ) ys ρ σ = some (none, ρ', σ') ∧ P xs.length ρ' σ') ∨ ∃ ρ' σ', loopI (stepF t fun ρ σ => exSs I O body ρ σ) ys ρ σ = some (some .brk, ρ', σ') ∧ Q ρ' σ' := by
    intro ys
    induction ys with
    | nil => intro k ρ σ _ hl hp; exact .inl ⟨ρ, σ, rfl, by rw [← hl]; exact hp⟩
    | cons i r ih =>
      intro k ρ σ hj hl hp
      obtain ⟨ρ₁, h1, h2⟩ := hs k i ρ σ (by rw [← Nat.add_zero k, ← hj 0]; rfl) hp
      have st : ∀ fl ρ₂ σ₂, exSs I O body ρ₁ σ = some (fl, ρ₂, σ₂) → stepF t (fun ρ σ => exSs I O body ρ σ) i ρ σ = some (outF fl, ρ₂, σ₂) := fun fl ρ₂ σ₂ e => stepF_eq (y := (ρ₂, σ₂)) h1 e
      rw [loopI_c]
      rcases h2 with ⟨ρ₂, σ₂, h2, h3⟩ | ⟨ρ₂, σ₂, h2, h3⟩
      · rw [st _ _ _ h2]
        exact ih (k + 1) ρ₂ σ₂ (fun j => by rw [Nat.add_assoc, Nat.add_comm 1 j, ← hj (j + 1)]; rfl) (by rw [List.length_cons] at hl; (first | lia | omega)) h3
      · rw [st _ _ _ h2]
        exact .inr ⟨ρ₂, σ₂, rfl, h3⟩
  have ex : exS I O (.fo t it body) ρ σ = ofFlo (loopI (stepF t fun ρ σ => exSs I O body ρ σ) xs ρ σ₁) := bd_eq hi rfl
  rcases key xs 0 ρ σ₁ (fun j => by rw [Nat.zero_add]) (Nat.zero_add _) h0 with ⟨ρ', σ', e, h⟩ | ⟨ρ', σ', e, h⟩
  · exact ⟨ρ', σ', ex.trans (congrArg ofFlo e), .inl h⟩
  · exact ⟨ρ', σ', ex.trans (congrArg ofFlo e), .inr h⟩
theorem seq_brk {I : Info} {O : Orc} {ρ ρ' : En} {σ σ' : Hp} {s : St'} {r : List St'} (h : exS I O s ρ σ = some (.brk, ρ', σ')) : exSs I O (s :: r) ρ σ = some (.brk, ρ', σ') := bd_eq (a := Flo.brk) (b := (ρ', σ')) h rfl
theorem slc_from {σ : Hp} {xs : List PyData} {k : Nat} (h : xs.length < 1000) : slice σ (.d (.list xs)) (some (.d (.int k))) none = some (.fresh ((xs.drop k).map .d)) :=
  bn_eq rfl (bn_eq rfl (or_r rfl (or_l (bn_eq rfl (gd_eq (Nat.lt_trans h (by decide)) (by rw [cut_from]))))))
noncomputable def nameE : Ex := .meth (.str (S [])) .join [(.comp (.gen (.one 57) (.ex (.bin .Add (.slc (.var 14) none (some (.var 46))) (.slc (.var 14) (some (.bin .Add (.var 46) (.int 1))) none))) [] (.emit (.idx (.str (S [120, 111])) (.var 57)))))] none
noncomputable def chD : PyData → PyData
  | .int b => .str (chS (if b = 1 then 111 else 120))
  | _ => .none
theorem bits_len (u : Nat) : (bitsL u).length = 5 := by unfold bitsL; rw [List.length_map, List.length_range']
theorem bit_or (u k : Nat) : bit u k = 0 ∨ bit u k = 1 := by
  unfold bit
  (first | lia | omega)
theorem name_ev {O : Orc} {ρ : En} {σ : Hp} {c u : Nat} (hc : c < 5) (hu : u < 32) (h1 : getV 14 ρ = some (.d (rowD u))) (h2 : getV 46 ρ = some (.d (.int c))) : EV info O nameE ρ σ (.d (.str (S (nameL c u)))) σ := by
  have l5 : (bitsL u).length < 1000 := by rw [bits_len]; decide
  have e1 : EV info O (.slc (.var 14) none (some (.var 46))) ρ σ (.d (.list ((bitsL u).take c))) σ := .of_fresh (ev_slc (.var h1) evo_none (evo_some (.var h2)) (slc_d l5)) (dats_d _)
  have e2 : EV info O (.slc (.var 14) (some (.bin .Add (.var 46) (.int 1))) none) ρ σ (.d (.list ((bitsL u).drop (c + 1)))) σ :=
    .of_fresh (ev_slc (.var h1) (evo_some (.bin (k := ((c + 1 : Nat) : Int)) (.var h2) .int rfl)) evo_none (slc_from l5)) (dats_d _)
  have e3 : EV info O (.bin .Add (.slc (.var 14) none (some (.var 46))) (.slc (.var 14) (some (.bin .Add (.var 46) (.int 1))) none)) ρ σ (.d (.list ((keysL c).map fun k => .int (bit u k : Nat)))) σ := by
    rw [← flat_all name_rest hc hu]
    exact .of_fresh (ev_bin e1 e2 (or_r rfl (bn_eq rfl (bn_eq rfl (gd_eq ⟨rfl, by
      have h3 := List.length_take_le' c (bitsL u)
      have h4 : ((bitsL u).drop (c + 1)).length ≤ (bitsL u).length := by rw [List.length_drop]; exact Nat.sub_le _ _
      rw [bits_len] at h3 h4
      (first | lia | omega)⟩ rfl))))) (dats_d _)
  have e4 : EV info O (.comp (.gen (.one 57) (.ex (.bin .Add (.slc (.var 14) none (some (.var 46))) (.slc (.var 14) (some (.bin .Add (.var 46) (.int 1))) none))) [] (.emit (.idx (.str (S [120, 111])) (.var 57))))) ρ σ (.d (.list (((keysL c).map fun k => PyData.int (bit u k : Nat)).map chD))) σ :=
    comp_data chD e3 (fun d hd => by
      obtain ⟨k, _, e⟩ := List.mem_map.mp hd
      subst e
      refine .idx .str (.var rfl) ?_
      rcases bit_or u k with e | e
      · rw [e]; exact idx_txt rfl
      · rw [e]; exact idx_txt rfl) (by
      rw [List.length_map]
      have := List.length_filter_le (fun k => !decide (k = c)) (List.range 5)
      rw [List.length_range] at this
      unfold keysL
      (first | lia | omega))
  have e5 : ((keysL c).map fun k => PyData.int (bit u k : Nat)).map chD = nameD c u := by
    rw [List.map_map]
    exact List.map_congr_left fun k _ => by
      show PyData.str (chS (if ((bit u k : Nat) : Int) = 1 then 111 else 120)) = .str (chS (if bit u k = 1 then 111 else 120))
      rcases bit_or u k with e | e
      · rw [e]; rfl
      · rw [e]; rfl
  rw [e5] at e4
  exact .mt .str (.one e4) (fun _ h => by cases h) rfl (flat_all join_all hc hu)
noncomputable def keyE : Ex := .ite (.bin .Mod (.var 39) (.int 2)) (.meth (.var 32) .upper [] none) (.var 32)
theorem key_ev {O : Orc} {ρ : En} {σ : Hp} {c u k : Nat} (hc : c < 5) (hu : u < 32) (h1 : getV 39 ρ = some (.d (.int k))) (h2 : getV 32 ρ = some (.d (.str (S (nameL c u))))) : EV info O keyE ρ σ (.d (.str (S (nkL c k u)))) σ := by
  have m : EV info O (.bin .Mod (.var 39) (.int 2)) ρ σ (.d (.int ((k % 2 : Nat) : Int))) σ := .bin (.var h1) .int (gd_eq ⟨by decide, by decide⟩ (congrArg some (by (first | lia | omega))))
  unfold nkL
  rcases Nat.mod_two_eq_zero_or_one k with e | e
  · rw [e] at m ⊢
    exact .ite (r := false) m rfl (.var h2)
  · rw [e] at m ⊢
    exact .ite (r := true) m rfl (.mt (.var h2) .nil (fun _ h => by cases h) rfl (flat_all name_up hc hu))
theorem str_ev {O : Orc} {ρ : En} {σ : Hp} {k : Nat} (hk : k < 10) (h1 : getV 39 ρ = some (.d (.int k))) : EV info O (.bi .strOf [(.var 39)]) ρ σ (.d (.str (chS (48 + k)))) σ :=
  .of_val (ev_bi (.one (.var h1)) rfl (bn_eq rfl (gd_eq ⟨by (first | lia | omega), by (first | lia | omega)⟩ rfl)))
noncomputable def kvsN (us : List Nat) (c k : Nat) : List (Str × Str) := (List.range k).map fun i => (S (nkL c i (us.getD i 0)), chS (48 + i))
theorem nk_mod (c k u : Nat) : nkL c k u = nkL c (k % 2) u := by unfold nkL; rw [Nat.mod_mod]
theorem nk_ok {c k u : Nat} (hc : c < 5) (hu : u < 32) : okN (S (nkL c k u)) = true ∧ okS (S (nkL c k u)) = true ∧ low (S (nkL c k u)) = S (nameL c u) := by
  rw [nk_mod]
  exact name_ok c hc u hu _ (Nat.mod_lt _ (by decide))
theorem name_inj {c u w : Nat} : nameL c u = nameL c w ↔ agree c u w = true := by
  rw [agree_iff]
  unfold nameL
  rw [List.map_inj_left]
  constructor
  · intro h k hk
    have := h k hk
    rcases bit_or u k with e | e
    · rcases bit_or w k with e2 | e2
      · rw [e, e2]
      · rw [e, e2] at this; exact absurd this (by decide)
    · rcases bit_or w k with e2 | e2
      · rw [e, e2] at this; exact absurd this (by decide)
      · rw [e, e2]
  · intro h k hk
    rw [h k hk]
theorem getD_lt {us : List Nat} (hu : ok32 us) (i : Nat) : us.getD i 0 < 32 := by
  rw [List.getD_eq_getElem?_getD]
  cases h : us[i]? with
  | none => exact (by decide : 0 < 32)
  | some u => exact hu u (List.mem_of_getElem? h)
theorem kv_key {us : List Nat} (hu : ok32 us) {c k : Nat} (hc : c < 5) : ∀ kv ∈ kvsN us c k, okN kv.1 = true := by
  intro kv h
  obtain ⟨i, _, e⟩ := List.mem_map.mp h
  subst e
  exact (nk_ok hc (getD_lt hu i)).1
theorem take_at {us : List Nat} {k i : Nat} (hk : k ≤ us.length) (hi : i < k) : us.getD i 0 ∈ us.take k := by
  have h : i < us.length := Nat.lt_of_lt_of_le hi hk
  rw [List.getD_eq_getElem?_getD, List.getElem?_eq_getElem h]
  exact List.mem_of_getElem? (i := i) (by rw [List.getElem?_take, if_pos hi]; exact List.getElem?_eq_getElem h)
theorem get_new {us : List Nat} (hu : ok32 us) {c k : Nat} (hc : c < 5) (hk : k < us.length) (h : ((us.take k).any fun w => agree c (us.getD k 0) w) = false) : getO (kvsN us c k) (S (nkL c k (us.getD k 0))) = none := by
  have : (kvsN us c k).find? (fun kv => decide (low kv.1 = low (S (nkL c k (us.getD k 0))))) = none := by
    rw [List.find?_eq_none]
    intro kv hkv
    obtain ⟨i, hi, e⟩ := List.mem_map.mp hkv
    subst e
    dsimp only
    rw [(nk_ok hc (getD_lt hu i)).2.2, (nk_ok hc (getD_lt hu k)).2.2, decide_eq_true_eq]
    intro e
    have := name_inj.mp (S_inj.mp e).symm
    exact List.any_eq_false.mp h _ (take_at (Nat.le_of_lt hk) (List.mem_range.mp hi)) this
  unfold getO
  rw [this]
  rfl
theorem get_old {us : List Nat} (hu : ok32 us) {c k : Nat} (hc : c < 5) (h : ((us.take k).any fun w => agree c (us.getD k 0) w) = true) : ∃ j, j < k ∧ getO (kvsN us c k) (S (nkL c k (us.getD k 0))) = some (chS (48 + j)) := by
  unfold getO
  cases hf : (kvsN us c k).find? (fun kv => decide (low kv.1 = low (S (nkL c k (us.getD k 0))))) with
  | some kv =>
    obtain ⟨i, hi, e⟩ := List.mem_map.mp (List.mem_of_find?_eq_some hf)
    exact ⟨i, List.mem_range.mp hi, by rw [← e]; rfl⟩
  | none =>
    obtain ⟨w, hw, ha⟩ := List.any_eq_true.mp h
    obtain ⟨i, hi⟩ := List.mem_iff_getElem?.mp hw
    rw [List.getElem?_take] at hi
    by_cases c1 : i < k
    · rw [if_pos c1] at hi
      have := List.find?_eq_none.mp hf (S (nkL c i (us.getD i 0)), chS (48 + i)) (List.mem_map.mpr ⟨i, List.mem_range.mpr c1, rfl⟩)
      dsimp only at this
      rw [(nk_ok hc (getD_lt hu i)).2.2, (nk_ok hc (getD_lt hu k)).2.2, decide_eq_true_eq] at this
      refine absurd (S_inj.mpr (name_inj.mpr ?_).symm) this
      rw [List.getD_eq_getElem?_getD (i := i), hi]
      exact ha
    · rw [if_neg c1] at hi; cases hi
theorem kvs_succ (us : List Nat) (c k : Nat) : kvsN us c (k + 1) = kvsN us c k ++ [(S (nkL c k (us.getD k 0)), chS (48 + k))] := by
  unfold kvsN
  rw [List.range_succ, List.map_append]
  rfl
theorem dig_ok : ∀ k, k < 10 → okS (chS (48 + k)) = true := by decide +kernel
end L2
end
section
open PySem Mine
namespace L2
theorem set_far {σ τ : Hp} {x y : PO} {h : Nat} (hh : σ.length + 1 ≤ h) : (σ ++ [x] ++ τ).set h y = σ ++ [x] ++ τ.set (h - (σ.length + 1)) y := by
  have e : (σ ++ [x]).length = σ.length + 1 := by rw [List.length_append]; rfl
  rw [List.set_append_right _ _ (by rw [e]; exact hh), e]
noncomputable def nmB : List St' := [(.set 32 nameE), (.cond (.cmp .NotEq (.meth (.var 56) (.own 58) [keyE, (.bi .strOf [(.var 39)])] none) (.bi .strOf [(.var 39)])) [(.exp (.meth (.var 45) .append [(.var 46)] none)), .brk] [])]
structure NmR (σ : Hp) (us : List Nat) (c l h : Nat) (k : Nat) (ρ : En) (σ' : Hp) : Prop where
  ra : getV 49 ρ = some (.d (rowsP us))
  rb : getV 45 ρ = some (.loc σ.length)
  rc : getV 46 ρ = some (.d (.int c))
  rd : getV 56 ρ = some (.loc l)
  rh : IsH σ' l h (kvsN us c k)
  re : ∃ τ, σ' = σ ++ [PO.lst (colsP us c)] ++ τ
  rn : ((List.range k).any fun i => (us.take i).any fun w => agree c (us.getD i 0) w) = false
theorem name_turn {σ σ' : Hp} {us : List Nat} {c l h k u : Nat} {ρ : En} (hl : us.length ≤ 5) (hu : ok32 us) (hc : c < 5) (hh : σ.length + 1 ≤ h) (R : NmR σ us c l h k ρ σ') (hk : us[k]? = some u) :
    Goes info O15 nmB (upd 14 (.d (rowD u)) (upd 39 (.d (.int k)) ρ)) σ' (NmR σ us c l h (k + 1)) ∨ ∃ ρ₂ σ₂, exSs info O15 nmB (upd 14 (.d (rowD u)) (upd 39 (.d (.int k)) ρ)) σ' = some (.brk, ρ₂, σ₂) ∧
      getV 49 ρ₂ = some (.d (rowsP us)) ∧ getV 45 ρ₂ = some (.loc σ.length) ∧ (∃ τ, σ₂ = σ ++ [PO.lst (colsP us c ++ [.d (.int c)])] ++ τ) ∧ need us c = true := by
  have hk2 : k < us.length := (List.getElem?_eq_some_iff.mp hk).1
  have hg : us.getD k 0 = u := by rw [List.getD_eq_getElem?_getD, hk]; rfl
  have u32 : u < 32 := hu u (List.mem_of_getElem? hk)
  have k10 : k < 10 := by (first | lia | omega)
  obtain ⟨τ, p3⟩ := R.re
  have hH := R.rh
  subst p3
  have s1 : exS info O15 (.set 32 nameE) (upd 14 (.d (rowD u)) (upd 39 (.d (.int k)) ρ)) (σ ++ [PO.lst (colsP us c)] ++ τ) = some (.next, upd 32 (.d (.str (S (nameL c u)))) (upd 14 (.d (rowD u)) (upd 39 (.d (.int k)) ρ)), σ ++ [PO.lst (colsP us c)] ++ τ) := st_set (name_ev hc u32 rfl R.rc)
  have e1 : EV info O15 keyE (upd 32 (.d (.str (S (nameL c u)))) (upd 14 (.d (rowD u)) (upd 39 (.d (.int k)) ρ))) (σ ++ [PO.lst (colsP us c)] ++ τ) (.d (.str (S (nkL c k u)))) (σ ++ [PO.lst (colsP us c)] ++ τ) := key_ev hc u32 rfl rfl
  have e2 : ∀ σ, EV info O15 (.bi .strOf [(.var 39)]) (upd 32 (.d (.str (S (nameL c u)))) (upd 14 (.d (rowD u)) (upd 39 (.d (.int k)) ρ))) σ (.d (.str (chS (48 + k)))) σ := fun σ => str_ev k10 rfl
  have d := setdefault_ok hH (nk_ok (k := k) hc u32).1 (nk_ok hc u32).2.1 (dig_ok k k10) (kv_key hu hc) (by unfold kvsN; rw [List.length_map, List.length_range]; (first | lia | omega))
  have mo : methOf info (σ ++ [PO.lst (colsP us c)] ++ τ) l 58 = some 12 := (meth_h 58 hH (by decide +kernel)).trans rfl
  cases ha : (us.take k).any fun w => agree c (us.getD k 0) w with
  | false =>
    have g := get_new hu hc hk2 ha
    rw [hg] at g
    rw [g] at d
    dsimp only at d
    rw [set_far hh] at d
    have tt : Tst info O15 (.cmp .NotEq (.meth (.var 56) (.own 58) [keyE, (.bi .strOf [(.var 39)])] none) (.bi .strOf [(.var 39)])) (upd 32 (.d (.str (S (nameL c u)))) (upd 14 (.d (rowD u)) (upd 39 (.d (.int k)) ρ))) (σ ++ [PO.lst (colsP us c)] ++ τ) (!decide (48 + k = 48 + k)) _ :=
      Tst.cmp (.own (.var R.rd) (.two e1 (e2 _)) mo d) (e2 _) (ch_ne (by (first | lia | omega)) (by (first | lia | omega)))
    rw [decide_eq_true rfl] at tt
    have hH2 : IsH (σ ++ [PO.lst (colsP us c)] ++ τ.set (h - (σ.length + 1)) (PO.lst ((kvsN us c k ++ [(S (nkL c k u), chS (48 + k))]).map pr))) l h (kvsN us c (k + 1)) := by
      have q := hH.put (kvs' := kvsN us c (k + 1))
      rw [set_far hh, kvs_succ, hg] at q
      rw [kvs_succ, hg]
      exact q
    refine .inl (goes_next s1 (goes_no tt (goes_nil ⟨R.ra, R.rb, R.rc, R.rd, hH2, ⟨_, rfl⟩, ?_⟩)))
    rw [List.range_succ, List.any_append, R.rn, List.any_cons, ha]
    rfl
  | true =>
    obtain ⟨j, hj, g⟩ := get_old hu hc ha
    rw [hg] at g
    rw [g] at d
    dsimp only at d
    have tt : Tst info O15 (.cmp .NotEq (.meth (.var 56) (.own 58) [keyE, (.bi .strOf [(.var 39)])] none) (.bi .strOf [(.var 39)])) (upd 32 (.d (.str (S (nameL c u)))) (upd 14 (.d (rowD u)) (upd 39 (.d (.int k)) ρ))) (σ ++ [PO.lst (colsP us c)] ++ τ) (!decide (48 + j = 48 + k)) _ :=
      Tst.cmp (.own (.var R.rd) (.two e1 (e2 _)) mo d) (e2 _) (ch_ne (by (first | lia | omega)) (by (first | lia | omega)))
    rw [decide_eq_false (by (first | lia | omega))] at tt
    have ap : exS info O15 (.exp (.meth (.var 45) .append [(.var 46)] none)) (upd 32 (.d (.str (S (nameL c u)))) (upd 14 (.d (rowD u)) (upd 39 (.d (.int k)) ρ))) (σ ++ [PO.lst (colsP us c)] ++ τ) = some (.next, upd 32 (.d (.str (S (nameL c u)))) (upd 14 (.d (rowD u)) (upd 39 (.d (.int k)) ρ)), (σ ++ [PO.lst (colsP us c)] ++ τ).set σ.length (.lst (colsP us c ++ [.d (.int c)]))) :=
      st_exp (.mt (.var (x := 45) R.rb) (.one (.var (x := 46) R.rc)) (fun _ h => by cases h) (rcv_lst get_mid) (mt_append get_mid (cols_len (Nat.le_of_lt hc)))) (.inl rfl)
    refine .inr ⟨_, _, (seq_next s1).trans (seq_brk ((st_if1 tt).trans ((seq_next ap).trans (seq_brk rfl)))), R.ra, R.rb, ⟨τ, set_mid⟩, ?_⟩
    exact List.any_eq_true.mpr ⟨k, List.mem_range.mpr hk2, ha⟩
theorem names_law {σ : Hp} {us : List Nat} (hl : us.length ≤ 5) (hu : ok32 us) : ∃ τ, runFn info O15 f__law_by_names [.d (rowsP us)] σ = some (.d (.list (iD (cols us))), σ ++ τ) := by
  refine Exists.elim (tells_fn (R := fun p σ' => p = .d (.list (iD (cols us))) ∧ ∃ τ, σ' = σ ++ τ) (ρ := [(49, some (.d (rowsP us)))]) rfl ?_) fun p hp => by
    obtain ⟨σ', e, h1, τ, h2⟩ := hp
    exact ⟨τ, by rw [← h1, ← h2]; exact e⟩
  unfold f__law_by_names
  dsimp only
  refine tell_next (st_set (.mut (xs := []) rfl)) ?_
  refine tell_ex (for_goes (xs := (rangeL 0 5).map .one) (σ₁ := σ ++ [PO.lst []]) (fun j ρ σ' => getV 49 ρ = some (.d (rowsP us)) ∧ getV 45 ρ = some (.loc σ.length) ∧ ∃ τ, σ' = σ ++ [PO.lst (colsP us j)] ++ τ)
    (range1 (b := 5) .int (by decide)) ⟨rfl, rfl, [], (List.append_nil _).symm⟩ fun c i ρ σ' hj y => ?_) fun ρ σ' y => ?_
  · obtain ⟨p1, p2, τ, p3⟩ := y
    obtain ⟨hc, e⟩ := r5_at hj
    subst e p3
    refine ⟨_, rfl, ?_⟩
    obtain ⟨n1, n2⟩ := new0_ok (O := O15) (ρ := upd 46 (.d (.int c)) ρ) (σ := σ ++ [PO.lst (colsP us c)] ++ τ) (fun _ _ => rfl)
    refine goes_next (st_set (.of_val n1)) ?_
    have hlen : σ.length + 1 ≤ (σ ++ [PO.lst (colsP us c)] ++ τ).length := by rw [List.length_append, List.length_append]; exact Nat.le_add_right _ _
    generalize (σ ++ [PO.lst (colsP us c)] ++ τ).length = n at n2 hlen
    rw [List.append_assoc (σ ++ [PO.lst (colsP us c)]) τ] at n2 ⊢
    generalize τ ++ [PO.ns [(hN, .loc (n + 2))], PO.inst 213 n, PO.lst []] = τ' at n2
    refine goes_ex (for_brk (I := info) (O := O15) (t := .two 39 14) (it := .enum (.var 49)) (body := nmB) (xs := enumF 0 ((us.map rowD).map .d)) (σ₁ := σ ++ [PO.lst (colsP us c)] ++ τ') (NmR σ us c (n + 1) (n + 2))
      (fun ρ₂ σ₂ => getV 49 ρ₂ = some (.d (rowsP us)) ∧ getV 45 ρ₂ = some (.loc σ.length) ∧ (∃ τ, σ₂ = σ ++ [PO.lst (colsP us c ++ [.d (.int c)])] ++ τ) ∧ need us c = true)
      (enum_ev (ds := us.map rowD) (.var (x := 49) p1)) ⟨p1, p2, rfl, rfl, n2, ⟨τ', rfl⟩, rfl⟩ fun k i ρ σ' hj R => ?_) fun ρ σ' y => ?_
    · obtain ⟨d, h1, e⟩ := enum_at hj
      obtain ⟨u, h2, e1⟩ := row_at h1
      subst e e1
      exact ⟨_, rfl, name_turn hl hu hc (by (first | lia | omega)) R h2⟩
    · have e := cols_succ (us := us) (j := c)
      refine goes_nil ?_
      rcases y with R | ⟨q1, q2, ⟨τ2, q3⟩, q4⟩
      · have hn : need us c = false := by
          have := R.rn
          rw [enumF_len, List.length_map, List.length_map] at this
          exact this
        rw [hn, if_neg (by decide)] at e
        obtain ⟨τ2, h2⟩ := R.re
        exact ⟨R.ra, R.rb, τ2, by rw [e]; exact h2⟩
      · rw [q4, if_pos rfl] at e
        exact ⟨q1, q2, τ2, by rw [e]; exact q3⟩
  · obtain ⟨p1, p2, τ, p3⟩ := y
    subst p3
    refine tell_next (st_freeze p2 get_mid (dats_iP _)) (tell_now (.var rfl) ⟨rfl, [.dead] ++ τ, ?_⟩)
    rw [set_mid, List.append_assoc]
end L2
end
section
open PySem Mine
namespace L2
theorem agree_symm {c u w : Nat} (h : agree c u w = true) : agree c w u = true := agree_iff.mpr fun k hk => (agree_iff.mp h k hk).symm
theorem bits_eq : ∀ u, u < 32 → ∀ w, w < 32 → (∀ k, k < 5 → bit u k = bit w k) → u = w := by decide +kernel
theorem xor_ok : ∀ u, u < 32 → ∀ c, c < 5 → u ^^^ 2 ^ c < 32 ∧ u ≠ u ^^^ 2 ^ c ∧ agree c u (u ^^^ 2 ^ c) = true := by decide +kernel
theorem agree_bit {c u w : Nat} (hu : u < 32) (hw : w < 32) (h : agree c u w = true) (e : bit u c = bit w c) : u = w := bits_eq u hu w hw fun k hk => by
  by_cases hc : k = c
  · rw [hc]; exact e
  · exact agree_iff.mp h k (List.mem_filter.mpr ⟨List.mem_range.mpr hk, by rw [decide_eq_false hc]; rfl⟩)
theorem agree_xor {c u w : Nat} (hu : u < 32) (hw : w < 32) (hc : c < 5) (hn : u ≠ w) (h : agree c u w = true) : w = u ^^^ 2 ^ c := by
  obtain ⟨x1, x2, x3⟩ := xor_ok u hu c hc
  have a : agree c w (u ^^^ 2 ^ c) = true := agree_iff.mpr fun k hk => (agree_iff.mp h k hk).symm.trans (agree_iff.mp x3 k hk)
  refine agree_bit hw x1 a ?_
  have n1 : bit u c ≠ bit w c := fun e => hn (agree_bit hu hw h e)
  have n2 : bit u c ≠ bit (u ^^^ 2 ^ c) c := fun e => x2 (agree_bit hu x1 x3 e)
  rcases bit_or u c with e | e <;> rcases bit_or w c with e2 | e2 <;> rcases bit_or (u ^^^ 2 ^ c) c with e3 | e3 <;> (first | lia | omega)
theorem nd_take {vs : List Nat} (hn : vs.Nodup) {k u w : Nat} (h : vs[k]? = some u) (hw : w ∈ vs.take k) : u ≠ w := fun e => by
  obtain ⟨j, hj⟩ := List.mem_iff_getElem?.mp hw
  rw [List.getElem?_take] at hj
  by_cases c : j < k
  · rw [if_pos c] at hj
    exact absurd ((List.getElem?_inj (List.getElem?_eq_some_iff.mp h).1 hn).mp (h.trans (by rw [e]; exact hj.symm))) (by (first | lia | omega))
  · rw [if_neg c] at hj; cases hj
theorem need_iff {vs : List Nat} (hn : vs.Nodup) {c : Nat} : need vs c = true ↔ ∃ u w, u ∈ vs ∧ w ∈ vs ∧ u ≠ w ∧ agree c u w = true := by
  unfold need anyP
  rw [List.any_eq_true]
  constructor
  · intro ⟨k, hk, h⟩
    obtain ⟨w, hw, ha⟩ := List.any_eq_true.mp h
    have hk2 := List.mem_range.mp hk
    have h1 : vs[k]? = some vs[k] := List.getElem?_eq_getElem hk2
    rw [List.getD_eq_getElem?_getD, h1] at ha
    exact ⟨vs[k], w, List.getElem_mem hk2, List.mem_of_mem_take hw, nd_take hn h1 hw, ha⟩
  · intro ⟨u, w, hu, hw, hne, ha⟩
    have main : ∀ {i j : Nat} {u w : Nat}, vs[i]? = some u → vs[j]? = some w → j < i → agree c u w = true → ∃ k ∈ List.range vs.length, ((vs.take k).any fun w => agree c (vs.getD k 0) w) = true := fun {i j u w} h1 h2 hij ha =>
      ⟨i, List.mem_range.mpr (List.getElem?_eq_some_iff.mp h1).1, List.any_eq_true.mpr ⟨w, List.mem_of_getElem? (i := j) (by rw [List.getElem?_take, if_pos hij]; exact h2), by rw [List.getD_eq_getElem?_getD, h1]; exact ha⟩⟩
    obtain ⟨i, hi⟩ := List.mem_iff_getElem?.mp hu
    obtain ⟨j, hj⟩ := List.mem_iff_getElem?.mp hw
    rcases Nat.lt_trichotomy j i with h | h | h
    · exact main hi hj h ha
    · rw [h, hi] at hj; exact absurd (Option.some.inj hj) hne
    · exact main hj hi h (agree_symm ha)
theorem need_xor {vs : List Nat} (hn : vs.Nodup) (hu : ok32 vs) {c : Nat} (hc : c < 5) : (vs.any fun v => decide (v ^^^ 2 ^ c ∈ vs)) = need vs c := by
  have key : (vs.any fun v => decide (v ^^^ 2 ^ c ∈ vs)) = true ↔ need vs c = true := by
    rw [need_iff hn, List.any_eq_true]
    constructor
    · intro ⟨v, hv, h⟩
      obtain ⟨x1, x2, x3⟩ := xor_ok v (hu v hv) c hc
      exact ⟨v, _, hv, of_decide_eq_true h, x2, x3⟩
    · intro ⟨u, w, h1, h2, h3, h4⟩
      exact ⟨u, h1, decide_eq_true (by rw [← agree_xor (hu u h1) (hu w h2) hc h3 h4]; exact h2)⟩
  cases h : need vs c with
  | true => exact key.mpr h
  | false => exact Bool.eq_false_iff.mpr fun e => absurd ((key.mp e).symm.trans h) (by decide)
noncomputable def clr (cs : List Nat) (v : Nat) : Nat → Nat := fun k => if k ∈ cs then 0 else bit v k
open Classical in
theorem cover {vs : List Nat} (hn : vs.Nodup) (hu : ok32 vs) : ∀ cs : List Nat, cs.Nodup → (∀ c ∈ cs, need vs c = true) → ∃ m : List (Nat → Nat), m.length + cs.length ≤ vs.length ∧ ∀ v ∈ vs, clr cs v ∈ m
  | [], _, _ => ⟨vs.map (clr []), by rw [List.length_map]; exact Nat.le_refl _, fun v hv => List.mem_map_of_mem hv⟩
  | c :: cs, hd, h => by
    obtain ⟨d1, d2⟩ := List.nodup_cons.mp hd
    obtain ⟨m, h1, h2⟩ := cover hn hu cs d2 fun c hc => h c (List.mem_cons_of_mem _ hc)
    obtain ⟨u, w, hu1, hw1, hne, ha⟩ := (need_iff hn).mp (h c List.mem_cons_self)
    have cx : ∀ v, clr (c :: cs) v = fun k => if k = c then 0 else clr cs v k := fun v => funext fun k => by
      unfold clr
      by_cases e : k = c
      · rw [if_pos e, if_pos (by rw [e]; exact List.mem_cons_self)]
      · rw [if_neg e]
        by_cases e2 : k ∈ cs
        · rw [if_pos e2, if_pos (List.mem_cons_of_mem _ e2)]
        · rw [if_neg e2, if_neg fun q => (List.mem_cons.mp q).elim e e2]
    have same : clr (c :: cs) u = clr (c :: cs) w := funext fun k => by
      unfold clr
      by_cases e : k ∈ c :: cs
      · rw [if_pos e, if_pos e]
      · rw [if_neg e, if_neg e]
        have hk : k ≠ c := fun q => e (by rw [q]; exact List.mem_cons_self)
        by_cases h5 : k < 5
        · exact agree_iff.mp ha k (List.mem_filter.mpr ⟨List.mem_range.mpr h5, by rw [decide_eq_false hk]; rfl⟩)
        · have z : ∀ v, v < 32 → bit v k = 0 := fun v hv => by
            unfold bit
            rw [Nat.div_eq_of_lt (Nat.lt_of_lt_of_le hv (show 2 ^ 5 ≤ 2 ^ k from Nat.pow_le_pow_right (by decide) (Nat.le_of_not_lt h5)))]
          rw [z u (hu u hu1), z w (hu w hw1)]
    have diff : clr cs u ≠ clr cs w := fun e => by
      have := congrFun e c
      unfold clr at this
      rw [if_neg d1, if_neg d1] at this
      exact hne (agree_bit (hu u hu1) (hu w hw1) ha this)
    refine ⟨(m.filter fun f => decide (f ≠ clr cs u)).map fun f k => if k = c then 0 else f k, ?_, fun v hv => ?_⟩
    · have lt : (m.filter fun f => decide (f ≠ clr cs u)).length < m.length := List.length_filter_lt_length_iff_exists.mpr ⟨clr cs u, h2 u hu1, by simp⟩
      rw [List.length_map, List.length_cons]
      (first | lia | omega)
    · by_cases e : clr cs v = clr cs u
      · rw [cx v, e, ← cx u, same, cx w]
        exact List.mem_map.mpr ⟨clr cs w, List.mem_filter.mpr ⟨h2 w hw1, decide_eq_true fun q => diff q.symm⟩, rfl⟩
      · rw [cx v]
        exact List.mem_map.mpr ⟨clr cs v, List.mem_filter.mpr ⟨h2 v hv, decide_eq_true e⟩, rfl⟩
theorem bondy {vs : List Nat} (hn : vs.Nodup) (hu : ok32 vs) (h : 0 < vs.length) : (cols vs).length < vs.length := by
  obtain ⟨m, h1, h2⟩ := cover hn hu (cols vs) ((List.nodup_range).filter _) fun c hc => (List.mem_filter.mp hc).2
  have : 0 < m.length := by
    obtain ⟨v, r, e⟩ := List.exists_cons_of_length_pos h
    exact List.length_pos_of_mem (h2 v (by rw [e]; exact List.mem_cons_self))
  (first | lia | omega)
end L2
end
section
open PySem Mine
namespace L2
theorem nd_len : ∀ {W R : List Nat}, W.Nodup → (∀ x ∈ W, x ∈ R) → W.length ≤ R.length
  | [], _, _, _ => Nat.zero_le _
  | a :: r, R, h, hs => by
    obtain ⟨h1, h2⟩ := List.nodup_cons.mp h
    have ha : a ∈ R := hs a List.mem_cons_self
    have q := nd_len (W := r) (R := R.erase a) h2 fun x hx => (List.mem_erase_of_ne (fun e => by subst e; exact h1 hx)).mpr (hs x (List.mem_cons_of_mem _ hx))
    rw [List.length_erase_of_mem ha] at q
    have : 0 < R.length := List.length_pos_of_mem ha
    rw [List.length_cons]
    (first | lia | omega)
theorem free_one (us : List Nat) (h : us.length < 32) : ∃ r, r < 32 ∧ r ∉ us := Classical.byContradiction fun n => by
  have : (List.range 32).length ≤ us.length := nd_len List.nodup_range fun x hx => Classical.byContradiction fun hn => n ⟨x, List.mem_range.mp hx, hn⟩
  rw [List.length_range] at this
  (first | lia | omega)
theorem inL_iD (r : Nat) : ∀ us : List Nat, inL (.int (r : Nat)) (iD us) = decide (r ∈ us)
  | [] => rfl
  | u :: t => by
    have ih := inL_iD r t
    show (decide ((u : Int) = (r : Int)) || inL (.int (r : Nat)) (iD t)) = _
    rw [ih]
    by_cases c : r = u
    · rw [decide_eq_true (p := (u : Int) = r) (by (first | lia | omega)), decide_eq_true (p := r ∈ u :: t) (by rw [c]; exact List.mem_cons_self)]; rfl
    · rw [decide_eq_false (p := (u : Int) = r) (by (first | lia | omega)), Bool.false_or]
      exact decide_eq_decide.mpr ⟨List.mem_cons_of_mem _, fun h => (List.mem_cons.mp h).resolve_left c⟩
theorem in_iD {σ : Hp} {q : PV} {us : List Nat} {r : Nat} (hv : Mine.view σ q = some (.list (iD us))) : cmpop σ .In (.d (.int (r : Nat))) q = some (decide (r ∈ us)) := by
  show inF σ (.d (.int (r : Nat))) q = _
  unfold inF
  exact bn_eq rfl (bn_eq hv (bn_eq rfl (gd_eq (by rw [sh_iD]; exact Bool.and_eq_true_iff.mpr ⟨(OkD.int (n := 0)).sh (by decide), rfl⟩) (congrArg some (inL_iD r us)))))
noncomputable def remI (v : Int) : Nat := (v % 32).toNat
theorem rem_eq (v : Int) : v % 32 = ((remI v : Nat) : Int) := by unfold remI; (first | lia | omega)
theorem rem_lt (v : Int) : remI v < 32 := by unfold remI; (first | lia | omega)
noncomputable def numC : Ex := .cmp .In (.bin .Mod (.var 40) (.int 32)) (.var 59)
structure NuR (us : List Nat) (ρ : En) (σ : Hp) : Prop where
  ra : getV 59 ρ = some (.loc 0)
  rb : getV 60 ρ = getV 60 ρ
  rc : σ = [PO.lst (iP us)]
theorem rem_ev {O : Orc} {ρ : En} {σ : Hp} {v : Int} (h : getV 40 ρ = some (.d (.int v))) : EV info O (.bin .Mod (.var 40) (.int 32)) ρ σ (.d (.int (remI v : Nat))) σ := .bin (.var h) .int (gd_eq ⟨by decide, by decide⟩ (congrArg some (rem_eq v)))
theorem num_while {us : List Nat} {ρ : En} {v : Int} (h1 : getV 59 ρ = some (.loc 0)) (hv : getV 40 ρ = some (.d (.int v))) (hl : us.length < 32) :
    ∃ ρ' σ', exS info O16 (.whil numC [(.aug 40 .Add (.int 1))]) ρ [PO.lst (iP us)] = some (.next, ρ', σ') ∧ (getV 59 ρ' = some (.loc 0) ∧ σ' = [PO.lst (iP us)]) ∧ ∃ v', getV 40 ρ' = some (.d (.int v')) ∧ remI v' ∉ us := by
  obtain ⟨r, hr, hn⟩ := free_one us hl
  refine whil_goes (fun n ρ σ => (getV 59 ρ = some (.loc 0) ∧ σ = [PO.lst (iP us)]) ∧ ∃ v', getV 40 ρ = some (.d (.int v')) ∧ remI (v' + n) ∉ us) _ (fun n ρ σ y => ?_) ((r - v) % 32).toNat (by (first | lia | omega)) ⟨⟨h1, rfl⟩, v, hv, by
    have : remI (v + (((r - v) % 32).toNat : Nat)) = r := by unfold remI; (first | lia | omega)
    rw [this]; exact hn⟩
  obtain ⟨⟨p1, p2⟩, v', p3, p4⟩ := y
  subst p2
  have hv : Mine.view [PO.lst (iP us)] (.loc 0) = some (.list (iD us)) := or_r rfl (bn_eq rfl (bn_eq rfl (mp_eq (dats_iP us) rfl)))
  have tt : Tst info O16 numC ρ [PO.lst (iP us)] (decide (remI v' ∈ us)) [PO.lst (iP us)] := Tst.cmp (rem_ev p3) (.var p1) (in_iD hv)
  by_cases c : remI v' ∈ us
  · rw [decide_eq_true c] at tt
    have n0 : 0 < n := Nat.pos_of_ne_zero fun e => by
      rw [e] at p4
      exact p4 (by rw [show v' + ((0 : Nat) : Int) = v' from by (first | lia | omega)]; exact c)
    refine .inr ⟨tt, goes_next (st_aug p3 .int rfl) (goes_nil ⟨n - 1, by (first | lia | omega), ⟨p1, rfl⟩, v' + 1, rfl, ?_⟩)⟩
    rw [show v' + 1 + ((n - 1 : Nat) : Int) = v' + (n : Int) from by (first | lia | omega)]
    exact p4
  · rw [decide_eq_false c] at tt
    exact .inl ⟨tt, ⟨p1, rfl⟩, v', p3, c⟩
noncomputable def numB : List St' := [(.whil numC [(.aug 40 .Add (.int 1))]), (.exp (.meth (.var 59) .append [(.bin .Mod (.var 40) (.int 32))] none))]
theorem num_turn {us : List Nat} {ρ : En} {v : Int} (h1 : getV 59 ρ = some (.loc 0)) (hv : getV 40 ρ = some (.d (.int v))) (hl : us.length < 5) (hn : us.Nodup) (hu : ok32 us) :
    Goes info O16 numB ρ [PO.lst (iP us)] fun ρ' σ' => getV 59 ρ' = some (.loc 0) ∧ ∃ us', us'.length = us.length + 1 ∧ us'.Nodup ∧ ok32 us' ∧ σ' = [PO.lst (iP us')] := by
  refine goes_ex (num_while h1 hv (by (first | lia | omega))) fun ρ' σ' y => ?_
  obtain ⟨⟨p1, p2⟩, v', p3, p4⟩ := y
  subst p2
  refine goes_next (st_exp (.mt (.var p1) (.one (rem_ev p3)) (fun _ h => by cases h) rfl (mt_append (xs := iP us) rfl (by unfold iP; rw [List.length_map]; (first | lia | omega)))) (.inl rfl)) (goes_nil ⟨p1, us ++ [remI v'], ?_, ?_, ?_, ?_⟩)
  · rw [List.length_append]; rfl
  · rw [List.nodup_append]
    exact ⟨hn, List.nodup_cons.mpr ⟨(fun h => nomatch h), List.nodup_nil⟩, fun a ha b hb e => by rw [List.mem_singleton.mp hb] at e; exact p4 (e ▸ ha)⟩
  · intro u hu2
    rcases List.mem_append.mp hu2 with h | h
    · exact hu u h
    · rw [List.mem_singleton.mp h]; exact rem_lt v'
  · show [PO.lst (iP us ++ [.d (.int (remI v' : Nat))])] = _
    unfold iP
    rw [List.map_append]
    rfl
theorem len_d {σ : Hp} {ds : List PyData} (h : ds.length < 1000) : callBi .len [.d (.list ds)] σ = some (.val (.d (.int (ds.length : Nat)))) := by
  show gd ((ds.map PV.d).length < 1000000) (some (intR ((ds.map PV.d).length : Nat))) = _
  rw [List.length_map]
  exact gd_eq (Nat.lt_trans h (by decide)) rfl
noncomputable def numS (ns : List Int) : List Int := ns.take 5 ++ [0, 1, 3, 7, 15].drop ns.length
theorem numS_len (ns : List Int) : (numS ns).length = 5 := by
  unfold numS
  rw [List.length_append, List.length_take, List.length_drop]
  show min 5 ns.length + (5 - ns.length) = 5
  (first | lia | omega)
noncomputable def srcE : Ex := .bin .Add (.slc (.var 60) none (some (.int 5))) (.slc (.lst [(.int 0), (.int 1), (.int 3), (.int 7), (.int 15)]) (some (.bi .len [(.var 60)])) none)
theorem src_ev {O : Orc} {ρ : En} {σ : Hp} {ns : List Int} (h : ns.length ≤ 63) (h1 : getV 60 ρ = some (.d (.list (ns.map .int)))) : EV info O srcE ρ σ (.d (.list ((numS ns).map .int))) σ := by
  have l1 : (ns.map PyData.int).length < 1000 := by rw [List.length_map]; (first | lia | omega)
  have e1 : EV info O (.slc (.var 60) none (some (.int 5))) ρ σ (.d (.list ((ns.map PyData.int).take 5))) σ := .of_fresh (ev_slc (.var h1) evo_none (evo_some (.int (k := ((5 : Nat) : Int)))) (slc_d l1)) (dats_d _)
  have e2 : EV info O (.bi .len [(.var 60)]) ρ σ (.d (.int ((ns.length : Nat) : Int))) σ := .lenD (.var h1) (by
    have := len_d (σ := σ) l1
    rwa [List.length_map] at this)
  have e3 : EV info O (.slc (.lst [(.int 0), (.int 1), (.int 3), (.int 7), (.int 15)]) (some (.bi .len [(.var 60)])) none) ρ σ (.d (.list (([0, 1, 3, 7, 15].map PyData.int).drop ns.length))) σ :=
    .of_fresh (ev_slc (show EV info O (.lst [(.int 0), (.int 1), (.int 3), (.int 7), (.int 15)]) ρ σ (.d (.list ([0, 1, 3, 7, 15].map PyData.int))) σ from rfl) (evo_some e2) evo_none (slc_from (by decide))) (dats_d _)
  have := ev_bin (op := .Add) e1 e3 (or_r rfl (bn_eq rfl (bn_eq rfl (gd_eq ⟨rfl, by
    rw [List.length_take, List.length_drop]
    show min 5 _ + (5 - ns.length) < 1000
    (first | lia | omega)⟩ rfl))))
  rw [← List.map_take, ← List.map_drop, ← List.map_append] at this
  exact .of_fresh this (dats_d _)
end L2
end
section
open PySem Mine
namespace L2
noncomputable def rowE : Ex := .comp (.gen (.one 39) (.range [(.int 5)]) [] (.emit (.bin .BitAnd (.bin .RShift (.var 40) (.var 39)) (.int 1))))
theorem row_all {O : Orc} {ρ : En} {σ : Hp} : (List.range 32).map (fun (u : Nat) => fin (ev info O rowE (upd 40 (.d (.int (u : Nat))) ρ) σ)) = (List.range 32).map fun (u : Nat) => some (.d (rowD u), σ) := by kernel_rfl
theorem row_ev {O : Orc} {ρ : En} {σ : Hp} {u : Nat} (h : u < 32) : EV info O rowE (upd 40 (.d (.int (u : Nat))) ρ) σ (.d (rowD u)) σ := map_all row_all u (List.mem_range.mpr h)
noncomputable def rowI : PyData → PyData
  | .int i => rowD i.toNat
  | _ => .none
theorem rows_ev {O : Orc} {ρ : En} {σ : Hp} {us : List Nat} (hl : us.length ≤ 5) (hu : ok32 us) (h : getV 59 ρ = some (.d (.list (iD us)))) : EV info O (.comp (.gen (.one 40) (.ex (.var 59)) [] (.emit rowE))) ρ σ (.d (rowsP us)) σ := by
  have e := comp_data (I := info) (O := O) (σ := σ) (x := 40) (e := rowE) rowI (.var h) (fun d hd => by
    obtain ⟨u, hu2, e⟩ := List.mem_map.mp hd
    subst e
    exact row_ev (hu u hu2)) (by unfold iD; rw [List.length_map]; (first | lia | omega))
  rw [show (iD us).map rowI = us.map rowD from by unfold iD; rw [List.map_map]; rfl] at e
  exact e
noncomputable def wordE : Ex := .meth (.str (S [])) .join [(.comp (.gen (.two 61 57) (.zip (.str (S [97, 98, 99, 100, 101])) (.var 14)) [] (.emit (.ite (.var 57) (.meth (.var 61) .upper [] none) (.var 61)))))] none
theorem word_all {O : Orc} {ρ : En} {σ : Hp} : (List.range 32).map (fun (u : Nat) => fin (ev info O wordE (upd 14 (.d (rowD u)) ρ) σ)) = (List.range 32).map fun (u : Nat) => some (.d (wdD u), σ) := by kernel_rfl
theorem word_ev {O : Orc} {ρ : En} {σ : Hp} {u : Nat} (h : u < 32) : EV info O wordE (upd 14 (.d (rowD u)) ρ) σ (.d (wdD u)) σ := map_all word_all u (List.mem_range.mpr h)
theorem words_ev {O : Orc} {ρ : En} {σ : Hp} {us : List Nat} (hl : us.length ≤ 5) (hu : ok32 us) (h : getV 49 ρ = some (.d (rowsP us))) : EV info O (.comp (.gen (.one 14) (.ex (.var 49)) [] (.emit wordE))) ρ σ (.d (wordsP us)) σ := by
  have e := comp_data (I := info) (O := O) (σ := σ) (x := 14) (e := wordE) (fun d => wdD (unrow d)) (.var h) (fun d hd => by
    obtain ⟨u, hu2, e⟩ := List.mem_map.mp hd
    subst e
    rw [unrow_ok u (hu u hu2)]
    exact word_ev (hu u hu2)) (by rw [List.length_map]; (first | lia | omega))
  rw [show (us.map rowD).map (fun d => wdD (unrow d)) = us.map wdD from by
    rw [List.map_map]
    exact List.map_congr_left fun u hu2 => congrArg wdD (unrow_ok u (hu u hu2))] at e
  exact e
theorem ntake_ev {O : Orc} {ρ : En} {σ : Hp} {us : List Nat} {k : Nat} (hl : us.length ≤ 5) (h : getV 59 ρ = some (.d (.list (iD us)))) (hk : getV 62 ρ = some (.d (.int k))) : EV info O (.slc (.var 59) none (some (.var 62))) ρ σ (.d (.list (iD (us.take k)))) σ := by
  have s := ev_slc (I := info) (O := O) (.var h) evo_none (evo_some (.var hk)) (slc_d (σ := σ) (xs := iD us) (k := k) (by unfold iD; rw [List.length_map]; (first | lia | omega)))
  rw [show (iD us).take k = iD (us.take k) from List.map_take.symm] at s
  exact .of_fresh s (dats_d _)
theorem xor_all : (List.range 5).flatMap (fun c => (List.range 32).map fun u => (arith .LShift 1 (c : Nat)).bind fun j => arith .BitXor (u : Nat) j) = (List.range 5).flatMap fun c => (List.range 32).map fun u => some ((u ^^^ 2 ^ c : Nat) : Int) := by kernel_rfl
noncomputable def qX (vs : List Nat) (c : Nat) : Item → Bool
  | .one (.d (.int v)) => decide (v.toNat ^^^ 2 ^ c ∈ vs)
  | _ => false
noncomputable def xorE : Ex := .comp (.gen (.one 40) (.ex (.slc (.var 59) none (some (.var 62)))) [(.cmp .In (.bin .BitXor (.var 40) (.bin .LShift (.int 1) (.var 46))) (.slc (.var 59) none (some (.var 62))))] (.emit (.int 1)))
noncomputable def itemsN (vs : List Nat) : List Item := ((iD vs).map PV.d).map Item.one
theorem itemsN_mem {vs : List Nat} {i : Item} (h : i ∈ itemsN vs) : ∃ v, v ∈ vs ∧ i = .one (.d (.int (v : Nat))) := by
  unfold itemsN iD at h
  simp only [List.map_map, List.mem_map, Function.comp_apply] at h
  obtain ⟨v, h1, h2⟩ := h
  exact ⟨v, h1, h2.symm⟩
theorem xor_ev {O : Orc} {ρ : En} {σ : Hp} {us : List Nat} {c k : Nat} (hl : us.length ≤ 5) (hu : ok32 us) (hc : c < 5) (h1 : getV 59 ρ = some (.d (.list (iD us)))) (h2 : getV 62 ρ = some (.d (.int k))) (h3 : getV 46 ρ = some (.d (.int c))) :
    ev info O xorE ρ σ = some (.fresh (((itemsN (us.take k)).filter (qX (us.take k) c)).map oneI), σ) := by
  refine ev_comp ?_
  have e := comp_filterW (I := info) (O := O) (t := .one 40) (it := .ex (.slc (.var 59) none (some (.var 62)))) (c := .cmp .In (.bin .BitXor (.var 40) (.bin .LShift (.int 1) (.var 46))) (.slc (.var 59) none (some (.var 62)))) (e := .int 1) (ρ₀ := ρ) (ρ := hide [40] ρ) (σ := σ) (σ₁ := σ) (acc := []) (qX (us.take k) c) oneI
    (evIt_data (ntake_ev hl h1 h2)) .imm (fun i hi => by
      obtain ⟨v, hv, e⟩ := itemsN_mem hi
      subst e
      have v32 : v < 32 := hu v (List.mem_of_mem_take hv)
      obtain ⟨j, j1, j2⟩ := bn_some (flat_all xor_all hc v32)
      exact ⟨_, rfl, ⟨_, EV.cmp (.bin (.var (x := 40) rfl) (.bin .int (.var (x := 46) h3) j1) j2) (ntake_ev (ρ := upd 40 (.d (.int (v : Nat))) (hide [40] ρ)) hl h1 h2) (in_iD rfl), rfl⟩, fun _ => rfl⟩) (by
      have h4 := List.length_filter_le (qX (us.take k) c) (itemsN (us.take k))
      have h5 : (itemsN (us.take k)).length ≤ 5 := by
        unfold itemsN iD
        rw [List.length_map, List.length_map, List.length_map]
        exact Nat.le_trans (List.length_take_le' _ _) hl
      rw [List.length_map, List.length_nil]
      show 0 + ((itemsN (us.take k)).filter (qX (us.take k) c)).length ≤ 1000
      (first | lia | omega))
  rw [List.nil_append] at e
  exact e
theorem xor_tst {O : Orc} {ρ : En} {σ : Hp} {us : List Nat} {c k : Nat} (hl : us.length ≤ 5) (hu : ok32 us) (hn : us.Nodup) (hc : c < 5) (h1 : getV 59 ρ = some (.d (.list (iD us)))) (h2 : getV 62 ρ = some (.d (.int k))) (h3 : getV 46 ρ = some (.d (.int c))) :
    EV info O (.cmp .NotEq xorE (.lst [])) ρ σ (.d (.bool (need (us.take k) c))) σ := by
  have e := xor_ev (O := O) (σ := σ) hl hu hc h1 h2 h3
  have h := ne_ones (σ := σ) (((itemsN (us.take k)).filter (qX (us.take k) c)).map oneI)
  have nd : (us.take k).Nodup := hn.sublist (List.take_sublist _ _)
  have ok : ok32 (us.take k) := fun u hu2 => hu u (List.mem_of_mem_take hu2)
  have q : (!(((itemsN (us.take k)).filter (qX (us.take k) c)).map oneI).isEmpty) = need (us.take k) c := by
    rw [← need_xor nd ok hc]
    have f : ∀ (A : List Nat) (l : List Nat), (!(((itemsN l).filter (qX A c)).map oneI).isEmpty) = l.any fun v => decide (v ^^^ 2 ^ c ∈ A) := by
      intro A l
      induction l with
      | nil => rfl
      | cons v r ih =>
        show (!((((Item.one (.d (.int (v : Nat)))) :: itemsN r).filter (qX A c)).map oneI).isEmpty) = _
        rw [List.filter_cons, List.any_cons, ← ih, show qX A c (.one (.d (.int (v : Nat)))) = decide (v ^^^ 2 ^ c ∈ A) from rfl]
        by_cases d : v ^^^ 2 ^ c ∈ A
        · rw [decide_eq_true d]; rfl
        · rw [decide_eq_false d]; rfl
    exact f _ _
  rw [q] at h
  exact .cmp (.of_fresh e (ones_dats _ fun p hp => by
    obtain ⟨_, _, e⟩ := List.mem_map.mp hp
    exact e.symm)) rfl h
noncomputable def qN (vs : List Nat) : Item → Bool
  | .one (.d (.int c)) => need vs c.toNat
  | _ => false
noncomputable def colE : Ex := .comp (.gen (.one 46) (.range [(.int 5)]) [(.cmp .NotEq xorE (.lst []))] (.emit (.var 46)))
theorem col_ev {O : Orc} {ρ : En} {σ : Hp} {us : List Nat} {k : Nat} (hl : us.length ≤ 5) (hu : ok32 us) (hn : us.Nodup) (h1 : getV 59 ρ = some (.d (.list (iD us)))) (h2 : getV 62 ρ = some (.d (.int k))) : EV info O colE ρ σ (.d (.list (iD (cols (us.take k))))) σ := by
  have e := comp_filterW (I := info) (O := O) (t := .one 46) (it := .range [(.int 5)]) (c := .cmp .NotEq xorE (.lst [])) (e := .var 46) (ρ₀ := ρ) (ρ := hide [46] ρ) (σ := σ) (σ₁ := σ) (acc := []) (qN (us.take k)) vI (range1 (b := 5) .int (by decide)) .imm (fun i hi => by
    obtain ⟨c, hc, e⟩ := List.mem_iff_getElem?.mp hi |>.imp fun j hj => r5_at hj
    subst e
    exact ⟨_, rfl, ⟨_, xor_tst (ρ := upd 46 (.d (.int c)) (hide [46] ρ)) hl hu hn hc h1 h2 rfl, rfl⟩, fun _ => EV.var rfl⟩) (by
      have h1 := List.length_filter_le (qN (us.take k)) ((rangeL ((0 : Nat) : Int) 5).map Item.one)
      rw [List.length_map, rangeL_length] at h1
      rw [List.length_map, List.length_nil]
      (first | lia | omega))
  rw [List.nil_append, show ((rangeL ((0 : Nat) : Int) 5).map Item.one) = _ from r_items 5, List.filter_map, List.map_map] at e
  exact .of_fresh (ev_comp e) (dats_iP (cols (us.take k)))
end L2
end
section
open PySem Mine
namespace L2
noncomputable def manyB : List St' := [(.set 63 (.lst [(.call 13 [(.slc (.var 49) none (some (.var 62)))]), (.call 14 [(.slc (.var 53) none (some (.var 62)))]), (.call 15 [(.slc (.var 49) none (some (.var 62)))])])), (.cond (.cmp .GtE (.bi .max1 [(.comp (.gen (.one 45) (.ex (.var 63)) [] (.emit (.bi .len [(.var 45)]))))]) (.var 62)) [(.ret (.bool false))] []), (.cond (.cmp .NotEq (.var 63) (.rep [colE] 3)) [(.ret (.bool false))] [])]
theorem eqv_iD : ∀ l : List Nat, PyData.eqvAll (iD l) (iD l) = true
  | [] => rfl
  | x :: r => by
    show (decide ((x : Int) = x) && PyData.eqvAll (iD r) (iD r)) = true
    rw [eqv_iD r, decide_eq_true rfl]
    rfl
noncomputable def three (l : List Nat) : PyData := .list [.list (iD l), .list (iD l), .list (iD l)]
theorem three_sh (l : List Nat) : sh (three l) = true := (OkD.list (n := 1) fun x hx => by
  have e : x = .list (iD l) := by
    rcases List.mem_cons.mp hx with e | hx
    · exact e
    · rcases List.mem_cons.mp hx with e | hx
      · exact e
      · exact List.mem_singleton.mp hx
  rw [e]
  exact .list fun y hy => by
    obtain ⟨k, _, e⟩ := List.mem_map.mp hy
    subst e
    exact .int).sh (by decide)
theorem three_eq (l : List Nat) : PyData.eqv (three l) (three l) = true := by
  have e : PyData.eqv (.list (iD l)) (.list (iD l)) = true := eqv_iD l
  show (PyData.eqv (.list (iD l)) (.list (iD l)) && (PyData.eqv (.list (iD l)) (.list (iD l)) && (PyData.eqv (.list (iD l)) (.list (iD l)) && true))) = true
  rw [e]
  rfl
noncomputable def lenI : PyData → PyData
  | .list xs => .int (xs.length : Nat)
  | _ => .none
theorem many_turn {ρ : En} {σ : Hp} {us : List Nat} {m : Nat} (hl : us.length = 5) (hu : ok32 us) (hn : us.Nodup) (hm : 0 < m ∧ m ≤ 5) (h1 : getV 49 ρ = some (.d (rowsP us))) (h2 : getV 53 ρ = some (.d (wordsP us))) (h3 : getV 59 ρ = some (.d (.list (iD us)))) (h4 : getV 62 ρ = some (.d (.int m))) :
    Goes info O16 manyB ρ σ fun ρ' _ => getV 49 ρ' = some (.d (rowsP us)) ∧ getV 53 ρ' = some (.d (wordsP us)) ∧ getV 59 ρ' = some (.d (.list (iD us))) := by
  have hl5 : us.length ≤ 5 := Nat.le_of_eq hl
  have vl : (us.take m).length = m := by rw [List.length_take]; (first | lia | omega)
  have vl5 : (us.take m).length ≤ 5 := by (first | lia | omega)
  have vn : (us.take m).Nodup := hn.sublist (List.take_sublist _ _)
  have vu : ok32 (us.take m) := fun u hu2 => hu u (List.mem_of_mem_take hu2)
  obtain ⟨τ1, k1⟩ := keys_law (σ := σ) vl5 vu
  obtain ⟨τ2, k2⟩ := words_law (σ := σ ++ τ1) vl5 vu vn
  obtain ⟨τ3, k3⟩ := names_law (σ := σ ++ τ1 ++ τ2) vl5 vu
  have b := bondy vn vu (by (first | lia | omega))
  rw [vl] at b
  have cl : (cols (us.take m)).length < 1000 := by (first | lia | omega)
  have e1 : EV info O16 (.lst [(.call 13 [(.slc (.var 49) none (some (.var 62)))]), (.call 14 [(.slc (.var 53) none (some (.var 62)))]), (.call 15 [(.slc (.var 49) none (some (.var 62)))])]) ρ σ (.d (three (cols (us.take m)))) (σ ++ τ1 ++ τ2 ++ τ3) :=
    .lst (.three (.call (.one (take_ev hl5 h1 h4)) k1) (.call (.one (wtake_ev hl5 h2 h4)) k2) (.call (.one (take_ev hl5 h1 h4)) k3)) (by show 3 < 1000; decide) rfl
  generalize σ ++ τ1 ++ τ2 ++ τ3 = σ' at e1
  have cv := col_ev (O := O16) (ρ := upd 63 (.d (three (cols (us.take m)))) ρ) (σ := σ') hl5 hu hn h3 h4
  generalize hcs : cols (us.take m) = cs at *
  have e2 : EV info O16 (.comp (.gen (.one 45) (.ex (.var 63)) [] (.emit (.bi .len [(.var 45)])))) (upd 63 (.d (three cs)) ρ) σ' (.d (.list ([.list (iD cs), .list (iD cs), .list (iD cs)].map lenI))) σ' :=
    comp_data lenI (.var rfl) (fun d hd => by
      have e : d = .list (iD cs) := by
        rcases List.mem_cons.mp hd with e | hx
        · exact e
        · rcases List.mem_cons.mp hx with e | hx
          · exact e
          · exact List.mem_singleton.mp hx
      rw [e]
      exact .lenD (.var rfl) (len_d (by unfold iD; rw [List.length_map]; exact cl))) (by show 3 < 1000; decide)
  have e3 : EV info O16 (.bi .max1 [(.comp (.gen (.one 45) (.ex (.var 63)) [] (.emit (.bi .len [(.var 45)]))))]) (upd 63 (.d (three cs)) ρ) σ' (.d (.int ((iD cs).length : Nat))) σ' := by
    refine .of_val (ev_bi (.one e2) rfl ?_)
    generalize hN : (((iD cs).length : Nat) : Int) = N
    have mx : maxI N [.int N, .int N] = some N := by
      rw [maxI_c, if_neg (Int.lt_irrefl N), maxI_c, if_neg (Int.lt_irrefl N)]
      rfl
    show ((maxI (((iD cs).length : Nat) : Int) [.int ((iD cs).length : Nat), .int ((iD cs).length : Nat)]).map fun m => Res.val (.d (.int m))) = _
    rw [hN, mx]
    rfl
  have t1 : Tst info O16 (.cmp .GtE (.bi .max1 [(.comp (.gen (.one 45) (.ex (.var 63)) [] (.emit (.bi .len [(.var 45)]))))]) (.var 62)) (upd 63 (.d (three cs)) ρ) σ' false σ' := by
    refine Tst.cmp e3 (.var (x := 62) h4) ?_
    show some (decide ((m : Int) ≤ ((iD cs).length : Nat))) = _
    rw [decide_eq_false]
    unfold iD
    rw [List.length_map]
    (first | lia | omega)
  have e4 : EV info O16 (.rep [colE] 3) (upd 63 (.d (three cs)) ρ) σ' (.d (three cs)) σ' := .of_fresh (bd_eq (EVs.one cv) (gd_eq ⟨by show 1 < 1000; decide, by decide⟩ rfl)) rfl
  have t2 : Tst info O16 (.cmp .NotEq (.var 63) (.rep [colE] 3)) (upd 63 (.d (three cs)) ρ) σ' false σ' := by
    refine Tst.cmp (.var rfl) e4 ((ne_d (three_sh cs) (three_sh cs)).trans ?_)
    rw [three_eq]
    rfl
  exact goes_next (st_set e1) (goes_no t1 (goes_no t2 (goes_nil ⟨h1, h2, h3⟩)))
theorem den2 (ns : List Int) (hn : ns.length ≤ 63) : ∃ σ', calls tab.I tab.fns 16 [.d (.list (ns.map .int))] [] = some (.d (.bool true), σ') := by
  have main : ∃ p σ', runFn info O16 f_law [.d (.list (ns.map .int))] [] = some (p, σ') ∧ p = .d (.bool true) := by
    refine tells_fn (R := fun p _ => p = .d (.bool true)) (ρ := [(60, some (.d (.list (ns.map .int))))]) rfl ?_
    unfold f_law
    dsimp only
    refine tell_next (st_set (.mut (xs := []) rfl)) ?_
    refine tell_ex (for_goes (I := info) (O := O16) (t := .one 40) (it := .ex srcE) (body := numB) (xs := (((numS ns).map PyData.int).map PV.d).map .one) (σ₁ := [PO.lst []]) (fun j ρ σ' => getV 59 ρ = some (.loc 0) ∧ ∃ us, us.length = j ∧ us.Nodup ∧ ok32 us ∧ σ' = [PO.lst (iP us)])
      (evIt_data (src_ev hn rfl)) ⟨rfl, [], rfl, List.nodup_nil, (fun _ h => nomatch h), rfl⟩ fun j i ρ σ' hj y => ?_) fun ρ σ' y => ?_
    · obtain ⟨p1, us, u1, u2, u3, u4⟩ := y
      have hj5 := (List.getElem?_eq_some_iff.mp hj).1
      rw [List.length_map, List.length_map, List.length_map, numS_len] at hj5
      rw [List.getElem?_map, List.getElem?_map, List.getElem?_map] at hj
      obtain ⟨q1, hj1, e1⟩ := mp_some hj
      obtain ⟨q2, hj2, e2⟩ := mp_some hj1
      obtain ⟨v, hj3, e3⟩ := mp_some hj2
      clear hj hj1 hj2
      subst e1 e2 e3 u4
      refine ⟨_, rfl, ?_⟩
      obtain ⟨ρ', σ', e, g1, us', g2, g3, g4, g5⟩ := num_turn (ρ := upd 40 (.d (.int v)) ρ) (v := v) p1 rfl (by (first | lia | omega)) u2 u3
      exact ⟨ρ', σ', e, g1, us', by (first | lia | omega), g3, g4, g5⟩
    · obtain ⟨p1, us, u1, u2, u3, u4⟩ := y
      rw [List.length_map, List.length_map, List.length_map, numS_len] at u1
      subst u4
      have hl5 : us.length ≤ 5 := Nat.le_of_eq u1
      refine tell_next (st_freeze p1 rfl (dats_iP us)) ?_
      refine tell_next (st_set (rows_ev hl5 u3 rfl)) ?_
      refine tell_next (st_set (words_ev hl5 u3 rfl)) ?_
      refine tell_ex (for_goes (I := info) (O := O16) (t := .one 62) (it := .range [(.int 3), (.int 6)]) (body := manyB) (xs := (rangeL 3 3).map .one) (fun j ρ _ => getV 49 ρ = some (.d (rowsP us)) ∧ getV 53 ρ = some (.d (wordsP us)) ∧ getV 59 ρ = some (.d (.list (iD us))))
        rfl ⟨rfl, rfl, rfl⟩ fun j i ρ σ' hj y => ?_) fun ρ σ' _ => tell_now .bool rfl
      obtain ⟨q1, q2, q3⟩ := y
      have hj' : j < 3 ∧ i = .one (.d (.int ((3 + j : Nat) : Int))) := by
        rw [List.getElem?_map, rangeL_at] at hj
        by_cases c : j < 3
        · rw [if_pos c] at hj
          exact ⟨c, by rw [← Option.some.inj hj]; congr 3⟩
        · rw [if_neg c] at hj; cases hj
      obtain ⟨j3, e⟩ := hj'
      subst e
      exact ⟨_, rfl, many_turn u1 u3 u2 ⟨by (first | lia | omega), by (first | lia | omega)⟩ q1 q2 q3 rfl⟩
  obtain ⟨p, σ', e, hp⟩ := main
  subst hp
  exact ⟨σ', e⟩
end L2
end
section
open PySem PySem.W PyProof.Rows
set_option maxHeartbeats 8000000 in
theorem PySem.Challenge.cw_pg0274_02_holds : PySem.Challenge.rw_pg0274_02.Holds := by
  w_on
  refine holds_law ((congrFun PySem.W.Fast.te9446332074065402090 _).trans (by decide +kernel)) fun said => ?_
  k_head
  case hw => w_witness2
  k_fill
  intro w s₀ s₁ mg mb G Y fa o pm cd doc dV kV ho hd hcd hD hmg hg args vals as hpre hlay hrd hwl hlo
  have KX := kIn_of Y
  refine Ground.open G ?_
  intro T B D TE TW
  clear hd hcd hD B D TE TW
  wrow_args hpre hlay hrd hwl hlo
  rename_i hcond' _
  refine Mine.finish L2.tab KX T.g T.b T.builtins T.nolimit hg ⟨by kernel_rfl, by kernel_rfl, ⟨⟨by kernel_rfl, by kernel_rfl⟩, ⟨by kernel_rfl, by kernel_rfl⟩, trivial⟩, by kernel_rfl, ⟨⟨fun _ => .plain (by kernel_rfl), trivial⟩, ⟨fun _ => .plain (by kernel_rfl), trivial⟩, ⟨fun _ => .plain (by kernel_rfl), trivial⟩, ⟨fun _ => .plain (by kernel_rfl), trivial⟩, ⟨fun _ _ _ => .plain (by kernel_rfl), trivial⟩, trivial, trivial, ⟨fun _ _ => .plain (by kernel_rfl), trivial⟩, ⟨fun _ _ => .plain (by kernel_rfl), trivial⟩, ⟨fun _ _ => .one (by kernel_rfl) (by kernel_rfl) (by kernel_rfl) (by kernel_rfl), trivial⟩, ⟨fun _ => .plain (by kernel_rfl), trivial⟩, ⟨fun _ => .one (by kernel_rfl) (by kernel_rfl) (by kernel_rfl) (by kernel_rfl), trivial⟩, ⟨fun _ _ _ => .plain (by kernel_rfl), trivial⟩, ⟨fun _ _ _ => .plain (by kernel_rfl), trivial⟩, ⟨fun _ _ => .plain (by kernel_rfl), trivial⟩, ⟨fun _ _ _ => .plain (by kernel_rfl), trivial⟩, ⟨fun _ _ => .plain (by kernel_rfl), trivial⟩, trivial⟩⟩ (by rw [show L2.tab.ck.fname 16 = Str.ofString "law" from by decide +kernel]; exact hmg) (by decide) (by decide) (by decide) (by assumption) (L2.den2 _ (by (first | lia | omega))) fun s' hk ho' hg' => Mine.good_true hk ho' hg' (fun _ => rfl) (by kernel_rfl) (fun _ => ⟨.nil, fun _ h => nomatch h⟩)
end
