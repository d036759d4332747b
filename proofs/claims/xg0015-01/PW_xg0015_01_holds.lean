import PyProof.Rows.All
import Wide.All
import OpenK.AllK
import Wide.FinOn
import Lean
import PySem.Challenge.RW_xg0015_01
section
open PySem PySem.W PyProof.Rows
set_option Elab.async false
set_option maxRecDepth 100000
set_option maxHeartbeats 8000000
namespace Mine
open_top hd for PySem.Challenge.rw_xg0015_01
end Mine
end
section
open PySem PySem.Calls PyProof.Rows
set_option Elab.async false
namespace Mine

/-- data: what a value reads as -/
inductive D where
  | none
  | bool (b : Bool)
  | int (i : Int)
  | str (s : List Nat)
  | bytes (s : List Nat)
  | tup (ds : List D)
  | list (ds : List D)
  | dict (es : List (List Nat × D))
  | pc (q : Nat) (b : Bool)
  | pcb (q : Nat) (b : Bool)
  deriving Inhabited

/-- a value of an activation: data, or the activation's own mutable object -/
inductive V where
  | d (x : D)
  | own
  deriving Inhabited

/-- what the mutable object holds -/
inductive MU where
  | none
  | list (ds : List D)
  | dict (es : List (List Nat × D))
  | acc (ds : List D)
  deriving Inhabited

/-- the quoted texts, by their number's rest by 4 -/
def qText : Nat → List Nat
  | 0 => []
  | 1 => [34, 40, 40, 34]
  | 2 => [34, 92, 34, 41, 34]
  | _ => [34, 34, 32, 34, 41, 34]
def bText (b : Bool) : Nat := if b then 40 else 41
def pText (q : Nat) (b : Bool) : List Nat := qText q ++ [bText b]

abbrev strOf (s : List Nat) : Str := ⟨s.toArray⟩
abbrev bytesOf (s : List Nat) : Array UInt8 := (s.map Nat.toUInt8).toArray

/-- where the mutable object stands (an accumulator: and its dict) -/
abbrev Mu := Option (Addr × Addr)
def inMu : Mu → Addr → Prop
  | .none, _ => False
  | .some (a, d), b => b = a ∨ b = d

mutual
/-- the value reads as the data, in objects at places that P has -/
def Rd (w : World) (P : Addr → Prop) (h : Heap) : D → Value → Prop
  | .none, v => v = .none
  | .bool b, v => v = .bool b
  | .int i, v => ∃ t, v = .int i t
  | .str s, v => ∃ t, v = .str (strOf s) t
  | .bytes s, v => ∃ t, v = .bytes (bytesOf s) t
  | .tup ds, v => ∃ a vs n, v = .ref a ∧ P a ∧ h.get? a = some { cls := .type "tuple", data := .seq (vs : List Value).toArray n } ∧ Rds w P h ds vs
  | .list ds, v => ∃ a vs n, v = .ref a ∧ P a ∧ h.get? a = some { cls := .type "list", data := .seq (vs : List Value).toArray n } ∧ Rds w P h ds vs
  | .dict es, v => ∃ a ens n, v = .ref a ∧ P a ∧ (a == sysModules) = false ∧ h.get? a = some { cls := .type "dict", data := .dict (ens : List DictEntry).toArray n } ∧ Rde w P h es ens
  | .pc q b, v => ∃ t, v = .str (strOf (pText q b)) t
  | .pcb q b, v => ∃ t, v = .bytes (bytesOf (pText q b)) t
def Rds (w : World) (P : Addr → Prop) (h : Heap) : List D → List Value → Prop
  | [], vs => vs = []
  | d :: ds, vs => ∃ v r, vs = v :: r ∧ Rd w P h d v ∧ Rds w P h ds r
def Rde (w : World) (P : Addr → Prop) (h : Heap) : List (List Nat × D) → List DictEntry → Prop
  | [], es => es = []
  | (k, d) :: ds, es => ∃ t v r, es = ⟨PyData.keyHash w.params (strOf k), .str (strOf k) t, v⟩ :: r ∧ Rd w P h d v ∧ Rde w P h ds r
end

/-- no record: the iterators are records -/
def NF (o : Obj) : Prop := ∀ vs, o.data ≠ .fields vs
section
variable {w : World} {P P' : Addr → Prop} {h h' : Heap}
mutual
theorem Rd.mono (hk : ∀ b o, P b → NF o → h.get? b = some o → P' b ∧ h'.get? b = some o) : ∀ {d : D} {v : Value}, Rd w P h d v → Rd w P' h' d v
  | .none, _, x => by simp only [Rd] at x ⊢; exact x
  | .bool _, _, x => by simp only [Rd] at x ⊢; exact x
  | .int _, _, x => by simp only [Rd] at x ⊢; exact x
  | .str _, _, x => by simp only [Rd] at x ⊢; exact x
  | .bytes _, _, x => by simp only [Rd] at x ⊢; exact x
  | .pc _ _, _, x => by simp only [Rd] at x ⊢; exact x
  | .pcb _ _, _, x => by simp only [Rd] at x ⊢; exact x
  | .tup ds, _, x => by
    simp only [Rd] at x ⊢
    obtain ⟨a, vs, n, rfl, hp, hg, hr⟩ := x
    exact ⟨a, vs, n, rfl, (hk a _ hp (fun _ z => by cases z) hg).1, (hk a _ hp (fun _ z => by cases z) hg).2, Rds.mono hk hr⟩
  | .list ds, _, x => by
    simp only [Rd] at x ⊢
    obtain ⟨a, vs, n, rfl, hp, hg, hr⟩ := x
    exact ⟨a, vs, n, rfl, (hk a _ hp (fun _ z => by cases z) hg).1, (hk a _ hp (fun _ z => by cases z) hg).2, Rds.mono hk hr⟩
  | .dict es, _, x => by
    simp only [Rd] at x ⊢
    obtain ⟨a, vs, n, rfl, hp, hne, hg, hr⟩ := x
    exact ⟨a, vs, n, rfl, (hk a _ hp (fun _ z => by cases z) hg).1, hne, (hk a _ hp (fun _ z => by cases z) hg).2, Rde.mono hk hr⟩
theorem Rds.mono (hk : ∀ b o, P b → NF o → h.get? b = some o → P' b ∧ h'.get? b = some o) : ∀ {ds : List D} {vs : List Value}, Rds w P h ds vs → Rds w P' h' ds vs
  | [], _, x => by simp only [Rds] at x ⊢; exact x
  | d :: ds, _, x => by
    simp only [Rds] at x ⊢
    obtain ⟨v, r, rfl, hd, hr⟩ := x
    exact ⟨v, r, rfl, Rd.mono hk hd, Rds.mono hk hr⟩
theorem Rde.mono (hk : ∀ b o, P b → NF o → h.get? b = some o → P' b ∧ h'.get? b = some o) : ∀ {ds : List (List Nat × D)} {vs : List DictEntry}, Rde w P h ds vs → Rde w P' h' ds vs
  | [], _, x => by simp only [Rde] at x ⊢; exact x
  | (k, d) :: ds, _, x => by
    simp only [Rde] at x ⊢
    obtain ⟨t, v, r, rfl, hd, hr⟩ := x
    exact ⟨t, v, r, rfl, Rd.mono hk hd, Rde.mono hk hr⟩
end

theorem Rds.length : ∀ {ds : List D} {vs : List Value}, Rds w P h ds vs → vs.length = ds.length
  | [], _, x => by simp only [Rds] at x; subst x; rfl
  | d :: ds, _, x => by
    simp only [Rds] at x
    obtain ⟨v, r, rfl, _, hr⟩ := x
    simp [Rds.length hr]
theorem Rds.get : ∀ {ds : List D} {vs : List Value}, Rds w P h ds vs → ∀ {i : Nat} {d : D}, ds[i]? = some d → ∃ v, vs[i]? = some v ∧ Rd w P h d v
  | [], _, _, i, d, e => by simp at e
  | x :: ds, _, hx, i, d, e => by
    simp only [Rds] at hx
    obtain ⟨v, r, rfl, hd, hr⟩ := hx
    cases i with
    | zero => simp at e; subst e; exact ⟨v, rfl, hd⟩
    | succ i => simpa using Rds.get hr (by simpa using e)
theorem Rds.append : ∀ {ds es : List D} {vs us : List Value}, Rds w P h ds vs → Rds w P h es us → Rds w P h (ds ++ es) (vs ++ us)
  | [], _, _, _, x, y => by simp only [Rds] at x; subst x; simpa using y
  | d :: ds, _, _, _, x, y => by
    simp only [Rds] at x
    obtain ⟨v, r, rfl, hd, hr⟩ := x
    simp only [List.cons_append, Rds]
    exact ⟨v, _, rfl, hd, Rds.append hr y⟩
theorem Rds.nil : Rds w P h [] [] := by simp only [Rds]
theorem Rds.cons {d : D} {ds : List D} {v : Value} {vs : List Value} (x : Rd w P h d v) (y : Rds w P h ds vs) : Rds w P h (d :: ds) (v :: vs) := by
  simp only [Rds]; exact ⟨v, vs, rfl, x, y⟩
theorem Rds.nil_inv {vs : List Value} (x : Rds w P h [] vs) : vs = [] := by simpa only [Rds] using x
theorem Rds.cons_inv {d : D} {ds : List D} {vs : List Value} (x : Rds w P h (d :: ds) vs) : ∃ v r, vs = v :: r ∧ Rd w P h d v ∧ Rds w P h ds r := by simpa only [Rds] using x
theorem Rds.take : ∀ {ds : List D} {vs : List Value} (n : Nat), Rds w P h ds vs → Rds w P h (ds.take n) (vs.take n)
  | _, _, 0, _ => by simpa using Rds.nil
  | [], _, n + 1, x => by rw [x.nil_inv]; simpa using Rds.nil
  | d :: ds, _, n + 1, x => by
    obtain ⟨v, r, rfl, hd, hr⟩ := x.cons_inv
    simpa using Rds.cons hd (Rds.take n hr)
theorem Rds.drop : ∀ {ds : List D} {vs : List Value} (n : Nat), Rds w P h ds vs → Rds w P h (ds.drop n) (vs.drop n)
  | _, _, 0, x => by simpa using x
  | [], _, n + 1, x => by rw [x.nil_inv]; simpa using Rds.nil
  | d :: ds, _, n + 1, x => by
    obtain ⟨v, r, rfl, hd, hr⟩ := x.cons_inv
    simpa using Rds.drop n hr
end

theorem rd_int {w P h i v} (x : Rd w P h (.int i) v) : ∃ t, v = .int i t := by simpa only [Rd] using x
theorem rd_str {w P h i v} (x : Rd w P h (.str i) v) : ∃ t, v = .str (strOf i) t := by simpa only [Rd] using x
theorem rd_bytes {w P h i v} (x : Rd w P h (.bytes i) v) : ∃ t, v = .bytes (bytesOf i) t := by simpa only [Rd] using x
theorem rd_bool {w P h i v} (x : Rd w P h (.bool i) v) : v = .bool i := by simpa only [Rd] using x
theorem rd_none {w P h v} (x : Rd w P h .none v) : v = .none := by simpa only [Rd] using x
theorem rd_tup {w P h ds v} (x : Rd w P h (.tup ds) v) : ∃ a vs n, v = .ref a ∧ P a ∧ h.get? a = some { cls := .type "tuple", data := .seq (vs : List Value).toArray n } ∧ Rds w P h ds vs := by simpa only [Rd] using x
theorem rd_list {w P h ds v} (x : Rd w P h (.list ds) v) : ∃ a vs n, v = .ref a ∧ P a ∧ h.get? a = some { cls := .type "list", data := .seq (vs : List Value).toArray n } ∧ Rds w P h ds vs := by simpa only [Rd] using x
theorem rd_dict {w P h ds v} (x : Rd w P h (.dict ds) v) : ∃ a vs n, v = .ref a ∧ P a ∧ (a == sysModules) = false ∧ h.get? a = some { cls := .type "dict", data := .dict (vs : List DictEntry).toArray n } ∧ Rde w P h ds vs := by simpa only [Rd] using x
theorem rd_pc {w P h q b v} (x : Rd w P h (.pc q b) v) : ∃ t, v = .str (strOf (pText q b)) t := by simpa only [Rd] using x
theorem rd_pcb {w P h q b v} (x : Rd w P h (.pcb q b) v) : ∃ t, v = .bytes (bytesOf (pText q b)) t := by simpa only [Rd] using x

end Mine
end
section
open PySem PySem.Calls PySem.W PyProof.Rows
set_option Elab.async false
set_option maxRecDepth 100000
namespace Mine
abbrev prog : Program := PySem.Challenge.rw_xg0015_01.row.prog
noncomputable abbrev KF (w : World) : Frag := hd.heap_39 w.params

/-- what stands in every heap of the call -/
structure HB (w : World) (h : Heap) : Prop where
  X : (KF w).In h
  g : ∃ mg mb, h.Ns mainGlobals mg ∧ h.Ns builtinsNs mb ∧ ∀ x : Str, x ≠ "__name__" → mb x = bootBuiltins x
  nolimit : h.NoLimit
  nodigits : ∃ mc, h.Ns cStatics mc ∧ mc "sys.int_max_str_digits" = none
theorem HB.keeps {w : World} {h h' : Heap} (B : HB w h) (hk : ∀ b o, h.get? b = some o → h'.get? b = some o) : HB w h' where
  X := B.X.keeps hk
  g := let ⟨mg, mb, a, b, c⟩ := B.g; ⟨mg, mb, a.keeps hk, b.keeps hk, c⟩
  nolimit := B.nolimit.keeps hk
  nodigits := let ⟨mc, a, b⟩ := B.nodigits; ⟨mc, a.keeps hk, b⟩

/-- room for n calls within calls -/
structure Room (n : Nat) (A : Around) : Prop where
  handled : A.handled = none
  depth : A.depth + n ≤ 650
  units : A.units + 20 * n ≤ 9500
  frames : ∃ l, A.frames = some l
theorem Room.mono {n k : Nat} {A : Around} (r : Room n A) (h : k ≤ n) : Room k A := ⟨r.handled, by have := r.depth; omega, by have := r.units; omega, r.frames⟩

/-- a step that only makes new objects -/
structure Pur (s s' : Shared) : Prop where
  same : ∃ h tk, s' = { s with heap := h, toks := tk }
  keep : ∀ b o, s.heap.get? b = some o → s'.heap.get? b = some o
theorem Pur.refl (s : Shared) : Pur s s := ⟨⟨_, _, rfl⟩, fun _ _ e => e⟩
theorem Pur.trans {s s' s'' : Shared} (a : Pur s s') (b : Pur s' s'') : Pur s s'' := by
  obtain ⟨⟨h, tk, rfl⟩, k⟩ := a
  obtain ⟨⟨h', tk', rfl⟩, k'⟩ := b
  exact ⟨⟨_, _, rfl⟩, fun b o e => k' b o (k b o e)⟩
theorem Pur.tok (s : Shared) (t : Nat) : Pur s { s with toks := t } := ⟨⟨_, _, rfl⟩, fun _ _ e => e⟩
theorem Pur.push (s : Shared) (o : Obj) (t : Nat) : Pur s { s with heap := s.heap.push o, toks := t } :=
  ⟨⟨_, _, rfl⟩, fun _ _ e => Heap.get?_push_of_some _ e⟩
theorem Pur.of {s : Shared} {h : Heap} {tk : Nat} (k : ∀ b o, s.heap.get? b = some o → h.get? b = some o) : Pur s { s with heap := h, toks := tk } := ⟨⟨_, _, rfl⟩, k⟩

abbrev orNew (P : Addr → Prop) (s : Shared) : Addr → Prop := fun b => P b ∨ s.heap.objs.size ≤ b
abbrev NoE : Value → Shared → Prop := fun _ _ => False

/-- a tree of the machine that makes data of data and changes no object -/
def Spec (n : Nat) (t : List Value → Sem Value) (f : List D → Option D) : Prop :=
  ∀ (w : World) (A : Around) (s : Shared) (P : Addr → Prop) (vs : List Value) (ds : List D) (d : D), Room n A → HB w s.heap → Rds w P s.heap ds vs → f ds = some d →
    wpAny (model prog w) A (t vs) (fun v s' => Pur s s' ∧ Rd w (orNew P s) s'.heap d v) NoE s

theorem Rd.pur {w : World} {P : Addr → Prop} {s s' : Shared} {d : D} {v : Value} (x : Rd w P s.heap d v) (k : Pur s s') : Rd w P s'.heap d v := x.mono fun b o hp _ e => ⟨hp, k.keep b o e⟩
theorem Rds.pur {w : World} {P : Addr → Prop} {s s' : Shared} {d : List D} {v : List Value} (x : Rds w P s.heap d v) (k : Pur s s') : Rds w P s'.heap d v := x.mono fun b o hp _ e => ⟨hp, k.keep b o e⟩

/-- an activation -/
structure Cx where
  w : World
  A : Around
  env : Env
  s₀ : Shared
  vs : List (Str × Bool)
  P : Addr → Prop

def Cx.Ok (cx : Cx) (mu : Mu) (b : Addr) : Prop :=
  (cx.P b ∨ cx.s₀.heap.objs.size ≤ b) ∧ b ≠ cx.env.locals ∧ (∀ n c, cx.env.cells.lookup n = some c → b ≠ c) ∧ ¬ inMu mu b

def RV (w : World) (P : Addr → Prop) (mu : Mu) (h : Heap) : V → Value → Prop
  | .d x, v => Rd w P h x v
  | .own, v => ∃ a d, mu = some (a, d) ∧ v = .ref a

abbrev accObj (vs : List Value) (n : Nat) (da : Addr) : Obj := ⟨.ref 130, some da, .seq vs.toArray n, #[]⟩

def MutR (w : World) (P : Addr → Prop) (mu : Mu) (h : Heap) : MU → Prop
  | .none => mu = none
  | .list ds => ∃ a vs n, mu = some (a, a) ∧ h.get? a = some { cls := .type "list", data := .seq (vs : List Value).toArray n } ∧ Rds w P h ds vs
  | .dict es => ∃ a ens n, mu = some (a, a) ∧ (a == sysModules) = false ∧ h.get? a = some { cls := .type "dict", data := .dict (ens : List DictEntry).toArray n } ∧ Rde w P h es ens
  | .acc ds => ∃ a da vs n ens k, mu = some (a, da) ∧ a ≠ da ∧ h.get? a = some (accObj vs n da) ∧ h.get? da = some (dictOf ens k) ∧ (ens = [] ∨ ∃ t v, ens = [⟨PyData.keyHash w.params "_initial_size", .str "_initial_size" t, v⟩]) ∧ Rds w P h ds vs

theorem MutR.mono {w : World} {P P' : Addr → Prop} {mu : Mu} {h h' : Heap} {c : MU} (x : MutR w P mu h c) (hk : ∀ b o, P b → NF o → h.get? b = some o → P' b ∧ h'.get? b = some o) (hm : ∀ b o, inMu mu b → NF o → h.get? b = some o → h'.get? b = some o) : MutR w P' mu h' c := by
  cases c with
  | none => exact x
  | list ds =>
    obtain ⟨a, vs, n, rfl, hg, hr⟩ := x
    exact ⟨a, vs, n, rfl, hm a _ (.inl rfl) (fun _ z => by cases z) hg, hr.mono hk⟩
  | dict ds =>
    obtain ⟨a, vs, n, rfl, hne, hg, hr⟩ := x
    exact ⟨a, vs, n, rfl, hne, hm a _ (.inl rfl) (fun _ z => by cases z) hg, hr.mono hk⟩
  | acc ds =>
    obtain ⟨a, da, vs, n, ens, k, rfl, ne, hg, hd, he, hr⟩ := x
    exact ⟨a, da, vs, n, ens, k, rfl, ne, hm a _ (.inl rfl) (fun _ z => by cases z) hg, hm da _ (.inr rfl) (fun _ z => by cases z) hd, he, hr.mono hk⟩
theorem MutR.lt {w : World} {P : Addr → Prop} {mu : Mu} {h : Heap} {c : MU} (x : MutR w P mu h c) {b : Addr} (hb : inMu mu b) : b < h.objs.size := by
  cases c with
  | none => rw [show mu = none from x] at hb; exact hb.elim
  | list ds =>
    obtain ⟨a, vs, n, rfl, hg, hr⟩ := x
    rcases hb with rfl | rfl <;> exact Heap.lt_size hg
  | dict ds =>
    obtain ⟨a, vs, n, rfl, _, hg, hr⟩ := x
    rcases hb with rfl | rfl <;> exact Heap.lt_size hg
  | acc ds =>
    obtain ⟨a, da, vs, n, ens, k, rfl, ne, hg, hd, he, hr⟩ := x
    rcases hb with rfl | rfl
    · exact Heap.lt_size hg
    · exact Heap.lt_size hd

/-- the frame -/
structure Frm (cx : Cx) (m cm : Str → Option Value) (s : Shared) : Prop where
  same : ∃ h tk, s = { cx.s₀ with heap := h, toks := tk }
  ns : s.heap.Ns cx.env.locals m
  keep : ∀ b o, cx.s₀.heap.get? b = some o → s.heap.get? b = some o
  cell : ∀ n c, cx.env.cells.lookup n = some c → s.heap.IsCell c (cm n)

abbrev Vars := List (Option V)
def look (m cm : Str → Option Value) (x : Str) (b : Bool) : Option Value := if b then cm x else m x

structure Rel (cx : Cx) (vs : Vars) (mu : Mu) (c : MU) (s : Shared) : Prop where
  frm : ∃ m cm, Frm cx m cm s ∧ ∀ (i : Nat) (x : Str) (b : Bool) (d : V), cx.vs[i]? = some (x, b) → vs[i]? = some (some d) → ∃ v, look m cm x b = some v ∧ RV cx.w (cx.Ok mu) mu s.heap d v
  mobj : MutR cx.w (cx.Ok mu) mu s.heap c
  out : ∀ b, inMu mu b → cx.s₀.heap.objs.size ≤ b ∧ b ≠ cx.env.locals ∧ ∀ n c, cx.env.cells.lookup n = some c → b ≠ c
  fresh : cx.s₀.heap.objs.size ≤ cx.env.locals
  base : HB cx.w cx.s₀.heap

/-- a step within an activation: the mutable object alone may turn -/
structure Stp (mu : Mu) (s s' : Shared) : Prop where
  same : ∃ h tk, s' = { s with heap := h, toks := tk }
  keep : ∀ b o, ¬ inMu mu b → s.heap.get? b = some o → s'.heap.get? b = some o
theorem Stp.refl (mu : Mu) (s : Shared) : Stp mu s s := ⟨⟨_, _, rfl⟩, fun _ _ _ e => e⟩
theorem Stp.trans {mu : Mu} {s s' s'' : Shared} (a : Stp mu s s') (b : Stp mu s' s'') : Stp mu s s'' := by
  obtain ⟨⟨h, tk, rfl⟩, k⟩ := a
  obtain ⟨⟨h', tk', rfl⟩, k'⟩ := b
  exact ⟨⟨_, _, rfl⟩, fun b o n e => k' b o n (k b o n e)⟩
theorem Pur.stp {s s' : Shared} (a : Pur s s') (mu : Mu) : Stp mu s s' := ⟨a.same, fun b o _ e => a.keep b o e⟩

theorem RV.mono {w : World} {P P' : Addr → Prop} {mu : Mu} {h h' : Heap} {d : V} {v : Value} (x : RV w P mu h d v) (hk : ∀ b o, P b → NF o → h.get? b = some o → P' b ∧ h'.get? b = some o) : RV w P' mu h' d v := by
  cases d with
  | d x' => exact Rd.mono hk x
  | own => exact x
theorem RV.stp {cx : Cx} {mu : Mu} {s s' : Shared} {d : V} {v : Value} (x : RV cx.w (cx.Ok mu) mu s.heap d v) (k : Stp mu s s') : RV cx.w (cx.Ok mu) mu s'.heap d v :=
  x.mono fun b o hp _ e => ⟨hp, k.keep b o hp.2.2.2 e⟩

theorem Rel.stp {cx : Cx} {vs : Vars} {mu : Mu} {c c' : MU} {s s' : Shared} (R : Rel cx vs mu c s) (k : Stp mu s s') (hm : MutR cx.w (cx.Ok mu) mu s'.heap c') : Rel cx vs mu c' s' := by
  obtain ⟨m, cm, F, hv⟩ := R.frm
  have kl : ∀ o, s.heap.get? cx.env.locals = some o → s'.heap.get? cx.env.locals = some o := fun o e => k.keep _ o (fun hb => (R.out _ hb).2.1 rfl) e
  have kc : ∀ n c, cx.env.cells.lookup n = some c → ∀ o, s.heap.get? c = some o → s'.heap.get? c = some o := fun n c hc o e => k.keep _ o (fun hb => (R.out _ hb).2.2 n c hc rfl) e
  have kb : ∀ b o, cx.s₀.heap.get? b = some o → s'.heap.get? b = some o := fun b o e => k.keep b o (fun hb => Nat.lt_irrefl _ (Nat.lt_of_lt_of_le (Heap.lt_size e) (R.out _ hb).1)) (F.keep b o e)
  refine ⟨⟨m, cm, ⟨?_, ?_, kb, ?_⟩, ?_⟩, hm, R.out, R.fresh, R.base⟩
  · obtain ⟨h, tk, e⟩ := F.same
    obtain ⟨h', tk', e'⟩ := k.same
    exact ⟨h', tk', by rw [e', e]⟩
  · obtain ⟨o, es, ep, ho, r⟩ := F.ns
    exact ⟨o, es, ep, kl o ho, r⟩
  · intro n c hc
    obtain ⟨o, ho, hd⟩ := F.cell n c hc
    exact ⟨o, kc n c hc o ho, hd⟩
  · intro i x b d h1 h2
    obtain ⟨v, hv1, hv2⟩ := hv i x b d h1 h2
    exact ⟨v, hv1, hv2.stp k⟩

theorem Rel.hb {cx : Cx} {vs : Vars} {mu : Mu} {c : MU} {s : Shared} (R : Rel cx vs mu c s) : HB cx.w s.heap := let ⟨_, _, F, _⟩ := R.frm; R.base.keeps F.keep
theorem Rel.pur {cx : Cx} {vs : Vars} {mu : Mu} {c : MU} {s s' : Shared} (R : Rel cx vs mu c s) (k : Pur s s') : Rel cx vs mu c s' :=
  R.stp (k.stp mu) (R.mobj.mono (fun b o hp _ e => ⟨hp, k.keep b o e⟩) fun b o _ _ e => k.keep b o e)
/-- new places are places of the activation's data -/
theorem Rel.okNew {cx : Cx} {vs : Vars} {mu : Mu} {c : MU} {s : Shared} (R : Rel cx vs mu c s) {b : Addr} (hb : s.heap.objs.size ≤ b) : cx.Ok mu b := by
  obtain ⟨m, cm, F, _⟩ := R.frm
  refine ⟨.inr (Nat.le_trans R.fresh (Nat.le_of_lt (Nat.lt_of_lt_of_le F.ns.lt hb))), ?_, ?_, ?_⟩
  · have := F.ns.lt; exact Nat.ne_of_gt (Nat.lt_of_lt_of_le this hb)
  · intro n c hc
    have := (F.cell n c hc).lt
    exact Nat.ne_of_gt (Nat.lt_of_lt_of_le this hb)
  · intro h
    exact Nat.lt_irrefl _ (Nat.lt_of_lt_of_le (R.mobj.lt h) hb)

abbrev EM := Vars → MU → Option (V × MU)
structure PostE (cx : Cx) (vs : Vars) (mu : Mu) (c' : MU) (s : Shared) (d : V) (v : Value) (s' : Shared) : Prop where
  rel : Rel cx vs mu c' s'
  stp : Stp mu s s'
  rv : RV cx.w (cx.Ok mu) mu s'.heap d v

/-- the activation's fixed facts, with room for n -/
structure Good (n : Nat) (cx : Cx) : Prop where
  kind : cx.env.scope.kind = .function
  glob : cx.env.globals = mainGlobals
  blt : cx.env.builtins = builtinsNs
  room : Room n cx.A

def RefE (cx : Cx) (e : Expr) (m : EM) : Prop :=
  ∀ vs c d c' mu s, m vs c = some (d, c') → Rel cx vs mu c s → wpAny (model prog cx.w) cx.A (eval e cx.env) (PostE cx vs mu c' s d) NoE s

def eVar (i : Nat) : EM := fun vs c => match vs[i]? with
  | some (some d) => some (d, c)
  | _ => none
theorem refE_var {cx : Cx} {n : Nat} (G : Good n cx) {x : Str} {pos : Pos} {i : Nat} {b : Bool} (hi : cx.vs[i]? = some (x, b)) (hk : cx.env.kindOf x = some (if b then .cell else .local))
    (hc : b = true → (cx.env.cells.lookup x).isSome = true := by intro h; first | (cases h; done) | rfl) (hd : (x == ("__debug__" : Str)) = false := by decide) : RefE cx (.Name x pos) (eVar i) := by
  intro vs c d c' mu s hm R
  unfold eVar at hm
  split at hm
  · rename_i d' e
    cases hm
    obtain ⟨m, cm, F, hv⟩ := R.frm
    obtain ⟨v, h1, h2⟩ := hv i x b d hi e
    refine wpAny_Name ?_ hd
    cases b with
    | false =>
      exact wpAny_loadName_local G.kind (by simpa using hk) F.ns h1 ⟨R, Stp.refl .., h2⟩
    | true =>
      obtain ⟨ca, hca⟩ := Option.isSome_iff_exists.mp (hc rfl)
      refine wpAny_loadName_cell G.kind (by simpa using hk) hca ?_ ⟨R, Stp.refl .., h2⟩
      have := F.cell x ca hca
      rwa [show cm x = some v from h1] at this
  · cases hm

def eInt (i : Int) : EM := fun _ c => some (.d (.int i), c)
theorem refE_int {cx : Cx} {i : Int} {k : Nat} {pos : Pos} : RefE cx (.Constant (.int i) k pos) (eInt i) := by
  intro vs c d c' mu s hm R
  cases hm
  exact wpAny_Constant_int ⟨R.pur (Pur.tok ..), (Pur.tok ..).stp mu, ⟨_, rfl⟩⟩
def eStr (x : List Nat) : EM := fun _ c => some (.d (.str x), c)
theorem refE_str {cx : Cx} {x : Str} {l : List Nat} {k : Nat} {pos : Pos} (hx : x = strOf l) : RefE cx (.Constant (.str x) k pos) (eStr l) := by
  intro vs c d c' mu s hm R
  cases hm
  subst hx
  exact Constant_str ⟨R.pur (Pur.tok ..), (Pur.tok ..).stp mu, ⟨_, rfl⟩⟩
end Mine
end
section
open PySem PySem.Calls PySem.W PyProof.Rows
set_option Elab.async false
set_option maxRecDepth 100000
namespace Mine
section
variable {cx : Cx} {n : Nat}

/-- the step of a tree that only makes data -/
theorem PostE.ofSpec {vs : Vars} {mu : Mu} {c' : MU} {s s₁ : Shared} {f : List D → Option D} {t : List Value → Sem Value} {ds : List D} {vals : List Value} {d : D}
    (S : Spec n t f) (G : Room n cx.A) (R : Rel cx vs mu c' s₁) (k : Stp mu s s₁) (hr : Rds cx.w (cx.Ok mu) s₁.heap ds vals) (hf : f ds = some d) :
    wpAny (model prog cx.w) cx.A (t vals) (PostE cx vs mu c' s (.d d)) NoE s₁ := by
  refine wpAny_mono (S cx.w cx.A s₁ (cx.Ok mu) vals ds d G R.hb hr hf) (fun v s' h => ?_) fun _ _ e => e
  exact ⟨R.pur h.1, k.trans (h.1.stp mu), h.2.mono fun b o hb _ e => ⟨hb.elim id fun q => R.okNew q, e⟩⟩

def eTwo (f : List D → Option D) (l r : EM) : EM := fun vs c => match l vs c with
  | some (.d x, c1) => (match r vs c1 with
    | some (.d y, c2) => (match f [x, y] with
      | some d => some (.d d, c2)
      | none => none)
    | _ => none)
  | _ => none

theorem refE_two {e l r : Expr} {ml mr : EM} {t : List Value → Sem Value} {f : List D → Option D}
    (rule : ∀ (s : Shared) (Q : Value → Shared → Prop), wpAny (model prog cx.w) cx.A (eval l cx.env) (fun a s₁ => wpAny (model prog cx.w) cx.A (eval r cx.env) (fun b s₂ => wpAny (model prog cx.w) cx.A (t [a, b]) Q NoE s₂) NoE s₁) NoE s → wpAny (model prog cx.w) cx.A (eval e cx.env) Q NoE s)
    (G : Good n cx) (S : Spec n t f) (hl : RefE cx l ml) (hr : RefE cx r mr) : RefE cx e (eTwo f ml mr) := by
  intro vs c d c' mu s hm R
  unfold eTwo at hm
  split at hm
  · rename_i x c1 e1
    split at hm
    · rename_i y c2 e2
      split at hm
      · rename_i d' e3
        cases hm
        refine rule s _ (wpAny_mono (hl vs c _ c1 mu s e1 R) (fun a s₁ h1 => wpAny_mono (hr vs c1 _ _ mu s₁ e2 h1.rel) (fun b s₂ h2 => ?_) fun _ _ e => e) fun _ _ e => e)
        exact PostE.ofSpec S G.room h2.rel (h1.stp.trans h2.stp) (Rds.cons (h1.rv.stp h2.stp) (Rds.cons h2.rv Rds.nil)) e3
      · cases hm
    · cases hm
  · cases hm

abbrev tBin (op : Operator) : List Value → Sem Value
  | [a, b] => binaryOp op a b
  | _ => .unsupported ""
abbrev tCmp (op : CmpOp) : List Value → Sem Value
  | [a, b] => compareOp op a b
  | _ => .unsupported ""
theorem refE_bin {op : Operator} {l r : Expr} {pos : Pos} {ml mr : EM} {f : List D → Option D} (G : Good n cx) (S : Spec n (tBin op) f) (hl : RefE cx l ml) (hr : RefE cx r mr) :
    RefE cx (.BinOp l op r pos) (eTwo f ml mr) := refE_two (fun _ _ h => wpAny_BinOp h) G S hl hr
theorem refE_cmp {op : CmpOp} {l r : Expr} {pos : Pos} {ml mr : EM} {f : List D → Option D} (G : Good n cx) (S : Spec n (tCmp op) f) (hl : RefE cx l ml) (hr : RefE cx r mr)
    (hm : behindInMarks op r = false := by with_unfolding_all rfl) : RefE cx (.Compare l [op] [r] pos) (eTwo f ml mr) := refE_two (fun _ _ h => wpAny_Compare1 h hm) G S hl hr

/-! arguments, displays -/
abbrev AM := Vars → MU → Option (List D × MU)
structure PostA (cx : Cx) (vs : Vars) (mu : Mu) (c' : MU) (s : Shared) (ds : List D) (vals : List Value) (s' : Shared) : Prop where
  rel : Rel cx vs mu c' s'
  stp : Stp mu s s'
  rv : Rds cx.w (cx.Ok mu) s'.heap ds vals
def RefA (cx : Cx) (pos : Pos) (es : List Expr) (m : AM) : Prop :=
  ∀ vs c ds c' mu s, m vs c = some (ds, c') → Rel cx vs mu c s → wpAny (model prog cx.w) cx.A (spliced (backTo pos (starEach es cx.env))) (PostA cx vs mu c' s ds) NoE s
def aNil : AM := fun _ c => some ([], c)
def aCons (e : EM) (r : AM) : AM := fun vs c => match e vs c with
  | some (.d x, c1) => (match r vs c1 with
    | some (ds, c2) => some (x :: ds, c2)
    | none => none)
  | _ => none
theorem refA_nil {pos : Pos} : RefA cx pos [] aNil := by
  intro vs c ds c' mu s hm R
  cases hm
  exact spliced_nil ⟨R, Stp.refl .., Rds.nil⟩
theorem refA_cons {pos : Pos} {e : Expr} {es : List Expr} {m : EM} {r : AM} (he : RefE cx e m) (hr : RefA cx pos es r)
    (hs : starEach (e :: es) cx.env = (false, eval e cx.env) :: starEach es cx.env := by rfl) : RefA cx pos (e :: es) (aCons m r) := by
  intro vs c ds c' mu s hm R
  unfold aCons at hm
  split at hm
  · rename_i x c1 e1
    split at hm
    · rename_i ds' c2 e2
      cases hm
      rw [hs]
      show wpAny _ _ (spliced ((false, eval e cx.env) :: backTo pos (starEach es cx.env))) _ _ _
      refine spliced_cons (wpAny_mono (he vs c _ c1 mu s e1 R) (fun a s₁ h1 => wpAny_mono (hr vs c1 _ _ mu s₁ e2 h1.rel) (fun b s₂ h2 => ?_) fun _ _ e => e) fun _ _ e => e)
      exact ⟨h2.rel, h1.stp.trans h2.stp, Rds.cons (h1.rv.stp h2.stp) h2.rv⟩
    · cases hm
  · cases hm

def eTup (m : AM) : EM := fun vs c => match m vs c with
  | some (ds, c') => if ds.length ≤ 100 then some (.d (.tup ds), c') else none
  | none => none
def eList (m : AM) : EM := fun vs c => match m vs c with
  | some (ds, c') => if ds.length ≤ 100 then some (.d (.list ds), c') else none
  | none => none
theorem small_line {k : Nat} (h : k ≤ 100) : k ≤ sizeLine := Nat.le_trans h (by decide)
theorem refE_tup {es : List Expr} {k : Nat} {pos : Pos} {m : AM} (h : RefA cx pos es m) : RefE cx (.Tuple es k pos) (eTup m) := by
  intro vs c d c' mu s hm R
  unfold eTup at hm
  split at hm
  · rename_i ds c1 e1
    split at hm
    · rename_i hl
      cases hm
      refine wpAny_Tuple (wpAny_mono (h vs c _ _ mu s e1 R) (fun vals s₁ h1 => ⟨?_, ?_⟩) fun _ _ e => e)
      · rw [h1.rv.length]; exact small_line hl
      · have hp := Pur.push s₁ { cls := .type "tuple", data := .seq vals.toArray } s₁.toks
        refine ⟨h1.rel.pur hp, h1.stp.trans (hp.stp mu), ?_⟩
        show Rd _ _ _ _ _
        simp only [Rd]
        exact ⟨_, vals, 0, rfl, h1.rel.okNew (Nat.le_refl _), Heap.get?_push_size _ rfl, h1.rv.pur hp⟩
    · cases hm
  · cases hm
theorem refE_list {es : List Expr} {pos : Pos} {m : AM} (h : RefA cx pos es m) : RefE cx (.List es pos) (eList m) := by
  intro vs c d c' mu s hm R
  unfold eList at hm
  split at hm
  · rename_i ds c1 e1
    split at hm
    · rename_i hl
      cases hm
      refine PySem.wpAny_List (wpAny_mono (h vs c _ _ mu s e1 R) (fun vals s₁ h1 => ⟨?_, ?_⟩) fun _ _ e => e)
      · rw [h1.rv.length]; exact small_line hl
      · have hp := Pur.push s₁ { cls := .type "list", data := .seq vals.toArray } s₁.toks
        refine ⟨h1.rel.pur hp, h1.stp.trans (hp.stp mu), ?_⟩
        show Rd _ _ _ _ _
        simp only [Rd]
        exact ⟨_, vals, 0, rfl, h1.rel.okNew (Nat.le_refl _), Heap.get?_push_size _ rfl, h1.rv.pur hp⟩
    · cases hm
  · cases hm

/-! calls by a name -/
def Loads (cx : Cx) (e : Expr) (fv : Value) : Prop := ∀ (s : Shared) (Q : Value → Shared → Prop), HB cx.w s.heap → Q fv s → wpAny (model prog cx.w) cx.A (eval e cx.env) Q NoE s
theorem loads_global (G : Good n cx) {x : Str} {pos : Pos} {v : Value} (hk : cx.env.kindOf x = some .globalImplicit) (e : nsIn (KF cx.w) mainGlobals x = some (some v)) (hd : (x == ("__debug__" : Str)) = false := by decide) : Loads cx (.Name x pos) v := by
  intro s Q B h
  obtain ⟨mg, mb, g, b, hb⟩ := B.g
  exact Name_function_global G.kind hk (loadGlobal_global (by rw [G.glob]; exact g) (mg_of B.X g e) h) hd
theorem loads_builtin (G : Good n cx) {x : Str} {pos : Pos} {v : Value} (hk : cx.env.kindOf x = some .globalImplicit) (e : nsIn (KF cx.w) mainGlobals x = some none) (hv : bootBuiltins x = some v)
    (hn : x ≠ "__name__" := by decide) (hd : (x == ("__debug__" : Str)) = false := by decide) : Loads cx (.Name x pos) v := by
  intro s Q B h
  obtain ⟨mg, mb, g, b, hb⟩ := B.g
  exact Name_function_global G.kind hk (loadGlobal_builtin (by rw [G.glob]; exact g) (mg_none_of B.X g e) (by rw [G.blt]; exact b) ((hb x hn).trans hv) h) hd

/-- a value that callWith hands on to call -/
def Handed (fv : Value) : Prop := ∀ (w : World) (A : Around) (s : Shared) (pos : Pos) (first : List Value) (args : List (Bool × Sem Value)) (Q : Value → Shared → Prop), args.any (·.1) = false →
  wpAny (model prog w) A (evalArgs fv true args []) (fun a s₁ => HB w s₁.heap ∧ wpAny (model prog w) A (call fv (first ++ a.pos) a.kw) Q NoE s₁) NoE s → wpAny (model prog w) A (callWith pos fv first args []) Q NoE s
theorem handed_builtin (id : String) : Handed (.builtin id) := fun _ _ _ _ _ _ _ hp h => callWith_builtin hp (wpAny_mono h (fun _ _ x => x.2) fun _ _ e => e)
theorem handed_fn {f : Addr} (hf : ∀ w, ∃ o fd, (KF w).lookup f = some o ∧ o.data = .func fd) : Handed (.ref f) := fun w _ _ _ _ _ _ _ h => by
  obtain ⟨o, fd, e, ed⟩ := hf w
  exact callWith_function (o := o) (fd := fd) (wpAny_mono h (fun _ _ x => ⟨⟨x.1.X _ _ e, ed⟩, x.2⟩) fun _ _ e => e)
theorem handed_type (T : String) : Handed (.type T) := fun _ _ _ _ _ _ _ hp h => PyProof.Rows.callWith_type hp (wpAny_mono h (fun _ _ x => x.2) fun _ _ e => e)

theorem evalArgs_A {pos : Pos} {fv : Value} {es : List Expr} {env : Env} {w : World} {A : Around} {s : Shared} {Q : Args → Shared → Prop} (hp : (backTo pos (starEach es env)).any (·.1) = false)
    (h : wpAny (model prog w) A (spliced (backTo pos (starEach es env))) (fun vs s' => Q ⟨vs, []⟩ s') NoE s) : wpAny (model prog w) A (evalArgs fv true (backTo pos (starEach es env)) []) Q NoE s := by
  revert hp h
  cases backTo pos (starEach es env) with
  | nil =>
    intro _ h
    unfold evalArgs
    show wpAny _ _ (spliced [] >>= _) _ _ _
    refine wpAny_bind (wpAny_mono h (fun vs s' h' => ?_) fun _ _ x => x)
    refine wpAny_bind (wpAny_pure (wpAny_holding ?_))
    exact wpAny_bind (wpAny_pure (wpAny_bind (wpAny_pure (wpAny_pure h'))))
  | cons x r =>
    intro hp h
    obtain ⟨b, t⟩ := x
    have : b = false := by simpa using (show (b || r.any (·.1)) = false from hp) |> fun q => (Bool.or_eq_false_iff.mp q).1
    subst this
    exact evalArgs_plain h

def eCall (f : List D → Option D) (m : AM) : EM := fun vs c => match m vs c with
  | some (ds, c') => (match f ds with
    | some d => some (.d d, c')
    | none => none)
  | none => none
theorem refE_call {x : Str} {p pos : Pos} {es : List Expr} {fv : Value} {m : AM} {f : List D → Option D} (G : Good n cx) (hl : Loads cx (.Name x p) fv) (hc : Handed fv) (S : Spec n (fun vs => call fv vs) f) (ha : RefA cx pos es m)
    (hp : (backTo pos (starEach es cx.env)).any (·.1) = false := by rfl) : RefE cx (.Call (.Name x p) es [] pos) (eCall f m) := by
  intro vs c d c' mu s hm R
  unfold eCall at hm
  split at hm
  · rename_i ds c1 e1
    split at hm
    · rename_i d' e2
      cases hm
      refine wpAny_Call_NameR (hl s _ R.hb (hc _ _ _ _ _ _ _ hp (evalArgs_A hp (wpAny_mono (ha vs c _ _ mu s e1 R) (fun vals s₁ h1 => ?_) fun _ _ e => e))))
      exact ⟨h1.rel.hb, PostE.ofSpec S G.room h1.rel h1.stp h1.rv e2⟩
    · cases hm
  · cases hm
end
end Mine
end
section
open PySem PySem.Calls PySem.W PyProof.Rows
set_option Elab.async false
set_option maxRecDepth 100000
namespace Mine

/-- the activation's own frame is new and its cells lie apart -/
structure Own (cx : Cx) : Prop where
  cfresh : ∀ n c, cx.env.cells.lookup n = some c → cx.s₀.heap.objs.size ≤ c ∧ c ≠ cx.env.locals
  apart : ∀ n n' c, cx.env.cells.lookup n = some c → cx.env.cells.lookup n' = some c → n = n'
  nodup : (cx.vs.map (·.1)).Nodup

def Cx.offFrame (cx : Cx) (b : Addr) : Prop := b ≠ cx.env.locals ∧ ∀ n c, cx.env.cells.lookup n = some c → b ≠ c
structure StpS (cx : Cx) (mu : Mu) (s s' : Shared) : Prop where
  same : ∃ h tk, s' = { s with heap := h, toks := tk }
  keep : ∀ b o, ¬ inMu mu b → cx.offFrame b → s.heap.get? b = some o → s'.heap.get? b = some o
section
variable {cx : Cx} {n : Nat} {mu : Mu}
theorem StpS.refl (s : Shared) : StpS cx mu s s := ⟨⟨_, _, rfl⟩, fun _ _ _ _ e => e⟩
theorem StpS.trans {s s' s'' : Shared} (a : StpS cx mu s s') (b : StpS cx mu s' s'') : StpS cx mu s s'' := by
  obtain ⟨⟨h, tk, rfl⟩, k⟩ := a
  obtain ⟨⟨h', tk', rfl⟩, k'⟩ := b
  exact ⟨⟨_, _, rfl⟩, fun b o n f e => k' b o n f (k b o n f e)⟩
theorem Stp.toS {s s' : Shared} (a : Stp mu s s') : StpS cx mu s s' := ⟨a.same, fun b o n _ e => a.keep b o n e⟩
theorem Cx.Ok.off {b : Addr} (h : cx.Ok mu b) : ¬ inMu mu b ∧ cx.offFrame b := ⟨h.2.2.2, h.2.1, h.2.2.1⟩

theorem nodup_get {l : List (Str × Bool)} (h : (l.map (·.1)).Nodup) {i j : Nat} {x : Str} {b b' : Bool} (hi : l[i]? = some (x, b)) (hj : l[j]? = some (x, b')) : i = j := by
  have h1 : (l.map (·.1))[i]? = some x := by rw [List.getElem?_map, hi]; rfl
  have h2 : (l.map (·.1))[j]? = some x := by rw [List.getElem?_map, hj]; rfl
  have li := (List.getElem?_eq_some_iff.mp h1).1
  exact (List.getElem?_inj li h).mp (h1.trans h2.symm)

/-- a name is stored -/
theorem Rel.store {vs : Vars} {c : MU} {s : Shared} (R : Rel cx vs mu c s) (G : Good n cx) (O : Own cx) {i : Nat} {x : Str} {b : Bool} {d : V} {v : Value} (hi : cx.vs[i]? = some (x, b))
    (hk : cx.env.kindOf x = some (if b then .cell else .local)) (hc : b = true → (cx.env.cells.lookup x).isSome = true) (rv : RV cx.w (cx.Ok mu) mu s.heap d v) :
    wpAny (model prog cx.w) cx.A (storeName cx.env x v) (fun _ s' => Rel cx (vs.set i (some d)) mu c s' ∧ StpS cx mu s s') NoE s := by
  obtain ⟨m, cm, F, hv⟩ := R.frm
  have fin : ∀ (a : Addr) (h' : Heap) (tk : Nat) (m' cm' : Str → Option Value), (a = cx.env.locals ∨ ∃ y, cx.env.cells.lookup y = some a) → Heap.SameBut a s.heap h' → h'.Ns cx.env.locals m' → (∀ y ca, cx.env.cells.lookup y = some ca → h'.IsCell ca (cm' y)) →
      look m' cm' x b = some v → (∀ y b', y ≠ x → look m' cm' y b' = look m cm y b') → Rel cx (vs.set i (some d)) mu c { s with heap := h', toks := tk } ∧ StpS cx mu s { s with heap := h', toks := tk } := by
    intro a h' tk m' cm' ha hs hn hcl hx ho
    have off : ∀ b, cx.offFrame b → b ≠ a := by
      intro b hb e
      rcases ha with rfl | ⟨y, hy⟩
      · exact hb.1 e
      · exact hb.2 y a hy e
    have kOk : ∀ b o, cx.Ok mu b → NF o → s.heap.get? b = some o → cx.Ok mu b ∧ h'.get? b = some o := fun b o hb _ e => ⟨hb, hs.extBut b o (off b hb.off.2) e⟩
    refine ⟨⟨⟨m', cm', ⟨?_, hn, ?_, hcl⟩, ?_⟩, ?_, R.out, R.fresh, R.base⟩, ⟨⟨_, _, rfl⟩, fun b o _ hf e => hs.extBut b o (off b hf) e⟩⟩
    · obtain ⟨h₁, tk₁, e⟩ := F.same
      exact ⟨h', tk, by rw [e]⟩
    · intro b o e
      refine hs.extBut b o ?_ (F.keep b o e)
      have lt := Heap.lt_size e
      rcases ha with rfl | ⟨y, hy⟩
      · exact Nat.ne_of_lt (Nat.lt_of_lt_of_le lt R.fresh)
      · exact Nat.ne_of_lt (Nat.lt_of_lt_of_le lt (O.cfresh y a hy).1)
    · intro j y b' d' hj hd'
      by_cases hy : y = x
      · subst hy
        have hij := nodup_get O.nodup hi hj
        subst hij
        rw [hi] at hj; cases hj
        rw [List.getElem?_set] at hd'
        split at hd'
        · split at hd'
          · cases hd'
            exact ⟨v, hx, rv.mono kOk⟩
          · cases hd'
        · rename_i h; exact absurd rfl h
      · have hne : i ≠ j := fun e => hy (by subst e; rw [hi] at hj; cases hj; rfl)
        rw [List.getElem?_set_ne hne] at hd'
        obtain ⟨v', h1, h2⟩ := hv j y b' d' hj hd'
        exact ⟨v', by rw [ho y b' hy]; exact h1, h2.mono kOk⟩
    · refine R.mobj.mono kOk fun b o hb _ e => hs.extBut b o ?_ e
      exact off b ⟨(R.out b hb).2.1, (R.out b hb).2.2⟩
  cases b with
  | false =>
    refine wpAny_storeName_local (by simpa using hk) F.ns (fun h' hn hs => ?_) (by rw [G.kind]; rfl)
    refine fin cx.env.locals h' _ _ cm (.inl rfl) hs hn (fun y ca hy => (F.cell y ca hy).sameBut hs (O.cfresh y ca hy).2) (if_pos rfl) fun y b' hy => ?_
    cases b' with
    | false => exact if_neg hy
    | true => rfl
  | true =>
    obtain ⟨ca, hca⟩ := Option.isSome_iff_exists.mp (hc rfl)
    refine wpAny_storeName_cell G.kind (by simpa using hk) hca (F.cell x ca hca) fun h' hcell hs => ?_
    refine fin ca h' s.toks m (fun y => if y = x then some v else cm y) (.inr ⟨x, hca⟩) hs (F.ns.sameBut hs (Ne.symm (O.cfresh x ca hca).2)) (fun y cb hy => ?_) (by simp [look]) fun y b' hy => ?_
    · by_cases e : y = x
      · subst e
        rw [hca] at hy; cases hy
        simpa using hcell
      · rw [if_neg e]
        exact (F.cell y cb hy).sameBut hs fun z => e (O.apart y x cb hy (by rw [z]; exact hca))
    · cases b' with
      | false => rfl
      | true => exact if_neg hy

/-! statements -/
inductive Fl where
  | next
  | ret (d : V)
abbrev SM := Vars → MU → Option (Fl × Vars × MU)
def FlR (cx : Cx) (mu : Mu) (h : Heap) : Fl → Flow → Prop
  | .next, f => f = .next
  | .ret d, f => ∃ v, f = .ret v ∧ RV cx.w (cx.Ok mu) mu h d v
structure PostS (cx : Cx) (mu : Mu) (s : Shared) (fl : Fl) (vs' : Vars) (c' : MU) (f : Flow) (s' : Shared) : Prop where
  rel : Rel cx vs' mu c' s'
  stp : StpS cx mu s s'
  flow : FlR cx mu s'.heap fl f
def RefS (cx : Cx) (st : Stmt) (m : SM) : Prop :=
  ∀ vs c fl vs' c' mu s, m vs c = some (fl, vs', c') → Rel cx vs mu c s → wpAny (model prog cx.w) cx.A (exec st cx.env) (PostS cx mu s fl vs' c') NoE s
def RefB (cx : Cx) (b : List Stmt) (m : SM) : Prop :=
  ∀ vs c fl vs' c' mu s, m vs c = some (fl, vs', c') → Rel cx vs mu c s → wpAny (model prog cx.w) cx.A (execs b cx.env) (PostS cx mu s fl vs' c') NoE s

def sNil : SM := fun vs c => some (.next, vs, c)
def sSeq (a b : SM) : SM := fun vs c => match a vs c with
  | some (.next, vs1, c1) => b vs1 c1
  | some (.ret d, vs1, c1) => some (.ret d, vs1, c1)
  | none => none
theorem refB_nil : RefB cx [] sNil := by
  intro vs c fl vs' c' mu s hm R
  cases hm
  exact wpAny_execs_nil ⟨R, StpS.refl s, rfl⟩
theorem refB_cons {st : Stmt} {b : List Stmt} {m r : SM} (h : RefS cx st m) (hr : RefB cx b r) : RefB cx (st :: b) (sSeq m r) := by
  intro vs c fl vs' c' mu s hm R
  unfold sSeq at hm
  split at hm
  · rename_i e1
    refine wpAny_execs_cons (wpAny_mono (h vs c _ _ _ mu s e1 R) (fun f s₁ h1 => ?_) fun _ _ e => e)
    rw [show f = .next from h1.flow]
    exact wpAny_mono (hr _ _ fl vs' c' mu s₁ hm h1.rel) (fun f' s₂ h2 => ⟨h2.rel, h1.stp.trans h2.stp, h2.flow⟩) fun _ _ e => e
  · rename_i d vs1 c1 e1
    cases hm
    refine wpAny_execs_cons (wpAny_mono (h vs c _ _ _ mu s e1 R) (fun f s₁ h1 => ?_) fun _ _ e => e)
    obtain ⟨v, rfl, hv⟩ := h1.flow
    exact ⟨h1.rel, h1.stp, v, rfl, hv⟩
  · cases hm

def sSet (i : Nat) (e : EM) : SM := fun vs c => match e vs c with
  | some (d, c') => some (.next, vs.set i (some d), c')
  | none => none
theorem refS_assign (G : Good n cx) (O : Own cx) {x : Str} {p' pos : Pos} {e : Expr} {m : EM} {i : Nat} {b : Bool} (hi : cx.vs[i]? = some (x, b)) (he : RefE cx e m) (hk : cx.env.kindOf x = some (if b then .cell else .local))
    (hc : b = true → (cx.env.cells.lookup x).isSome = true := by intro h; first | (cases h; done) | rfl) (hs : swapsWith e (some (.Name x p')) pos.line cx.env = pure false := by rfl) : RefS cx (.Assign [.Name x p'] e pos) (sSet i m) := by
  intro vs c fl vs' c' mu s hm R
  unfold sSet at hm
  split at hm
  · rename_i d c1 e1
    cases hm
    refine wpAny_Assign_Name (wpAny_mono (he vs c d _ mu s e1 R) (fun v s₁ h1 => ?_) fun _ _ e => e) hs
    exact wpAny_mono (h1.rel.store G O hi hk hc h1.rv) (fun _ s₂ h2 => ⟨h2.1, (Stp.toS h1.stp).trans h2.2, rfl⟩) fun _ _ e => e
  · cases hm

abbrev tInp (op : Operator) : List Value → Sem Value
  | [a, b] => inplaceOp op a b
  | _ => .unsupported ""
def sAug (i : Nat) (f : List D → Option D) (e : EM) : SM := fun vs c => match vs[i]? with
  | some (some (.d x)) => (match e vs c with
    | some (.d y, c') => (match f [x, y] with
      | some z => some (.next, vs.set i (some (.d z)), c')
      | none => none)
    | _ => none)
  | _ => none
theorem loadVar (G : Good n cx) {vs : Vars} {c : MU} {s : Shared} (R : Rel cx vs mu c s) {x : Str} {i : Nat} {b : Bool} {d : V} (hi : cx.vs[i]? = some (x, b)) (hk : cx.env.kindOf x = some (if b then .cell else .local))
    (hc : b = true → (cx.env.cells.lookup x).isSome = true) (hd : vs[i]? = some (some d)) : wpAny (model prog cx.w) cx.A (loadName cx.env x) (fun v s' => s' = s ∧ RV cx.w (cx.Ok mu) mu s.heap d v) NoE s := by
  obtain ⟨m, cm, F, hv⟩ := R.frm
  obtain ⟨v, h1, h2⟩ := hv i x b d hi hd
  cases b with
  | false => exact wpAny_loadName_local G.kind (by simpa using hk) F.ns h1 ⟨rfl, h2⟩
  | true =>
    obtain ⟨ca, hca⟩ := Option.isSome_iff_exists.mp (hc rfl)
    refine wpAny_loadName_cell G.kind (by simpa using hk) hca ?_ ⟨rfl, h2⟩
    have := F.cell x ca hca
    rwa [show cm x = some v from h1] at this
theorem refS_aug (G : Good n cx) (O : Own cx) {op : Operator} {x : Str} {p' pos : Pos} {e : Expr} {m : EM} {f : List D → Option D} {i : Nat} {b : Bool} (S : Spec n (tInp op) f) (hi : cx.vs[i]? = some (x, b)) (he : RefE cx e m)
    (hk : cx.env.kindOf x = some (if b then .cell else .local)) (hc : b = true → (cx.env.cells.lookup x).isSome = true := by intro h; first | (cases h; done) | rfl) : RefS cx (.AugAssign (.Name x p') op e pos) (sAug i f m) := by
  intro vs c fl vs' c' mu s hm R
  unfold sAug at hm
  split at hm
  · rename_i x' e0
    split at hm
    · rename_i y c1 e1
      split at hm
      · rename_i z e2
        cases hm
        refine wpAny_AugAssign_Name (wpAny_mono (loadVar G R hi hk hc e0) (fun old s₁ h0 => ?_) fun _ _ e => e)
        obtain ⟨rfl, rv0⟩ := h0
        refine wpAny_mono (he vs c _ _ mu s₁ e1 R) (fun v s₂ h1 => ?_) fun _ _ e => e
        refine wpAny_mono (PostE.ofSpec S G.room h1.rel h1.stp (Rds.cons (rv0.stp h1.stp) (Rds.cons h1.rv Rds.nil)) e2) (fun r s₃ h3 => ?_) fun _ _ e => e
        exact wpAny_mono (h3.rel.store G O hi hk hc h3.rv) (fun _ s₄ h4 => ⟨h4.1, (Stp.toS h3.stp).trans h4.2, rfl⟩) fun _ _ e => e
      · cases hm
    · cases hm
  · cases hm

def sRet (e : EM) : SM := fun vs c => match e vs c with
  | some (d, c') => some (.ret d, vs, c')
  | none => none
theorem refS_ret {e : Expr} {pos : Pos} {m : EM} (he : RefE cx e m) : RefS cx (.Return (some e) pos) (sRet m) := by
  intro vs c fl vs' c' mu s hm R
  unfold sRet at hm
  split at hm
  · rename_i d c1 e1
    cases hm
    exact wpAny_Return_some (wpAny_mono (he _ c d _ mu s e1 R) (fun v s₁ h1 => ⟨h1.rel, Stp.toS h1.stp, v, rfl, h1.rv⟩) fun _ _ e => e)
  · cases hm

def sExp (e : EM) : SM := fun vs c => match e vs c with
  | some (_, c') => some (.next, vs, c')
  | none => none
theorem refS_expr {e : Expr} {pos : Pos} {m : EM} (he : RefE cx e m) (hi : interactive cx.env = false := by rfl) (hs : swapsWith e none pos.line cx.env = pure false := by rfl) : RefS cx (.Expr e pos) (sExp m) := by
  intro vs c fl vs' c' mu s hm R
  unfold sExp at hm
  split at hm
  · rename_i d c1 e1
    cases hm
    exact wpAny_Expr_any (wpAny_mono (he _ c d _ mu s e1 R) (fun v s₁ h1 => ⟨h1.rel, Stp.toS h1.stp, rfl⟩) fun _ _ e => e) hi hs
  · cases hm

/-! truth -/
abbrev TM := Vars → MU → Option (Bool × MU)
structure PostT (cx : Cx) (vs : Vars) (mu : Mu) (c' : MU) (s : Shared) (b : Bool) (b' : Bool) (s' : Shared) : Prop where
  rel : Rel cx vs mu c' s'
  stp : Stp mu s s'
  eq : b' = b
def RefT (cx : Cx) (e : Expr) (m : TM) : Prop :=
  ∀ vs c b c' mu s, m vs c = some (b, c') → Rel cx vs mu c s → wpAny (model prog cx.w) cx.A (isTrue e cx.env (eval e cx.env)) (PostT cx vs mu c' s b) NoE s
def tVal (e : EM) : TM := fun vs c => match e vs c with
  | some (.d (.bool b), c') => some (b, c')
  | _ => none
theorem refT_val {e : Expr} {m : EM} (he : RefE cx e m) (hd : isTrue e cx.env (eval e cx.env) = (do let v ← eval e cx.env; standAt e.pos; holding [v] (truthy v)) := by rfl) : RefT cx e (tVal m) := by
  intro vs c b c' mu s hm R
  unfold tVal at hm
  split at hm
  · rename_i b' c1 e1
    cases hm
    refine wpAny_isTrue_value (wpAny_mono (he _ c _ _ mu s e1 R) (fun v s₁ h1 => ?_) fun _ _ e => e) hd
    have hb : v = .bool b := by simpa only [RV, Rd] using h1.rv
    rw [hb]
    exact wpAny_truthy_bool ⟨h1.rel, h1.stp, rfl⟩
  · cases hm
def tTwo (f : List D → Option D) (l r : EM) : TM := fun vs c => match eTwo f l r vs c with
  | some (.d (.bool b), c') => some (b, c')
  | _ => none
theorem refT_cmp {op : CmpOp} {l r : Expr} {pos : Pos} {ml mr : EM} {f : List D → Option D} (G : Good n cx) (S : Spec n (tCmp op) f) (hl : RefE cx l ml) (hr : RefE cx r mr)
    (hm : behindInMarks op r = false := by with_unfolding_all rfl) : RefT cx (.Compare l [op] [r] pos) (tTwo f ml mr) := by
  intro vs c b c' mu s hm' R
  unfold tTwo eTwo at hm'
  split at hm'
  · rename_i b' c1 e0
    cases hm'
    split at e0
    · rename_i x c1 e1
      split at e0
      · rename_i y c2 e2
        split at e0
        · rename_i d' e3
          cases e0
          refine wpAny_isTrue_Compare1 (wpAny_mono (hl vs c _ c1 mu s e1 R) (fun a s₁ h1 => wpAny_mono (hr vs c1 _ _ mu s₁ e2 h1.rel) (fun b s₂ h2 => ?_) fun _ _ e => e) fun _ _ e => e) hm
          refine wpAny_mono (PostE.ofSpec S G.room h2.rel (h1.stp.trans h2.stp) (Rds.cons (h1.rv.stp h2.stp) (Rds.cons h2.rv Rds.nil)) e3) (fun v s₃ h3 => ?_) fun _ _ e => e
          obtain ⟨r3, k3, v3⟩ := h3
          simp only [RV, Rd] at v3
          subst v3
          exact wpAny_truthy_bool ⟨r3, k3, rfl⟩
        · cases e0
      · cases e0
    · cases e0
  · cases hm'

abbrev TsM := TM
def RefAnd (cx : Cx) (op : BoolOp) (es : List Expr) (m : TM) : Prop :=
  ∀ vs c b c' mu s, m vs c = some (b, c') → Rel cx vs mu c s → wpAny (model prog cx.w) cx.A (allTrue op es cx.env) (PostT cx vs mu c' s b) NoE s
def tAnd (a b : TM) : TM := fun vs c => match a vs c with
  | some (true, c') => b vs c'
  | some (false, c') => some (false, c')
  | none => none
def tOr (a b : TM) : TM := fun vs c => match a vs c with
  | some (false, c') => b vs c'
  | some (true, c') => some (true, c')
  | none => none
def tConst (b : Bool) : TM := fun _ c => some (b, c)
theorem refAnd_nil : RefAnd cx .And [] (tConst true) := by
  intro vs c b c' mu s hm R; cases hm; exact wpAny_allTrue_And_nil ⟨R, Stp.refl .., rfl⟩
theorem refOr_nil : RefAnd cx .Or [] (tConst false) := by
  intro vs c b c' mu s hm R; cases hm; exact wpAny_allTrue_Or_nil ⟨R, Stp.refl .., rfl⟩
theorem refAnd_cons {e : Expr} {es : List Expr} {m r : TM} (he : RefT cx e m) (hr : RefAnd cx .And es r) : RefAnd cx .And (e :: es) (tAnd m r) := by
  intro vs c b c' mu s hm R
  unfold tAnd at hm
  split at hm
  · rename_i c1 e1
    refine wpAny_allTrue_And_cons (wpAny_mono (he _ c _ _ mu s e1 R) (fun b' s₁ h1 => ?_) fun _ _ e => e)
    rw [h1.eq, if_pos rfl]
    exact wpAny_mono (hr _ _ _ _ mu s₁ hm h1.rel) (fun _ s₂ h2 => ⟨h2.rel, h1.stp.trans h2.stp, h2.eq⟩) fun _ _ e => e
  · rename_i c1 e1
    cases hm
    refine wpAny_allTrue_And_cons (wpAny_mono (he _ c _ _ mu s e1 R) (fun b' s₁ h1 => ?_) fun _ _ e => e)
    rw [h1.eq, if_neg Bool.false_ne_true]
    exact ⟨h1.rel, h1.stp, rfl⟩
  · cases hm
theorem refOr_cons {e : Expr} {es : List Expr} {m r : TM} (he : RefT cx e m) (hr : RefAnd cx .Or es r) : RefAnd cx .Or (e :: es) (tOr m r) := by
  intro vs c b c' mu s hm R
  unfold tOr at hm
  split at hm
  · rename_i c1 e1
    refine wpAny_allTrue_Or_cons (wpAny_mono (he _ c _ _ mu s e1 R) (fun b' s₁ h1 => ?_) fun _ _ e => e)
    rw [h1.eq, if_neg Bool.false_ne_true]
    exact wpAny_mono (hr _ _ _ _ mu s₁ hm h1.rel) (fun _ s₂ h2 => ⟨h2.rel, h1.stp.trans h2.stp, h2.eq⟩) fun _ _ e => e
  · rename_i c1 e1
    cases hm
    refine wpAny_allTrue_Or_cons (wpAny_mono (he _ c _ _ mu s e1 R) (fun b' s₁ h1 => ?_) fun _ _ e => e)
    rw [h1.eq, if_pos rfl]
    exact ⟨h1.rel, h1.stp, rfl⟩
  · cases hm
theorem refT_bool {op : BoolOp} {es : List Expr} {pos : Pos} {m : TM} (h : RefAnd cx op es m) : RefT cx (.BoolOp op es pos) m := by
  intro vs c b c' mu s hm R
  exact wpAny_isTrue_BoolOp (h vs c b c' mu s hm R)

def sIf (t : TM) (a b : SM) : SM := fun vs c => match t vs c with
  | some (true, c') => a vs c'
  | some (false, c') => b vs c'
  | none => none
theorem refS_if {e : Expr} {a b : List Stmt} {pos : Pos} {t : TM} {ma mb : SM} (he : RefT cx e t) (ha : RefB cx a ma) (hb : RefB cx b mb) : RefS cx (.If e a b pos) (sIf t ma mb) := by
  intro vs c fl vs' c' mu s hm R
  unfold sIf at hm
  split at hm
  · rename_i c1 e1
    refine wpAny_If (wpAny_mono (he _ c _ _ mu s e1 R) (fun b' s₁ h1 => ?_) fun _ _ e => e)
    rw [h1.eq, if_pos rfl]
    exact wpAny_mono (ha _ _ _ _ _ mu s₁ hm h1.rel) (fun _ s₂ h2 => ⟨h2.rel, (Stp.toS h1.stp).trans h2.stp, h2.flow⟩) fun _ _ e => e
  · rename_i c1 e1
    refine wpAny_If (wpAny_mono (he _ c _ _ mu s e1 R) (fun b' s₁ h1 => ?_) fun _ _ e => e)
    rw [h1.eq, if_neg Bool.false_ne_true]
    exact wpAny_mono (hb _ _ _ _ _ mu s₁ hm h1.rel) (fun _ s₂ h2 => ⟨h2.rel, (Stp.toS h1.stp).trans h2.stp, h2.flow⟩) fun _ _ e => e
  · cases hm
end
end Mine
end
section
open PySem PySem.Calls PySem.W PyProof.Rows
set_option Elab.async false
set_option maxRecDepth 100000
namespace Mine

/-- a step that changes the iterator alone -/
structure ItStp (I : Addr) (s s' : Shared) : Prop where
  same : ∃ h tk, s' = { s with heap := h, toks := tk }
  keep : ∀ b o, b ≠ I → s.heap.get? b = some o → s'.heap.get? b = some o
theorem ItStp.refl (I : Addr) (s : Shared) : ItStp I s s := ⟨⟨_, _, rfl⟩, fun _ _ _ e => e⟩
theorem ItStp.trans {I : Addr} {s s' s'' : Shared} (a : ItStp I s s') (b : ItStp I s' s'') : ItStp I s s'' := by
  obtain ⟨⟨h, tk, rfl⟩, k⟩ := a
  obtain ⟨⟨h', tk', rfl⟩, k'⟩ := b
  exact ⟨⟨_, _, rfl⟩, fun b o n e => k' b o n (k b o n e)⟩

/-- an iterator at I over the data -/
structure Iter (w : World) (A : Around) (target : Expr) (Pk : Addr → Prop) (I : Addr) (ds : List D) (St : Nat → Heap → Prop) : Prop where
  fld : ∀ i h, St i h → ∃ o vs, h.get? I = some o ∧ o.data = .fields vs
  frame : ∀ i h h', St i h → (∀ o, h.get? I = some o → h'.get? I = some o) → (∀ b o, Pk b → NF o → h.get? b = some o → h'.get? b = some o) → St i h'
  item : ∀ i (s : Shared) d, St i s.heap → ds[i]? = some d → wpAny (model prog w) A (pyNext (.ref I)) (fun r s₁ => ∃ v, r = some v ∧
    wpAny (model prog w) A (letOwnedTupleGo target (.ref I) v) (fun _ s₂ => ItStp I s s₂ ∧ St (i + 1) s₂.heap ∧ Rd w (orNew Pk s) s₂.heap d v) NoE s₁) NoE s
  done : ∀ (s : Shared), St ds.length s.heap → wpAny (model prog w) A (pyNext (.ref I)) (fun r s₁ => r = none ∧ ItStp I s s₁) NoE s

section
variable {cx : Cx} {n : Nat} {mu : Mu}
/-- the activation does not see the iterator turn -/
theorem Rel.it {vs : Vars} {c : MU} {s s' : Shared} {I : Addr} (R : Rel cx vs mu c s) (k : ItStp I s s') (hf : ∃ o vs, s.heap.get? I = some o ∧ o.data = .fields vs)
    (off : cx.offFrame I) (hmu : ¬ inMu mu I) (hI : cx.s₀.heap.get? I = none) : Rel cx vs mu c s' := by
  obtain ⟨m, cm, F, hv⟩ := R.frm
  obtain ⟨oI, fv, hoI, hdI⟩ := hf
  have nf : ∀ b o, NF o → s.heap.get? b = some o → s'.heap.get? b = some o := fun b o h e => k.keep b o (fun hb => by subst hb; rw [hoI] at e; cases e; exact h _ hdI) e
  refine ⟨⟨m, cm, ⟨?_, ?_, ?_, ?_⟩, ?_⟩, ?_, R.out, R.fresh, R.base⟩
  · obtain ⟨h, tk, e⟩ := F.same
    obtain ⟨h', tk', e'⟩ := k.same
    exact ⟨h', tk', by rw [e', e]⟩
  · obtain ⟨o, es, ep, ho, r⟩ := F.ns
    exact ⟨o, es, ep, k.keep _ _ (Ne.symm off.1) ho, r⟩
  · intro b o e
    exact k.keep b o (fun q => by subst q; rw [hI] at e; cases e) (F.keep b o e)
  · intro y ca hy
    obtain ⟨o, ho, hd⟩ := F.cell y ca hy
    exact ⟨o, k.keep _ _ (Ne.symm (off.2 y ca hy)) ho, hd⟩
  · intro i x b d h1 h2
    obtain ⟨v, hv1, hv2⟩ := hv i x b d h1 h2
    exact ⟨v, hv1, hv2.mono fun b o hb hn e => ⟨hb, nf b o hn e⟩⟩
  · exact R.mobj.mono (fun b o hb hn e => ⟨hb, nf b o hn e⟩) fun b o _ hn e => nf b o hn e

/-! targets -/
abbrev TgM := D → Vars → Option Vars
def RefTg (cx : Cx) (t : Expr) (m : TgM) : Prop :=
  ∀ d vs vs' c mu s v, m d vs = some vs' → Rel cx vs mu c s → Rd cx.w (cx.Ok mu) s.heap d v → wpAny (model prog cx.w) cx.A (assign t cx.env v) (fun _ s' => Rel cx vs' mu c s' ∧ StpS cx mu s s') NoE s
def tgName (i : Nat) : TgM := fun d vs => some (vs.set i (some (.d d)))
theorem refTg_name (G : Good n cx) (O : Own cx) {x : Str} {pos : Pos} {i : Nat} {b : Bool} (hi : cx.vs[i]? = some (x, b)) (hk : cx.env.kindOf x = some (if b then .cell else .local))
    (hc : b = true → (cx.env.cells.lookup x).isSome = true := by intro h; first | (cases h; done) | rfl) : RefTg cx (.Name x pos) (tgName i) := by
  intro d vs vs' c mu s v hm R rv
  cases hm
  exact wpAny_assign_Name (R.store (d := .d d) G O hi hk hc rv)

abbrev TgsM := List D → Vars → Option Vars
structure RefTgs (cx : Cx) (es : List Expr) (m : TgsM) : Prop where
  star : (assignEach es cx.env).findIdx? (·.1) = none
  len : (assignEach es cx.env).length = es.length
  ok : ∀ ds vs vs', m ds vs = some vs' → ds.length = es.length
  run : ∀ ds vs vs' c mu s vals, m ds vs = some vs' → Rel cx vs mu c s → Rds cx.w (cx.Ok mu) s.heap ds vals →
    wpAny (model prog cx.w) cx.A (assignInOrder ((assignEach es cx.env).map (·.2)) vals) (fun _ s' => Rel cx vs' mu c s' ∧ StpS cx mu s s') NoE s
def tgNil : TgsM := fun ds vs => match ds with
  | [] => some vs
  | _ => none
def tgCons (a : TgM) (r : TgsM) : TgsM := fun ds vs => match ds with
  | d :: ds => (match a d vs with
    | some vs1 => r ds vs1
    | none => none)
  | [] => none
theorem refTgs_nil : RefTgs cx [] tgNil where
  star := rfl
  len := rfl
  ok := fun ds vs vs' h => by cases ds <;> first | rfl | cases h
  run := by
    intro ds vs vs' c mu s vals hm R rv
    cases ds with
    | nil =>
      cases hm
      rw [rv.nil_inv]
      exact wpAny_assignInOrder_none ⟨R, StpS.refl s⟩
    | cons => cases hm
theorem Rds.stpS {s s' : Shared} {ds : List D} {vals : List Value} (x : Rds cx.w (cx.Ok mu) s.heap ds vals) (k : StpS cx mu s s') : Rds cx.w (cx.Ok mu) s'.heap ds vals :=
  x.mono fun b o hb _ e => ⟨hb, k.keep b o hb.off.1 hb.off.2 e⟩
theorem Rd.stpS {s s' : Shared} {ds : D} {vals : Value} (x : Rd cx.w (cx.Ok mu) s.heap ds vals) (k : StpS cx mu s s') : Rd cx.w (cx.Ok mu) s'.heap ds vals :=
  x.mono fun b o hb _ e => ⟨hb, k.keep b o hb.off.1 hb.off.2 e⟩
theorem refTgs_cons {e : Expr} {es : List Expr} {a : TgM} {r : TgsM} (ha : RefTg cx e a) (hr : RefTgs cx es r) (hs : assignEach (e :: es) cx.env = (false, assign e cx.env) :: assignEach es cx.env := by rfl) :
    RefTgs cx (e :: es) (tgCons a r) where
  star := by rw [hs, List.findIdx?_cons, hr.star]; rfl
  len := by rw [hs]; simp [hr.len]
  ok := by
    intro ds vs vs' hm
    cases ds with
    | nil => cases hm
    | cons d ds =>
      unfold tgCons at hm
      dsimp only at hm
      split at hm
      · simp [hr.ok _ _ _ hm]
      · cases hm
  run := by
    intro ds vs vs' c mu s vals hm R rv
    cases ds with
    | nil => cases hm
    | cons d ds =>
      obtain ⟨v, rest, rfl, hd, hrest⟩ := rv.cons_inv
      unfold tgCons at hm
      dsimp only at hm
      split at hm
      · rename_i vs1 e1
        rw [hs]
        refine assignInOrder_cons (wpAny_mono (ha d vs vs1 c mu s v e1 R hd) (fun _ s₁ h1 => ?_) fun _ _ e => e)
        exact wpAny_mono (hr.run ds vs1 vs' c mu s₁ rest hm h1.1 (hrest.stpS h1.2)) (fun _ s₂ h2 => ⟨h2.1, h1.2.trans h2.2⟩) fun _ _ e => e
      · cases hm
def tgTup (m : TgsM) : TgM := fun d vs => match d with
  | .tup ds => m ds vs
  | _ => none
theorem refTg_tup (G : Good n cx) {es : List Expr} {k : Nat} {pos : Pos} {m : TgsM} (h : RefTgs cx es m) : RefTg cx (.Tuple es k pos) (tgTup m) := by
  intro d vs vs' c mu s v hm R rv
  unfold tgTup at hm
  split at hm
  · rename_i ds
    obtain ⟨a, vals, nn, rfl, hp, hg, hr⟩ := rd_tup rv
    have hT : s.heap.IsTuple a vals.toArray := ⟨_, hg, rfl, nn, rfl⟩
    refine wpAny_assign_Tuple G.room.handled hT (by rw [h.len]; simp [hr.length, h.ok _ _ _ hm]) h.star fun h' he => ?_
    have hp : Pur s { s with heap := h' } := Pur.of fun b o e => he b o (Nat.ne_of_lt (Heap.lt_size e)) e
    exact wpAny_mono (h.run ds vs vs' c mu _ vals hm (R.pur hp) (hr.pur hp)) (fun _ s₂ h2 => ⟨h2.1, (Stp.toS (hp.stp mu)).trans h2.2⟩) fun _ _ e => e
  · cases hm

theorem Rel.size {vs : Vars} {c : MU} {s : Shared} (R : Rel cx vs mu c s) : cx.s₀.heap.objs.size ≤ s.heap.objs.size :=
  let ⟨_, _, F, _⟩ := R.frm; Nat.le_trans R.fresh (Nat.le_of_lt F.ns.lt)
theorem Rel.gone {vs : Vars} {c : MU} {s : Shared} (R : Rel cx vs mu c s) {b : Addr} (h : s.heap.get? b = none) : cx.s₀.heap.get? b = none := by
  obtain ⟨m, cm, F, _⟩ := R.frm
  cases e : cx.s₀.heap.get? b with
  | none => rfl
  | some o => rw [F.keep b o e] at h; cases h
/-- a place new after a step was new ahead of it -/
theorem Rel.newAt {vs : Vars} {c : MU} {s s₁ : Shared} (R : Rel cx vs mu c s₁) (k : Stp mu s s₁) {b : Addr} (hb : s₁.heap.objs.size ≤ b) : s.heap.get? b = none := by
  cases e : s.heap.get? b with
  | none => rfl
  | some o => exact absurd (Heap.lt_size (k.keep b o (R.okNew hb).off.1 e)) (Nat.not_lt.mpr hb)

/-! where a for-loop draws from -/
def SelfIt (w : World) (A : Around) (I : Addr) (St : Nat → Heap → Prop) : Prop := ∀ i (s : Shared) (E : Value → Shared → Prop) (Q : Value → Shared → Prop), St i s.heap → Q (.ref I) s → wpAny (model prog w) A (pyIter (.ref I)) Q E s
abbrev IM := Vars → MU → Option (List D × MU)
structure PostI (cx : Cx) (b : Bool) (target : Expr) (vs : Vars) (mu : Mu) (c' : MU) (s : Shared) (ds : List D) (it : Value) (s' : Shared) : Prop where
  rel : Rel cx vs mu c' s'
  stp : Stp mu s s'
  iter : ∃ I St, it = .ref I ∧ s.heap.get? I = none ∧ cx.Ok mu I ∧ I < s'.heap.objs.size ∧ Iter cx.w cx.A target (fun b => cx.Ok mu b ∧ b < s'.heap.objs.size) I ds St ∧ St 0 s'.heap ∧ (b = true → SelfIt cx.w cx.A I St)
def RefI (cx : Cx) (b : Bool) (target : Expr) (e : Expr) (m : IM) : Prop :=
  ∀ vs c ds c' mu s, m vs c = some (ds, c') → Rel cx vs mu c s → wpAny (model prog cx.w) cx.A (eval e cx.env) (fun x s₁ => wpAny (model prog cx.w) cx.A (pyIter x) (PostI cx b target vs mu c' s ds) NoE s₁) NoE s

def forM (tg : TgM) (body : SM) : List D → SM
  | [], vs, c => some (.next, vs, c)
  | d :: ds, vs, c => match tg d vs with
    | some vs1 => (match body vs1 c with
      | some (.next, vs2, c2) => forM tg body ds vs2 c2
      | some (.ret d, vs2, c2) => some (.ret d, vs2, c2)
      | none => none)
    | none => none
def sFor (im : IM) (tg : TgM) (body : SM) : SM := fun vs c => match im vs c with
  | some (ds, c') => forM tg body ds vs c'
  | none => none

theorem refS_for {target iter : Expr} {body : List Stmt} {pos : Pos} {im : IM} {tg : TgM} {bm : SM} {sb : Bool} (hi : RefI cx sb target iter im) (ht : RefTg cx target tg) (hb : RefB cx body bm)
    (hs : ∀ x, foldedSetIterable iter cx.env x = pure x := by intro _; rfl) : RefS cx (.For target iter body [] pos) (sFor im tg bm) := by
  intro vs c fl vs' c' mu s hm R
  unfold sFor at hm
  split at hm
  · rename_i ds c1 e1
    refine wpAny_For (wpAny_mono (hi vs c ds c1 mu s e1 R) (fun x s₁ h1 => wpAny_mono h1 (fun it s₂ h2 => ?_) fun _ _ e => e) fun _ _ e => e) hs
    obtain ⟨R2, k2, I, St, rfl, hIs, hOk, _, J, hSt, _⟩ := h2
    have hI0 : cx.s₀.heap.get? I = none := R.gone hIs
    have key : ∀ (f : Flow) s', PostS cx mu s fl vs' c' f s' → (match (Except.ok f : Result) with | .ok f => PostS cx mu s fl vs' c' f s' | .error e => cameBackBy (model prog cx.w) cx.A cx.env NoE e s') := fun f s' h => h
    refine codeAny_forLoop_any (R := fun r s' => match r with | .ok f => PostS cx mu s fl vs' c' f s' | .error e => cameBackBy (model prog cx.w) cx.A cx.env NoE e s')
      (fun k s' => ∃ i vsi ci, i + k = ds.length ∧ forM tg bm (ds.drop i) vsi ci = some (fl, vs', c') ∧ Rel cx vsi mu ci s' ∧ StpS cx mu s s' ∧ St i s'.heap) (fun k s' hI => ?_) ds.length
      ⟨0, vs, c1, Nat.zero_add _, by simpa using hm, R2, Stp.toS k2, hSt⟩
    obtain ⟨i, vsi, ci, hik, hf, Ri, ki, hSti⟩ := hI
    by_cases hlt : i < ds.length
    · have hdi : ds[i]? = some ds[i] := List.getElem?_eq_getElem hlt
      have hdrop : ds.drop i = ds[i] :: ds.drop (i + 1) := List.drop_eq_getElem_cons hlt
      rw [hdrop] at hf
      unfold forM at hf
      split at hf
      · rename_i vs1 et
        refine wpAny_mono (J.item i s' _ hSti hdi) (fun r s₁ h => ?_) fun _ _ e => e.elim
        obtain ⟨v, rfl, hv⟩ := h
        refine wpAny_mono hv (fun _ s₂ h => ?_) fun _ _ e => e.elim
        obtain ⟨kI, hSt1, hd⟩ := h
        have R2 := Ri.it kI (J.fld _ _ hSti) hOk.off.2 hOk.off.1 hI0
        have hd' : Rd cx.w (cx.Ok mu) s₂.heap ds[i] v := hd.mono fun b o hb _ e => ⟨hb.elim (fun q => q.1) fun q => Ri.okNew q, e⟩
        have kS : StpS cx mu s s₂ := ⟨by obtain ⟨_, _, a⟩ := ki.same; obtain ⟨_, _, b⟩ := kI.same; exact ⟨_, _, by rw [b, a]⟩, fun b o h1 h2 e => by
          have hbI : b ≠ I := fun q => by
            subst q
            rw [hIs] at e; cases e
          exact kI.keep b o hbI (ki.keep b o h1 h2 e)⟩
        refine wpAny_mono (ht _ vsi vs1 ci mu s₂ v et R2 hd') (fun _ s₃ h3 => ?_) fun _ _ e => e.elim
        have nfI : ∀ {s₃ s₄ : Shared}, StpS cx mu s₃ s₄ → St (i + 1) s₃.heap → St (i + 1) s₄.heap := fun {s₃ s₄} k hst =>
          J.frame _ _ _ hst (fun o e => k.keep I o hOk.off.1 hOk.off.2 e) fun b o hb _ e => k.keep b o hb.1.off.1 hb.1.off.2 e
        split at hf
        · rename_i vs2 c2 eb
          refine wpAny_mono (hb vs1 ci _ vs2 c2 mu s₃ eb h3.1) (fun f s₄ h4 => ?_) fun _ _ e => e.elim
          rw [show f = .next from h4.flow]
          exact ⟨k - 1, by omega, i + 1, vs2, c2, by omega, hf, h4.rel, (kS.trans h3.2).trans h4.stp, nfI h4.stp (nfI h3.2 hSt1)⟩
        · rename_i d vs2 c2 eb
          cases hf
          refine wpAny_mono (hb vs1 ci _ _ _ mu s₃ eb h3.1) (fun f s₄ h4 => ?_) fun _ _ e => e.elim
          obtain ⟨v', rfl, hv'⟩ := h4.flow
          exact ⟨h4.rel, (kS.trans h3.2).trans h4.stp, v', rfl, hv'⟩
        · cases hf
      · cases hf
    · have hi' : i = ds.length := by omega
      subst hi'
      rw [List.drop_of_length_le (Nat.le_refl _)] at hf
      cases hf
      refine wpAny_mono (J.done s' hSti) (fun r s₁ h => ?_) fun _ _ e => e.elim
      obtain ⟨rfl, kI⟩ := h
      have R2 := Ri.it kI (J.fld _ _ hSti) hOk.off.2 hOk.off.1 hI0
      refine wpAny_execs_nil (E := _) ⟨R2, ?_, rfl⟩
      exact ⟨by obtain ⟨_, _, a⟩ := ki.same; obtain ⟨_, _, b⟩ := kI.same; exact ⟨_, _, by rw [b, a]⟩, fun b o h1 h2 e => by
          have hbI : b ≠ I := fun q => by
            subst q
            rw [hIs] at e; cases e
          exact kI.keep b o hbI (ki.keep b o h1 h2 e)⟩
  · cases hm
end
end Mine
end
section
open PySem PySem.Calls PySem.W PyProof.Rows
set_option Elab.async false
set_option maxRecDepth 100000
namespace Mine
section
variable {w : World} {A : Around} {s : Shared}

theorem letGo_other {target : Expr} {I : Addr} {v : Value} {o : Obj} {T : String} {Q : Unit → Shared → Prop} (ho : s.heap.get? I = some o) (hc : o.cls = .type T)
    (hT : ["enumerate", "zip", "dict_itemiterator", "dict_reverseitemiterator", "odict_iterator", "itertools.zip_longest", "itertools.pairwise"].contains T = false) (hQ : Q () s) :
    wpAny (model prog w) A (letOwnedTupleGo target (.ref I) v) Q NoE s := by
  have key : ∀ a, wpAny (model prog w) A (do
      let o ← load I
      match o.cls, o.data with
      | .type n, .fields vs =>
        if ["enumerate", "zip", "dict_itemiterator", "dict_reverseitemiterator", "odict_iterator", "itertools.zip_longest", "itertools.pairwise"].contains n && vs[0]? == some (rawInt a) then
          rule "for.unpacks-the-owned-tuple"
          updateField I 0 .none
      | _, _ => pure ()) Q NoE s := by
    intro a
    refine wpAny_bind (wpAny_load ho ?_)
    rw [hc]
    cases o.data with
    | fields vs =>
      dsimp only
      rw [hT, Bool.false_and]
      exact wpAny_pure hQ
    | _ => exact wpAny_pure hQ
  unfold letOwnedTupleGo
  split
  · cases v <;> first | exact key _ | exact wpAny_pure hQ
  · cases v <;> first | exact key _ | exact wpAny_pure hQ
  · exact wpAny_pure hQ

def StList (w : World) (Pk : Addr → Prop) (I l : Addr) (ds : List D) (i : Nat) (h : Heap) : Prop :=
  h.IsListIter I l i ∧ ∃ vs n, Pk l ∧ h.get? l = some { cls := .type "list", data := .seq (vs : List Value).toArray n } ∧ Rds w Pk h ds vs
theorem iter_list {target : Expr} {Pk : Addr → Prop} {I l : Addr} {ds : List D} (hh : A.handled = none) (hI : ¬ Pk I ∨ True) : Iter w A target Pk I ds (StList w Pk I l ds) where
  fld := fun i h st => let ⟨o, ho, _, hd⟩ := st.1; ⟨o, _, ho, hd⟩
  frame := fun i h h' st hI hk => by
    obtain ⟨⟨o, ho, r⟩, vs, n, hp, hg, hr⟩ := st
    exact ⟨⟨o, hI o ho, r⟩, vs, n, hp, hk l _ hp (fun _ z => by cases z) hg, hr.mono fun b o hb hn e => ⟨hb, hk b o hb hn e⟩⟩
  item := fun i s d st hd => by
    obtain ⟨hit, vs, n, hp, hg, hr⟩ := st
    obtain ⟨v, hv, hdv⟩ := hr.get hd
    have hne : l ≠ I := fun e => by
      subst e
      obtain ⟨o, ho, hc, _⟩ := hit
      rw [hg] at ho; cases ho; injection hc with hc; exact absurd hc (by decide)
    have nf : ∀ {h' : Heap}, Heap.SameBut I s.heap h' → ∀ b o, NF o → s.heap.get? b = some o → h'.get? b = some o := fun hs b o hn e => hs.extBut b o (fun q => by
      subst q
      obtain ⟨o', ho, hc, hdt⟩ := hit
      rw [ho] at e; cases e
      exact hn _ hdt) e
    refine wpAny_pyNext_list_item hit ⟨_, hg, rfl, n, rfl⟩ (by simpa using hv) fun h' hit' hs => ⟨v, rfl, ?_⟩
    obtain ⟨o, ho, hc, hdt⟩ := id hit'
    refine letGo_other ho hc (by decide) ⟨⟨⟨_, _, rfl⟩, fun b o hb e => hs.extBut b o hb e⟩, ⟨hit', vs, n, hp, nf hs _ _ (fun _ z => by cases z) hg, hr.mono fun b o hb hn e => ⟨hb, nf hs b o hn e⟩⟩, hdv.mono fun b o hb hn e => ⟨.inl hb, nf hs b o hn e⟩⟩
  done := fun s st => by
    obtain ⟨hit, vs, n, hp, hg, hr⟩ := st
    refine wpAny_pyNext_list_end hh hit ⟨_, hg, rfl, n, rfl⟩ (by simp [hr.length]) fun h' hs => ⟨rfl, ⟨_, _, rfl⟩, fun b o hb e => hs b o hb e⟩

def rangeD (a : Int) (n : Nat) : List D := (List.range n).map fun (k : Nat) => .int (a + (k : Int))
def StRange (I : Addr) (a : Int) (n : Nat) (i : Nat) (h : Heap) : Prop := IsRangeIter h I (a + (i : Nat)) ((n : Int) - (i : Nat)) 1
theorem iter_range {target : Expr} {Pk : Addr → Prop} {I : Addr} {a : Int} {n : Nat} (hh : A.handled = none) : Iter w A target Pk I (rangeD a n) (StRange I a n) where
  fld := fun i h st => ⟨_, _, st, rfl⟩
  frame := fun i h h' st hI hk => hI _ st
  item := fun i s d st hd => by
    have hi : i < n := by
      have := (List.getElem?_eq_some_iff.mp hd).1
      simpa [rangeD] using this
    have hd' : d = .int (a + i) := by
      simpa [rangeD, hi] using hd.symm
    subst hd'
    refine wpAny_pyNext_range_item st (by omega) fun h' hit' hs => ⟨_, rfl, ?_⟩
    have e1 : a + ((i + 1 : Nat) : Int) = a + (i : Int) + 1 := by push_cast; omega
    have e2 : (n : Int) - ((i + 1 : Nat) : Int) = (n : Int) - (i : Int) - 1 := by push_cast; omega
    refine letGo_other hit' rfl (by decide) ⟨⟨⟨_, _, rfl⟩, fun b o hb e => hs.extBut b o hb e⟩, ?_, ⟨_, rfl⟩⟩
    unfold StRange
    rw [e1, e2]; exact hit'
  done := fun s st => by
    have hl : (rangeD a n).length = n := by simp [rangeD]
    rw [hl] at st
    exact wpAny_pyNext_range_end hh st (by omega) fun h' hs => ⟨rfl, ⟨_, _, rfl⟩, fun b o hb e => hs b o hb e⟩
end

section
variable {cx : Cx} {n : Nat} {mu : Mu}
theorem refI_list (G : Good n cx) {target e : Expr} {m : EM} (he : RefE cx e m) : RefI cx true target e (fun vs c => match m vs c with
    | some (.d (.list ds), c') => some (ds, c')
    | _ => none) := by
  intro vs c ds c' mu s hm R
  dsimp only at hm
  split at hm
  · rename_i ds' c1 e1
    cases hm
    refine wpAny_mono (he vs c _ _ mu s e1 R) (fun x s₁ h1 => ?_) fun _ _ e => e
    obtain ⟨R1, k1, v1⟩ := h1
    obtain ⟨a, vals, nn, rfl, hp, hg, hr⟩ := rd_list v1
    refine wpAny_pyIter_list ⟨_, hg, rfl, nn, rfl⟩ ?_
    have hpur : Pur s₁ { s₁ with heap := s₁.heap.push { cls := .type "list_iterator", data := .fields #[.ref a, .int 0 0] } } := Pur.push s₁ _ s₁.toks
    have fr := R.okNew (Nat.le_refl _)
    have hs : s₁.heap.objs.size < (s₁.heap.push { cls := .type "list_iterator", data := .fields #[.ref a, .int 0 0] }).objs.size := by rw [Heap.size_push]; exact Nat.lt_succ_self _
    refine ⟨R1.pur hpur, k1.trans (hpur.stp mu), s₁.heap.objs.size, StList cx.w (fun b => cx.Ok mu b ∧ b < (s₁.heap.push { cls := .type "list_iterator", data := .fields #[.ref a, .int 0 0] }).objs.size) s₁.heap.objs.size a ds, rfl, R1.newAt k1 (Nat.le_refl _), R1.okNew (Nat.le_refl _), hs, iter_list G.room.handled (.inr trivial),
      ⟨⟨_, Heap.get?_push_size _ rfl, rfl, rfl⟩, vals, nn, ⟨hp, Nat.lt_trans (Heap.lt_size hg) hs⟩, hpur.keep _ _ hg, hr.mono fun b o hb _ e => ⟨⟨hb, Nat.lt_trans (Heap.lt_size e) hs⟩, hpur.keep b o e⟩⟩, fun _ i s' E Q st hQ => wpAny_pyIter_listiter st.1 hQ⟩
  · cases hm

def rangeOf : List D → Option (List D)
  | [.int b] => if -1000 ≤ b ∧ b ≤ 1000 then some (rangeD 0 b.toNat) else none
  | [.int a, .int b] => if (-1000 ≤ a ∧ a ≤ 1000) ∧ -1000 ≤ b ∧ b ≤ 1000 then some (rangeD a (b - a).toNat) else none
  | _ => none
def iRange (m : AM) : IM := fun vs c => match m vs c with
  | some (ds, c') => (match rangeOf ds with
    | some r => some (r, c')
    | none => none)
  | none => none
theorem range_at {w : World} {A : Around} {s : Shared} {Pk : Addr → Prop} {target : Expr} {ds r : List D} {vals : List Value} (hh : A.handled = none) (hr : Rds w Pk s.heap ds vals) (hf : rangeOf ds = some r) {Q : Value → Shared → Prop}
    (h : ∀ s' I St, Pur s s' → s.heap.objs.size ≤ I → I < s'.heap.objs.size → (∀ Pk, Iter w A target Pk I r St) → St 0 s'.heap → SelfIt w A I St → Q (.ref I) s') :
    wpAny (model prog w) A (call (.type "range") vals) (fun x s₁ => wpAny (model prog w) A (pyIter x) Q NoE s₁) NoE s := by
  have fin : ∀ (a b : Int) (t u v : Tok) (tk : Nat), -1000 ≤ a → a ≤ 1000 → -1000 ≤ b → b ≤ 1000 → rangeD a (b - a).toNat = r →
      wpAny (model prog w) A (pyIter (.ref s.heap.objs.size)) Q NoE { s with heap := s.heap.push { cls := .type "range", data := .fields #[.int a t, .int b u, .int 1 v] }, toks := tk } := by
    intro a b t u v tk h1 h2 h3 h4 e
    refine wpAny_pyIter_range (IsRange.new ..) (small_one (by omega) (by omega) (by omega) (by omega)) ?_
    refine h _ _ (StRange _ a (b - a).toNat) ?_ ?_ ?_ (fun Pk => e ▸ iter_range hh) ?_ (fun i s' E Q st hQ => wpAny_pyIter_rangeiter st hQ)
    · exact (Pur.push s _ tk).trans (Pur.push _ _ tk)
    · show s.heap.objs.size ≤ (s.heap.push _).objs.size
      rw [Heap.size_push]; omega
    · show (s.heap.push _).objs.size < ((s.heap.push _).push _).objs.size
      simp only [Heap.size_push]; omega
    · show IsRangeIter _ _ _ _ _
      have e1 : a + ((0 : Nat) : Int) = a := by simp
      have e2 : (((b - a).toNat : Nat) : Int) - ((0 : Nat) : Int) = Builtin.Range.rangeSize a b 1 := by rw [rangeSize_one]; split <;> omega
      rw [e1, e2]
      exact Heap.get?_push_size _ rfl
  unfold rangeOf at hf
  split at hf
  · rename_i b
    split at hf
    · rename_i hb
      cases hf
      obtain ⟨v, rest, rfl, hv, hrest⟩ := hr.cons_inv
      rw [hrest.nil_inv]
      obtain ⟨t, rfl⟩ := rd_int hv
      exact call_range_1 (fin 0 b _ _ _ _ (by decide) (by decide) hb.1 hb.2 (by simp))
    · cases hf
  · rename_i a b
    split at hf
    · rename_i hb
      cases hf
      obtain ⟨v, rest, rfl, hv, hrest⟩ := hr.cons_inv
      obtain ⟨v', rest', rfl, hv', hrest'⟩ := hrest.cons_inv
      rw [hrest'.nil_inv]
      obtain ⟨t, rfl⟩ := rd_int hv
      obtain ⟨t', rfl⟩ := rd_int hv'
      exact call_range_2 (fin a b _ _ _ _ hb.1.1 hb.1.2 hb.2.1 hb.2.2 rfl)
    · cases hf
  · cases hf
theorem refI_range (G : Good n cx) {target : Expr} {p pos : Pos} {es : List Expr} {m : AM} (hl : Loads cx (.Name "range" p) (.type "range")) (ha : RefA cx pos es m)
    (hp : (backTo pos (starEach es cx.env)).any (·.1) = false := by rfl) : RefI cx true target (.Call (.Name "range" p) es [] pos) (iRange m) := by
  intro vs c ds c' mu s hm R
  unfold iRange at hm
  split at hm
  · rename_i args c1 e1
    split at hm
    · rename_i r e2
      cases hm
      refine wpAny_Call_NameR (hl s _ R.hb (handed_type "range" _ _ _ _ _ _ _ hp (evalArgs_A hp (wpAny_mono (ha vs c _ _ mu s e1 R) (fun vals s₁ h1 => ?_) fun _ _ e => e))))
      refine ⟨h1.rel.hb, ?_⟩
      refine range_at (target := target) G.room.handled h1.rv e2 fun s' I St k hI hI' J h0 hself => ?_
      have R' := h1.rel.pur k
      exact ⟨R', h1.stp.trans (k.stp mu), I, St, rfl, h1.rel.newAt h1.stp hI, h1.rel.okNew hI, hI', J _, h0, fun _ => hself⟩
    · cases hm
  · cases hm

/-! the pairs of a dict -/
theorem keyHash_strKind (w : World) (x : Str) : PyData.keyHash w.params x = (strKind prog w).hash x := rfl
def itemsD (es : List (List Nat × D)) : List D := es.map fun e => .tup [.str e.1, e.2]

theorem Rde.nil_inv {w : World} {P : Addr → Prop} {h : Heap} {ens : List DictEntry} (x : Rde w P h [] ens) : ens = [] := by simpa only [Rde] using x
theorem Rde.cons_inv {w : World} {P : Addr → Prop} {h : Heap} {k : List Nat} {d : D} {es : List (List Nat × D)} {ens : List DictEntry} (x : Rde w P h ((k, d) :: es) ens) :
    ∃ t v r, ens = ⟨PyData.keyHash w.params (strOf k), .str (strOf k) t, v⟩ :: r ∧ Rd w P h d v ∧ Rde w P h es r := by simpa only [Rde] using x
theorem strOf_inj {a b : List Nat} (h : strOf a = strOf b) : a = b := by
  have := Str.mk.inj h
  simpa using this
theorem Rde.pairs {w : World} {P : Addr → Prop} {h : Heap} : ∀ {es : List (List Nat × D)} {ens : List DictEntry}, Rde w P h es ens →
    ∃ kvs : List (Str × Value), Pairs (strKind prog w) ens kvs ∧ kvs.map (·.1) = es.map (fun e => strOf e.1) ∧ (∀ e ∈ ens, ∃ k, (strKind prog w).is k e.key = true ∧ e.hash = (strKind prog w).hash k) ∧
      ∀ (i : Nat) k d, es[i]? = some (k, d) → ∃ v, kvs[i]? = some (strOf k, v) ∧ Rd w P h d v
  | [], _, x => by
    rw [x.nil_inv]
    exact ⟨[], .nil, rfl, (fun _ h => by cases h), (fun i k d e => by simp at e)⟩
  | (k, d) :: es, _, x => by
    obtain ⟨t, v, r, rfl, hd, hr⟩ := x.cons_inv
    obtain ⟨kvs, h1, h2, h3, h4⟩ := Rde.pairs hr
    have his : (strKind prog w).is (strOf k) (.str (strOf k) t) = true := by show (strOf k == strOf k) = true; exact beq_self_eq_true _
    refine ⟨(strOf k, v) :: kvs, .cons his rfl h1, by simp [h2], fun e he => ?_, fun i k' d' e => ?_⟩
    · rcases List.mem_cons.mp he with rfl | he
      · exact ⟨strOf k, his, rfl⟩
      · exact h3 e he
    · cases i with
      | zero => simp at e; obtain ⟨rfl, rfl⟩ := e; exact ⟨v, rfl, hd⟩
      | succ i => simpa using h4 i k' d' (by simpa using e)
theorem nodup_strs {es : List (List Nat × D)} (h : (es.map (·.1)).Nodup) : (es.map (fun e => strOf e.1)).Nodup := by
  rw [show (es.map fun e => strOf e.1) = (es.map (·.1)).map strOf by simp]
  exact List.Pairwise.map strOf (fun a b hab e => hab (strOf_inj e)) h

theorem Rde.dictAt {w : World} {P : Addr → Prop} {h : Heap} {es : List (List Nat × D)} {ens : List DictEntry} {a : Addr} {n : Nat} (x : Rde w P h es ens) (hn : (es.map (·.1)).Nodup)
    (hg : h.get? a = some { cls := .type "dict", data := .dict ens.toArray n }) :
    ∃ kvs : List (Str × Value), h.DictAt (strKind prog w) a kvs n ∧ kvs.length = es.length ∧ ∀ (i : Nat) k d, es[i]? = some (k, d) → ∃ v, kvs[i]? = some (strOf k, v) ∧ Rd w P h d v := by
  obtain ⟨kvs, h1, h2, h3, h4⟩ := x.pairs
  refine ⟨kvs, ⟨_, ens.toArray, hg, ⟨rfl, rfl, rfl⟩, rfl, ?_, by simpa using h1, by rw [h2]; exact nodup_strs hn⟩, ?_, h4⟩
  · intro e he; exact h3 e (by simpa using he)
  · have := congrArg List.length h2; simpa using this

def StItems (w : World) (Pk : Addr → Prop) (I d : Addr) (es : List (List Nat × D)) (i : Nat) (h : Heap) : Prop :=
  ∃ ok ov ens ep, IsItemIter h I d i es.length ep ok ov ∧ Pk d ∧ h.get? d = some { cls := .type "dict", data := .dict (ens : List DictEntry).toArray ep } ∧ Rde w Pk h es ens
theorem iter_items {w : World} {A : Around} {elts : List Expr} {x1 : Nat} {pos : Pos} {Pk : Addr → Prop} {I d : Addr} {es : List (List Nat × D)} (hh : A.handled = none) (hn : (es.map (·.1)).Nodup) :
    Iter w A (.Tuple elts x1 pos) Pk I (itemsD es) (StItems w Pk I d es) where
  fld := fun i h st => let ⟨_, _, _, _, ho, _⟩ := st; ⟨_, _, ho, rfl⟩
  frame := fun i h h' st hI hk => by
    obtain ⟨ok, ov, ens, ep, hit, hp, hg, hr⟩ := st
    exact ⟨ok, ov, ens, ep, hI _ hit, hp, hk d _ hp (fun _ z => by cases z) hg, hr.mono fun b o hb hn e => ⟨hb, hk b o hb hn e⟩⟩
  item := fun i s dd st hd => by
    obtain ⟨ok, ov, ens, ep, hit, hp, hg, hr⟩ := st
    obtain ⟨kvs, hat, hlen, hget⟩ := hr.dictAt hn hg
    obtain ⟨⟨k, x⟩, hx, rfl⟩ : ∃ e, es[i]? = some e ∧ dd = .tup [.str e.1, e.2] := by
      rw [itemsD, List.getElem?_map] at hd
      cases he : es[i]? with
      | none => rw [he] at hd; cases hd
      | some e => rw [he] at hd; cases hd; exact ⟨e, rfl, rfl⟩
    obtain ⟨v, hv, hdv⟩ := hget i k x hx
    rw [← hlen] at hit
    refine wpAny_pyNext_items_item hit hat hv fun key h' hkey hout htup hsz hkeep => ⟨_, rfl, ?_⟩
    obtain ⟨t, rfl⟩ := Value.isStrOf_shape hkey
    refine wpAny_letOwnedTupleGo_items hout fun h'' hit'' hs'' => ?_
    have nf : ∀ b o, NF o → s.heap.get? b = some o → h''.get? b = some o := fun b o hn e => by
      have hb : b ≠ I := fun q => by
        subst q
        rw [hit] at e; cases e
        exact hn _ rfl
      exact hs''.extBut b o hb (hkeep b o hb e)
    refine ⟨⟨⟨_, _, rfl⟩, fun b o hb e => hs''.extBut b o hb (hkeep b o hb e)⟩, ⟨_, _, ens, ep, hlen ▸ hit'', hp, nf _ _ (fun _ z => by cases z) hg, hr.mono fun b o hb hn e => ⟨hb, nf b o hn e⟩⟩, ?_⟩
    simp only [Rd]
    have hdv' := hdv.mono (P' := orNew Pk s) (h' := h'') fun b o hb hn e => ⟨.inl hb, nf b o hn e⟩
    refine ⟨_, _, 0, rfl, .inr (Nat.le_refl _), hs''.extBut _ _ ?_ htup, Rds.cons ⟨t, rfl⟩ (Rds.cons hdv' Rds.nil)⟩
    exact Nat.ne_of_gt (Heap.lt_size hit)
  done := fun s st => by
    obtain ⟨ok, ov, ens, ep, hit, hp, hg, hr⟩ := st
    obtain ⟨kvs, hat, hlen, hget⟩ := hr.dictAt hn hg
    have hl : (itemsD es).length = es.length := by simp [itemsD]
    rw [hl, ← hlen] at hit
    exact wpAny_pyNext_items_end hh hit hat (by simp) fun h' hs => ⟨rfl, ⟨_, _, rfl⟩, fun b o hb e => hs b o hb e⟩
end
end Mine
namespace Mine
section
variable {cx : Cx} {n : Nat} {mu : Mu}
def iItems (m : EM) : IM := fun vs c => match m vs c with
  | some (.d (.dict es), c') => if (es.map (·.1)).Nodup then some (itemsD es, c') else none
  | _ => none
theorem refI_items (G : Good n cx) {elts : List Expr} {x1 : Nat} {tp apos pos p : Pos} {x : Str} {i : Nat} {b : Bool} (hi : cx.vs[i]? = some (x, b)) (hk : cx.env.kindOf x = some (if b then .cell else .local))
    (hc : b = true → (cx.env.cells.lookup x).isSome = true := by intro h; first | (cases h; done) | rfl)
    (hbase : attributeBase (.Name x p) "items" cx.env (eval (.Name x p) cx.env) = eval (.Name x p) cx.env := by rfl) (hline : (apos.endLine == pos.line) = true := by rfl) (hd : (x == ("__debug__" : Str)) = false := by decide) :
    RefI cx false (.Tuple elts x1 tp) (.Call (.Attribute (.Name x p) "items" apos) [] [] pos) (iItems (eVar i)) := by
  intro vs c ds c' mu s hm R
  unfold iItems at hm
  split at hm
  · rename_i es c1 e1
    split at hm
    · rename_i hn
      cases hm
      unfold eVar at e1
      split at e1
      · rename_i d' e0
        cases e1
        have ho : wpAny (model prog cx.w) cx.A (loadName cx.env x) (fun v s' => s' = s ∧ RV cx.w (cx.Ok mu) mu s.heap (.d (.dict es)) v) NoE s := loadVar G R hi hk hc e0
        obtain ⟨m, cm, F, hv⟩ := R.frm
        obtain ⟨v, h1, h2⟩ := hv i x b _ hi e0
        have h2' : Rd cx.w (cx.Ok mu) s.heap (.dict es) v := h2
        obtain ⟨a, ens, ep, rfl, hp, hne, hg, hr⟩ := rd_dict h2'
        obtain ⟨kvs, hat, hlen, hget⟩ := hr.dictAt hn hg
        have hoo : ∀ Q', Q' (.ref a) s → wpAny (model prog cx.w) cx.A (eval (.Name x p) cx.env) Q' NoE s := by
          intro Q' hQ
          refine wpAny_Name ?_ hd
          cases b with
          | false => exact wpAny_loadName_local G.kind (by simpa using hk) F.ns h1 hQ
          | true =>
            obtain ⟨ca, hca⟩ := Option.isSome_iff_exists.mp (hc rfl)
            refine wpAny_loadName_cell G.kind (by simpa using hk) hca ?_ hQ
            have := F.cell x ca hca
            rwa [show cm x = some _ from h1] at this
        refine wpAny_Call_items (knd := strKind prog cx.w) hne hat.dictOf hbase hline hoo ?_
        refine wpAny_pyIter_items (knd := strKind prog cx.w) (kvs := kvs) (ep := ep) ⟨_, Heap.get?_push_size _ rfl, rfl, rfl⟩ (hat.push _) ?_
        have hpur : Pur s { s with heap := (s.heap.push { cls := .type "dict_items", data := .fields #[.ref a] }).push { cls := .type "dict_itemiterator", data := .fields #[.none, .bool false, .ref a, .int 0 0, .int kvs.length 0, .int ep 0, .none, .none] } } :=
          Pur.of fun b o e => Heap.get?_push_of_some _ (Heap.get?_push_of_some _ e)
        have hle : s.heap.objs.size ≤ (s.heap.push { cls := .type "dict_items", data := .fields #[.ref a] }).objs.size := by rw [Heap.size_push]; omega
        have z := hlen
        have hlt : (s.heap.push { cls := .type "dict_items", data := .fields #[.ref a] }).objs.size < ((s.heap.push { cls := .type "dict_items", data := .fields #[.ref a] }).push { cls := .type "dict_itemiterator", data := .fields #[.none, .bool false, .ref a, .int 0 0, .int kvs.length 0, .int ep 0, .none, .none] }).objs.size := by
          simp only [Heap.size_push]; omega
        refine ⟨R.pur hpur, hpur.stp mu, _, StItems cx.w (fun b => cx.Ok mu b ∧ b < ((s.heap.push { cls := .type "dict_items", data := .fields #[.ref a] }).push { cls := .type "dict_itemiterator", data := .fields #[.none, .bool false, .ref a, .int 0 0, .int kvs.length 0, .int ep 0, .none, .none] }).objs.size) _ a es, rfl, R.newAt (Stp.refl mu s) hle, R.okNew hle, hlt, iter_items G.room.handled hn, ?_, fun h => by cases h⟩
        refine ⟨.none, .none, ens, ep, ?_, ⟨hp, Nat.lt_of_lt_of_le (Heap.lt_size hg) (Nat.le_of_lt (Nat.lt_of_le_of_lt hle hlt))⟩, hpur.keep _ _ hg, hr.mono fun b o hb _ e => ⟨⟨hb, Nat.lt_of_lt_of_le (Heap.lt_size e) (Nat.le_of_lt (Nat.lt_of_le_of_lt hle hlt))⟩, hpur.keep b o e⟩⟩
        rw [← hlen]
        exact Heap.get?_push_size _ rfl
      · cases e1
    · cases hm
  · cases hm
end
end Mine
end
section
open PySem PySem.Calls PySem.W PyProof.Rows PySem.Builtin.Str
set_option Elab.async false
set_option maxRecDepth 100000
namespace Mine

theorem strOf_append (x y : List Nat) : strOf x ++ strOf y = strOf (x ++ y) := by
  show Str.append _ _ = _
  simp [Str.append, strOf]
theorem strOf_length (x : List Nat) : (strOf x).length = x.length := by simp [Str.length]
theorem strOf_beq (x y : List Nat) : (strOf x == strOf y) = (x == y) := by
  rw [Bool.eq_iff_iff, beq_iff_eq, beq_iff_eq]
  exact ⟨strOf_inj, fun h => by rw [h]⟩
theorem line_le {k : Nat} (h : k ≤ 1000) : k ≤ sizeLine := Nat.le_trans h (by decide)

/-- two arguments -/
theorem Rds.two {w : World} {P : Addr → Prop} {h : Heap} {x y : D} {vals : List Value} (r : Rds w P h [x, y] vals) : ∃ a b, vals = [a, b] ∧ Rd w P h x a ∧ Rd w P h y b := by
  obtain ⟨a, rest, rfl, ha, hr⟩ := r.cons_inv
  obtain ⟨b, rest', rfl, hb, hr'⟩ := hr.cons_inv
  rw [hr'.nil_inv]
  exact ⟨a, b, rfl, ha, hb⟩
theorem Rds.one {w : World} {P : Addr → Prop} {h : Heap} {x : D} {vals : List Value} (r : Rds w P h [x] vals) : ∃ a, vals = [a] ∧ Rd w P h x a := by
  obtain ⟨a, rest, rfl, ha, hr⟩ := r.cons_inv
  rw [hr.nil_inv]
  exact ⟨a, rfl, ha⟩
theorem Rds.three {w : World} {P : Addr → Prop} {h : Heap} {x y z : D} {vals : List Value} (r : Rds w P h [x, y, z] vals) : ∃ a b c, vals = [a, b, c] ∧ Rd w P h x a ∧ Rd w P h y b ∧ Rd w P h z c := by
  obtain ⟨a, rest, rfl, ha, hr⟩ := r.cons_inv
  obtain ⟨b, c, rfl, hb, hc⟩ := hr.two
  exact ⟨a, b, c, rfl, ha, hb, hc⟩

/-- the answer of a tree that makes a list -/
theorem post_list {w : World} {P : Addr → Prop} {s : Shared} {ds : List D} {vs : List Value} {tk : Nat} (hr : Rds w P s.heap ds vs) :
    Pur s { s with heap := s.heap.push { cls := .type "list", data := .seq vs.toArray }, toks := tk } ∧
      Rd w (orNew P s) (s.heap.push { cls := .type "list", data := .seq vs.toArray }) (.list ds) (.ref s.heap.objs.size) := by
  refine ⟨Pur.push .., ?_⟩
  simp only [Rd]
  exact ⟨_, vs, 0, rfl, .inr (Nat.le_refl _), Heap.get?_push_size _ rfl, hr.mono fun b o hb _ e => ⟨.inl hb, Heap.get?_push_of_some _ e⟩⟩
theorem post_old {w : World} {P : Addr → Prop} {s : Shared} {d : D} {v : Value} {tk : Nat} (hr : Rd w P s.heap d v) : Pur s { s with toks := tk } ∧ Rd w (orNew P s) s.heap d v :=
  ⟨Pur.tok .., hr.mono fun b o hb _ e => ⟨.inl hb, e⟩⟩
theorem post_str {w : World} {P : Addr → Prop} {s : Shared} {x : List Nat} {t : Tok} {tk : Nat} : Pur s { s with toks := tk } ∧ Rd w (orNew P s) s.heap (.str x) (.str (strOf x) t) := ⟨Pur.tok .., ⟨_, rfl⟩⟩
theorem post_int {w : World} {P : Addr → Prop} {s : Shared} {x : Int} {t : Tok} {tk : Nat} : Pur s { s with toks := tk } ∧ Rd w (orNew P s) s.heap (.int x) (.int x t) := ⟨Pur.tok .., ⟨_, rfl⟩⟩
theorem post_bool {w : World} {P : Addr → Prop} {s : Shared} {x : Bool} : Pur s s ∧ Rd w (orNew P s) s.heap (.bool x) (.bool x) := ⟨Pur.refl s, rfl⟩

def fAdd : List D → Option D
  | [.int a, .int b] => some (.int (a + b))
  | [.str x, .str y] => if x.length + y.length ≤ 1000 then some (.str (x ++ y)) else none
  | [.list x, .list y] => if x.length + y.length ≤ 1000 then some (.list (x ++ y)) else none
  | _ => none
theorem spec_add : Spec 0 (tBin .Add) fAdd := by
  intro w A s P vs ds d G B hr hf
  unfold fAdd at hf
  split at hf
  · cases hf
    obtain ⟨a, b, rfl, ha, hb⟩ := hr.two
    obtain ⟨t, rfl⟩ := rd_int ha
    obtain ⟨u, rfl⟩ := rd_int hb
    exact add_int post_int
  · split at hf
    · rename_i hl
      cases hf
      obtain ⟨a, b, rfl, ha, hb⟩ := hr.two
      obtain ⟨t, rfl⟩ := rd_str ha
      obtain ⟨u, rfl⟩ := rd_str hb
      refine PyProof.Rows.add_str (fun t' tk => ?_) (by simp only [strOf_length]; exact line_le hl)
      rw [strOf_append]
      exact post_str
    · cases hf
  · split at hf
    · rename_i hl
      cases hf
      obtain ⟨a, b, rfl, ha, hb⟩ := hr.two
      obtain ⟨a, va, na, rfl, hpa, hga, hra⟩ := rd_list ha
      obtain ⟨b, vb, nb, rfl, hpb, hgb, hrb⟩ := rd_list hb
      refine PySem.P.add_list hga hgb ?_ (by simp only [List.size_toArray, hra.length, hrb.length]; exact line_le hl)
      rw [show va.toArray ++ vb.toArray = (va ++ vb).toArray by simp]
      exact post_list (tk := s.toks) (hra.append hrb)
    · cases hf
  · cases hf
def fSub : List D → Option D
  | [.int a, .int b] => some (.int (a - b))
  | _ => none
theorem spec_sub : Spec 0 (tBin .Sub) fSub := by
  intro w A s P vs ds d G B hr hf
  unfold fSub at hf
  split at hf
  · cases hf
    obtain ⟨a, b, rfl, ha, hb⟩ := hr.two
    obtain ⟨t, rfl⟩ := rd_int ha
    obtain ⟨u, rfl⟩ := rd_int hb
    exact sub_int post_int
  · cases hf
def fIAdd : List D → Option D
  | [.int a, .int b] => some (.int (a + b))
  | _ => none
theorem spec_iadd : Spec 0 (tInp .Add) fIAdd := by
  intro w A s P vs ds d G B hr hf
  unfold fIAdd at hf
  split at hf
  · cases hf
    obtain ⟨a, b, rfl, ha, hb⟩ := hr.two
    obtain ⟨t, rfl⟩ := rd_int ha
    obtain ⟨u, rfl⟩ := rd_int hb
    exact iadd_int post_int
  · cases hf
def fMul2 : List D → Option D
  | [.int 2, .int b] => if b.natAbs ≤ 1000 then some (.int (2 * b)) else none
  | _ => none
theorem mulOk2 {b : Int} (h : b.natAbs ≤ 1000) : IntMulOk 2 b := IntMulOk.of_left (by decide)
theorem spec_mul2 : Spec 0 (tBin .Mult) fMul2 := by
  intro w A s P vs ds d G B hr hf
  unfold fMul2 at hf
  split at hf
  · split at hf
    · rename_i hl
      cases hf
      obtain ⟨a, b, rfl, ha, hb⟩ := hr.two
      obtain ⟨t, rfl⟩ := rd_int ha
      obtain ⟨u, rfl⟩ := rd_int hb
      exact mul_int post_int (mulOk2 hl)
    · cases hf
  · cases hf
def fDiv2 : List D → Option D
  | [.int a, .int 2] => some (.int (a.fdiv 2))
  | _ => none
theorem spec_div2 : Spec 0 (tBin .FloorDiv) fDiv2 := by
  intro w A s P vs ds d G B hr hf
  unfold fDiv2 at hf
  split at hf
  · cases hf
    obtain ⟨a, b, rfl, ha, hb⟩ := hr.two
    obtain ⟨t, rfl⟩ := rd_int ha
    obtain ⟨u, rfl⟩ := rd_int hb
    exact floordiv_int (by decide) post_int (.inl (PyProof.noPylong_small (by decide)))
  · cases hf
def fMod : List D → Option D
  | [.int a, .int b] => if b = 0 then none else some (.int (a.fmod b))
  | _ => none
theorem spec_mod : Spec 0 (tBin .Mod) fMod := by
  intro w A s P vs ds d G B hr hf
  unfold fMod at hf
  split at hf
  · split at hf
    · cases hf
    · rename_i hb0
      cases hf
      obtain ⟨a, b, rfl, ha, hb⟩ := hr.two
      obtain ⟨t, rfl⟩ := rd_int ha
      obtain ⟨u, rfl⟩ := rd_int hb
      exact mod_int' hb0 post_int
  · cases hf
def fLt : List D → Option D
  | [.int a, .int b] => some (.bool (decide (a < b)))
  | _ => none
theorem spec_lt : Spec 0 (tCmp .Lt) fLt := by
  intro w A s P vs ds d G B hr hf
  unfold fLt at hf
  split at hf
  · cases hf
    obtain ⟨a, b, rfl, ha, hb⟩ := hr.two
    obtain ⟨t, rfl⟩ := rd_int ha
    obtain ⟨u, rfl⟩ := rd_int hb
    exact lt_int post_bool
  · cases hf
def fEq : List D → Option D
  | [.int a, .int b] => some (.bool (a == b))
  | _ => none
theorem spec_eq : Spec 0 (tCmp .Eq) fEq := by
  intro w A s P vs ds d G B hr hf
  unfold fEq at hf
  split at hf
  · cases hf
    obtain ⟨a, b, rfl, ha, hb⟩ := hr.two
    obtain ⟨t, rfl⟩ := rd_int ha
    obtain ⟨u, rfl⟩ := rd_int hb
    exact eq_int post_bool
  · cases hf
def fNe : List D → Option D
  | [.int a, .int b] => some (.bool (a != b))
  | _ => none
theorem spec_ne : Spec 0 (tCmp .NotEq) fNe := by
  intro w A s P vs ds d G B hr hf
  unfold fNe at hf
  split at hf
  · cases hf
    obtain ⟨a, b, rfl, ha, hb⟩ := hr.two
    obtain ⟨t, rfl⟩ := rd_int ha
    obtain ⟨u, rfl⟩ := rd_int hb
    exact ne_int post_bool
  · cases hf

/-! subscripts -/
theorem sub_rule {w : World} {A : Around} {s : Shared} {env : Env} {value slice : Expr} {pos : Pos} {Q : Value → Shared → Prop}
    (h : wpAny (model prog w) A (eval value env) (fun o s₁ => wpAny (model prog w) A (eval slice env) (fun i s₂ => SubscriptOn (model prog w) A o i Q NoE s₂) NoE s₁) NoE s)
    (hs : ∀ o i, ∃ l, subscripted slice false o i = operate l (getItem o i) := by intro o i; exact ⟨_, rfl⟩) :
    wpAny (model prog w) A (eval (.Subscript value slice pos) env) Q NoE s := by
  rw [eval_Subscript]
  refine wpAny_bind (wpAny_mono h (fun o s₁ h₁ => wpAny_bind (wpAny_holding (wpAny_mono h₁ (fun i s₂ h₂ => wpAny_bind (wpAny_standAt ?_)) fun _ _ x => x)))
    fun _ _ x => x)
  obtain ⟨T, id, hl, hT, hg⟩ := h₂
  obtain ⟨l, el⟩ := hs o i
  refine wpAny_bind ?_
  rw [getitemInPython_of_ne hT.not_modules]
  refine wpAny_bind (wpAny_specialOf hT hl ?_)
  have fin : wpAny (model prog w) A (subscripted slice false o i) (fun r s₃ => wpAny (model prog w) A (letTemporaryGo value o r >>= fun _ => pure r) Q NoE s₃) NoE s₂ := by
    rw [el]
    exact wpAny_operating (wpAny_mono hg (fun r s₃ h₃ => wpAny_bind (wpAny_letTemporaryGo (wpAny_pure h₃))) fun _ _ x => x)
  first
    | exact wpAny_pure (wpAny_bind fin)
    | exact wpAny_bind (wpAny_pure (wpAny_bind fin))
    | exact wpAny_bind fin

def SpecSub (n : Nat) (f : List D → Option D) : Prop :=
  ∀ (w : World) (A : Around) (s : Shared) (P : Addr → Prop) (o i : Value) (ds : List D) (d : D), Room n A → HB w s.heap → Rds w P s.heap ds [o, i] → f ds = some d →
    SubscriptOn (model prog w) A o i (fun v s' => Pur s s' ∧ Rd w (orNew P s) s'.heap d v) NoE s

theorem subscriptOn_mono {M : Model} {A : Around} {o i : Value} {Q Q' : Value → Shared → Prop} {E : Value → Shared → Prop} {s : Shared} (h : SubscriptOn M A o i Q E s) (hq : ∀ v s', Q v s' → Q' v s') : SubscriptOn M A o i Q' E s := by
  obtain ⟨T, id, a, b, c⟩ := h
  exact ⟨T, id, a, b, wpAny_mono c hq fun _ _ e => e⟩

section
variable {cx : Cx} {n : Nat}
theorem refE_sub {value slice : Expr} {pos : Pos} {mv ms : EM} {f : List D → Option D} (G : Good n cx) (S : SpecSub n f) (hv : RefE cx value mv) (hsl : RefE cx slice ms)
    (hs : ∀ o i, ∃ l, subscripted slice false o i = operate l (getItem o i) := by intro o i; exact ⟨_, rfl⟩) : RefE cx (.Subscript value slice pos) (eTwo f mv ms) := by
  intro vs c d c' mu s hm R
  unfold eTwo at hm
  split at hm
  · rename_i x c1 e1
    split at hm
    · rename_i y c2 e2
      split at hm
      · rename_i d' e3
        cases hm
        refine sub_rule (wpAny_mono (hv vs c _ c1 mu s e1 R) (fun a s₁ h1 => wpAny_mono (hsl vs c1 _ _ mu s₁ e2 h1.rel) (fun b s₂ h2 => ?_) fun _ _ e => e) fun _ _ e => e) hs
        refine subscriptOn_mono (S cx.w cx.A s₂ (cx.Ok mu) a b _ _ G.room h2.rel.hb (Rds.cons (h1.rv.stp h2.stp) (Rds.cons h2.rv Rds.nil)) e3) fun v s₃ h3 => ?_
        exact ⟨h2.rel.pur h3.1, (h1.stp.trans h2.stp).trans (h3.1.stp mu), h3.2.mono fun b o hb _ e => ⟨hb.elim id fun q => h2.rel.okNew q, e⟩⟩
      · cases hm
    · cases hm
  · cases hm
end

theorem seqIndex_nat {k : Int} {n : Nat} (h0 : 0 ≤ k) (h1 : k.toNat < n) : seqIndex? k n = some k.toNat := PySem.seqIndex_of h0 (by omega)
def fIdx : List D → Option D
  | [.list ds, .int k] => if 0 ≤ k ∧ k ≤ 1000 then ds[k.toNat]? else none
  | [.tup ds, .int k] => if 0 ≤ k ∧ k ≤ 1000 then ds[k.toNat]? else none
  | [.str x, .int k] => if 0 ≤ k ∧ k ≤ 1000 then (x[k.toNat]?).map fun c => .str [c] else none
  | _ => none
theorem spec_idx : SpecSub 0 fIdx := by
  intro w A s P o i ds d G B hr hf
  unfold fIdx at hf
  split at hf
  · split at hf
    · rename_i hk
      obtain ⟨a, b, e, ha, hb⟩ := hr.two
      cases e
      obtain ⟨t, rfl⟩ := rd_int hb
      obtain ⟨a, va, na, rfl, hpa, hga, hra⟩ := rd_list ha
      obtain ⟨v, hv, hdv⟩ := hra.get hf
      exact ⟨"list", _, PySem.list_getitem_lookup, ⟨_, hga, rfl⟩, wpAny_getItem_list ⟨_, hga, rfl, na, rfl⟩ hk.1 (by omega) (by simpa using hv) (post_old (tk := s.toks) hdv)⟩
    · cases hf
  · split at hf
    · rename_i hk
      obtain ⟨a, b, e, ha, hb⟩ := hr.two
      cases e
      obtain ⟨t, rfl⟩ := rd_int hb
      obtain ⟨a, va, na, rfl, hpa, hga, hra⟩ := rd_tup ha
      obtain ⟨v, hv, hdv⟩ := hra.get hf
      have hlt := (List.getElem?_eq_some_iff.mp hv).1
      exact ⟨"tuple", _, F.slot_tuple_getitem.lookup, ⟨_, hga, rfl⟩, PySem.P.getItem_tuple hga (by omega) (by omega) (seqIndex_nat hk.1 (by simpa using hlt)) (by simpa using hv) (post_old (tk := s.toks) hdv)⟩
    · cases hf
  · split at hf
    · rename_i x k hk
      obtain ⟨a, b, e, ha, hb⟩ := hr.two
      cases e
      obtain ⟨t, rfl⟩ := rd_int hb
      obtain ⟨u, rfl⟩ := rd_str ha
      cases hx : x[k.toNat]? with
      | none => rw [hx] at hf; cases hf
      | some c =>
        rw [hx] at hf; cases hf
        have hlt := (List.getElem?_eq_some_iff.mp hx).1
        exact ⟨"str", _, F.slot_str_getitem.lookup, rfl, getItem_str (c := c) (by simp; omega) (by rw [strOf_length, seqIndex_nat hk.1 hlt]; simpa using hx) (post_str (x := [c]))⟩
    · cases hf
  · cases hf

/-! slices -/
def SpecSl (n : Nat) (f : List D → Option D) : Prop :=
  ∀ (w : World) (A : Around) (s : Shared) (P : Addr → Prop) (o l u st : Value) (ds : List D) (d : D), Room n A → HB w s.heap → Rds w P s.heap ds [o, l, u, st] → f ds = some d →
    SubscriptOn (model prog w) A o (.ref s.heap.objs.size) (fun v s' => Pur s s' ∧ Rd w (orNew P s) s'.heap d v) NoE { s with heap := s.heap.push { cls := .type "slice", data := .fields #[l, u, st] } }
section
variable {cx : Cx} {n : Nat}
def RefP (cx : Cx) (e : Option Expr) (m : EM) : Prop :=
  ∀ vs c d c' mu s, m vs c = some (d, c') → Rel cx vs mu c s → wpAny (model prog cx.w) cx.A (evalPart e cx.env) (PostE cx vs mu c' s d) NoE s
def eNone : EM := fun _ c => some (.d .none, c)
theorem refP_none : RefP cx none eNone := by
  intro vs c d c' mu s hm R
  cases hm
  rw [evalPart_none]
  exact wpAny_pure ⟨R, Stp.refl .., rfl⟩
theorem refP_some {e : Expr} {m : EM} (h : RefE cx e m) : RefP cx (some e) m := h
def eSlice (f : List D → Option D) (mv ml mh ms : EM) : EM := fun vs c => match mv vs c with
  | some (.d x, c1) => (match ml vs c1 with
    | some (.d l, c2) => (match mh vs c2 with
      | some (.d h, c3) => (match ms vs c3 with
        | some (.d st, c4) => (match f [x, l, h, st] with
          | some d => some (.d d, c4)
          | none => none)
        | _ => none)
      | _ => none)
    | _ => none)
  | _ => none
theorem refE_slice {value : Expr} {lo hi st : Option Expr} {p pos : Pos} {mv ml mh ms : EM} {f : List D → Option D} (G : Good n cx) (S : SpecSl n f) (hv : RefE cx value mv) (hl : RefP cx lo ml) (hh : RefP cx hi mh) (hst : RefP cx st ms)
    (hs : ∀ o i, ∃ l, subscripted (.Slice lo hi st p) false o i = operate l (getItem o i) := by intro o i; exact ⟨_, rfl⟩) : RefE cx (.Subscript value (.Slice lo hi st p) pos) (eSlice f mv ml mh ms) := by
  intro vs c d c' mu s hm R
  unfold eSlice at hm
  split at hm
  · rename_i x c1 e1
    split at hm
    · rename_i y c2 e2
      split at hm
      · rename_i z c3 e3
        split at hm
        · rename_i q c4 e4
          split at hm
          · rename_i d' e5
            cases hm
            refine sub_rule (wpAny_mono (hv vs c _ c1 mu s e1 R) (fun o s₁ h1 => wpAny_Slice (wpAny_mono (hl vs c1 _ _ mu s₁ e2 h1.rel) (fun l s₂ h2 => wpAny_mono (hh vs c2 _ _ mu s₂ e3 h2.rel) (fun u s₃ h3 =>
              wpAny_mono (hst vs c3 _ _ mu s₃ e4 h3.rel) (fun st s₄ h4 => ?_) fun _ _ e => e) fun _ _ e => e) fun _ _ e => e)) fun _ _ e => e) hs
            refine subscriptOn_mono (S cx.w cx.A s₄ (cx.Ok mu) o l u st _ _ G.room h4.rel.hb
              (Rds.cons (((h1.rv.stp h2.stp).stp h3.stp).stp h4.stp) (Rds.cons ((h2.rv.stp h3.stp).stp h4.stp) (Rds.cons (h3.rv.stp h4.stp) (Rds.cons h4.rv Rds.nil)))) e5) fun v s₅ h5 => ?_
            exact ⟨h4.rel.pur h5.1, (((h1.stp.trans h2.stp).trans h3.stp).trans h4.stp).trans (h5.1.stp mu), h5.2.mono fun b o hb _ e => ⟨hb.elim id fun q => h4.rel.okNew q, e⟩⟩
          · cases hm
        · cases hm
      · cases hm
    · cases hm
  · cases hm
end

def partOf : D → Option (Option Int)
  | .none => some none
  | .int i => some (some i)
  | _ => none
theorem isPart_of {w : World} {P : Addr → Prop} {h : Heap} {d : D} {v : Value} {k : Option Int} (r : Rd w P h d v) (e : partOf d = some k) : IsPart v k := by
  unfold partOf at e
  split at e
  · cases e; rw [rd_none r]; exact .none
  · cases e; obtain ⟨t, rfl⟩ := rd_int r; exact .int _ t
  · cases e
theorem part_of {w : World} {P : Addr → Prop} {h : Heap} {d : D} {v : Value} {k : Option Int} (r : Rd w P h d v) (e : partOf d = some k) : ∃ p : Option (Int × Tok), v = partValue p ∧ p.map (·.1) = k := by
  unfold partOf at e
  split at e
  · cases e; rw [rd_none r]; exact ⟨none, rfl, rfl⟩
  · cases e; obtain ⟨t, rfl⟩ := rd_int r; exact ⟨some (_, t), rfl, rfl⟩
  · cases e
theorem Rds.pick {w : World} {P : Addr → Prop} {h : Heap} {ds : List D} {vs : List Value} (r : Rds w P h ds vs) : ∀ idx : List Nat, Rds w P h (idx.filterMap (ds[·]?)) (idx.filterMap (vs[·]?))
  | [] => Rds.nil
  | i :: idx => by
    cases e : ds[i]? with
    | none =>
      have e' : vs[i]? = none := by
        rw [List.getElem?_eq_none_iff] at e ⊢
        rw [r.length]; exact e
      rw [List.filterMap_cons_none e, List.filterMap_cons_none e']
      exact r.pick idx
    | some d =>
      obtain ⟨v, e', hd⟩ := r.get e
      rw [List.filterMap_cons_some e, List.filterMap_cons_some e']
      exact Rds.cons hd (r.pick idx)
def pickIdx (lo hi st : Option Int) (n : Nat) : List Nat := sliceRange (sliceBounds lo hi st n).1 (sliceBounds lo hi st n).2.1 (sliceBounds lo hi st n).2.2
def fSlice : List D → Option D
  | [.list ds, l, h, st] => (match partOf l, partOf h, partOf st with
    | some lo, some hi, some step => if step ≠ some 0 ∧ ds.length ≤ 1000 then some (.list ((pickIdx lo hi step ds.length).filterMap (ds[·]?))) else none
    | _, _, _ => none)
  | [.str x, l, h, .none] => (match partOf l, partOf h with
    | some lo, some hi => if (strSliceIndices lo hi 1 x.length).length = x.length then some (.str x) else
        if ((strSliceIndices lo hi 1 x.length).filterMap (x[·]?)).length ≤ 1000 then some (.str ((strSliceIndices lo hi 1 x.length).filterMap (x[·]?))) else none
    | _, _ => none)
  | _ => none
theorem spec_slice : SpecSl 0 fSlice := by
  intro w A s P o l u st ds d G B hr hf
  unfold fSlice at hf
  split at hf
  · rename_i ds' dl dh dst
    split at hf
    · rename_i lo hi step el eh est
      split at hf
      · rename_i hc
        cases hf
        obtain ⟨o', r, e, ho, hr⟩ := hr.cons_inv
        cases e
        obtain ⟨l', u', st', e, hl, hu, hst⟩ := hr.three
        cases e
        obtain ⟨a, va, na, rfl, hpa, hga, hra⟩ := rd_list ho
        have hg' := Heap.get?_push_of_some { cls := .type "slice", data := .fields #[l, u, st] } hga
        refine ⟨"list", _, PySem.list_getitem_lookup, ⟨_, hg', rfl⟩, wpAny_getItem_list_slice ⟨_, hg', rfl, na, rfl⟩ (Heap.IsSliceOf.new ..) (isPart_of hl el) (isPart_of hu eh) (isPart_of hst est) hc.1 ?_ (by simp only [List.size_toArray, hra.length]; exact line_le hc.2)⟩
        have e : slicePick va.toArray lo hi step = ((pickIdx lo hi step ds'.length).filterMap (va[·]?)).toArray := by
          unfold slicePick pickIdx
          simp [hra.length]
        rw [e]
        have hp := Pur.push s { cls := .type "slice", data := .fields #[l, u, st] } s.toks
        have := post_list (P := P) (s := { s with heap := s.heap.push { cls := .type "slice", data := .fields #[l, u, st] } }) (tk := s.toks) ((hra.pick (pickIdx lo hi step ds'.length)).pur hp)
        refine ⟨hp.trans this.1, this.2.mono fun b o hb _ e => ⟨hb.imp id fun q => ?_, e⟩⟩
        have : s.heap.objs.size ≤ (s.heap.push { cls := .type "slice", data := .fields #[l, u, st] }).objs.size := by rw [Heap.size_push]; omega
        exact Nat.le_trans this q
      · cases hf
    · cases hf
  · rename_i x dl dh
    split at hf
    · rename_i lo hi el eh
      obtain ⟨o', r, e, ho, hr⟩ := hr.cons_inv
      cases e
      obtain ⟨l', u', st', e, hl, hu, hst⟩ := hr.three
      cases e
      obtain ⟨t, rfl⟩ := rd_str ho
      obtain ⟨pl, rfl, epl⟩ := part_of hl el
      obtain ⟨pu, rfl, epu⟩ := part_of hu eh
      rw [rd_none hst]
      have hp := Pur.push s { cls := .type "slice", data := .fields #[partValue pl, partValue pu, .none] } s.toks
      have hpk : slicePicked (strOf x) pl pu none = strSliceIndices lo hi 1 x.length := by
        unfold slicePicked
        rw [epl, epu, strOf_length]; rfl
      refine ⟨"str", _, F.slot_str_getitem.lookup, rfl, wpAny_getItem_str_slice (l := pl) (u := pu) (st := none) ⟨_, Heap.get?_push_size _ rfl, rfl, rfl⟩ rfl ?_⟩
      unfold sliceMade
      rw [hpk, strOf_length]
      have e1 : ((strSliceIndices lo hi 1 x.length).filterMap ((strOf x).cps[·]?)) = (strSliceIndices lo hi 1 x.length).filterMap (x[·]?) := by simp
      split at hf
      · rename_i he
        cases hf
        rw [if_pos (by simp [he])]
        exact ⟨hp, ⟨t, rfl⟩⟩
      · rename_i he
        split at hf
        · rename_i hlen
          cases hf
          rw [if_neg (by simp [he]), e1]
          exact ⟨by simpa [Str.length] using line_le hlen, ⟨hp.trans (Pur.tok ..), ⟨_, rfl⟩⟩⟩
        · cases hf
    · cases hf
  · cases hf
end Mine
end
section
open PySem PySem.Calls PySem.W PyProof.Rows
set_option Elab.async false
set_option maxRecDepth 100000
namespace Mine

/-! bodies that make the activation's own object -/
section
variable {cx : Cx} {n : Nat}
theorem MutR.none_of {w : World} {P : Addr → Prop} {h : Heap} {c : MU} (x : MutR w P none h c) : c = .none := by
  cases c with
  | none => rfl
  | list => obtain ⟨_, _, _, h, _⟩ := x; cases h
  | dict => obtain ⟨_, _, _, h, _⟩ := x; cases h
  | acc => obtain ⟨_, _, _, _, _, _, h, _⟩ := x; cases h

def RefB2 (cx : Cx) (b : List Stmt) (m : SM) : Prop :=
  ∀ vs fl vs' c' s, m vs .none = some (fl, vs', c') → Rel cx vs none .none s → wpAny (model prog cx.w) cx.A (execs b cx.env) (fun f s' => ∃ mu, Rel cx vs' mu c' s' ∧ FlR cx mu s'.heap fl f) NoE s
theorem refB2_of {b : List Stmt} {m : SM} (h : RefB cx b m) : RefB2 cx b m := by
  intro vs fl vs' c' s hm R
  exact wpAny_mono (h vs _ fl vs' c' none s hm R) (fun f s' x => ⟨none, x.rel, x.flow⟩) fun _ _ e => e
theorem refB2_cons {st : Stmt} {b : List Stmt} {m r : SM} (h : RefS cx st m) (hr : RefB2 cx b r) : RefB2 cx (st :: b) (sSeq m r) := by
  intro vs fl vs' c' s hm R
  unfold sSeq at hm
  split at hm
  · rename_i vs1 c1 e1
    refine wpAny_execs_cons (wpAny_mono (h vs _ _ _ _ none s e1 R) (fun f s₁ h1 => ?_) fun _ _ e => e)
    rw [show f = .next from h1.flow]
    have hc := h1.rel.mobj.none_of
    subst hc
    exact hr _ fl vs' c' s₁ hm h1.rel
  · rename_i d vs1 c1 e1
    cases hm
    refine wpAny_execs_cons (wpAny_mono (h vs _ _ _ _ none s e1 R) (fun f s₁ h1 => ?_) fun _ _ e => e)
    obtain ⟨v, rfl, hv⟩ := h1.flow
    exact ⟨none, h1.rel, v, rfl, hv⟩
  · cases hm

/-- the own object is made -/
theorem Rel.born {vs : Vars} {s s' : Shared} (R : Rel cx vs none .none s) (k : Pur s s') {a d : Addr} {c : MU} (ha : s.heap.objs.size ≤ a) (hd : s.heap.objs.size ≤ d) (hm : MutR cx.w (cx.Ok (some (a, d))) (some (a, d)) s'.heap c) : Rel cx vs (some (a, d)) c s' := by
  have R' := R.pur k
  obtain ⟨m, cm, F, hv⟩ := R.frm
  obtain ⟨m', cm', F', hv'⟩ := R'.frm
  refine ⟨⟨m, cm, ⟨?_, ?_, ?_, ?_⟩, ?_⟩, hm, ?_, R.fresh, R.base⟩
  · obtain ⟨h, tk, e⟩ := F.same
    obtain ⟨h', tk', e'⟩ := k.same
    exact ⟨h', tk', by rw [e', e]⟩
  · exact F.ns.keeps k.keep
  · exact fun b o e => k.keep b o (F.keep b o e)
  · exact fun n c hc => (F.cell n c hc).keeps k.keep
  · intro i x b d' h1 h2
    obtain ⟨v, hv1, hv2⟩ := hv i x b d' h1 h2
    refine ⟨v, hv1, ?_⟩
    cases d' with
    | own => obtain ⟨_, _, h, _⟩ := hv2; cases h
    | d x =>
      refine Rd.mono (fun b o hb _ e => ⟨⟨hb.1, hb.2.1, hb.2.2.1, fun h => ?_⟩, k.keep b o e⟩) hv2
      have := Heap.lt_size e
      rcases h with rfl | rfl
      · exact absurd this (Nat.not_lt.mpr ha)
      · exact absurd this (Nat.not_lt.mpr hd)
  · intro b hb
    rcases hb with rfl | rfl
    · have := R.okNew ha; exact ⟨Nat.le_trans R.size ha, this.2.1, this.2.2.1⟩
    · have := R.okNew hd; exact ⟨Nat.le_trans R.size hd, this.2.1, this.2.2.1⟩

def RefNew (cx : Cx) (e : Expr) (m : Vars → Option MU) : Prop :=
  ∀ vs c' s, m vs = some c' → Rel cx vs none .none s → wpAny (model prog cx.w) cx.A (eval e cx.env) (fun v s' => ∃ a d, v = .ref a ∧ Rel cx vs (some (a, d)) c' s') NoE s
def sNew (i : Nat) (m : Vars → Option MU) (r : SM) : SM := fun vs _ => match m vs with
  | some c => r (vs.set i (some .own)) c
  | none => none
theorem refB2_new (G : Good n cx) (O : Own cx) {x : Str} {p' pos : Pos} {e : Expr} {m : Vars → Option MU} {r : SM} {b : List Stmt} {i : Nat} (hi : cx.vs[i]? = some (x, false)) (hk : cx.env.kindOf x = some .local) (he : RefNew cx e m) (hr : RefB cx b r)
    (hs : swapsWith e (some (.Name x p')) pos.line cx.env = pure false := by rfl) : RefB2 cx (.Assign [.Name x p'] e pos :: b) (sNew i m r) := by
  intro vs fl vs' c' s hm R
  unfold sNew at hm
  split at hm
  · rename_i c1 e1
    refine wpAny_execs_cons (wpAny_Assign_Name (wpAny_mono (he vs c1 s e1 R) (fun v s₁ h1 => ?_) fun _ _ e => e) hs)
    obtain ⟨a, d, rfl, R1⟩ := h1
    refine wpAny_mono (R1.store (d := .own) G O hi (by simpa using hk) (fun h => by cases h) ⟨a, d, rfl, rfl⟩) (fun _ s₂ h2 => ?_) fun _ _ e => e
    exact wpAny_mono (hr _ _ fl vs' c' _ s₂ hm h2.1) (fun f s' x => ⟨_, x.rel, x.flow⟩) fun _ _ e => e
  · cases hm
theorem refNew_list {pos : Pos} : RefNew cx (.List [] pos) (fun _ => some (.list [])) := by
  intro vs c' s hm R
  cases hm
  refine PySem.wpAny_List (spliced_nil ⟨by decide, ?_⟩)
  exact ⟨_, s.heap.objs.size, rfl, R.born (Pur.push s _ s.toks) (Nat.le_refl _) (Nat.le_refl _) ⟨_, [], 0, rfl, Heap.get?_push_size _ rfl, Rds.nil⟩⟩
theorem HB.not_modules {w : World} {h : Heap} (B : HB w h) {a : Addr} (ha : h.objs.size ≤ a) : (a == sysModules) = false := by
  obtain ⟨mg, mb, g, _⟩ := B.g
  have : mainGlobals < h.objs.size := g.lt
  rw [beq_eq_false_iff_ne]
  intro e
  subst e
  exact absurd (Nat.lt_of_lt_of_le this ha) (by decide)
theorem refNew_dict {pos : Pos} : RefNew cx (.Dict [] [] pos) (fun _ => some (.dict [])) := by
  intro vs c' s hm R
  cases hm
  refine wpAny_Dict_empty ?_
  refine ⟨_, s.heap.objs.size, rfl, R.born (Pur.push s _ s.toks) (Nat.le_refl _) (Nat.le_refl _) ⟨_, [], 0, rfl, R.hb.not_modules (Nat.le_refl _), Heap.get?_push_size _ rfl, ?_⟩⟩
  simp only [Rde]
end

/-! calls of the program's functions -/
structure Fn (f : Addr) (fd : FuncData) (ps : List Str) (vars : List (Str × Bool)) (body : List Stmt) : Prop where
  look : ∀ w, ∃ o, (KF w).lookup f = some o ∧ o.data = .func fd
  code : ∀ w, codeIn (KF w) fd.code fd.qualname = true
  body : fd.body = .stmts body
  bind : ∀ (w : World) (s : Shared) vals, HB w s.heap → vals.length = ps.length → BindsTo s fd ⟨vals, []⟩ (ps.zip vals)
  clo : fd.closure = []
  glob : fd.globals = mainGlobals
  blt : fd.builtins = builtinsNs
  co : fd.scope.isCoroutine = false
  gen : fd.scope.isGenerator = false
  kind : fd.scope.kind = .function
  pre : ∀ (i : Nat) p, ps[i]? = some p → ∃ b, vars[i]? = some (p, b)
  nd : (vars.map (·.1)).Nodup
  names : ∀ x b, (x, b) ∈ vars → fd.scope.names.lookup x = some (if b then .cell else .local)
  cells : ∀ L x, (x, true) ∈ vars → ((cellsFrom L fd.scope.names []).lookup x).isSome = true

theorem bindL_other {k : Str → Option NameKind} : ∀ {binds : List (Str × Value)} {m : Str → Option Value} {x : Str}, x ∉ binds.map (·.1) → bindL k binds m x = m x
  | [], _, _, _ => rfl
  | (n, v) :: r, m, x, h => by
    simp only [List.map_cons, List.mem_cons, not_or] at h
    unfold bindL
    rw [bindL_other h.2]
    split
    · exact if_neg h.1
    · rfl
theorem bindC_other {k : Str → Option NameKind} : ∀ {binds : List (Str × Value)} {m : Str → Option Value} {x : Str}, x ∉ binds.map (·.1) → bindC k binds m x = m x
  | [], _, _, _ => rfl
  | (n, v) :: r, m, x, h => by
    simp only [List.map_cons, List.mem_cons, not_or] at h
    unfold bindC
    rw [bindC_other h.2]
    split
    · rfl
    · exact if_neg h.1
theorem bindL_mem {k : Str → Option NameKind} : ∀ {binds : List (Str × Value)} {m : Str → Option Value} {x : Str} {v : Value}, (binds.map (·.1)).Nodup → (x, v) ∈ binds → k x = some .local → bindL k binds m x = some v
  | (n, u) :: r, m, x, v, hn, hm, hk => by
    simp only [List.map_cons, List.nodup_cons] at hn
    unfold bindL
    rcases List.mem_cons.mp hm with e | hm
    · cases e
      rw [bindL_other hn.1, if_pos hk]; exact if_pos rfl
    · exact bindL_mem hn.2 hm hk
theorem bindC_mem {k : Str → Option NameKind} : ∀ {binds : List (Str × Value)} {m : Str → Option Value} {x : Str} {v : Value}, (binds.map (·.1)).Nodup → (x, v) ∈ binds → ¬ k x = some .local → bindC k binds m x = some v
  | (n, u) :: r, m, x, v, hn, hm, hk => by
    simp only [List.map_cons, List.nodup_cons] at hn
    unfold bindC
    rcases List.mem_cons.mp hm with e | hm
    · cases e
      rw [bindC_other hn.1, if_neg hk]; exact if_pos rfl
    · exact bindC_mem hn.2 hm hk

def initV (nv : Nat) (ds : List D) : Vars := (ds.map fun d => some (.d d)) ++ List.replicate (nv - ds.length) none
def retD : V → MU → Option D
  | .d x, _ => some x
  | .own, .list ds => some (.list ds)
  | .own, .dict es => some (.dict es)
  | _, _ => none
/-- what a body says of its arguments -/
def fnM (np nv : Nat) (m : SM) : List D → Option D := fun ds => if ds.length = np then (match m (initV nv ds) .none with
  | some (.ret d, _, c) => retD d c
  | some (.next, _, _) => some .none
  | none => none) else none

abbrev cxOf (w : World) (A : Around) (fd : FuncData) (f : Addr) (vars : List (Str × Bool)) (P : Addr → Prop) (s : Shared) : Cx :=
  ⟨w, A.deeper (callEnvC fd s.heap.objs.size f), callEnvC fd s.heap.objs.size f, s, vars, P⟩

theorem Room.deeper {n : Nat} {A : Around} (r : Room (n + 1) A) (env : Env) : Room n (A.deeper env) :=
  ⟨r.handled, by have := r.depth; show A.depth + 1 + n ≤ 650; omega, by have := r.units; show A.units + 3 + 20 * n ≤ 9500; omega, let ⟨l, e⟩ := r.frames; ⟨env :: l, by show A.frames.map _ = _; rw [e]; rfl⟩⟩

theorem rel_entry {w : World} {A : Around} {s s₁ : Shared} {P : Addr → Prop} {f : Addr} {fd : FuncData} {ps : List Str} {vars : List (Str × Bool)} {body : List Stmt} (F : Fn f fd ps vars body) (B : HB w s.heap) {vals : List Value} {ds : List D}
    (hr : Rds w P s.heap ds vals) (hl : ds.length = ps.length)
    (x : InCallC s (callEnvC fd s.heap.objs.size f).locals (bindL (callEnvC fd s.heap.objs.size f).kindOf (ps.zip vals) fun _ => none) (callEnvC fd s.heap.objs.size f).cells (bindC (callEnvC fd s.heap.objs.size f).kindOf (ps.zip vals) fun _ => none) s₁) :
    Rel (cxOf w A fd f vars P s) (initV vars.length ds) none .none s₁ := by
  have hlv : vals.length = ps.length := hr.length.trans hl
  have hlt : ∀ b o, s.heap.get? b = some o → b < s.heap.objs.size := fun b o e => Heap.lt_size e
  have ndp : ((ps.zip vals).map (·.1)).Nodup := by
    rw [List.map_fst_zip (by omega)]
    refine List.pairwise_iff_getElem.mpr fun i j hi hj hij e => ?_
    obtain ⟨b, hb⟩ := F.pre i _ (List.getElem?_eq_getElem hi)
    obtain ⟨b', hb'⟩ := F.pre j _ (List.getElem?_eq_getElem hj)
    rw [← e] at hb'
    exact absurd (nodup_get F.nd hb hb') (by omega)
  have okP : ∀ b o, P b → NF o → s.heap.get? b = some o → (cxOf w A fd f vars P s).Ok none b ∧ s₁.heap.get? b = some o := fun b o hp _ e => by
    refine ⟨⟨.inl hp, Nat.ne_of_lt (hlt b o e), fun n c hc => ?_, fun h => h⟩, x.toInCall.keep b o e⟩
    have : s.heap.objs.size < c := x.above n c (mem_of_lookup hc)
    exact Nat.ne_of_lt (Nat.lt_trans (hlt b o e) this)
  refine ⟨⟨_, _, ⟨x.toInCall.same, x.toInCall.ns, x.toInCall.keep, x.cell⟩, ?_⟩, rfl, fun b hb => hb.elim, Nat.le_refl _, B⟩
  intro i y b d hi hd
  unfold initV at hd
  by_cases hlt' : i < ds.length
  · rw [List.getElem?_append_left (by simpa using hlt')] at hd
    rw [List.getElem?_map, List.getElem?_eq_getElem hlt'] at hd
    cases hd
    obtain ⟨v, hv, hdv⟩ := hr.get (List.getElem?_eq_getElem hlt')
    have hip : i < ps.length := by omega
    obtain ⟨b', hb'⟩ := F.pre i _ (List.getElem?_eq_getElem hip)
    have hyb : (y, b) = (ps[i], b') := Option.some.inj (hi.symm.trans hb')
    obtain ⟨rfl, rfl⟩ := Prod.mk.inj hyb
    have hmem : (ps[i], v) ∈ ps.zip vals := by
      refine List.mem_of_getElem? (i := i) ?_
      rw [List.getElem?_zip_eq_some]
      exact ⟨List.getElem?_eq_getElem hip, hv⟩
    have hk : (callEnvC fd s.heap.objs.size f).kindOf ps[i] = some (if b then .cell else .local) := F.names _ _ (List.mem_of_getElem? hi)
    refine ⟨v, ?_, hdv.mono okP⟩
    cases b with
    | false => exact bindL_mem ndp hmem hk
    | true => exact bindC_mem ndp hmem (by rw [hk]; decide)
  · rw [List.getElem?_append_right (by simpa using hlt')] at hd
    simp only [List.getElem?_replicate] at hd
    split at hd <;> cases hd

theorem own_entry {w : World} {A : Around} {s : Shared} {P : Addr → Prop} {f : Addr} {fd : FuncData} {ps : List Str} {vars : List (Str × Bool)} {body : List Stmt} (F : Fn f fd ps vars body) {vals : List Value} {s₁ : Shared}
    (x : InCallC s (callEnvC fd s.heap.objs.size f).locals (bindL (callEnvC fd s.heap.objs.size f).kindOf (ps.zip vals) fun _ => none) (callEnvC fd s.heap.objs.size f).cells (bindC (callEnvC fd s.heap.objs.size f).kindOf (ps.zip vals) fun _ => none) s₁) :
    Own (cxOf w A fd f vars P s) where
  cfresh := fun n c hc => by
    have : s.heap.objs.size < c := x.above n c (mem_of_lookup hc)
    exact ⟨Nat.le_of_lt this, Nat.ne_of_gt this⟩
  apart := fun n n' c h h' => name_of_addr x.apart (mem_of_lookup h) (mem_of_lookup h')
  nodup := F.nd

/-- the answer of an activation is data of the caller -/
theorem answer {cx : Cx} {vs : Vars} {mu : Mu} {c : MU} {s' : Shared} {d : V} {r : D} {v : Value} (R : Rel cx vs mu c s') (hv : RV cx.w (cx.Ok mu) mu s'.heap d v) (hr : retD d c = some r) : Pur cx.s₀ s' ∧ Rd cx.w (orNew cx.P cx.s₀) s'.heap r v := by
  obtain ⟨m, cm, F, _⟩ := R.frm
  refine ⟨⟨F.same, F.keep⟩, ?_⟩
  have ok : ∀ b o, cx.Ok mu b → NF o → s'.heap.get? b = some o → orNew cx.P cx.s₀ b ∧ s'.heap.get? b = some o := fun b o hb _ e => ⟨hb.1, e⟩
  cases d with
  | d x => cases hr; exact Rd.mono ok hv
  | own =>
    obtain ⟨a, da, rfl, rfl⟩ := hv
    cases c with
    | none => cases hr
    | acc => cases hr
    | list ds =>
      cases hr
      obtain ⟨a', vs', k, e, hg, hrs⟩ := R.mobj
      cases e
      simp only [Rd]
      exact ⟨_, vs', k, rfl, .inr (R.out _ (.inl rfl)).1, hg, hrs.mono ok⟩
    | dict es =>
      cases hr
      obtain ⟨a', vs', k, e, hne, hg, hrs⟩ := R.mobj
      cases e
      simp only [Rd]
      exact ⟨_, vs', k, rfl, .inr (R.out _ (.inl rfl)).1, hne, hg, hrs.mono ok⟩

theorem spec_fn {n : Nat} {f : Addr} {fd : FuncData} {ps : List Str} {vars : List (Str × Bool)} {body : List Stmt} {m : SM} (F : Fn f fd ps vars body)
    (hB : ∀ (w : World) (A : Around) (s : Shared) (P : Addr → Prop), Good n (cxOf w A fd f vars P s) → Own (cxOf w A fd f vars P s) → RefB2 (cxOf w A fd f vars P s) body m) :
    Spec (n + 1) (fun vs => call (.ref f) vs) (fnM ps.length vars.length m) := by
  intro w A s P vals ds d G B hr hf
  unfold fnM at hf
  split at hf
  · rename_i hl
    have hlv : vals.length = ps.length := hr.length.trans hl
    obtain ⟨o, eo, ed⟩ := F.look w
    refine wpAny_call (codeAny_call_function ?_ (B.X _ _ eo) ed F.co F.gen F.body (codeRec_of B.X (F.code w)) (F.bind w s vals B hlv _ _ _ _ (F.clo ▸ wpAny_newFunctionEnv_cells F.kind ?_ fun env he s₁ x => ?_)))
    · have := G.depth
      have : recursionLimit = 1000 := rfl
      omega
    · intro y hy
      have hy' : y.1 ∈ ps := (List.of_mem_zip hy).1
      obtain ⟨i, hi⟩ := List.mem_iff_getElem?.mp hy'
      obtain ⟨b, hb⟩ := F.pre i _ hi
      have hm := List.mem_of_getElem? hb
      cases b with
      | false => exact .inl (by simpa using F.names _ _ hm)
      | true => exact .inr ⟨by simpa using F.names _ _ hm, F.cells _ _ hm⟩
    · subst he
      refine ⟨B.nolimit.keeps x.toInCall.keep, codeAny_func ?_⟩
      have good : Good n (cxOf w A fd f vars P s) := ⟨F.kind, F.glob, F.blt, G.deeper _⟩
      have R := rel_entry (A := A) F B hr hl x
      have O := own_entry (w := w) (A := A) (P := P) F x
      split at hf
      · rename_i dv vs' c' em
        refine wpAny_mono (hB w A s P good O _ _ _ _ s₁ em R) (fun fl s' h => ?_) fun _ _ e => e.elim
        obtain ⟨mu, R', v, rfl, hv⟩ := h
        exact answer R' hv hf
      · rename_i vs' c' em
        cases hf
        refine wpAny_mono (hB w A s P good O _ _ _ _ s₁ em R) (fun fl s' h => ?_) fun _ _ e => e.elim
        obtain ⟨mu, R', hfl⟩ := h
        rw [show fl = .next from hfl]
        exact answer (d := .d .none) R' rfl rfl
      · cases hf
  · cases hf
end Mine
end
section
open PySem PySem.Calls PySem.W PyProof.Rows PySem.Builtin PySem.Builtin.Str
set_option Elab.async false
set_option maxRecDepth 100000
namespace Mine

def tyOf : D → String
  | .str _ => "str"
  | .pc _ _ => "str"
  | .bytes _ => "bytes"
  | .pcb _ _ => "bytes"
  | .list _ => "list"
  | .tup _ => "tuple"
  | .dict _ => "dict"
  | .int _ => "int"
  | .bool _ => "bool"
  | .none => "NoneType"
theorem typeIs_of {w : World} {P : Addr → Prop} {s : Shared} {d : D} {v : Value} (r : Rd w P s.heap d v) : s.TypeIs v (tyOf d) ∧ ∀ a, v = .ref a → ∃ ob, s.heap.get? a = some ob ∧ ob.dict = none := by
  cases d with
  | none => rw [rd_none r]; exact ⟨rfl, fun a e => by cases e⟩
  | bool b => rw [rd_bool r]; exact ⟨rfl, fun a e => by cases e⟩
  | int i => obtain ⟨t, rfl⟩ := rd_int r; exact ⟨rfl, fun a e => by cases e⟩
  | str i => obtain ⟨t, rfl⟩ := rd_str r; exact ⟨rfl, fun a e => by cases e⟩
  | pc i => obtain ⟨t, rfl⟩ := rd_pc r; exact ⟨rfl, fun a e => by cases e⟩
  | bytes i => obtain ⟨t, rfl⟩ := rd_bytes r; exact ⟨rfl, fun a e => by cases e⟩
  | pcb i => obtain ⟨t, rfl⟩ := rd_pcb r; exact ⟨rfl, fun a e => by cases e⟩
  | list ds => obtain ⟨a, vs, n, rfl, _, hg, _⟩ := rd_list r; exact ⟨⟨_, hg, rfl⟩, fun b e => by cases e; exact ⟨_, hg, rfl⟩⟩
  | tup ds => obtain ⟨a, vs, n, rfl, _, hg, _⟩ := rd_tup r; exact ⟨⟨_, hg, rfl⟩, fun b e => by cases e; exact ⟨_, hg, rfl⟩⟩
  | dict ds => obtain ⟨a, vs, n, rfl, _, _, hg, _⟩ := rd_dict r; exact ⟨⟨_, hg, rfl⟩, fun b e => by cases e; exact ⟨_, hg, rfl⟩⟩

section
variable {cx : Cx} {n : Nat}
def eMeth (T : String) (f : List D → Option D) (mo : EM) (ma : AM) : EM := fun vs c => match mo vs c with
  | some (.d x, c1) => if tyOf x = T then (match ma vs c1 with
    | some (ds, c2) => (match f (x :: ds) with
      | some d => some (.d d, c2)
      | none => none)
    | none => none) else none
  | _ => none
theorem refE_meth {o : Expr} {name : Str} {apos pos : Pos} {args : List Expr} {T id : String} {mo : EM} {ma : AM} {f : List D → Option D} (G : Good n cx) (pa : PlainAttrs T) (slot : Slot T name id)
    (hty : typeOf (.builtin id) = pure (.type "method_descriptor")) (S : Spec n (fun vs => call (.builtin id) vs) f) (ho : RefE cx o mo) (ha : RefA cx pos args ma)
    (hbase : attributeBase o name cx.env (eval o cx.env) = eval o cx.env := by rfl)
    (hfew : ((backTo pos (starEach args cx.env)).all (fun x => !x.1) && (backToKw pos (keywordEach [] cx.env)).all (fun x => x.1.isSome)
      && decide (args.length + ([] : List Keyword).length + (if ([] : List Keyword).isEmpty then 0 else 1) < 30)) = true := by rfl)
    (hline : (apos.endLine == pos.line) = true := by rfl) (hp : (backTo pos (starEach args cx.env)).any (·.1) = false := by rfl) : RefE cx (.Call (.Attribute o name apos) args [] pos) (eMeth T f mo ma) := by
  intro vs c d c' mu s hm R
  unfold eMeth at hm
  split at hm
  · rename_i x c1 e1
    split at hm
    · rename_i hT
      split at hm
      · rename_i ds c2 e2
        split at hm
        · rename_i d' e3
          cases hm
          refine wpAny_Call_method hbase hfew hline pa slot hty (wpAny_mono (ho vs c _ c1 mu s e1 R) (fun ov s₁ h1 => ?_) fun _ _ e => e)
          have ht := typeIs_of (s := s₁) (show Rd cx.w (cx.Ok mu) s₁.heap x ov from h1.rv)
          rw [hT] at ht
          refine ⟨ht.1, ht.2, handed_builtin id _ _ _ _ _ _ _ hp (evalArgs_A hp (wpAny_mono (ha vs c1 _ _ mu s₁ e2 h1.rel) (fun vals s₂ h2 => ?_) fun _ _ e => e))⟩
          exact ⟨h2.rel.hb, PostE.ofSpec (vals := ov :: vals) S G.room h2.rel (h1.stp.trans h2.stp) (Rds.cons (h1.rv.stp h2.stp) h2.rv) e3⟩
        · cases hm
      · cases hm
    · cases hm
  · cases hm
end

/-! texts -/
def fEnds : List D → Option D
  | [.str x, .str y] => some (.bool (Txt.endswith (strOf x) (strOf y)))
  | [.pc q b, .str [40]] => some (.bool b)
  | _ => none
theorem endswith_pc (q : Nat) (b : Bool) : Txt.endswith (strOf (pText q b)) (strOf [40]) = b := by
  unfold pText
  have : ∀ x, x = qText q → Txt.endswith (strOf (x ++ [bText b])) (strOf [40]) = b := by
    intro x hx
    match q, hx with
    | 0, hx => subst hx; cases b <;> decide +kernel
    | 1, hx => subst hx; cases b <;> decide +kernel
    | 2, hx => subst hx; cases b <;> decide +kernel
    | q + 3, hx => subst hx; cases b <;> (show Txt.endswith (strOf ([34, 34, 32, 34, 41, 34] ++ _)) _ = _; decide +kernel)
  exact this _ rfl
theorem spec_ends : Spec 0 (fun vs => call (.builtin "str.endswith") vs) fEnds := by
  intro w A s P vs ds d G B hr hf
  unfold fEnds at hf
  split at hf
  · cases hf
    obtain ⟨a, b, rfl, ha, hb⟩ := hr.two
    obtain ⟨t, rfl⟩ := rd_str ha
    obtain ⟨u, rfl⟩ := rd_str hb
    exact SC.endswith post_bool
  · rename_i q b
    cases hf
    obtain ⟨a, b', rfl, ha, hb⟩ := hr.two
    obtain ⟨t, rfl⟩ := rd_pc ha
    obtain ⟨u, rfl⟩ := rd_str hb
    refine SC.endswith ?_
    rw [endswith_pc]
    exact post_bool
  · cases hf
def fStarts : List D → Option D
  | [.str x, .str y] => some (.bool (Txt.startswith (strOf x) (strOf y)))
  | _ => none
theorem spec_starts : Spec 0 (fun vs => call (.builtin "str.startswith") vs) fStarts := by
  intro w A s P vs ds d G B hr hf
  unfold fStarts at hf
  split at hf
  · cases hf
    obtain ⟨a, b, rfl, ha, hb⟩ := hr.two
    obtain ⟨t, rfl⟩ := rd_str ha
    obtain ⟨u, rfl⟩ := rd_str hb
    exact SC.startswith post_bool
  · cases hf
def fCount : List D → Option D
  | [.str x, .str y] => some (.int (Txt.count (strOf x) (strOf y)))
  | _ => none
theorem spec_count : Spec 0 (fun vs => call (.builtin "str.count") vs) fCount := by
  intro w A s P vs ds d G B hr hf
  unfold fCount at hf
  split at hf
  · cases hf
    obtain ⟨a, b, rfl, ha, hb⟩ := hr.two
    obtain ⟨t, rfl⟩ := rd_str ha
    obtain ⟨u, rfl⟩ := rd_str hb
    exact SC.count post_int
  · cases hf
/-- lines -/
def fLines : List D → Option D
  | [.str x] => if x.length ≤ 1000 ∧ (lineCuts (strOf x)).length ≤ 1000 then
      (if (lineCuts (strOf x) == [(0, x.length)]) = true then some (.list [.str x]) else some (.list ((linesOf (strOf x)).map fun y => .str y.cps.toList))) else none
  | _ => none
theorem rds_strs {w : World} {P : Addr → Prop} {h : Heap} : ∀ (l : List PySem.Str) (tk : Nat), Rds w P h (l.map fun y => .str y.cps.toList) (strsFrom tk l)
  | [], _ => Rds.nil
  | x :: l, tk => by
    refine Rds.cons ⟨tk, ?_⟩ (rds_strs l (tk + 1))
    cases x; simp [strOf]
theorem spec_lines : Spec 0 (fun vs => call (.builtin "str.splitlines") vs) fLines := by
  intro w A s P vs ds d G B hr hf
  unfold fLines at hf
  split at hf
  · rename_i x
    split at hf
    · rename_i hl
      obtain ⟨a, rfl, ha⟩ := hr.one
      obtain ⟨t, rfl⟩ := rd_str ha
      refine call_meets F.slot_str_splitlines rfl F.entry_str_splitlines (F.args_str_splitlines_1 _) (meets_str_splitlines (strOf x) t (by rw [strOf_length]; exact line_le hl.1) (line_le hl.2)) ?_
      rw [strOf_length]
      split at hf
      · rename_i h
        cases hf
        rw [if_pos h]
        exact post_list (tk := s.toks) (vs := [_]) (Rds.cons ha Rds.nil)
      · rename_i h
        cases hf
        rw [if_neg h]
        exact post_list (rds_strs _ _)
    · cases hf
  · cases hf
end Mine
end
section
open PySem PySem.Calls PySem.W PyProof.Rows PySem.Builtin PySem.Builtin.Str PySem.Builtin._codecs
set_option Elab.async false
set_option maxRecDepth 100000
namespace Mine
theorem forIn_two {β : Type} (n : Nat) (f : Nat → β → Sem (ForInStep β)) (b b' : β) (h0 : 0 < n) (h : ∀ i, f i b = pure (.yield b')) (h' : ∀ i, f i b' = pure (.done b')) :
    (forIn [0 : n] b f : Sem β) = pure b' := by
  rw [Std.Legacy.Range.forIn_eq_forIn_range']
  have hs : ([0 : n] : Std.Legacy.Range).size = n := by simp [Std.Legacy.Range.size]
  rw [hs]
  cases n with
  | zero => omega
  | succ n =>
    rw [List.range'_succ, List.forIn_cons, h]
    show (forIn (List.range' (0 + 1) n) b' f : Sem β) = _
    cases n with
    | zero => rfl
    | succ n =>
      rw [List.range'_succ, List.forIn_cons, h']
      rfl
theorem utf8_fold : ∀ (l : List Nat) (acc : Array UInt8), (∀ c ∈ l, c < 128) → l.foldl (fun acc y => acc ++ (Str.utf8Of y).toArray) acc = acc ++ (l.map Nat.toUInt8).toArray
  | [], acc, _ => by simp
  | c :: l, acc, h => by
    have hc : Str.utf8Of c = [c.toUInt8] := by
      unfold Str.utf8Of
      rw [if_pos (h c (by simp))]
    rw [List.foldl_cons, hc, utf8_fold l _ fun y hy => h y (by simp [hy])]
    simp
theorem encode_ascii (id : String) (self : Value) (x : List Nat) (h : ∀ c ∈ x, c < 128) (hl : x.length ≤ sizeLine) : encodeNarrow id utf8Codec none self (strOf x) = pure (bytesOf x) := by
  by_cases hx : x = []
  · subst hx
    unfold encodeNarrow
    dsimp only
    rw [Std.Legacy.Range.forIn_eq_forIn_range']
    rfl
  have hpos : 0 < x.length := List.length_pos_iff.mpr hx
  have hbad : ∀ c ∈ x, utf8Codec.bad c = false := fun c hc => by
    show Str.isSurrogate c = false
    unfold Str.isSurrogate
    have := h c hc
    simp; omega
  unfold encodeNarrow
  dsimp only
  rw [forIn_two (b' := (x.length, bytesOf x, {})) (h0 := by rw [strOf_length]; exact hpos)]
  · rfl
  · intro i
    obtain ⟨c, r, rfl⟩ := List.exists_cons_of_ne_nil hx
    have e0 : (strOf (c :: r)).cps[0]? = some c := by simp [strOf]
    rw [if_neg (by simp)]
    simp only [e0, hbad c (by simp), Bool.not_false, if_true]
    have hclean : (((strOf (c :: r)).cps.extract 0 (strOf (c :: r)).cps.size).findIdx? utf8Codec.bad).getD ((strOf (c :: r)).cps.extract 0 (strOf (c :: r)).cps.size).size = (c :: r).length := by
      have : ((strOf (c :: r)).cps.extract 0 (strOf (c :: r)).cps.size) = (c :: r).toArray := by simp [strOf]
      rw [this]
      have hn : (c :: r).toArray.findIdx? utf8Codec.bad = none := by
        rw [Array.findIdx?_eq_none_iff]
        intro y hy
        exact hbad y (by simpa using hy)
      rw [hn]; simp
    rw [hclean]
    have hf := utf8_fold (c :: r) #[] h
    have e1 : (((strOf (c :: r)).cps.extract 0 (strOf (c :: r)).cps.size).extract 0 (c :: r).length) = (c :: r).toArray := by simp [strOf]
    rw [e1]
    simp only [Nat.zero_add]
    rw [← Array.foldl_toList]
    rw [show utf8Codec.bytesOf = Str.utf8Of from rfl, hf]
    simp [bytesOf]
  · intro i
    have e0 : (strOf x).cps[x.length]? = none := by simp [strOf]
    rw [if_neg (by simp only [bytesOf, List.size_toArray, List.length_map]; omega)]
    simp only [e0]
end Mine
namespace Mine
theorem forIn_walk {β : Type} (f : Nat → β → Sem (ForInStep β)) : ∀ (n a : Nat) (g : Nat → β), (∀ i j, j < n → f i (g j) = pure (.yield (g (j + 1)))) → (forIn (List.range' a n) (g 0) f : Sem β) = pure (g n)
  | 0, _, _, _ => rfl
  | n + 1, a, g, h => by
    rw [List.range'_succ, List.forIn_cons, h a 0 (by omega)]
    show (forIn (List.range' (a + 1) n) (g (0 + 1)) f : Sem β) = _
    exact forIn_walk f n (a + 1) (fun j => g (j + 1)) fun i j hj => h i (j + 1) (by omega)
theorem bytes_get {x : List Nat} {j : Nat} (hj : j < x.length) (h : ∀ c ∈ x, c < 128) : ((bytesOf x).getD j 0).toNat = x[j] := by
  have hs : j < (bytesOf x).size := by simpa [bytesOf] using hj
  rw [Array.getD_eq_getD_getElem?, Array.getElem?_eq_getElem hs]
  simp [bytesOf]
  have := h x[j] (List.getElem_mem hj)
  omega
theorem decode_ascii (id : String) (x : List Nat) (h : ∀ c ∈ x, c < 128) (hl : x.length ≤ sizeLine) : runDecoder id utf8Decoder none true (bytesOf x) 0 [] = pure (x.toArray, x.length) := by
  unfold runDecoder
  dsimp only
  rw [Std.Legacy.Range.forIn_eq_forIn_range']
  have hs : ([0 : (bytesOf x).size] : Std.Legacy.Range).size = x.length := by simp [Std.Legacy.Range.size, bytesOf]
  rw [hs]
  have st : (([0 : (bytesOf x).size] : Std.Legacy.Range).start) = 0 := rfl
  have sp : (([0 : (bytesOf x).size] : Std.Legacy.Range).step) = 1 := rfl
  rw [st, sp]
  refine Eq.trans (congrArg (fun m => m >>= _) (forIn_walk (β := Nat × Array Nat × Faults) _ x.length 0 (fun j => (j, (x.take j).toArray, ({} : Faults))) ?_)) ?_
  · intro i j hj
    have hsz : (bytesOf x).size = x.length := by simp [bytesOf]
    dsimp only
    rw [if_neg (by simp; omega), if_neg (by rw [hsz]; omega)]
    have hfind : utf8Decoder.find true (bytesOf x) j = .text [x[j]] (j + 1) := by
      show (match Bytes.utf8At (bytesOf x) j with
        | (.char c, nx) => Found.char c nx
        | (.bad _ stop reason, _) => _) = _
      have : Bytes.utf8At (bytesOf x) j = (.char x[j], j + 1) := by
        unfold Bytes.utf8At
        dsimp only
        rw [bytes_get hj h, if_pos (h _ (List.getElem_mem hj))]
      rw [this]
      rfl
    rw [hfind]
    dsimp only
    rw [List.take_succ_eq_append_getElem hj]
    simp
  · simp
end Mine

namespace Mine
def asciiB (x : List Nat) : Bool := x.all (· < 128) && decide (x.length ≤ 1000)
theorem asciiB_spec {x : List Nat} (h : asciiB x = true) : (∀ c ∈ x, c < 128) ∧ x.length ≤ 1000 := by
  unfold asciiB at h
  simp only [Bool.and_eq_true, List.all_eq_true, decide_eq_true_eq] at h
  exact h
theorem call_encode {w : World} {A : Around} {s : Shared} {x : List Nat} {t : Tok} {Q : Value → Shared → Prop} (h : asciiB x = true) (hq : Q (.bytes (bytesOf x) s.toks) { s with toks := s.toks + 1 }) :
    wpAny (model prog w) A (call (.builtin "str.encode") [.str (strOf x) t]) Q NoE s := by
  obtain ⟨ha, hl⟩ := asciiB_spec h
  refine call_meets (S := fun _ R s => R (.ok (.ret (.bytes (bytesOf x) s.toks))) { s with toks := s.toks + 1 }) F.slot_str_encode rfl F.entry_str_encode (F.args_str_encode_1 _) (.of_wp fun prog w A R s hS => ?_) hq
  rw [encode_tree, encodeRoad_utf8, encode_ascii _ _ _ ha (line_le hl)]
  exact wpAny_bind (wpAny_bind (wpAny_pure (wpAny_mkBytes (wpAny_pure ⟨_, rfl, hS⟩) (by simp only [bytesOf, List.size_toArray, List.length_map]; exact line_le hl))))
def fEncode : List D → Option D
  | [.str x] => if asciiB x = true then some (.bytes x) else none
  | [.pc q b] => some (.pcb q b)
  | _ => none
theorem ascii_pc (q : Nat) (b : Bool) : asciiB (pText q b) = true := by
  have : ∀ x, x = qText q → asciiB (x ++ [bText b]) = true := by
    intro x hx
    match q, hx with
    | 0, hx => subst hx; cases b <;> decide +kernel
    | 1, hx => subst hx; cases b <;> decide +kernel
    | 2, hx => subst hx; cases b <;> decide +kernel
    | q + 3, hx => subst hx; cases b <;> (show asciiB ([34, 34, 32, 34, 41, 34] ++ _) = _; decide +kernel)
  exact this _ rfl
theorem spec_encode : Spec 0 (fun vs => call (.builtin "str.encode") vs) fEncode := by
  intro w A s P vs ds d G B hr hf
  unfold fEncode at hf
  split at hf
  · split at hf
    · rename_i h
      cases hf
      obtain ⟨a, rfl, ha⟩ := hr.one
      obtain ⟨t, rfl⟩ := rd_str ha
      exact call_encode h ⟨Pur.tok .., ⟨_, rfl⟩⟩
    · cases hf
  · rename_i q b
    cases hf
    obtain ⟨a, rfl, ha⟩ := hr.one
    obtain ⟨t, rfl⟩ := rd_pc ha
    exact call_encode (ascii_pc q b) ⟨Pur.tok .., ⟨_, rfl⟩⟩
  · cases hf
theorem decode_empty (t : Tok) : «bytes.decode» ⟨[.bytes #[] t], []⟩ = (do rule "bytes.decode.empty"; retStr Str.empty) := by kernel_rfl
def fDecode : List D → Option D
  | [.bytes x] => if asciiB x = true then some (.str x) else none
  | _ => none
theorem spec_decode : Spec 0 (fun vs => call (.builtin "bytes.decode") vs) fDecode := by
  intro w A s P vs ds d G B hr hf
  unfold fDecode at hf
  split at hf
  · rename_i x
    split at hf
    · rename_i h
      cases hf
      obtain ⟨a, rfl, ha⟩ := hr.one
      obtain ⟨t, rfl⟩ := rd_bytes ha
      obtain ⟨hx, hl⟩ := asciiB_spec h
      cases x with
      | nil =>
        refine call_meets (S := fun _ R s => R (.ok (.ret (.str Str.empty s.toks))) { s with toks := s.toks + 1 }) FB.slot_bytes_decode (typeIs_bytes _ _ _) FB.entry_bytes_decode (FB.args_bytes_decode_1 _) (.of_wp fun prog w A R s hS => ?_) ⟨Pur.tok .., ⟨s.toks, rfl⟩⟩
        show wpAny _ _ («bytes.decode» ⟨[.bytes #[] t], []⟩) _ _ s
        rw [decode_empty]
        exact wpAny_bind (wpAny_rule (wpAny_bind (wpAny_mkStr (wpAny_pure ⟨_, rfl, hS⟩) (by decide))))
      | cons c r =>
        have hb : bytesOf (c :: r) = (c.toUInt8 :: r.map Nat.toUInt8).toArray := rfl
        rw [hb]
        refine KBd.decode (x := strOf (c :: r)) (n := (c :: r).length) (fun id => ?_) ?_ fun t' k => ⟨Pur.tok .., ⟨_, rfl⟩⟩
        · have := decode_ascii id (c :: r) hx (line_le hl)
          rw [hb] at this
          exact this
        · rw [strOf_length]; omega
    · cases hf
  · cases hf

/-! built-in functions -/
def fLen : List D → Option D
  | [.list ds] => if ds.length ≤ 1000 then some (.int ds.length) else none
  | [.str x] => if x.length ≤ 1000 then some (.int x.length) else none
  | _ => none
theorem spec_len : Spec 0 (fun vs => call (.builtin "len") vs) fLen := by
  intro w A s P vs ds d G B hr hf
  unfold fLen at hf
  split at hf
  · split at hf
    · rename_i h
      cases hf
      obtain ⟨a, rfl, ha⟩ := hr.one
      obtain ⟨a, va, na, rfl, hpa, hga, hra⟩ := rd_list ha
      refine call_len_list (l := a) (items := va.toArray) ⟨_, hga, rfl, na, rfl⟩ (by simp [hra.length]; omega) ?_
      rw [show ((va.toArray.size : Nat) : Int) = _ by rw [List.size_toArray, hra.length]]
      exact post_int
    · cases hf
  · rename_i x
    split at hf
    · rename_i h
      cases hf
      obtain ⟨a, rfl, ha⟩ := hr.one
      obtain ⟨t, rfl⟩ := rd_str ha
      refine len_str (by rw [strOf_length]; omega) ?_
      rw [strOf_length]
      exact post_int
    · cases hf
  · cases hf
def asInts : List D → Option (List Int)
  | [] => some []
  | .int i :: r => (match asInts r with
    | some l => some (i :: l)
    | none => none)
  | _ => none
theorem rds_ints {w : World} {P : Addr → Prop} {h : Heap} : ∀ {ds : List D} {ns : List Int} {vs : List Value}, asInts ds = some ns → Rds w P h ds vs → IntsAre vs ns
  | [], _, _, e, r => by cases e; rw [r.nil_inv]; exact .nil
  | .int i :: ds, _, _, e, r => by
    unfold asInts at e
    split at e
    · rename_i l el
      cases e
      obtain ⟨v, rest, rfl, hv, hr⟩ := r.cons_inv
      obtain ⟨t, rfl⟩ := rd_int hv
      exact .cons _ _ (rds_ints el hr)
    · cases e
  | .none :: _, _, _, e, _ | .bool _ :: _, _, _, e, _ | .str _ :: _, _, _, e, _ | .bytes _ :: _, _, _, e, _ | .tup _ :: _, _, _, e, _ | .list _ :: _, _, _, e, _ | .dict _ :: _, _, _, e, _ | .pc _ _ :: _, _, _, e, _ | .pcb _ _ :: _, _, _, e, _ => by simp [asInts] at e
def fSum : List D → Option D
  | [.list ds] => (match asInts ds with
    | some ns => some (.int ns.sum)
    | none => none)
  | _ => none
theorem spec_sum : Spec 0 (fun vs => call (.builtin "sum") vs) fSum := by
  intro w A s P vs ds d G B hr hf
  unfold fSum at hf
  split at hf
  · split at hf
    · rename_i ns e
      cases hf
      obtain ⟨a, rfl, ha⟩ := hr.one
      obtain ⟨a, va, na, rfl, hpa, hga, hra⟩ := rd_list ha
      have hi := rds_ints e hra
      obtain ⟨xs, hxs⟩ := hi.allInts.items
      have hn := hi.numsOf
      refine sum_intListG (xs := xs) G.handled ⟨_, hga, rfl, na, by rw [← hxs]⟩ fun h' tk t' hk => ?_
      have : preSum (numAt xs) xs.size = ns.sum := by
        rw [← hn, show va = (va.toArray).toList from rfl, hxs, nums_intItems, preSum_eq, List.take_of_length_le (by simp)]
      rw [this]
      exact ⟨Pur.of hk, ⟨_, rfl⟩⟩
    · cases hf
  · cases hf
def fMax : List D → Option D
  | [.int a, .int b] => some (.int (if b > a then b else a))
  | _ => none
theorem spec_max : Spec 0 (fun vs => call (.builtin "max") vs) fMax := by
  intro w A s P vs ds d G B hr hf
  unfold fMax at hf
  split at hf
  · cases hf
    obtain ⟨a, b, rfl, ha, hb⟩ := hr.two
    obtain ⟨t, rfl⟩ := rd_int ha
    obtain ⟨u, rfl⟩ := rd_int hb
    refine max_two_ints G.handled fun h' tk hk => ⟨Pur.of hk, ?_⟩
    split
    · exact ⟨_, rfl⟩
    · exact ⟨_, rfl⟩
  · cases hf
def fChr : List D → Option D
  | [.int i] => if 0 ≤ i ∧ i ≤ 1000 then some (.str [i.toNat]) else none
  | _ => none
theorem spec_chr : Spec 0 (fun vs => call (.builtin "chr") vs) fChr := by
  intro w A s P vs ds d G B hr hf
  unfold fChr at hf
  split at hf
  · split at hf
    · rename_i h
      cases hf
      obtain ⟨a, rfl, ha⟩ := hr.one
      obtain ⟨t, rfl⟩ := rd_int ha
      exact PySem.P.chr_of_int (by simp; omega) ⟨Pur.tok .., ⟨_, rfl⟩⟩
    · cases hf
  · cases hf
def fOrd : List D → Option D
  | [.str [c]] => some (.int c)
  | _ => none
theorem spec_ord : Spec 0 (fun vs => call (.builtin "ord") vs) fOrd := by
  intro w A s P vs ds d G B hr hf
  unfold fOrd at hf
  split at hf
  · cases hf
    obtain ⟨a, rfl, ha⟩ := hr.one
    obtain ⟨t, rfl⟩ := rd_str ha
    exact PySem.P.ord_of_char post_int
  · cases hf
/-- a digit's text -/
def fStr : List D → Option D
  | [.int (.ofNat i)] => if i ≤ 9 then some (.str [48 + i]) else none
  | _ => none
theorem digit_text : ∀ i : Nat, i ≤ 9 → PySem.Str.ofString (toString (Int.ofNat i)) = Mine.strOf [48 + i] := by
  intro i hi
  have h : ∀ i : Fin 10, PySem.Str.ofString (toString (Int.ofNat i.val)) = Mine.strOf [48 + i.val] := by decide +kernel
  exact h ⟨i, by omega⟩
theorem spec_str : Spec 0 (fun vs => call (.type "str") vs) fStr := by
  intro w A s P vs ds d G B hr hf
  unfold fStr at hf
  split at hf
  · rename_i i
    split at hf
    · rename_i h
      cases hf
      obtain ⟨a, rfl, ha⟩ := hr.one
      obtain ⟨t, rfl⟩ := rd_int ha
      refine PySem.P.str_of_int ?_ ⟨Pur.tok .., ⟨s.toks, ?_⟩⟩
      · exact Nat.lt_of_le_of_lt (Nat.log2_le_self _) (by show i < 1920; omega)
      · rw [digit_text i h]
    · cases hf
  · cases hf
def fJoin : List D → Option D
  | [.str x, .list ds] => (match asStrs ds with
    | some l => if JoinOk (strOf x) (l.map strOf) = true then some (.str (Txt.join (strOf x) (l.map strOf)).cps.toList) else none
    | none => none)
  | _ => none
where asStrs : List D → Option (List (List Nat))
  | [] => some []
  | .str i :: r => (match asStrs r with
    | some l => some (i :: l)
    | none => none)
  | _ => none
theorem rds_texts {w : World} {P : Addr → Prop} {h : Heap} : ∀ {ds : List D} {ns : List (List Nat)} {vs : List Value}, fJoin.asStrs ds = some ns → Rds w P h ds vs → ∃ l : List (PySem.Str × Tok), vs = strValues l ∧ l.map (·.1) = ns.map Mine.strOf
  | [], _, _, e, r => by cases e; rw [r.nil_inv]; exact ⟨[], rfl, rfl⟩
  | .str i :: ds, _, _, e, r => by
    unfold fJoin.asStrs at e
    split at e
    · rename_i l el
      cases e
      obtain ⟨v, rest, rfl, hv, hr⟩ := r.cons_inv
      obtain ⟨t, rfl⟩ := rd_str hv
      obtain ⟨l', rfl, e'⟩ := rds_texts el hr
      exact ⟨(Mine.strOf i, t) :: l', rfl, by simp [e']⟩
    · cases e
  | .none :: _, _, _, e, _ | .bool _ :: _, _, _, e, _ | .int _ :: _, _, _, e, _ | .bytes _ :: _, _, _, e, _ | .tup _ :: _, _, _, e, _ | .list _ :: _, _, _, e, _ | .dict _ :: _, _, _, e, _ | .pc _ _ :: _, _, _, e, _ | .pcb _ _ :: _, _, _, e, _ => by simp [fJoin.asStrs] at e
theorem spec_join : Spec 0 (fun vs => call (.builtin "str.join") vs) fJoin := by
  intro w A s P vs ds d G B hr hf
  unfold fJoin at hf
  split at hf
  · split at hf
    · rename_i l el
      split at hf
      · rename_i hj
        cases hf
        obtain ⟨a, b, rfl, ha, hb⟩ := hr.two
        obtain ⟨t, rfl⟩ := rd_str ha
        obtain ⟨b, vb, nb, rfl, hpb, hgb, hrb⟩ := rd_list hb
        obtain ⟨l', rfl, e'⟩ := rds_texts el hrb
        refine SC.join (l := l') ⟨_, hgb, rfl, nb, rfl⟩ e' hj fun t' k => ⟨Pur.tok .., ⟨t', ?_⟩⟩
        simp [Mine.strOf]
      · cases hf
    · cases hf
  · cases hf
end Mine
end
section
open PySem PySem.Calls PySem.W PyProof.Rows
set_option Elab.async false
set_option maxRecDepth 100000
namespace Mine
section
variable {cx : Cx} {n : Nat} {mu : Mu}

/-- the own object stands where the name says -/
theorem ownVar (G : Good n cx) {vs : Vars} {c : MU} {s : Shared} (R : Rel cx vs mu c s) {x : Str} {i : Nat} {b : Bool} (hi : cx.vs[i]? = some (x, b)) (hk : cx.env.kindOf x = some (if b then .cell else .local))
    (hc : b = true → (cx.env.cells.lookup x).isSome = true) (hd : vs[i]? = some (some .own)) {pos : Pos} (hdb : (x == ("__debug__" : Str)) = false) :
    ∃ a d, mu = some (a, d) ∧ ∀ Q, Q (.ref a) s → wpAny (model prog cx.w) cx.A (eval (.Name x pos) cx.env) Q NoE s := by
  obtain ⟨m, cm, F, hv⟩ := R.frm
  obtain ⟨v, h1, h2⟩ := hv i x b _ hi hd
  obtain ⟨a, d, hmu, rfl⟩ := h2
  refine ⟨a, d, hmu, fun Q hQ => wpAny_Name ?_ hdb⟩
  cases b with
  | false => exact wpAny_loadName_local G.kind (by simpa using hk) F.ns h1 hQ
  | true =>
    obtain ⟨ca, hca⟩ := Option.isSome_iff_exists.mp (hc rfl)
    refine wpAny_loadName_cell G.kind (by simpa using hk) hca ?_ hQ
    have := F.cell x ca hca
    rwa [show cm x = some _ from h1] at this

def eAppend (i : Nat) (ma : AM) : EM := fun vs c => match vs[i]? with
  | some (some .own) => (match c, ma vs c with
    | .list _, some ([x], .list ds) => if ds.length ≤ 100 then some (.d .none, .list (ds ++ [x])) else none
    | _, _ => none)
  | _ => none
theorem refE_append (G : Good n cx) {x : Str} {p apos pos : Pos} {args : List Expr} {i : Nat} {b : Bool} {ma : AM} (hi : cx.vs[i]? = some (x, b)) (hk : cx.env.kindOf x = some (if b then .cell else .local)) (ha : RefA cx pos args ma)
    (hc : b = true → (cx.env.cells.lookup x).isSome = true := by intro h; first | (cases h; done) | rfl)
    (hbase : attributeBase (.Name x p) "append" cx.env (eval (.Name x p) cx.env) = eval (.Name x p) cx.env := by rfl)
    (hfew : ((backTo pos (starEach args cx.env)).all (fun x => !x.1) && (backToKw pos (keywordEach [] cx.env)).all (fun x => x.1.isSome)
      && decide (args.length + ([] : List Keyword).length + (if ([] : List Keyword).isEmpty then 0 else 1) < 30)) = true := by rfl)
    (hline : (apos.endLine == pos.line) = true := by rfl) (hp : (backTo pos (starEach args cx.env)).any (·.1) = false := by rfl) (hdb : (x == ("__debug__" : Str)) = false := by decide) :
    RefE cx (.Call (.Attribute (.Name x p) "append" apos) args [] pos) (eAppend i ma) := by
  intro vs c d c' mu s hm R
  unfold eAppend at hm
  split at hm
  · rename_i hd
    split at hm
    · rename_i ds0 y ds e1
      split at hm
      · rename_i hl
        cases hm
        obtain ⟨a, da, rfl, hname⟩ := ownVar G R hi hk hc hd (pos := p) hdb
        refine wpAny_Call_method hbase hfew hline F.plainAttrs_list F.slot_list_append F.type_list_append (hname _ ?_)
        have hty : s.TypeIs (.ref a) "list" ∧ ∃ ob, s.heap.get? a = some ob ∧ ob.dict = none := by
          obtain ⟨a', vs', k, e, hg, hr⟩ := R.mobj
          cases e
          exact ⟨⟨_, hg, rfl⟩, _, hg, rfl⟩
        refine ⟨hty.1, fun b e => by cases e; exact hty.2, handed_builtin _ _ _ _ _ _ _ _ hp (evalArgs_A hp (wpAny_mono (ha vs _ _ _ _ s e1 R) (fun vals s₁ h1 => ?_) fun _ _ e => e))⟩
        refine ⟨h1.rel.hb, ?_⟩
        obtain ⟨v, rfl, hv⟩ := h1.rv.one
        have mo := h1.rel.mobj
        obtain ⟨a', vs', k, e, hg, hr⟩ := mo
        cases e
        refine call_meets F.slot_list_append ⟨_, hg, rfl⟩ F.entry_list_append (F.args_list_append_2 _ _) (list_append a vs'.toArray k v (by simp only [List.size_toArray, hr.length]; exact line_le (by omega))) ⟨hg, ?_⟩
        have kS : Stp (some (a, a)) s₁ { s₁ with heap := s₁.heap.update a (Obj.mapSeq fun x_1 => x_1.push v) } := ⟨⟨_, _, rfl⟩, fun b o hb e => by
          have : b ≠ a := fun q => hb (by rw [q]; exact .inl rfl)
          exact (Heap.get?_update_other _ _ (Ne.symm this)).trans e⟩
        have up : ∀ b o, cx.Ok (some (a, a)) b → NF o → s₁.heap.get? b = some o → cx.Ok (some (a, a)) b ∧ (s₁.heap.update a (Obj.mapSeq fun x_1 => x_1.push v)).get? b = some o := fun b o hb _ e => ⟨hb, kS.keep b o hb.2.2.2 e⟩
        refine ⟨h1.rel.stp kS ?_, h1.stp.trans kS, rfl⟩
        have hu := IsL.update (show IsL s₁.heap a vs'.toArray k from hg) (fun x_1 => x_1.push v)
        refine ⟨a, vs' ++ [v], (if ((vs'.toArray.push v).size == vs'.toArray.size) = true then k else k + 1), rfl, ?_, ?_⟩
        · rw [show (vs' ++ [v]).toArray = vs'.toArray.push v by simp]
          exact hu
        · exact (hr.mono up).append (Rds.cons (hv.mono up) Rds.nil)
      · cases hm
    · cases hm
  · cases hm
end
end Mine
namespace Mine
/-! dicts -/
def Rkv (w : World) (P : Addr → Prop) (h : Heap) : List (List Nat × D) → List (PySem.Str × Value) → Prop
  | [], kvs => kvs = []
  | (k, d) :: es, kvs => ∃ v r, kvs = (strOf k, v) :: r ∧ Rd w P h d v ∧ Rkv w P h es r
section
variable {w : World} {P P' : Addr → Prop} {h h' : Heap}
theorem Rkv.mono (hk : ∀ b o, P b → NF o → h.get? b = some o → P' b ∧ h'.get? b = some o) : ∀ {es : List (List Nat × D)} {kvs : List (PySem.Str × Value)}, Rkv w P h es kvs → Rkv w P' h' es kvs
  | [], _, x => x
  | (k, d) :: es, _, x => by
    obtain ⟨v, r, rfl, hd, hr⟩ := x
    exact ⟨v, r, rfl, hd.mono hk, Rkv.mono hk hr⟩
theorem Rkv.keys : ∀ {es : List (List Nat × D)} {kvs : List (PySem.Str × Value)}, Rkv w P h es kvs → kvs.map (·.1) = es.map fun e => strOf e.1
  | [], _, x => by rw [show _ = [] from x]; rfl
  | (k, d) :: es, _, x => by
    obtain ⟨v, r, rfl, hd, hr⟩ := x
    simp [Rkv.keys hr]
theorem Rkv.length {es : List (List Nat × D)} {kvs : List (PySem.Str × Value)} (x : Rkv w P h es kvs) : kvs.length = es.length := by
  have := congrArg List.length x.keys
  simpa using this
theorem Rde.kvs : ∀ {es : List (List Nat × D)} {ens : List DictEntry}, Rde w P h es ens →
    ∃ kvs : List (PySem.Str × Value), Pairs (strKind prog w) ens kvs ∧ Rkv w P h es kvs ∧ (∀ e ∈ ens, ∃ k, (strKind prog w).is k e.key = true ∧ e.hash = (strKind prog w).hash k)
  | [], _, x => by
    rw [x.nil_inv]
    exact ⟨[], .nil, rfl, (fun _ h => by cases h)⟩
  | (k, d) :: es, _, x => by
    obtain ⟨t, v, r, rfl, hd, hr⟩ := x.cons_inv
    obtain ⟨kvs, h1, h2, h3⟩ := Rde.kvs hr
    have his : (strKind prog w).is (strOf k) (.str (strOf k) t) = true := by show (strOf k == strOf k) = true; exact beq_self_eq_true _
    refine ⟨(strOf k, v) :: kvs, .cons his rfl h1, ⟨v, kvs, rfl, hd, h2⟩, fun e he => ?_⟩
    rcases List.mem_cons.mp he with rfl | he
    · exact ⟨strOf k, his, rfl⟩
    · exact h3 e he
theorem Rde.dictOf {es : List (List Nat × D)} {ens : List DictEntry} {a : Addr} {n : Nat} (x : Rde w P h es ens) (hn : (es.map (·.1)).Nodup) (hg : h.get? a = some { cls := .type "dict", data := .dict ens.toArray n }) :
    ∃ kvs : List (PySem.Str × Value), h.DictOf (strKind prog w) a kvs ∧ Rkv w P h es kvs := by
  obtain ⟨kvs, h1, h2, h3⟩ := x.kvs
  refine ⟨kvs, ⟨_, ens.toArray, n, hg, ⟨rfl, rfl, rfl⟩, rfl, ?_, by simpa using h1, by rw [h2.keys]; exact nodup_strs hn⟩, h2⟩
  intro e he; exact h3 e (by simpa using he)
theorem rde_of : ∀ {es : List (List Nat × D)} {kvs : List (PySem.Str × Value)} {ens : List DictEntry}, Rkv w P h es kvs → Pairs (strKind prog w) ens kvs → (∀ e ∈ ens, ∃ k, (strKind prog w).is k e.key = true ∧ e.hash = (strKind prog w).hash k) → Rde w P h es ens
  | [], _, _, x, hp, _ => by
    rw [show _ = [] from x] at hp
    cases hp
    simp only [Rde]
  | (k, d) :: es, _, _, x, hp, hk => by
    obtain ⟨v, r, rfl, hd, hr⟩ := x
    cases hp with
    | @cons e kv ens' kvs' h1 h2 h3 =>
      have hr' := rde_of hr h3 fun e he => hk e (by simp [he])
      obtain ⟨k', hk1, hk2⟩ := hk e (by simp)
      obtain ⟨t, ht⟩ := Value.isStrOf_shape h1
      have : k' = strOf k := by
        rw [ht] at hk1
        exact (eq_of_beq (show (strOf k == k') = true from hk1)).symm
      subst this
      simp only [Rde]
      refine ⟨t, v, ens', ?_, hd, hr'⟩
      obtain ⟨eh, ek, ev⟩ := e
      simp only at ht hk2 h2
      rw [ht, hk2, h2]
      rfl
theorem dictOf_inv {es : List (List Nat × D)} {kvs : List (PySem.Str × Value)} {a : Addr} (hm : h.DictOf (strKind prog w) a kvs) (hr : Rkv w P h es kvs) :
    ∃ ens n, h.get? a = some { cls := .type "dict", data := .dict (ens : List DictEntry).toArray n } ∧ Rde w P h es ens := by
  obtain ⟨o, es', ep, ho, hc, hd, hk, hp, _⟩ := hm
  refine ⟨es'.toList, ep, ?_, rde_of hr hp fun e he => hk e (by simpa using he)⟩
  obtain ⟨c, dd, dt, sl⟩ := o
  obtain ⟨rfl, rfl, rfl⟩ := hc
  simp only at hd
  subst hd
  simpa using ho
/-- storing a key -/
def putD (es : List (List Nat × D)) (k : List Nat) (d : D) : List (List Nat × D) :=
  if es.any (fun e => e.1 == k) then es.map (fun e => if e.1 == k then (k, d) else e) else es ++ [(k, d)]
theorem Rkv.anyKey {k : List Nat} : ∀ {es : List (List Nat × D)} {kvs : List (PySem.Str × Value)}, Rkv w P h es kvs → kvs.any (fun kv => decide (kv.1 = strOf k)) = es.any fun e => e.1 == k
  | [], _, x => by rw [show _ = [] from x]; rfl
  | (k', d) :: es, _, x => by
    obtain ⟨v, r, rfl, hd, hr⟩ := x
    simp only [List.any_cons]
    rw [Rkv.anyKey hr]
    congr 1
    rw [Bool.eq_iff_iff]
    simp only [decide_eq_true_eq, beq_iff_eq]
    exact ⟨strOf_inj, fun e => by rw [e]⟩
theorem Rkv.mapKey {k : List Nat} {d : D} {v : Value} (hv : Rd w P h d v) : ∀ {es : List (List Nat × D)} {kvs : List (PySem.Str × Value)}, Rkv w P h es kvs →
    Rkv w P h (es.map fun e => if e.1 == k then (k, d) else e) (kvs.map fun kv => if kv.1 = strOf k then (kv.1, v) else kv)
  | [], _, x => by rw [show _ = [] from x]; rfl
  | (k', d') :: es, _, x => by
    obtain ⟨v', r, rfl, hd, hr⟩ := x
    simp only [List.map_cons]
    by_cases e : k' = k
    · subst e
      rw [if_pos rfl, if_pos (by simp)]
      exact ⟨v, _, rfl, hv, Rkv.mapKey hv hr⟩
    · rw [if_neg (fun q => e (strOf_inj q)), if_neg (by simpa using e)]
      exact ⟨v', _, rfl, hd, Rkv.mapKey hv hr⟩
theorem Rkv.snoc {k : List Nat} {d : D} {v : Value} (hv : Rd w P h d v) : ∀ {es : List (List Nat × D)} {kvs : List (PySem.Str × Value)}, Rkv w P h es kvs → Rkv w P h (es ++ [(k, d)]) (kvs ++ [(strOf k, v)])
  | [], _, x => by rw [show _ = [] from x]; exact ⟨v, [], rfl, hv, rfl⟩
  | (k', d') :: es, _, x => by
    obtain ⟨v', r, rfl, hd, hr⟩ := x
    exact ⟨v', _, rfl, hd, Rkv.snoc hv hr⟩
theorem Rkv.put {k : List Nat} {d : D} {v : Value} (hv : Rd w P h d v) {es : List (List Nat × D)} {kvs : List (PySem.Str × Value)} (x : Rkv w P h es kvs) : Rkv w P h (putD es k d) (stored kvs (strOf k) v) := by
  unfold putD stored
  rw [x.anyKey (k := k)]
  split
  · exact x.mapKey hv
  · exact x.snoc hv
def getD? (es : List (List Nat × D)) (k : List Nat) : Option D := (es.find? fun e => e.1 == k).map (·.2)
theorem Rkv.get {k : List Nat} : ∀ {es : List (List Nat × D)} {kvs : List (PySem.Str × Value)}, Rkv w P h es kvs →
    (match getD? es k with
      | some d => ∃ v, valueAt kvs (strOf k) = some v ∧ Rd w P h d v
      | none => valueAt kvs (strOf k) = none)
  | [], _, x => by rw [show _ = [] from x]; rfl
  | (k', d') :: es, _, x => by
    obtain ⟨v', r, rfl, hd, hr⟩ := x
    have ih := Rkv.get (k := k) hr
    unfold getD? valueAt at ih ⊢
    by_cases e : k' = k
    · subst e
      simp only [List.find?_cons, beq_self_eq_true, decide_true, Option.map_some]
      exact ⟨v', rfl, hd⟩
    · have e1 : (k' == k) = false := by simpa using e
      have e2 : decide (strOf k' = strOf k) = false := by simpa using fun q => e (strOf_inj q)
      simp only [List.find?_cons, e1, e2]
      exact ih
end
end Mine
end
section
open PySem PySem.Calls PySem.W PyProof.Rows
set_option Elab.async false
set_option maxRecDepth 100000
namespace Mine
theorem RV.str {w : World} {P : Addr → Prop} {mu : Mu} {h : Heap} {k : List Nat} {v : Value} (x : RV w P mu h (.d (.str k)) v) : ∃ t, v = .str (strOf k) t := rd_str (P := P) (h := h) (w := w) x
theorem RV.int {w : World} {P : Addr → Prop} {mu : Mu} {h : Heap} {k : Int} {v : Value} (x : RV w P mu h (.d (.int k)) v) : ∃ t, v = .int k t := rd_int (P := P) (h := h) (w := w) x
def nodupB : List (List Nat × D) → Bool
  | [] => true
  | (k, _) :: r => !(r.any fun e => e.1 == k) && nodupB r
theorem nodup_of : ∀ {es : List (List Nat × D)}, nodupB es = true → (es.map (·.1)).Nodup
  | [], _ => List.nodup_nil
  | (k, d) :: r, h => by
    unfold nodupB at h
    rw [Bool.and_eq_true] at h
    simp only [List.map_cons, List.nodup_cons]
    refine ⟨fun hm => ?_, nodup_of h.2⟩
    obtain ⟨e, he, rfl⟩ := List.mem_map.mp hm
    have : (r.any fun e' => e'.1 == e.1) = true := List.any_eq_true.mpr ⟨e, he, beq_self_eq_true _⟩
    rw [this] at h
    exact absurd h.1 (by decide)
def okDict (es : List (List Nat × D)) : Bool := nodupB es && decide (es.length ≤ 1000)
theorem okDict_spec {es : List (List Nat × D)} (h : okDict es = true) : (es.map (·.1)).Nodup ∧ es.length ≤ 1000 := by
  unfold okDict at h
  rw [Bool.and_eq_true, decide_eq_true_eq] at h
  exact ⟨nodup_of h.1, h.2⟩
section
variable {cx : Cx} {n : Nat} {mu : Mu}
theorem is_str (w : World) (k : List Nat) (t : Tok) : (strKind prog w).is (strOf k) (.str (strOf k) t) = true := by show (strOf k == strOf k) = true; exact beq_self_eq_true _

/-- the own dict takes a pair -/
theorem ownPut {vs : Vars} {es : List (List Nat × D)} {s : Shared} {a da : Addr} (R : Rel cx vs (some (a, da)) (.dict es) s) (hok : okDict es = true) {k : List Nat} {t : Tok} {d : D} {v : Value} (hv : Rd cx.w (cx.Ok (some (a, da))) s.heap d v) :
    wpAny (model prog cx.w) cx.A (setItem (.ref a) (.str (strOf k) t) v) (fun _ s' => Rel cx vs (some (a, da)) (.dict (putD es k d)) s' ∧ Stp (some (a, da)) s s') NoE s := by
  obtain ⟨hn, hl⟩ := okDict_spec hok
  obtain ⟨a', ens, ep, e, hne, hg, hr⟩ := R.mobj
  cases e
  obtain ⟨kvs, hm, hkv⟩ := hr.dictOf hn hg
  refine wpAny_setItem_pairs (knd := strKind prog cx.w) (is_str cx.w k t) hm (fun h' hm' hs => ?_) (by rw [hkv.length]; exact line_le hl)
  have kS : Stp (some (a, a)) s { s with heap := h', toks := s.toks + 1 } := ⟨⟨_, _, rfl⟩, fun b o hb e => hs.extBut b o (fun q => hb (by rw [q]; exact .inl rfl)) e⟩
  have up : ∀ b o, cx.Ok (some (a, a)) b → NF o → s.heap.get? b = some o → cx.Ok (some (a, a)) b ∧ h'.get? b = some o := fun b o hb _ e => ⟨hb, kS.keep b o hb.2.2.2 e⟩
  refine ⟨R.stp kS ?_, kS⟩
  obtain ⟨ens', n', hg', hr'⟩ := dictOf_inv hm' ((hkv.mono up).put (hv.mono up))
  exact ⟨a, ens', n', rfl, hne, hg', hr'⟩

def sPut (i : Nat) (mk mv : EM) : SM := fun vs c => match vs[i]? with
  | some (some .own) => (match mv vs c with
    | some (.d y, c1) => (match mk vs c1 with
      | some (.d (.str k), .dict es) => if okDict es = true then some (.next, vs, .dict (putD es k y)) else none
      | _ => none)
    | _ => none)
  | _ => none
theorem refS_put (G : Good n cx) {x : Str} {p p' pos : Pos} {ke ve : Expr} {i : Nat} {b : Bool} {mk mv : EM} (hi : cx.vs[i]? = some (x, b)) (hk : cx.env.kindOf x = some (if b then .cell else .local)) (hke : RefE cx ke mk) (hve : RefE cx ve mv)
    (hc : b = true → (cx.env.cells.lookup x).isSome = true := by intro h; first | (cases h; done) | rfl) (hs : swapsWith ve (some (.Subscript (.Name x p) ke p')) pos.line cx.env = pure false := by rfl) (hdb : (x == ("__debug__" : Str)) = false := by decide) :
    RefS cx (.Assign [.Subscript (.Name x p) ke p'] ve pos) (sPut i mk mv) := by
  intro vs c fl vs' c' mu s hm R
  unfold sPut at hm
  split at hm
  · rename_i hd
    split at hm
    · rename_i y c1 e1
      split at hm
      · rename_i k es e2
        split at hm
        · rename_i hok
          cases hm
          refine wpAny_Assign_Subscript (wpAny_mono (hve _ c _ c1 mu s e1 R) (fun v s₁ h1 => ?_) fun _ _ e => e) hs
          obtain ⟨a, da, rfl, hname⟩ := ownVar G h1.rel hi hk hc hd (pos := p) hdb
          refine hname _ (wpAny_mono (hke _ c1 _ _ _ s₁ e2 h1.rel) (fun kv s₂ h2 => ?_) fun _ _ e => e)
          obtain ⟨t, rfl⟩ := RV.str h2.rv
          exact wpAny_mono (ownPut h2.rel hok (h1.rv.stp h2.stp)) (fun _ s₃ h3 => ⟨h3.1, Stp.toS ((h1.stp.trans h2.stp).trans h3.2), rfl⟩) fun _ _ e => e
        · cases hm
      · cases hm
    · cases hm
  · cases hm

def tIn (i : Nat) (mk : EM) : TM := fun vs c => match vs[i]? with
  | some (some .own) => (match mk vs c with
    | some (.d (.str k), .dict es) => if okDict es = true then some ((getD? es k).isSome, .dict es) else none
    | _ => none)
  | _ => none
theorem refT_in (G : Good n cx) {x : Str} {p pos : Pos} {ke : Expr} {i : Nat} {b : Bool} {mk : EM} (hi : cx.vs[i]? = some (x, b)) (hk : cx.env.kindOf x = some (if b then .cell else .local)) (hke : RefE cx ke mk)
    (hc : b = true → (cx.env.cells.lookup x).isSome = true := by intro h; first | (cases h; done) | rfl) (hm : behindInMarks .In (.Name x p) = false := by with_unfolding_all rfl) (hdb : (x == ("__debug__" : Str)) = false := by decide) :
    RefT cx (.Compare ke [.In] [.Name x p] pos) (tIn i mk) := by
  intro vs c b' c' mu s hm' R
  unfold tIn at hm'
  split at hm'
  · rename_i hd
    split at hm'
    · rename_i k es e1
      split at hm'
      · rename_i hok
        cases hm'
        refine wpAny_isTrue_Compare1 (wpAny_mono (hke vs c _ _ mu s e1 R) (fun kv s₁ h1 => ?_) fun _ _ e => e) hm
        obtain ⟨a, da, rfl, hname⟩ := ownVar G h1.rel hi hk hc hd (pos := p) hdb
        refine hname _ ?_
        obtain ⟨t, rfl⟩ := RV.str h1.rv
        obtain ⟨hn, hl⟩ := okDict_spec hok
        obtain ⟨a', ens, ep, e, hne, hg, hr⟩ := h1.rel.mobj
        cases e
        obtain ⟨kvs, hm, hkv⟩ := hr.dictOf hn hg
        refine wpAny_in_of (knd := strKind prog cx.w) (is_str cx.w k t) hne hm.mapOf (wpAny_truthy_bool ?_)
        have hp := Pur.tok s₁ (s₁.toks + 1)
        refine ⟨h1.rel.pur hp, h1.stp.trans (hp.stp _), ?_⟩
        have := hkv.get (k := k)
        split at this
        · rename_i d ed
          obtain ⟨v, hv, _⟩ := this
          rw [hv, ed]; rfl
        · rename_i ed
          rw [this, ed]; rfl
      · cases hm'
    · cases hm'
  · cases hm'

def sAugPut (i : Nat) (f : List D → Option D) (mk mv : EM) : SM := fun vs c => match vs[i]? with
  | some (some .own) => (match mk vs c with
    | some (.d (.str k), .dict es) => if okDict es = true then (match getD? es k with
      | some old => (match mv vs (.dict es) with
        | some (.d y, .dict es2) => if okDict es2 = true then (match f [old, y] with
          | some z => some (.next, vs, .dict (putD es2 k z))
          | none => none) else none
        | _ => none)
      | none => none) else none
    | _ => none)
  | _ => none
theorem refS_augPut (G : Good n cx) {op : Operator} {x : Str} {p p' pos : Pos} {ke ve : Expr} {i : Nat} {b : Bool} {mk mv : EM} {f : List D → Option D} (S : Spec n (tInp op) f) (hi : cx.vs[i]? = some (x, b)) (hk : cx.env.kindOf x = some (if b then .cell else .local))
    (hke : RefE cx ke mk) (hve : RefE cx ve mv) (hc : b = true → (cx.env.cells.lookup x).isSome = true := by intro h; first | (cases h; done) | rfl)
    (ha : ∀ ov iv new, augStore ke ov iv new = (do holding [new, ov, iv] (setItem ov iv new); release [new, ov, iv] []; pure .next) := by intro _ _ _; rfl) (hdb : (x == ("__debug__" : Str)) = false := by decide) :
    RefS cx (.AugAssign (.Subscript (.Name x p) ke p') op ve pos) (sAugPut i f mk mv) := by
  intro vs c fl vs' c' mu s hm R
  unfold sAugPut at hm
  split at hm
  · rename_i hd
    split at hm
    · rename_i k es e1
      split at hm
      · rename_i hok
        split at hm
        · rename_i old eo
          split at hm
          · rename_i y es2 e2
            split at hm
            · rename_i hok2
              split at hm
              · rename_i z ez
                cases hm
                refine wpAny_AugAssign_Subscript_any ?_ ha
                obtain ⟨a, da, rfl, hname⟩ := ownVar G R hi hk hc hd (pos := p) hdb
                refine hname _ (wpAny_mono (hke _ c _ _ _ s e1 R) (fun kv s₁ h1 => ?_) fun _ _ e => e)
                obtain ⟨t, rfl⟩ := RV.str h1.rv
                obtain ⟨hn, hl⟩ := okDict_spec hok
                have mo := h1.rel.mobj
                obtain ⟨a', ens, ep, e, hne, hg, hr⟩ := mo
                cases e
                obtain ⟨kvs, hm, hkv⟩ := hr.dictOf hn hg
                have hget := hkv.get (k := k)
                rw [eo] at hget
                obtain ⟨ov, hov, hod⟩ := hget
                refine wpAny_getItem_of (knd := strKind prog cx.w) (is_str cx.w k t) hm.mapOf hov ?_
                have hp := Pur.tok s₁ (s₁.toks + 1)
                have R2 := h1.rel.pur hp
                refine wpAny_mono (hve _ (.dict es) _ _ _ _ e2 R2) (fun v s₃ h3 => ?_) fun _ _ e => e
                have hod3 := ((show RV cx.w (cx.Ok (some (a, a))) (some (a, a)) s₁.heap (.d old) ov from hod).stp (hp.stp _)).stp h3.stp
                refine wpAny_mono (PostE.ofSpec (s := s₃) S G.room h3.rel (Stp.refl _ s₃) (Rds.cons hod3 (Rds.cons h3.rv Rds.nil)) ez) (fun r s₄ h4 => ?_) fun _ _ e => e
                exact wpAny_mono (ownPut h4.rel hok2 h4.rv) (fun _ s₅ h5 => ⟨h5.1, Stp.toS ((((h1.stp.trans (hp.stp _)).trans h3.stp).trans h4.stp).trans h5.2), rfl⟩) fun _ _ e => e
              · cases hm
            · cases hm
          · cases hm
        · cases hm
      · cases hm
    · cases hm
  · cases hm

/-- is it a tuple: asked of numbers -/
def tNoTuple (m : EM) : TM := fun vs c => match m vs c with
  | some (.d (.int _), c') => some (false, c')
  | _ => none
theorem refT_noTuple (G : Good n cx) {x : Str} {p q pos : Pos} {e : Expr} {m : EM} (hl : Loads cx (.Name x p) (.builtin "isinstance")) (ht : Loads cx (.Name "tuple" q) (.type "tuple")) (he : RefE cx e m)
    (hs : starEach [e, .Name "tuple" q] cx.env = [(false, eval e cx.env), (false, eval (.Name "tuple" q) cx.env)] := by rfl)
    (hd : isTrue (.Call (.Name x p) [e, .Name "tuple" q] [] pos) cx.env (eval (.Call (.Name x p) [e, .Name "tuple" q] [] pos) cx.env) = (do let v ← eval (.Call (.Name x p) [e, .Name "tuple" q] [] pos) cx.env; standAt (Expr.pos (.Call (.Name x p) [e, .Name "tuple" q] [] pos)); holding [v] (truthy v)) := by rfl)
    (hp : (backTo pos (starEach [e, .Name "tuple" q] cx.env)).any (·.1) = false := by rfl) : RefT cx (.Call (.Name x p) [e, .Name "tuple" q] [] pos) (tNoTuple m) := by
  intro vs c b c' mu s hm R
  unfold tNoTuple at hm
  split at hm
  · rename_i i c1 e1
    cases hm
    refine wpAny_isTrue_value (wpAny_Call_NameR (hl s _ R.hb (handed_builtin _ _ _ _ _ _ _ _ hp (evalArgs_A hp ?_)))) hd
    rw [hs]
    show wpAny _ _ (spliced ((false, eval e cx.env) :: backTo pos [(false, eval (.Name "tuple" q) cx.env)])) _ _ _
    refine spliced_cons (wpAny_mono (he vs c _ _ mu s e1 R) (fun v s₁ h1 => ?_) fun _ _ e => e)
    refine spliced_cons (ht s₁ _ h1.rel.hb (spliced_nil ⟨h1.rel.hb, ?_⟩))
    obtain ⟨t, rfl⟩ := RV.int h1.rv
    refine call_isinstance (isinstance_false_int (by decide +kernel) F.isi_meta_tuple F.sub_int_tuple) ?_
    have hp := Pur.tok s₁ (s₁.toks + 1)
    exact wpAny_truthy_bool ⟨h1.rel.pur hp, h1.stp.trans (hp.stp _), rfl⟩
  · cases hm
end
end Mine
namespace Mine
theorem Spec.up {n m : Nat} {t : List Value → Sem Value} {f : List D → Option D} (S : Spec n t f) (h : n ≤ m := by decide) : Spec m t f := fun w A s P vs ds d G B hr hf => S w A s P vs ds d (G.mono h) B hr hf
theorem SpecSub.up {n m : Nat} {f : List D → Option D} (S : SpecSub n f) (h : n ≤ m := by decide) : SpecSub m f := fun w A s P o i ds d G B hr hf => S w A s P o i ds d (G.mono h) B hr hf
theorem SpecSl.up {n m : Nat} {f : List D → Option D} (S : SpecSl n f) (h : n ≤ m := by decide) : SpecSl m f := fun w A s P o l u st ds d G B hr hf => S w A s P o l u st ds d (G.mono h) B hr hf
end Mine
end
section
open PySem PySem.Calls PySem.W PyProof.Rows
set_option Elab.async false
set_option maxRecDepth 100000
namespace Mine
def P0 : Params := { strHash := fun _ => 0, shareClass := fun _ => 0, mergeTok := fun t => t, idOf := fun _ => 0, idOfShared := fun _ _ => 0, followText := fun _ => false, idOfImm := fun _ => 0 }
def fdIn (o : Option Obj) : FuncData := match o with
  | some ⟨_, _, .func fd, _⟩ => fd
  | _ => default
def bodyIn (b : FuncBody) : List Stmt := match b with
  | .stmts l => l
  | _ => []
noncomputable def fdAt (f : Addr) : FuncData := fdIn ((hd.heap_39 P0).lookup f)
noncomputable def bodyAt (f : Addr) : List Stmt := bodyIn (fdAt f).body

theorem fn_ofB {f : Addr} {fd : FuncData} {ps : List Str} {vars : List (Str × Bool)} {body : List Stmt} (look : ∀ w, ∃ o, (KF w).lookup f = some o ∧ o.data = .func fd) (code : ∀ w, codeIn (KF w) fd.code fd.qualname = true) (hbody : fd.body = .stmts body)
    (bind : ∀ (w : World) (s : Shared) vals, HB w s.heap → vals.length = ps.length → BindsTo s fd ⟨vals, []⟩ (ps.zip vals)) (clo : fd.closure = []) (glob : fd.globals = mainGlobals) (blt : fd.builtins = builtinsNs) (co : fd.scope.isCoroutine = false) (gen : fd.scope.isGenerator = false)
    (kind : fd.scope.kind = .function) (pre : ps = (vars.map (·.1)).take ps.length) (nd : (vars.map (·.1)).Nodup) (names : vars.map (fun v => fd.scope.names.lookup v.1) = vars.map (fun v => some (if v.2 then .cell else .local)))
    (cells : ∀ L, (vars.filter (·.2)).map (fun v => ((cellsFrom L fd.scope.names []).lookup v.1).isSome) = (vars.filter (·.2)).map fun _ => true) : Fn f fd ps vars body where
  look := look
  code := code
  body := hbody
  bind := bind
  clo := clo
  glob := glob
  blt := blt
  co := co
  gen := gen
  kind := kind
  pre := by
    intro i p hp
    rw [pre] at hp
    have hl : i < ps.length := by
      have := (List.getElem?_eq_some_iff.mp hp).1
      rw [List.length_take] at this
      omega
    rw [List.getElem?_take_of_lt hl, List.getElem?_map] at hp
    cases h : vars[i]? with
    | none => rw [h] at hp; cases hp
    | some v => rw [h] at hp; cases hp; exact ⟨v.2, rfl⟩
  nd := nd
  names := by
    intro x b hm
    obtain ⟨i, hi⟩ := List.mem_iff_getElem?.mp hm
    have := congrArg (·[i]?) names
    simp only [List.getElem?_map, hi, Option.map_some, Option.some.injEq] at this
    exact this
  cells := by
    intro L x hm
    have hm' : (x, true) ∈ vars.filter (·.2) := List.mem_filter.mpr ⟨hm, rfl⟩
    obtain ⟨i, hi⟩ := List.mem_iff_getElem?.mp hm'
    have := congrArg (·[i]?) (cells L)
    simp only [List.getElem?_map, hi, Option.map_some, Option.some.injEq] at this
    exact this
theorem fn_of {f : Addr} {fd : FuncData} {ps : List Str} {vars : List (Str × Bool)} {body : List Stmt} (look : ∀ w, ∃ o, (KF w).lookup f = some o ∧ o.data = .func fd) (code : ∀ w, codeIn (KF w) fd.code fd.qualname = true) (hbody : fd.body = .stmts body)
    (bind : ∀ vals, vals.length = ps.length → bindArgs fd ⟨vals, []⟩ = pure (ps.zip vals)) (clo : fd.closure = []) (glob : fd.globals = mainGlobals) (blt : fd.builtins = builtinsNs) (co : fd.scope.isCoroutine = false) (gen : fd.scope.isGenerator = false)
    (kind : fd.scope.kind = .function) (pre : ps = (vars.map (·.1)).take ps.length) (nd : (vars.map (·.1)).Nodup) (names : vars.map (fun v => fd.scope.names.lookup v.1) = vars.map (fun v => some (if v.2 then .cell else .local)))
    (cells : ∀ L, (vars.filter (·.2)).map (fun v => ((cellsFrom L fd.scope.names []).lookup v.1).isSome) = (vars.filter (·.2)).map fun _ => true) : Fn f fd ps vars body :=
  fn_ofB look code hbody (fun _ _ vals _ h => BindsTo.of_eq (bind vals h)) clo glob blt co gen kind pre nd names cells
theorem len2 {vals : List Value} (h : vals.length = 2) : ∃ a b, vals = [a, b] := by
  match vals, h with
  | [a, b], _ => exact ⟨a, b, rfl⟩
theorem len1 {vals : List Value} (h : vals.length = 1) : ∃ a, vals = [a] := by
  match vals, h with
  | [a], _ => exact ⟨a, rfl⟩
theorem len4 {vals : List Value} (h : vals.length = 4) : ∃ a b c d, vals = [a, b, c, d] := by
  match vals, h with
  | [a, b, c, d], _ => exact ⟨a, b, c, d, rfl⟩
/-! add_callers -/
def vAdd : List (Str × Bool) := [("target", false), ("source", false), ("new_callers", false), ("func", false), ("caller", false)]
theorem fnAdd : Fn 161 (fdAt 161) ["target", "source"] vAdd (bodyAt 161) :=
  fn_of (fun w => ⟨_, rfl, rfl⟩) (fun w => by rfl) (by rfl) (fun vals h => by obtain ⟨a, b, rfl⟩ := len2 h; rfl) (by rfl) (by rfl) (by rfl) (by rfl) (by rfl) (by rfl) (by rfl) (by decide) (by rfl) (fun L => by rfl)

def mAdd : SM :=
  sNew 2 (fun _ => some (.dict []))
    (sSeq (sFor (iItems (eVar 0)) (tgTup (tgCons (tgName 3) (tgCons (tgName 4) tgNil))) (sSeq (sPut 2 (eVar 3) (eVar 4)) sNil))
    (sSeq (sFor (iItems (eVar 1)) (tgTup (tgCons (tgName 3) (tgCons (tgName 4) tgNil)))
      (sSeq (sIf (tIn 2 (eVar 3)) (sSeq (sIf (tNoTuple (eVar 4)) (fun _ _ => none) (sSeq (sAugPut 2 fIAdd (eVar 3) (eVar 4)) sNil)) sNil) (sSeq (sPut 2 (eVar 3) (eVar 4)) sNil)) sNil))
    (sSeq (sRet (eVar 2)) sNil)))
theorem refB_none {cx : Cx} {b : List Stmt} : RefB cx b (fun _ _ => none) := by intro vs c fl vs' c' mu s hm R; cases hm
theorem bAdd (w : World) (A : Around) (s : Shared) (P : Addr → Prop) (G : Good 0 (cxOf w A (fdAt 161) 161 vAdd P s)) (O : Own (cxOf w A (fdAt 161) 161 vAdd P s)) : RefB2 (cxOf w A (fdAt 161) 161 vAdd P s) (bodyAt 161) mAdd := by
  refine refB2_new (i := 2) G O rfl rfl refNew_dict ?_
  refine refB_cons (refS_for (refI_items G rfl rfl) (refTg_tup G (refTgs_cons (refTg_name G O rfl rfl) (refTgs_cons (refTg_name G O rfl rfl) refTgs_nil))) ?_) ?_
  · exact refB_cons (refS_put G rfl rfl (refE_var G rfl rfl) (refE_var G rfl rfl)) refB_nil
  refine refB_cons (refS_for (refI_items G rfl rfl) (refTg_tup G (refTgs_cons (refTg_name G O rfl rfl) (refTgs_cons (refTg_name G O rfl rfl) refTgs_nil))) ?_) ?_
  · refine refB_cons (refS_if (refT_in G rfl rfl (refE_var G rfl rfl)) ?_ ?_) refB_nil
    · refine refB_cons (refS_if (refT_noTuple G (loads_builtin G rfl rfl rfl) (loads_builtin G rfl rfl rfl) (refE_var G rfl rfl)) refB_none ?_) refB_nil
      exact refB_cons (refS_augPut G (spec_iadd) rfl rfl (refE_var G rfl rfl) (refE_var G rfl rfl)) refB_nil
    · exact refB_cons (refS_put G rfl rfl (refE_var G rfl rfl) (refE_var G rfl rfl)) refB_nil
  · exact refB_cons (refS_ret (refE_var G rfl rfl)) refB_nil
theorem spec_addCallers : Spec 1 (fun vs => call (.ref 161) vs) (fnM 2 5 mAdd) := spec_fn fnAdd bAdd
end Mine
end
section
open PySem PySem.Calls PySem.W PyProof.Rows
set_option Elab.async false
set_option maxRecDepth 100000
namespace Mine

/-- a step that changes the frame alone -/
structure LocStp (L : Addr) (s s' : Shared) : Prop where
  same : ∃ h tk, s' = { s with heap := h, toks := tk }
  keep : ∀ b o, b ≠ L → s.heap.get? b = some o → s'.heap.get? b = some o
theorem LocStp.refl (L : Addr) (s : Shared) : LocStp L s s := ⟨⟨_, _, rfl⟩, fun _ _ _ e => e⟩
theorem LocStp.trans {L : Addr} {s s' s'' : Shared} (a : LocStp L s s') (b : LocStp L s' s'') : LocStp L s s'' := by
  obtain ⟨⟨h, tk, rfl⟩, k⟩ := a
  obtain ⟨⟨h', tk', rfl⟩, k'⟩ := b
  exact ⟨⟨_, _, rfl⟩, fun b o n e => k' b o n (k b o n e)⟩

/-- a comprehension's own names -/
structure OwnL (cx : Cx) : Prop where
  coff : ∀ n c, cx.env.cells.lookup n = some c → c ≠ cx.env.locals
  nodup : (cx.vs.map (·.1)).Nodup
section
variable {cx : Cx} {n : Nat} {mu : Mu}
theorem Rel.storeL {vs : Vars} {c : MU} {s : Shared} (R : Rel cx vs mu c s) (G : Good n cx) (O : OwnL cx) {i : Nat} {x : Str} {d : V} {v : Value} (hi : cx.vs[i]? = some (x, false))
    (hk : cx.env.kindOf x = some .local) (rv : RV cx.w (cx.Ok mu) mu s.heap d v) :
    wpAny (model prog cx.w) cx.A (storeName cx.env x v) (fun _ s' => Rel cx (vs.set i (some d)) mu c s' ∧ LocStp cx.env.locals s s') NoE s := by
  obtain ⟨m, cm, F, hv⟩ := R.frm
  refine wpAny_storeName_local hk F.ns (fun h' hn hs => ?_) (by rw [G.kind]; rfl)
  have kOk : ∀ b o, cx.Ok mu b → NF o → s.heap.get? b = some o → cx.Ok mu b ∧ h'.get? b = some o := fun b o hb _ e => ⟨hb, hs.extBut b o hb.2.1 e⟩
  refine ⟨⟨⟨_, cm, ⟨?_, hn, ?_, fun y ca hy => (F.cell y ca hy).sameBut hs (O.coff y ca hy)⟩, ?_⟩, ?_, R.out, R.fresh, R.base⟩, ⟨⟨_, _, rfl⟩, fun b o hf e => hs.extBut b o hf e⟩⟩
  · obtain ⟨h₁, tk₁, e⟩ := F.same
    exact ⟨h', s.toks + 1, by rw [e]⟩
  · intro b o e
    exact hs.extBut b o (Nat.ne_of_lt (Nat.lt_of_lt_of_le (Heap.lt_size e) R.fresh)) (F.keep b o e)
  · intro j y b' d' hj hd'
    by_cases hy : y = x
    · subst hy
      have hij := nodup_get O.nodup hi hj
      subst hij
      rw [hi] at hj; cases hj
      rw [List.getElem?_set] at hd'
      split at hd'
      · split at hd'
        · cases hd'
          exact ⟨v, if_pos rfl, rv.mono kOk⟩
        · cases hd'
      · rename_i h; exact absurd rfl h
    · have hne : i ≠ j := fun e => hy (by subst e; rw [hi] at hj; cases hj; rfl)
      rw [List.getElem?_set_ne hne] at hd'
      obtain ⟨v', h1, h2⟩ := hv j y b' d' hj hd'
      refine ⟨v', ?_, h2.mono kOk⟩
      cases b' with
      | false => exact (if_neg hy).trans h1
      | true => exact h1
  · exact R.mobj.mono kOk fun b o hb _ e => hs.extBut b o (R.out b hb).2.1 e

/-! a comprehension's targets -/
def RefTgL (cx : Cx) (t : Expr) (m : TgM) : Prop :=
  ∀ d vs vs' c mu s v, m d vs = some vs' → Rel cx vs mu c s → Rd cx.w (cx.Ok mu) s.heap d v → wpAny (model prog cx.w) cx.A (assign t cx.env v) (fun _ s' => Rel cx vs' mu c s' ∧ LocStp cx.env.locals s s') NoE s
theorem refTgL_name (G : Good n cx) (O : OwnL cx) {x : Str} {pos : Pos} {i : Nat} (hi : cx.vs[i]? = some (x, false)) (hk : cx.env.kindOf x = some .local) : RefTgL cx (.Name x pos) (tgName i) := by
  intro d vs vs' c mu s v hm R rv
  cases hm
  exact wpAny_assign_Name (R.storeL (d := .d d) G O hi hk rv)
structure RefTgsL (cx : Cx) (es : List Expr) (m : TgsM) : Prop where
  star : (assignEach es cx.env).findIdx? (·.1) = none
  len : (assignEach es cx.env).length = es.length
  ok : ∀ ds vs vs', m ds vs = some vs' → ds.length = es.length
  run : ∀ ds vs vs' c mu s vals, m ds vs = some vs' → Rel cx vs mu c s → Rds cx.w (cx.Ok mu) s.heap ds vals →
    wpAny (model prog cx.w) cx.A (assignInOrder ((assignEach es cx.env).map (·.2)) vals) (fun _ s' => Rel cx vs' mu c s' ∧ LocStp cx.env.locals s s') NoE s
theorem refTgsL_nil : RefTgsL cx [] tgNil where
  star := rfl
  len := rfl
  ok := fun ds vs vs' h => by cases ds <;> first | rfl | cases h
  run := by
    intro ds vs vs' c mu s vals hm R rv
    cases ds with
    | nil =>
      cases hm
      rw [rv.nil_inv]
      exact wpAny_assignInOrder_none ⟨R, LocStp.refl _ s⟩
    | cons => cases hm
theorem refTgsL_cons {e : Expr} {es : List Expr} {a : TgM} {r : TgsM} (ha : RefTgL cx e a) (hr : RefTgsL cx es r) (hs : assignEach (e :: es) cx.env = (false, assign e cx.env) :: assignEach es cx.env := by rfl) :
    RefTgsL cx (e :: es) (tgCons a r) where
  star := by rw [hs, List.findIdx?_cons, hr.star]; rfl
  len := by rw [hs]; simp [hr.len]
  ok := by
    intro ds vs vs' hm
    cases ds with
    | nil => cases hm
    | cons d ds =>
      unfold tgCons at hm
      dsimp only at hm
      split at hm
      · simp [hr.ok _ _ _ hm]
      · cases hm
  run := by
    intro ds vs vs' c mu s vals hm R rv
    cases ds with
    | nil => cases hm
    | cons d ds =>
      obtain ⟨v, rest, rfl, hd, hrest⟩ := rv.cons_inv
      unfold tgCons at hm
      dsimp only at hm
      split at hm
      · rename_i vs1 e1
        rw [hs]
        refine assignInOrder_cons (wpAny_mono (ha d vs vs1 c mu s v e1 R hd) (fun _ s₁ h1 => ?_) fun _ _ e => e)
        exact wpAny_mono (hr.run ds vs1 vs' c mu s₁ rest hm h1.1 (hrest.mono fun b o hb _ e => ⟨hb, h1.2.keep b o hb.2.1 e⟩)) (fun _ s₂ h2 => ⟨h2.1, h1.2.trans h2.2⟩) fun _ _ e => e
      · cases hm
theorem refTgL_tup (G : Good n cx) {es : List Expr} {k : Nat} {pos : Pos} {m : TgsM} (h : RefTgsL cx es m) : RefTgL cx (.Tuple es k pos) (tgTup m) := by
  intro d vs vs' c mu s v hm R rv
  unfold tgTup at hm
  split at hm
  · rename_i ds
    obtain ⟨a, vals, nn, rfl, hp, hg, hr⟩ := rd_tup rv
    have hT : s.heap.IsTuple a vals.toArray := ⟨_, hg, rfl, nn, rfl⟩
    refine wpAny_assign_Tuple G.room.handled hT (by rw [h.len]; simp [hr.length, h.ok _ _ _ hm]) h.star fun h' he => ?_
    have hp : Pur s { s with heap := h' } := Pur.of fun b o e => he b o (Nat.ne_of_lt (Heap.lt_size e)) e
    exact wpAny_mono (h.run ds vs vs' c mu _ vals hm (R.pur hp) (hr.pur hp)) (fun _ s₂ h2 => ⟨h2.1, (LocStp.trans ⟨hp.same, fun b o _ e => hp.keep b o e⟩ h2.2)⟩) fun _ _ e => e
  · cases hm

/-! tests -/
def RefIfs (cx : Cx) (ifs : List Expr) (m : TM) : Prop :=
  ∀ vs c b c' mu s, m vs c = some (b, c') → Rel cx vs mu c s → wpAny (model prog cx.w) cx.A (forIn ifs true fun c r => if r = true then do let ok ← PySem.isTrue c cx.env (eval c cx.env); pure (ForInStep.yield ok) else pure (ForInStep.yield r)) (PostT cx vs mu c' s b) NoE s
theorem refIfs_nil : RefIfs cx [] (tConst true) := by
  intro vs c b c' mu s hm R; cases hm; exact wpAny_tests_nil ⟨R, Stp.refl .., rfl⟩
theorem refIfs_one {e : Expr} {m : TM} (h : RefT cx e m) : RefIfs cx [e] m := by
  intro vs c b c' mu s hm R
  exact wpAny_tests_one (h vs c b c' mu s hm R)
end

section
variable {w : World} {A : Around} {R : Result → Shared → Prop} {s : Shared}
end

/-- what a list comprehension makes -/
def compM (tg : TgM) (ifs : TM) (elt : EM) : List D → Vars → List D → Option (List D)
  | [], _, acc => some acc
  | d :: ds, vs, acc => match tg d vs with
    | some vs1 => (match ifs vs1 (.list acc) with
      | some (true, .list acc1) => (match elt vs1 (.list acc1) with
        | some (.d x, .list acc2) => if acc2.length ≤ 100 then compM tg ifs elt ds vs1 (acc2 ++ [x]) else none
        | _ => none)
      | some (false, .list acc1) => compM tg ifs elt ds vs1 acc1
      | _ => none)
    | none => none
/-- the comprehension's names: its own, and the captured ones by their places outside -/
def innerV (capt : List (Option Nat)) (vs : Vars) : Vars := capt.map fun o => match o with
  | some i => (match vs[i]? with
    | some (some (.d d)) => some (.d d)
    | _ => none)
  | none => none
def eComp (capt : List (Option Nat)) (im : IM) (tg : TgM) (ifs : TM) (elt : EM) : EM := fun vs c => match im vs c with
  | some (ds, c') => (match compM tg ifs elt ds (innerV capt vs) [] with
    | some r => some (.d (.list r), c')
    | none => none)
  | none => none

abbrev hideI (s : Shared) (I : Addr) : Shared := { s with heap := hideAll s.heap [I] }
abbrev cxComp (cx : Cx) (scope : Scope) (cl : List (Str × Addr)) (vs' : List (Str × Bool)) (mu : Mu) (s₂ : Shared) (I C : Addr) : Cx :=
  ⟨cx.w, cx.A, compEnvC scope cl C cx.env, hideI s₂ I, vs', fun b => cx.Ok mu b ∧ b < s₂.heap.objs.size⟩

/-- the facts of a comprehension's names -/
structure CompOk (cx : Cx) (scope : Scope) (cl : List (Str × Addr)) (vs' : List (Str × Bool)) (capt : List (Option Nat)) : Prop where
  clos : closureFor scope cx.env = pure cl
  cell : ∀ y ∈ scope.names, y.2 ≠ .cell
  kind : scope.kind = .function
  names : ∀ y ∈ scope.names, y.2 = .local → scope.names.lookup y.1 = some .local
  sub : ∀ n c, cl.lookup n = some c → cx.env.cells.lookup n = some c
  nd : (vs'.map (·.1)).Nodup
  capt : ∀ (j : Nat) (i : Nat), capt[j]? = some (some i) → ∃ x, vs'[j]? = some (x, true) ∧ cx.vs[i]? = some (x, true) ∧ (cl.lookup x).isSome = true

theorem refE_comp {cx : Cx} {n : Nat} (G : Good n cx) {elt target iter : Expr} {ifs : List Expr} {scope : Scope} {pos : Pos} {cl : List (Str × Addr)} {vs' : List (Str × Bool)} {capt : List (Option Nat)} {im : IM} {tg : TgM} {tm : TM} {em : EM}
    (K : CompOk cx scope cl vs' capt) (hi : RefI cx true target iter im)
    (hin : ∀ mu s₂ I C, Good n (cxComp cx scope cl vs' mu s₂ I C) → OwnL (cxComp cx scope cl vs' mu s₂ I C) →
      RefTgL (cxComp cx scope cl vs' mu s₂ I C) target tg ∧ RefIfs (cxComp cx scope cl vs' mu s₂ I C) ifs tm ∧ RefE (cxComp cx scope cl vs' mu s₂ I C) elt em)
    (hs : ∀ x, foldedSetIterable iter cx.env x = pure x := by intro _; rfl) : RefE cx (.ListComp elt [⟨target, iter, ifs, 0⟩] scope pos) (eComp capt im tg tm em) := by
  intro vs c d c' mu s hm R
  unfold eComp at hm
  split at hm
  · rename_i ds c1 e1
    split at hm
    · rename_i r e2
      cases hm
      rw [eval_ListComp]
      refine wpAny_comprehension_free (use := none) rfl hs K.clos K.kind K.names (wpAny_mono (hi vs c ds _ mu s e1 R) (fun xv s₁ h₁ => wpAny_mono h₁ (fun it s₂ h2 => ?_) fun _ _ e => e) fun _ _ e => e)
      obtain ⟨R2, k2, I, St, rfl, hIs, hOk, hIlt, J, hSt, hself⟩ := h2
      refine wpAny_newObj_type (wpAny_newFunctionEnv K.cell (by intro y hy; simp at hy) (fun h₁ hns₁ hsb₁ => ?_) K.kind)
      dsimp only at hns₁ hsb₁ ⊢
      generalize hH2 : s₂.heap.push { cls := .type "list", dict := none, data := .seq ([] : List Value).toArray } = H2 at hns₁ hsb₁ ⊢
      have hC : H2.objs.size = s₂.heap.objs.size + 1 := by rw [← hH2, Heap.size_push]
      have hDC : s₂.heap.objs.size ≠ H2.objs.size := by rw [hC]; exact Nat.ne_of_lt (Nat.lt_succ_self _)
      have old : ∀ b o, s₂.heap.get? b = some o → h₁.get? b = some o := fun b o e => by
        have : b ≠ H2.objs.size := Nat.ne_of_lt (Nat.lt_of_lt_of_le (Heap.lt_size e) (by rw [hC]; exact Nat.le_succ _))
        exact hsb₁.extBut b o this (Heap.get?_push_of_some _ (hH2 ▸ Heap.get?_push_of_some _ e))
      have hD₁ : h₁.get? s₂.heap.objs.size = some { cls := .type "list", data := .seq ([] : List Value).toArray } :=
        hsb₁.extBut _ _ hDC (Heap.get?_push_of_some _ (hH2 ▸ Heap.get?_push_size _ rfl))
      have hI0 : cx.s₀.heap.get? I = none := R.gone hIs
      -- the inner context
      generalize hcx : cxComp cx scope cl vs' mu s₂ I H2.objs.size = cx'
      have hw : cx'.w = cx.w := by rw [← hcx]
      have hA : cx'.A = cx.A := by rw [← hcx]
      have henv : cx'.env = compEnvC scope cl H2.objs.size cx.env := by rw [← hcx]
      have hloc : cx'.env.locals = H2.objs.size := by rw [henv]; rfl
      have hcells : cx'.env.cells = cl := by rw [henv]; rfl
      have hvs : cx'.vs = vs' := by rw [← hcx]
      have hs0 : cx'.s₀ = hideI s₂ I := by rw [← hcx]
      have hP : cx'.P = fun b => cx.Ok mu b ∧ b < s₂.heap.objs.size := by rw [← hcx]
      have hsz0 : cx'.s₀.heap.objs.size = s₂.heap.objs.size := by rw [hs0]; exact hideAll_size _ _
      obtain ⟨m, cm, F, hv⟩ := R2.frm
      have cellLt : ∀ y ca, cl.lookup y = some ca → ca < s₂.heap.objs.size ∧ cx.env.cells.lookup y = some ca := fun y ca hy => ⟨(F.cell y ca (K.sub y ca hy)).lt, K.sub y ca hy⟩
      have good : Good n cx' := by
        refine ⟨?_, ?_, ?_, ?_⟩
        · rw [henv]; exact K.kind
        · rw [henv]; exact G.glob
        · rw [henv]; exact G.blt
        · rw [hA]; exact G.room
      have ownL : OwnL cx' := by
        refine ⟨fun y ca hy => ?_, by rw [hvs]; exact K.nd⟩
        rw [hcells] at hy
        rw [hloc]
        exact Nat.ne_of_lt (Nat.lt_of_lt_of_le (cellLt y ca hy).1 (by rw [hC]; exact Nat.le_succ _))
      obtain ⟨hTg, hIfs, hElt⟩ := hin mu s₂ I H2.objs.size (hcx ▸ good) (hcx ▸ ownL)
      rw [hcx] at hTg hIfs hElt
      have okIn : ∀ b o, cx.Ok mu b ∧ b < s₂.heap.objs.size → NF o → s₂.heap.get? b = some o → cx'.Ok (some (s₂.heap.objs.size, s₂.heap.objs.size)) b := by
        intro b o hb _ e
        refine ⟨.inl (by rw [hP]; exact hb), ?_, ?_, ?_⟩
        · rw [hloc]; exact Nat.ne_of_lt (Nat.lt_of_lt_of_le hb.2 (by rw [hC]; exact Nat.le_succ _))
        · intro y ca hy
          rw [hcells] at hy
          exact hb.1.2.2.1 y ca (cellLt y ca hy).2
        · intro h
          rcases h with h | h <;> exact absurd hb.2 (by rw [h]; exact Nat.lt_irrefl _)
      have okPk : ∀ b, (cx.Ok mu b ∧ b < s₂.heap.objs.size) → cx'.Ok (some (s₂.heap.objs.size, s₂.heap.objs.size)) b := by
        intro b hb
        refine ⟨.inl (by rw [hP]; exact hb), ?_, ?_, ?_⟩
        · rw [hloc]; exact Nat.ne_of_lt (Nat.lt_of_lt_of_le hb.2 (by rw [hC]; exact Nat.le_succ _))
        · intro y ca hy
          rw [hcells] at hy
          exact hb.1.2.2.1 y ca (cellLt y ca hy).2
        · intro h
          rcases h with h | h <;> exact absurd hb.2 (by rw [h]; exact Nat.lt_irrefl _)
      have Rin : Rel cx' (innerV capt vs) (some (s₂.heap.objs.size, s₂.heap.objs.size)) (.list []) { s₂ with heap := h₁, toks := s₂.toks + ([] : List (Str × Value)).length } := by
        refine ⟨⟨_, cm, ⟨⟨h₁, _, by rw [hs0]⟩, by rw [hloc]; exact hns₁, ?_, ?_⟩, ?_⟩, ⟨_, [], 0, rfl, hD₁, Rds.nil⟩, ?_, ?_, ?_⟩
        · intro b o e
          rw [hs0] at e
          exact old b o (of_hideAll _ e)
        · intro y ca hy
          rw [hcells] at hy
          exact (F.cell y ca (K.sub y ca hy)).keeps old
        · intro j x b d' h1 h2
          unfold innerV at h2
          rw [List.getElem?_map] at h2
          cases hcp : capt[j]? with
          | none => rw [hcp] at h2; cases h2
          | some oi =>
            rw [hcp] at h2
            cases oi with
            | none => cases h2
            | some i =>
              simp only [Option.map_some, Option.some.injEq] at h2
              split at h2
              · rename_i dd hdd
                cases h2
                obtain ⟨x', hx1, hx2, hx3⟩ := K.capt j i hcp
                rw [hvs, hx1] at h1
                cases h1
                obtain ⟨v, hv1, hv2⟩ := hv i x true _ hx2 hdd
                refine ⟨v, hv1, Rd.mono (fun b o hb hn e => ?_) (show Rd cx.w (cx.Ok mu) s₂.heap dd v from hv2) |> fun q => by rw [hw]; exact q⟩
                exact ⟨okPk b ⟨hb, Heap.lt_size e⟩, old b o e⟩
              · cases h2
        · intro b hb
          have hbD : b = s₂.heap.objs.size := hb.elim id id
          subst hbD
          refine ⟨by rw [hsz0]; exact Nat.le_refl _, by rw [hloc]; exact hDC, fun y ca hy => ?_⟩
          rw [hcells] at hy
          exact Nat.ne_of_gt (cellLt y ca hy).1
        · rw [hloc, hsz0, hC]; exact Nat.le_succ _
        · rw [hw, hs0]
          exact R2.base.keeps fun b o e => hideAll_get _ (F.keep b o e) (by
            intro q
            rw [List.mem_singleton] at q
            subst q; rw [hI0] at e; cases e)
      have stI : ∀ {i : Nat} {h h' : Heap}, St i h → (∀ b o, b ≠ H2.objs.size → b ≠ s₂.heap.objs.size → h.get? b = some o → h'.get? b = some o) → St i h' := fun {i h h'} st hk =>
        J.frame i h h' st (fun o e => hk I o (Nat.ne_of_lt (Nat.lt_of_lt_of_le hIlt (by rw [hC]; exact Nat.le_succ _))) (Nat.ne_of_lt hIlt) e) fun b o hb _ e =>
          hk b o (Nat.ne_of_lt (Nat.lt_of_lt_of_le hb.2 (by rw [hC]; exact Nat.le_succ _))) (Nat.ne_of_lt hb.2) e
      have hSt₁ : St 0 h₁ := stI hSt fun b o _ _ e => old b o e
      have offI : cx'.offFrame I := by
        refine ⟨by rw [hloc]; exact Nat.ne_of_lt (Nat.lt_of_lt_of_le hIlt (by rw [hC]; exact Nat.le_succ _)), fun y ca hy => ?_⟩
        rw [hcells] at hy
        exact hOk.2.2.1 y ca (cellLt y ca hy).2
      have nmI : ¬ inMu (some (s₂.heap.objs.size, s₂.heap.objs.size)) I := fun h => by rcases h with h | h <;> exact absurd hIlt (by rw [h]; exact Nat.lt_irrefl _)
      have goneI : cx'.s₀.heap.get? I = none := by rw [hs0]; exact hideAll_none [I] (by simp)
      -- the end
      have fin : ∀ s', (∃ vsi, Rel cx' vsi (some (s₂.heap.objs.size, s₂.heap.objs.size)) (.list r) s' ∧ (∀ b o, b ≠ I → s₂.heap.get? b = some o → s'.heap.get? b = some o)) →
          compPost (model prog cx.w) cx.A NoE none (PostE cx vs mu c' s (.d (.list r))) (.ref s₂.heap.objs.size) H2.objs.size (.ok .next) s' := by
        intro s' ⟨vsi, Ri, hk⟩
        obtain ⟨mi, cmi, Fi, _⟩ := Ri.frm
        have hns := Fi.ns
        rw [hloc] at hns
        refine ⟨mi, hns, fun h' hs' => ?_⟩
        have hkeep : ∀ b o, b ≠ I → s₂.heap.get? b = some o → h'.get? b = some o := fun b o hb e =>
          hs'.extBut b o (Nat.ne_of_lt (Nat.lt_of_lt_of_le (Heap.lt_size e) (by rw [hC]; exact Nat.le_succ _))) (hk b o hb e)
        have same : ∃ h tk, ({ s' with heap := h' } : Shared) = { s₂ with heap := h, toks := tk } := by
          obtain ⟨ha, tk, e⟩ := Fi.same
          rw [hs0] at e
          exact ⟨h', tk, by rw [e]⟩
        have Rout : Rel cx vs mu c' { s' with heap := h' } := R2.it (I := I) ⟨same, hkeep⟩ (J.fld 0 _ hSt) hOk.off.2 hOk.off.1 hI0
        have kOut : Stp mu s { s' with heap := h' } := by
          refine ⟨?_, fun b o hb e => ?_⟩
          · obtain ⟨_, _, a⟩ := k2.same
            obtain ⟨ha, tk, e⟩ := same
            exact ⟨ha, tk, by rw [e, a]⟩
          · have hbI : b ≠ I := fun q => by subst q; rw [hIs] at e; cases e
            exact hkeep b o hbI (k2.keep b o hb e)
        refine ⟨Rout, kOut, ?_⟩
        obtain ⟨a', vsr, nn, e, hg, hr⟩ := Ri.mobj
        cases e
        show Rd _ _ _ _ _
        simp only [Rd]
        refine ⟨_, vsr, nn, rfl, R2.okNew (Nat.le_refl _), hs'.extBut _ _ hDC hg, ?_⟩
        rw [hw] at hr
        refine hr.mono fun b o hb hn e => ?_
        have hbC : b ≠ H2.objs.size := by have := hb.2.1; rw [hloc] at this; exact this
        refine ⟨?_, hs'.extBut b o hbC e⟩
        rcases hb.1 with h | h
        · rw [hP] at h; exact h.1
        · rw [hsz0] at h; exact R2.okNew h
      -- the loop
      have hMod : ∀ {α : Type} {t : Sem α} {Q : α → Shared → Prop} {E : Value → Shared → Prop} {s : Shared}, wpAny (model prog cx'.w) cx'.A t Q E s → wpAny (model prog cx.w) cx.A t Q E s := fun h => by rw [hw, hA] at h; exact h
      have loop : ∀ s₃ : Shared, s₃ = { s₂ with heap := h₁, toks := s₂.toks + ([] : List (Str × Value)).length } →
          codeAny (model prog cx.w) cx.A (.compLoop (.ListComp elt [⟨target, iter, ifs, 0⟩] scope pos) 0 (.ref I) (.ref s₂.heap.objs.size) (compEnvC scope cl H2.objs.size cx.env))
            (compPost (model prog cx.w) cx.A NoE none (PostE cx vs mu c' s (.d (.list r))) (.ref s₂.heap.objs.size) H2.objs.size) s₃ := by
        rintro s₃ rfl
        rw [← henv]
        refine codeAny_loop rfl (fun k s' => ∃ i vsi acc, i + k = ds.length ∧ compM tg tm em (ds.drop i) vsi acc = some r ∧ Rel cx' vsi (some (s₂.heap.objs.size, s₂.heap.objs.size)) (.list acc) s' ∧
          (∀ b o, b ≠ I → s₂.heap.get? b = some o → s'.heap.get? b = some o) ∧ St i s'.heap) (fun k s' hI => ?_) ds.length ⟨0, innerV capt vs, [], Nat.zero_add _, by simpa using e2, Rin, fun b o _ e => old b o e, hSt₁⟩
        obtain ⟨i, vsi, acc, hik, hf, Ri, hk, hSti⟩ := hI
        show wpAny _ _ ((compTurn _ 0 _ _ _).onRaise _) _ _ _
        refine wpAny_noted ?_
        rw [compTurn_list]
        refine wpAny_bind (wpAny_standAt (wpAny_bind ?_))
        by_cases hlt : i < ds.length
        · have hdi : ds[i]? = some ds[i] := List.getElem?_eq_getElem hlt
          have hdrop : ds.drop i = ds[i] :: ds.drop (i + 1) := List.drop_eq_getElem_cons hlt
          rw [hdrop] at hf
          unfold compM at hf
          split at hf
          · rename_i vs1 et
            refine wpAny_mono (J.item i s' _ hSti hdi) (fun r' s₁' h => ?_) fun _ _ e => e.elim
            obtain ⟨v, rfl, hv'⟩ := h
            refine wpAny_bind (wpAny_mono hv' (fun _ s₂' h => ?_) fun _ _ e => e.elim)
            obtain ⟨kI, hSt1, hd⟩ := h
            have R2' := Ri.it kI (J.fld _ _ hSti) offI nmI goneI
            have hd' : Rd cx'.w (cx'.Ok (some (s₂.heap.objs.size, s₂.heap.objs.size))) s₂'.heap ds[i] v := by
              rw [hw]
              exact hd.mono fun b o hb _ e => ⟨hb.elim (okPk b) fun q => Ri.okNew q, e⟩
            refine wpAny_bind (hMod (wpAny_mono (hTg _ vsi vs1 (.list acc) _ s₂' v et R2' hd') (fun _ s₃ h3 => ?_) fun _ _ e => e.elim))
            have kc : ∀ {sa sb : Shared}, Stp (some (s₂.heap.objs.size, s₂.heap.objs.size)) sa sb → (∀ b o, b ≠ I → s₂.heap.get? b = some o → sa.heap.get? b = some o) → St (i + 1) sa.heap → (∀ b o, b ≠ I → s₂.heap.get? b = some o → sb.heap.get? b = some o) ∧ St (i + 1) sb.heap := fun {sa sb} k hka hsa =>
              ⟨fun b o hb e => k.keep b o (fun h => by rcases h with h | h <;> exact absurd (Heap.lt_size e) (by rw [h]; exact Nat.lt_irrefl _)) (hka b o hb e),
                stI hsa fun b o _ hbD e => k.keep b o (fun h => hbD (h.elim id id)) e⟩
            have hk3 : (∀ b o, b ≠ I → s₂.heap.get? b = some o → s₃.heap.get? b = some o) := fun b o hb e => h3.2.keep b o (by rw [hloc]; exact Nat.ne_of_lt (Nat.lt_of_lt_of_le (Heap.lt_size e) (by rw [hC]; exact Nat.le_succ _))) (kI.keep b o hb (hk b o hb e))
            have hSt3 : St (i + 1) s₃.heap := stI hSt1 fun b o hbC _ e => h3.2.keep b o (by rw [hloc]; exact hbC) e
            split at hf
            · rename_i acc1 e3
              refine wpAny_bind (hMod (wpAny_mono (hIfs vs1 _ _ _ _ s₃ e3 h3.1) (fun ok s₄ h4 => ?_) fun _ _ e => e.elim))
              rw [h4.eq]
              obtain ⟨hk4, hSt4⟩ := kc h4.stp hk3 hSt3
              split at hf
              · rename_i x acc2 e4
                split at hf
                · rename_i hlen
                  refine wpAny_bind (wpAny_bind (hMod (wpAny_mono (hElt vs1 _ _ _ _ s₄ e4 h4.rel) (fun xv s₅ h5 => ?_) fun _ _ e => e.elim)))
                  obtain ⟨hk5, hSt5⟩ := kc h5.stp hk4 hSt4
                  have mo := h5.rel.mobj
                  obtain ⟨a', vsr, nn, e, hg, hr⟩ := mo
                  cases e
                  refine wpAny_bind (hMod (call_meets PySem.F.slot_list_append ⟨_, hg, rfl⟩ PySem.F.entry_list_append (PySem.F.args_list_append_2 _ _) (list_append s₂.heap.objs.size vsr.toArray nn xv (by simp only [List.size_toArray, hr.length]; exact line_le (by omega))) ⟨hg, wpAny_pure (wpAny_pure ⟨rfl, ?_⟩)⟩))
                  have kS : Stp (some (s₂.heap.objs.size, s₂.heap.objs.size)) s₅ { s₅ with heap := s₅.heap.update s₂.heap.objs.size (Obj.mapSeq fun x_1 => x_1.push xv) } := ⟨⟨_, _, rfl⟩, fun b o hb e => by
                    have : b ≠ s₂.heap.objs.size := fun q => hb (by rw [q]; exact .inl rfl)
                    exact (Heap.get?_update_other _ _ (Ne.symm this)).trans e⟩
                  obtain ⟨hk6, hSt6⟩ := kc kS hk5 hSt5
                  refine ⟨k - 1, by omega, i + 1, vs1, acc2 ++ [x], by omega, hf, h5.rel.stp kS ?_, hk6, hSt6⟩
                  have up : ∀ b o, cx'.Ok (some (s₂.heap.objs.size, s₂.heap.objs.size)) b → NF o → s₅.heap.get? b = some o → cx'.Ok (some (s₂.heap.objs.size, s₂.heap.objs.size)) b ∧ (s₅.heap.update s₂.heap.objs.size (Obj.mapSeq fun x_1 => x_1.push xv)).get? b = some o := fun b o hb _ e => ⟨hb, kS.keep b o hb.2.2.2 e⟩
                  have hu := IsL.update (show IsL s₅.heap s₂.heap.objs.size vsr.toArray nn from hg) (fun x_1 => x_1.push xv)
                  refine ⟨_, vsr ++ [xv], (if ((vsr.toArray.push xv).size == vsr.toArray.size) = true then nn else nn + 1), rfl, ?_, ?_⟩
                  · rw [show (vsr ++ [xv]).toArray = vsr.toArray.push xv by simp]
                    exact hu
                  · exact (hr.mono up).append (Rds.cons (Rd.mono up h5.rv) Rds.nil)
                · cases hf
              · cases hf
            · rename_i acc1 e3
              refine wpAny_bind (hMod (wpAny_mono (hIfs vs1 _ _ _ _ s₃ e3 h3.1) (fun ok s₄ h4 => ?_) fun _ _ e => e.elim))
              rw [h4.eq]
              obtain ⟨hk4, hSt4⟩ := kc h4.stp hk3 hSt3
              exact wpAny_pure ⟨rfl, k - 1, by omega, i + 1, vs1, acc1, by omega, hf, h4.rel, hk4, hSt4⟩
            · cases hf
          · cases hf
        · have hi' : i = ds.length := by omega
          subst hi'
          rw [List.drop_of_length_le (Nat.le_refl _)] at hf
          cases hf
          refine wpAny_mono (J.done s' hSti) (fun r' s₁' h => ?_) fun _ _ e => e.elim
          obtain ⟨rfl, kI⟩ := h
          exact wpAny_pure (fin _ ⟨vsi, Ri.it kI (J.fld _ _ hSti) offI nmI goneI, fun b o hb e => kI.keep b o hb (hk b o hb e)⟩)
      exact codeAny_compStart_list (loop _ rfl) (hself rfl 0 _ _ _ hSt₁ (loop _ rfl))
    · cases hm
  · cases hm
end Mine
end
section
open PySem PySem.Calls PySem.W PyProof.Rows
set_option Elab.async false
set_option maxRecDepth 100000
namespace Mine
section
variable {cx : Cx} {n : Nat}
/-! chained comparisons -/
abbrev ChM := D → TM
def RefCh (cx : Cx) (pos : Pos) (ops : List CmpOp) (es : List Expr) (m : ChM) : Prop :=
  ∀ x a vs c b c' mu s₀ s, m x vs c = some (b, c') → Rel cx vs mu c s → Stp mu s₀ s → Rd cx.w (cx.Ok mu) s.heap x a → wpAny (model prog cx.w) cx.A (testChain pos a ops (evalEach es cx.env)) (PostT cx vs mu c' s₀ b) NoE s
def chLast (f : List D → Option D) (r : EM) : ChM := fun x vs c => match r vs c with
  | some (.d y, c1) => (match f [x, y] with
    | some (.bool b) => some (b, c1)
    | _ => none)
  | _ => none
def chLink (f : List D → Option D) (r : EM) (k : ChM) : ChM := fun x vs c => match r vs c with
  | some (.d y, c1) => (match f [x, y] with
    | some (.bool true) => k y vs c1
    | some (.bool false) => some (false, c1)
    | _ => none)
  | _ => none
theorem refCh_last (G : Good n cx) {pos : Pos} {op : CmpOp} {e : Expr} {m : EM} {f : List D → Option D} (S : Spec n (tCmp op) f) (he : RefE cx e m) : RefCh cx pos [op] [e] (chLast f m) := by
  intro x a vs c b c' mu s₀ s hm R k0 rx
  unfold chLast at hm
  split at hm
  · rename_i y c1 e1
    split at hm
    · rename_i b' e2
      cases hm
      refine test_last (wpAny_mono (he vs c _ _ mu s e1 R) (fun bv s₁ h1 => ?_) fun _ _ e => e)
      refine wpAny_mono (PostE.ofSpec S G.room h1.rel h1.stp (Rds.cons ((show RV cx.w (cx.Ok mu) mu s.heap (.d x) a from rx).stp h1.stp) (Rds.cons h1.rv Rds.nil)) e2) (fun v s₂ h2 => ?_) fun _ _ e => e
      have hv : v = .bool b := by simpa only [RV, Rd] using h2.rv
      subst hv
      exact wpAny_truthy_bool ⟨h2.rel, k0.trans h2.stp, rfl⟩
    · cases hm
  · cases hm
theorem refCh_link (G : Good n cx) {pos : Pos} {op op' : CmpOp} {ops : List CmpOp} {e e' : Expr} {es : List Expr} {m : EM} {k : ChM} {f : List D → Option D} (S : Spec n (tCmp op) f) (he : RefE cx e m) (hk : RefCh cx pos (op' :: ops) (e' :: es) k) :
    RefCh cx pos (op :: op' :: ops) (e :: e' :: es) (chLink f m k) := by
  intro x a vs c b c' mu s₀ s hm R k0 rx
  unfold chLink at hm
  split at hm
  · rename_i y c1 e1
    split at hm
    · rename_i e2
      refine test_link (wpAny_mono (he vs c _ _ mu s e1 R) (fun bv s₁ h1 => ?_) fun _ _ e => e)
      refine wpAny_mono (PostE.ofSpec (s := s₁) S G.room h1.rel (Stp.refl _ s₁) (Rds.cons ((show RV cx.w (cx.Ok mu) mu s.heap (.d x) a from rx).stp h1.stp) (Rds.cons h1.rv Rds.nil)) e2) (fun v s₂ h2 => ?_) fun _ _ e => e
      have hv : v = .bool true := by simpa only [RV, Rd] using h2.rv
      subst hv
      refine wpAny_truthy_bool ?_
      rw [if_pos rfl]
      exact hk y bv vs c1 b c' mu s₀ s₂ hm h2.rel (k0.trans (h1.stp.trans h2.stp)) (h1.rv.stp h2.stp)
    · rename_i e2
      cases hm
      refine test_link (wpAny_mono (he vs c _ _ mu s e1 R) (fun bv s₁ h1 => ?_) fun _ _ e => e)
      refine wpAny_mono (PostE.ofSpec S G.room h1.rel h1.stp (Rds.cons ((show RV cx.w (cx.Ok mu) mu s.heap (.d x) a from rx).stp h1.stp) (Rds.cons h1.rv Rds.nil)) e2) (fun v s₂ h2 => ?_) fun _ _ e => e
      have hv : v = .bool false := by simpa only [RV, Rd] using h2.rv
      subst hv
      refine wpAny_truthy_bool ?_
      rw [if_neg Bool.false_ne_true]
      exact ⟨h2.rel, k0.trans h2.stp, rfl⟩
    · cases hm
  · cases hm
def tChain (l : EM) (k : ChM) : TM := fun vs c => match l vs c with
  | some (.d x, c1) => k x vs c1
  | _ => none
theorem refT_chain {l : Expr} {op₁ op₂ : CmpOp} {ops : List CmpOp} {r₁ r₂ : Expr} {rs : List Expr} {pos : Pos} {ml : EM} {k : ChM} (hl : RefE cx l ml) (hk : RefCh cx pos (op₁ :: op₂ :: ops) (r₁ :: r₂ :: rs) k)
    (hm : lastMarks (op₁ :: op₂ :: ops) (r₁ :: r₂ :: rs) = false := by with_unfolding_all rfl) : RefT cx (.Compare l (op₁ :: op₂ :: ops) (r₁ :: r₂ :: rs) pos) (tChain ml k) := by
  intro vs c b c' mu s hm' R
  unfold tChain at hm'
  split at hm'
  · rename_i x c1 e1
    exact isTrue_chain (wpAny_mono (hl vs c _ _ mu s e1 R) (fun a s₁ h1 => hk x a vs c1 b c' mu s s₁ hm' h1.rel h1.stp h1.rv) fun _ _ e => e) hm
  · cases hm'
end
end Mine
end
section
open PySem PySem.Calls PySem.W PyProof.Rows PySem.Builtin
set_option Elab.async false
set_option maxRecDepth 100000
namespace Mine
/-- `t[:2]` of a tuple of three -/
theorem first_two {w : World} {A : Around} {E : Value → Shared → Prop} {s : Shared} {t sl : Addr} {x y z : Value} {u : Tok} {Q : Value → Shared → Prop} (ht : IsTup s.heap t #[x, y, z]) (hs : s.heap.IsSliceOf sl .none (.int 2 u) .none)
    (h : Q (.ref s.heap.objs.size) { s with heap := s.heap.push { cls := .type "tuple", data := .seq #[x, y] } }) : wpAny (model prog w) A (getItem (.ref t) (.ref sl)) Q E s := by
  obtain ⟨os, hos, hcs, hds⟩ := hs
  have hS : s.TypeIs (.ref sl) "slice" := ⟨os, hos, hcs⟩
  have p0 : ∀ {R : Value → Shared → Prop}, R .none s → wpAny (model prog w) A.in1 (field (.ref sl) 0) R E s := fun q => wpAny_field hos hds rfl q
  have p1 : ∀ {R : Value → Shared → Prop}, R (.int 2 u) s → wpAny (model prog w) A.in1 (field (.ref sl) 1) R E s := fun q => wpAny_field hos hds rfl q
  have p2 : ∀ {R : Value → Shared → Prop}, R .none s → wpAny (model prog w) A.in1 (field (.ref sl) 2) R E s := fun q => wpAny_field hos hds rfl q
  have body : wpAny (model prog w) A.in1 (Builtin.«tuple.__getitem__» ⟨[.ref t, .ref sl], []⟩) (fun fin s' => ∃ v, fin = .done (.ret v) ∧ Q v s') E s := by
    simp only [Builtin.«tuple.__getitem__», Builtin.Slice.sliceApplied, Builtin.Slice.sliceFields]
    repeat (first
      | with_reducible refine tupleItemsOf_ ht ?_
      | with_reducible refine p0 ?_
      | with_reducible refine p1 ?_
      | with_reducible refine p2 ?_
      | with_reducible refine slicePart_none ?_
      | with_reducible refine slicePart_int ?_
      | wp_step)
    exact ⟨_, rfl, h⟩
  exact wpAny_holding (wpAny_bind (wpAny_sequenceKey ht.typeIs (by decide) (wpAny_bind (wpAny_callSpecial?_slot ht.typeIs slot_tuple_getitem
    (wpAny_call_entry slot_tuple_getitem ht.typeIs entry_tuple_getitem (wpAny_mono body (fun fin s' q => by obtain ⟨v, e, q⟩ := q; exact ⟨v, e, wpAny_pure q⟩) fun _ _ e => e) (args_tuple_getitem _ _))))))
def fTo2 : List D → Option D
  | [.tup [a, b, _], .none, .int 2, .none] => some (.tup [a, b])
  | _ => none
theorem spec_to2 : SpecSl 0 fTo2 := by
  intro w A s P o l u st ds d G B hr hf
  unfold fTo2 at hf
  split at hf
  · cases hf
    obtain ⟨o', r, e, ho, hr⟩ := hr.cons_inv
    cases e
    obtain ⟨l', u', st', e, hl, hu, hst⟩ := hr.three
    cases e
    obtain ⟨a, va, na, rfl, hpa, hga, hra⟩ := rd_tup ho
    obtain ⟨x, y, z, rfl, hx, hy, hz⟩ := hra.three
    rw [rd_none hl, rd_none hst]
    obtain ⟨t, rfl⟩ := rd_int hu
    have hg' := Heap.get?_push_of_some { cls := .type "slice", data := .fields #[.none, .int 2 t, .none] } hga
    refine ⟨"tuple", _, F.slot_tuple_getitem.lookup, ⟨_, hg', rfl⟩, first_two (x := x) (y := y) (z := z) ⟨_, hg', rfl, na, rfl⟩ (Heap.IsSliceOf.new ..) ?_⟩
    have hp := Pur.push s { cls := .type "slice", data := .fields #[.none, .int 2 t, .none] } s.toks
    have hp2 := Pur.push { s with heap := s.heap.push { cls := .type "slice", data := .fields #[.none, .int 2 t, .none] } } { cls := .type "tuple", data := .seq #[x, y] } s.toks
    refine ⟨hp.trans hp2, ?_⟩
    simp only [Rd]
    refine ⟨_, [x, y], 0, rfl, .inr ?_, Heap.get?_push_size _ rfl, Rds.mono (fun b o hb _ e => ⟨.inl hb, hp2.keep b o (hp.keep b o e)⟩) (Rds.cons hx (Rds.cons hy Rds.nil))⟩
    show s.heap.objs.size ≤ (s.heap.push _).objs.size
    simp only [Heap.size_push]; omega
  · cases hf
/-! pairs compared -/
def fEqPair : List D → Option D
  | [.tup [.str x, .int i], .tup [.str y, .int j]] => some (.bool (x == y && i == j))
  | _ => none
theorem spec_eqPair : Spec 0 (tCmp .Eq) fEqPair := by
  intro w A s P vs ds d G B hr hf
  unfold fEqPair at hf
  split at hf
  · rename_i x i y j
    cases hf
    obtain ⟨a, b, rfl, ha, hb⟩ := hr.two
    obtain ⟨a, va, na, rfl, hpa, hga, hra⟩ := rd_tup ha
    obtain ⟨b, vb, nb, rfl, hpb, hgb, hrb⟩ := rd_tup hb
    obtain ⟨p, q, rfl, hp, hq⟩ := hra.two
    obtain ⟨p', q', rfl, hp', hq'⟩ := hrb.two
    obtain ⟨t1, rfl⟩ := rd_str hp
    obtain ⟨t2, rfl⟩ := rd_int hq
    obtain ⟨t3, rfl⟩ := rd_str hp'
    obtain ⟨t4, rfl⟩ := rd_int hq'
    refine SeqAt.eq_tupleAt (l := a) (b := b) (items := #[.str (strOf x) t1, .int i t2]) (items2 := #[.str (strOf y) t3, .int j t4]) (e := fun k => if k = 0 then x == y else i == j) ⟨_, hga, rfl, na, rfl⟩ ⟨_, hgb, rfl, nb, rfl⟩ ?_ ?_ ?_
    · have := G.units
      have : cLine = 9900 := rfl
      omega
    · intro k h1 h2
      match k, h1 with
      | 0, _ =>
        have := SeqAt.EqAt.str_str (A := A.in1) (s := s) (strOf x) t1 (strOf y) t3
        rw [strOf_beq] at this
        exact this
      | 1, _ => exact SeqAt.EqAt.int_int (A := A.in1) (s := s) i t2 j t4
    · have : ((List.range (min (#[Value.str (strOf x) t1, Value.int i t2] : Array Value).size (#[Value.str (strOf y) t3, Value.int j t4] : Array Value).size)).all (fun k => if k = 0 then x == y else i == j) && (#[Value.str (strOf x) t1, Value.int i t2] : Array Value).size == (#[Value.str (strOf y) t3, Value.int j t4] : Array Value).size) = (x == y && i == j) := by
        show ((List.range 2).all _ && true) = _
        simp [List.range, List.range.loop]
      rw [this]
      exact post_bool
  · cases hf

/-! formats -/
theorem pct_s (z : PySem.Str) (hz : z.length ≤ 1000000) (t u : Tok) :
    Meets («str.__mod__» ⟨[.str ⟨#[123, 37, 115, 125]⟩ t, .str z u], []⟩) (fun _ R s => ∀ t' k, R (.ok (.ret (.str (PySem.Str.ofString "{" ++ z ++ PySem.Str.ofString "}") t'))) { s with toks := k }) := by
  revert z
  kpc_run_s
set_option maxHeartbeats 4000000 in
theorem pct_t (x z : PySem.Str) (i : Int) (hx : x.length ≤ 1000000) (hz : z.length ≤ 1000000) (h0 : 0 ≤ i) (h1 : i < 10 ^ 10) (t t1 t2 t3 : Tok) (b : Addr) :
    Meets («str.__mod__» ⟨[.str ⟨#[37, 115, 58, 37, 100, 40, 37, 115, 41]⟩ t, .ref b], []⟩)
      (fun _ R s => IsTup s.heap b #[.str x t1, .int i t2, .str z t3] ∧ ∀ t' k, R (.ok (.ret (.str (x ++ PySem.Str.ofString ":" ++ PySem.Str.ofString (toString i) ++ PySem.Str.ofString "(" ++ z ++ PySem.Str.ofString ")") t'))) { s with toks := k }) := by
  kpt_run
def fFmt : List D → Option D
  | [.str p, .str z] => if p = [123, 37, 115, 125] ∧ z.length ≤ 1000 then some (.str ([123] ++ z ++ [125])) else none
  | [.str p, .tup [.str x, .int (.ofNat i), .str z]] => if p = [37, 115, 58, 37, 100, 40, 37, 115, 41] ∧ x.length ≤ 1000 ∧ z.length ≤ 1000 ∧ i ≤ 9 then some (.str (x ++ [58] ++ [48 + i] ++ [40] ++ z ++ [41])) else none
  | _ => none
theorem spec_fmt : Spec 0 (tBin .Mod) fFmt := by
  intro w A s P vs ds d G B hr hf
  unfold fFmt at hf
  split at hf
  · rename_i z
    split at hf
    · rename_i hl
      obtain ⟨rfl, hl⟩ := hl
      cases hf
      obtain ⟨a, b, rfl, ha, hb⟩ := hr.two
      obtain ⟨t, rfl⟩ := rd_str ha
      obtain ⟨u, rfl⟩ := rd_str hb
      refine KPc.mod_str (T := fun y => PySem.Str.ofString "{" ++ y ++ PySem.Str.ofString "}") (X' := ⟨#[123, 37, 115, 125]⟩) rfl (by rw [strOf_length]; omega) (fun y hy => pct_s y hy _ _) fun t' k => ?_
      have e : PySem.Str.ofString "{" ++ strOf z ++ PySem.Str.ofString "}" = strOf ([123] ++ z ++ [125]) := by
        rw [show PySem.Str.ofString "{" = strOf [123] by decide +kernel, show PySem.Str.ofString "}" = strOf [125] by decide +kernel, strOf_append, strOf_append]
      rw [e]
      exact post_str
    · cases hf
  · rename_i x i z
    split at hf
    · rename_i hl
      obtain ⟨rfl, hl⟩ := hl
      cases hf
      obtain ⟨a, b, rfl, ha, hb⟩ := hr.two
      obtain ⟨t, rfl⟩ := rd_str ha
      obtain ⟨b, vb, nb, rfl, hpb, hgb, hrb⟩ := rd_tup hb
      obtain ⟨p, q, r, rfl, hp, hq, hr'⟩ := hrb.three
      obtain ⟨t1, rfl⟩ := rd_str hp
      obtain ⟨t2, rfl⟩ := rd_int hq
      obtain ⟨t3, rfl⟩ := rd_str hr'
      have hT : s.TypeIs (.ref b) "tuple" := ⟨_, hgb, rfl⟩
      have hm := pct_t (strOf x) (strOf z) (Int.ofNat i) (by rw [strOf_length]; omega) (by rw [strOf_length]; omega) (Int.natCast_nonneg i) (by show (i : Int) < _; omega) t t1 t2 t3 b
      have e : strOf x ++ PySem.Str.ofString ":" ++ PySem.Str.ofString (toString (Int.ofNat i)) ++ PySem.Str.ofString "(" ++ strOf z ++ PySem.Str.ofString ")" = strOf (x ++ [58] ++ [48 + i] ++ [40] ++ z ++ [41]) := by
        rw [show PySem.Str.ofString ":" = strOf [58] by decide +kernel, show PySem.Str.ofString "(" = strOf [40] by decide +kernel, show PySem.Str.ofString ")" = strOf [41] by decide +kernel, digit_text i hl.2.2]
        simp only [strOf_append]
      rw [e] at hm
      exact KPt.bin_left (T := "str") (U := "tuple") (op := .Mod) (by decide) (typeIs_str s _ t) hT PySem.F.fills_str_mod KPt.fills_tuple PySem.F.slot_str_mod
        (call_meets PySem.F.slot_str_mod (typeIs_str s _ t) PySem.F.entry_str_mod (PySem.F.args_str_mod_2 _ _) hm ⟨⟨_, hgb, rfl, nb, rfl⟩, fun t' k => ⟨(fun e => nomatch e), post_str⟩⟩)
    · cases hf
  · cases hf

end Mine
end
section
open PySem PySem.Calls PySem.W PyProof.Rows PySem.Builtin
set_option Elab.async false
set_option maxRecDepth 100000
namespace Mine
theorem refE_neg {cx : Cx} {k : Int} {kd : Nat} {p pos : Pos} : RefE cx (.UnaryOp .USub (.Constant (.int k) kd p) pos) (eInt (-k)) := by
  intro vs c d c' mu s hm R
  cases hm
  refine wpAny_UnaryOp (wpAny_Constant_int (PyProof.Rows.neg_int ?_))
  have hp : Pur s { s with toks := s.toks + 1 + 1 } := Pur.tok ..
  exact ⟨R.pur hp, hp.stp mu, ⟨_, rfl⟩⟩
/-! func_std_string -/
def vStd : List (PySem.Str × Bool) := [("func_name", false), ("name", false)]
theorem fnStd : Fn 154 (fdAt 154) ["func_name"] vStd (bodyAt 154) :=
  fn_of (fun w => ⟨_, rfl, rfl⟩) (fun w => by rfl) (by rfl) (fun vals h => by obtain ⟨a, rfl⟩ := len1 h; rfl) (by rfl) (by rfl) (by rfl) (by rfl) (by rfl) (by rfl) (by rfl) (by decide) (by rfl) (fun L => by rfl)
def mStd : SM :=
  sSeq (sIf (tTwo fEqPair (eSlice fTo2 (eVar 0) eNone (eInt 2) eNone) (eTup (aCons (eStr [126]) (aCons (eInt 0) aNil))))
    (sSeq (sSet 1 (eTwo fIdx (eVar 0) (eInt 2)))
    (sSeq (sIf (tAnd (tVal (eMeth "str" fStarts (eVar 1) (aCons (eStr [60]) aNil))) (tAnd (tVal (eMeth "str" fEnds (eVar 1) (aCons (eStr [62]) aNil))) (tConst true)))
      (sSeq (sRet (eTwo fFmt (eStr [123, 37, 115, 125]) (eSlice fSlice (eVar 1) (eInt 1) (eInt (-1)) eNone))) sNil)
      (sSeq (sRet (eVar 1)) sNil)) sNil))
    (sSeq (sRet (eTwo fFmt (eStr [37, 115, 58, 37, 100, 40, 37, 115, 41]) (eVar 0))) sNil)) sNil
theorem bStd (w : World) (A : Around) (s : Shared) (P : Addr → Prop) (G : Good 0 (cxOf w A (fdAt 154) 154 vStd P s)) (O : Own (cxOf w A (fdAt 154) 154 vStd P s)) : RefB2 (cxOf w A (fdAt 154) 154 vStd P s) (bodyAt 154) mStd := by
  refine refB2_of (refB_cons (refS_if (refT_cmp G spec_eqPair (refE_slice G spec_to2 (refE_var G rfl rfl) refP_none (refP_some refE_int) refP_none) (refE_tup (refA_cons (refE_str rfl) (refA_cons refE_int refA_nil)))) ?_ ?_) refB_nil)
  · refine refB_cons (refS_assign G O rfl (refE_sub G spec_idx (refE_var G rfl rfl) refE_int) rfl) ?_
    refine refB_cons (refS_if (refT_bool (refAnd_cons (refT_val (refE_meth G PySem.F.plainAttrs_str PySem.F.slot_str_startswith PySem.F.type_str_startswith spec_starts (refE_var G rfl rfl) (refA_cons (refE_str rfl) refA_nil)))
      (refAnd_cons (refT_val (refE_meth G PySem.F.plainAttrs_str PySem.F.slot_str_endswith PySem.F.type_str_endswith spec_ends (refE_var G rfl rfl) (refA_cons (refE_str rfl) refA_nil))) refAnd_nil))) ?_ ?_) refB_nil
    · refine refB_cons (refS_ret (refE_bin G spec_fmt (refE_str rfl) (refE_slice G spec_slice (refE_var G rfl rfl) (refP_some refE_int) (refP_some ?_) refP_none))) refB_nil
      exact refE_neg
    · exact refB_cons (refS_ret (refE_var G rfl rfl)) refB_nil
  · exact refB_cons (refS_ret (refE_bin G spec_fmt (refE_str rfl) (refE_var G rfl rfl))) refB_nil
theorem spec_std : Spec 1 (fun vs => call (.ref 154) vs) (fnM 1 2 mStd) := spec_fn fnStd bStd
end Mine
end
section
open PySem PySem.Calls PySem.W PyProof.Rows PySem.Builtin
set_option Elab.async false
set_option maxRecDepth 100000
namespace Mine
def iList (m : EM) : IM := fun vs c => match m vs c with
  | some (.d (.list ds), c') => some (ds, c')
  | _ => none
theorem refI_lst {cx : Cx} {n : Nat} (G : Good n cx) {target e : Expr} {m : EM} (he : RefE cx e m) : RefI cx true target e (iList m) := refI_list G he
def captB (cvs vs' : List (PySem.Str × Bool)) (cl : List (PySem.Str × Addr)) : List (Option Nat) → Nat → Bool
  | [], _ => true
  | none :: r, j => captB cvs vs' cl r (j + 1)
  | some i :: r, j => (match vs'[j]? with
    | some (x, true) => cvs[i]? == some (x, true) && (cl.lookup x).isSome
    | _ => false) && captB cvs vs' cl r (j + 1)
theorem captB_spec {cvs vs' : List (PySem.Str × Bool)} {cl : List (PySem.Str × Addr)} : ∀ {capt : List (Option Nat)} {k : Nat}, captB cvs vs' cl capt k = true →
    ∀ (j i : Nat), capt[j]? = some (some i) → ∃ x, vs'[k + j]? = some (x, true) ∧ cvs[i]? = some (x, true) ∧ (cl.lookup x).isSome = true
  | [], _, _, j, i, e => by simp at e
  | none :: r, k, h, j, i, e => by
    unfold captB at h
    cases j with
    | zero => simp at e
    | succ j =>
      have := captB_spec h j i (by simpa using e)
      rwa [show k + 1 + j = k + (j + 1) by omega] at this
  | some i' :: r, k, h, j, i, e => by
    unfold captB at h
    rw [Bool.and_eq_true] at h
    cases j with
    | zero =>
      simp only [List.getElem?_cons_zero, Option.some.injEq] at e
      subst e
      obtain ⟨h1, _⟩ := h
      split at h1
      · rename_i x hx
        rw [Bool.and_eq_true, beq_iff_eq] at h1
        exact ⟨x, hx, h1.1, h1.2⟩
      · cases h1
    | succ j =>
      have := captB_spec h.2 j i (by simpa using e)
      rwa [show k + 1 + j = k + (j + 1) by omega] at this
theorem compOk {cx : Cx} {scope : Scope} {cl : List (PySem.Str × Addr)} {vs' : List (PySem.Str × Bool)} {capt : List (Option Nat)} (clos : closureFor scope cx.env = pure cl) (cell : scope.names.all (fun y => y.2 != .cell) = true) (kind : scope.kind = .function)
    (names : scope.names.all (fun y => y.2 != .local || scope.names.lookup y.1 == some .local) = true) (sub : ∀ n c, cl.lookup n = some c → cx.env.cells.lookup n = some c) (nd : (vs'.map (·.1)).Nodup) (hc : captB cx.vs vs' cl capt 0 = true) : CompOk cx scope cl vs' capt where
  clos := clos
  cell := by
    intro y hy
    have := List.all_eq_true.mp cell y hy
    intro e
    rw [e] at this
    cases this
  kind := kind
  names := by
    intro y hy e
    have := List.all_eq_true.mp names y hy
    rw [e] at this
    simp only [Bool.or_eq_true] at this
    rcases this with h | h
    · cases h
    · cases hl : scope.names.lookup y.1 with
      | none => rw [hl] at h; cases h
      | some k =>
        rw [hl] at h
        cases k <;> first | rfl | cases h
  sub := sub
  nd := nd
  capt := fun j i e => by simpa using captB_spec hc j i e

/-! _law_name -/
def vName : List (PySem.Str × Bool) := [("arcs", false), ("crossings", false), ("nestings", false), ("begin", true), ("end", true), ("dots", false), ("crossed", false)]
theorem fnName : Fn 173 (fdAt 173) ["arcs"] vName (bodyAt 173) :=
  fn_of (fun w => ⟨_, rfl, rfl⟩) (fun w => by rfl) (by rfl) (fun vals h => by obtain ⟨a, rfl⟩ := len1 h; rfl) (by rfl) (by rfl) (by rfl) (by rfl) (by rfl) (by rfl) (by rfl) (by decide) (by rfl) (fun L => by rfl)
def fStd : List D → Option D := fnM 1 2 mStd
def eCrossed : EM := eCall fLen (aCons (eComp [none, some 3, some 4] (iList (eVar 0)) (tgName 0)
    (tChain (eTwo fIdx (eVar 0) (eInt 0)) (chLink fLt (eVar 1) (chLink fLt (eTwo fIdx (eVar 0) (eInt 1)) (chLast fLt (eVar 2))))) (eVar 0)) aNil)
def eNested : EM := eCall fLen (aCons (eComp [none, some 3, some 4] (iList (eVar 0)) (tgName 0)
    (tAnd (tTwo fLt (eTwo fIdx (eVar 0) (eInt 0)) (eVar 1)) (tAnd (tTwo fLt (eVar 2) (eTwo fIdx (eVar 0) (eInt 1))) (tConst true))) (eVar 0)) aNil)
def mName : SM :=
  sSeq (sSet 1 (eInt 0)) (sSeq (sSet 2 (eInt 0)) (sSeq (sFor (iList (eVar 0)) (tgTup (tgCons (tgName 3) (tgCons (tgName 4) (tgCons (tgName 5) tgNil))))
    (sSeq (sSet 6 eCrossed)
    (sSeq (sIf (tTwo fNe (eVar 5) (eTwo fAdd (eInt 1) (eVar 6))) (fun _ _ => none) sNil)
    (sSeq (sAug 1 fIAdd (eVar 6))
    (sSeq (sAug 2 fIAdd eNested) sNil)))))
    (sSeq (sRet (eCall fStd (aCons (eTup (aCons (eStr [126]) (aCons (eVar 1) (aCons (eTwo fAdd (eTwo fAdd (eStr [60]) (eCall fStr (aCons (eVar 2) aNil))) (eStr [62])) aNil)))) aNil))) sNil)))
set_option maxHeartbeats 1000000 in
theorem bName (w : World) (A : Around) (s : Shared) (P : Addr → Prop) (G : Good 1 (cxOf w A (fdAt 173) 173 vName P s)) (O : Own (cxOf w A (fdAt 173) 173 vName P s)) : RefB2 (cxOf w A (fdAt 173) 173 vName P s) (bodyAt 173) mName := by
  refine refB2_of ?_
  refine refB_cons (refS_assign G O rfl refE_int rfl) ?_
  refine refB_cons (refS_assign G O rfl refE_int rfl) ?_
  refine refB_cons (refS_for (refI_lst G (refE_var G rfl rfl)) (refTg_tup G (refTgs_cons (refTg_name G O rfl rfl) (refTgs_cons (refTg_name G O rfl rfl) (refTgs_cons (refTg_name G O rfl rfl) refTgs_nil)))) ?_) ?_
  · refine refB_cons (refS_assign G O rfl (refE_call G (loads_builtin G rfl rfl rfl) (handed_builtin _) spec_len.up (refA_cons ?_ refA_nil)) rfl) ?_
    · refine refE_comp (cl := (cxOf w A (fdAt 173) 173 vName P s).env.cells) (vs' := [("a", false), ("begin", true), ("end", true)]) G (compOk rfl rfl rfl rfl (fun _ _ h => h) (by decide) rfl) (refI_lst G (refE_var G rfl rfl)) fun mu s₂ I C G' O' => ⟨refTgL_name G' O' rfl rfl, refIfs_one ?_, refE_var G' rfl rfl⟩
      exact refT_chain (refE_sub G' spec_idx.up (refE_var G' rfl rfl) refE_int) (refCh_link G' spec_lt.up (refE_var G' rfl rfl) (refCh_link G' spec_lt.up (refE_sub G' spec_idx.up (refE_var G' rfl rfl) refE_int) (refCh_last G' spec_lt.up (refE_var G' rfl rfl))))
    refine refB_cons (refS_if (refT_cmp G spec_ne.up (refE_var G rfl rfl) (refE_bin G spec_add.up refE_int (refE_var G rfl rfl))) refB_none refB_nil) ?_
    refine refB_cons (refS_aug G O spec_iadd.up rfl (refE_var G rfl rfl) rfl) ?_
    refine refB_cons (refS_aug G O spec_iadd.up rfl (refE_call G (loads_builtin G rfl rfl rfl) (handed_builtin _) spec_len.up (refA_cons ?_ refA_nil)) rfl) refB_nil
    refine refE_comp (cl := (cxOf w A (fdAt 173) 173 vName P s).env.cells) (vs' := [("a", false), ("begin", true), ("end", true)]) G (compOk rfl rfl rfl rfl (fun _ _ h => h) (by decide) rfl) (refI_lst G (refE_var G rfl rfl)) fun mu s₂ I C G' O' => ⟨refTgL_name G' O' rfl rfl, refIfs_one ?_, refE_var G' rfl rfl⟩
    exact refT_bool (refAnd_cons (refT_cmp G' spec_lt.up (refE_sub G' spec_idx.up (refE_var G' rfl rfl) refE_int) (refE_var G' rfl rfl)) (refAnd_cons (refT_cmp G' spec_lt.up (refE_var G' rfl rfl) (refE_sub G' spec_idx.up (refE_var G' rfl rfl) refE_int)) refAnd_nil))
  · refine refB_cons (refS_ret (refE_call G (loads_global G rfl rfl) (handed_fn fun w => ⟨_, _, rfl, rfl⟩) spec_std (refA_cons (refE_tup (refA_cons (refE_str rfl) (refA_cons (refE_var G rfl rfl) (refA_cons ?_ refA_nil)))) refA_nil))) refB_nil
    exact refE_bin G spec_add.up (refE_bin G spec_add.up (refE_str rfl) (refE_call G (loads_builtin G rfl rfl rfl) (handed_type _) spec_str.up (refA_cons (refE_var G rfl rfl) refA_nil))) (refE_str rfl)
theorem spec_name : Spec 2 (fun vs => call (.ref 173) vs) (fnM 1 7 mName) := spec_fn fnName bName
end Mine
end
section
open PySem PySem.Calls PySem.W PyProof.Rows PySem.Builtin
set_option Elab.async false
set_option maxRecDepth 100000
namespace Mine
section
variable {cx : Cx} {n : Nat}
theorem Rel.unborn {vs : Vars} {a d : Addr} {c : MU} {s s' : Shared} (R : Rel cx vs none .none s) (R' : Rel cx vs (some (a, d)) c s') : Rel cx vs none .none s' := by
  obtain ⟨m, cm, F, hv⟩ := R'.frm
  obtain ⟨m0, cm0, F0, hv0⟩ := R.frm
  refine ⟨⟨m, cm, F, fun i x b e h1 h2 => ?_⟩, rfl, fun b hb => hb.elim, R.fresh, R.base⟩
  obtain ⟨v, hv1, hv2⟩ := hv i x b e h1 h2
  refine ⟨v, hv1, ?_⟩
  cases e with
  | own => obtain ⟨v0, _, _, _, h, _⟩ := hv0 i x b .own h1 h2; cases h
  | d y => exact Rd.mono (fun b o hb _ e => ⟨⟨hb.1, hb.2.1, hb.2.2.1, fun h => h⟩, e⟩) hv2
def oneD (mk mv : EM) : Vars → Option MU := fun vs => match mk vs (.dict []) with
  | some (.d (.str k), .dict []) => (match mv vs (.dict []) with
    | some (.d (.int i), .dict []) => some (.dict [(k, .int i)])
    | _ => none)
  | _ => none
theorem dict1_at {ke ve : Expr} {pos : Pos} {mk mv : EM} (hk : RefE cx ke mk) (hv : RefE cx ve mv) {vs : Vars} {c : MU} {s : Shared} (hm : oneD mk mv vs = some c) (R : Rel cx vs none .none s) :
    wpAny (model prog cx.w) cx.A (eval (.Dict [some ke] [ve] pos) cx.env) (fun v s' => v = .ref s.heap.objs.size ∧ Rel cx vs (some (s.heap.objs.size, s.heap.objs.size)) c s' ∧ Pur s s') NoE s := by
  unfold oneD at hm
  split at hm
  · rename_i k e1
    split at hm
    · rename_i i e2
      cases hm
      have hp0 : Pur s { s with heap := s.heap.push { cls := .type "dict", data := .dict #[] } } := Pur.push s _ s.toks
      have R0 : Rel cx vs (some (s.heap.objs.size, s.heap.objs.size)) (.dict []) { s with heap := s.heap.push { cls := .type "dict", data := .dict #[] } } :=
        R.born hp0 (Nat.le_refl _) (Nat.le_refl _) ⟨_, [], 0, rfl, R.hb.not_modules (Nat.le_refl _), Heap.get?_push_size _ rfl, by simp only [Rde]⟩
      refine wpAny_Dict_pairs (knd := strKind prog cx.w) (pairs := [(eval ke cx.env, do let x ← eval ve cx.env; standAt pos; pure x)]) rfl (by simp) (by simp) ?_
      refine evalPairs_cons (wpAny_mono (hk vs _ _ _ _ _ e1 R0) (fun kv s₁ h1 => wpAny_bind (wpAny_mono (hv vs _ _ _ _ s₁ e2 h1.rel) (fun vv s₂ h2 => wpAny_bind (wpAny_standAt (wpAny_pure (evalPairs_nil ?_)))) fun _ _ e => e)) fun _ _ e => e)
      obtain ⟨t, rfl⟩ := RV.str h1.rv
      obtain ⟨u, rfl⟩ := RV.int h2.rv
      have k12 := h1.stp.trans h2.stp
      have mo := h2.rel.mobj
      obtain ⟨a, ens, ep, e, hne, hg, hr⟩ := mo
      cases e
      obtain ⟨kvs, hD2, hkv0⟩ := hr.dictOf List.nodup_nil hg
      have hkn : kvs = [] := hkv0
      subst hkn
      refine ⟨[(strOf k, .int i u)], ⟨is_str cx.w k t, rfl, trivial⟩, hD2, fun h' hm hs => ?_⟩
      have hst : merged [] [(strOf k, Value.int i u)] = [(strOf k, Value.int i u)] := by simp [merged, stored]
      rw [hst] at hm
      have hkv : Rkv cx.w (cx.Ok (some (s.heap.objs.size, s.heap.objs.size))) h' [(k, .int i)] [(strOf k, Value.int i u)] := ⟨_, [], rfl, ⟨u, rfl⟩, rfl⟩
      obtain ⟨ens', nn, hg', hr'⟩ := dictOf_inv hm hkv
      have kS : Stp (some (s.heap.objs.size, s.heap.objs.size)) s₂ { s₂ with heap := h', toks := s₂.toks + 1 } := ⟨⟨_, _, rfl⟩, fun b o hb e => hs.extBut b o (fun q => hb (by rw [q]; exact .inl rfl)) e⟩
      refine ⟨rfl, h2.rel.stp kS ⟨_, ens', nn, rfl, hne, hg', hr'⟩, ?_⟩
      obtain ⟨h2', tk2, e2'⟩ := (k12.trans kS).same
      refine ⟨⟨_, _, e2'⟩, fun b o e => (k12.trans kS).keep b o (fun h => ?_) (hp0.keep b o e)⟩
      have := Heap.lt_size e
      rcases h with h | h <;> exact absurd this (by rw [h]; exact Nat.lt_irrefl _)
    · cases hm
  · cases hm
theorem refNew_dict1 {ke ve : Expr} {pos : Pos} {mk mv : EM} (hk : RefE cx ke mk) (hv : RefE cx ve mv) : RefNew cx (.Dict [some ke] [ve] pos) (oneD mk mv) := by
  intro vs c' s hm R
  exact wpAny_mono (dict1_at hk hv hm R) (fun v s' h => ⟨_, _, h.1, h.2.1⟩) fun _ _ e => e
def eDict1 (mk mv : EM) : EM := fun vs c => match c with
  | .none => (match oneD mk mv vs with
    | some (.dict es) => some (.d (.dict es), .none)
    | _ => none)
  | _ => none
theorem refE_dict1 {ke ve : Expr} {pos : Pos} {mk mv : EM} (hk : RefE cx ke mk) (hv : RefE cx ve mv) : RefE cx (.Dict [some ke] [ve] pos) (eDict1 mk mv) := by
  intro vs c d c' mu s hm R
  unfold eDict1 at hm
  split at hm
  · split at hm
    · rename_i es e1
      cases hm
      have hmu : mu = none := R.mobj
      subst hmu
      refine wpAny_mono (dict1_at hk hv e1 R) (fun v s' h => ?_) fun _ _ e => e
      obtain ⟨rfl, R', hp⟩ := h
      refine ⟨R.unborn R', hp.stp _, ?_⟩
      obtain ⟨a, ens, ep, e, hne, hg, hr⟩ := R'.mobj
      cases e
      show Rd _ _ _ _ _
      simp only [Rd]
      exact ⟨_, ens, ep, rfl, R.okNew (Nat.le_refl _), hne, hg, hr.mono fun b o hb _ e => ⟨⟨hb.1, hb.2.1, hb.2.2.1, fun h => h⟩, e⟩⟩
    · cases hm
  · cases hm
/-- an empty dict that is data -/
def eDict0 : EM := fun _ c => some (.d (.dict []), c)
theorem refE_dict0 {pos : Pos} : RefE cx (.Dict [] [] pos) eDict0 := by
  intro vs c d c' mu s hm R
  cases hm
  refine wpAny_Dict_empty ?_
  have hp := Pur.push s { cls := .type "dict", data := .dict #[] } s.toks
  refine ⟨R.pur hp, hp.stp mu, ?_⟩
  show Rd _ _ _ _ _
  simp only [Rd]
  exact ⟨_, [], 0, rfl, R.okNew (Nat.le_refl _), R.hb.not_modules (Nat.le_refl _), Heap.get?_push_size _ rfl, by simp only [Rde]⟩
end

/-! _law_due -/
def vDue : List (PySem.Str × Bool) := [("heights", false), ("counts", true), ("high", true), ("k", false), ("total", false), ("due", false)]
theorem fnDue : Fn 190 (fdAt 190) ["heights"] vDue (bodyAt 190) :=
  fn_of (fun w => ⟨_, rfl, rfl⟩) (fun w => by rfl) (by rfl) (fun vals h => by obtain ⟨a, rfl⟩ := len1 h; rfl) (by rfl) (by rfl) (by rfl) (by rfl) (by rfl) (by rfl) (by rfl) (by decide) (by rfl) (fun L => by rfl)
def eTextOf (e : EM) : EM := eCall fStr (aCons e aNil)
def eCounts : EM := eComp [none, some 1, some 2] (iRange (aCons (eTwo fSub (eTwo fAdd (eCall fLen (aCons (eVar 1) aNil)) (eVar 2)) (eInt 1)) aNil)) (tgName 0) (tConst true)
  (eCall fSum (aCons (eSlice fSlice (eVar 1) (eCall fMax (aCons (eInt 0) (aCons (eTwo fAdd (eTwo fSub (eVar 0) (eVar 2)) (eInt 1)) aNil))) (eTwo fAdd (eVar 0) (eInt 1)) eNone) aNil))
def mDue : SM :=
  sSeq (sSet 1 (eList (aCons (eInt 1) aNil)))
  (sSeq (sFor (iList (eVar 0)) (tgName 2) (sSeq (sSet 1 eCounts) sNil))
  (sSeq (sSet 4 (eTwo fSub (eCall fLen (aCons (eVar 1) aNil)) (eInt 1)))
  (sNew 5 (oneD (eTwo fAdd (eTwo fAdd (eStr [123]) (eTextOf (eVar 4))) (eStr [125])) (eTwo fIdx (eVar 1) (eInt 0)))
  (sSeq (sFor (iRange (aCons (eInt 1) (aCons (eTwo fAdd (eVar 4) (eInt 1)) aNil))) (tgName 3)
    (sSeq (sPut 5 (eTwo fAdd (eTwo fAdd (eTwo fAdd (eTwo fAdd (eStr [126, 58]) (eTextOf (eVar 3))) (eStr [40, 60])) (eTextOf (eTwo fSub (eVar 4) (eVar 3)))) (eStr [62, 41])) (eTwo fIdx (eVar 1) (eVar 3))) sNil))
  (sSeq (sRet (eVar 5)) sNil)))))
set_option maxHeartbeats 1000000 in
theorem bDue (w : World) (A : Around) (s : Shared) (P : Addr → Prop) (G : Good 0 (cxOf w A (fdAt 190) 190 vDue P s)) (O : Own (cxOf w A (fdAt 190) 190 vDue P s)) : RefB2 (cxOf w A (fdAt 190) 190 vDue P s) (bodyAt 190) mDue := by
  refine refB2_cons (refS_assign G O rfl (refE_list (refA_cons refE_int refA_nil)) rfl) ?_
  refine refB2_cons (refS_for (refI_lst G (refE_var G rfl rfl)) (refTg_name G O rfl rfl) ?_) ?_
  · refine refB_cons (refS_assign G O rfl ?_ rfl) refB_nil
    refine refE_comp (cl := (cxOf w A (fdAt 190) 190 vDue P s).env.cells) (vs' := [("k", false), ("counts", true), ("high", true)]) G (compOk rfl rfl rfl rfl (fun _ _ h => h) (by decide) rfl)
      (refI_range G (loads_builtin G rfl rfl rfl) (refA_cons (refE_bin G spec_sub (refE_bin G spec_add (refE_call G (loads_builtin G rfl rfl rfl) (handed_builtin _) spec_len (refA_cons (refE_var G rfl rfl) refA_nil)) (refE_var G rfl rfl)) refE_int) refA_nil)) fun mu s₂ I C G' O' => ⟨refTgL_name G' O' rfl rfl, refIfs_nil, ?_⟩
    refine refE_call G' (loads_builtin G' rfl rfl rfl) (handed_builtin _) spec_sum (refA_cons (refE_slice G' spec_slice (refE_var G' rfl rfl) (refP_some ?_) (refP_some (refE_bin G' spec_add (refE_var G' rfl rfl) refE_int)) refP_none) refA_nil)
    exact refE_call G' (loads_builtin G' rfl rfl rfl) (handed_builtin _) spec_max (refA_cons refE_int (refA_cons (refE_bin G' spec_add (refE_bin G' spec_sub (refE_var G' rfl rfl) (refE_var G' rfl rfl)) refE_int) refA_nil))
  refine refB2_cons (refS_assign G O rfl (refE_bin G spec_sub (refE_call G (loads_builtin G rfl rfl rfl) (handed_builtin _) spec_len (refA_cons (refE_var G rfl rfl) refA_nil)) refE_int) rfl) ?_
  refine refB2_new (i := 5) G O rfl rfl (refNew_dict1 (refE_bin G spec_add (refE_bin G spec_add (refE_str rfl) (refE_call G (loads_builtin G rfl rfl rfl) (handed_type _) spec_str (refA_cons (refE_var G rfl rfl) refA_nil))) (refE_str rfl)) (refE_sub G spec_idx (refE_var G rfl rfl) refE_int)) ?_
  refine refB_cons (refS_for (refI_range G (loads_builtin G rfl rfl rfl) (refA_cons refE_int (refA_cons (refE_bin G spec_add (refE_var G rfl rfl) refE_int) refA_nil))) (refTg_name G O rfl rfl) ?_) ?_
  · refine refB_cons (refS_put G rfl rfl ?_ (refE_sub G spec_idx (refE_var G rfl rfl) (refE_var G rfl rfl))) refB_nil
    exact refE_bin G spec_add (refE_bin G spec_add (refE_bin G spec_add (refE_bin G spec_add (refE_str rfl) (refE_call G (loads_builtin G rfl rfl rfl) (handed_type _) spec_str (refA_cons (refE_var G rfl rfl) refA_nil))) (refE_str rfl))
      (refE_call G (loads_builtin G rfl rfl rfl) (handed_type _) spec_str (refA_cons (refE_bin G spec_sub (refE_var G rfl rfl) (refE_var G rfl rfl)) refA_nil))) (refE_str rfl)
  exact refB_cons (refS_ret (refE_var G rfl rfl)) refB_nil
theorem spec_due : Spec 1 (fun vs => call (.ref 190) vs) (fnM 1 6 mDue) := spec_fn fnDue bDue
end Mine
end
section
open PySem PySem.Calls PySem.W PyProof.Rows PySem.Builtin PySem.Builtin.Re
set_option Elab.async false
set_option maxRecDepth 100000
namespace Mine
namespace FR
theorem plainAttrs_re : PlainAttrs "re.Pattern" :=
  ⟨⟨"object.__getattribute__", by rw [typeLookup_type, builtinLookup_eq_fast]; kernel_rfl, by decide +kernel⟩, by rw [typeLookup_type, builtinLookup_eq_fast]; kernel_rfl⟩
theorem slot_sub : Slot "re.Pattern" "sub" "re.Pattern.sub" :=
  .of (owner := "re.Pattern") (n := "sub") (by rw [typeLookup_type, builtinLookup_eq_fast]; kernel_rfl) (by decide +kernel) (by decide +kernel) (by decide +kernel)
    (by first | exact .inl (by decide +kernel) | exact .inr (by decide +kernel)) (by rw [isSubtype_type]; kernel_rfl)
theorem type_sub : typeOf (.builtin "re.Pattern.sub") = pure (.type "method_descriptor") := by show builtinType _ = _; rw [builtinType_eq_fast]; kernel_rfl
theorem entry_sub : entryFor table "re.Pattern.sub" = some Builtin.«re.Pattern.sub» := entryFor_of_tree (by kernel_rfl)
theorem args_sub_3 (a b c : Value) : argsOk "re.Pattern.sub" ⟨[a, b, c], []⟩ := by
  unfold argsOk; kernel_rfl
theorem entry_loop : entryFor table "re.Pattern.sub.loop" = some Builtin.«re.Pattern.sub.loop» := entryFor_of_tree (by kernel_rfl)
theorem plain_loop : plainId "re.Pattern.sub.loop" = true := by decide +kernel
theorem slot_count : Slot "bytes" "count" "bytes.count" :=
  .of (owner := "bytes") (n := "count") (by rw [typeLookup_type, builtinLookup_eq_fast]; kernel_rfl) (by decide +kernel) (by decide +kernel) (by decide +kernel)
    (by first | exact .inl (by decide +kernel) | exact .inr (by decide +kernel)) (by rw [isSubtype_type]; kernel_rfl)
theorem type_count : typeOf (.builtin "bytes.count") = pure (.type "method_descriptor") := by show builtinType _ = _; rw [builtinType_eq_fast]; kernel_rfl
theorem entry_count : entryFor table "bytes.count" = some Builtin.«bytes.count» := entryFor_of_tree (by kernel_rfl)
theorem args_count_2 (a b : Value) : argsOk "bytes.count" ⟨[a, b], []⟩ := by unfold argsOk; kernel_rfl
theorem slot_join : Slot "bytes" "join" "bytes.join" :=
  .of (owner := "bytes") (n := "join") (by rw [typeLookup_type, builtinLookup_eq_fast]; kernel_rfl) (by decide +kernel) (by decide +kernel) (by decide +kernel)
    (by first | exact .inl (by decide +kernel) | exact .inr (by decide +kernel)) (by rw [isSubtype_type]; kernel_rfl)
theorem entry_join : entryFor table "bytes.join" = some Builtin.«bytes.join» := entryFor_of_tree (by kernel_rfl)
theorem args_join_2 (a b : Value) : argsOk "bytes.join" ⟨[a, b], []⟩ := by unfold argsOk; kernel_rfl
end FR

/-- a tree that asks nothing and changes nothing -/
def runQ {α : Type} : Sem α → Option α
  | .pure a => some a
  | .rule _ k => runQ (k ())
  | _ => none
theorem wp_runQ {M : Model} {A : Around} {E : Value → Shared → Prop} {s : Shared} {α : Type} {Q : α → Shared → Prop} {a : α} (hq : Q a s) : ∀ (t : Sem α), runQ t = some a → wpAny M A t Q E s := by
  intro t
  induction t with
  | pure b => intro h; cases h; exact wpAny_pure hq
  | rule tag k ih =>
    intro h
    have := ih () h
    intro Γ p hΓ
    exact this Γ p hΓ
  | _ => intro h; cases h
theorem takeQuiet (id : String) (b : Array UInt8) (t : Tok) : Bytes.takeBufferQuiet? id (.bytes b t) 0 = pure (some (b, none)) := by
  have e : Bytes.takeBuffer? id (.bytes b t) 0 = pure (some (b, none)) := by
    unfold Bytes.takeBuffer?
    rw [KBy.special_eq KBy.look_buffer, KBy.own_buffer]
    have hb := KBy.buffer_eq (b := b) (t := t) (id := id)
    show ((Bytes.buffer? id (.bytes b t)) >>= fun r => pure (r.map (·, none))) = _
    rw [hb]
    rfl
  unfold Bytes.takeBufferQuiet?
  rw [e]
  rfl
end Mine
end
section
open PySem PySem.Calls PySem.W PyProof.Rows PySem.Builtin PySem.Builtin.Re
set_option Elab.async false
set_option maxRecDepth 100000
namespace Mine
abbrev bytesVals (xs : List (Array UInt8 × Tok)) : List Value := xs.map fun p => .bytes p.1 p.2
theorem letGo_all {prog : Program} {w : World} {A : Around} {E : Value → Shared → Prop} {s : Shared} {Q : Unit → Shared → Prop} (keep : List Value) (h : Q () s) : ∀ xs : List (Array UInt8 × Tok), wpAny (model prog w) A (Bytes.joinLetGo (xs.map fun p => (Value.bytes p.1 p.2, none)) keep) Q E s
  | [] => wpAny_pure h
  | x :: xs => by
    show wpAny _ A (Bytes.joinLetGo ((Value.bytes x.1 x.2, none) :: xs.map fun p => (Value.bytes p.1 p.2, none)) keep) Q E s
    unfold Bytes.joinLetGo
    exact wpAny_bind (wpAny_letGo (letGo_all keep h xs))
theorem onHeap_none (xs : List (Array UInt8 × Tok)) : ((xs.map fun p => ((Value.bytes p.1 p.2, none) : Value × Option Value)).any fun x => x.fst.onHeap) = false := by
  induction xs with
  | nil => rfl
  | cons x xs ih => rw [List.map_cons, List.any_cons, ih]; rfl
theorem joined_small (xs : List (Array UInt8)) : ∀ (k : Nat) (acc : Array UInt8), ((xs.zipIdx k).foldl (fun out (p, i) => (if i > 0 then out ++ #[] else out) ++ p) acc) = xs.foldl (· ++ ·) acc := by
  induction xs with
  | nil => intro k acc; rfl
  | cons x xs ih =>
    intro k acc
    rw [List.zipIdx_cons, List.foldl_cons, ih, List.foldl_cons]
    simp
theorem fold_size (xs : List (Array UInt8)) : ∀ acc : Nat, xs.foldl (fun a b => a + b.size) acc = acc + (xs.map (·.size)).sum := by
  induction xs with
  | nil => intro acc; simp
  | cons x xs ih => intro acc; rw [List.foldl_cons, ih]; simp; omega
theorem fold_append_size (xs : List (Array UInt8)) : ∀ acc : Array UInt8, (xs.foldl (· ++ ·) acc).size = acc.size + (xs.map (·.size)).sum := by
  induction xs with
  | nil => intro acc; simp
  | cons x xs ih => intro acc; rw [List.foldl_cons, ih]; simp; omega
theorem meets_join {t : Tok} {l : Addr} {xs : List (Array UInt8 × Tok)} (hsz : (xs.map (·.1.size)).sum ≤ 1000) (hne : xs ≠ []) :
    Meets («bytes.join» ⟨[.bytes #[] t, .ref l], []⟩) (fun _ R s => s.heap.IsList l (bytesVals xs).toArray ∧ ∀ t' k, R (.ok (.ret (.bytes ((xs.map (·.1)).foldl (· ++ ·) #[]) t'))) { s with toks := k }) := by
  refine .of_wp fun prog w A R s hS => ?_
  obtain ⟨⟨o, ho, hc, n, hd⟩, h⟩ := hS
  have hT : s.TypeIs (.ref l) "list" := ⟨o, ho, hc⟩
  unfold Builtin.«bytes.join» Bytes.joinM
  refine wpAny_bind (wpAny_pure ?_)
  dsimp only
  rw [if_pos (by decide)]
  refine wpAny_bind ?_
  unfold Bytes.joinItems
  refine wpAny_bind (wpAny_typeOf hT ?_)
  rw [if_pos (by decide)]
  refine wpAny_pure ?_
  refine wpAny_bind (wpAny_seqItems ho hd ?_)
  dsimp only
  rw [if_pos (by decide)]
  match xs, hne with
  | [p], _ =>
    show wpAny _ _ (typeOf (.bytes p.1 p.2) >>= _) _ _ s
    refine wpAny_bind (wpAny_typeOf (typeIs_bytes s p.1 p.2) ?_)
    rw [if_pos (by decide)]
    have := h p.2 s.toks
    simp only [List.map_cons, List.map_nil, List.foldl_cons, List.foldl_nil, Array.empty_append] at this
    exact wpAny_bind (wpAny_rule (wpAny_pure ⟨_, rfl, this⟩))
  | p :: q :: r, _ =>
    show wpAny _ _ (forIn [0 : (bytesVals (p :: q :: r)).toArray.size] (#[], []) _ >>= _) _ _ s
    generalize p :: q :: r = xs at *
    refine wpAny_bind ?_
    rw [Std.Legacy.Range.forIn_eq_forIn_range']
    have hsize : (bytesVals xs).toArray.size = xs.length := by simp
    refine wpAny_forIn_list _ (fun rest b s' => s' = s ∧ ∃ i, rest = List.range' i (xs.length - i) ∧ i ≤ xs.length ∧ b = ((xs.take i).map (·.1) |>.toArray, (xs.take i).map fun p => (Value.bytes p.1 p.2, none))) _ ?_ ?_ _ _ ?_
    · rintro i rest b s' ⟨rfl, j, hr, hj, rfl⟩
      have hlt : j < xs.length := by
        rcases Nat.lt_or_ge j xs.length with h | h
        · exact h
        · rw [Nat.sub_eq_zero_of_le h] at hr; cases hr
      have hr2 : i = j ∧ rest = List.range' (j + 1) (xs.length - (j + 1)) := by
        rw [show xs.length - j = (xs.length - (j + 1)) + 1 by omega, List.range'_succ] at hr
        injection hr with h1 h2
        exact ⟨h1, h2⟩
      obtain ⟨rfl, rfl⟩ := hr2
      refine wpAny_bind (wpAny_seqItems ho hd ?_)
      dsimp only
      rw [if_neg (by rw [onHeap_none]; decide)]
      have hget : (bytesVals xs).toArray.getD i Value.none = .bytes xs[i].1 xs[i].2 := by
        simp [Array.getD, hlt]
      rw [hget]
      refine wpAny_bind (wpAny_holding (wpAny_of_eq (takeQuiet _ _ _) ?_))
      dsimp only
      refine wpAny_bind (wpAny_seqItems ho hd ?_)
      dsimp only
      rw [if_neg (by simp)]
      refine wpAny_pure ⟨rfl, i + 1, rfl, by omega, ?_⟩
      rw [List.take_succ_eq_append_getElem hlt]
      simp only [List.map_append, List.map_cons, List.map_nil, List.push_toArray]
    · rintro b s' ⟨rfl, j, hr, hj, rfl⟩
      have hj' : j = xs.length := by
        have := congrArg List.length hr
        simp at this
        omega
      subst hj'
      rw [List.take_length]
      dsimp only
      refine wpAny_bind (m := Bytes.payload _) (wpAny_pure ?_)
      have hfold : ((xs.map (·.1)).toArray.foldl (fun x1 x2 => x1 + x2.size) ((#[] : Array UInt8).size * ((xs.map (·.1)).toArray.size - 1))) ≤ 1000 := by
        rw [← Array.foldl_toList, fold_size]
        simpa [Function.comp_def] using hsz
      rw [if_neg (by
        unfold Bytes.tooLong
        have := line_le hfold
        simpa using this)]
      have hj2 : Bytes.joined #[] (xs.map (·.1)).toArray.toList = (xs.map (·.1)).foldl (· ++ ·) #[] := by
        unfold Bytes.joined
        exact joined_small _ 0 #[]
      rw [hj2]
      have hsz2 : ((xs.map (·.1)).foldl (· ++ ·) (#[] : Array UInt8)).size ≤ sizeLine := by
        rw [fold_append_size]
        exact line_le (by simpa [Function.comp_def] using hsz)
      refine wpAny_bind (m := Bytes.Kind.new _ _) (wpAny_mkBytes ?_ hsz2)
      refine wpAny_bind (wpAny_holding (wpAny_point ?_))
      exact wpAny_bind (letGo_all _ (wpAny_pure ⟨_, rfl, h _ _⟩) xs)
    · refine ⟨rfl, 0, ?_, Nat.zero_le _, by simp⟩
      simp [Std.Legacy.Range.size]
end Mine
end
section
open PySem PySem.Calls PySem.W PyProof.Rows PySem.Builtin PySem.Builtin.Re
set_option Elab.async false
set_option maxRecDepth 100000
namespace Mine
structure PatAt (h : Heap) (p : Addr) (code : Array Nat) : Prop where
  pat : ∃ (src fl : Value) (c : Addr) (items : Array Value) (n : Nat), h.get? p = some { cls := .type "re.Pattern", data := .fields #[src, fl, .int 0 0, .none, .none, .ref c, .int 1 0] } ∧
    h.get? c = some { cls := .type "tuple", data := .seq items n } ∧ (items.map reRawOf).map (·.toNat) = code
abbrev textB (x : List Nat) : Array Nat := (bytesOf x).map (·.toNat)
theorem wp_whole {prog : Program} {w : World} {A : Around} {E : Value → Shared → Prop} {s : Shared} {p : Addr} {code : Array Nat} {b : Array UInt8} {t : Tok} {Q : ReTarget → Shared → Prop} (hp : PatAt s.heap p code)
    (h : Q ⟨.ref p, .bytes b t, code, b.map (·.toNat), 1, 0, 0, (b.map (·.toNat)).size⟩ s) : wpAny (model prog w) A (reWholeTarget (.ref p) (.bytes b t)) Q E s := by
  obtain ⟨src, fl, c, items, n, hpat, hc, hcode⟩ := hp
  unfold reWholeTarget
  refine wpAny_bind (wpAny_fieldsOf hpat rfl ?_)
  refine wpAny_bind ?_
  unfold reTextOf
  refine wpAny_bind (wpAny_of_eq (a := none) rfl ?_)
  dsimp only
  refine wpAny_bind (wpAny_of_eq KBy.quiet_eq ?_)
  refine wpAny_pure ?_
  dsimp only
  refine wpAny_ite (KPc.ite_no Bool.false_ne_true ?_)
  refine wpAny_ite (KPc.ite_no Bool.false_ne_true ?_)
  refine wpAny_bind ?_
  unfold reNoCollectionInside
  refine wpAny_ite (KPc.ite_yes rfl ?_)
  refine wpAny_bind (wpAny_isInstance (T := "bytes") (b := true) (typeIs_bytes _ _ _) F.sub_bytes_bytes ?_)
  refine wpAny_ite (KPc.ite_no Bool.false_ne_true ?_)
  refine wpAny_pure ?_
  refine wpAny_bind ?_
  unfold reRawItems
  refine wpAny_bind (wpAny_seqItems hc rfl ?_)
  refine wpAny_pure (wpAny_pure ?_)
  have e : Array.map (fun x => x.toNat) (Array.map reRawOf ((some items).getD #[])) = code := hcode
  rw [e]
  exact h

/-- what the pieces of a substitution are -/
def subGo (code text : Array Nat) (repl : Array UInt8) : Nat → Nat → Nat → Bool → List (Array UInt8) → Option (List (Array UInt8))
  | 0, _, _, _, _ => none
  | f + 1, done, start, must, acc => match runQ (reRunToEnd (Sre.forSearch code text 0 start text.size must)) with
    | some (some m) => subGo code text repl f m.handed m.handed (m.handed == m.start) ((if done < m.start then acc ++ [(text.extract done m.start).map (·.toUInt8)] else acc) ++ [repl])
    | some none => some (if done < text.size then acc ++ [(text.extract done text.size).map (·.toUInt8)] else acc)
    | none => none

theorem subGo_len {code text : Array Nat} {repl : Array UInt8} {res : List (Array UInt8)} : ∀ (f done start : Nat) (must : Bool) (acc : List (Array UInt8)), subGo code text repl f done start must acc = some res → acc.length ≤ res.length
  | 0, _, _, _, _, h => by cases h
  | f + 1, done, start, must, acc, h => by
    unfold subGo at h
    split at h
    · have := subGo_len f _ _ _ _ h
      split at this <;> simp at this <;> omega
    · cases h
      split <;> simp
    · cases h
theorem wp_literal {prog : Program} {w : World} {A : Around} {E : Value → Shared → Prop} {s : Shared} {b : Array UInt8} {t : Tok} {Q : Unit → Shared → Prop} (h : Q () s) : wpAny (model prog w) A (reLiteralCannotBeTurned (.bytes b t)) Q E s := by
  unfold reLiteralCannotBeTurned
  refine wpAny_bind (wpAny_of_eq (a := none) rfl ?_)
  refine wpAny_ite (KPc.ite_yes rfl ?_)
  refine wpAny_bind (wpAny_isInstance (T := "bytes") (b := true) (typeIs_bytes _ _ _) F.sub_bytes_bytes ?_)
  refine wpAny_ite (KPc.ite_no Bool.false_ne_true ?_)
  exact wpAny_pure h

theorem sub_loop {w : World} {A : Around} {p l : Addr} {code : Array Nat} {b repl : Array UInt8} {t u : Tok} {R : Result → Shared → Prop} {res : List (Array UInt8)} (hne : p ≠ l) (hsmall : b.size ≤ 1000) (hres : (res.map (·.size)).sum ≤ 1000 ∧ res.length ≤ 1000) :
    ∀ (fuel : Nat) (n done start : Nat) (must : Bool) (acc : List (Array UInt8)) (xs : List (Array UInt8 × Tok)) (s : Shared) (k : Nat), subGo code (b.map (·.toNat)) repl fuel done start must acc = some res → xs.map (·.1) = acc →
      PatAt s.heap p code → s.heap.get? l = some { cls := .type "list", data := .seq (bytesVals xs).toArray k } →
      (∀ h' t' tk, (∀ a o, a ≠ l → s.heap.get? a = some o → h'.get? a = some o) → R (.ok (.ret (.bytes (res.foldl (· ++ ·) #[]) t'))) { s with heap := h', toks := tk }) →
      codeAny (model prog w) A (.builtin "re.Pattern.sub.loop" ⟨[.ref p, .bytes b t, .bytes repl u, rawInt 0, rawInt 0, rawInt n, rawInt done, rawInt start, .bool must, .ref l, .bool false], []⟩) R s := by
  intro fuel
  induction fuel with
  | zero => intro n done start must acc xs s k h; cases h
  | succ f ih =>
    intro n done start must acc xs s k hgo hxs hp hl hR
    have hlen := subGo_len _ _ _ _ _ hgo
    refine codeAny_builtin FR.entry_loop ?_
    rw [Around.under_plainId FR.plain_loop _]
    unfold Builtin.«re.Pattern.sub.loop»
    dsimp only [rawInt]
    refine wpAny_bind (wp_whole hp ?_)
    refine wpAny_ite (KPc.ite_yes rfl ?_)
    refine wpAny_bind (wp_literal ?_)
    dsimp only
    refine wpAny_bind ?_
    refine wpAny_ite (KPc.ite_no Bool.false_ne_true ?_)
    unfold subGo at hgo
    split at hgo
    · rename_i m em
      refine wp_runQ ?_ (reNextFound _ _ _) em
      dsimp only
      have hlen2 := subGo_len _ _ _ _ _ hgo
      -- one piece more
      have push1 : ∀ {Q : Unit → Shared → Prop} {E : Value → Shared → Prop} (A' : Around) (ys : List (Array UInt8 × Tok)) (s : Shared) (k : Nat) (x : Array UInt8) (tx : Tok), ys.length < res.length → s.heap.get? l = some { cls := .type "list", data := .seq (bytesVals ys).toArray k } →
          (∀ h' k', h'.get? l = some { cls := .type "list", data := .seq (bytesVals (ys ++ [(x, tx)])).toArray k' } → (∀ a o, a ≠ l → s.heap.get? a = some o → h'.get? a = some o) → Q () { s with heap := h' }) →
          wpAny (model prog w) A' (updateSeq l (·.push (.bytes x tx))) Q E s := by
        intro Q E A' ys s k x tx hlt hl hQ
        refine wpAny_updateSeq hl rfl ?_ (by simp only [List.size_toArray, List.length_map]; exact line_le (by omega)) (by simp only [Array.size_push, List.size_toArray, List.length_map]; exact Nat.le_succ_of_le (line_le (by omega)))
        have hu := IsL.update (show IsL s.heap l (bytesVals ys).toArray k from hl) (fun x_1 => x_1.push (.bytes x tx))
        refine hQ _ (if (((bytesVals ys).toArray.push (.bytes x tx)).size == (bytesVals ys).toArray.size) = true then k else k + 1) ?_ fun a o ha e => (Heap.get?_update_other _ _ (Ne.symm ha)).trans e
        rw [show (bytesVals (ys ++ [(x, tx)])).toArray = (bytesVals ys).toArray.push (.bytes x tx) by simp]
        exact hu
      have patKeep : ∀ {h h' : Heap}, (∀ a o, a ≠ l → h.get? a = some o → h'.get? a = some o) → (∀ c o, h.get? c = some o → o.cls = .type "tuple" → c ≠ l) → PatAt h p code → PatAt h' p code := by
        intro h h' hk hc' ⟨src, fl, c, items, n, h1, h2, h3⟩
        exact ⟨src, fl, c, items, n, hk _ _ hne h1, hk _ _ (hc' _ _ h2 rfl) h2, h3⟩
      have tl : ∀ {h : Heap} {ys : List Value} {k : Nat}, h.get? l = some { cls := .type "list", data := .seq ys.toArray k } → ∀ c o, h.get? c = some o → o.cls = .type "tuple" → c ≠ l := by
        intro h ys k hl c o ho hoc e
        subst e
        rw [hl] at ho; cases ho
        injection hoc with hoc
        exact absurd hoc (by decide)
      have last : ∀ (ys : List (Array UInt8 × Tok)) (s' : Shared) (k : Nat), ys.map (·.1) = (if done < m.start then acc ++ [((b.map (·.toNat)).extract done m.start).map (·.toUInt8)] else acc) →
          s'.heap.get? l = some { cls := .type "list", data := .seq (bytesVals ys).toArray k } → PatAt s'.heap p code → (∃ h tk, s' = { s with heap := h, toks := tk }) → (∀ a o, a ≠ l → s.heap.get? a = some o → s'.heap.get? a = some o) →
          ∀ Q : Fin → Shared → Prop, (∀ s'' , codeAny (model prog w) A (.builtin "re.Pattern.sub.loop" ⟨[.ref p, .bytes b t, .bytes repl u, rawInt 0, rawInt 0, rawInt ((n : Int) + 1), rawInt m.handed, rawInt m.handed, .bool (m.handed == m.start), .ref l, .bool false], []⟩) R s'' →
            Q (.again (.builtin "re.Pattern.sub.loop" ⟨[.ref p, .bytes b t, .bytes repl u, rawInt 0, rawInt 0, rawInt ((n : Int) + 1), rawInt m.handed, rawInt m.handed, .bool (m.handed == m.start), .ref l, .bool false], []⟩)) s'') →
          wpAny (model prog w) A.in1 (do
            updateSeq l fun x => x.push (.bytes repl u)
            again (.builtin "re.Pattern.sub.loop" ⟨[.ref p, .bytes b t, .bytes repl u, rawInt 0, rawInt 0, rawInt ((n : Int) + 1), rawInt m.handed, rawInt m.handed, .bool (m.handed == m.start), .ref l, .bool false], []⟩)) Q (fun e s' => R (.error e) s') s' := by
        intro ys s' k hys hl' hp' ⟨h0, tk0, es⟩ hk Q hQ
        have hylen : ys.length < res.length := by
          have := congrArg List.length hys
          simp only [List.length_map] at this
          simp only [List.length_append, List.length_cons, List.length_nil] at hlen2
          omega
        refine wpAny_bind (push1 _ ys s' k repl u hylen hl' fun h' k' hl'' hk' => wpAny_pure (hQ _ ?_))
        have hcast : ((n : Int) + 1) = ((n + 1 : Nat) : Int) := by push_cast; rfl
        rw [hcast]
        refine ih (n + 1) m.handed m.handed _ _ (ys ++ [(repl, u)]) _ k' hgo (by rw [List.map_append, hys]; rfl) (patKeep hk' (tl hl') hp') hl'' fun h'' t' tk hk'' => ?_
        have := hR h'' t' tk fun a o ha e => hk'' a o ha (hk' a o ha (hk a o ha e))
        rw [es]
        exact this
      by_cases hd : done < m.start
      · rw [if_pos (by simpa using hd)]
        have hext : ((b.map (·.toNat)).extract done m.start).size ≤ 1000 := by
          simp only [Array.size_extract, Array.size_map]; omega
        refine wpAny_bind (m := reSlice _ 1 _ _) (wpAny_mkBytes ?_ (by simp only [Array.size_map]; exact line_le hext))
        have hxl : xs.length < res.length := by
          have := congrArg List.length hxs
          simp only [List.length_map] at this
          rw [if_pos hd] at hlen2
          simp only [List.length_append, List.length_cons, List.length_nil] at hlen2
          omega
        refine wpAny_bind (push1 _ xs { s with toks := s.toks + 1 } k _ s.toks hxl hl fun h' k' hl' hk' => ?_)
        exact last (xs ++ [(_, s.toks)]) _ k' (by rw [if_pos hd, List.map_append, hxs]; rfl) hl' (patKeep hk' (tl hl) hp) ⟨_, _, rfl⟩ hk' _ fun s'' hc => ⟨plainId_quiet FR.plain_loop _, hc⟩
      · rw [if_neg (by simpa using hd)]
        exact last xs s k (by rw [if_neg hd, hxs]) hl hp ⟨_, _, rfl⟩ (fun a o _ e => e) _ fun s'' hc => ⟨plainId_quiet FR.plain_loop _, hc⟩
    · rename_i em
      have hr : res = (if done < (b.map (·.toNat)).size then acc ++ [((b.map (·.toNat)).extract done (b.map (·.toNat)).size).map (·.toUInt8)] else acc) := (Option.some.inj hgo).symm
      refine wp_runQ ?_ (reNextFound _ _ _) em
      dsimp only
      have e00 : ((b.map (·.toNat)).extract 0 0).map (·.toUInt8) = (#[] : Array UInt8) := by simp
      have sums : ∀ ys : List (Array UInt8 × Tok), ys.map (·.1) = res → (ys.map (·.1.size)).sum ≤ 1000 ∧ (ys.map (·.1)).foldl (· ++ ·) #[] = res.foldl (· ++ ·) #[] := by
        intro ys hys
        refine ⟨?_, by rw [hys]⟩
        · have : ys.map (·.1.size) = (ys.map (·.1)).map (·.size) := by simp
          rw [this, hys]; exact hres.1
      by_cases hd : done < (b.map (·.toNat)).size
      · rw [if_pos (by simpa using hd)]
        rw [if_pos hd] at hr
        have hext : ((b.map (·.toNat)).extract done (b.map (·.toNat)).size).size ≤ 1000 := by
          simp only [Array.size_extract, Array.size_map]; omega
        refine wpAny_bind (m := reSlice _ 1 _ _) (wpAny_mkBytes ?_ (by simp only [Array.size_map, Array.size_extract, Int.toNat_natCast]; exact line_le (by omega)))
        have hxl : xs.length ≤ 1000 := by
          have := congrArg List.length hxs
          simp only [List.length_map] at this
          have := hres.2
          omega
        refine wpAny_bind (wpAny_updateSeq hl rfl ?_ (by simp only [List.size_toArray, List.length_map]; exact line_le hxl) (by simp only [Array.size_push, List.size_toArray, List.length_map]; exact Nat.succ_le_succ (line_le hxl)))
        refine wpAny_bind (m := reSlice _ 1 _ _) (wpAny_mkBytes ?_ (by rw [e00]; exact Nat.zero_le _))
        rw [e00]
        have hu := IsL.update (show IsL s.heap l (bytesVals xs).toArray k from hl) (fun x_1 => x_1.push (.bytes (((b.map (·.toNat)).extract done (b.map (·.toNat)).size).map (·.toUInt8)) s.toks))
        have hys : (xs ++ [((((b.map (·.toNat)).extract done (b.map (·.toNat)).size).map (·.toUInt8)), s.toks)]).map (·.1) = res := by rw [hr, List.map_append, hxs]; rfl
        have eL : (bytesVals (xs ++ [((((b.map (·.toNat)).extract done (b.map (·.toNat)).size).map (·.toUInt8)), s.toks)])).toArray = (bytesVals xs).toArray.push (.bytes (((b.map (·.toNat)).extract done (b.map (·.toNat)).size).map (·.toUInt8)) s.toks) := by simp
        have hu' := hu
        rw [← eL] at hu'
        obtain ⟨z1, z3⟩ := sums _ hys
        have z2 : (xs ++ [((((b.map (·.toNat)).extract done (b.map (·.toNat)).size).map (·.toUInt8)), s.toks)]) ≠ [] := by simp
        refine wpAny_bind (wpAny_seqItems hu rfl ?_)
        rw [if_neg (by simp)]
        refine wpAny_bind ?_
        show wpAny _ _ (call (.builtin "bytes.join") _) _ _ _
        refine call_meets FR.slot_join (typeIs_bytes _ _ _) FR.entry_join (FR.args_join_2 _ _) (meets_join z1 z2) ⟨⟨_, hu', rfl, _, rfl⟩, fun t' tk => ?_⟩
        refine wpAny_ite (KPc.ite_no Bool.false_ne_true (wpAny_pure ?_))
        rw [z3]
        exact hR _ t' tk fun a o ha e => (Heap.get?_update_other _ _ (Ne.symm ha)).trans e
      · rw [if_neg (by simpa using hd)]
        rw [if_neg hd] at hr
        refine wpAny_bind (m := reSlice _ 1 _ _) (wpAny_mkBytes ?_ (by rw [e00]; exact Nat.zero_le _))
        rw [e00]
        obtain ⟨z1, z3⟩ := sums xs (by rw [hxs, hr])
        refine wpAny_bind (wpAny_seqItems hl rfl ?_)
        by_cases z2 : xs = []
        · subst z2
          rw [if_pos (by simp)]
          refine wpAny_bind (wpAny_pure ?_)
          refine wpAny_ite (KPc.ite_no Bool.false_ne_true (wpAny_pure ?_))
          have := hR s.heap s.toks (s.toks + 1) fun a o ha e => e
          rw [← z3] at this
          exact this
        · rw [if_neg (by simpa using z2)]
          refine wpAny_bind ?_
          show wpAny _ _ (call (.builtin "bytes.join") _) _ _ _
          refine call_meets FR.slot_join (typeIs_bytes _ _ _) FR.entry_join (FR.args_join_2 _ _) (meets_join z1 z2) ⟨⟨_, hl, rfl, _, rfl⟩, fun t' tk => ?_⟩
          refine wpAny_ite (KPc.ite_no Bool.false_ne_true (wpAny_pure ?_))
          rw [z3]
          exact hR _ t' tk fun a o ha e => e
    · cases hgo
end Mine
end
section
open PySem PySem.Calls PySem.W PyProof.Rows PySem.Builtin PySem.Builtin.Re
set_option Elab.async false
set_option maxRecDepth 100000
namespace Mine
theorem nocall_bytes : typeLookup (.type "bytes") "__call__" = pure none := by rw [typeLookup_type, builtinLookup_eq_fast]; kernel_rfl
theorem named_eq (a b : Value) : reNamed "re.Pattern.sub" "sub" ["repl", "string", "count"] 2 [a, b] [] = pure [some a, some b, none] := by kernel_rfl
theorem call_sub {w : World} {A : Around} {s : Shared} {p : Addr} {code : Array Nat} {b repl : Array UInt8} {t u : Tok} {res : List (Array UInt8)} {fuel : Nat} {Q : Value → Shared → Prop} (hp : PatAt s.heap p code) (hlit : repl.contains 92 = false) (hsmall : b.size ≤ 1000)
    (hres : (res.map (·.size)).sum ≤ 1000 ∧ res.length ≤ 1000) (hgo : subGo code (b.map (·.toNat)) repl fuel 0 0 false [] = some res)
    (hq : ∀ h' t' tk, (∀ a o, s.heap.get? a = some o → h'.get? a = some o) → Q (.bytes (res.foldl (· ++ ·) #[]) t') { s with heap := h', toks := tk }) :
    wpAny (model prog w) A (call (.builtin "re.Pattern.sub") [.ref p, .bytes repl u, .bytes b t]) Q NoE s := by
  have hT : s.TypeIs (.ref p) "re.Pattern" := by
    obtain ⟨src, fl, c, items, n, h1, _⟩ := hp
    exact ⟨_, h1, rfl⟩
  refine wpAny_call (codeAny_call_builtin FR.slot_sub.plain FR.entry_sub (FR.slot_sub.check _ _ _ _ _ _ _ _ hT (FR.args_sub_3 _ _ _) ?_))
  unfold Builtin.«re.Pattern.sub» reSubstitute
  dsimp only
  refine wpAny_bind (wpAny_of_eq (named_eq _ _) ?_)
  dsimp only
  refine wpAny_bind (wpAny_pure ?_)
  refine wpAny_bind (wpAny_of_eq (KBy.special_eq nocall_bytes) ?_)
  refine wpAny_ite (KPc.ite_no Bool.false_ne_true ?_)
  refine wpAny_bind (wpAny_of_eq (a := none) rfl ?_)
  dsimp only
  refine wpAny_bind (wpAny_of_eq KBy.quiet_eq ?_)
  dsimp only
  refine wpAny_bind (wpAny_pure ?_)
  refine wpAny_ite (KPc.ite_no Bool.false_ne_true ?_)
  refine wpAny_ite (KPc.ite_yes (by rw [hlit]; rfl) ?_)
  refine wpAny_bind (wpAny_pure ?_)
  dsimp only
  refine wpAny_bind (wpAny_holding (wp_whole hp ?_))
  refine wpAny_ite (KPc.ite_no Bool.false_ne_true ?_)
  refine wpAny_bind (wpAny_newList ?_)
  refine wpAny_pure ⟨plainId_quiet FR.plain_loop _, ?_⟩
  have hne : p ≠ s.heap.objs.size := by
    obtain ⟨src, fl, c, items, n, h1, _⟩ := hp
    exact Nat.ne_of_lt (Heap.lt_size h1)
  have hp' : PatAt (s.heap.push { cls := .type "list", data := .seq ([] : List Value).toArray }) p code := by
    obtain ⟨src, fl, c, items, n, h1, h2, h3⟩ := hp
    exact ⟨src, fl, c, items, n, Heap.get?_push_of_some _ h1, Heap.get?_push_of_some _ h2, h3⟩
  refine sub_loop (l := s.heap.objs.size) hne hsmall hres fuel 0 0 0 false [] [] _ 0 hgo rfl hp' (Heap.get?_push_size _ rfl) fun h' t' tk hk => ?_
  refine hq h' t' tk fun a o e => hk a o (Nat.ne_of_lt (Heap.lt_size e)) (Heap.get?_push_of_some _ e)
end Mine
end
section
open PySem PySem.Calls PySem.W PyProof.Rows PySem.Builtin PySem.Builtin.Re
set_option Elab.async false
set_option maxRecDepth 100000
namespace Mine
def fCountB : List D → Option D
  | [.bytes x, .bytes [c]] => if x.length = 0 then some (.int 0) else some (.int (Bytes.occurrences (bytesOf x) (bytesOf [c]) 0 x.length).length)
  | _ => none
theorem spec_countB : Spec 0 (fun vs => call (.builtin "bytes.count") vs) fCountB := by
  intro w A s P vs ds d G B hr hf
  unfold fCountB at hf
  split at hf
  · rename_i x c
    obtain ⟨a, b, rfl, ha, hb⟩ := hr.two
    obtain ⟨t, rfl⟩ := rd_bytes ha
    obtain ⟨u, rfl⟩ := rd_bytes hb
    obtain ⟨k, hk⟩ : ∃ k : Nat, d = .int k ∧ (k : Int) = if x.length = 0 then 0 else ((Bytes.occurrences (bytesOf x) (bytesOf [c]) 0 x.length).length : Int) := by
      split at hf
      · cases hf; rename_i h; exact ⟨0, rfl, by rw [if_pos h]; rfl⟩
      · cases hf; rename_i h; exact ⟨_, rfl, by rw [if_neg h]⟩
    obtain ⟨rfl, hk⟩ := hk
    refine call_meets (S := fun _ R s => R (.ok (.ret (.int k s.toks))) { s with toks := s.toks + 1 }) FR.slot_count (typeIs_bytes _ _ _) FR.entry_count (FR.args_count_2 _ _) (.of_wp fun prog w A R s hS => ?_) post_int
    unfold Builtin.«bytes.count» Bytes.countM
    refine wpAny_bind ?_
    unfold Bytes.searchArgs
    refine wpAny_bind (wpAny_pure ?_)
    dsimp only
    refine wpAny_bind (wpAny_of_eq (a := none) rfl ?_)
    refine wpAny_bind (wpAny_of_eq (a := none) rfl ?_)
    dsimp only [List.headD]
    refine wpAny_bind (wpAny_of_eq KBy.buffer_eq ?_)
    dsimp only
    refine wpAny_bind (wpAny_pure ?_)
    refine wpAny_bind (m := Bytes.payload _) (wpAny_pure ?_)
    refine wpAny_pure ?_
    have hwin : Bytes.window (bytesOf x).size none none = (0, (x.length : Int)) := by
      unfold Bytes.window
      have h0 : ¬ ((x.length : Int) < 0) := by omega
      simp [bytesOf, h0]
    rw [hwin]
    have hs1 : (bytesOf [c]).size = 1 := by simp [bytesOf]
    rw [hs1]
    by_cases h0 : x.length = 0
    · rw [if_pos h0] at hk
      rw [if_pos (by simp; omega)]
      dsimp only
      rw [← hk]
      exact wpAny_bind (wpAny_mkInt (wpAny_pure ⟨_, rfl, hS⟩))
    · rw [if_neg h0] at hk
      rw [if_neg (by simp; omega)]
      dsimp only
      rw [if_neg (by simp [bytesOf])]
      simp only [Int.toNat_natCast, Int.toNat_zero]
      rw [← hk]
      exact wpAny_bind (wpAny_mkInt (wpAny_pure ⟨_, rfl, hS⟩))
  · cases hf

/-! a substitution -/
def codeDot : Array Nat := #[14, 4, 0, 1, 1, 6, 1, 16, 46, 1]
def codeQuo : Array Nat := #[14, 8, 1, 2, 4294967295, 1, 1, 34, 0, 16, 34, 28, 22, 0, 4294967295, 7, 11, 13, 7, 21, 16, 34, 16, 92, 0, 15, 8, 6, 16, 92, 2, 15, 2, 0, 1, 16, 34, 1]
def subD (code : Array Nat) (repl : List Nat) (x : List Nat) : Option (List Nat) := if x.length ≤ 1000 then (match subGo code (textB x) (bytesOf repl) (x.length + 2) 0 0 false [] with
  | some res => if (res.map (·.size)).sum ≤ 1000 ∧ res.length ≤ 1000 then some ((res.foldl (· ++ ·) #[]).toList.map (·.toNat)) else none
  | none => none) else none
theorem bytes_back (b : Array UInt8) : bytesOf (b.toList.map (·.toNat)) = b := by
  simp [bytesOf, Function.comp_def]
section
variable {cx : Cx} {n : Nat}
def eSubRe (code : Array Nat) (repl : List Nat) (m : EM) : EM := fun vs c => match m vs c with
  | some (.d (.bytes x), c') => (match subD code repl x with
    | some r => some (.d (.bytes r), c')
    | none => none)
  | _ => none
theorem refE_subRe (G : Good n cx) {x : PySem.Str} {q apos pos cp : Pos} {kd : Nat} {rb : List UInt8} {repl : List Nat} {e : Expr} {m : EM} {p : Addr} {code : Array Nat} (hrb : rb.toArray = bytesOf repl) (hlit : (bytesOf repl).contains 92 = false)
    (hl : Loads cx (.Name x q) (.ref p)) (hp : ∀ s : Shared, HB cx.w s.heap → PatAt s.heap p code) (he : RefE cx e m)
    (hbase : attributeBase (.Name x q) "sub" cx.env (eval (.Name x q) cx.env) = eval (.Name x q) cx.env := by rfl)
    (hfew : ((backTo pos (starEach [.Constant (.bytes rb) kd cp, e] cx.env)).all (fun x => !x.1) && (backToKw pos (keywordEach [] cx.env)).all (fun x => x.1.isSome)
      && decide ([Expr.Constant (.bytes rb) kd cp, e].length + ([] : List Keyword).length + (if ([] : List Keyword).isEmpty then 0 else 1) < 30)) = true := by rfl)
    (hline : (apos.endLine == pos.line) = true := by rfl) (hs : starEach [.Constant (.bytes rb) kd cp, e] cx.env = [(false, eval (.Constant (.bytes rb) kd cp) cx.env), (false, eval e cx.env)] := by rfl)
    (hpl : (backTo pos (starEach [.Constant (.bytes rb) kd cp, e] cx.env)).any (·.1) = false := by rfl) : RefE cx (.Call (.Attribute (.Name x q) "sub" apos) [.Constant (.bytes rb) kd cp, e] [] pos) (eSubRe code repl m) := by
  intro vs c d c' mu s hm R
  unfold eSubRe at hm
  split at hm
  · rename_i y c1 e1
    split at hm
    · rename_i r e2
      cases hm
      unfold subD at e2
      split at e2
      · rename_i hlen
        split at e2
        · rename_i res e3
          split at e2
          · rename_i hres
            cases e2
            have pat := hp s R.hb
            refine wpAny_Call_method hbase hfew hline FR.plainAttrs_re FR.slot_sub FR.type_sub (hl s _ R.hb ?_)
            have hT : s.TypeIs (.ref p) "re.Pattern" ∧ ∃ ob, s.heap.get? p = some ob ∧ ob.dict = none := by
              obtain ⟨src, fl, c, items, n, h1, _⟩ := pat
              exact ⟨⟨_, h1, rfl⟩, _, h1, rfl⟩
            refine ⟨hT.1, fun b e => by cases e; exact hT.2, handed_builtin _ _ _ _ _ _ _ _ hpl (evalArgs_A hpl ?_)⟩
            rw [hs]
            show wpAny _ _ (spliced ((false, eval (.Constant (.bytes rb) kd cp) cx.env) :: [(false, eval e cx.env)])) _ _ _
            refine spliced_cons (Constant_bytes ?_)
            have hp0 : Pur s { s with toks := s.toks + 1 } := Pur.tok ..
            refine spliced_cons (wpAny_mono (he vs c _ _ mu _ e1 (R.pur hp0)) (fun v s₁ h1 => spliced_nil ⟨h1.rel.hb, ?_⟩) fun _ _ e => e)
            obtain ⟨t, rfl⟩ := rd_bytes (show Rd cx.w (cx.Ok mu) s₁.heap (.bytes y) v from h1.rv)
            rw [hrb]
            refine call_sub (hp s₁ h1.rel.hb) hlit (by simpa [bytesOf] using hlen) hres e3 fun h' t' tk hk => ?_
            have hp1 : Pur s₁ { s₁ with heap := h', toks := tk } := Pur.of hk
            refine ⟨h1.rel.pur hp1, ((hp0.stp mu).trans h1.stp).trans (hp1.stp mu), t', ?_⟩
            rw [bytes_back]
          · cases e2
        · cases e2
      · cases e2
    · cases hm
  · cases hm
end
theorem patDot (s : Shared) {w : World} (B : HB w s.heap) : PatAt s.heap 43 codeDot := ⟨_, _, 42, _, _, B.X _ _ rfl, B.X _ _ rfl, by kernel_rfl⟩
theorem patQuo (s : Shared) {w : World} (B : HB w s.heap) : PatAt s.heap 139 codeQuo := ⟨_, _, 138, _, _, B.X _ _ rfl, B.X _ _ rfl, by kernel_rfl⟩

/-! _quote_periods -/
def vQuote : List (PySem.Str × Bool) := [("bindata", false)]
theorem fnQuote : Fn 50 (fdAt 50) ["bindata"] vQuote (bodyAt 50) :=
  fn_of (fun w => ⟨_, rfl, rfl⟩) (fun w => by rfl) (by rfl) (fun vals h => by obtain ⟨a, rfl⟩ := len1 h; rfl) (by rfl) (by rfl) (by rfl) (by rfl) (by rfl) (by rfl) (by rfl) (by decide) (by rfl) (fun L => by rfl)
def mQuote : SM := sSeq (sRet (eSubRe codeDot [46, 46] (eVar 0))) sNil
theorem bQuote (w : World) (A : Around) (s : Shared) (P : Addr → Prop) (G : Good 0 (cxOf w A (fdAt 50) 50 vQuote P s)) (O : Own (cxOf w A (fdAt 50) 50 vQuote P s)) : RefB2 (cxOf w A (fdAt 50) 50 vQuote P s) (bodyAt 50) mQuote := by
  refine refB2_of (refB_cons (refS_ret (refE_subRe G (p := 43) rfl (by decide +kernel) (loads_global G rfl rfl) (fun s B => patDot s B) (refE_var G rfl rfl))) refB_nil)
theorem spec_quote : Spec 1 (fun vs => call (.ref 50) vs) (fnM 1 1 mQuote) := spec_fn fnQuote bQuote
end Mine
end
section
open PySem PySem.Calls PySem.W PyProof.Rows PySem.Builtin
set_option Elab.async false
set_option maxRecDepth 100000
namespace Mine
def eBytes (l : List Nat) : EM := fun _ c => some (.d (.bytes l), c)
theorem refE_bytes {cx : Cx} {rb : List UInt8} {l : List Nat} {k : Nat} {pos : Pos} (h : rb.toArray = bytesOf l) : RefE cx (.Constant (.bytes rb) k pos) (eBytes l) := by
  intro vs c d c' mu s hm R
  cases hm
  refine Constant_bytes ?_
  have hp : Pur s { s with toks := s.toks + 1 } := Pur.tok ..
  exact ⟨R.pur hp, hp.stp mu, ⟨_, by rw [h]⟩⟩
/-! _paren_depth -/
def vParen : List (PySem.Str × Bool) := [("data", false), ("depth", false)]
theorem fnParen : Fn 147 (fdAt 147) ["data", "depth"] vParen (bodyAt 147) :=
  fn_ofB (fun w => ⟨_, rfl, rfl⟩) (fun w => by rfl) (by rfl) (fun w s vals B h => by
      obtain ⟨a, b, rfl⟩ := len2 h
      exact BindsTo.of_defaults (T := 140) (o := _) rfl (B.X _ _ rfl) rfl rfl rfl)
    (by rfl) (by rfl) (by rfl) (by rfl) (by rfl) (by rfl) (by rfl) (by decide) (by rfl) (fun L => by rfl)
def eCountB (c : Nat) : EM := eMeth "bytes" fCountB (eVar 0) (aCons (eBytes [c]) aNil)
def mParen : SM := sSeq (sSet 0 (eSubRe codeQuo [] (eVar 0))) (sSeq (sRet (eTwo fSub (eTwo fAdd (eVar 1) (eCountB 40)) (eCountB 41))) sNil)
theorem bParen (w : World) (A : Around) (s : Shared) (P : Addr → Prop) (G : Good 0 (cxOf w A (fdAt 147) 147 vParen P s)) (O : Own (cxOf w A (fdAt 147) 147 vParen P s)) : RefB2 (cxOf w A (fdAt 147) 147 vParen P s) (bodyAt 147) mParen := by
  refine refB2_of (refB_cons (refS_assign G O rfl (refE_subRe G (p := 139) rfl (by decide +kernel) (loads_global G rfl rfl) (fun s B => patQuo s B) (refE_var G rfl rfl)) rfl) ?_)
  refine refB_cons (refS_ret (refE_bin G spec_sub (refE_bin G spec_add (refE_var G rfl rfl) ?_) ?_)) refB_nil
  · exact refE_meth G FB.plainAttrs_bytes FR.slot_count FR.type_count spec_countB (refE_var G rfl rfl) (refA_cons (refE_bytes rfl) refA_nil)
  · exact refE_meth G FB.plainAttrs_bytes FR.slot_count FR.type_count spec_countB (refE_var G rfl rfl) (refA_cons (refE_bytes rfl) refA_nil)
theorem spec_paren0 : Spec 1 (fun vs => call (.ref 147) vs) (fnM 2 2 mParen) := spec_fn fnParen bParen
def fParen : List D → Option D
  | [.pcb _ b, .int d] => some (.int (if b then d + 1 else d - 1))
  | _ => none
theorem paren_pc (q : Nat) (b : Bool) (d : Int) : fnM 2 2 mParen [.bytes (pText q b), .int d] = some (.int (if b then d + 1 else d - 1)) := by
  have key : ∀ x, x = qText q → fnM 2 2 mParen [.bytes (x ++ [bText b]), .int d] = some (.int (if b then d + 1 - 0 else d + 0 - 1)) := by
    intro x hx
    match q, hx with
    | 0, hx => subst hx; cases b <;> kernel_rfl
    | 1, hx => subst hx; cases b <;> kernel_rfl
    | 2, hx => subst hx; cases b <;> kernel_rfl
    | q + 3, hx => subst hx; cases b <;> (show fnM 2 2 mParen [.bytes ([34, 34, 32, 34, 41, 34] ++ _), .int d] = _; kernel_rfl)
  have := key _ rfl
  simpa [pText] using this
theorem spec_paren : Spec 1 (fun vs => call (.ref 147) vs) fParen := by
  intro w A s P vs ds d G B hr hf
  unfold fParen at hf
  split at hf
  · rename_i q b i
    cases hf
    refine spec_paren0 w A s P vs [.bytes (pText q b), .int i] _ G B ?_ (paren_pc q b i)
    obtain ⟨a, c, rfl, ha, hc⟩ := hr.two
    obtain ⟨t, rfl⟩ := rd_pcb ha
    exact Rds.cons ⟨t, rfl⟩ (Rds.cons hc Rds.nil)
  · cases hf
/-! _law_heights -/
def vHts : List (PySem.Str × Bool) := [("pieces", false), ("heights", false), ("depth", false), ("piece", false), ("now", false)]
theorem fnHts : Fn 185 (fdAt 185) ["pieces"] vHts (bodyAt 185) :=
  fn_of (fun w => ⟨_, rfl, rfl⟩) (fun w => by rfl) (by rfl) (fun vals h => by obtain ⟨a, rfl⟩ := len1 h; rfl) (by rfl) (by rfl) (by rfl) (by rfl) (by rfl) (by rfl) (by rfl) (by decide) (by rfl) (fun L => by rfl)
def mHts : SM :=
  sNew 1 (fun _ => some (.list []))
  (sSeq (sSet 2 (eInt 0))
  (sSeq (sFor (iList (eVar 0)) (tgName 3)
    (sSeq (sSet 4 (eCall fParen (aCons (eMeth "str" fEncode (eVar 3) aNil) (aCons (eVar 2) aNil))))
    (sSeq (sIf (tTwo fLt (eVar 4) (eVar 2)) (sSeq (sExp (eAppend 1 (aCons (eVar 2) aNil))) sNil) sNil)
    (sSeq (sSet 2 (eVar 4)) sNil))))
  (sSeq (sRet (eVar 1)) sNil)))
theorem bHts (w : World) (A : Around) (s : Shared) (P : Addr → Prop) (G : Good 1 (cxOf w A (fdAt 185) 185 vHts P s)) (O : Own (cxOf w A (fdAt 185) 185 vHts P s)) : RefB2 (cxOf w A (fdAt 185) 185 vHts P s) (bodyAt 185) mHts := by
  refine refB2_new (i := 1) G O rfl rfl refNew_list ?_
  refine refB_cons (refS_assign G O rfl refE_int rfl) ?_
  refine refB_cons (refS_for (refI_lst G (refE_var G rfl rfl)) (refTg_name G O rfl rfl) ?_) ?_
  · refine refB_cons (refS_assign G O rfl (refE_call G (loads_global G rfl rfl) (handed_fn fun w => ⟨_, _, rfl, rfl⟩) spec_paren (refA_cons (refE_meth G PySem.F.plainAttrs_str PySem.F.slot_str_encode PySem.F.type_str_encode spec_encode.up (refE_var G rfl rfl) refA_nil) (refA_cons (refE_var G rfl rfl) refA_nil))) rfl) ?_
    refine refB_cons (refS_if (refT_cmp G spec_lt.up (refE_var G rfl rfl) (refE_var G rfl rfl)) (refB_cons (refS_expr (refE_append G rfl rfl (refA_cons (refE_var G rfl rfl) refA_nil))) refB_nil) refB_nil) ?_
    exact refB_cons (refS_assign G O rfl (refE_var G rfl rfl) rfl) refB_nil
  · exact refB_cons (refS_ret (refE_var G rfl rfl)) refB_nil
theorem spec_heights : Spec 2 (fun vs => call (.ref 185) vs) (fnM 1 5 mHts) := spec_fn fnHts bHts
end Mine
end
section
open PySem PySem.Calls PySem.W PyProof.Rows PySem.Builtin
set_option Elab.async false
set_option maxRecDepth 100000
namespace Mine
/-! what the accumulator's calls do -/
def accE (i : Nat) (op : List D → List D → Option (D × List D)) (ma : AM) : EM := fun vs c => match vs[i]? with
  | some (some .own) => (match c, ma vs c with
    | .acc _, some (xs, .acc es) => (match op xs es with
      | some (d, es') => some (.d d, .acc es')
      | none => none)
    | _, _ => none)
  | _ => none
def opReset : List D → List D → Option (D × List D)
  | [.list ds], es => if ds.length ≤ 100 ∧ es.length ≤ 200 then some (.none, ds) else none
  | _, _ => none
def opPush : List D → List D → Option (D × List D)
  | [x, y], es => if es.length ≤ 200 then some (.none, es ++ [.tup [x, y]]) else none
  | _, _ => none
def opPopFrom : List D → List D → Option (D × List D)
  | [], es => if es.length ≤ 200 then some (.list es, []) else none
  | [.int (.ofNat k)], es => if k ≤ es.length ∧ es.length ≤ 200 then some (.list (es.drop k), es.take k) else none
  | _, _ => none
def opPop : List D → List D → Option (D × List D)
  | [], es => if es.length ≤ 200 then (match es.getLast? with
    | some x => some (x, es.dropLast)
    | none => none) else none
  | _, _ => none
def eReset (i : Nat) (m : EM) : EM := accE i opReset (aCons m aNil)
def ePush (i : Nat) (a b : EM) : EM := accE i opPush (aCons a (aCons b aNil))
def ePopFrom (i : Nat) (m : EM) : EM := accE i opPopFrom (aCons m aNil)
def ePopFrom0 (i : Nat) : EM := accE i opPopFrom aNil
def ePop (i : Nat) : EM := accE i opPop aNil
def eAll (i : Nat) : EM := fun vs c => match vs[i]? with
  | some (some .own) => (match c with
    | .acc ds => if ds.length ≤ 200 then some (.d (.list ds), .acc ds) else none
    | _ => none)
  | _ => none
/-- an assignment to several names -/
def sSetT (tg : TgM) (e : EM) : SM := fun vs c => match e vs c with
  | some (.d d, c') => (match tg d vs with
    | some vs' => some (.next, vs', c')
    | none => none)
  | _ => none
def fName : List D → Option D := fnM 1 7 mName
def fAddC : List D → Option D := fnM 2 5 mAdd
def fQuote : List D → Option D := fnM 1 1 mQuote
def eLines : EM := eMeth "str" fLines (eMeth "bytes" fDecode (eCall fQuote (aCons (eMeth "str" fEncode (eVar 10) aNil) aNil)) aNil) aNil
def mTurn (rec : List D → Option D) : SM :=
  sSeq (sExp (eReset 4 (eVar 2)))
  (sSeq (sSet 7 (ePopFrom 4 (eTwo fAdd (eVar 6) (eInt 1))))
  (sSeq (sSetT (tgTup (tgCons (tgName 8) (tgCons (tgName 9) tgNil))) (ePop 4))
  (sSeq (sSet 10 (eMeth "str" fJoin (eStr []) (aCons (eComp [none, none] (iList (eVar 7)) (tgTup (tgCons (tgName 0) (tgCons (tgName 1) tgNil))) (tConst true) (eTwo fAdd (eVar 0) (eVar 1))) aNil)))
  (sSeq (sFor (iList eLines) (tgName 11)
    (sSeq (sSet 12 (eMeth "str" fCount (eVar 11) (aCons (eStr [46]) aNil)))
    (sSeq (sExp (ePush 4 (eSlice fSlice (eVar 11) eNone (eVar 12) eNone) (eTwo fAdd (eSlice fSlice (eVar 11) (eVar 12) eNone eNone) (eStr [10])))) sNil)))
  (sSeq (sSet 13 (eTup (aCons (eTwo fSub (eCall fOrd (aCons (eTwo fIdx (eVar 9) (eInt 0)) aNil)) (eInt 97)) (aCons (eVar 1) (aCons (eCall fLen (aCons (eVar 8) aNil)) aNil)))))
  (sSeq (sSet 5 (eCall fAddC (aCons (eVar 5) (aCons (eCall rec (aCons (eVar 0) (aCons (eTwo fAdd (eVar 1) (eInt 1)) (aCons (eAll 4) (aCons (eTwo fAdd (eVar 3) (eList (aCons (eVar 13) aNil))) aNil))))) aNil)))) sNil))))))
def mChoices (rec : List D → Option D) : SM :=
  sSeq (sIf (tTwo fEq (eVar 1) (eCall fLen (aCons (eVar 0) aNil))) (sSeq (sRet (eDict1 (eCall fName (aCons (eVar 3) aNil)) (eInt 1))) sNil) sNil)
  (sNew 4 (fun _ => some (.acc []))
  (sSeq (sExp (eReset 4 (eVar 2)))
  (sSeq (sIf (tVal (eMeth "str" fEnds (eTwo fIdx (eVar 0) (eVar 1)) (aCons (eStr [40]) aNil)))
    (sSeq (sExp (ePush 4 (eStr [46]) (eTwo fAdd (eCall fChr (aCons (eTwo fAdd (eInt 97) (eVar 1)) aNil)) (eStr [10]))))
    (sSeq (sRet (eCall rec (aCons (eVar 0) (aCons (eTwo fAdd (eVar 1) (eInt 1)) (aCons (ePopFrom0 4) (aCons (eVar 3) aNil)))))) sNil)) sNil)
  (sSeq (sSet 5 eDict0)
  (sSeq (sFor (iRange (aCons (eCall fLen (aCons (eVar 2) aNil)) aNil)) (tgName 6) (mTurn rec))
  (sSeq (sRet (eVar 5)) sNil))))))
def fChoices : Nat → List D → Option D
  | 0 => fun _ => none
  | n + 1 => fnM 4 14 (mChoices (fChoices n))
def fHts : List D → Option D := fnM 1 5 mHts
def fDue : List D → Option D := fnM 1 6 mDue
def sameD : List (List Nat × D) → List (List Nat × D) → Option Bool
  | [], _ => some true
  | (k, .int i) :: r, b => (match getD? b k with
    | some (.int j) => (match sameD r b with
      | some t => some (i == j && t)
      | none => none)
    | some _ => none
    | none => some false)
  | _, _ => none
def fEqDict : List D → Option D
  | [.dict a, .dict b] => if okDict a = true ∧ okDict b = true then (match sameD a b with
    | some t => some (.bool (a.length == b.length && t))
    | none => none) else none
  | _ => none
/-- the law on the reply -/
def fRest (fuel : Nat) (pieces : D) : Option D := match fChoices fuel [pieces, .int 0, .list [], .list []], fHts [pieces] with
  | some told, some h => (match fDue [h] with
    | some due => fEqDict [told, due]
    | none => none)
  | _, _ => none
end Mine
end
section
open PySem PySem.Calls PySem.W PyProof.Rows PySem.Builtin PySem.Builtin.List
set_option Elab.async false
set_option maxRecDepth 100000
namespace Mine
theorem acc_inst {w : World} {h : Heap} (B : HB w h) {a da : Addr} {vs : List Value} {n : Nat} (ha : h.get? a = some (accObj vs n da)) : Looks (model prog w) h (isInstance (.ref a) (.type "list")) true := by
  have L : Looks (model prog w) h (typeOf (.ref a)) (.ref 130) := (Looks.ld ha).andThen .now
  exact L.andThen (looks_mroIn B.X rfl)
/-- an accumulator's list part turns -/
theorem acc_update {M : Model} {A : Around} {E : Value → Shared → Prop} {s : Shared} {a da : Addr} {vs : List Value} {n : Nat} {f : Array Value → Array Value} {us : List Value} {Q : Unit → Shared → Prop} (ha : s.heap.get? a = some (accObj vs n da)) (hf : f vs.toArray = us.toArray) (hl : vs.length ≤ 1000) (hu : us.length ≤ 1000)
    (hQ : ∀ h' n', h'.get? a = some (accObj us n' da) → (∀ b o, b ≠ a → s.heap.get? b = some o → h'.get? b = some o) → Q () { s with heap := h' }) : wpAny M A (updateSeq a f) Q E s := by
  refine wpAny_updateSeq ha rfl ?_ (by simp only [List.size_toArray]; exact line_le hl) (by rw [hf]; simp only [List.size_toArray]; exact Nat.le_succ_of_le (line_le hu))
  refine hQ _ (if (us.toArray.size == vs.toArray.size) = true then n else n + 1) ?_ fun b o hb e => (Heap.get?_update_other _ _ (Ne.symm hb)).trans e
  rw [Heap.get?_update_self _ ha rfl]
  show some (Obj.mapSeq f _) = _
  simp only [Obj.mapSeq, hf]
section
variable {w : World} {A : Around} {E : Value → Shared → Prop} {s : Shared} {a da : Addr} {vs : List Value} {n : Nat}
theorem acc_append {x : Value} {Q : Value → Shared → Prop} (B : HB w s.heap) (ha : s.heap.get? a = some (accObj vs n da)) (hl : vs.length ≤ 999)
    (hQ : ∀ h' n', h'.get? a = some (accObj (vs ++ [x]) n' da) → (∀ b o, b ≠ a → s.heap.get? b = some o → h'.get? b = some o) → Q .none { s with heap := h' }) :
    wpAny (model prog w) A (call (.builtin "list.append") [.ref a, x]) Q E s := by
  refine wpAny_call (codeAny_call_builtin PySem.F.slot_list_append.plain PySem.F.entry_list_append (kfo_check (n := "append") (by decide +kernel) (by decide +kernel) (acc_inst B ha) (PySem.F.args_list_append_2 _ _) ?_))
  show wpAny _ _ (listUpdate (.ref a) (·.push x) >>= fun _ => ret .none) _ _ s
  exact wpAny_bind (m := updateSeq a _) (acc_update ha (by simp) (by omega) (by simp; omega) fun h' n' h1 h2 => wpAny_pure (hQ h' n' h1 h2))
theorem acc_len {Q : Value → Shared → Prop} (B : HB w s.heap) (ha : s.heap.get? a = some (accObj vs n da)) (hQ : Q (.int vs.length s.toks) { s with toks := s.toks + 1 }) :
    wpAny (model prog w) A (call (.builtin "list.__len__") [.ref a]) Q E s := by
  refine wpAny_call (codeAny_call_builtin PySem.F.slot_list_len.plain PySem.F.entry_list_len (check_slot (n := "__len__") (by decide +kernel) (by decide +kernel) (acc_inst B ha) (PySem.F.args_list_len_1 _) ?_))
  show wpAny _ _ (seqSize a >>= fun k => retInt k) _ _ s
  unfold seqSize
  refine wpAny_bind (wpAny_bind (wpAny_loadPart ha (wpAny_pure ?_)))
  exact wpAny_bind (wpAny_mkInt (wpAny_pure hQ))
theorem acc_pop {x : Value} {Q : Value → Shared → Prop} (B : HB w s.heap) (ha : s.heap.get? a = some (accObj (vs ++ [x]) n da)) (hl : vs.length ≤ 999)
    (hQ : ∀ h' n', h'.get? a = some (accObj vs n' da) → (∀ b o, b ≠ a → s.heap.get? b = some o → h'.get? b = some o) → Q x { s with heap := h' }) :
    wpAny (model prog w) A (call (.builtin "list.pop") [.ref a]) Q E s := by
  refine wpAny_call (codeAny_call_builtin PySem.F.slot_list_pop.plain PySem.F.entry_list_pop (kfo_check (n := "pop") (by decide +kernel) (by decide +kernel) (acc_inst B ha) (PySem.F.args_list_pop_1 _) ?_))
  unfold Builtin.«list.pop»
  refine wpAny_bind (wpAny_pure ?_)
  dsimp only
  refine wpAny_bind (wpAny_pure ?_)
  refine wpAny_ite (KPc.ite_no Bool.false_ne_true ?_)
  refine wpAny_bind ?_
  unfold listItems
  refine wpAny_bind (wpAny_seqItems ha rfl (wpAny_pure ?_))
  rw [if_neg (by simp)]
  have e1 : (seqIndex? (-1) (vs ++ [x]).toArray.size).bind (fun k => (vs ++ [x]).toArray[k]?.map (k, ·)) = some (vs.length, x) := by
    have : seqIndex? (-1) (vs ++ [x]).toArray.size = some vs.length := by
      unfold seqIndex?
      simp
      omega
    rw [this]
    simp
  rw [e1]
  dsimp only
  refine wpAny_bind (m := updateSeq a _) (acc_update (us := vs) ha ?_ (by simp; omega) (by omega) fun h' n' h1 h2 => wpAny_pure (hQ h' n' h1 h2))
  apply Array.ext'
  simp [Array.eraseIdxIfInBounds, List.eraseIdx_append_of_length_le]

end
end Mine
end
section
open PySem PySem.Calls PySem.W PyProof.Rows PySem.Builtin PySem.Builtin.List
set_option Elab.async false
set_option maxRecDepth 100000
namespace Mine
section
variable {w : World} {A : Around} {E : Value → Shared → Prop} {s : Shared} {a da : Addr} {vs : List Value} {n : Nat}
/-- a slice of an accumulator -/
theorem acc_slice {sl : Addr} {vl vu : Value} {lo hi : Option Int} {Q : Value → Shared → Prop} (B : HB w s.heap) (ha : s.heap.get? a = some (accObj vs n da)) (hs : s.heap.IsSliceOf sl vl vu .none) (pl : IsPart vl lo) (pu : IsPart vu hi) (hl : vs.length ≤ 1000)
    (hQ : Q (.ref s.heap.objs.size) { s with heap := s.heap.push { cls := .type "list", data := .seq (slicePick vs.toArray lo hi none) } }) :
    wpAny (model prog w) A (call (.builtin "list.__getitem__") [.ref a, .ref sl]) Q E s := by
  obtain ⟨os, hos, hcs, hds⟩ := id hs
  have hTs : s.TypeIs (.ref sl) "slice" := ⟨os, hos, hcs⟩
  refine wpAny_call (codeAny_call_builtin (b := Builtin.«list.__getitem__») PySem.slot_list_getitem.plain PySem.entry_list_getitem ?_)
  refine kfo_check (i := "list.__getitem__") (owner := "list") (n := "__getitem__") (self := .ref a) (rest := [.ref sl]) (kw := []) (by decide +kernel) (by decide +kernel) (acc_inst B ha) (PySem.args_list_getitem _ _) ?_
  show wpAny _ _ (listSubscript? (.ref sl) >>= _) _ _ s
  refine wpAny_bind ?_
  unfold listSubscript?
  refine wpAny_bind (wpAny_specialOf hTs slice_no_index ?_)
  simp only [Option.isNone_none, if_true]
  refine wpAny_pure ?_
  show wpAny _ _ (typeOf (.ref sl) >>= _) _ _ s
  refine wpAny_bind (wpAny_typeOf hTs ?_)
  rw [if_neg (by decide)]
  rw [listSliceParts_eq]
  refine wpAny_bind (wpAny_bind (wpAny_field hos hds (x := .none) rfl (wpAny_bind (wpAny_listPart .none ?_))))
  rw [if_neg (show ¬ ((rawPart none == rawInt 0) = true) from Bool.false_ne_true)]
  refine wpAny_bind (wpAny_field hos hds (x := vl) rfl (wpAny_bind (wpAny_listPart pl ?_)))
  refine wpAny_bind (wpAny_field hos hds (x := vu) rfl (wpAny_bind (wpAny_listPart pu (wpAny_pure ?_))))
  refine wpAny_bind (m := Builtin.List.listItems (.ref a)) ?_
  unfold Builtin.List.listItems
  refine wpAny_bind (wpAny_seqItems ha rfl (wpAny_pure ?_))
  refine wpAny_bind (wpAny_of_eq (sliceIndices_raw lo hi none vs.toArray.size (by simp)) ?_)
  refine wpAny_bind (wpAny_newObj_type (wpAny_pure hQ) (Nat.le_trans (slicePick_size_le vs.toArray lo hi none) (by simp only [List.size_toArray]; exact line_le hl)))
/-- a slice of an accumulator is replaced -/
theorem acc_setslice {sl l : Addr} {vl vu : Value} {lo hi : Option Int} {us ws : List Value} {k : Nat} {Q : Value → Shared → Prop} (B : HB w s.heap) (ha : s.heap.get? a = some (accObj vs n da)) (hs : s.heap.IsSliceOf sl vl vu .none) (pl : IsPart vl lo) (pu : IsPart vu hi) (hl : vs.length ≤ 400)
    (hnew : s.heap.get? l = some { cls := .type "list", data := .seq us.toArray k }) (hul : us.length ≤ 400) (hne : a ≠ l) (hws : ws.length ≤ 1000)
    (hf : (vs.toArray.extract 0 (sliceBounds lo hi none vs.length).1.toNat ++ us.toArray ++ vs.toArray.extract (max (sliceBounds lo hi none vs.length).1 (sliceBounds lo hi none vs.length).2.1).toNat vs.toArray.size) = ws.toArray)
    (hQ : ∀ h' n', h'.get? a = some (accObj ws n' da) → (∀ b o, b ≠ a → s.heap.get? b = some o → h'.get? b = some o) → Q .none { s with heap := h' }) :
    wpAny (model prog w) A (call (.builtin "list.__setitem__") [.ref a, .ref sl, .ref l]) Q E s := by
  obtain ⟨os, hos, hcs, hds⟩ := id hs
  have hTs : s.TypeIs (.ref sl) "slice" := ⟨os, hos, hcs⟩
  have hTl : s.TypeIs (.ref l) "list" := ⟨_, hnew, rfl⟩
  refine wpAny_call (codeAny_call_builtin (b := Builtin.«list.__setitem__») PySem.F.slot_list_setitem.plain PySem.F.entry_list_setitem ?_)
  refine check_slot (i := "list.__setitem__") (owner := "list") (n := "__setitem__") (self := .ref a) (rest := [.ref sl, .ref l]) (kw := []) (by decide +kernel) (by decide +kernel) (acc_inst B ha) (PySem.F.args_list_setitem_3 _ _ _) ?_
  show wpAny _ _ (listSubscript? (.ref sl) >>= _) _ _ s
  refine wpAny_bind ?_
  unfold listSubscript?
  refine wpAny_bind (wpAny_specialOf hTs slice_no_index ?_)
  simp only [Option.isNone_none, if_true]
  refine wpAny_pure ?_
  show wpAny _ _ (typeOf (.ref sl) >>= _) _ _ s
  refine wpAny_bind (wpAny_typeOf hTs ?_)
  rw [if_neg (by decide)]
  rw [listSliceParts_eq]
  refine wpAny_bind (wpAny_bind (wpAny_field hos hds (x := .none) rfl (wpAny_bind (wpAny_listPart .none ?_))))
  rw [if_neg (show ¬ ((rawPart none == rawInt 0) = true) from Bool.false_ne_true)]
  refine wpAny_bind (wpAny_field hos hds (x := vl) rfl (wpAny_bind (wpAny_listPart pl ?_)))
  refine wpAny_bind (wpAny_field hos hds (x := vu) rfl (wpAny_bind (wpAny_listPart pu (wpAny_pure ?_))))
  show wpAny _ _ (if (listSameRef (.ref a) (.ref l)) = true then _ else _) _ _ s
  have hsr : ¬ (listSameRef (.ref a) (.ref l) = true) := by simpa [listSameRef] using hne
  rw [if_neg hsr]
  refine wpAny_bind ?_
  unfold listAllItems
  refine wpAny_bind (wpAny_typeOf hTl ?_)
  rw [if_pos (by decide)]
  unfold listItems
  refine wpAny_bind (wpAny_seqItems hnew rfl (wpAny_pure ?_))
  refine wpAny_bind (wpAny_bind (wpAny_seqItems ha rfl (wpAny_pure ?_)))
  refine wpAny_bind (wpAny_of_eq (sliceIndices_raw lo hi none vs.toArray.size (by simp)) ?_)
  have hb2 : (sliceBounds lo hi none vs.toArray.size).2.2 = 1 := rfl
  rw [hb2]
  refine wpAny_ite (KPc.ite_yes rfl ?_)
  refine wpAny_bind (wpAny_rule ?_)
  have hsz : (vs.toArray.size + us.toArray.size) ≤ 1000 := by simp only [List.size_toArray]; omega
  rw [if_neg (by unfold listTooLong; have := line_le hsz; simpa using this)]
  have hf' : (fun xs : Array Value => xs.extract 0 (sliceBounds lo hi none vs.toArray.size).1.toNat ++ us.toArray ++ xs.extract (max (sliceBounds lo hi none vs.toArray.size).1 (sliceBounds lo hi none vs.toArray.size).2.1).toNat) vs.toArray = ws.toArray := by
    simp only [List.size_toArray] at hf ⊢
    exact hf
  refine wpAny_bind (m := updateSeq a _) (acc_update ha hf' (by omega) hws fun h' n' h1 h2 => ?_)
  exact wpAny_bind (wpAny_letGo (wpAny_pure (hQ h' n' h1 h2)))
end
end Mine
end
section
open PySem PySem.Calls PySem.W PyProof.Rows PySem.Builtin PySem.Builtin.List
set_option Elab.async false
set_option maxRecDepth 100000
namespace Mine
/-- the pairs that the object's dict may hold -/
def EnsOk (w : World) (ens : List DictEntry) : Prop := ens = [] ∨ ∃ t v, ens = [⟨PyData.keyHash w.params "_initial_size", .str "_initial_size" t, v⟩]
theorem EnsOk.look {w : World} {ens : List DictEntry} (h : EnsOk w ens) {name : PySem.Str} (hn : (("_initial_size" : PySem.Str) == name) = false) : PySem.W.getL name ens = some none := by
  rcases h with rfl | ⟨t, v, rfl⟩
  · rfl
  · unfold PySem.W.getL
    have e : Value.isStr (.str "_initial_size" t) name = false := by
      show ((("_initial_size" : PySem.Str)) == name) = false
      exact hn
    simp [List.find?_cons, e, DictEntry.refKey]
section
variable {w : World} {A : Around} {E : Value → Shared → Prop} {s : Shared} {a da : Addr} {vs : List Value} {n k : Nat} {ens : List DictEntry}
theorem acc_InstAt {h : Heap} (ha : h.get? a = some (accObj vs n da)) (hd : h.get? da = some (dictOf ens k)) : InstAt h a (accObj vs n da) 130 (some (dictOf ens k)) := ⟨ha, rfl, rfl, hd⟩
theorem acc_getMethod {name : PySem.Str} {f tf : Value} {pl : Sem Bool} {Q : Value × List Value → Shared → Prop} (B : HB w s.heap) (ha : s.heap.get? a = some (accObj vs n da)) (hd : s.heap.get? da = some (dictOf ens k)) (he : EnsOk w ens)
    (hf : findIn (KF w) (.ref 130) name = some (some f)) (ht : typeIn (KF w) f = some tf) (htf : (tf != .type "function" && tf != .type "method_descriptor" && tf != .type "wrapper_descriptor") = false) (hn : (("_initial_size" : PySem.Str) == name) = false)
    (hga : findIn (KF w) (.ref 130) "__getattribute__" = some (some (.builtin "list.__getattribute__"))) (hk : findIn (KF w) (.ref 130) "__getattr__" = some none) (h : Q (f, [.ref a]) s) :
    wpAny (model prog w) A (getMethod (.ref a) name pl) Q E s := by
  have X := B.X
  have I := acc_InstAt ha hd
  unfold getMethod specialOf
  refine wpAny_bind (wpAny_bind (I.type.here ((looks_findIn X hga).here ?_)))
  dsimp only
  rw [show (Manifest.canonical "list.__getattribute__" != "object.__getattribute__") = false by decide +kernel, if_neg (by decide)]
  refine wpAny_bind (wpAny_bind (I.type.here ((looks_findIn X hk).here ?_)))
  refine wpAny_bind (wpAny_bind (I.type.here ((looks_findIn X hf).here (wpAny_bind ((looks_typeIn X ht).here ?_)))))
  rw [htf, if_neg (by decide)]
  refine wpAny_bind (wpAny_loadPart I.at_ ?_)
  refine wpAny_bind (wpAny_bind (wpAny_loadPart hd ?_))
  rw [nsLook_of (show lookIn name (dictOf ens k) = some none by rw [lookIn_dict]; exact he.look hn)]
  exact wpAny_pure (wpAny_bind (wpAny_rule (wpAny_pure h)))
theorem ga130 (w : World) : findIn (KF w) (.ref 130) "__getattribute__" = some (some (.builtin "list.__getattribute__")) := by rfl
theorem g130 (w : World) : findIn (KF w) (.ref 130) "__getattr__" = some none := by rfl
end
end Mine
namespace Mine
theorem meth_rule {M : Model} {A : Around} {E : Value → Shared → Prop} {s : Shared} {env : Env} {o : Expr} {name : PySem.Str} {apos pos : Pos} {args : List Expr} {pl : Sem Bool} {Q : Value → Shared → Prop}
    (h : wpAny M A (eval o env) (fun ov s₁ => wpAny M A (getMethod ov name pl) (fun fx s₂ => wpAny M A (callWith pos fx.1 fx.2 (backTo pos (starEach args env)) []) Q E s₂) E s₁) E s)
    (hbase : attributeBase o name env (eval o env) = eval o env)
    (he : eval (.Call (.Attribute o name apos) args [] pos) env = (do
      let ov ← attributeBase o name env (eval o env)
      standAt apos.atName
      let (f, first) ← holding [ov] (getMethod ov name pl)
      callWith pos f first (backTo pos (starEach args env)) []) := by rfl) : wpAny M A (eval (.Call (.Attribute o name apos) args [] pos) env) Q E s := by
  exact MethodCall_ h (by rw [he, hbase])
section
variable {w : World} {A : Around} {s : Shared} {a da : Addr} {vs : List Value} {n k : Nat} {ens : List DictEntry}
theorem look74 (w : World) : ∃ o, (KF w).lookup 74 = some o ∧ o.data = .func (fdAt 74) := ⟨_, rfl, rfl⟩
/-- rows.push(fws, string) -/
theorem acc_push {u v : Value} {Q : Value → Shared → Prop} (G : Room 1 A) (B : HB w s.heap) (ha : s.heap.get? a = some (accObj vs n da)) (hd : s.heap.get? da = some (dictOf ens k)) (he : EnsOk w ens) (hl : vs.length ≤ 900)
    (hQ : ∀ h' tk T n', h'.get? a = some (accObj (vs ++ [.ref T]) n' da) → h'.get? T = some { cls := .type "tuple", data := .seq [u, v].toArray } → s.heap.objs.size ≤ T → (∀ b o, b ≠ a → s.heap.get? b = some o → h'.get? b = some o) → Q .none { s with heap := h', toks := tk }) :
    wpAny (model prog w) A (call (.ref 74) [.ref a, u, v]) Q NoE s := by
  obtain ⟨o, eo, ed⟩ := look74 w
  refine wpAny_call (codeAny_call_def (fd := fdAt 74) (body := bodyAt 74) (binds := [("self", .ref a), ("fws", u), ("string", v)]) ?_ (B.X _ _ eo) ed B.nolimit (codeRec_of B.X rfl) rfl (BindsTo.of_eq rfl) (by decide) (by intro y hy; simp only [List.mem_cons, List.not_mem_nil, or_false] at hy; rcases hy with rfl | rfl | rfl <;> rfl) (fun h₀ hns hk => ?_) rfl rfl rfl)
  · have := G.depth
    have : recursionLimit = 1000 := rfl
    omega
  have B0 : HB w h₀ := B.keeps hk
  refine wpAny_execs_cons (wpAny_Expr_any (meth_rule ?_ rfl) rfl rfl)
  refine wpAny_Name (wpAny_loadName_local rfl rfl hns (v := .ref a) rfl ?_) (by decide)
  refine acc_getMethod (s := { s with heap := h₀, toks := s.toks + 3 }) B0 (hk _ _ ha) (hk _ _ hd) he (f := .builtin "list.append") (tf := .type "method_descriptor") rfl rfl rfl (by decide +kernel) (ga130 w) (g130 w) ?_
  show wpAny _ _ (callWith _ (.builtin "list.append") [.ref a] _ []) _ _ _
  refine callWith_builtin rfl ?_
  refine evalArgs_plain (Calls.spliced_cons (wpAny_Tuple_spliced (x1 := 0) ?_))
  refine Calls.spliced_cons (wpAny_Name (wpAny_loadName_local rfl rfl hns (v := u) rfl ?_) (by decide))
  refine Calls.spliced_cons (wpAny_Name (wpAny_loadName_local rfl rfl hns (v := v) rfl ?_) (by decide))
  refine Calls.spliced_nil ⟨show 2 ≤ sizeLine by decide, ?_⟩
  refine Calls.spliced_nil ?_
  have hTs : h₀.objs.size ≠ a := Nat.ne_of_gt (Heap.lt_size (hk _ _ ha))
  refine acc_append (s := { s with heap := h₀.push { cls := .type "tuple", data := .seq [u, v].toArray }, toks := s.toks + 3 }) (B0.keeps fun b o e => Heap.get?_push_of_some _ e) (Heap.get?_push_of_some _ (hk _ _ ha)) (by omega) fun h' n' h1 h2 => ?_
  refine wpAny_execs_nil ?_
  exact hQ h' _ h₀.objs.size n' h1 (h2 _ _ hTs (Heap.get?_push_size _ rfl)) (Nat.le_of_lt hns.lt) fun b o hb e => h2 b o hb (Heap.get?_push_of_some _ (hk b o e))
end
end Mine
end
section
open PySem PySem.Calls PySem.W PyProof.Rows PySem.Builtin PySem.Builtin.List
set_option Elab.async false
set_option maxRecDepth 100000
namespace Mine
section
variable {w : World} {A : Around} {E : Value → Shared → Prop} {s : Shared} {a da : Addr} {vs : List Value} {n k : Nat} {ens : List DictEntry}
theorem acc_type {h : Heap} (ha : h.get? a = some (accObj vs n da)) : Looks (model prog w) h (typeOf (.ref a)) (.ref 130) := (Looks.ld ha).andThen .now
theorem acc_special {name : PySem.Str} {id : String} {args : List Value} {Q : Option Value → Shared → Prop} (S : Slot "list" name id) (B : HB w s.heap) (ha : s.heap.get? a = some (accObj vs n da)) (hs : findIn (KF w) (.ref 130) name = some (some (.builtin id)))
    (h : wpAny (model prog w) A (call (.builtin id) (.ref a :: args)) (fun v => Q (some v)) E s) : wpAny (model prog w) A (callSpecial? (.ref a) name args) Q E s :=
  wpAny_bind (wpAny_bind ((acc_type ha).here ((looks_findIn B.X hs).here (wpAny_holding (wpAny_bind (wpAny_of_eq (S.bind _) (wpAny_bind (wpAny_mono h (fun _ _ z => wpAny_pure z) fun _ _ z => z))))))))
theorem acc_key {M : Model} {i : Value} {name : String} {Q : Value → Shared → Prop} (ht : Looks M s.heap (typeOf (.ref a)) (.ref 130)) (hq : Looks M s.heap (seqItemTypes.anyM fun n => isSubtype (.ref 130) (.type n)) false) (h : Q i s) :
    wpAny M A (sequenceKey (.ref a) i name) Q E s := by
  unfold sequenceKey
  refine wpAny_bind (ht.here ?_)
  refine wpAny_bind (hq.here ?_)
  rw [if_pos (show (!false) = true from rfl)]
  exact wpAny_pure h
theorem acc_noSeq {h : Heap} (B : HB w h) : Looks (model prog w) h (seqItemTypes.anyM fun n => isSubtype (.ref 130) (.type n)) false := anyM_none B.X (by rfl)
theorem acc_getItem {sl : Addr} {vl vu : Value} {lo hi : Option Int} {Q : Value → Shared → Prop} (B : HB w s.heap) (ha : s.heap.get? a = some (accObj vs n da)) (hs : s.heap.IsSliceOf sl vl vu .none) (pl : IsPart vl lo) (pu : IsPart vu hi) (hl : vs.length ≤ 1000)
    (hQ : Q (.ref s.heap.objs.size) { s with heap := s.heap.push { cls := .type "list", data := .seq (slicePick vs.toArray lo hi none) } }) :
    wpAny (model prog w) A (getItem (.ref a) (.ref sl)) Q E s := by
  unfold getItem
  refine wpAny_holding (wpAny_bind (acc_key (acc_type ha) (acc_noSeq B) ?_))
  exact wpAny_bind (acc_special PySem.F.slot_list_getitem B ha rfl (acc_slice B ha hs pl pu hl (wpAny_pure hQ)))
theorem acc_setItem {sl l : Addr} {vl vu : Value} {lo hi : Option Int} {us ws : List Value} {k : Nat} {Q : Unit → Shared → Prop} (B : HB w s.heap) (ha : s.heap.get? a = some (accObj vs n da)) (hs : s.heap.IsSliceOf sl vl vu .none) (pl : IsPart vl lo) (pu : IsPart vu hi) (hl : vs.length ≤ 400)
    (hnew : s.heap.get? l = some { cls := .type "list", data := .seq us.toArray k }) (hul : us.length ≤ 400) (hne : a ≠ l) (hws : ws.length ≤ 1000)
    (hf : (vs.toArray.extract 0 (sliceBounds lo hi none vs.length).1.toNat ++ us.toArray ++ vs.toArray.extract (max (sliceBounds lo hi none vs.length).1 (sliceBounds lo hi none vs.length).2.1).toNat vs.toArray.size) = ws.toArray)
    (hQ : ∀ h' n', h'.get? a = some (accObj ws n' da) → (∀ b o, b ≠ a → s.heap.get? b = some o → h'.get? b = some o) → Q () { s with heap := h' }) :
    wpAny (model prog w) A (setItem (.ref a) (.ref sl) (.ref l)) Q E s := by
  unfold setItem
  refine wpAny_holding (wpAny_bind (acc_key (acc_type ha) (acc_noSeq B) ?_))
  exact wpAny_bind (acc_special PySem.F.slot_list_setitem B ha rfl (acc_setslice B ha hs pl pu hl hnew hul hne hws hf fun h' n' h1 h2 => wpAny_pure (hQ h' n' h1 h2)))
/-- a subscript of an accumulator -/
theorem sub_acc {env : Env} {value slice : Expr} {pos : Pos} {Q : Value → Shared → Prop}
    (h : wpAny (model prog w) A (eval value env) (fun o s₁ => wpAny (model prog w) A (eval slice env) (fun i s₂ => ∃ (a da : Addr) (vs : List Value) (n : Nat), o = .ref a ∧ HB w s₂.heap ∧ s₂.heap.get? a = some (accObj vs n da) ∧ wpAny (model prog w) A (getItem o i) Q E s₂) E s₁) E s)
    (hs : ∀ o i, ∃ l, subscripted slice false o i = operate l (getItem o i) := by intro o i; exact ⟨_, rfl⟩) :
    wpAny (model prog w) A (eval (.Subscript value slice pos) env) Q E s := by
  rw [eval_Subscript]
  refine wpAny_bind (wpAny_mono h (fun o s₁ h₁ => wpAny_bind (wpAny_holding (wpAny_mono h₁ (fun i s₂ h₂ => wpAny_bind (wpAny_standAt ?_)) fun _ _ x => x)))
    fun _ _ x => x)
  obtain ⟨a, da, vs, n, rfl, B, ha, hg⟩ := h₂
  obtain ⟨l, el⟩ := hs (.ref a) i
  refine wpAny_bind ?_
  rw [getitemInPython_of_ne (by intro e; cases e)]
  refine wpAny_bind (wpAny_bind ((acc_type ha).here ((looks_findIn B.X (show findIn (KF w) (.ref 130) "__getitem__" = some (some (.builtin "list.__getitem__")) from rfl)).here ?_)))
  have fin : wpAny (model prog w) A (subscripted slice false (.ref a) i) (fun r s₃ => wpAny (model prog w) A (letTemporaryGo value (.ref a) r >>= fun _ => pure r) Q E s₃) E s₂ := by
    rw [el]
    exact wpAny_operating (wpAny_mono hg (fun r s₃ h₃ => wpAny_bind (wpAny_letTemporaryGo (wpAny_pure h₃))) fun _ _ x => x)
  first
    | exact wpAny_pure (wpAny_bind fin)
    | exact wpAny_bind (wpAny_pure (wpAny_bind fin))
    | exact wpAny_bind fin
end
end Mine
end
section
open PySem PySem.Calls PySem.W PyProof.Rows PySem.Builtin PySem.Builtin.List
set_option Elab.async false
set_option maxRecDepth 100000
namespace Mine
section
variable {w : World} {A : Around} {s : Shared} {a da : Addr} {vs : List Value} {n k : Nat} {ens : List DictEntry}
theorem pick_drop (vs : List Value) (j : Nat) (hj : j ≤ vs.length) : slicePick vs.toArray (some (j : Int)) none none = (vs.drop j).toArray :=
  slicePick_from vs.toArray j (by simpa using hj)
theorem look82 (w : World) : ∃ o, (KF w).lookup 82 = some o ∧ o.data = .func (fdAt 82) := ⟨_, rfl, rfl⟩
/-- rows.pop_from(i) -/
theorem acc_popFrom {j : Nat} {t : Tok} {args : List Value} {Q : Value → Shared → Prop} (G : Room 1 A) (B : HB w s.heap) (ha : s.heap.get? a = some (accObj vs n da)) (hl : vs.length ≤ 400) (hj : j ≤ vs.length)
    (hbind : BindsTo s (fdAt 82) ⟨args, []⟩ [("self", .ref a), ("i", .int j t)])
    (hQ : ∀ h' tk T n', h'.get? a = some (accObj (vs.take j) n' da) → h'.get? T = some { cls := .type "list", data := .seq (vs.drop j).toArray } → s.heap.objs.size ≤ T → (∀ b o, b ≠ a → s.heap.get? b = some o → h'.get? b = some o) → Q (.ref T) { s with heap := h', toks := tk }) :
    wpAny (model prog w) A (call (.ref 82) args) Q NoE s := by
  obtain ⟨o, eo, ed⟩ := look82 w
  refine wpAny_call (codeAny_call_def (fd := fdAt 82) (body := bodyAt 82) (binds := [("self", .ref a), ("i", .int j t)]) ?_ (B.X _ _ eo) ed B.nolimit (codeRec_of B.X rfl) rfl hbind (by decide) (by intro y hy; simp only [List.mem_cons, List.not_mem_nil, or_false] at hy; rcases hy with rfl | rfl <;> rfl) (fun h₀ hns hk => ?_) rfl rfl rfl)
  · have := G.depth
    have : recursionLimit = 1000 := rfl
    omega
  have B0 : HB w h₀ := B.keeps hk
  refine wpAny_execs_cons (wpAny_Assign_Name (sub_acc ?_) rfl)
  refine wpAny_Name (wpAny_loadName_local rfl rfl hns (v := .ref a) rfl ?_) (by decide)
  refine wpAny_Slice ?_
  rw [evalPart_some, evalPart_none]
  refine wpAny_Name (wpAny_loadName_local rfl rfl hns (v := .int j t) rfl ?_) (by decide)
  refine wpAny_pure (wpAny_pure ?_)
  refine ⟨a, da, vs, n, rfl, B0.keeps fun b o e => Heap.get?_push_of_some _ e, Heap.get?_push_of_some _ (hk _ _ ha), ?_⟩
  refine acc_getItem (B0.keeps fun b o e => Heap.get?_push_of_some _ e) (Heap.get?_push_of_some _ (hk _ _ ha)) (Heap.IsSliceOf.new ..) (.int _ _) .none (by omega) ?_
  rw [pick_drop vs j hj]
  -- the heap so far
  generalize hH : (Heap.push (Heap.push h₀ { cls := .type "slice", data := .fields #[.int j t, .none, .none] }) { cls := .type "list", data := .seq (vs.drop j).toArray }) = H
  have hzT : (Heap.push h₀ { cls := .type "slice", data := .fields #[.int j t, .none, .none] }).objs.size = h₀.objs.size + 1 := Heap.size_push ..
  have kH : ∀ b o, h₀.get? b = some o → H.get? b = some o := fun b o e => hH ▸ Heap.get?_push_of_some _ (Heap.get?_push_of_some _ e)
  have hT : H.get? (h₀.objs.size + 1) = some { cls := .type "list", data := .seq (vs.drop j).toArray } := by
    rw [← hH, ← hzT]; exact Heap.get?_push_size _ rfl
  show wpAny _ _ (storeName _ _ (.ref ((Heap.push h₀ _).objs.size))) _ _ _
  rw [hzT]
  refine wpAny_storeName_local rfl (hns.keeps kH) (fun h₁ hn₁ hs₁ => ?_) rfl
  have hLa : a ≠ s.heap.objs.size := Nat.ne_of_lt (Heap.lt_size ha)
  have hLlt : s.heap.objs.size < h₀.objs.size := hns.lt
  have k₁ : ∀ b o, b ≠ s.heap.objs.size → H.get? b = some o → h₁.get? b = some o := fun b o hb e => hs₁.extBut b o hb e
  have kk : ∀ b o, s.heap.get? b = some o → h₁.get? b = some o := fun b o e => k₁ b o (Nat.ne_of_lt (Heap.lt_size e)) (kH b o (hk b o e))
  have hT₁ : h₁.get? (h₀.objs.size + 1) = some { cls := .type "list", data := .seq (vs.drop j).toArray } := k₁ _ _ (by show h₀.objs.size + 1 ≠ s.heap.objs.size; omega) hT
  have B1 : HB w h₁ := B.keeps kk
  refine wpAny_execs_cons (wpAny_Assign_Subscript ?_ rfl)
  refine PySem.wpAny_List (spliced_nil ⟨by decide, ?_⟩)
  refine wpAny_Name (wpAny_loadName_local rfl rfl ((hn₁).push _) (v := .ref a) ?_ ?_) (by decide)
  · simp only [if_neg (show ¬ (("self" : PySem.Str) = "popped") by decide)]; rfl
  refine wpAny_Slice ?_
  rw [evalPart_some, evalPart_none]
  refine wpAny_Name (wpAny_loadName_local rfl rfl ((hn₁).push _) (v := .int j t) ?_ ?_) (by decide)
  · simp only [if_neg (show ¬ (("i" : PySem.Str) = "popped") by decide)]; rfl
  refine wpAny_pure (wpAny_pure ?_)
  have k₂ : ∀ b o, h₁.get? b = some o → ((h₁.push { cls := .type "list", data := .seq ([] : List Value).toArray }).push { cls := .type "slice", data := .fields #[.int j t, .none, .none] }).get? b = some o := fun b o e => Heap.get?_push_of_some _ (Heap.get?_push_of_some _ e)
  have hsb : sliceBounds (some (j : Int)) none none vs.length = ((j : Int), (vs.length : Int), 1) := by
    simp only [sliceBounds, Option.getD_none]
    have h1 : ¬ ((j : Int) < 0) := by omega
    simp only [h1, if_false, show (1 : Int) > 0 by decide, if_true]
    have : max 0 (min (j : Int) vs.length) = j := by omega
    rw [this]
  refine acc_setItem (us := []) (ws := vs.take j) (B1.keeps k₂) (k₂ _ _ (kk _ _ ha)) (Heap.IsSliceOf.new ..) (.int _ _) .none hl (Heap.get?_push_of_some _ (Heap.get?_push_size _ rfl)) (by simp) (Nat.ne_of_lt (Heap.lt_size (kk _ _ ha))) (by simp; omega) ?_ fun h₃ n₃ e₃ ke₃ => ?_
  · rw [hsb]
    apply Array.ext'
    have hm : max (j : Int) vs.length = vs.length := by omega
    simp [hm]
  have hns₃ := (hn₁.keeps k₂).at' fun o e => ke₃ _ o (Ne.symm hLa) e
  refine wpAny_execs_cons (wpAny_Return_some (wpAny_Name (wpAny_loadName_local rfl rfl hns₃ (v := .ref (h₀.objs.size + 1)) ?_ ?_) (by decide)))
  · exact if_pos rfl
  have hTa : h₀.objs.size + 1 ≠ a := Nat.ne_of_gt (Nat.lt_trans (Heap.lt_size ha) (Nat.lt_trans hLlt (Nat.lt_succ_self _)))
  exact hQ h₃ _ _ n₃ e₃ (ke₃ _ _ hTa (k₂ _ _ hT₁)) (by omega) fun b o hb e => ke₃ b o hb (k₂ b o (kk b o e))
end
end Mine
end
section
open PySem PySem.Calls PySem.W PyProof.Rows PySem.Builtin PySem.Builtin.List
set_option Elab.async false
set_option maxRecDepth 100000
namespace Mine
section
variable {w : World} {A : Around} {s : Shared} {a da : Addr} {vs : List Value} {n k : Nat} {ens : List DictEntry}
/-- the fixed part of the heap does not lie at the accumulator -/
def HBoff (w : World) (h : Heap) (a da : Addr) : Prop := ∀ h', (∀ b o, b ≠ a → b ≠ da → h.get? b = some o → h'.get? b = some o) → HB w h'
theorem refuse130 (self : Value) : refuseLoop self "__setattr__" [.ref 130, .type "list", .type "object"] = pure () := by
  rw [refuseLoop_ref]
  kernel_rfl
theorem acc_setattr {v : Value} {R : Result → Shared → Prop} {tk : Tok} (B : HB w s.heap) (ha : s.heap.get? a = some (accObj vs n da)) (hd : s.heap.get? da = some (dictOf ens k)) (he : EnsOk w ens)
    (hR : ∀ h' tk' t k', h'.get? da = some (dictOf [⟨PyData.keyHash w.params "_initial_size", .str "_initial_size" t, v⟩] k') → (∀ b o, b ≠ da → s.heap.get? b = some o → h'.get? b = some o) → R (.ok (.ret .none)) { s with heap := h', toks := tk' }) :
    codeAny (model prog w) A (.call (.builtin "object.__setattr__") ⟨[.ref a, .str "_initial_size" tk, v], []⟩) R s := by
  have X := B.X
  have I := acc_InstAt ha hd
  have SF := PySem.F.store_object
  have sub : Looks (model prog w) s.heap (isInstance (.ref a) (.type "object")) true := I.type.andThen (looks_mroIn X rfl)
  refine codeAny_call_builtin SF.slot.plain SF.entry (@check_slot (model prog w) _ _ s "object.__setattr__" "object" "__setattr__" (.ref a) [.str "_initial_size" tk, v] [] _ SF.kind SF.split sub (SF.args (.ref a) (.str "_initial_size" tk) v) ?_)
  obtain ⟨cd, hc, hcd⟩ : ∃ cd, clsIn (KF w) 130 = some cd ∧ cd.mro = [.ref 130, .type "list", .type "object"] ∧ cd.hasDict = true := ⟨_, rfl, rfl, rfl⟩
  have hm : Looks (model prog w) s.heap (mroOf (.ref 130)) cd.mro := (looks_clsIn X hc).andThen .now
  rw [osa_eq, refuse_eq]
  refine wpAny_bind (wpAny_bind (I.type.here (wpAny_bind (hm.here ?_))))
  rw [hcd.1, refuse130]
  refine wpAny_pure (wpAny_bind (I.type.here (wpAny_bind ((looks_findIn X (show findIn (KF w) (.ref 130) "_initial_size" = some none from rfl)).here (wpAny_bind ((Looks.now (a := none)).here ?_))))))
  refine wpAny_bind (wpAny_pure (wpAny_bind (wpAny_bind (wpAny_loadPart ha (wpAny_bind ((looks_clsIn X hc).here ?_))))))
  rw [hcd.2]
  refine wpAny_pure (a := some da) (wpAny_bind (wpAny_pure (wpAny_bind ?_)))
  unfold nsSet
  refine wpAny_bind (wpAny_bind (wpAny_askSetting (wpAny_pure (wpAny_bind (wpAny_mkText (wpAny_bind (wpAny_loadPart hd ?_)))))))
  dsimp only
  have fin : ∀ (es' : List DictEntry) (k' : Nat) (t : Tok), Obj.putName "_initial_size" (PyData.keyHash w.params "_initial_size") (.str "_initial_size" s.toks) v (dictOf ens k) = dictOf es' k' → es' = [⟨PyData.keyHash w.params "_initial_size", .str "_initial_size" t, v⟩] →
      wpAny (model prog w) A.in1 (updatePart da (some (Value.str (PySem.Str.ofString "_initial_size") 0)) (Obj.putName "_initial_size" (PyData.keyHash w.params "_initial_size") (.str "_initial_size" s.toks) v))
        (fun _ s' => wpAny (model prog w) A.in1 (do
          lookBehind da (some (Value.str (PySem.Str.ofString "_initial_size") 0))
          ret Value.none) (fun fin s' => match fin with
          | Fin.done f => R (Except.ok f) s'
          | Fin.again c' => c'.quiet = true ∧ codeAny (model prog w) A c' R s') (fun e s' => R (Except.error e) s') s') (fun e s' => R (Except.error e) s') { s with toks := s.toks + 1 } := by
    intro es' k' t e1 e2
    refine wpAny_updatePart hd ?_
    have D' : (s.heap.update da (Obj.putName "_initial_size" (PyData.keyHash w.params "_initial_size") (.str "_initial_size" s.toks) v)).get? da = some (dictOf es' k') := by
      rw [Heap.get?_update_self _ hd (by rw [e1]; rfl), e1]
    refine wpAny_bind (wpAny_lookBehind D' (pastItsLine_dict (by rw [e2]; show 1 ≤ sizeLine + 1; decide)) ?_)
    refine wpAny_pure (hR _ _ t k' (by rw [D', e2]) fun b o hb e => (Heap.get?_update_other _ _ (Ne.symm hb)).trans e)
  rcases he with rfl | ⟨t, v0, rfl⟩
  · rw [aRefKeyMayBeTheName_at, if_neg (by simp)]
    exact fin _ _ s.toks (putName_dict ..) rfl
  · rw [aRefKeyMayBeTheName_at, if_neg (by simp [DictEntry.refKey])]
    refine fin _ _ t (putName_dict ..) ?_
    have e : Value.isStr (.str "_initial_size" t) "_initial_size" = true := by
      show ((("_initial_size" : PySem.Str)) == "_initial_size") = true
      decide
    simp [putL, e]

theorem look112 (w : World) : ∃ o, (KF w).lookup 112 = some o ∧ o.data = .func (fdAt 112) := ⟨_, rfl, rfl⟩
/-- rows.reset(startval) -/
theorem acc_reset {l : Addr} {us : List Value} {kl : Nat} {Q : Value → Shared → Prop} (G : Room 1 A) (B : HB w s.heap) (Bf : HBoff w s.heap a da) (ha : s.heap.get? a = some (accObj vs n da)) (hd : s.heap.get? da = some (dictOf ens k)) (he : EnsOk w ens) (hl : vs.length ≤ 400)
    (hnew : s.heap.get? l = some { cls := .type "list", data := .seq us.toArray kl }) (hul : us.length ≤ 400) (hal : a ≠ l) (hdl : a ≠ da)
    (hQ : ∀ h' tk n' t v k', h'.get? a = some (accObj us n' da) → h'.get? da = some (dictOf [⟨PyData.keyHash w.params "_initial_size", .str "_initial_size" t, v⟩] k') → (∀ b o, b ≠ a → b ≠ da → s.heap.get? b = some o → h'.get? b = some o) → Q .none { s with heap := h', toks := tk }) :
    wpAny (model prog w) A (call (.ref 112) [.ref a, .ref l]) Q NoE s := by
  obtain ⟨o, eo, ed⟩ := look112 w
  refine wpAny_call (codeAny_call_def (fd := fdAt 112) (body := bodyAt 112) (binds := [("self", .ref a), ("startval", .ref l)]) ?_ (B.X _ _ eo) ed B.nolimit (codeRec_of B.X rfl) rfl (BindsTo.of_defaults (T := 105) (o := _) rfl (B.X _ _ rfl) rfl rfl rfl) (by decide) (by intro y hy; simp only [List.mem_cons, List.not_mem_nil, or_false] at hy; rcases hy with rfl | rfl <;> rfl) (fun h₀ hns hk => ?_) rfl rfl rfl)
  · have := G.depth
    have : recursionLimit = 1000 := rfl
    omega
  have B0 : HB w h₀ := B.keeps hk
  have hLa : a ≠ s.heap.objs.size := Nat.ne_of_lt (Heap.lt_size ha)
  have hLd : da ≠ s.heap.objs.size := Nat.ne_of_lt (Heap.lt_size hd)
  refine wpAny_execs_cons (wpAny_If (wpAny_isTrue_Compare1 ?_ (by with_unfolding_all rfl)))
  refine wpAny_Name (wpAny_loadName_local rfl rfl hns (v := .ref l) rfl ?_) (by decide)
  refine wpAny_pure (is_ref_none (wpAny_truthy_bool ?_))
  rw [if_neg Bool.false_ne_true]
  refine wpAny_execs_nil ?_
  refine wpAny_execs_cons (wpAny_Assign_Subscript ?_ rfl)
  refine wpAny_Name (wpAny_loadName_local rfl rfl hns (v := .ref l) rfl ?_) (by decide)
  refine wpAny_Name (wpAny_loadName_local rfl rfl hns (v := .ref a) rfl ?_) (by decide)
  refine wpAny_Slice ?_
  rw [evalPart_none]
  refine wpAny_pure (wpAny_pure (wpAny_pure ?_))
  have k₁ : ∀ b o, h₀.get? b = some o → (h₀.push { cls := .type "slice", data := .fields #[.none, .none, .none] }).get? b = some o := fun b o e => Heap.get?_push_of_some _ e
  refine acc_setItem (us := us) (ws := us) (B0.keeps k₁) (k₁ _ _ (hk _ _ ha)) (Heap.IsSliceOf.new ..) .none .none hl (k₁ _ _ (hk _ _ hnew)) hul hal (by omega) ?_ fun h₂ n₂ e₂ ke₂ => ?_
  · have hsb : sliceBounds none none none vs.length = (0, (vs.length : Int), 1) := rfl
    rw [hsb]
    have hm : max (0 : Int) vs.length = vs.length := by omega
    apply Array.ext'
    simp [hm]
  have hns₂ := (hns.keeps k₁).at' fun o e => ke₂ _ o (Ne.symm hLa) e
  have hd₂ : h₂.get? da = some (dictOf ens k) := ke₂ _ _ (Ne.symm hdl) (k₁ _ _ (hk _ _ hd))
  have B2 : HB w h₂ := Bf h₂ fun b o hb hbd e => ke₂ b o hb (k₁ b o (hk b o e))
  refine wpAny_execs_cons (plainObj_wpAny_Assign_Attribute ?_ rfl)
  refine wpAny_Constant_int ?_
  refine wpAny_Name (wpAny_loadName_local rfl rfl hns₂ (v := .ref a) rfl ?_) (by decide)
  refine set_plain (B2.X) (acc_InstAt e₂ hd₂) rfl ?_
  refine acc_setattr (s := { s with heap := h₂, toks := _ }) B2 e₂ hd₂ he fun h₃ tk₃ t₃ k₃ e₃ ke₃ => ?_
  refine wpAny_execs_nil ?_
  exact hQ h₃ tk₃ n₂ t₃ _ k₃ (ke₃ _ _ hdl e₂) e₃ fun b o hb hbd e => ke₃ b o hbd (ke₂ b o hb (k₁ b o (hk b o e)))
end
end Mine
end
section
open PySem PySem.Calls PySem.W PyProof.Rows PySem.Builtin PySem.Builtin.List
set_option Elab.async false
set_option maxRecDepth 100000
namespace Mine
theorem slot_md : Slot "method_descriptor" "__get__" "method_descriptor.__get__" := .of (owner := "method_descriptor") (n := "__get__") (by rw [typeLookup_type, builtinLookup_eq_fast]; kernel_rfl) (by decide +kernel) (by decide +kernel) (by decide +kernel)
  (by first | exact .inl (by decide +kernel) | exact .inr (by decide +kernel)) (by rw [isSubtype_type]; kernel_rfl)
theorem entry_md : entryFor table "method_descriptor.__get__" = some Builtin.«method_descriptor.__get__» := entryFor_of_tree (by kernel_rfl)
theorem args_md (a b c : Value) : argsOk "method_descriptor.__get__" ⟨[a, b, c], []⟩ := by unfold argsOk; kernel_rfl
theorem slot_wd : Slot "wrapper_descriptor" "__get__" "wrapper_descriptor.__get__" := .of (owner := "wrapper_descriptor") (n := "__get__") (by rw [typeLookup_type, builtinLookup_eq_fast]; kernel_rfl) (by decide +kernel) (by decide +kernel) (by decide +kernel)
  (by first | exact .inl (by decide +kernel) | exact .inr (by decide +kernel)) (by rw [isSubtype_type]; kernel_rfl)
theorem entry_wd : entryFor table "wrapper_descriptor.__get__" = some Builtin.«wrapper_descriptor.__get__» := entryFor_of_tree (by kernel_rfl)
theorem args_wd (a b c : Value) : argsOk "wrapper_descriptor.__get__" ⟨[a, b, c], []⟩ := by unfold argsOk; kernel_rfl

abbrev boundB (T : String) (id : String) (x : Addr) : Obj := { cls := .type T, dict := none, data := .fields #[.builtin id, .ref x], slots := #[] }

section
variable {w : World} {A : Around} {E : Value → Shared → Prop} {h : Heap} {g : Array GenState} {d : Drawn} {t : Nat} {os : OsState}
/-- what a descriptor's __get__ makes -/
structure GetsBound (w : World) (T bT id : String) (x : Addr) (C : Addr) (h : Heap) : Prop where
  ty : typeOf (.builtin id) = pure (.type T)
  run : ∀ (A : Around) (E : Value → Shared → Prop) (g : Array GenState) (d : Drawn) (t : Nat) (os : OsState) (Q : Value → Shared → Prop), Q (.ref h.objs.size) ⟨h.push (boundB bT id x), g, d, t, os⟩ →
    wpAny (model prog w) A (holding [.builtin id] (call (.builtin (T ++ ".__get__")) [.builtin id, .ref x, .ref C])) Q E ⟨h, g, d, t, os⟩
/-- an object whose type has a built-in __getattribute__ of its own: the method is what that gives -/
theorem getMethod_own {o : Value} {T ga : String} {b : Builtin} {name : Str} {pl : Sem Bool} {y : Addr} {s' : Shared} {Q : Value × List Value → Shared → Prop}
    (hT : ∀ t', (⟨h, g, d, t', os⟩ : Shared).TypeIs o T) (sl : Slot T "__getattribute__" ga) (en : entryFor table ga = some b)
    (hc : (Manifest.canonical ga != "object.__getattribute__") = true) (hh : onTheHeap (.type T) = false) (ok : argsOk ga ⟨[o, .str name t], []⟩)
    (run : ∀ (A : Around) (R : Fin → Shared → Prop), R (.done (.ret (.ref y))) s' → wpAny (model prog w) A (b ⟨[o, .str name t], []⟩) R (fun _ _ => False) ⟨h, g, d, t + 1, os⟩) (hq : Q (.ref y, []) s') :
    wpAny (model prog w) A (getMethod o name pl) Q E ⟨h, g, d, t, os⟩ := by
  have goes : ∀ B : Around, wpAny (model prog w) B (call (.builtin ga) [o, .str name t]) (fun r st => r = .ref y ∧ st = s') (fun _ _ => False) ⟨h, g, d, t + 1, os⟩ :=
    fun B => wpAny_call_entry sl (hT _) en (run _ _ ⟨_, rfl, rfl, rfl⟩) ok
  have own : wpAny (model prog w) A (getAttrByItsOwn o (.str name t) (.type T) (.builtin ga) true false) (fun r => Q (r, [])) E ⟨h, g, d, t + 1, os⟩ := by
    have e0 : hookBefore (.type T) = pure none := by unfold hookBefore; rw [hh]; rfl
    have e1 : callGetattribute o (.str name t) (.builtin ga) false = call (.builtin ga) [o, .str name t] := by
      unfold callGetattribute boundAndCalled
      rw [sl.bind]; rfl
    unfold getAttrByItsOwn
    rw [e0, e1]
    refine wpAny_bind (wpAny_pure (wpAny_bind (wpAny_attempt (wpAny_holding (wpAny_mono (goes A) (fun r st e => ?_) fun _ _ z => z.elim)))))
    obtain ⟨rfl, rfl⟩ := e
    exact wpAny_pure hq
  have attr : wpAny (model prog w) A (getAttr o name) (fun r => Q (r, [])) E ⟨h, g, d, t, os⟩ := by
    refine wpAny_bind (wpAny_mkText (wpAny_holding (wpAny_bind (wpAny_typeOf (hT _) (wpAny_bind (wpAny_of_eq sl.lookup ?_))))))
    dsimp only
    rw [hh]
    exact own
  refine wpAny_bind (wpAny_specialOf (hT t) sl.lookup ?_)
  dsimp only
  rw [if_pos hc]
  exact wpAny_bind (wpAny_mono attr (fun _ _ q => wpAny_pure q) fun _ _ e => e)
/-- super() that stands for x, of class C, behind the class D -/
abbrev superB (D x C : Addr) : Obj := { cls := .type "super", dict := none, data := .fields #[.ref D, .ref x, .ref C], slots := #[] }
/-- where the search behind D ends at a built-in -/
structure SuperFinds (w : World) (K : Frag) (D x C : Addr) (name : Str) (id : String) (h : Heap) : Prop where
  inK : K.In h
  clear : Looks (model prog w) h (opaqueClassAbove (.ref C)) none
  found : ∃ l, Looks (model prog w) h (mroOf (.ref C)) l ∧ alongIn K name ((l.dropWhile (· != .ref D)).drop 1) = some (some (.builtin id))
  other : x ≠ C
  named : (name == ("__class__" : Str)) = false
theorem super_gives {so D x C : Addr} {id T bT : String} {K : Frag} {name : Str} {tk : Tok} {R : Fin → Shared → Prop} (hso : h.get? so = some (superB D x C)) (S : SuperFinds w K D x C name id h)
    (G : GetsBound w T bT id x C h) (hlk : typeLookup (.type T) "__get__" = pure (some (.builtin (T ++ ".__get__"))))
    (hR : R (.done (.ret (.ref h.objs.size))) ⟨h.push (boundB bT id x), g, d, t, os⟩) : wpAny (model prog w) A (Builtin.«super.__getattribute__» ⟨[.ref so, .str name tk], []⟩) R E ⟨h, g, d, t, os⟩ := by
  obtain ⟨l, hl, hf⟩ := S.found
  have p0 : ∀ {P : Value → Shared → Prop}, P (.ref D) ⟨h, g, d, t, os⟩ → wpAny (model prog w) A (field (.ref so) 0) P E ⟨h, g, d, t, os⟩ := fun q => wpAny_field hso rfl rfl q
  have p1 : ∀ {P : Value → Shared → Prop}, P (.ref x) ⟨h, g, d, t, os⟩ → wpAny (model prog w) A (field (.ref so) 1) P E ⟨h, g, d, t, os⟩ := fun q => wpAny_field hso rfl rfl q
  have p2 : ∀ {P : Value → Shared → Prop}, P (.ref C) ⟨h, g, d, t, os⟩ → wpAny (model prog w) A (field (.ref so) 2) P E ⟨h, g, d, t, os⟩ := fun q => wpAny_field hso rfl rfl q
  have start : (Value.ref C == Value.none || name == ("__class__" : Str)) = false := by rw [S.named]; rfl
  have self : (Value.ref x == Value.ref C) = false := by rw [beq_eq_false_iff_ne]; exact fun e => S.other (by cases e; rfl)
  unfold Builtin.«super.__getattribute__»
  refine wpAny_bind (wpAny_pure ?_)
  rw [if_neg (show ¬ (some name).isNone = true from Bool.false_ne_true)]
  refine wpAny_bind (wpAny_pure ?_)
  refine wpAny_bind (p0 (wpAny_bind (p1 (wpAny_bind (p2 ?_)))))
  rw [if_neg (by rw [start]; exact Bool.false_ne_true)]
  refine wpAny_bind (ks_wpAny_notOpaque S.clear ?_)
  rw [if_neg (show ¬ (Value.ref C == Value.type "module") = true from Bool.false_ne_true)]
  refine wpAny_bind (hl.here (wpAny_bind (ks_forIn_along S.inK (fun _ _ => rfl) rfl ?_ hf)))
  refine wpAny_bind (wpAny_of_eq G.ty (wpAny_bind (wpAny_of_eq hlk ?_)))
  rw [self]
  exact wpAny_bind (G.run _ _ _ _ _ _ _ (wpAny_bind (wpAny_pure (wpAny_pure (wpAny_pure hR)))))
/-- a method of super() that is a built-in -/
theorem getMethod_super_b {so D x C : Addr} {id T bT : String} {K : Frag} {name : Str} {pl : Sem Bool} {Q : Value × List Value → Shared → Prop} (hso : h.get? so = some (superB D x C)) (S : SuperFinds w K D x C name id h)
    (G : GetsBound w T bT id x C h) (hlk : typeLookup (.type T) "__get__" = pure (some (.builtin (T ++ ".__get__")))) (hq : Q (.ref h.objs.size, []) ⟨h.push (boundB bT id x), g, d, t + 1, os⟩) :
    wpAny (model prog w) A (getMethod (.ref so) name pl) Q E ⟨h, g, d, t, os⟩ :=
  getMethod_own (fun _ => ⟨_, hso, rfl⟩) F.ks_slot_super_ga F.ks_entry_super_ga F.ks_canon_super_ga rfl (F.ks_gaArgs_super _ _) (fun _ _ => super_gives hso S G hlk) hq
end
theorem type_ll : typeOf (.builtin "list.__len__") = pure (.type "wrapper_descriptor") := by show builtinType _ = _; rw [builtinType_eq_fast]; kernel_rfl
theorem type_li : typeOf (.builtin "list.__init__") = pure (.type "wrapper_descriptor") := by show builtinType _ = _; rw [builtinType_eq_fast]; kernel_rfl
theorem owner_lp : (kfb_private% "ownerAndName") "list.pop" = ("list", "pop") := by first | decide +kernel | kernel_rfl
theorem owner_ll : (kfb_private% "ownerAndName") "list.__len__" = ("list", "__len__") := by first | decide +kernel | kernel_rfl
theorem owner_li : (kfb_private% "ownerAndName") "list.__init__" = ("list", "__init__") := by first | decide +kernel | kernel_rfl
section
variable {w : World} {A : Around} {E : Value → Shared → Prop} {a da : Addr} {vs : List Value} {n : Nat} {h : Heap}
theorem gets_pop (B : HB w h) (ha : h.get? a = some (accObj vs n da)) : GetsBound w "method_descriptor" "builtin_function_or_method" "list.pop" a 130 h where
  ty := PySem.F.type_list_pop
  run A E g d t os Q hq := by
    refine wpAny_holding ?_
    refine wpAny_call_entry slot_md (show Shared.TypeIs _ _ _ from PySem.F.type_list_pop) entry_md ?_ (args_md _ _ _)
    have L := acc_inst B ha
    unfold Builtin.«method_descriptor.__get__»
    refine wpAny_bind (wpAny_of_eq (a := (.builtin "list.pop", some (.ref a), some (.ref 130))) (by kernel_rfl) ?_)
    dsimp only
    rw [if_neg (by decide +kernel)]
    refine wpAny_bind (wpAny_bind ?_)
    refine wpAny_of_eq (a := (("pop" : PySem.Str), .type "list")) (by kernel_rfl) ?_
    dsimp only
    refine wpAny_bind (L.here ?_)
    rw [if_neg (by decide)]
    refine wpAny_pure ?_
    unfold newFields
    exact wpAny_bind (wpAny_newObj_type (wpAny_pure ⟨_, rfl, hq⟩) (by size_fits))
theorem gets_len (B : HB w h) (ha : h.get? a = some (accObj vs n da)) : GetsBound w "wrapper_descriptor" "method-wrapper" "list.__len__" a 130 h where
  ty := type_ll
  run A E g d t os Q hq := by
    refine wpAny_holding ?_
    refine wpAny_call_entry slot_wd (show Shared.TypeIs _ _ _ from type_ll) entry_wd ?_ (args_wd _ _ _)
    have L := acc_inst B ha
    unfold Builtin.«wrapper_descriptor.__get__»
    refine wpAny_bind (wpAny_of_eq (a := (.builtin "list.__len__", some (.ref a), some (.ref 130))) (by kernel_rfl) ?_)
    dsimp only
    refine wpAny_bind (wpAny_bind ?_)
    refine wpAny_of_eq (a := (("__len__" : PySem.Str), .type "list")) (by kernel_rfl) ?_
    dsimp only
    refine wpAny_bind (L.here ?_)
    rw [if_neg (by decide)]
    refine wpAny_pure ?_
    unfold newFields
    exact wpAny_bind (wpAny_newObj_type (wpAny_pure ⟨_, rfl, hq⟩) (by size_fits))
theorem gets_init (B : HB w h) (ha : h.get? a = some (accObj vs n da)) : GetsBound w "wrapper_descriptor" "method-wrapper" "list.__init__" a 130 h where
  ty := type_li
  run A E g d t os Q hq := by
    refine wpAny_holding ?_
    refine wpAny_call_entry slot_wd (show Shared.TypeIs _ _ _ from type_li) entry_wd ?_ (args_wd _ _ _)
    have L := acc_inst B ha
    unfold Builtin.«wrapper_descriptor.__get__»
    refine wpAny_bind (wpAny_of_eq (a := (.builtin "list.__init__", some (.ref a), some (.ref 130))) (by kernel_rfl) ?_)
    dsimp only
    refine wpAny_bind (wpAny_bind ?_)
    refine wpAny_of_eq (a := (("__init__" : PySem.Str), .type "list")) (by kernel_rfl) ?_
    dsimp only
    refine wpAny_bind (L.here ?_)
    rw [if_neg (by decide)]
    refine wpAny_pure ?_
    unfold newFields
    exact wpAny_bind (wpAny_newObj_type (wpAny_pure ⟨_, rfl, hq⟩) (by size_fits))
end
end Mine
end
section
open PySem PySem.Calls PySem.W PyProof.Rows PySem.Builtin PySem.Builtin.List
set_option Elab.async false
set_option maxRecDepth 100000
namespace Mine
/-- a method that asks for super() -/
structure SuperFn (w : World) (f : Addr) : Prop where
  look : ∃ o, (KF w).lookup f = some o ∧ o.data = .func (fdAt f)
  kind : (fdAt f).scope.kind = .function
  ks : (fdAt f).scope.names.lookup ("super" : Str) = some .globalImplicit
  kc : (fdAt f).scope.names.lookup ("__class__" : Str) = some .free
  ka : (fdAt f).scope.names.lookup ("self" : Str) = some .local
  cell : ∀ L, (callEnv (fdAt f) L f).cells.lookup ("__class__" : Str) = some 54
  head : ∃ ar, ((fdAt f).params.posonlyargs ++ (fdAt f).params.args).head? = some ar ∧ ar.arg = ("self" : Str)
  code : ∃ cc oc vs file tf, (fdAt f).code = .ref cc ∧ (KF w).lookup cc = some oc ∧ oc.data = .fields vs ∧ vs[2]? = some (.str file tf) ∧ ((prog.main.file : Str) == file) = true
  glob : (fdAt f).globals = mainGlobals
  blt : (fdAt f).builtins = builtinsNs
theorem sf127 (w : World) : SuperFn w 127 := ⟨⟨_, rfl, rfl⟩, rfl, rfl, rfl, rfl, fun _ => rfl, ⟨_, rfl, rfl⟩, ⟨_, _, _, _, _, rfl, rfl, rfl, rfl, rfl⟩, rfl, rfl⟩
theorem sf90 (w : World) : SuperFn w 90 := ⟨⟨_, rfl, rfl⟩, rfl, rfl, rfl, rfl, fun _ => rfl, ⟨_, rfl, rfl⟩, ⟨_, _, _, _, _, rfl, rfl, rfl, rfl, rfl⟩, rfl, rfl⟩
theorem sf67 (w : World) : SuperFn w 67 := ⟨⟨_, rfl, rfl⟩, rfl, rfl, rfl, rfl, fun _ => rfl, ⟨_, rfl, rfl⟩, ⟨_, _, _, _, _, rfl, rfl, rfl, rfl, rfl⟩, rfl, rfl⟩
section
variable {w : World} {A : Around} {E : Value → Shared → Prop} {s : Shared} {a da : Addr} {vs : List Value} {n k : Nat} {ens : List DictEntry}
/-- super() in such a method -/
theorem acc_superBase {f L : Addr} {body : List Stmt} {m : Str → Option Value} {p0 p1 : Pos} {attr : Str} {whole : Sem Value} {Q : Value → Shared → Prop} (F : SuperFn w f) (B : HB w s.heap) (ha : s.heap.get? a = some (accObj vs n da))
    (hns : s.heap.Ns L m) (hm : m "self" = some (.ref a)) (hat : (attr == ("__class__" : Str)) = false)
    (hQ : ∀ h', h'.get? s.heap.objs.size = some (ks_superObj 130 a 130) → (∀ b o, s.heap.get? b = some o → h'.get? b = some o) → Q (.ref s.heap.objs.size) { s with heap := h' }) :
    _root_.PySem.wpAt (model prog w) A (.func body (callEnv (fdAt f) L f)) (attributeBase (.Call (.Name "super" p0) [] [] p1) attr (callEnv (fdAt f) L f) whole) Q E s := by
  have X := B.X
  obtain ⟨o, eo, ed⟩ := F.look
  obtain ⟨ar, ea, ear⟩ := F.head
  obtain ⟨cc, oc, cvs, file, tf, c1, c2, c3, c4, c5⟩ := F.code
  obtain ⟨oD, hD1, cdD, hD2⟩ : ∃ oD, (KF w).lookup 130 = some oD ∧ ∃ cd, oD.data = .cls cd := ⟨_, rfl, _, rfl⟩
  obtain ⟨o54, h54, d54⟩ : ∃ o, (KF w).lookup 54 = some o ∧ o.data = .cell (some (.ref 130)) := ⟨_, rfl, rfl⟩
  refine ks_wpAt_super_base (env := callEnv (fdAt f) L f) F.ks F.kc hat rfl (X _ _ eo) ed ea c1 (X _ _ c2) c3 c4 c5 (by rfl) ?_
  obtain ⟨mg, mb, g, b, hb⟩ := B.g
  refine ks_loadName_global F.kind F.ks (loadGlobal_builtin (v := .type "super") (by show s.heap.Ns (fdAt f).globals _; rw [F.glob]; exact g) (mg_none_of X g (by rfl)) (by show s.heap.Ns (fdAt f).builtins _; rw [F.blt]; exact b) ((hb _ (by decide)).trans (by decide +kernel)) ⟨rfl, ?_⟩)
  refine wpAny_loadName_free F.kind F.kc (F.cell L) ⟨_, X _ _ h54, d54⟩ ?_
  rw [ear]
  refine wpAny_loadName_local F.kind F.ka hns hm ?_
  obtain ⟨hh, g, d, t, os⟩ := s
  refine ks_wpAny_isType_cls (X _ _ hD1) hD2 ⟨rfl, ?_⟩
  refine ks_wpAny_call_super (C := 130) (X _ _ hD1) hD2 ha rfl (fun c e => by cases e) (looks_mroIn X rfl) (fun h' e k => hQ h' e k)
/-- a call of a bound built-in -/
theorem callWith_bnd {M : Model} {pos : Pos} {u x : Addr} {T id : String} {first : List Value} {args : List (Bool × Sem Value)} {Q : Value → Shared → Prop} (hplain : args.any (·.1) = false) (hT : T = "builtin_function_or_method" ∨ T = "method-wrapper")
    (h : wpAny M A (evalArgs (.ref u) true args []) (fun x' s₁ => s₁.heap.get? u = some (boundB T id x) ∧ wpAny M A (call (.ref u) (first ++ x'.pos) x'.kw) Q E s₁) E s) : wpAny M A (callWith pos (.ref u) first args []) Q E s := by
  refine callWith_of (P := fun hh => hh.get? u = some (boundB T id x)) (by rw [hplain]; rfl) (fun hh e => ⟨.machine, .inr (.inl rfl), (Looks.ld (part := none) e).andThen ?_⟩) h
  rcases hT with rfl | rfl <;> exact .now
theorem call_bnd {u x : Addr} {T id : String} {args : List Value} {b : Builtin} {Q : Value → Shared → Prop} (hT : T = "builtin_function_or_method" ∨ T = "method-wrapper") (hu : s.heap.get? u = some (boundB T id x))
    (hc : ∀ (Q' : Unit → Shared → Prop) (E' : Value → Shared → Prop), Q' () s → wpAny (model prog w) A.in1 (checkBoundCall id ⟨.ref x :: args, []⟩) Q' E' s) (pl : plainId id = true) (en : entryFor table id = some b)
    (h : wpAny (model prog w) A.in1 (b ⟨.ref x :: args, []⟩) (fun fin s' => ∃ v, fin = .done (.ret v) ∧ Q v s') E s) :
    wpAny (model prog w) A (call (.ref u) args) Q E s := by
  refine wpAny_call (codeAny_of_tree ?_)
  show wpAny _ A.in1 (callAny (.ref u) ⟨args, []⟩) _ _ s
  simp only [callAny]
  refine wpAny_bind (wpAny_load hu ?_)
  have e1 : (Value.type T == Value.type "method" || Value.type T == Value.type "builtin_function_or_method" || Value.type T == Value.type "method-wrapper") = true := by rcases hT with rfl | rfl <;> decide
  have e2 : (Value.type T != Value.type "method") = true := by rcases hT with rfl | rfl <;> decide
  simp only [e1, e2, if_true]
  refine wpAny_bind (hc _ _ (wpAny_bind (wpAny_pure (wpAny_pure ⟨plainId_quiet pl _, codeAny_builtin en ?_⟩))))
  rw [Around.under_plainId pl _]
  exact wpAny_mono h (fun fin s' h' => by obtain ⟨v, rfl, hv⟩ := h'; exact hv) fun _ _ z => z
theorem chk_slot {id : String} {x : Value} {r : List Value} (hk : builtinKind id = some .slot) (ha : argsOk id ⟨x :: r, []⟩) : checkBoundCall id ⟨x :: r, []⟩ = pure () := by
  unfold checkBoundCall
  cases hsig : Manifest.signature? id with
  | none => rfl
  | some sig =>
    simp only [argsOk, hsig] at ha
    have h2 : Bind.checkArgs id sig ⟨x :: r, []⟩ = pure () := ha
    simp only [hk]
    exact h2
theorem sig_pop (a : Addr) : ∃ sig, Manifest.signature? "list.pop" = some sig ∧ Bind.checkArgs "list.pop" { sig with full := toString (Str.ofString "_Accumulator").toString ++ toString "." ++ toString (Bind.lastOf "list.pop") } ⟨[.ref a], []⟩ = pure () := by
  have h : (Manifest.signature? "list.pop").isSome = true := by kernel_rfl
  refine ⟨(Manifest.signature? "list.pop").get h, (Option.some_get h).symm, ?_⟩
  kernel_rfl
theorem chk_pop {Q : Unit → Shared → Prop} (B : HB w s.heap) (ha : s.heap.get? a = some (accObj vs n da)) (h : Q () s) : wpAny (model prog w) A (checkBoundCall "list.pop" ⟨[.ref a], []⟩) Q E s := by
  have X := B.X
  obtain ⟨sig, hs, hc⟩ := sig_pop a
  have hk : builtinKind "list.pop" = some .method := by decide +kernel
  have hnm : Looks (model prog w) s.heap (isInstance (.ref a) (.type "module")) false := (acc_type ha).andThen (looks_mroIn X rfl)
  obtain ⟨cd, hcd, hq⟩ : ∃ cd, clsIn (KF w) 130 = some cd ∧ cd.qualname = Str.ofString "_Accumulator" := ⟨_, rfl, rfl⟩
  unfold checkBoundCall
  rw [hs]
  simp only [hk]
  rw [if_neg (by decide)]
  refine wpAny_bind (hnm.here ?_)
  rw [if_neg (by decide +kernel)]
  refine wpAny_bind ?_
  obtain ⟨hh, g, d, t, os⟩ := s
  refine ks_wpAny_isType_inst ha (fun c e => by cases e) ?_
  rw [if_neg (by decide)]
  refine wpAny_bind ((acc_type ha).here ?_)
  dsimp only
  refine wpAny_bind ((looks_clsIn X hcd).here ?_)
  refine wpAny_bind ((looks_typeIn X (show typeIn (KF w) (.ref 130) = some (.type "type") from rfl)).here ?_)
  rw [if_pos (by decide), hq, hc]
  exact wpAny_pure h
end
section
variable {w : World} {A : Around} {E : Value → Shared → Prop} {s : Shared} {a da : Addr} {vs : List Value} {n k : Nat} {ens : List DictEntry}
theorem body_len {Q : Fin → Shared → Prop} (ha : s.heap.get? a = some (accObj vs n da)) (hQ : Q (.done (.ret (.int vs.length s.toks))) { s with toks := s.toks + 1 }) :
    wpAny (model prog w) A (Builtin.«list.__len__» ⟨[.ref a], []⟩) Q E s := by
  show wpAny _ _ (seqSize a >>= fun k => retInt k) _ _ s
  unfold seqSize
  refine wpAny_bind (wpAny_bind (wpAny_loadPart ha (wpAny_pure ?_)))
  exact wpAny_bind (wpAny_mkInt (wpAny_pure hQ))
theorem body_pop {x : Value} {Q : Fin → Shared → Prop} (ha : s.heap.get? a = some (accObj (vs ++ [x]) n da)) (hl : vs.length ≤ 999)
    (hQ : ∀ h' n', h'.get? a = some (accObj vs n' da) → (∀ b o, b ≠ a → s.heap.get? b = some o → h'.get? b = some o) → Q (.done (.ret x)) { s with heap := h' }) :
    wpAny (model prog w) A (Builtin.«list.pop» ⟨[.ref a], []⟩) Q E s := by
  unfold Builtin.«list.pop»
  refine wpAny_bind (wpAny_pure ?_)
  dsimp only
  refine wpAny_bind (wpAny_pure ?_)
  refine wpAny_ite (KPc.ite_no Bool.false_ne_true ?_)
  refine wpAny_bind ?_
  unfold listItems
  refine wpAny_bind (wpAny_seqItems ha rfl (wpAny_pure ?_))
  rw [if_neg (by simp)]
  have e1 : (seqIndex? (-1) (vs ++ [x]).toArray.size).bind (fun k => (vs ++ [x]).toArray[k]?.map (k, ·)) = some (vs.length, x) := by
    have : seqIndex? (-1) (vs ++ [x]).toArray.size = some vs.length := by
      unfold seqIndex?
      simp
      omega
    rw [this]
    simp
  rw [e1]
  dsimp only
  refine wpAny_bind (m := updateSeq a _) (acc_update (us := vs) ha ?_ (by simp; omega) (by omega) fun h' n' h1 h2 => wpAny_pure (hQ h' n' h1 h2))
  apply Array.ext'
  simp [Array.eraseIdxIfInBounds, List.eraseIdx_append_of_length_le]
theorem body_init {Q : Fin → Shared → Prop} (ha : s.heap.get? a = some (accObj [] n da))
    (hQ : ∀ h' n', h'.get? a = some (accObj [] n' da) → (∀ b o, b ≠ a → s.heap.get? b = some o → h'.get? b = some o) → Q (.done (.ret .none)) { s with heap := h' }) :
    wpAny (model prog w) A (Builtin.«list.__init__» ⟨[.ref a], []⟩) Q E s := by
  unfold Builtin.«list.__init__»
  dsimp only
  refine wpAny_ite (KPc.ite_no (by decide) ?_)
  refine wpAny_ite (KPc.ite_no (by decide) ?_)
  refine wpAny_bind ?_
  unfold listItems
  refine wpAny_bind (wpAny_seqItems ha rfl (wpAny_pure ?_))
  refine wpAny_bind (m := updateSeq a _) (acc_update (us := []) ha (by simp) (by simp) (by simp) fun h' n' h1 h2 => ?_)
  refine wpAny_bind (wpAny_letGo (wpAny_pure (hQ h' n' h1 h2)))
end
end Mine
end
section
open PySem PySem.Calls PySem.W PyProof.Rows PySem.Builtin PySem.Builtin.List
set_option Elab.async false
set_option maxRecDepth 100000
namespace Mine
section
variable {w : World} {A : Around} {s : Shared} {a da : Addr} {vs : List Value} {n k : Nat} {ens : List DictEntry}
/-- super().m() for a built-in m of list -/
theorem acc_superCall {f L : Addr} {body : List Stmt} {m : Str → Option Value} {p0 p1 p2 p3 : Pos} {name : Str} {T bT id : String} {b : Builtin} {E Q} (F : SuperFn w f) (B : HB w s.heap) (ha : s.heap.get? a = some (accObj vs n da))
    (hns : s.heap.Ns L m) (hm : m "self" = some (.ref a)) (hat : (name == ("__class__" : Str)) = false)
    (hG : ∀ h, HB w h → h.get? a = some (accObj vs n da) → GetsBound w T bT id a 130 h) (hlk : typeLookup (.type T) "__get__" = pure (some (.builtin (T ++ ".__get__")))) (hal : alongIn (KF w) name [.type "list", .type "object"] = some (some (.builtin id)))
    (hT : bT = "builtin_function_or_method" ∨ bT = "method-wrapper")
    (hc : ∀ (A : Around) (s : Shared) (Q' : Unit → Shared → Prop) (E' : Value → Shared → Prop), HB w s.heap → s.heap.get? a = some (accObj vs n da) → Q' () s → wpAny (model prog w) A (checkBoundCall id ⟨[.ref a], []⟩) Q' E' s) (pl : plainId id = true) (en : entryFor table id = some b)
    (he : eval (.Call (.Attribute (.Call (.Name "super" p0) [] [] p1) name p2) [] [] p3) (callEnv (fdAt f) L f) = (do
      let ov ← attributeBase (.Call (.Name "super" p0) [] [] p1) name (callEnv (fdAt f) L f) (eval (.Call (.Name "super" p0) [] [] p1) (callEnv (fdAt f) L f))
      standAt p2.atName
      let (g, first) ← holding [ov] (getMethod ov name (pure false))
      callWith p3 g first (backTo p3 (starEach [] (callEnv (fdAt f) L f))) []))
    (h : ∀ A s', HB w s'.heap → s'.heap.get? a = some (accObj vs n da) → (∃ hh tk, s' = { s with heap := hh, toks := tk }) → (∀ b o, s.heap.get? b = some o → s'.heap.get? b = some o) → wpAny (model prog w) A (b ⟨[.ref a], []⟩) (fun fin s'' => ∃ v, fin = .done (.ret v) ∧ Q v s'') E s') :
    _root_.PySem.wpAt (model prog w) A (.func body (callEnv (fdAt f) L f)) (eval (.Call (.Attribute (.Call (.Name "super" p0) [] [] p1) name p2) [] [] p3) (callEnv (fdAt f) L f)) Q E s := by
  refine ks_wpAt_MethodCall (acc_superBase F B ha hns hm hat fun h₁ e₁ k₁ => ?_) he
  have B1 : HB w h₁ := B.keeps k₁
  obtain ⟨cd, hcd, hmro⟩ : ∃ cd, clsIn (KF w) 130 = some cd ∧ cd.mro = [.ref 130, .type "list", .type "object"] := ⟨_, rfl, rfl⟩
  have hCm : Looks (model prog w) h₁ (mroOf (.ref 130)) cd.mro := (looks_clsIn B1.X hcd).andThen .now
  have hxC : a ≠ 130 := by
    rintro rfl
    obtain ⟨o, h1, cd', h2⟩ : ∃ o, (KF w).lookup 130 = some o ∧ ∃ cd, o.data = .cls cd := ⟨_, rfl, _, rfl⟩
    have := (B.X _ _ h1).symm.trans ha
    cases this
    cases h2
  obtain ⟨hh, g, d, t, os⟩ := s
  refine getMethod_super_b e₁ ⟨B1.X, looks_opaque B1.X (by rfl), ⟨cd.mro, hCm, by rw [hmro]; exact hal⟩, hxC, hat⟩ (hG _ B1 (k₁ _ _ ha)) hlk ?_
  have k₂ : ∀ b o, h₁.get? b = some o → (h₁.push (boundB bT id a)).get? b = some o := fun b o e => Heap.get?_push_of_some _ e
  have hb : (h₁.push (boundB bT id a)).get? h₁.objs.size = some (boundB bT id a) := Heap.get?_push_size _ rfl
  have B2 := B1.keeps k₂
  have ha2 := k₂ _ _ (k₁ _ _ ha)
  show wpAny _ _ (callWith _ (.ref h₁.objs.size) [] [] []) _ _ _
  refine callWith_bnd rfl hT (evalArgs_nil3 ⟨hb, ?_⟩)
  refine call_bnd hT hb (fun Q' E' q => hc _ _ Q' E' B2 ha2 q) pl en ?_
  exact h _ _ B2 ha2 ⟨_, _, rfl⟩ fun b o e => k₂ b o (k₁ b o e)
theorem look127 (w : World) : ∃ o, (KF w).lookup 127 = some o ∧ o.data = .func (fdAt 127) := ⟨_, rfl, rfl⟩
/-- self.part_count() -/
theorem acc_partCount {Q : Value → Shared → Prop} (G : A.depth + 1 ≤ 900) (B : HB w s.heap) (ha : s.heap.get? a = some (accObj vs n da))
    (hQ : ∀ h' tk t, (∀ b o, s.heap.get? b = some o → h'.get? b = some o) → Q (.int vs.length t) { s with heap := h', toks := tk }) :
    wpAny (model prog w) A (call (.ref 127) [.ref a]) Q NoE s := by
  obtain ⟨o, eo, ed⟩ := look127 w
  refine wpAny_call (ks_codeAny_call_defAt (fd := fdAt 127) (body := bodyAt 127) (binds := [("self", .ref a)]) ?_ (B.X _ _ eo) ed B.nolimit (codeRec_of B.X rfl) rfl (BindsTo.of_eq rfl) (by decide) (by intro y hy; simp only [List.mem_cons, List.not_mem_nil, or_false] at hy; subst hy; rfl) (fun h₀ hns hk => ?_) rfl rfl rfl)
  · have : recursionLimit = 1000 := rfl
    omega
  refine ks_wpAt_execs_cons (ks_wpAt_Return_some ?_)
  refine acc_superCall (s := { s with heap := h₀, toks := s.toks + 1 }) (sf127 w) (B.keeps hk) (hk _ _ ha) hns rfl (by decide) (T := "wrapper_descriptor") (bT := "method-wrapper") (id := "list.__len__") (fun h b e => gets_len b e) slot_wd.lookup rfl (.inr rfl)
    (fun A s Q' E' _ _ q => by rw [chk_slot (by decide +kernel) (PySem.F.args_list_len_1 _)]; exact wpAny_pure q) PySem.F.slot_list_len.plain PySem.F.entry_list_len rfl (fun A s' B' ha' hs' k' => ?_)
  obtain ⟨hh, tk, rfl⟩ := hs'
  exact body_len ha' ⟨_, rfl, hQ _ _ _ fun b o e => k' b o (hk b o e)⟩
end
end Mine
end
section
open PySem PySem.Calls PySem.W PyProof.Rows PySem.Builtin PySem.Builtin.List
set_option Elab.async false
set_option maxRecDepth 100000
namespace Mine
section
variable {w : World} {A : Around} {s : Shared} {a da : Addr} {vs : List Value} {n k : Nat} {ens : List DictEntry}
theorem look90 (w : World) : ∃ o, (KF w).lookup 90 = some o ∧ o.data = .func (fdAt 90) := ⟨_, rfl, rfl⟩
/-- rows.pop() -/
theorem acc_popM {x : Value} {Q : Value → Shared → Prop} (G : Room 2 A) (B : HB w s.heap) (ha : s.heap.get? a = some (accObj (vs ++ [x]) n da)) (hd : s.heap.get? da = some (dictOf ens k)) (he : EnsOk w ens) (hl : vs.length ≤ 400)
    (hQ : ∀ h' tk n', h'.get? a = some (accObj vs n' da) → (∀ b o, b ≠ a → s.heap.get? b = some o → h'.get? b = some o) → Q x { s with heap := h', toks := tk }) :
    wpAny (model prog w) A (call (.ref 90) [.ref a]) Q NoE s := by
  obtain ⟨o, eo, ed⟩ := look90 w
  refine wpAny_call (ks_codeAny_call_defAt (fd := fdAt 90) (body := bodyAt 90) (binds := [("self", .ref a)]) ?_ (B.X _ _ eo) ed B.nolimit (codeRec_of B.X rfl) rfl (BindsTo.of_eq rfl) (by decide) (by intro y hy; simp only [List.mem_cons, List.not_mem_nil, or_false] at hy; subst hy; rfl) (fun h₀ hns hk => ?_) rfl rfl rfl)
  · have := G.depth
    have : recursionLimit = 1000 := rfl
    omega
  have B0 : HB w h₀ := B.keeps hk
  refine ks_wpAt_execs_cons (ks_wpAt_If (wpAt_of_wpAny (wpAny_isTrue_Compare1 ?_ (by with_unfolding_all rfl))))
  refine meth_rule ?_ rfl
  refine wpAny_Name (wpAny_loadName_local rfl rfl hns (v := .ref a) rfl ?_) (by decide)
  refine acc_getMethod (s := { s with heap := h₀, toks := s.toks + 1 }) B0 (hk _ _ ha) (hk _ _ hd) he (f := .ref 127) (tf := .type "function") rfl rfl rfl (by decide +kernel) (ga130 w) (g130 w) ?_
  refine wpAny_mono (E := NoE) ?_ (fun _ _ z => z) (fun _ _ z => z.elim)
  show wpAny _ _ (callWith _ (.ref 127) [.ref a] [] []) _ _ _
  refine handed_fn (f := 127) (fun w => let ⟨o, a, b⟩ := look127 w; ⟨o, _, a, b⟩) w _ _ _ _ _ _ rfl (evalArgs_nil3 (s := { s with heap := h₀, toks := s.toks + 1 }) ⟨B0, ?_⟩)
  refine acc_partCount (s := { s with heap := h₀, toks := s.toks + 1 }) (by have := G.depth; show A.depth + 1 + 1 ≤ 900; omega) B0 (hk _ _ ha) fun h₁ tk t k₁ => ?_
  refine wpAny_Constant_int ?_
  have B1 : HB w h₁ := B0.keeps k₁
  refine eq_int (wpAny_truthy_bool ?_)
  have hf : ¬ ((((vs ++ [x]).length : Int) == (0 : Int)) = true) := by simp; omega
  rw [if_neg hf]
  rw [execs_nil]
  refine wpAt_of_wpAny (wpAny_pure ?_)
  refine ks_wpAt_execs_cons (ks_wpAt_Return_some ?_)
  refine acc_superCall (sf90 w) B1 (k₁ _ _ (hk _ _ ha)) (hns.keeps k₁) rfl (by decide) (T := "method_descriptor") (bT := "builtin_function_or_method") (id := "list.pop") (fun h b e => gets_pop b e) slot_md.lookup rfl (.inl rfl)
    (fun A s Q' E' b e q => chk_pop b e q) PySem.F.slot_list_pop.plain PySem.F.entry_list_pop rfl (fun A s' B' ha' hs' k' => ?_)
  obtain ⟨hh, tk, rfl⟩ := hs'
  exact body_pop ha' (by omega) fun h' n' e' k'' => ⟨_, rfl, hQ _ _ _ e' fun b o hb e => k'' b o hb (k' b o (k₁ b o (hk b o e)))⟩
theorem look67 (w : World) : ∃ o, (KF w).lookup 67 = some o ∧ o.data = .func (fdAt 67) := ⟨_, rfl, rfl⟩
/-- _Accumulator.__init__ -/
theorem acc_init {R : Result → Shared → Prop} (G : A.depth + 1 ≤ 900) (B : HB w s.heap) (Bf : HBoff w s.heap a da) (ha : s.heap.get? a = some (accObj [] n da)) (hd : s.heap.get? da = some (dictOf ens k)) (he : EnsOk w ens) (hdl : a ≠ da)
    (hQ : ∀ h' tk n' t v k', h'.get? a = some (accObj [] n' da) → h'.get? da = some (dictOf [⟨PyData.keyHash w.params "_initial_size", .str "_initial_size" t, v⟩] k') → (∀ b o, b ≠ a → b ≠ da → s.heap.get? b = some o → h'.get? b = some o) → R (.ok (.ret .none)) { s with heap := h', toks := tk }) :
    codeAny (model prog w) A (.call (.ref 67) ⟨[.ref a], []⟩) R s := by
  obtain ⟨o, eo, ed⟩ := look67 w
  obtain ⟨t0, hb0⟩ : ∃ t0, BindsTo s (fdAt 67) ⟨[.ref a], []⟩ [("self", .ref a), ("initial_size", .int 0 t0)] := ⟨_, BindsTo.of_defaults (T := 59) (o := _) rfl (B.X _ _ rfl) rfl rfl rfl⟩
  refine ks_codeAny_call_defAt (fd := fdAt 67) (body := bodyAt 67) (binds := [("self", .ref a), ("initial_size", .int 0 t0)]) ?_ (B.X _ _ eo) ed B.nolimit (codeRec_of B.X rfl) rfl hb0 (by decide) (by intro y hy; simp only [List.mem_cons, List.not_mem_nil, or_false] at hy; rcases hy with rfl | rfl <;> rfl) (fun h₀ hns hk => ?_) rfl rfl rfl
  · have : recursionLimit = 1000 := rfl
    omega
  have hLa : a ≠ s.heap.objs.size := Nat.ne_of_lt (Heap.lt_size ha)
  have hLd : da ≠ s.heap.objs.size := Nat.ne_of_lt (Heap.lt_size hd)
  have B0 : HB w h₀ := B.keeps hk
  refine ks_wpAt_execs_cons (wpAt_of_wpAny (plainObj_wpAny_Assign_Attribute ?_ rfl))
  refine wpAny_Name (wpAny_loadName_local rfl rfl hns (v := .int 0 t0) rfl ?_) (by decide)
  refine wpAny_Name (wpAny_loadName_local rfl rfl hns (v := .ref a) rfl ?_) (by decide)
  refine set_plain B0.X (acc_InstAt (hk _ _ ha) (hk _ _ hd)) rfl ?_
  refine acc_setattr (s := { s with heap := h₀, toks := _ }) B0 (hk _ _ ha) (hk _ _ hd) he fun h₃ tk₃ t₃ k₃ e₃ ke₃ => ?_
  have B3 : HB w h₃ := Bf h₃ fun b o hb hbd e => ke₃ b o hbd (hk b o e)
  have hns₃ := hns.at' fun o e => ke₃ _ o (Ne.symm hLd) e
  have a3 := ke₃ _ _ hdl (hk _ _ ha)
  refine ks_wpAt_execs_cons (ks_wpAt_Expr_any ?_ rfl rfl)
  refine acc_superCall (s := { s with heap := h₃, toks := _ }) (sf67 w) B3 a3 hns₃ rfl (by decide) (T := "wrapper_descriptor") (bT := "method-wrapper") (id := "list.__init__") (fun h b e => gets_init b e) slot_wd.lookup rfl (.inr rfl)
    (fun A s Q' E' _ _ q => by rw [chk_slot (by decide +kernel) (PySem.F.args_list_init_1 _)]; exact wpAny_pure q) PySem.F.slot_list_init.plain PySem.F.entry_list_init rfl (fun A s' B' ha' hs' k' => ?_)
  obtain ⟨hh, tk, rfl⟩ := hs'
  refine body_init ha' fun h' n' e' k'' => ⟨_, rfl, ?_⟩
  refine wpAt_of_wpAny (wpAny_execs_nil ?_)
  exact hQ _ _ _ _ _ _ e' (k'' _ _ (Ne.symm hdl) (k' _ _ e₃)) fun b o hb hbd e => k'' b o hb (k' b o (ke₃ b o hbd (hk b o e)))
end
end Mine
end
section
open PySem PySem.Calls PySem.W PyProof.Rows PySem.Builtin PySem.Builtin.List
set_option Elab.async false
set_option maxRecDepth 100000
namespace Mine
structure MakesL (M : Model) (h : Heap) : Prop where
  obj : ∃ oc od cd sl, h.get? 130 = some ⟨oc, od, .cls cd, sl⟩ ∧ cd.hasDel = false ∧ cd.mro.isEmpty = false
  isT : Looks M h (isType (.ref 130)) true
  made : Looks M h (Bind.madeBy (.ref 130)) (some "list.__new__")
  base : Looks M h (Bind.staticBase (.ref 130)) (.ref 130)
  self : Looks M h (isSubtype (.ref 130) (.ref 130)) true
  top : Looks M h (isSubtype (.ref 130) (.type "list")) true
  call : Looks M h (specialOf (.ref 130) "__call__") (some (.builtin "type.__call__"))
  typ : Looks M h (isInstance (.ref 130) (.type "type")) true
theorem makesL {w : World} {h : Heap} (X : (KF w).In h) : MakesL (model prog w) h := by
  obtain ⟨oc, od, cd, sl, ho, e2, e4, e3, hl⟩ : ∃ oc od cd sl, (KF w).lookup 130 = some ⟨oc, od, .cls cd, sl⟩ ∧ cd.hasDel = false ∧ cd.mro.isEmpty = false ∧ (sl.toList[4]?).join = some (.builtin "list.__new__") ∧ cd.mro = [.ref 130, .type "list", .type "object"] := ⟨_, _, _, _, rfl, rfl, rfl, rfl, rfl⟩
  have hc : clsIn (KF w) 130 = some cd := by unfold clsIn; rw [ho]
  have hm : Looks (model prog w) h (mroOf (.ref 130)) cd.mro := (looks_clsIn X hc).andThen .now
  have made : Looks (model prog w) h (Bind.madeBy (.ref 130)) (some "list.__new__") := by
    intro A Q E s k q
    unfold Bind.madeBy
    refine wpAny_bind (hm A _ E s k ?_)
    rw [hl, List.forIn_cons]
    refine wpAny_bind (wpAny_bind (wpAny_bind (wpAny_bind (wpAny_loadPart (k _ _ (X _ _ ho)) (wpAny_pure ?_)))))
    dsimp only
    rw [← Array.getElem?_toList, e3]
    exact wpAny_pure (wpAny_pure (wpAny_pure q))
  refine ⟨⟨oc, od, cd, sl, X _ _ ho, e2, e4⟩, ?_, made, ?_, looks_mroIn X rfl, looks_mroIn X rfl, looks_specialIn X rfl, looks_instIn X rfl⟩
  · intro A Q E s k q
    obtain ⟨hh, g, d, t, os⟩ := s
    exact ks_wpAny_isType_cls (k _ _ (X _ _ ho)) rfl q
  · intro A Q E s k q
    unfold Bind.staticBase
    refine wpAny_bind (hm A _ E s k ?_)
    rw [hl, List.forIn_cons]
    exact wpAny_bind (wpAny_bind (wpAny_bind (made A _ E s k (wpAny_pure (wpAny_pure (wpAny_pure q))))))
theorem ln_kind : builtinKind "list.__new__" = some .builtinFn := by decide +kernel
theorem ln_split : splitId "list.__new__" = some ("list", "__new__") := by decide +kernel
theorem ln_args : argsOk "list.__new__" ⟨[.ref 130], []⟩ := by unfold argsOk; kernel_rfl
section
variable {w : World} {A : Around} {h : Heap} {g : Array GenState} {d : Drawn} {t : Nat} {os : OsState} {R : Result → Shared → Prop}
theorem new_L (B : HB w h) (hq : R (.ok (.ret (.ref (h.objs.size + 1)))) ⟨(h.push emptyDict).push (accObj [] 0 h.objs.size), g, d, t, os⟩) :
    codeAny (model prog w) A (.call (.builtin "list.__new__") ⟨[.ref 130], []⟩) R ⟨h, g, d, t, os⟩ := by
  obtain ⟨⟨oc, od, cd, sl, hC, e2, e4⟩, isT, made, base, self, top, call, typ⟩ := makesL B.X
  refine codeAny_of_tree ?_
  show wpAny _ A.in1 (do checkBuiltinCall "list.__new__" ⟨[.ref 130], []⟩; again (.builtin "list.__new__" ⟨[.ref 130], []⟩)) _ _ _
  have last : wpAny (model prog w) A.in1 (match Manifest.signature? "list.__new__" with | some sig => Bind.checkArgs "list.__new__" sig ⟨[.ref 130], []⟩ | none => pure ())
      (fun _ s' => wpAny (model prog w) A.in1 (again (.builtin "list.__new__" ⟨[.ref 130], []⟩)) (fun fin s' => match fin with | .done f => R (.ok f) s' | .again c' => c'.quiet = true ∧ codeAny (model prog w) A c' R s') (fun e s' => R (.error e) s') s') (fun e s' => R (.error e) s') ⟨h, g, d, t, os⟩ := by
    have h2 : (match Manifest.signature? "list.__new__" with | some sig => Bind.checkArgs "list.__new__" sig ⟨[.ref 130], []⟩ | none => pure ()) = pure () := by
      cases hsig : Manifest.signature? "list.__new__" with
      | none => rfl
      | some sig =>
        have ha := ln_args
        simp only [argsOk, hsig] at ha
        exact ha
    rw [h2]
    refine wpAny_pure (wpAny_pure ⟨plainId_quiet F.plain_list_new _, codeAny_builtin_stack F.entry_list_new rfl fun p st => ?_⟩)
    rw [Around.under_plainId F.plain_list_new _]
    have hown := owner_list_new
    simp only [hown]
    refine wpAny_bind (isT.at ?_)
    rw [if_neg (by decide)]
    refine wpAny_bind (top.at ?_)
    rw [if_neg (by decide)]
    refine wpAny_bind (wpAny_pure ?_)
    rw [if_neg (by decide)]
    show wpAny _ _ (newDict >>= _) _ _ _
    refine wpAny_bind ?_
    unfold newDict
    refine wpAny_newObj_type ?_ (by size_fits)
    dsimp only
    unfold newObj
    refine wpAny_bind (wpAny_bind ?_)
    dsimp only
    refine wpAny_alloc (wpAny_bind ?_)
    unfold classHasDel
    refine wpAny_bind (wpAny_load (Heap.get?_push_of_some _ (Heap.get?_push_of_some _ hC)) (wpAny_pure ?_))
    rw [e2]
    refine wpAny_pure (wpAny_pure ?_)
    show R _ _
    rw [Heap.size_push]
    exact hq
  refine wpAny_bind ?_
  simp only [checkBuiltinCall, ln_kind, ln_split]
  rw [if_pos (by decide)]
  refine wpAny_bind (isT.at ?_)
  rw [if_neg (by decide)]
  refine wpAny_bind (top.at ?_)
  rw [if_neg (by decide)]
  refine wpAny_bind (base.at ?_)
  refine wpAny_bind (made.at ?_)
  dsimp only
  rw [if_neg (by simp)]
  exact last
theorem acc_make {Q : Value → Shared → Prop} {s : Shared} (G : A.depth + 4 ≤ 900) (B : HB w s.heap)
    (hQ : ∀ h' tk n' t v k', h'.get? (s.heap.objs.size + 1) = some (accObj [] n' s.heap.objs.size) → h'.get? s.heap.objs.size = some (dictOf [⟨PyData.keyHash w.params "_initial_size", .str "_initial_size" t, v⟩] k') → (∀ b o, s.heap.get? b = some o → h'.get? b = some o) → Q (.ref (s.heap.objs.size + 1)) { s with heap := h', toks := tk }) :
    wpAny (model prog w) A (PySem.call (.ref 130) []) Q NoE s := by
  obtain ⟨h, g, d, t, os⟩ := s
  have Y := makesL B.X
  obtain ⟨⟨oc, od, cd, sl, hC, e2, e4⟩, isT, made, base, self, top, call, typ⟩ := Y
  refine wpAny_call (codeAny_of_tree ?_)
  show wpAny _ _ (callAny (.ref 130) _) _ _ _
  refine nd_load hC ?_
  show wpAny _ _ (callAny.viaDunder (.ref 130) _) _ _ _
  unfold callAny.viaDunder
  refine wpAny_bind (call.at ?_)
  dsimp only
  rw [tc_bind]
  refine wpAny_bind (wpAny_pure (wpAny_bind (wpAny_pure ?_)))
  refine wpAny_pure (a := Fin.again (.call (.builtin "type.__call__") ⟨[.ref 130], []⟩)) (And.intro rfl ?_)
  refine codeAny_call_builtin_at (Code.quiet_builtin _ (by decide +kernel)) entry_typeCall (check_slot tc_kind tc_split typ (tc_args _ _ _) ?_)
  unfold Builtin.«type.__call__»
  have hm : Looks (model prog w) h (mroOf (.ref 130)) cd.mro := ((Looks.ld (part := none) hC).andThen .now).andThen .now
  repeat (first | simp only [e4, Bool.false_eq_true, if_false] | with_reducible refine wpAny_call ?_ | lk)
  refine new_L B ?_
  have k : ∀ b o, h.get? b = some o → ((h.push emptyDict).push (accObj [] 0 h.objs.size)).get? b = some o := fun b o e => Heap.get?_push_of_some _ (Heap.get?_push_of_some _ e)
  have hx : ((h.push emptyDict).push (accObj [] 0 h.objs.size)).get? (h.objs.size + 1) = some (accObj [] 0 h.objs.size) := by heap_get
  have hdx : ((h.push emptyDict).push (accObj [] 0 h.objs.size)).get? h.objs.size = some emptyDict := by heap_get
  have t1 : Looks (model prog w) ((h.push emptyDict).push (accObj [] 0 h.objs.size)) (typeOf (.ref (h.objs.size + 1))) (.ref 130) := (Looks.ld hx).andThen .now
  have s1 := self.keeps k
  have hi : Looks (model prog w) h (typeLookup (.ref 130) "__init__") (some (.ref 67)) := looks_findIn B.X rfl
  have i1 := hi.keeps k
  have b1 := (bind_fn (M := model prog w) B.X (f := 67) (.ref (h.objs.size + 1)) rfl).keeps k
  unfold isInstance callSpecial? specialOf
  repeat (first | with_reducible refine wpAny_call ?_ | lk)
  have hoff : HBoff w ((h.push emptyDict).push (accObj [] 0 h.objs.size)) (h.objs.size + 1) h.objs.size := fun h' hk' => B.keeps fun b o e => hk' b o (Nat.ne_of_lt (Nat.lt_succ_of_lt (Heap.lt_size e))) (Nat.ne_of_lt (Heap.lt_size e)) (k b o e)
  refine acc_init (s := ⟨(h.push emptyDict).push (accObj [] 0 h.objs.size), g, d, t, os⟩) ?_ (B.keeps k) hoff hx (ens := []) (k := 0) hdx (.inl rfl) (Nat.succ_ne_self _) fun h' tk n' t v k' e1 e2 e3 => ?_
  · have hw : (Code.builtin "type.__call__" ⟨[.ref 130], []⟩).weight ≤ 2 := by decide +kernel
    show A.depth + _ + 1 ≤ 900
    omega
  · exact wpAny_pure (wpAny_pure (hQ h' tk n' t v k' e1 e2 fun b o e => e3 b o (Nat.ne_of_lt (Nat.lt_succ_of_lt (Heap.lt_size e))) (Nat.ne_of_lt (Heap.lt_size e)) (k b o e)))
end
end Mine
end
section
open PySem PySem.Calls PySem.W PyProof.Rows PySem.Builtin PySem.Builtin.List
set_option Elab.async false
set_option maxRecDepth 100000
namespace Mine
theorem Rel.hboff {cx : Cx} {vs : Vars} {a da : Addr} {c : MU} {s : Shared} (R : Rel cx vs (some (a, da)) c s) : HBoff cx.w s.heap a da := by
  intro h' hk
  obtain ⟨m, cm, F, _⟩ := R.frm
  refine R.base.keeps fun b o e => hk b o ?_ ?_ (F.keep b o e)
  · rintro rfl
    exact Nat.lt_irrefl _ (Nat.lt_of_lt_of_le (Heap.lt_size e) (R.out _ (.inl rfl)).1)
  · rintro rfl
    exact Nat.lt_irrefl _ (Nat.lt_of_lt_of_le (Heap.lt_size e) (R.out _ (.inr rfl)).1)
/-- a method of the accumulator does what op says -/
def OpOk (n : Nat) (f : Addr) (op : List D → List D → Option (D × List D)) : Prop :=
  ∀ (cx : Cx) (vs : Vars) (s : Shared) (a da : Addr) (es xs : List D) (vals : List Value) (d : D) (es' : List D), Room n cx.A → Rel cx vs (some (a, da)) (.acc es) s → Rds cx.w (cx.Ok (some (a, da))) s.heap xs vals → op xs es = some (d, es') →
    wpAny (model prog cx.w) cx.A (call (.ref f) (.ref a :: vals)) (fun v s' => Stp (some (a, da)) s s' ∧ MutR cx.w (cx.Ok (some (a, da))) (some (a, da)) s'.heap (.acc es') ∧ Rd cx.w (cx.Ok (some (a, da))) s'.heap d v) NoE s
section
variable {cx : Cx} {n : Nat}
theorem refE_acc (G : Good n cx) {f : Addr} {op : List D → List D → Option (D × List D)} (S : OpOk n f op) {x name : Str} {p apos pos : Pos} {args : List Expr} {i : Nat} {ma : AM} {pl : Sem Bool} (hi : cx.vs[i]? = some (x, false)) (hk : cx.env.kindOf x = some .local) (ha : RefA cx pos args ma)
    (hf : findIn (KF cx.w) (.ref 130) name = some (some (.ref f))) (ht : typeIn (KF cx.w) (.ref f) = some (.type "function")) (hn : (("_initial_size" : PySem.Str) == name) = false) (look : ∀ w, ∃ o fd, (KF w).lookup f = some o ∧ o.data = .func fd)
    (hbase : attributeBase (.Name x p) name cx.env (eval (.Name x p) cx.env) = eval (.Name x p) cx.env := by rfl)
    (he : eval (.Call (.Attribute (.Name x p) name apos) args [] pos) cx.env = (do
      let ov ← attributeBase (.Name x p) name cx.env (eval (.Name x p) cx.env)
      standAt apos.atName
      let (f, first) ← holding [ov] (getMethod ov name pl)
      callWith pos f first (backTo pos (starEach args cx.env)) []) := by rfl)
    (hp : (backTo pos (starEach args cx.env)).any (·.1) = false := by rfl) (hdb : (x == ("__debug__" : Str)) = false := by decide) :
    RefE cx (.Call (.Attribute (.Name x p) name apos) args [] pos) (accE i op ma) := by
  intro vs c d c' mu s hm R
  unfold accE at hm
  split at hm
  · rename_i hd
    split at hm
    · rename_i es0 xs es e1
      split at hm
      · rename_i d' es' e2
        cases hm
        obtain ⟨a, da, rfl, hname⟩ := ownVar G R hi (by simpa using hk) (fun h => by cases h) hd (pos := p) hdb
        refine meth_rule (hname _ ?_) hbase he
        obtain ⟨a', da', us, n', ens, k, e, ne, hg, hgd, hens, hr⟩ := R.mobj
        cases e
        refine acc_getMethod R.hb hg hgd hens (f := .ref f) (tf := .type "function") hf ht rfl hn (ga130 _) (g130 _) ?_
        show wpAny _ _ (callWith pos (.ref f) [.ref a] (backTo pos (starEach args cx.env)) []) _ _ _
        refine handed_fn look _ _ _ _ _ _ _ hp (evalArgs_A hp (wpAny_mono (ha vs _ _ _ _ s e1 R) (fun vals s₁ h1 => ?_) fun _ _ e => e))
        refine ⟨h1.rel.hb, ?_⟩
        refine wpAny_mono (S cx vs s₁ a da es xs vals _ es' G.room h1.rel h1.rv e2) (fun v s' h => ?_) fun _ _ e => e
        exact ⟨h1.rel.stp h.1 h.2.1, h1.stp.trans h.1, h.2.2⟩
      · cases hm
    · cases hm
  · cases hm
end
theorem stp_of {a da : Addr} {s : Shared} {h : Heap} {tk : Nat} (k : ∀ b o, b ≠ a → b ≠ da → s.heap.get? b = some o → h.get? b = some o) : Stp (some (a, da)) s { s with heap := h, toks := tk } :=
  ⟨⟨_, _, rfl⟩, fun b o hb e => k b o (fun q => hb (.inl q)) (fun q => hb (.inr q)) e⟩
theorem up_of {cx : Cx} {a da : Addr} {s s' : Shared} (k : Stp (some (a, da)) s s') : ∀ b o, cx.Ok (some (a, da)) b → NF o → s.heap.get? b = some o → cx.Ok (some (a, da)) b ∧ s'.heap.get? b = some o := fun b o hb _ e => ⟨hb, k.keep b o hb.2.2.2 e⟩
theorem op_push : OpOk 1 74 opPush := by
  intro cx vs s a da es xs vals d es' G R hv hop
  unfold opPush at hop
  split at hop
  · split at hop
    · rename_i x y hl
      cases hop
      obtain ⟨u, v, rfl, hu, hw⟩ := hv.two
      obtain ⟨a', da', us, n', ens, k, e, ne, hg, hgd, hens, hr⟩ := R.mobj
      cases e
      have hlen := hr.length
      refine acc_push G R.hb hg hgd hens (by omega) fun h' tk T n'' e1 e2 hT hk => ?_
      have K : Stp (some (a, da)) s { s with heap := h', toks := tk } := stp_of fun b o hb _ e => hk b o hb e
      refine ⟨K, ⟨a, da, us ++ [.ref T], n'', ens, k, rfl, ne, e1, hk _ _ (Ne.symm ne) hgd, hens, ?_⟩, rfl⟩
      refine (hr.mono (up_of K)).append (Rds.cons ?_ Rds.nil)
      simp only [Rd]
      exact ⟨T, [u, v], 0, rfl, R.okNew hT, e2, Rds.cons (hu.mono (up_of K)) (Rds.cons (hw.mono (up_of K)) Rds.nil)⟩
    · cases hop
  · cases hop
end Mine
end
section
open PySem PySem.Calls PySem.W PyProof.Rows PySem.Builtin PySem.Builtin.List
set_option Elab.async false
set_option maxRecDepth 100000
namespace Mine
theorem op_reset : OpOk 1 112 opReset := by
  intro cx vs s a da es xs vals d es' G R hv hop
  unfold opReset at hop
  split at hop
  · split at hop
    · rename_i ds es hl
      cases hop
      obtain ⟨u, rfl, hu⟩ := hv.one
      obtain ⟨l, ls, kl, rfl, hP, hgl, hrl⟩ := rd_list hu
      obtain ⟨a', da', us, n', ens, k, e, ne, hg, hgd, hens, hr⟩ := R.mobj
      cases e
      have hlen := hr.length
      have hlen2 := hrl.length
      refine acc_reset G R.hb R.hboff hg hgd hens (by omega) hgl (by omega) (fun q => hP.2.2.2 (.inl q.symm)) ne fun h' tk n'' t v k' e1 e2 hk => ?_
      have K : Stp (some (a, da)) s { s with heap := h', toks := tk } := stp_of hk
      exact ⟨K, ⟨a, da, ls, n'', _, k', rfl, ne, e1, e2, .inr ⟨_, _, rfl⟩, hrl.mono (up_of K)⟩, rfl⟩
    · cases hop
  · cases hop
theorem popFrom_at {cx : Cx} {vs : Vars} {s : Shared} {a da : Addr} {es : List D} {args : List Value} {j : Nat} {t : Tok} (G : Room 1 cx.A) (R : Rel cx vs (some (a, da)) (.acc es) s) (hl : es.length ≤ 200) (hj : j ≤ es.length)
    (hb : BindsTo s (fdAt 82) ⟨args, []⟩ [("self", .ref a), ("i", .int j t)]) :
    wpAny (model prog cx.w) cx.A (call (.ref 82) args) (fun v s' => Stp (some (a, da)) s s' ∧ MutR cx.w (cx.Ok (some (a, da))) (some (a, da)) s'.heap (.acc (es.take j)) ∧ Rd cx.w (cx.Ok (some (a, da))) s'.heap (.list (es.drop j)) v) NoE s := by
  obtain ⟨a', da', us, n', ens, k, e, ne, hg, hgd, hens, hr⟩ := R.mobj
  cases e
  have hlen := hr.length
  refine acc_popFrom G R.hb hg (by omega) (by omega) hb fun h' tk T n'' e1 e2 hT hk => ?_
  have K : Stp (some (a, da)) s { s with heap := h', toks := tk } := stp_of fun b o hb _ e => hk b o hb e
  refine ⟨K, ⟨a, da, us.take j, n'', ens, k, rfl, ne, e1, hk _ _ (Ne.symm ne) hgd, hens, (hr.mono (up_of K)).take j⟩, ?_⟩
  simp only [Rd]
  exact ⟨T, us.drop j, 0, rfl, R.okNew hT, e2, (hr.mono (up_of K)).drop j⟩
theorem op_popFrom : OpOk 1 82 opPopFrom := by
  intro cx vs s a da es xs vals d es' G R hv hop
  unfold opPopFrom at hop
  split at hop
  · split at hop
    · rename_i hl
      cases hop
      rw [hv.nil_inv]
      obtain ⟨t, hb⟩ : ∃ t, BindsTo s (fdAt 82) ⟨[.ref a], []⟩ [("self", .ref a), ("i", .int ((0 : Nat) : Int) t)] := ⟨_, BindsTo.of_defaults (T := 75) (o := _) rfl (R.hb.X _ _ rfl) rfl rfl rfl⟩
      have := popFrom_at G R hl (Nat.zero_le _) hb
      simpa using this
    · cases hop
  · split at hop
    · rename_i k _ hl
      cases hop
      obtain ⟨u, rfl, hu⟩ := hv.one
      obtain ⟨t, rfl⟩ := rd_int hu
      exact popFrom_at G R hl.2 hl.1 (BindsTo.of_defaults (T := 75) (o := _) rfl (R.hb.X _ _ rfl) rfl rfl rfl)
    · cases hop
  · cases hop
theorem op_pop : OpOk 2 90 opPop := by
  intro cx vs s a da es xs vals d es' G R hv hop
  unfold opPop at hop
  split at hop
  · split at hop
    · rename_i hl
      split at hop
      · rename_i x hx
        cases hop
        rw [hv.nil_inv]
        obtain ⟨ys, rfl⟩ : ∃ ys, es = ys ++ [d] := ⟨es.dropLast, by
          rcases List.eq_nil_or_concat es with rfl | ⟨l, b, rfl⟩
          · simp at hx
          · simp at hx ⊢; exact hx⟩
        obtain ⟨a', da', us, n', ens, k, e, ne, hg, hgd, hens, hr⟩ := R.mobj
        cases e
        have hlen := hr.length
        obtain ⟨us1, u, rfl⟩ : ∃ us1 u, us = us1 ++ [u] := by
          rcases List.eq_nil_or_concat us with rfl | ⟨l, b, rfl⟩
          · simp at hlen
          · exact ⟨l, b, by simp⟩
        simp at hlen
        have hl' : us1.length = ys.length := by omega
        have hr1 : Rds cx.w (cx.Ok (some (a, da))) s.heap ys us1 := by
          have := hr.take ys.length
          rwa [List.take_left, ← hl', List.take_left] at this
        have hu1 : Rd cx.w (cx.Ok (some (a, da))) s.heap d u := by
          obtain ⟨v, e, r⟩ := hr.get (i := ys.length) (d := d) (by simp)
          rw [← hl'] at e
          simp at e
          rwa [e]
        refine acc_popM G R.hb hg hgd hens (by simp at hl; omega) fun h' tk n'' e1 hk => ?_
        have K : Stp (some (a, da)) s { s with heap := h', toks := tk } := stp_of fun b o hb _ e => hk b o hb e
        refine ⟨K, ⟨a, da, us1, n'', ens, k, rfl, ne, e1, hk _ _ (Ne.symm ne) hgd, hens, ?_⟩, hu1.mono (up_of K)⟩
        rw [List.dropLast_concat]
        exact hr1.mono (up_of K)
      · cases hop
    · cases hop
  · cases hop
section
variable {cx : Cx} {n : Nat}
theorem refNew_acc (G : Good n cx) {x : Str} {p pos : Pos} (hl : Loads cx (.Name x p) (.ref 130)) (hc : Handed (.ref 130)) : RefNew cx (.Call (.Name x p) [] [] pos) (fun _ => some (.acc [])) := by
  intro vs c' s hm R
  cases hm
  refine wpAny_Call_NameR (hl s _ R.hb (hc _ _ _ _ _ _ _ rfl (evalArgs_nil3 ⟨R.hb, ?_⟩)))
  refine acc_make (by have := G.room.depth; omega) R.hb fun h' tk n' t v k' e1 e2 hk => ?_
  have K : Pur s { s with heap := h', toks := tk } := ⟨⟨_, _, rfl⟩, hk⟩
  refine ⟨_, s.heap.objs.size, rfl, R.born K (Nat.le_succ _) (Nat.le_refl _) ?_⟩
  exact ⟨_, _, [], n', _, k', rfl, Nat.succ_ne_self _, e1, e2, .inr ⟨_, _, rfl⟩, Rds.nil⟩
/-- rows[:] -/
theorem refE_all (G : Good n cx) {x : Str} {p sp pos : Pos} {i : Nat} (hi : cx.vs[i]? = some (x, false)) (hk : cx.env.kindOf x = some .local) (hdb : (x == ("__debug__" : Str)) = false := by decide) :
    RefE cx (.Subscript (.Name x p) (.Slice none none none sp) pos) (eAll i) := by
  intro vs c d c' mu s hm R
  unfold eAll at hm
  split at hm
  · rename_i hd
    split at hm
    · rename_i ds
      split at hm
      · rename_i hl
        cases hm
        obtain ⟨a, da, rfl, hname⟩ := ownVar G R hi (by simpa using hk) (fun h => by cases h) hd (pos := p) hdb
        obtain ⟨a', da', us, n', ens, k, e, ne, hg, hgd, hens, hr⟩ := R.mobj
        cases e
        have hlen := hr.length
        refine sub_acc (hname _ ?_)
        refine wpAny_Slice ?_
        rw [evalPart_none]
        refine wpAny_pure (wpAny_pure (wpAny_pure ?_))
        have k1 : ∀ b o, s.heap.get? b = some o → (s.heap.push { cls := .type "slice", data := .fields #[.none, .none, .none] }).get? b = some o := fun b o e => Heap.get?_push_of_some _ e
        refine ⟨a, da, us, n', rfl, R.hb.keeps k1, k1 _ _ hg, ?_⟩
        refine acc_getItem (R.hb.keeps k1) (k1 _ _ hg) (Heap.IsSliceOf.new ..) .none .none (by omega) ?_
        have hpick : slicePick us.toArray none none none = us.toArray := slicePick_all _
        rw [hpick]
        have K : Pur s { s with heap := (s.heap.push { cls := .type "slice", data := .fields #[.none, .none, .none] }).push { cls := .type "list", data := .seq us.toArray } } := ⟨⟨_, _, rfl⟩, fun b o e => Heap.get?_push_of_some _ (k1 b o e)⟩
        refine ⟨R.pur K, K.stp _, ?_⟩
        show Rd _ _ _ _ _
        simp only [Rd]
        exact ⟨_, us, 0, rfl, R.okNew (by rw [Heap.size_push]; exact Nat.le_succ _), Heap.get?_push_size _ rfl, hr.pur K⟩
      · cases hm
    · cases hm
  · cases hm
end
end Mine
end
section
open PySem PySem.Calls PySem.W PyProof.Rows PySem.Builtin PySem.Builtin.List
set_option Elab.async false
set_option maxRecDepth 100000
namespace Mine
theorem OpOk.to {k n : Nat} {f : Addr} {op : List D → List D → Option (D × List D)} (S : OpOk k f op) (h : k ≤ n) : OpOk n f op := fun cx vs s a da es xs vals d es' G => S cx vs s a da es xs vals d es' (G.mono h)
theorem handed_130 : Handed (.ref 130) := fun w A s pos first args Q hplain h => by
  refine callWith_of (P := fun hh => HB w hh) (by rw [hplain]; rfl) (fun hh B => ?_) h
  obtain ⟨⟨oc, od, cd, sl, hC, e2, e4⟩, isT, made, base, self, top, call, typ⟩ := makesL B.X
  exact ⟨.machine, .inr (.inl rfl), (Looks.ld (part := none) hC).andThen (call.andThen .now)⟩
section
variable {cx : Cx} {n : Nat}
theorem refS_setT {elts : List Expr} {k : Nat} {tpos pos : Pos} {value : Expr} {m : EM} {tg : TgM} (he : RefE cx value m) (ht : RefTg cx (.Tuple elts k tpos) tg)
    (hs : swapsWithSole [.Tuple elts k tpos] value pos.line cx.env = pure false := by rfl)
    (hw : swappedStores [.Tuple elts k tpos] value cx.env = pure none := by rfl) : RefS cx (.Assign [.Tuple elts k tpos] value pos) (sSetT tg m) := by
  intro vs c fl vs' c' mu s hm R
  unfold sSetT at hm
  split at hm
  · rename_i d c1 e1
    split at hm
    · rename_i vs1 e2
      cases hm
      refine Assign_Tuple (wpAny_mono (he vs c _ _ mu s e1 R) (fun v s₁ h1 => ?_) fun _ _ e => e) hs hw
      exact wpAny_mono (ht d vs vs' _ mu s₁ v e2 h1.rel h1.rv) (fun _ s₂ h2 => ⟨h2.1, (Stp.toS h1.stp).trans h2.2, rfl⟩) fun _ _ e => e
    · cases hm
  · cases hm
end
def vCho : List (PySem.Str × Bool) := [("pieces", false), ("place", false), ("running", false), ("arcs", false), ("rows", false), ("told", false), ("k", false), ("behind", false), ("lead", false), ("name", false), ("mail", false), ("line", false), ("size", false), ("arc", false)]
theorem fnCho : Fn 178 (fdAt 178) ["pieces", "place", "running", "arcs"] vCho (bodyAt 178) :=
  fn_of (fun w => ⟨_, rfl, rfl⟩) (fun w => by rfl) (by rfl) (fun vals h => by obtain ⟨a, b, c, d, rfl⟩ := len4 h; rfl) (by rfl) (by rfl) (by rfl) (by rfl) (by rfl) (by rfl) (by rfl) (by decide) (by rfl) (fun L => by rfl)
set_option maxHeartbeats 1000000 in
theorem bCho (n : Nat) (rec : List D → Option D) (S : Spec (n + 3) (fun vs => call (.ref 178) vs) rec) (w : World) (A : Around) (s : Shared) (P : Addr → Prop) (G : Good (n + 3) (cxOf w A (fdAt 178) 178 vCho P s)) (O : Own (cxOf w A (fdAt 178) 178 vCho P s)) :
    RefB2 (cxOf w A (fdAt 178) 178 vCho P s) (bodyAt 178) (mChoices rec) := by
  have z : 0 ≤ n + 3 := Nat.zero_le _
  have o1 : 1 ≤ n + 3 := by omega
  have o2 : 2 ≤ n + 3 := by omega
  have vlen : ∀ {i x p q pos}, (cxOf w A (fdAt 178) 178 vCho P s).vs[i]? = some (x, false) → (cxOf w A (fdAt 178) 178 vCho P s).env.kindOf x = some .local → (cxOf w A (fdAt 178) 178 vCho P s).env.kindOf "len" = some .globalImplicit → (x == ("__debug__" : Str)) = false → starEach [.Name x p] (cxOf w A (fdAt 178) 178 vCho P s).env = [(false, eval (.Name x p) (cxOf w A (fdAt 178) 178 vCho P s).env)] →
      RefE (cxOf w A (fdAt 178) 178 vCho P s) (.Call (.Name "len" q) [.Name x p] [] pos) (eCall fLen (aCons (eVar i) aNil)) := fun h1 h2 h3 h4 _ =>
    refE_call G (loads_builtin G h3 rfl rfl) (handed_builtin _) (spec_len.up z) (refA_cons (refE_var G h1 (by simpa using h2) (fun h => by cases h) h4) refA_nil)
  refine refB2_cons (refS_if (refT_cmp G (spec_eq.up z) (refE_var G rfl rfl) (vlen rfl rfl rfl rfl rfl)) (refB_cons (refS_ret (refE_dict1 (refE_call G (loads_global G rfl rfl) (handed_fn fun w => ⟨_, _, rfl, rfl⟩) (spec_name.up o2) (refA_cons (refE_var G rfl rfl) refA_nil)) refE_int)) refB_nil) refB_nil) ?_
  refine refB2_new (i := 4) G O rfl rfl (refNew_acc G (loads_global G rfl rfl) handed_130) ?_
  refine refB_cons (refS_expr (refE_acc G (op_reset.to o1) rfl rfl (refA_cons (refE_var G rfl rfl) refA_nil) rfl rfl (by decide) (fun w => ⟨_, _, rfl, rfl⟩))) ?_
  refine refB_cons (refS_if (refT_val (refE_meth G PySem.F.plainAttrs_str PySem.F.slot_str_endswith PySem.F.type_str_endswith (spec_ends.up z) (refE_sub G (spec_idx.up z) (refE_var G rfl rfl) (refE_var G rfl rfl)) (refA_cons (refE_str rfl) refA_nil))) ?_ refB_nil) ?_
  · refine refB_cons (refS_expr (refE_acc G (op_push.to o1) rfl rfl (refA_cons (refE_str rfl) (refA_cons (refE_bin G (spec_add.up z) (refE_call G (loads_builtin G rfl rfl rfl) (handed_builtin _) (spec_chr.up z) (refA_cons (refE_bin G (spec_add.up z) refE_int (refE_var G rfl rfl)) refA_nil)) (refE_str rfl)) refA_nil)) rfl rfl (by decide) (fun w => ⟨_, _, rfl, rfl⟩))) ?_
    refine refB_cons (refS_ret (refE_call G (loads_global G rfl rfl) (handed_fn fun w => ⟨_, _, rfl, rfl⟩) S (refA_cons (refE_var G rfl rfl) (refA_cons (refE_bin G (spec_add.up z) (refE_var G rfl rfl) refE_int) (refA_cons (refE_acc G (op_popFrom.to o1) rfl rfl refA_nil rfl rfl (by decide) (fun w => ⟨_, _, rfl, rfl⟩)) (refA_cons (refE_var G rfl rfl) refA_nil)))))) refB_nil
  refine refB_cons (refS_assign G O rfl refE_dict0 rfl) ?_
  refine refB_cons (refS_for (refI_range G (loads_builtin G rfl rfl rfl) (refA_cons (refE_call G (loads_builtin G rfl rfl rfl) (handed_builtin _) (spec_len.up z) (refA_cons (refE_var G rfl rfl) refA_nil)) refA_nil)) (refTg_name G O rfl rfl) ?_) (refB_cons (refS_ret (refE_var G rfl rfl)) refB_nil)
  refine refB_cons (refS_expr (refE_acc G (op_reset.to o1) rfl rfl (refA_cons (refE_var G rfl rfl) refA_nil) rfl rfl (by decide) (fun w => ⟨_, _, rfl, rfl⟩))) ?_
  refine refB_cons (refS_assign G O rfl (refE_acc G (op_popFrom.to o1) rfl rfl (refA_cons (refE_bin G (spec_add.up z) (refE_var G rfl rfl) refE_int) refA_nil) rfl rfl (by decide) (fun w => ⟨_, _, rfl, rfl⟩)) rfl) ?_
  refine refB_cons (refS_setT (refE_acc G (op_pop.to o2) rfl rfl refA_nil rfl rfl (by decide) (fun w => ⟨_, _, rfl, rfl⟩)) (refTg_tup G (refTgs_cons (refTg_name G O rfl rfl) (refTgs_cons (refTg_name G O rfl rfl) refTgs_nil)))) ?_
  refine refB_cons (refS_assign G O rfl (refE_meth G PySem.F.plainAttrs_str PySem.F.slot_str_join PySem.F.type_str_join (spec_join.up z) (refE_str rfl) (refA_cons ?_ refA_nil)) rfl) ?_
  · exact refE_comp (cl := (cxOf w A (fdAt 178) 178 vCho P s).env.cells) (vs' := [("dots", false), ("letter", false)]) G (compOk rfl rfl rfl rfl (fun _ _ h => h) (by decide) rfl) (refI_lst G (refE_var G rfl rfl)) fun mu s₂ I C G' O' => ⟨refTgL_tup G' (refTgsL_cons (refTgL_name G' O' rfl rfl) (refTgsL_cons (refTgL_name G' O' rfl rfl) refTgsL_nil)), refIfs_nil, refE_bin G' (spec_add.up z) (refE_var G' rfl rfl) (refE_var G' rfl rfl)⟩
  refine refB_cons (refS_for (refI_lst G (refE_meth G PySem.F.plainAttrs_str PySem.F.slot_str_splitlines PySem.F.type_str_splitlines (spec_lines.up z) ?_ refA_nil)) (refTg_name G O rfl rfl) ?_) ?_
  · refine refE_meth G FB.plainAttrs_bytes FB.slot_bytes_decode FB.type_bytes_decode (spec_decode.up z) ?_ refA_nil
    exact refE_call G (loads_global G rfl rfl) (handed_fn fun w => ⟨_, _, rfl, rfl⟩) (spec_quote.up o1) (refA_cons (refE_meth G PySem.F.plainAttrs_str PySem.F.slot_str_encode PySem.F.type_str_encode (spec_encode.up z) (refE_var G rfl rfl) refA_nil) refA_nil)
  · refine refB_cons (refS_assign G O rfl (refE_meth G PySem.F.plainAttrs_str PySem.F.slot_str_count PySem.F.type_str_count (spec_count.up z) (refE_var G rfl rfl) (refA_cons (refE_str rfl) refA_nil)) rfl) ?_
    refine refB_cons (refS_expr (refE_acc G (op_push.to o1) rfl rfl (refA_cons (refE_slice G (spec_slice.up z) (refE_var G rfl rfl) refP_none (refP_some (refE_var G rfl rfl)) refP_none) (refA_cons (refE_bin G (spec_add.up z) (refE_slice G (spec_slice.up z) (refE_var G rfl rfl) (refP_some (refE_var G rfl rfl)) refP_none refP_none) (refE_str rfl)) refA_nil)) rfl rfl (by decide) (fun w => ⟨_, _, rfl, rfl⟩))) refB_nil
  refine refB_cons (refS_assign G O rfl (refE_tup (refA_cons (refE_bin G (spec_sub.up z) (refE_call G (loads_builtin G rfl rfl rfl) (handed_builtin _) (spec_ord.up z) (refA_cons (refE_sub G (spec_idx.up z) (refE_var G rfl rfl) refE_int) refA_nil)) refE_int) (refA_cons (refE_var G rfl rfl) (refA_cons (refE_call G (loads_builtin G rfl rfl rfl) (handed_builtin _) (spec_len.up z) (refA_cons (refE_var G rfl rfl) refA_nil)) refA_nil)))) rfl) ?_
  refine refB_cons (refS_assign G O rfl (refE_call G (loads_global G rfl rfl) (handed_fn fun w => ⟨_, _, rfl, rfl⟩) (spec_addCallers.up o1) (refA_cons (refE_var G rfl rfl) (refA_cons ?_ refA_nil))) rfl) refB_nil
  refine refE_call G (loads_global G rfl rfl) (handed_fn fun w => ⟨_, _, rfl, rfl⟩) S (refA_cons (refE_var G rfl rfl) (refA_cons (refE_bin G (spec_add.up z) (refE_var G rfl rfl) refE_int) (refA_cons (refE_all G rfl rfl) (refA_cons (refE_bin G (spec_add.up z) (refE_var G rfl rfl) (refE_list (refA_cons (refE_var G rfl rfl) refA_nil))) refA_nil))))
theorem spec_choices : ∀ n, Spec (n + 3) (fun vs => call (.ref 178) vs) (fChoices n)
  | 0 => by intro w A s P vs ds d G B hr hf; cases hf
  | n + 1 => spec_fn fnCho (bCho n (fChoices n) (spec_choices n))
end Mine
end
section
open PySem PySem.Calls PySem.W PyProof.Rows PySem.Builtin PySem.Builtin.List
set_option Elab.async false
set_option maxRecDepth 100000
namespace Mine
def vRep : List (PySem.Str × Bool) := [("script", false), ("calls", false), ("pieces", false), ("begun", false), ("k", false), ("x", false), ("quoted", false)]
theorem fnRep : Fn 168 (fdAt 168) ["script", "calls"] vRep (bodyAt 168) :=
  fn_of (fun w => ⟨_, rfl, rfl⟩) (fun w => by rfl) (by rfl) (fun vals h => by obtain ⟨a, b, rfl⟩ := len2 h; rfl) (by rfl) (by rfl) (by rfl) (by rfl) (by rfl) (by rfl) (by rfl) (by decide) (by rfl) (fun L => by rfl)
def eDraw : EM := eTwo fAdd (eTwo fIdx (eList (aCons (eInt 3) (aCons (eInt 5) (aCons (eInt 1) (aCons (eInt 0) (aCons (eInt 6) (aCons (eInt 2) (aCons (eInt 9) (aCons (eInt 4) aNil))))))))) (eVar 4))
  (eCall fSum (aCons (eSlice fSlice (eVar 0) (eVar 4) (eInt 60) (eInt 8)) aNil))
def eQuoted : EM := eTwo fIdx (eList (aCons (eStr []) (aCons (eStr [34, 40, 40, 34]) (aCons (eStr [34, 92, 34, 41, 34]) (aCons (eStr [34, 34, 32, 34, 41, 34]) aNil))))) (eTwo fMod (eTwo fDiv2 (eVar 5) (eInt 2)) (eInt 4))
def tBegin : TM := tOr (tTwo fEq (eTwo fMul2 (eInt 2) (eVar 3)) (eVar 4)) (tOr (tAnd (tTwo fEq (eTwo fMod (eVar 5) (eInt 2)) (eInt 1)) (tAnd (tTwo fLt (eVar 3) (eVar 1)) (tConst true))) (tConst false))
def mRepTurn : SM :=
  sSeq (sSet 5 eDraw) (sSeq (sSet 6 eQuoted) (sSeq (sIf tBegin
    (sSeq (sExp (eAppend 2 (aCons (eTwo fAdd (eVar 6) (eStr [40])) aNil))) (sSeq (sAug 3 fIAdd (eInt 1)) sNil))
    (sSeq (sExp (eAppend 2 (aCons (eTwo fAdd (eVar 6) (eStr [41])) aNil))) sNil)) sNil))
def mRep : SM :=
  sNew 2 (fun _ => some (.list [])) (sSeq (sSet 3 (eInt 0)) (sSeq (sFor (iRange (aCons (eTwo fMul2 (eInt 2) (eVar 1)) aNil)) (tgName 4) mRepTurn) (sSeq (sRet (eVar 2)) sNil)))
set_option maxHeartbeats 1000000 in
theorem bRep (w : World) (A : Around) (s : Shared) (P : Addr → Prop) (G : Good 0 (cxOf w A (fdAt 168) 168 vRep P s)) (O : Own (cxOf w A (fdAt 168) 168 vRep P s)) : RefB2 (cxOf w A (fdAt 168) 168 vRep P s) (bodyAt 168) mRep := by
  refine refB2_new (i := 2) G O rfl rfl refNew_list ?_
  refine refB_cons (refS_assign G O rfl refE_int rfl) ?_
  refine refB_cons (refS_for (refI_range G (loads_builtin G rfl rfl rfl) (refA_cons (refE_bin G spec_mul2 refE_int (refE_var G rfl rfl)) refA_nil)) (refTg_name G O rfl rfl) ?_) (refB_cons (refS_ret (refE_var G rfl rfl)) refB_nil)
  refine refB_cons (m := sSet 5 eDraw) ?_ ?_
  · generalize hE : Expr.BinOp _ Operator.Add _ _ = E
    have hE' : RefE (cxOf w A (fdAt 168) 168 vRep P s) E eDraw := by
      subst hE
      refine refE_bin G spec_add ?_ ?_
      · generalize hL : Expr.List _ _ = L
        have hL' : RefE (cxOf w A (fdAt 168) 168 vRep P s) L (eList (aCons (eInt 3) (aCons (eInt 5) (aCons (eInt 1) (aCons (eInt 0) (aCons (eInt 6) (aCons (eInt 2) (aCons (eInt 9) (aCons (eInt 4) aNil))))))))) := by
          subst hL
          exact refE_list (refA_cons refE_int (refA_cons refE_int (refA_cons refE_int (refA_cons refE_int (refA_cons refE_int (refA_cons refE_int (refA_cons refE_int (refA_cons refE_int refA_nil))))))))
        clear hL
        exact refE_sub G spec_idx hL' (refE_var G rfl rfl)
      · refine refE_call G (loads_builtin G rfl rfl rfl) (handed_builtin _) spec_sum (refA_cons ?_ refA_nil)
        exact refE_slice G spec_slice (refE_var G rfl rfl) (refP_some (refE_var G rfl rfl)) (refP_some refE_int) (refP_some refE_int)
    have hs : ∀ t p, swapsWith E t p (cxOf w A (fdAt 168) 168 vRep P s).env = pure false := by subst hE; intro t p; rfl
    clear hE
    exact refS_assign (i := 5) G O rfl hE' rfl (fun h => by cases h) (hs _ _)
  refine refB_cons (m := sSet 6 eQuoted) ?_ ?_
  · generalize hE : Expr.Subscript (Expr.List _ _) _ _ = E
    have hE' : RefE (cxOf w A (fdAt 168) 168 vRep P s) E eQuoted := by
      subst hE
      generalize hL : Expr.List _ _ = L
      have hL' : RefE (cxOf w A (fdAt 168) 168 vRep P s) L (eList (aCons (eStr []) (aCons (eStr [34, 40, 40, 34]) (aCons (eStr [34, 92, 34, 41, 34]) (aCons (eStr [34, 34, 32, 34, 41, 34]) aNil))))) := by
        subst hL
        exact refE_list (refA_cons (refE_str rfl) (refA_cons (refE_str rfl) (refA_cons (refE_str rfl) (refA_cons (refE_str rfl) refA_nil))))
      clear hL
      exact refE_sub G spec_idx hL' (refE_bin G spec_mod (refE_bin G spec_div2 (refE_var G rfl rfl) refE_int) refE_int)
    have hs : ∀ t p, swapsWith E t p (cxOf w A (fdAt 168) 168 vRep P s).env = pure false := by subst hE; intro t p; rfl
    clear hE
    exact refS_assign (i := 6) G O rfl hE' rfl (fun h => by cases h) (hs _ _)
  refine refB_cons (refS_if (refT_bool (refOr_cons (refT_cmp G spec_eq (refE_bin G spec_mul2 refE_int (refE_var G rfl rfl)) (refE_var G rfl rfl)) (refOr_cons (refT_bool (refAnd_cons (refT_cmp G spec_eq (refE_bin G spec_mod (refE_var G rfl rfl) refE_int) refE_int) (refAnd_cons (refT_cmp G spec_lt (refE_var G rfl rfl) (refE_var G rfl rfl)) refAnd_nil))) refOr_nil))) ?_ ?_) refB_nil
  · refine refB_cons (refS_expr (refE_append G rfl rfl (refA_cons (refE_bin G spec_add (refE_var G rfl rfl) (refE_str rfl)) refA_nil))) ?_
    exact refB_cons (refS_aug G O spec_iadd rfl refE_int rfl) refB_nil
  · exact refB_cons (refS_expr (refE_append G rfl rfl (refA_cons (refE_bin G spec_add (refE_var G rfl rfl) (refE_str rfl)) refA_nil))) refB_nil
theorem spec_reply0 : Spec 1 (fun vs => call (.ref 168) vs) (fnM 2 7 mRep) := spec_fn fnRep bRep
end Mine
end
section
open PySem PySem.Calls PySem.W PyProof.Rows PySem.Builtin PySem.Builtin.List
set_option Elab.async false
set_option maxRecDepth 100000
namespace Mine
/-! the reply, in plain Lean -/
theorem eTwo_of {f : List D → Option D} {l r : EM} {vs : Vars} {c c1 c2 : MU} {x y d : D} (h1 : l vs c = some (.d x, c1)) (h2 : r vs c1 = some (.d y, c2)) (h3 : f [x, y] = some d) : eTwo f l r vs c = some (.d d, c2) := by
  unfold eTwo; rw [h1]; dsimp only; rw [h2]; dsimp only; rw [h3]
theorem tTwo_of {f : List D → Option D} {l r : EM} {vs : Vars} {c c1 c2 : MU} {x y : D} {b : Bool} (h1 : l vs c = some (.d x, c1)) (h2 : r vs c1 = some (.d y, c2)) (h3 : f [x, y] = some (.bool b)) : tTwo f l r vs c = some (b, c2) := by
  unfold tTwo; rw [eTwo_of h1 h2 h3]
theorem tOr_of {a b : TM} {vs : Vars} {c : MU} {u v : Bool} (h1 : a vs c = some (u, c)) (h2 : b vs c = some (v, c)) : tOr a b vs c = some (u || v, c) := by
  unfold tOr; rw [h1]; cases u <;> simp [h2]
theorem tAnd_of {a b : TM} {vs : Vars} {c : MU} {u v : Bool} (h1 : a vs c = some (u, c)) (h2 : b vs c = some (v, c)) : tAnd a b vs c = some (u && v, c) := by
  unfold tAnd; rw [h1]; cases u <;> simp [h2]
theorem sSeq_of {a b : SM} {vs vs1 : Vars} {c c1 : MU} {r : Option (Fl × Vars × MU)} (h1 : a vs c = some (.next, vs1, c1)) (h2 : b vs1 c1 = r) : sSeq a b vs c = r := by
  unfold sSeq; rw [h1]; exact h2
theorem sSet_of {i : Nat} {e : EM} {vs : Vars} {c c1 : MU} {d : V} (h : e vs c = some (d, c1)) : sSet i e vs c = some (.next, vs.set i (some d), c1) := by
  unfold sSet; rw [h]
def base8 : List Int := [3, 5, 1, 0, 6, 2, 9, 4]
theorem asInts_map : ∀ ns : List Int, asInts (ns.map .int) = some ns
  | [] => rfl
  | n :: ns => by simp only [List.map_cons, asInts, asInts_map ns]
theorem pick_ints (ns : List Int) : ∀ idx : List Nat, idx.filterMap ((ns.map D.int)[·]?) = (idx.filterMap (ns[·]?)).map D.int
  | [] => rfl
  | i :: idx => by
    cases e : ns[i]? with
    | none =>
      have e' : (ns.map D.int)[i]? = none := by rw [List.getElem?_map, e]; rfl
      rw [List.filterMap_cons_none e, List.filterMap_cons_none e', pick_ints ns idx]
    | some d =>
      have e' : (ns.map D.int)[i]? = some (.int d) := by rw [List.getElem?_map, e]; rfl
      rw [List.filterMap_cons_some e, List.filterMap_cons_some e', pick_ints ns idx, List.map_cons]
def drawX (ns : List Int) (k : Nat) : Int := base8.getD k 0 + ((pickIdx (some (k : Int)) (some 60) (some 8) ns.length).filterMap (ns[·]?)).sum
def drawQ (ns : List Int) (k : Nat) : Nat := (((drawX ns k).fdiv 2).fmod 4).toNat
def drawO (ns : List Int) (k : Nat) : Bool := (drawX ns k).fmod 2 == 1
theorem fmod4 (x : Int) : 0 ≤ x.fmod 4 ∧ x.fmod 4 < 4 := ⟨Int.fmod_nonneg_of_pos _ (by decide), Int.fmod_lt_of_pos _ (by decide)⟩
theorem draw_at {ns : List Int} (hl : ns.length ≤ 1000) {k : Nat} (hk : k < 8) {C B p5 p6 : Option V} {ps : List D} :
    eDraw [some (.d (.list (ns.map .int))), C, some .own, B, some (.d (.int k)), p5, p6] (.list ps) = some (.d (.int (drawX ns k)), .list ps) := by
  have h1 : eTwo fIdx (eList (aCons (eInt 3) (aCons (eInt 5) (aCons (eInt 1) (aCons (eInt 0) (aCons (eInt 6) (aCons (eInt 2) (aCons (eInt 9) (aCons (eInt 4) aNil))))))))) (eVar 4) [some (.d (.list (ns.map .int))), C, some .own, B, some (.d (.int k)), p5, p6] (.list ps) = some (.d (.int (base8.getD k 0)), .list ps) := by
    show (match fIdx [.list (base8.map .int), .int (k : Int)] with | some d => some (V.d d, MU.list ps) | none => none) = _
    have : fIdx [.list (base8.map .int), .int (k : Int)] = some (.int (base8.getD k 0)) := by
      show (if (0 : Int) ≤ (k : Int) ∧ (k : Int) ≤ 1000 then (base8.map D.int)[(k : Int).toNat]? else none) = _
      rw [if_pos (by omega), Int.toNat_natCast, List.getElem?_map]
      have hb : base8[k]? = some (base8.getD k 0) := by
        have hk' : k < base8.length := hk
        rw [List.getD_eq_getElem?_getD, List.getElem?_eq_getElem hk']; rfl
      rw [hb]; rfl
    rw [this]
  have h2 : eCall fSum (aCons (eSlice fSlice (eVar 0) (eVar 4) (eInt 60) (eInt 8)) aNil) [some (.d (.list (ns.map .int))), C, some .own, B, some (.d (.int k)), p5, p6] (.list ps) =
      some (.d (.int ((pickIdx (some (k : Int)) (some 60) (some 8) ns.length).filterMap (ns[·]?)).sum), .list ps) := by
    have h3 : fSlice [.list (ns.map .int), .int (k : Int), .int 60, .int 8] = some (.list (((pickIdx (some (k : Int)) (some 60) (some 8) ns.length).filterMap (ns[·]?)).map .int)) := by
      show (if (some (8 : Int)) ≠ some 0 ∧ (ns.map D.int).length ≤ 1000 then some (D.list ((pickIdx (some (k : Int)) (some 60) (some 8) (ns.map D.int).length).filterMap ((ns.map D.int)[·]?))) else none) = _
      rw [if_pos ⟨by decide, by simpa using hl⟩, List.length_map, pick_ints]
    have h4 : eSlice fSlice (eVar 0) (eVar 4) (eInt 60) (eInt 8) [some (.d (.list (ns.map .int))), C, some .own, B, some (.d (.int k)), p5, p6] (.list ps) = some (.d (.list (((pickIdx (some (k : Int)) (some 60) (some 8) ns.length).filterMap (ns[·]?)).map .int)), .list ps) := by
      show (match fSlice [.list (ns.map .int), .int (k : Int), .int 60, .int 8] with | some d => some (V.d d, MU.list ps) | none => none) = _
      rw [h3]
    simp only [eCall, aCons, aNil, h4, fSum, asInts_map]
  exact eTwo_of h1 h2 rfl
theorem quoted_at {x : Int} {S C B K p6 : Option V} {ps : List D} :
    eQuoted [S, C, some .own, B, K, some (.d (.int x)), p6] (.list ps) = some (.d (.str (qText ((x.fdiv 2).fmod 4).toNat)), .list ps) := by
  have hq := fmod4 (x.fdiv 2)
  have h0 : eTwo fDiv2 (eVar 5) (eInt 2) [S, C, some .own, B, K, some (.d (.int x)), p6] (.list ps) = some (.d (.int (x.fdiv 2)), .list ps) := eTwo_of (x := .int x) (y := .int 2) rfl rfl rfl
  have h1 : eTwo fMod (eTwo fDiv2 (eVar 5) (eInt 2)) (eInt 4) [S, C, some .own, B, K, some (.d (.int x)), p6] (.list ps) = some (.d (.int ((x.fdiv 2).fmod 4)), .list ps) := eTwo_of (x := .int (x.fdiv 2)) (y := .int 4) h0 rfl rfl
  generalize (x.fdiv 2).fmod 4 = q at hq h1 ⊢
  obtain ⟨n, rfl⟩ := Int.eq_ofNat_of_zero_le hq.1
  have hn : n < 4 := by omega
  refine eTwo_of (x := .list [.str [], .str [34, 40, 40, 34], .str [34, 92, 34, 41, 34], .str [34, 34, 32, 34, 41, 34]]) rfl h1 ?_
  match n, hn with
  | 0, _ => rfl
  | 1, _ => rfl
  | 2, _ => rfl
  | 3, _ => rfl
def bOf (calls : Nat) (o : Nat → Bool) (k b : Nat) : Bool := (2 * b == k) || (o k && decide (b < calls))
theorem begin_at {ns : List Int} {calls k b : Nat} (hb : b ≤ 100) {S p6 : Option V} {ps : List D} :
    tBegin [S, some (.d (.int calls)), some .own, some (.d (.int b)), some (.d (.int k)), some (.d (.int (drawX ns k))), p6] (.list ps) = some (bOf calls (drawO ns) k b, .list ps) := by
  generalize hx : drawX ns k = x
  have ho : drawO ns k = (x.fmod 2 == 1) := by unfold drawO; rw [hx]
  have hm : fMul2 [.int 2, .int (b : Int)] = some (.int (2 * (b : Int))) := by
    show (if (b : Int).natAbs ≤ 1000 then some (D.int (2 * (b : Int))) else none) = _
    rw [if_pos (by omega)]
  have h1 : tTwo fEq (eTwo fMul2 (eInt 2) (eVar 3)) (eVar 4) [S, some (.d (.int calls)), some .own, some (.d (.int b)), some (.d (.int k)), some (.d (.int x)), p6] (.list ps) = some ((2 * b == k), .list ps) := by
    refine tTwo_of (eTwo_of (x := .int 2) (y := .int (b : Int)) rfl rfl hm) (y := .int (k : Int)) rfl ?_
    show some (D.bool ((2 * (b : Int)) == (k : Int))) = _
    congr 2
    rw [Bool.eq_iff_iff]
    simp
    omega
  have h2 : tTwo fEq (eTwo fMod (eVar 5) (eInt 2)) (eInt 1) [S, some (.d (.int calls)), some .own, some (.d (.int b)), some (.d (.int k)), some (.d (.int x)), p6] (.list ps) = some ((x.fmod 2 == 1), .list ps) :=
    tTwo_of (eTwo_of (x := .int x) (y := .int 2) rfl rfl rfl) (y := .int 1) rfl rfl
  have h3 : tTwo fLt (eVar 3) (eVar 1) [S, some (.d (.int calls)), some .own, some (.d (.int b)), some (.d (.int k)), some (.d (.int x)), p6] (.list ps) = some (decide (b < calls), .list ps) := by
    refine tTwo_of (x := .int (b : Int)) (y := .int (calls : Int)) rfl rfl ?_
    show some (D.bool (decide ((b : Int) < (calls : Int)))) = _
    congr 2
    simp
  have := tOr_of h1 (tOr_of (tAnd_of h2 (tAnd_of h3 (b := tConst true) (v := true) rfl)) (b := tConst false) (v := false) rfl)
  unfold tBegin bOf
  rw [this, ho]
  simp
theorem qText_len (q : Nat) : (qText q).length ≤ 6 := by
  match q with
  | 0 => decide
  | 1 => decide
  | 2 => decide
  | q + 3 => show ([34, 34, 32, 34, 41, 34] : List Nat).length ≤ 6; decide
theorem piece_at {S C B K X : Option V} {q c : Nat} {ps : List D} (hp : ps.length ≤ 100) :
    sExp (eAppend 2 (aCons (eTwo fAdd (eVar 6) (eStr [c])) aNil)) [S, C, some .own, B, K, X, some (.d (.str (qText q)))] (.list ps) = some (.next, [S, C, some .own, B, K, X, some (.d (.str (qText q)))], .list (ps ++ [.str (qText q ++ [c])])) := by
  have h1 : eTwo fAdd (eVar 6) (eStr [c]) [S, C, some .own, B, K, X, some (.d (.str (qText q)))] (.list ps) = some (.d (.str (qText q ++ [c])), .list ps) := by
    refine eTwo_of (x := .str (qText q)) (y := .str [c]) rfl rfl ?_
    show (if (qText q).length + [c].length ≤ 1000 then some (D.str (qText q ++ [c])) else none) = _
    rw [if_pos (by have := qText_len q; simp; omega)]
  have h2 : aCons (eTwo fAdd (eVar 6) (eStr [c])) aNil [S, C, some .own, B, K, X, some (.d (.str (qText q)))] (.list ps) = some ([.str (qText q ++ [c])], .list ps) := by
    unfold aCons; rw [h1]; rfl
  unfold sExp eAppend
  simp only [List.getElem?_cons_succ, List.getElem?_cons_zero, h2, if_pos hp]
theorem turn_at {ns : List Int} (hl : ns.length ≤ 1000) {calls k b : Nat} (hk : k < 8) (hb : b ≤ 100) {p5 p6 : Option V} {ps : List D} (hp : ps.length ≤ 100) :
    mRepTurn [some (.d (.list (ns.map .int))), some (.d (.int calls)), some .own, some (.d (.int b)), some (.d (.int k)), p5, p6] (.list ps) =
      some (.next, [some (.d (.list (ns.map .int))), some (.d (.int calls)), some .own, some (.d (.int ((if bOf calls (drawO ns) k b then b + 1 else b : Nat) : Int))), some (.d (.int k)), some (.d (.int (drawX ns k))), some (.d (.str (qText (drawQ ns k))))], .list (ps ++ [.str (pText (drawQ ns k) (bOf calls (drawO ns) k b))])) := by
  unfold mRepTurn
  refine sSeq_of (sSet_of (draw_at hl hk)) (sSeq_of (sSet_of quoted_at) (sSeq_of (a := sIf _ _ _) (vs1 := _) (c1 := _) (?_ : sIf _ _ _ _ _ = some (.next, _, _)) rfl))
  show sIf tBegin _ _ [some (.d (.list (ns.map .int))), some (.d (.int calls)), some .own, some (.d (.int b)), some (.d (.int k)), some (.d (.int (drawX ns k))), some (.d (.str (qText (drawQ ns k))))] (.list ps) = _
  unfold sIf
  rw [begin_at hb]
  cases hbo : bOf calls (drawO ns) k b with
  | true =>
    dsimp only
    refine sSeq_of (piece_at hp) ?_
    rfl
  | false =>
    dsimp only
    exact sSeq_of (piece_at hp) rfl
end Mine
end
section
open PySem PySem.Calls PySem.W PyProof.Rows PySem.Builtin PySem.Builtin.List
set_option Elab.async false
set_option maxRecDepth 100000
namespace Mine
/-! dicts compared -/
theorem hits_of {w : World} {A : Around} {s : Shared} {P : Addr → Prop} {eb : List (List Nat × D)} {kb : List (PySem.Str × Value)} (hb : Rkv w P s.heap eb kb) :
    ∀ {ea : List (List Nat × D)} {ka : List (PySem.Str × Value)} {t : Bool}, Rkv w P s.heap ea ka → sameD ea eb = some t → KeqHits A s kb ka t
  | [], _, t, x, h => by
    rw [show _ = [] from x]
    cases h
    exact .nil
  | (k, d) :: ea, _, t, x, h => by
    obtain ⟨v, r, rfl, hd, hr⟩ := x
    have hg := Rkv.get (k := k) hb
    cases d with
    | int i =>
      obtain ⟨tk, rfl⟩ := rd_int hd
      unfold sameD at h
      cases e : getD? eb k with
      | none =>
        rw [e] at h hg
        cases h
        exact .miss hg
      | some d' =>
        rw [e] at h hg
        obtain ⟨y, hy, hyd⟩ := hg
        cases d' with
        | int j =>
          obtain ⟨u, rfl⟩ := rd_int hyd
          dsimp only at h
          split at h
          · rename_i t' e'
            cases h
            exact .hit hy (SeqAt.EqAt.int_int i tk j u) (hits_of hb hr e')
          · cases h
        | _ => cases h
    | _ => cases h
theorem spec_eqDict : Spec 0 (tCmp .Eq) fEqDict := by
  intro w A s P vs ds d G B hr hf
  unfold fEqDict at hf
  split at hf
  · rename_i ea eb
    split at hf
    · rename_i hok
      split at hf
      · rename_i t e
        cases hf
        obtain ⟨x, y, rfl, hx, hy⟩ := hr.two
        obtain ⟨a, ensA, na, rfl, hpa, hna, hga, hra⟩ := rd_dict hx
        obtain ⟨b, ensB, nb, rfl, hpb, hnb, hgb, hrb⟩ := rd_dict hy
        obtain ⟨ka, da, rka⟩ := hra.dictOf (okDict_spec hok.1).1 hga
        obtain ⟨kb, db, rkb⟩ := hrb.dictOf (okDict_spec hok.2).1 hgb
        refine keq_eq hna hnb da db (by have := G.units; have : cLine = 9900 := rfl; omega) (fun _ => hits_of rkb rka e) ?_
        rw [rka.length, rkb.length]
        exact post_bool
      · cases hf
    · cases hf
  · cases hf
end Mine
end
section
open PySem PySem.Calls PySem.W PyProof.Rows PySem.Builtin PySem.Builtin.List
set_option Elab.async false
set_option maxRecDepth 100000
namespace Mine
def eIf (t : TM) (a b : EM) : EM := fun vs c => match t vs c with
  | some (true, c') => a vs c'
  | some (false, c') => b vs c'
  | none => none
theorem refE_ifexp {cx : Cx} {t a b : Expr} {pos : Pos} {mt : TM} {ma mb : EM} (ht : RefT cx t mt) (ha : RefE cx a ma) (hb : RefE cx b mb) : RefE cx (.IfExp t a b pos) (eIf mt ma mb) := by
  intro vs c d c' mu s hm R
  unfold eIf at hm
  split at hm
  · rename_i c1 e1
    refine wpAny_IfExp (wpAny_mono (ht _ c _ _ mu s e1 R) (fun b' s₁ h1 => ?_) fun _ _ e => e)
    rw [h1.eq, if_pos rfl]
    exact wpAny_mono (ha _ _ _ _ mu s₁ hm h1.rel) (fun _ s₂ h2 => ⟨h2.rel, h1.stp.trans h2.stp, h2.rv⟩) fun _ _ e => e
  · rename_i c1 e1
    refine wpAny_IfExp (wpAny_mono (ht _ c _ _ mu s e1 R) (fun b' s₁ h1 => ?_) fun _ _ e => e)
    rw [h1.eq, if_neg Bool.false_ne_true]
    exact wpAny_mono (hb _ _ _ _ mu s₁ hm h1.rel) (fun _ s₂ h2 => ⟨h2.rel, h1.stp.trans h2.stp, h2.rv⟩) fun _ _ e => e
  · cases hm
end Mine
end
section
open PySem PySem.Calls PySem.W PyProof.Rows PySem.Builtin PySem.Builtin.List
set_option Elab.async false
set_option maxRecDepth 100000
namespace Mine
/-- the brackets of the turns -/
def goShape (calls : Nat) (o : Nat → Bool) : Nat → Nat → Nat → List (Nat × Bool)
  | 0, _, _ => []
  | m + 1, k, b => (k, bOf calls o k b) :: goShape calls o m (k + 1) (if bOf calls o k b then b + 1 else b)
theorem goShape_congr {calls : Nat} {o o' : Nat → Bool} : ∀ (m k b : Nat), (∀ i, k ≤ i → i < k + m → o i = o' i) → goShape calls o m k b = goShape calls o' m k b
  | 0, _, _, _ => rfl
  | m + 1, k, b, h => by
    have e : bOf calls o k b = bOf calls o' k b := by unfold bOf; rw [h k (Nat.le_refl _) (by omega)]
    unfold goShape
    rw [e, goShape_congr m (k + 1) _ fun i h1 h2 => h i (by omega) (by omega)]
theorem loop_at {ns : List Int} (hl : ns.length ≤ 1000) {calls : Nat} : ∀ (m k b : Nat) (p4 p5 p6 : Option V) (ps : List D), k + m ≤ 8 → b ≤ k → ps.length ≤ k →
    ∃ v3 v4 v5 v6, forM (tgName 4) mRepTurn ((List.range' k m).map fun i => .int ((i : Nat) : Int)) [some (.d (.list (ns.map .int))), some (.d (.int calls)), some .own, some (.d (.int b)), p4, p5, p6] (.list ps) =
      some (.next, [some (.d (.list (ns.map .int))), some (.d (.int calls)), some .own, v3, v4, v5, v6], .list (ps ++ (goShape calls (drawO ns) m k b).map fun e => .str (pText (drawQ ns e.1) e.2)))
  | 0, k, b, p4, p5, p6, ps, _, _, _ => ⟨_, _, _, _, by simp only [List.range'_zero, List.map_nil, forM, goShape, List.append_nil]; rfl⟩
  | m + 1, k, b, p4, p5, p6, ps, h1, h2, h3 => by
    obtain ⟨v3, v4, v5, v6, e⟩ := loop_at hl (calls := calls) m (k + 1) (if bOf calls (drawO ns) k b then b + 1 else b) (some (.d (.int k))) (some (.d (.int (drawX ns k)))) (some (.d (.str (qText (drawQ ns k)))))
      (ps ++ [.str (pText (drawQ ns k) (bOf calls (drawO ns) k b))]) (by omega) (by split <;> omega) (by simp; omega)
    refine ⟨v3, v4, v5, v6, ?_⟩
    rw [List.range'_succ, List.map_cons]
    unfold forM
    show (match mRepTurn [some (.d (.list (ns.map .int))), some (.d (.int calls)), some .own, some (.d (.int b)), some (.d (.int (k : Int))), p5, p6] (.list ps) with
      | some (.next, vs2, c2) => forM (tgName 4) mRepTurn _ vs2 c2
      | some (.ret d, vs2, c2) => some (.ret d, vs2, c2)
      | none => none) = _
    rw [turn_at hl (by omega) (by omega) (by omega)]
    dsimp only
    rw [e]
    simp [goShape]
def fReply : List D → Option D
  | [.list ds, .int c] => (match asInts ds with
    | some ns => if ns.length ≤ 1000 ∧ 0 ≤ c ∧ c ≤ 4 then some (.list ((goShape c.toNat (drawO ns) (2 * c.toNat) 0 0).map fun e => .pc (drawQ ns e.1) e.2)) else none
    | none => none)
  | _ => none
theorem asInts_inv : ∀ {ds : List D} {ns : List Int}, asInts ds = some ns → ds = ns.map .int
  | [], _, e => by cases e; rfl
  | .int i :: ds, _, e => by
    unfold asInts at e
    split at e
    · rename_i l el
      cases e
      rw [asInts_inv el]; rfl
    · cases e
  | .none :: _, _, e | .bool _ :: _, _, e | .str _ :: _, _, e | .bytes _ :: _, _, e | .tup _ :: _, _, e | .list _ :: _, _, e | .dict _ :: _, _, e | .pc _ _ :: _, _, e | .pcb _ _ :: _, _, e => by simp [asInts] at e
theorem mRep_at {ns : List Int} (hl : ns.length ≤ 1000) {calls : Nat} (hc : calls ≤ 4) :
    fnM 2 7 mRep [.list (ns.map .int), .int calls] = some (.list ((goShape calls (drawO ns) (2 * calls) 0 0).map fun e => .str (pText (drawQ ns e.1) e.2))) := by
  obtain ⟨v3, v4, v5, v6, e⟩ := loop_at hl (calls := calls) (2 * calls) 0 0 none none none [] (by omega) (Nat.le_refl _) (Nat.le_refl _)
  have hf : sFor (iRange (aCons (eTwo fMul2 (eInt 2) (eVar 1)) aNil)) (tgName 4) mRepTurn [some (.d (.list (ns.map .int))), some (.d (.int calls)), some .own, some (.d (.int 0)), none, none, none] (.list []) =
      some (.next, [some (.d (.list (ns.map .int))), some (.d (.int calls)), some .own, v3, v4, v5, v6], .list ((goShape calls (drawO ns) (2 * calls) 0 0).map fun e => .str (pText (drawQ ns e.1) e.2))) := by
    have hm : fMul2 [.int 2, .int (calls : Int)] = some (.int (2 * (calls : Int))) := by
      show (if (calls : Int).natAbs ≤ 1000 then some (D.int (2 * (calls : Int))) else none) = _
      rw [if_pos (by omega)]
    have h1 : eTwo fMul2 (eInt 2) (eVar 1) [some (.d (.list (ns.map .int))), some (.d (.int calls)), some .own, some (.d (.int 0)), none, none, none] (.list []) = some (.d (.int (2 * (calls : Int))), .list []) := eTwo_of (x := .int 2) (y := .int (calls : Int)) rfl rfl hm
    have hr : rangeOf [.int (2 * (calls : Int))] = some ((List.range' 0 (2 * calls)).map fun i => .int ((i : Nat) : Int)) := by
      show (if -1000 ≤ (2 * (calls : Int)) ∧ (2 * (calls : Int)) ≤ 1000 then some (rangeD 0 (2 * (calls : Int)).toNat) else none) = _
      rw [if_pos (by omega), show (2 * (calls : Int)).toNat = 2 * calls by omega]
      unfold rangeD
      rw [List.range_eq_range']
      congr 2
      funext i
      simp
    unfold sFor iRange aCons
    rw [h1]
    simp only [aNil, hr]
    simpa using e
  have hall : mRep [some (.d (.list (ns.map .int))), some (.d (.int calls)), none, none, none, none, none] .none =
      some (.ret .own, [some (.d (.list (ns.map .int))), some (.d (.int calls)), some .own, v3, v4, v5, v6], .list ((goShape calls (drawO ns) (2 * calls) 0 0).map fun e => .str (pText (drawQ ns e.1) e.2))) := by
    unfold mRep sNew
    show sSeq (sSet 3 (eInt 0)) _ [some (.d (.list (ns.map .int))), some (.d (.int calls)), some .own, none, none, none, none] (.list []) = _
    exact sSeq_of (sSet_of rfl) (sSeq_of hf rfl)
  show (match mRep [some (.d (.list (ns.map .int))), some (.d (.int calls)), none, none, none, none, none] .none with
    | some (.ret d, _, c) => retD d c
    | some (.next, _, _) => some .none
    | none => none) = _
  rw [hall]
  rfl
theorem rds_pc {w : World} {P : Addr → Prop} {h : Heap} {q : Nat → Nat} : ∀ {l : List (Nat × Bool)} {vs : List Value}, Rds w P h (l.map fun e => .str (pText (q e.1) e.2)) vs → Rds w P h (l.map fun e => .pc (q e.1) e.2) vs
  | [], _, x => x
  | e :: l, _, x => by
    obtain ⟨v, r, rfl, hd, hr⟩ := x.cons_inv
    exact Rds.cons (by obtain ⟨t, rfl⟩ := rd_str hd; exact ⟨t, rfl⟩) (rds_pc hr)
theorem spec_reply : Spec 1 (fun vs => call (.ref 168) vs) fReply := by
  intro w A s P vs ds d G B hr hf
  unfold fReply at hf
  split at hf
  · rename_i dl c
    split at hf
    · rename_i ns e
      split at hf
      · rename_i hc
        cases hf
        obtain ⟨k, rfl⟩ := Int.eq_ofNat_of_zero_le hc.2.1
        rw [asInts_inv e] at hr
        refine wpAny_mono (spec_reply0 w A s P vs _ _ G B hr (mRep_at hc.1 (calls := k) (by omega))) (fun v s' h => ⟨h.1, ?_⟩) fun _ _ e => e
        obtain ⟨a, us, n, rfl, hp, hg, hrr⟩ := rd_list h.2
        show Rd _ _ _ _ _
        simp only [Rd]
        refine ⟨a, us, n, rfl, hp, hg, ?_⟩
        rw [Int.toNat_natCast]
        exact rds_pc hrr
      · cases hf
    · cases hf
  · cases hf
/-! the shapes -/
def at8 (l : List Bool) (i : Nat) : Bool := l.getD i false
def dyck3 : List (List (Nat × Bool)) := ([[true, true, true, false, false, false], [true, true, false, true, false, false], [true, true, false, false, true, false], [true, false, true, true, false, false], [true, false, true, false, true, false]] : List (List Bool)).map fun l => (List.range 6).zip l
def dyck4 : List (List (Nat × Bool)) := ([[true, true, true, true, false, false, false, false], [true, true, true, false, true, false, false, false], [true, true, true, false, false, true, false, false], [true, true, true, false, false, false, true, false],
  [true, true, false, true, true, false, false, false], [true, true, false, true, false, true, false, false], [true, true, false, true, false, false, true, false], [true, true, false, false, true, true, false, false], [true, true, false, false, true, false, true, false],
  [true, false, true, true, true, false, false, false], [true, false, true, true, false, true, false, false], [true, false, true, true, false, false, true, false], [true, false, true, false, true, true, false, false], [true, false, true, false, true, false, true, false]] : List (List Bool)).map fun l => (List.range 8).zip l
theorem mem3 : ∀ a b c d e f : Bool, goShape 3 (at8 [a, b, c, d, e, f]) 6 0 0 ∈ dyck3 := by decide +kernel
theorem mem4 : ∀ a b c d e f g h : Bool, goShape 4 (at8 [a, b, c, d, e, f, g, h]) 8 0 0 ∈ dyck4 := by decide +kernel
theorem shape3 (o : Nat → Bool) : goShape 3 o 6 0 0 ∈ dyck3 := by
  rw [goShape_congr (o' := at8 [o 0, o 1, o 2, o 3, o 4, o 5]) 6 0 0 (fun i _ h => by
    match i, h with
    | 0, _ | 1, _ | 2, _ | 3, _ | 4, _ | 5, _ => rfl)]
  exact mem3 ..
theorem shape4 (o : Nat → Bool) : goShape 4 o 8 0 0 ∈ dyck4 := by
  rw [goShape_congr (o' := at8 [o 0, o 1, o 2, o 3, o 4, o 5, o 6, o 7]) 8 0 0 (fun i _ h => by
    match i, h with
    | 0, _ | 1, _ | 2, _ | 3, _ | 4, _ | 5, _ | 6, _ | 7, _ => rfl)]
  exact mem4 ..
end Mine
end
section
open PySem PySem.Calls PySem.W PyProof.Rows PySem.Builtin PySem.Builtin.List
set_option Elab.async false
set_option maxRecDepth 100000
namespace Mine
/-! the law on each shape, by the kernel -/
theorem ev3_0 (q : Nat → Nat) : fRest 9 (.list [.pc (q 0) true, .pc (q 1) true, .pc (q 2) true, .pc (q 3) false, .pc (q 4) false, .pc (q 5) false]) = some (.bool true) := by kernel_rfl
theorem ev3_1 (q : Nat → Nat) : fRest 9 (.list [.pc (q 0) true, .pc (q 1) true, .pc (q 2) false, .pc (q 3) true, .pc (q 4) false, .pc (q 5) false]) = some (.bool true) := by kernel_rfl
theorem ev3_2 (q : Nat → Nat) : fRest 9 (.list [.pc (q 0) true, .pc (q 1) true, .pc (q 2) false, .pc (q 3) false, .pc (q 4) true, .pc (q 5) false]) = some (.bool true) := by kernel_rfl
theorem ev3_3 (q : Nat → Nat) : fRest 9 (.list [.pc (q 0) true, .pc (q 1) false, .pc (q 2) true, .pc (q 3) true, .pc (q 4) false, .pc (q 5) false]) = some (.bool true) := by kernel_rfl
theorem ev3_4 (q : Nat → Nat) : fRest 9 (.list [.pc (q 0) true, .pc (q 1) false, .pc (q 2) true, .pc (q 3) false, .pc (q 4) true, .pc (q 5) false]) = some (.bool true) := by kernel_rfl
theorem eval3 (q : Nat → Nat) : ∀ sh ∈ dyck3, fRest 9 (.list (sh.map fun e => .pc (q e.1) e.2)) = some (.bool true) := by
  intro sh h
  rw [show dyck3 = [[(0, true), (1, true), (2, true), (3, false), (4, false), (5, false)], [(0, true), (1, true), (2, false), (3, true), (4, false), (5, false)], [(0, true), (1, true), (2, false), (3, false), (4, true), (5, false)], [(0, true), (1, false), (2, true), (3, true), (4, false), (5, false)], [(0, true), (1, false), (2, true), (3, false), (4, true), (5, false)]] from rfl] at h
  simp only [List.mem_cons, List.not_mem_nil, or_false] at h
  rcases h with rfl | rfl | rfl | rfl | rfl
  · exact ev3_0 q
  · exact ev3_1 q
  · exact ev3_2 q
  · exact ev3_3 q
  · exact ev3_4 q
theorem ev4_0 (q : Nat → Nat) : fRest 9 (.list [.pc (q 0) true, .pc (q 1) true, .pc (q 2) true, .pc (q 3) true, .pc (q 4) false, .pc (q 5) false, .pc (q 6) false, .pc (q 7) false]) = some (.bool true) := by kernel_rfl
theorem ev4_1 (q : Nat → Nat) : fRest 9 (.list [.pc (q 0) true, .pc (q 1) true, .pc (q 2) true, .pc (q 3) false, .pc (q 4) true, .pc (q 5) false, .pc (q 6) false, .pc (q 7) false]) = some (.bool true) := by kernel_rfl
theorem ev4_2 (q : Nat → Nat) : fRest 9 (.list [.pc (q 0) true, .pc (q 1) true, .pc (q 2) true, .pc (q 3) false, .pc (q 4) false, .pc (q 5) true, .pc (q 6) false, .pc (q 7) false]) = some (.bool true) := by kernel_rfl
theorem ev4_3 (q : Nat → Nat) : fRest 9 (.list [.pc (q 0) true, .pc (q 1) true, .pc (q 2) true, .pc (q 3) false, .pc (q 4) false, .pc (q 5) false, .pc (q 6) true, .pc (q 7) false]) = some (.bool true) := by kernel_rfl
theorem ev4_4 (q : Nat → Nat) : fRest 9 (.list [.pc (q 0) true, .pc (q 1) true, .pc (q 2) false, .pc (q 3) true, .pc (q 4) true, .pc (q 5) false, .pc (q 6) false, .pc (q 7) false]) = some (.bool true) := by kernel_rfl
theorem ev4_5 (q : Nat → Nat) : fRest 9 (.list [.pc (q 0) true, .pc (q 1) true, .pc (q 2) false, .pc (q 3) true, .pc (q 4) false, .pc (q 5) true, .pc (q 6) false, .pc (q 7) false]) = some (.bool true) := by kernel_rfl
theorem ev4_6 (q : Nat → Nat) : fRest 9 (.list [.pc (q 0) true, .pc (q 1) true, .pc (q 2) false, .pc (q 3) true, .pc (q 4) false, .pc (q 5) false, .pc (q 6) true, .pc (q 7) false]) = some (.bool true) := by kernel_rfl
theorem ev4_7 (q : Nat → Nat) : fRest 9 (.list [.pc (q 0) true, .pc (q 1) true, .pc (q 2) false, .pc (q 3) false, .pc (q 4) true, .pc (q 5) true, .pc (q 6) false, .pc (q 7) false]) = some (.bool true) := by kernel_rfl
theorem ev4_8 (q : Nat → Nat) : fRest 9 (.list [.pc (q 0) true, .pc (q 1) true, .pc (q 2) false, .pc (q 3) false, .pc (q 4) true, .pc (q 5) false, .pc (q 6) true, .pc (q 7) false]) = some (.bool true) := by kernel_rfl
theorem ev4_9 (q : Nat → Nat) : fRest 9 (.list [.pc (q 0) true, .pc (q 1) false, .pc (q 2) true, .pc (q 3) true, .pc (q 4) true, .pc (q 5) false, .pc (q 6) false, .pc (q 7) false]) = some (.bool true) := by kernel_rfl
theorem ev4_10 (q : Nat → Nat) : fRest 9 (.list [.pc (q 0) true, .pc (q 1) false, .pc (q 2) true, .pc (q 3) true, .pc (q 4) false, .pc (q 5) true, .pc (q 6) false, .pc (q 7) false]) = some (.bool true) := by kernel_rfl
theorem ev4_11 (q : Nat → Nat) : fRest 9 (.list [.pc (q 0) true, .pc (q 1) false, .pc (q 2) true, .pc (q 3) true, .pc (q 4) false, .pc (q 5) false, .pc (q 6) true, .pc (q 7) false]) = some (.bool true) := by kernel_rfl
theorem ev4_12 (q : Nat → Nat) : fRest 9 (.list [.pc (q 0) true, .pc (q 1) false, .pc (q 2) true, .pc (q 3) false, .pc (q 4) true, .pc (q 5) true, .pc (q 6) false, .pc (q 7) false]) = some (.bool true) := by kernel_rfl
theorem ev4_13 (q : Nat → Nat) : fRest 9 (.list [.pc (q 0) true, .pc (q 1) false, .pc (q 2) true, .pc (q 3) false, .pc (q 4) true, .pc (q 5) false, .pc (q 6) true, .pc (q 7) false]) = some (.bool true) := by kernel_rfl
theorem eval4 (q : Nat → Nat) : ∀ sh ∈ dyck4, fRest 9 (.list (sh.map fun e => .pc (q e.1) e.2)) = some (.bool true) := by
  intro sh h
  rw [show dyck4 = [[(0, true), (1, true), (2, true), (3, true), (4, false), (5, false), (6, false), (7, false)], [(0, true), (1, true), (2, true), (3, false), (4, true), (5, false), (6, false), (7, false)], [(0, true), (1, true), (2, true), (3, false), (4, false), (5, true), (6, false), (7, false)], [(0, true), (1, true), (2, true), (3, false), (4, false), (5, false), (6, true), (7, false)], [(0, true), (1, true), (2, false), (3, true), (4, true), (5, false), (6, false), (7, false)], [(0, true), (1, true), (2, false), (3, true), (4, false), (5, true), (6, false), (7, false)], [(0, true), (1, true), (2, false), (3, true), (4, false), (5, false), (6, true), (7, false)], [(0, true), (1, true), (2, false), (3, false), (4, true), (5, true), (6, false), (7, false)], [(0, true), (1, true), (2, false), (3, false), (4, true), (5, false), (6, true), (7, false)], [(0, true), (1, false), (2, true), (3, true), (4, true), (5, false), (6, false), (7, false)], [(0, true), (1, false), (2, true), (3, true), (4, false), (5, true), (6, false), (7, false)], [(0, true), (1, false), (2, true), (3, true), (4, false), (5, false), (6, true), (7, false)], [(0, true), (1, false), (2, true), (3, false), (4, true), (5, true), (6, false), (7, false)], [(0, true), (1, false), (2, true), (3, false), (4, true), (5, false), (6, true), (7, false)]] from rfl] at h
  simp only [List.mem_cons, List.not_mem_nil, or_false] at h
  rcases h with rfl | rfl | rfl | rfl | rfl | rfl | rfl | rfl | rfl | rfl | rfl | rfl | rfl | rfl
  · exact ev4_0 q
  · exact ev4_1 q
  · exact ev4_2 q
  · exact ev4_3 q
  · exact ev4_4 q
  · exact ev4_5 q
  · exact ev4_6 q
  · exact ev4_7 q
  · exact ev4_8 q
  · exact ev4_9 q
  · exact ev4_10 q
  · exact ev4_11 q
  · exact ev4_12 q
  · exact ev4_13 q
end Mine
end
section
open PySem PySem.Calls PySem.W PyProof.Rows PySem.Builtin PySem.Builtin.List
set_option Elab.async false
set_option maxRecDepth 100000
namespace Mine
/-! law -/
def vLaw : List (PySem.Str × Bool) := [("script", false), ("pieces", false), ("told", false)]
def mLaw : SM :=
  sSeq (sSet 1 (eCall fReply (aCons (eVar 0) (aCons (eIf (tTwo fLt (eCall fLen (aCons (eVar 0) aNil)) (eInt 2)) (eInt 3) (eInt 4)) aNil))))
  (sSeq (sSet 2 (eCall (fChoices 9) (aCons (eVar 1) (aCons (eInt 0) (aCons (eList aNil) (aCons (eList aNil) aNil))))))
  (sSeq (sRet (eTwo fEqDict (eVar 2) (eCall fDue (aCons (eCall fHts (aCons (eVar 1) aNil)) aNil)))) sNil))
theorem eCall_of {f : List D → Option D} {m : AM} {vs : Vars} {c c1 : MU} {ds : List D} {d : D} (h1 : m vs c = some (ds, c1)) (h2 : f ds = some d) : eCall f m vs c = some (.d d, c1) := by
  unfold eCall; rw [h1]; dsimp only; rw [h2]
theorem aCons_of {e : EM} {r : AM} {vs : Vars} {c c1 c2 : MU} {x : D} {ds : List D} (h1 : e vs c = some (.d x, c1)) (h2 : r vs c1 = some (ds, c2)) : aCons e r vs c = some (x :: ds, c2) := by
  unfold aCons; rw [h1]; dsimp only; rw [h2]
theorem mLaw_at {ns : List Int} (hl : ns.length ≤ 63) (he : ∀ c, c = (if ns.length < 2 then 3 else 4) → fRest 9 (.list ((goShape c (drawO ns) (2 * c) 0 0).map fun e => .pc (drawQ ns e.1) e.2)) = some (.bool true)) :
    ∃ vs', mLaw [some (.d (.list (ns.map .int))), none, none] .none = some (.ret (.d (.bool true)), vs', .none) := by
  obtain ⟨c, hc⟩ : ∃ c : Nat, c = (if ns.length < 2 then 3 else 4) := ⟨_, rfl⟩
  have hr := he c hc
  have hc4 : c ≤ 4 := by rw [hc]; split <;> omega
  generalize hP : D.list ((goShape c (drawO ns) (2 * c) 0 0).map fun e => .pc (drawQ ns e.1) e.2) = P at hr
  unfold fRest at hr
  split at hr
  · rename_i told h e1 e2
    split at hr
    · rename_i due e3
      have r1 : fReply [.list (ns.map .int), .int (c : Int)] = some P := by
        show (match asInts (ns.map .int) with | some ns => if ns.length ≤ 1000 ∧ 0 ≤ (c : Int) ∧ (c : Int) ≤ 4 then some (D.list ((goShape (c : Int).toNat (drawO ns) (2 * (c : Int).toNat) 0 0).map fun (e : Nat × Bool) => D.pc (drawQ ns e.1) e.2)) else none | none => none) = _
        rw [asInts_map]
        dsimp only
        rw [if_pos (by omega), Int.toNat_natCast, hP]
      have l1 : fLen [.list (ns.map .int)] = some (.int ns.length) := by
        show (if (ns.map D.int).length ≤ 1000 then some (D.int ((ns.map D.int).length : Nat)) else none) = _
        rw [List.length_map, if_pos (by omega)]
      have t1 : tTwo fLt (eCall fLen (aCons (eVar 0) aNil)) (eInt 2) [some (.d (.list (ns.map .int))), none, none] .none = some (decide ((ns.length : Int) < 2), .none) :=
        tTwo_of (eCall_of (aCons_of rfl rfl) l1) rfl rfl
      have i1 : eIf (tTwo fLt (eCall fLen (aCons (eVar 0) aNil)) (eInt 2)) (eInt 3) (eInt 4) [some (.d (.list (ns.map .int))), none, none] .none = some (.d (.int (c : Int)), .none) := by
        unfold eIf
        rw [t1]
        by_cases hlt : ns.length < 2
        · rw [if_pos hlt] at hc
          rw [show decide ((ns.length : Int) < 2) = true by simpa using (by omega : (ns.length : Int) < 2), hc]
          rfl
        · rw [if_neg hlt] at hc
          rw [show decide ((ns.length : Int) < 2) = false by simpa using (by omega : ¬ (ns.length : Int) < 2), hc]
          rfl
      refine ⟨[some (.d (.list (ns.map .int))), some (.d P), some (.d told)], sSeq_of (sSet_of (eCall_of (aCons_of rfl (aCons_of i1 rfl)) r1)) (sSeq_of (sSet_of (eCall_of (aCons_of rfl (aCons_of rfl (aCons_of rfl (aCons_of rfl rfl)))) e1)) ?_)⟩
      have f1 : eTwo fEqDict (eVar 2) (eCall fDue (aCons (eCall fHts (aCons (eVar 1) aNil)) aNil)) [some (.d (.list (ns.map .int))), some (.d P), some (.d told)] .none = some (.d (.bool true), .none) :=
        eTwo_of rfl (eCall_of (aCons_of (eCall_of (aCons_of rfl rfl) e2) rfl) e3) hr
      show sSeq (sRet _) sNil [some (.d (.list (ns.map .int))), some (.d P), some (.d told)] .none = _
      unfold sSeq sRet
      rw [f1]
    · cases hr
  · cases hr
section
variable {w : World} {s₁ s : Shared} {L fa a : Addr} {cd : Value} {name : Str} {scope : Scope} {ns : List Int} {us : List Value} {body : List Stmt}
abbrev cxL (w : World) (name : Str) (scope : Scope) (s₁ : Shared) (fa : Addr) (cd : Value) : Cx :=
  ⟨w, callerA.deeper (envOf name scope s₁.heap.objs.size fa cd), envOf name scope s₁.heap.objs.size fa cd, s₁, vLaw, fun b => b < s₁.heap.objs.size⟩
theorem good_law (hk : scope.kind = .function) : Good 13 (cxL w name scope s₁ fa cd) := by
  have r : Room 14 callerA := ⟨rfl, by decide, by decide, ⟨_, rfl⟩⟩
  exact ⟨hk, rfl, rfl, r.deeper _⟩
theorem own_law : Own (cxL w name scope s₁ fa cd) where
  cfresh := fun n c h => (by cases h)
  apart := fun n n' c h => (by cases h)
  nodup := by show (vLaw.map (·.1)).Nodup; decide
theorem ints_rds {P : Addr → Prop} {h : Heap} : ∀ {us : List Value} {ns : List Int}, IntsAre us ns → Rds w P h (ns.map .int) us
  | _, _, .nil => Rds.nil
  | _, _, .cons _ _ r => Rds.cons ⟨_, rfl⟩ (ints_rds r)
theorem law_run {Q : Flow → Shared → Prop} {E : Value → Shared → Prop} {h₁ : Heap} {tk : Nat} {m : Str → Option Value} (B : HB w s₁.heap) (F : Fr s₁.heap s₁.heap.objs.size h₁ m) (hm : m "script" = some (.ref a))
    (hL : s₁.heap.get? a = some { cls := .type "list", data := .seq us.toArray }) (hI : IntsAre us ns) (hl : ns.length ≤ 63)
    (hB : RefB2 (cxL w name scope s₁ fa cd) body mLaw)
    (he : ∀ c, c = (if ns.length < 2 then 3 else 4) → fRest 9 (.list ((goShape c (drawO ns) (2 * c) 0 0).map fun e => .pc (drawQ ns e.1) e.2)) = some (.bool true))
    (hQ : ∀ h' tk', (∀ b o, s₁.heap.get? b = some o → h'.get? b = some o) → Q (.ret (.bool true)) { s₁ with heap := h', toks := tk' }) :
    wpAny (model prog w) (callerA.deeper (envOf name scope s₁.heap.objs.size fa cd)) (execs body (envOf name scope s₁.heap.objs.size fa cd)) Q E { s₁ with heap := h₁, toks := tk } := by
  obtain ⟨vs', em⟩ := mLaw_at hl he
  have R : Rel (cxL w name scope s₁ fa cd) [some (.d (.list (ns.map .int))), none, none] none .none { s₁ with heap := h₁, toks := tk } := by
    refine ⟨⟨m, fun _ => none, ⟨⟨_, _, rfl⟩, F.ns, F.keep, fun n c h => (by cases h)⟩, ?_⟩, rfl, fun b hb => hb.elim, Nat.le_refl _, B⟩
    intro i x b d h1 h2
    match i, h1, h2 with
    | 0, h1, h2 =>
      cases h1
      cases h2
      refine ⟨_, hm, ?_⟩
      show Rd _ _ _ _ _
      simp only [Rd]
      exact ⟨a, us, 0, rfl, ⟨.inl (Heap.lt_size hL), Nat.ne_of_lt (Heap.lt_size hL), fun n c h => (by cases h), fun h => h⟩, F.keep _ _ hL, ints_rds hI⟩
    | 1, h1, h2 => cases h2
    | 2, h1, h2 => cases h2
  refine wpAny_mono (hB _ _ _ _ _ em R) (fun fl s' h => ?_) fun _ _ e => e.elim
  obtain ⟨mu, R', hfl⟩ := h
  obtain ⟨v, rfl, hv⟩ := hfl
  have hv' : v = .bool true := rd_bool (show Rd w (Cx.Ok (cxL w name scope s₁ fa cd) mu) s'.heap (.bool true) v from hv)
  subst hv'
  obtain ⟨m', cm', F', _⟩ := R'.frm
  obtain ⟨h', tk', rfl⟩ := F'.same
  exact hQ h' tk' F'.keep
end
end Mine
end
section
open PySem PySem.Calls PySem.W PyProof.Rows PySem.Builtin PySem.Builtin.List
set_option Elab.async false
set_option maxRecDepth 100000
set_option maxHeartbeats 8000000
namespace Mine
theorem well_list {P : Params} {h : Heap} {a : Addr} {xs : List WData} (x : Well P h (.ref a) (.list xs)) : ∃ vs : List Value, h.get? a = some { cls := .type "list", data := .seq vs.toArray } := by
  cases x with
  | list e _ => exact ⟨_, e⟩
theorem hb_of {w : World} {h : Heap} {p : Program} {loose : List Str} {mean : ExcName → Option Value} {mg mb : Str → Option Value} (X : (KF w).In h) (T : Top p loose mean mg mb h) : HB w h := ⟨X, ⟨mg, mb, T.g, T.b, T.builtins⟩, T.nolimit, T.nodigits⟩
theorem he_of (ns : List Int) (c : Nat) (hc : c = (if ns.length < 2 then 3 else 4)) : fRest 9 (.list ((goShape c (drawO ns) (2 * c) 0 0).map fun e => .pc (drawQ ns e.1) e.2)) = some (.bool true) := by
  by_cases h : ns.length < 2
  · rw [if_pos h] at hc
    subst hc
    exact eval3 _ _ (shape3 _)
  · rw [if_neg h] at hc
    subst hc
    exact eval4 _ _ (shape4 _)
section
variable {w : World} {s₁ : Shared} {fa : Addr} {cd : Value} {name : Str}
end
theorem holds0 : PySem.Challenge.rw_xg0015_01.Holds := hd (by
  k_go0
  all_goals
    rename_i w s₀ s₁ mg mb G Y fa o pm doc kV ho hg KX X V GL T B TE TW _ _ M _ _ hcd ns hs hlay0 hL1 hr hl2 _ _ a us _ hL ra w1 r0 hI hr2 hc1 hc2 K0 hD h₁ F N0
    have HBs : HB w s₁.heap := hb_of KX T
    obtain ⟨us', hL'⟩ := well_list w1
    have e : us' = us := by
      obtain ⟨o, e1, e2, n, e3⟩ := hL
      rw [hL'] at e1
      cases e1
      cases e3
      rfl
    subst e
    refine law_run (ns := ns) HBs F rfl hL' hI (by omega) ?_ (he_of ns) fun h' tk' hk' => ?_
    · generalize hcx : cxL w _ _ s₁ fa _ = cx
      have G : Good 13 cx := by subst hcx; exact good_law rfl
      have O : Own cx := by subst hcx; exact own_law
      subst hcx
      refine refB2_of (refB_cons (refS_assign G O rfl (refE_call G (loads_global G rfl rfl) (handed_fn fun w => ⟨_, _, rfl, rfl⟩) (spec_reply.up (by decide)) (refA_cons (refE_var G rfl rfl) (refA_cons ?_ refA_nil))) rfl) (refB_cons (refS_assign G O rfl ?_ rfl) (refB_cons (refS_ret ?_) refB_nil)))
      · exact refE_ifexp (refT_cmp G (spec_lt.up (by decide)) (refE_call G (loads_builtin G rfl rfl rfl) (handed_builtin _) (spec_len.up (by decide)) (refA_cons (refE_var G rfl rfl) refA_nil)) refE_int) refE_int refE_int
      · exact refE_call G (loads_global G rfl rfl) (handed_fn fun w => ⟨_, _, rfl, rfl⟩) ((spec_choices 9).up (by decide)) (refA_cons (refE_var G rfl rfl) (refA_cons refE_int (refA_cons (refE_list refA_nil) (refA_cons (refE_list refA_nil) refA_nil))))
      · exact refE_cmp G (spec_eqDict.up (by decide)) (refE_var G rfl rfl) (refE_call G (loads_global G rfl rfl) (handed_fn fun w => ⟨_, _, rfl, rfl⟩) (spec_due.up (by decide)) (refA_cons (refE_call G (loads_global G rfl rfl) (handed_fn fun w => ⟨_, _, rfl, rfl⟩) (spec_heights.up (by decide)) (refA_cons (refE_var G rfl rfl) refA_nil)) refA_nil))
    · refine ⟨.inl ⟨.bool true, .bool true, [], rfl, fun cls => ?_, .bool true, ?_, ?_⟩, hk', rfl, hg⟩
      · rfl
      · show (match WTm.value _ (.eq .res (.lit (.bool true))) _ with | some (WData.bool true) => true | _ => false) = true
        simp only [WTm.value]
        first | rfl | decide | kernel_rfl
      · exact fun _ => ⟨List.nodup_nil, fun a h => nomatch h⟩)
end Mine
end
theorem PySem.Challenge.cw_xg0015_01_holds : PySem.Challenge.rw_xg0015_01.Holds := by
  exact Mine.holds0
