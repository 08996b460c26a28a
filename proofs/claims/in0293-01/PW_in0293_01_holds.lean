import PyProof.Rows.All
import Wide.All
import OpenK.AllK
import Wide.FinOn
import PySem.Challenge.RW_in0293_01
open PySem PySem.W PyProof.Rows PySem.Calls
set_option Elab.async false
set_option maxRecDepth 100000

namespace Mine
section
local macro_rules | `(tactic| o_head $_) => `(tactic| assumption)
theorem top (h : PySem.Challenge.rw_in0293_01.row.Holds) : PySem.Challenge.rw_in0293_01.row.Holds := by k_head
end
end Mine

section
local macro_rules | `(tactic| omega) => `(tactic| first | lia | omega (config := {}))
namespace Mine

noncomputable abbrev KK (P : Params) : Frag := Mine.top.heap_1 P

inductive Ex2 {α β : Type} (p : α → β → Prop) : Prop | mk (a : α) (b : β) (h : p a b)
inductive Ex3 {α β γ : Type} (p : α → β → γ → Prop) : Prop | mk (a : α) (b : β) (c : γ) (h : p a b c)
inductive Ex4 {α β γ δ : Type} (p : α → β → γ → δ → Prop) : Prop | mk (a : α) (b : β) (c : γ) (d : δ) (h : p a b c d)
inductive Ex5 {α β γ δ ε : Type} (p : α → β → γ → δ → ε → Prop) : Prop | mk (a : α) (b : β) (c : γ) (d : δ) (e : ε) (h : p a b c d e)
inductive Ex6 {α β γ δ ε ζ : Type} (p : α → β → γ → δ → ε → ζ → Prop) : Prop | mk (a : α) (b : β) (c : γ) (d : δ) (e : ε) (f : ζ) (h : p a b c d e f)
inductive Ex9 {α β γ δ ε ζ η θ ι : Type} (p : α → β → γ → δ → ε → ζ → η → θ → ι → Prop) : Prop | mk (a : α) (b : β) (c : γ) (d : δ) (e : ε) (f : ζ) (g : η) (i : θ) (j : ι) (h : p a b c d e f g i j)
inductive And3 (a b c : Prop) : Prop | mk (h1 : a) (h2 : b) (h3 : c)
inductive And4 (a b c d : Prop) : Prop | mk (h1 : a) (h2 : b) (h3 : c) (h4 : d)
inductive And5 (a b c d e : Prop) : Prop | mk (h1 : a) (h2 : b) (h3 : c) (h4 : d) (h5 : e)
inductive And6 (a b c d e f : Prop) : Prop | mk (h1 : a) (h2 : b) (h3 : c) (h4 : d) (h5 : e) (h6 : f)
inductive And7 (a b c d e f g : Prop) : Prop | mk (h1 : a) (h2 : b) (h3 : c) (h4 : d) (h5 : e) (h6 : f) (h7 : g)
inductive And8 (a b c d e f g h : Prop) : Prop | mk (h1 : a) (h2 : b) (h3 : c) (h4 : d) (h5 : e) (h6 : f) (h7 : g) (h8 : h)
inductive And9 (a b c d e f g h i : Prop) : Prop | mk (h1 : a) (h2 : b) (h3 : c) (h4 : d) (h5 : e) (h6 : f) (h7 : g) (h8 : h) (h9 : i)
inductive And10 (a b c d e f g h i j : Prop) : Prop | mk (h1 : a) (h2 : b) (h3 : c) (h4 : d) (h5 : e) (h6 : f) (h7 : g) (h8 : h) (h9 : i) (h10 : j)
inductive And12 (a b c d e f g h i j k l : Prop) : Prop | mk (h1 : a) (h2 : b) (h3 : c) (h4 : d) (h5 : e) (h6 : f) (h7 : g) (h8 : h) (h9 : i) (h10 : j) (h11 : k) (h12 : l)

inductive PV where
  | none | bool (b : Bool) | int (i : Int) | str (x : Str) | loc (n : Nat) | raw (v : Value)

noncomputable def Vl (β : List Addr) : PV → Value → Prop
  | .none, v => v = .none
  | .bool b, v => v = .bool b
  | .int i, v => ∃ t, v = .int i t
  | .str x, v => ∃ t, v = .str x t
  | .loc n, v => ∃ a, β[n]? = some a ∧ v = .ref a
  | .raw u, v => v = u

theorem pre_get {β β' : List Addr} (h : β <+: β') {n : Nat} {a : Addr} (e : β[n]? = some a) : β'[n]? = some a := by
  obtain ⟨t, rfl⟩ := h
  rw [List.getElem?_append_left]
  · exact e
  · exact (List.getElem?_eq_some_iff.mp e).1

theorem Vl.pre {β β' : List Addr} (h : β <+: β') : ∀ {p : PV} {v : Value}, Vl β p v → Vl β' p v
  | .none, _, x => x
  | .bool _, _, x => x
  | .int _, _, x => x
  | .str _, _, x => x
  | .loc _, _, ⟨a, e, r⟩ => ⟨a, pre_get h e, r⟩
  | .raw _, _, x => x

noncomputable def Vls (β : List Addr) : List PV → List Value → Prop
  | [], [] => True
  | p :: ps, v :: vs => Vl β p v ∧ Vls β ps vs
  | _, _ => False

theorem Vls.pre {β β' : List Addr} (h : β <+: β') : ∀ {ps : List PV} {vs : List Value}, Vls β ps vs → Vls β' ps vs
  | [], [], _ => trivial
  | _ :: _, _ :: _, ⟨a, r⟩ => ⟨a.pre h, r.pre h⟩
  | [], _ :: _, x => x.elim
  | _ :: _, [], x => x.elim

theorem Vls.len {β : List Addr} : ∀ {ps : List PV} {vs : List Value}, Vls β ps vs → vs.length = ps.length
  | [], [], _ => rfl
  | _ :: _, _ :: _, ⟨_, r⟩ => by simp [r.len]
  | [], _ :: _, x => x.elim
  | _ :: _, [], x => x.elim

theorem Vls.get {β : List Addr} : ∀ {ps : List PV} {vs : List Value} {i : Nat} {p : PV}, Vls β ps vs → ps[i]? = some p → ∃ v, vs[i]? = some v ∧ Vl β p v
  | _ :: _, v :: _, 0, _, ⟨a, _⟩, e => by simp at e; subst e; exact ⟨v, by simp, a⟩
  | _ :: _, _ :: _, i + 1, _, ⟨_, r⟩, e => by
    simp at e
    obtain ⟨v, e', x⟩ := r.get e
    exact ⟨v, by simpa using e', x⟩
  | [], [], _, _, _, e => by simp at e
  | [], _ :: _, _, _, x, _ => x.elim
  | _ :: _, [], _, _, x, _ => x.elim

theorem Vls.snoc {β : List Addr} {p : PV} {v : Value} (hv : Vl β p v) : ∀ {ps : List PV} {vs : List Value}, Vls β ps vs → Vls β (ps ++ [p]) (vs ++ [v])
  | [], [], _ => ⟨hv, trivial⟩
  | _ :: _, _ :: _, ⟨a, r⟩ => ⟨a, Vls.snoc hv r⟩
  | [], _ :: _, x => x.elim
  | _ :: _, [], x => x.elim

theorem Vls.app {β : List Addr} {qs : List PV} {us : List Value} (hv : Vls β qs us) : ∀ {ps : List PV} {vs : List Value}, Vls β ps vs → Vls β (ps ++ qs) (vs ++ us)
  | [], [], _ => hv
  | _ :: _, _ :: _, ⟨a, r⟩ => ⟨a, Vls.app hv r⟩
  | [], _ :: _, x => x.elim
  | _ :: _, [], x => x.elim

theorem Vls.take {β : List Addr} : ∀ {ps : List PV} {vs : List Value} (n : Nat), Vls β ps vs → Vls β (ps.take n) (vs.take n)
  | [], [], n, _ => by simp [Vls]
  | _ :: _, _ :: _, 0, _ => trivial
  | _ :: _, _ :: _, n + 1, ⟨a, r⟩ => ⟨a, r.take n⟩
  | [], _ :: _, _, x => x.elim
  | _ :: _, [], _, x => x.elim

theorem Vls.drop {β : List Addr} : ∀ {ps : List PV} {vs : List Value} (n : Nat), Vls β ps vs → Vls β (ps.drop n) (vs.drop n)
  | [], [], n, _ => by simp [Vls]
  | _ :: _, _ :: _, 0, x => x
  | _ :: _, _ :: _, n + 1, ⟨_, r⟩ => r.drop n
  | [], _ :: _, _, x => x.elim
  | _ :: _, [], _, x => x.elim

theorem Vls.set {β : List Addr} {p : PV} {v : Value} (hv : Vl β p v) : ∀ {ps : List PV} {vs : List Value} (n : Nat), Vls β ps vs → Vls β (ps.set n p) (vs.set n v)
  | [], [], n, _ => by simp [Vls]
  | _ :: _, _ :: _, 0, ⟨_, r⟩ => ⟨hv, r⟩
  | _ :: _, _ :: _, n + 1, ⟨a, r⟩ => ⟨a, r.set hv n⟩
  | [], _ :: _, _, x => x.elim
  | _ :: _, [], _, x => x.elim

inductive Cell where
  | list (xs : List PV)
  | flist (xs : List PV)
  | tup (xs : List PV)
  | dict (es : List (Str × PV))
  | attrs (es : List (Str × PV))
  | inst (C : Addr) (d : Nat)
  | rng (n : Nat)
  | obj (o : Obj)

noncomputable def Cell.mut : Cell → Bool
  | .list _ => true
  | .dict _ => true
  | .attrs _ => true
  | _ => false

noncomputable def DEs (P : Params) (β : List Addr) : List (Str × PV) → List DictEntry → Prop
  | [], [] => True
  | (n, p) :: r, e :: t => ((∃ tk, e.key = .str n tk) ∧ e.hash = PyData.keyHash P n ∧ Vl β p e.val) ∧ DEs P β r t
  | _, _ => False

theorem DEs.pre {P : Params} {β β' : List Addr} (h : β <+: β') : ∀ {es : List (Str × PV)} {ds : List DictEntry}, DEs P β es ds → DEs P β' es ds
  | [], [], _ => trivial
  | (_, _) :: _, _ :: _, ⟨⟨a, b, c⟩, r⟩ => ⟨⟨a, b, c.pre h⟩, r.pre h⟩
  | [], _ :: _, x => x.elim
  | _ :: _, [], x => x.elim

noncomputable def CellIs (P : Params) (h : Heap) (β : List Addr) (a : Addr) : Cell → Prop
  | .list xs => ∃ vs n, h.get? a = some { cls := .type "list", data := .seq vs.toArray n } ∧ Vls β xs vs
  | .flist xs => ∃ vs, h.IsList a vs.toArray ∧ Vls β xs vs
  | .tup xs => ∃ vs, h.IsTuple a vs.toArray ∧ Vls β xs vs
  | .dict es => (a == sysModules) = false ∧ ∃ ds n, h.get? a = some (dictOf ds n) ∧ DEs P β es ds
  | .attrs es => ∃ m, h.Ns1 a m ∧ ∀ x, (∀ pv, es.lookup x = some pv → ∃ v, m x = some v ∧ Vl β pv v) ∧ (es.lookup x = none → m x = none)
  | .inst C d => ∃ o dx, h.get? a = some o ∧ o.cls = .ref C ∧ (∀ c, o.data ≠ .cls c) ∧ o.dict = some dx ∧ β[d]? = some dx
  | .rng n => ∃ t u v, IsRange h a 0 (Int.ofNat n) 1 t u v
  | .obj o => h.get? a = some o

theorem CellIs.some {P : Params} {h : Heap} {β : List Addr} {a : Addr} {c : Cell} (x : CellIs P h β a c) : ∃ o, h.get? a = some o := by
  cases c with
  | list _ => obtain ⟨_, _, e, _⟩ := x; exact ⟨_, e⟩
  | flist _ => obtain ⟨_, ⟨o, e, _⟩, _⟩ := x; exact ⟨o, e⟩
  | tup _ => obtain ⟨_, ⟨o, e, _⟩, _⟩ := x; exact ⟨o, e⟩
  | dict _ => obtain ⟨_, _, _, e, _⟩ := x; exact ⟨_, e⟩
  | attrs _ => obtain ⟨_, ⟨o, _, _, e, _⟩, _⟩ := x; exact ⟨o, e⟩
  | inst _ _ => obtain ⟨_, _, e, _⟩ := x; exact ⟨_, e⟩
  | rng _ => obtain ⟨_, _, _, e⟩ := x; exact ⟨_, e⟩
  | obj _ => exact ⟨_, x⟩

theorem CellIs.keep {P : Params} {h h' : Heap} {β β' : List Addr} {a : Addr} (hp : β <+: β') (hk : ∀ o, h.get? a = Option.some o → h'.get? a = Option.some o) {c : Cell} (x : CellIs P h β a c) : CellIs P h' β' a c := by
  cases c with
  | list _ => obtain ⟨vs, n, e, r⟩ := x; exact ⟨vs, n, hk _ e, r.pre hp⟩
  | flist _ => obtain ⟨vs, ⟨o, e, x⟩, r⟩ := x; exact ⟨vs, ⟨o, hk _ e, x⟩, r.pre hp⟩
  | tup _ => obtain ⟨vs, ⟨o, e, x⟩, r⟩ := x; exact ⟨vs, ⟨o, hk _ e, x⟩, r.pre hp⟩
  | dict _ => obtain ⟨hs, ds, n, e, r⟩ := x; exact ⟨hs, ds, n, hk _ e, r.pre hp⟩
  | attrs _ =>
    obtain ⟨m, n, f⟩ := x
    refine ⟨m, n.at fun o e => hk o e, fun x => ⟨fun pv e => ?_, (f x).2⟩⟩
    obtain ⟨v, a, b⟩ := (f x).1 pv e
    exact ⟨v, a, b.pre hp⟩
  | inst _ _ => obtain ⟨o, dx, e, c, d, di, r⟩ := x; exact ⟨o, dx, hk _ e, c, d, di, pre_get hp r⟩
  | rng _ => obtain ⟨t, u, v, e⟩ := x; exact ⟨t, u, v, hk _ e⟩
  | obj _ => exact hk _ x

structure Sim (P : Params) (B : Shared) (β : List Addr) (H : List Cell) (s : Shared) : Prop where
  len : β.length = H.length
  nodup : β.Nodup
  cells : ∀ (i : Nat) (a : Addr) (c : Cell), β[i]? = some a → H[i]? = some c → CellIs P s.heap β a c
  base : ∀ b o, B.heap.get? b = some o → s.heap.get? b = some o
  fresh : ∀ (i : Nat) (a : Addr) (c : Cell), β[i]? = some a → H[i]? = some c → c.mut = true → B.heap.get? a = Option.none
  same : ∃ h tk, s = { B with heap := h, toks := tk }

section
variable {P : Params} {B : Shared} {β : List Addr} {H : List Cell} {s : Shared}

theorem Sim.addr (S : Sim P B β H s) {n : Nat} {c : Cell} (e : H[n]? = some c) : ∃ a, β[n]? = some a ∧ CellIs P s.heap β a c := by
  have hn : n < β.length := by rw [S.len]; exact (List.getElem?_eq_some_iff.mp e).1
  exact ⟨β[n], List.getElem?_eq_getElem hn, S.cells n _ c (List.getElem?_eq_getElem hn) e⟩

theorem Sim.at (S : Sim P B β H s) {n : Nat} {a : Addr} {c : Cell} (e : H[n]? = some c) (e' : β[n]? = some a) : CellIs P s.heap β a c := S.cells n a c e' e

theorem Sim.mem_some (S : Sim P B β H s) {a : Addr} (h : a ∈ β) : ∃ o, s.heap.get? a = some o := by
  obtain ⟨i, hi, rfl⟩ := List.getElem_of_mem h
  have hH : i < H.length := S.len ▸ hi
  exact (S.cells i _ H[i] (List.getElem?_eq_getElem hi) (List.getElem?_eq_getElem hH)).some

theorem Sim.not_mem (S : Sim P B β H s) {a : Addr} (h : s.heap.get? a = none) : a ∉ β := fun hm => by
  obtain ⟨o, e⟩ := S.mem_some hm
  rw [h] at e; cases e

theorem Sim.base_none (S : Sim P B β H s) {a : Addr} (h : s.heap.get? a = none) : B.heap.get? a = none := by
  cases e : B.heap.get? a with
  | none => rfl
  | some o => rw [S.base _ _ e] at h; cases h

theorem Sim.grow (S : Sim P B β H s) {h' : Heap} {tk : Nat} (hk : ∀ b o, s.heap.get? b = some o → h'.get? b = some o) : Sim P B β H { s with heap := h', toks := tk } where
  len := S.len
  nodup := S.nodup
  cells := fun i a c e e' => (S.cells i a c e e').keep (List.prefix_refl _) fun o x => hk a o x
  base := fun b o e => hk b o (S.base b o e)
  fresh := S.fresh
  same := let ⟨_, _, e⟩ := S.same; ⟨h', tk, by rw [e]⟩

theorem get_size_none (h : Heap) : h.get? h.objs.size = none := by
  cases e : h.get? h.objs.size with
  | none => rfl
  | some o => exact absurd (Heap.lt_size e) (Nat.lt_irrefl _)

theorem Sim.add (S : Sim P B β H s) {h' : Heap} {tk : Nat} {a : Addr} {c : Cell} (hk : ∀ b o, s.heap.get? b = some o → h'.get? b = some o) (ha : s.heap.get? a = none) (hc : CellIs P h' (β ++ [a]) a c) :
    Sim P B (β ++ [a]) (H ++ [c]) { s with heap := h', toks := tk } where
  len := by simp [S.len]
  nodup := by
    rw [List.nodup_append]
    refine ⟨S.nodup, by simp, fun x hx y hy => ?_⟩
    simp at hy; subst hy
    rintro rfl
    exact S.not_mem ha hx
  cells := fun i b c' e e' => by
    by_cases hi : i < β.length
    · rw [List.getElem?_append_left hi] at e
      rw [List.getElem?_append_left (S.len ▸ hi)] at e'
      exact (S.cells i b c' e e').keep (List.prefix_append _ _) fun o x => hk b o x
    · have hil : i = β.length := by
        have := (List.getElem?_eq_some_iff.mp e).1
        simp at this; omega
      subst hil
      simp at e; subst e
      rw [S.len] at e'
      simp at e'; subst e'
      exact hc
  base := fun b o e => hk b o (S.base b o e)
  fresh := fun i b c' e e' hm => by
    by_cases hi : i < β.length
    · rw [List.getElem?_append_left hi] at e
      rw [List.getElem?_append_left (S.len ▸ hi)] at e'
      exact S.fresh i b c' e e' hm
    · have hil : i = β.length := by
        have := (List.getElem?_eq_some_iff.mp e).1
        simp at this; omega
      subst hil
      simp at e; subst e
      exact S.base_none ha
  same := let ⟨_, _, e⟩ := S.same; ⟨h', tk, by rw [e]⟩

theorem Sim.put (S : Sim P B β H s) {h' : Heap} {tk : Nat} {n : Nat} {a : Addr} {c c' : Cell} (e : H[n]? = some c) (ea : β[n]? = some a) (hm : c.mut = true)
    (hs : ∀ b o, b ≠ a → s.heap.get? b = some o → h'.get? b = some o) (hc : CellIs P h' β a c') :
    Sim P B β (H.set n c') { s with heap := h', toks := tk } where
  len := by simp [S.len]
  nodup := S.nodup
  cells := fun i b c'' e1 e2 => by
    by_cases hi : i = n
    · subst hi
      rw [ea] at e1; cases e1
      rw [List.getElem?_set_self ((List.getElem?_eq_some_iff.mp e).1)] at e2
      cases e2; exact hc
    · rw [List.getElem?_set_ne (Ne.symm hi)] at e2
      refine (S.cells i b c'' e1 e2).keep (List.prefix_refl _) fun o x => hs b o ?_ x
      rintro rfl
      exact hi ((List.getElem?_inj (List.getElem?_eq_some_iff.mp e1).1 S.nodup).mp (e1.trans ea.symm))
  base := fun b o x => hs b o (by
    rintro rfl
    rw [S.fresh n _ c ea e hm] at x; cases x) (S.base b o x)
  fresh := fun i b c'' e1 e2 hm' => by
    by_cases hi : i = n
    · subst hi
      exact S.fresh i b c e1 e hm
    · rw [List.getElem?_set_ne (Ne.symm hi)] at e2
      exact S.fresh i b c'' e1 e2 hm'
  same := let ⟨_, _, e⟩ := S.same; ⟨h', tk, by rw [e]⟩

/-- a mutable list that nobody will change any more -/
theorem Sim.freeze (S : Sim P B β H s) {n : Nat} {xs : List PV} (e : H[n]? = some (.list xs)) : Sim P B β (H.set n (.flist xs)) s where
  len := by simp [S.len]
  nodup := S.nodup
  cells := fun i b c'' e1 e2 => by
    by_cases hi : i = n
    · subst hi
      rw [List.getElem?_set_self ((List.getElem?_eq_some_iff.mp e).1)] at e2
      cases e2
      obtain ⟨vs, k, x, r⟩ := S.cells i b _ e1 e
      exact ⟨vs, ⟨_, x, rfl, k, rfl⟩, r⟩
    · rw [List.getElem?_set_ne (Ne.symm hi)] at e2
      exact S.cells i b c'' e1 e2
  base := S.base
  fresh := fun i b c'' e1 e2 hm' => by
    by_cases hi : i = n
    · subst hi
      exact S.fresh i b _ e1 e rfl
    · rw [List.getElem?_set_ne (Ne.symm hi)] at e2
      exact S.fresh i b c'' e1 e2 hm'
  same := S.same

end

/-- what stays of the frozen cells -/
noncomputable def FM (H H' : List Cell) : Prop := ∀ (i : Nat) (c : Cell), H[i]? = some c → c.mut = false → H'[i]? = some c
theorem FM.refl (H : List Cell) : FM H H := fun _ _ e _ => e
theorem FM.trans {H H' H'' : List Cell} (x : FM H H') (y : FM H' H'') : FM H H'' := fun i c e m => y i c (x i c e m) m
theorem FM.app (H E : List Cell) : FM H (H ++ E) := fun i c e _ => by rw [List.getElem?_append_left (List.getElem?_eq_some_iff.mp e).1]; exact e
theorem FM.set {H : List Cell} {n : Nat} {c c' : Cell} (e : H[n]? = some c) (hm : c.mut = true) : FM H (H.set n c') := fun i d x m => by
  by_cases hi : i = n
  · subst hi; rw [e] at x; cases x; rw [hm] at m; cases m
  · rw [List.getElem?_set_ne (Ne.symm hi)]; exact x

/-- addresses that no step changes: they bear no mutable cell -/
noncomputable def Firm (β : List Addr) (H : List Cell) (b : Addr) : Prop := ∀ (i : Nat) (c : Cell), β[i]? = some b → H[i]? = some c → c.mut = false

/-- a step of the run, as the heap sees it: W are the addresses of the frame itself -/
structure Step (P : Params) (B : Shared) (W : List Addr) (β : List Addr) (H : List Cell) (s : Shared) (β' : List Addr) (H' : List Cell) (s' : Shared) : Prop where
  sim : Sim P B β' H' s'
  pre : β <+: β'
  mono : FM H H'
  pres : ∀ b o, Firm β H b → b ∉ W → s.heap.get? b = some o → s'.heap.get? b = some o
  new : ∀ a, a ∈ β' → a ∈ β ∨ s.heap.get? a = none ∨ B.heap.get? a ≠ none
  live : ∀ b o, s.heap.get? b = some o → ∃ o', s'.heap.get? b = some o'

theorem firm_of_not {β : List Addr} {H : List Cell} {b : Addr} (h : b ∉ β) : Firm β H b := fun _ _ e _ => absurd (List.mem_of_getElem? e) h

section
variable {P : Params} {B : Shared} {W β β' β'' : List Addr} {H H' H'' : List Cell} {s s' s'' : Shared}

theorem Step.refl (S : Sim P B β H s) : Step P B W β H s β H s := ⟨S, List.prefix_refl _, FM.refl _, fun _ _ _ _ e => e, fun _ h => .inl h, fun _ o e => ⟨o, e⟩⟩
theorem Step.wide {W' : List Addr} (S : Step P B W β H s β' H' s') (h : ∀ a ∈ W, a ∈ W') : Step P B W' β H s β' H' s' := ⟨S.sim, S.pre, S.mono, fun b o hb hw e => S.pres b o hb (fun m => hw (h b m)) e, S.new, S.live⟩
theorem Step.ofNil (S : Step P B [] β H s β' H' s') : Step P B W β H s β' H' s' := S.wide fun _ h => nomatch h

theorem Step.trans (x : Step P B W β H s β' H' s') (y : Step P B W β' H' s' β'' H'' s'') (S : Sim P B β H s) : Step P B W β H s β'' H'' s'' where
  sim := y.sim
  pre := x.pre.trans y.pre
  mono := x.mono.trans y.mono
  pres := fun b o hb hw e => y.pres b o (fun i c e1 e2 => by
    rcases x.new b (List.mem_of_getElem? e1) with h | h | h
    · obtain ⟨j, hj, rfl⟩ := List.getElem_of_mem h
      have e3 : β'[j]? = some β[j] := pre_get x.pre (List.getElem?_eq_getElem hj)
      have hij : i = j := (List.getElem?_inj (List.getElem?_eq_some_iff.mp e1).1 x.sim.nodup).mp (e1.trans e3.symm)
      subst hij
      have hH : i < H.length := S.len ▸ hj
      have hc := hb i H[i] (List.getElem?_eq_getElem hj) (List.getElem?_eq_getElem hH)
      have := x.mono i _ (List.getElem?_eq_getElem hH) hc
      rw [e2] at this; cases this; exact hc
    · rw [e] at h; cases h
    · cases hm : c.mut with
      | false => rfl
      | true => exact absurd (x.sim.fresh i b c e1 e2 hm) h) hw (x.pres b o hb hw e)
  new := fun a ha => by
    rcases y.new a ha with h | h | h
    · exact x.new a h
    · cases e : s.heap.get? a with
      | none => exact .inr (.inl rfl)
      | some o =>
        obtain ⟨o', e'⟩ := x.live a o e
        rw [e'] at h; cases h
    · exact .inr (.inr h)
  live := fun b o e => let ⟨_, e'⟩ := x.live b o e; y.live b _ e'

theorem Step.grow (S : Sim P B β H s) {h' : Heap} {tk : Nat} (hk : ∀ b o, s.heap.get? b = some o → h'.get? b = some o) : Step P B W β H s β H { s with heap := h', toks := tk } :=
  ⟨S.grow hk, List.prefix_refl _, FM.refl _, fun b o _ _ e => hk b o e, fun _ h => .inl h, fun b o e => ⟨o, hk b o e⟩⟩
theorem Step.add (S : Sim P B β H s) {h' : Heap} {tk : Nat} {a : Addr} {c : Cell} (hk : ∀ b o, s.heap.get? b = some o → h'.get? b = some o) (ha : s.heap.get? a = none) (hc : CellIs P h' (β ++ [a]) a c) :
    Step P B W β H s (β ++ [a]) (H ++ [c]) { s with heap := h', toks := tk } :=
  ⟨S.add hk ha hc, List.prefix_append _ _, FM.app _ _, fun b o _ _ e => hk b o e, fun x h => by
    rcases List.mem_append.mp h with h | h
    · exact .inl h
    · simp at h; subst h; exact .inr (.inl ha), fun b o e => ⟨o, hk b o e⟩⟩
theorem Step.put (S : Sim P B β H s) {h' : Heap} {tk : Nat} {n : Nat} {a : Addr} {c c' : Cell} (e : H[n]? = some c) (ea : β[n]? = some a) (hm : c.mut = true)
    (hs : ∀ b o, b ≠ a → s.heap.get? b = some o → h'.get? b = some o) (hc : CellIs P h' β a c') : Step P B W β H s β (H.set n c') { s with heap := h', toks := tk } :=
  ⟨S.put e ea hm hs hc, List.prefix_refl _, FM.set e hm, fun b o hb _ x => hs b o (fun hba => by
    have := hb n c (hba ▸ ea) e
    rw [hm] at this; cases this) x, fun _ h => .inl h, fun b o x => by
    by_cases hb : b = a
    · subst hb; exact hc.some
    · exact ⟨o, hs b o hb x⟩⟩
theorem Step.freeze (S : Step P B W β H s β' H' s') {n : Nat} {xs : List PV} (e : H'[n]? = some (.list xs)) : Step P B W β H s β' (H'.set n (.flist xs)) s' :=
  ⟨S.sim.freeze e, S.pre, S.mono.trans (FM.set e rfl), S.pres, S.new, S.live⟩
end

noncomputable abbrev Rho := List (Str × PV)
noncomputable def putR (x : Str) (p : PV) : Rho → Rho
  | [] => [(x, p)]
  | (y, q) :: r => if x = y then (x, p) :: r else (y, q) :: putR x p r
theorem lookup_putR (x : Str) (p : PV) (y : Str) : ∀ ρ : Rho, (putR x p ρ).lookup y = if y = x then some p else ρ.lookup y
  | [] => by
    simp only [putR, List.lookup_cons, List.lookup_nil]
    by_cases h : y = x
    · subst h; simp
    · simp [h, beq_eq_false_iff_ne.mpr h]
  | (z, q) :: r => by
    have ih := lookup_putR x p y r
    simp only [putR]
    by_cases hz : x = z
    · subst hz
      rw [if_pos rfl]
      simp only [List.lookup_cons]
      by_cases h : y = x
      · subst h; simp
      · simp [h, beq_eq_false_iff_ne.mpr h]
    · rw [if_neg hz]
      simp only [List.lookup_cons]
      by_cases hy : y = z
      · subst hy
        simp [Ne.symm hz]
      · rw [beq_eq_false_iff_ne.mpr hy]
        simpa using ih

structure Frm (B : Shared) (β : List Addr) (env : Env) (ρ : Rho) (s : Shared) : Prop where
  fn : env.scope.kind = .function
  gl : env.globals = mainGlobals
  bl : env.builtins = builtinsNs
  ns : ∃ m, s.heap.Ns env.locals m ∧ ∀ x pv, ρ.lookup x = some pv → env.kindOf x = some .local → ∃ v, m x = some v ∧ Vl β pv v
  cell : ∀ x c, env.cells.lookup x = some c → ∃ ov, s.heap.IsCell c ov ∧ ∀ pv, ρ.lookup x = some pv → (env.kindOf x = some .cell ∨ env.kindOf x = some .free) → ∃ v, ov = some v ∧ Vl β pv v
  inj : ∀ x y c, env.cells.lookup x = some c → env.cells.lookup y = some c → x = y
  apartL : env.locals ∉ β
  apartC : ∀ x c, env.cells.lookup x = some c → c ∉ β
  newL : B.heap.get? env.locals = none
  newC : ∀ x c, env.cells.lookup x = some c → B.heap.get? c = none

noncomputable def Sub (ρ₀ ρ : Rho) : Prop := ∀ x pv, ρ₀.lookup x = some pv → ρ.lookup x = some pv
noncomputable def SubL : Rho → Rho → Prop
  | [], _ => True
  | (x, p) :: r, ρ => ρ.lookup x = some p ∧ SubL r ρ
theorem SubL.sub : ∀ {ρ₀ ρ : Rho}, SubL ρ₀ ρ → Sub ρ₀ ρ
  | [], _, _ => fun x pv e => by simp at e
  | (y, p) :: r, ρ, ⟨h, t⟩ => fun x pv e => by
    rw [List.lookup_cons] at e
    cases hb : x == y with
    | true => rw [hb] at e; cases e; rw [beq_iff_eq.mp hb]; exact h
    | false => rw [hb] at e; exact t.sub x pv e

section
variable {P : Params} {B : Shared} {W β β' β'' : List Addr} {H H' H'' : List Cell} {s s' s'' : Shared} {env : Env} {ρ ρ' : Rho}

theorem Frm.weak (F : Frm B β env ρ s) (h : Sub ρ' ρ) : Frm B β env ρ' s where
  fn := F.fn
  gl := F.gl
  bl := F.bl
  ns := let ⟨m, hn, hm⟩ := F.ns; ⟨m, hn, fun x pv e hk => hm x pv (h x pv e) hk⟩
  cell := fun x c e => let ⟨ov, hc, hv⟩ := F.cell x c e; ⟨ov, hc, fun pv e' hk => hv pv (h x pv e') hk⟩
  inj := F.inj
  apartL := F.apartL
  apartC := F.apartC
  newL := F.newL
  newC := F.newC

theorem Frm.aliveL (F : Frm B β env ρ s) : ∃ o, s.heap.get? env.locals = some o := let ⟨_, ⟨o, _, _, e, _⟩, _⟩ := F.ns; ⟨o, e⟩

theorem Frm.step (F : Frm B β env ρ s) (S : Step P B [] β H s β' H' s') : Frm B β' env ρ s' where
  fn := F.fn
  gl := F.gl
  bl := F.bl
  ns := by
    obtain ⟨m, ⟨o, es, ep, e, r⟩, hm⟩ := F.ns
    exact ⟨m, ⟨o, es, ep, S.pres _ _ (firm_of_not F.apartL) (by simp) e, r⟩, fun x pv e hk => let ⟨v, a, b⟩ := hm x pv e hk; ⟨v, a, b.pre S.pre⟩⟩
  cell := fun x c e => by
    obtain ⟨ov, ⟨o, ho, hd⟩, hv⟩ := F.cell x c e
    exact ⟨ov, ⟨o, S.pres _ _ (firm_of_not (F.apartC x c e)) (by simp) ho, hd⟩, fun pv e' hk => let ⟨v, a, b⟩ := hv pv e' hk; ⟨v, a, b.pre S.pre⟩⟩
  inj := F.inj
  apartL := fun h => by
    rcases S.new _ h with h | h | h
    · exact F.apartL h
    · obtain ⟨o, e⟩ := F.aliveL; rw [e] at h; cases h
    · exact h F.newL
  apartC := fun x c e h => by
    rcases S.new _ h with h | h | h
    · exact F.apartC x c e h
    · obtain ⟨_, ⟨o, e', _⟩, _⟩ := F.cell x c e; rw [e'] at h; cases h
    · exact h (F.newC x c e)
  newL := F.newL
  newC := F.newC

/-- the frame's own store -/
theorem Sim.side (S : Sim P B β H s) {h' : Heap} {tk : Nat} {a : Addr} (hs : ∀ b o, b ≠ a → s.heap.get? b = some o → h'.get? b = some o) (ha : a ∉ β) (hb : B.heap.get? a = none) :
    Sim P B β H { s with heap := h', toks := tk } where
  len := S.len
  nodup := S.nodup
  cells := fun i b c e e' => (S.cells i b c e e').keep (List.prefix_refl _) fun o x => hs b o (fun hba => ha (hba ▸ List.mem_of_getElem? e)) x
  base := fun b o e => hs b o (fun hba => by rw [hba, hb] at e; cases e) (S.base b o e)
  fresh := S.fresh
  same := let ⟨_, _, e⟩ := S.same; ⟨h', tk, by rw [e]⟩

theorem Step.side (S : Sim P B β H s) {h' : Heap} {tk : Nat} {a : Addr} (hs : ∀ b o, b ≠ a → s.heap.get? b = some o → h'.get? b = some o) (ha : a ∉ β) (hb : B.heap.get? a = none) (hw : a ∈ W)
    (hl : ∃ o, h'.get? a = some o) : Step P B W β H s β H { s with heap := h', toks := tk } :=
  ⟨S.side hs ha hb, List.prefix_refl _, FM.refl _, fun b o _ hbw x => hs b o (fun hba => hbw (hba ▸ hw)) x, fun _ h => .inl h, fun b o x => by
    by_cases hba : b = a
    · subst hba; exact hl
    · exact ⟨o, hs b o hba x⟩⟩

theorem Frm.storeL (F : Frm B β env ρ s) {x : Str} {p : PV} {v : Value} {m : Str → Option Value} {h' : Heap} {tk : Nat} (hv : Vl β p v) (hk : env.kindOf x = some .local)
    (hm : ∀ y pv, ρ.lookup y = some pv → env.kindOf y = some .local → ∃ v, m y = some v ∧ Vl β pv v) (hn : s.heap.Ns env.locals m)
    (hn' : h'.Ns env.locals (fun y => if y = x then some v else m y)) (hs : Heap.SameBut env.locals s.heap h') : Frm B β env (putR x p ρ) { s with heap := h', toks := tk } where
  fn := F.fn
  gl := F.gl
  bl := F.bl
  ns := ⟨_, hn', fun y pv e hky => by
    rw [lookup_putR] at e
    by_cases hy : y = x
    · rw [if_pos hy] at e; cases e
      exact ⟨v, by simp [hy], hv⟩
    · rw [if_neg hy] at e
      obtain ⟨u, hu, hvu⟩ := hm y pv e hky
      exact ⟨u, by simp [hy, hu], hvu⟩⟩
  cell := fun y c e => by
    obtain ⟨ov, ⟨o, ho, hd⟩, hv'⟩ := F.cell y c e
    have hcL : c ≠ env.locals := by
      rintro rfl
      obtain ⟨o', _, _, ho', hd', _⟩ := hn
      rw [ho] at ho'; cases ho'
      rw [hd] at hd'; cases hd'
    refine ⟨ov, ⟨o, (hs.2 c hcL).trans ho, hd⟩, fun pv e' hky => ?_⟩
    rw [lookup_putR] at e'
    by_cases hy : y = x
    · subst hy; rw [hk] at hky; rcases hky with h | h <;> cases h
    · rw [if_neg hy] at e'
      exact hv' pv e' hky
  inj := F.inj
  apartL := F.apartL
  apartC := F.apartC
  newL := F.newL
  newC := F.newC

theorem Frm.storeC (F : Frm B β env ρ s) {x : Str} {p : PV} {v : Value} {c : Addr} {h' : Heap} {tk : Nat} (hv : Vl β p v) (hk : env.kindOf x = some .cell) (hc : env.cells.lookup x = some c)
    (hn' : h'.IsCell c (some v)) (hs : Heap.SameBut c s.heap h') : Frm B β env (putR x p ρ) { s with heap := h', toks := tk } where
  fn := F.fn
  gl := F.gl
  bl := F.bl
  ns := by
    obtain ⟨m, ⟨o, es, ep, e, hd, r⟩, hm⟩ := F.ns
    obtain ⟨_, ⟨oc, ho, hdc⟩, _⟩ := F.cell x c hc
    have hcL : env.locals ≠ c := by
      rintro h
      rw [h, ho] at e; cases e
      rw [hdc] at hd; cases hd
    refine ⟨m, ⟨o, es, ep, (hs.2 _ hcL).trans e, hd, r⟩, fun y pv e' hky => ?_⟩
    rw [lookup_putR] at e'
    by_cases hy : y = x
    · subst hy; rw [hk] at hky; cases hky
    · rw [if_neg hy] at e'
      exact hm y pv e' hky
  cell := fun y c' e => by
    by_cases hy : y = x
    · subst hy
      rw [hc] at e; cases e
      exact ⟨_, hn', fun pv e' _ => by rw [lookup_putR, if_pos rfl] at e'; cases e'; exact ⟨v, rfl, hv⟩⟩
    · obtain ⟨ov, ⟨o, ho, hd⟩, hv'⟩ := F.cell y c' e
      have hcc : c' ≠ c := fun h => hy (F.inj y x c (h ▸ e) hc)
      refine ⟨ov, ⟨o, (hs.2 c' hcc).trans ho, hd⟩, fun pv e' hky => ?_⟩
      rw [lookup_putR, if_neg hy] at e'
      exact hv' pv e' hky
  inj := F.inj
  apartL := F.apartL
  apartC := F.apartC
  newL := F.newL
  newC := F.newC
end
end Mine

namespace Mine

structure Cfg where
  prog : Program
  w : World
  B : Shared

structure Gd (g : Cfg) : Prop where
  K : (KK g.w.params).In g.B.heap
  top : ∃ mg mb, g.B.heap.Ns mainGlobals mg ∧ g.B.heap.Ns builtinsNs mb ∧ ∀ x : Str, x ≠ "__name__" → mb x = bootBuiltins x
  nolimit : g.B.heap.NoLimit

noncomputable abbrev Cfg.M (g : Cfg) : Model := model g.prog g.w
noncomputable abbrev SimG (g : Cfg) := Sim g.w.params g.B
noncomputable abbrev StepG (g : Cfg) := Step g.w.params g.B
noncomputable def noE : Value → Shared → Prop := fun _ _ => False

noncomputable def Rm (k : Nat) (A : Around) : Prop := A.handled = none ∧ A.depth + k < recursionLimit ∧ A.units + 16 * k + 16 < cLine
theorem Rm.in1 {k : Nat} {A : Around} (h : Rm (k + 1) A) : Rm k A.in1 := ⟨h.1, by have := h.2.1; show A.depth + k < _; omega, by have := h.2.2; show A.units + 1 + 16 * k + 16 < _; omega⟩
theorem Rm.less {k j : Nat} {A : Around} (h : Rm k A) (hj : j ≤ k) : Rm j A := ⟨h.1, by have := h.2.1; omega, by have := h.2.2; omega⟩
theorem Rm.deeper {k : Nat} {A : Around} {env : Env} (h : Rm (k + 1) A) : Rm k (A.deeper env) := ⟨h.1, by have := h.2.1; show A.depth + 1 + k < _; omega, by have := h.2.2; show A.units + 3 + 16 * k + 16 < _; omega⟩
theorem Rm.depth {k : Nat} {A : Around} (h : Rm k A) : A.depth < recursionLimit := by have := h.2.1; omega

/-- the end of an evaluation -/
inductive PE (g : Cfg) (β : List Addr) (H : List Cell) (s : Shared) (Q : PV → List Cell → Prop) (v : Value) (s' : Shared) : Prop
  | mk (β' : List Addr) (H' : List Cell) (pv : PV) (T : StepG g [] β H s β' H' s') (V : Vl β' pv v) (q : Q pv H')
inductive PB (g : Cfg) (β : List Addr) (H : List Cell) (s : Shared) (Q : Bool → List Cell → Prop) (b : Bool) (s' : Shared) : Prop
  | mk (β' : List Addr) (H' : List Cell) (T : StepG g [] β H s β' H' s') (q : Q b H')
inductive PL (g : Cfg) (β : List Addr) (H : List Cell) (s : Shared) (Q : List PV → List Cell → Prop) (vs : List Value) (s' : Shared) : Prop
  | mk (β' : List Addr) (H' : List Cell) (ps : List PV) (T : StepG g [] β H s β' H' s') (V : Vls β' ps vs) (q : Q ps H')

/-- a tree in a frame -/
noncomputable def WV (g : Cfg) (k : Nat) (env : Env) (t : Sem Value) (ρ : Rho) (H : List Cell) (Q : PV → List Cell → Prop) : Prop :=
  ∀ A β s, Rm k A → SimG g β H s → Frm g.B β env ρ s → wpAny g.M A t (PE g β H s Q) noE s
noncomputable def WE (g : Cfg) (k : Nat) (env : Env) (e : Expr) (ρ : Rho) (H : List Cell) (Q : PV → List Cell → Prop) : Prop := WV g k env (eval e env) ρ H Q
noncomputable def WB (g : Cfg) (k : Nat) (env : Env) (t : Sem Bool) (ρ : Rho) (H : List Cell) (Q : Bool → List Cell → Prop) : Prop :=
  ∀ A β s, Rm k A → SimG g β H s → Frm g.B β env ρ s → wpAny g.M A t (PB g β H s Q) noE s
noncomputable def WT (g : Cfg) (k : Nat) (env : Env) (e : Expr) (ρ : Rho) (H : List Cell) (Q : Bool → List Cell → Prop) : Prop := WB g k env (isTrue e env (eval e env)) ρ H Q
noncomputable def WLs (g : Cfg) (k : Nat) (env : Env) (es : List Expr) (ρ : Rho) (H : List Cell) (Q : List PV → List Cell → Prop) : Prop :=
  ∀ pos A β s, Rm k A → SimG g β H s → Frm g.B β env ρ s → wpAny g.M A (spliced (backTo pos (starEach es env))) (PL g β H s Q) noE s
noncomputable def WO2 (g : Cfg) (k : Nat) (a b : PV) (T : Value → Value → Sem Value) (H : List Cell) (Q : PV → List Cell → Prop) : Prop :=
  ∀ A β s va vb, Rm k A → SimG g β H s → Vl β a va → Vl β b vb → wpAny g.M A (T va vb) (PE g β H s Q) noE s
noncomputable def WT1 (g : Cfg) (k : Nat) (a : PV) (H : List Cell) (Q : Bool → List Cell → Prop) : Prop :=
  ∀ A β s v, Rm k A → SimG g β H s → Vl β a v → wpAny g.M A (truthy v) (PB g β H s Q) noE s

inductive AF where
  | next | brk | cont | ret (p : PV)
noncomputable def FlR (β : List Addr) : AF → Flow → Prop
  | .next, f => f = .next
  | .brk, f => f = .brk
  | .cont, f => f = .cont
  | .ret p, f => ∃ v, f = .ret v ∧ Vl β p v

inductive PS (g : Cfg) (W : List Addr) (env : Env) (β : List Addr) (H : List Cell) (s : Shared) (Q : AF → Rho → List Cell → Prop) (fl : Flow) (s' : Shared) : Prop
  | mk (β' : List Addr) (H' : List Cell) (ρ' : Rho) (af : AF) (T : StepG g W β H s β' H' s') (F : Frm g.B β' env ρ' s') (R : FlR β' af fl) (q : Q af ρ' H')
noncomputable def WX (g : Cfg) (k : Nat) (W : List Addr) (env : Env) (t : Sem Flow) (ρ : Rho) (H : List Cell) (Q : AF → Rho → List Cell → Prop) : Prop :=
  ∀ A β s, Rm k A → SimG g β H s → Frm g.B β env ρ s → wpAny g.M A t (PS g W env β H s Q) noE s
noncomputable def WS (g : Cfg) (k : Nat) (W : List Addr) (env : Env) (st : Stmt) (ρ : Rho) (H : List Cell) (Q : AF → Rho → List Cell → Prop) : Prop := WX g k W env (exec st env) ρ H Q
noncomputable def WSS (g : Cfg) (k : Nat) (W : List Addr) (env : Env) (ss : List Stmt) (ρ : Rho) (H : List Cell) (Q : AF → Rho → List Cell → Prop) : Prop := WX g k W env (execs ss env) ρ H Q
inductive PA (g : Cfg) (W : List Addr) (env : Env) (β : List Addr) (H : List Cell) (s : Shared) (Q : Rho → List Cell → Prop) (s' : Shared) : Prop
  | mk (β' : List Addr) (H' : List Cell) (ρ' : Rho) (T : StepG g W β H s β' H' s') (F : Frm g.B β' env ρ' s') (q : Q ρ' H')
/-- a value laid to a target -/
noncomputable def WA (g : Cfg) (k : Nat) (W : List Addr) (env : Env) (t : Expr) (p : PV) (ρ : Rho) (H : List Cell) (Q : Rho → List Cell → Prop) : Prop :=
  ∀ A β s v, Rm k A → SimG g β H s → Frm g.B β env ρ s → Vl β p v → wpAny g.M A (assign t env v) (fun _ s' => PA g W env β H s Q s') noE s

section
variable {g : Cfg} {k : Nat} {W β β' : List Addr} {env : Env} {ρ : Rho} {H H' : List Cell} {s s' : Shared}

theorem PE.here {Q : PV → List Cell → Prop} {pv : PV} {v : Value} (S : SimG g β H s) (hv : Vl β pv v) (q : Q pv H) : PE g β H s Q v s := ⟨β, H, pv, .refl S, hv, q⟩
theorem PE.tok {Q : PV → List Cell → Prop} {pv : PV} {v : Value} {tk : Nat} (S : SimG g β H s) (hv : Vl β pv v) (q : Q pv H) : PE g β H s Q v { s with toks := tk } :=
  ⟨β, H, pv, Step.grow (h' := s.heap) S fun _ _ e => e, hv, q⟩
theorem PE.grow {Q : PV → List Cell → Prop} {pv : PV} {v : Value} {h' : Heap} {tk : Nat} (S : SimG g β H s) (hk : ∀ b o, s.heap.get? b = some o → h'.get? b = some o) (hv : Vl β pv v) (q : Q pv H) :
    PE g β H s Q v { s with heap := h', toks := tk } := ⟨β, H, pv, Step.grow S hk, hv, q⟩
theorem PE.after {Q : PV → List Cell → Prop} {v : Value} {s'' : Shared} (S : SimG g β H s) (T : StepG g [] β H s β' H' s') (h : PE g β' H' s' Q v s'') : PE g β H s Q v s'' :=
  let ⟨β2, H2, pv, T2, hv, q⟩ := h; ⟨β2, H2, pv, T.trans T2 S, hv, q⟩
theorem PB.here {Q : Bool → List Cell → Prop} {b : Bool} (S : SimG g β H s) (q : Q b H) : PB g β H s Q b s := ⟨β, H, .refl S, q⟩
theorem PB.after {Q : Bool → List Cell → Prop} {b : Bool} {s'' : Shared} (S : SimG g β H s) (T : StepG g [] β H s β' H' s') (h : PB g β' H' s' Q b s'') : PB g β H s Q b s'' :=
  let ⟨β2, H2, T2, q⟩ := h; ⟨β2, H2, T.trans T2 S, q⟩
theorem PS.after {Q : AF → Rho → List Cell → Prop} {f : Flow} {s'' : Shared} (S : SimG g β H s) (T : StepG g W β H s β' H' s') (h : PS g W env β' H' s' Q f s'') : PS g W env β H s Q f s'' :=
  let ⟨β2, H2, ρ2, af, T2, F, r, q⟩ := h; ⟨β2, H2, ρ2, af, T.trans T2 S, F, r, q⟩
theorem PA.after {Q : Rho → List Cell → Prop} {s'' : Shared} (S : SimG g β H s) (T : StepG g W β H s β' H' s') (h : PA g W env β' H' s' Q s'') : PA g W env β H s Q s'' :=
  let ⟨β2, H2, ρ2, T2, F, q⟩ := h; ⟨β2, H2, ρ2, T.trans T2 S, F, q⟩

theorem PE.mono {Q Q' : PV → List Cell → Prop} {v : Value} (h : PE g β H s Q v s') (hq : ∀ p H', Q p H' → Q' p H') : PE g β H s Q' v s' := let ⟨a, b, c, d, e, f⟩ := h; ⟨a, b, c, d, e, hq _ _ f⟩
theorem PB.mono {Q Q' : Bool → List Cell → Prop} {b : Bool} (h : PB g β H s Q b s') (hq : ∀ p H', Q p H' → Q' p H') : PB g β H s Q' b s' := let ⟨a, b, d, f⟩ := h; ⟨a, b, d, hq _ _ f⟩
theorem PS.mono {Q Q' : AF → Rho → List Cell → Prop} {f : Flow} (h : PS g W env β H s Q f s') (hq : ∀ a ρ' H', Q a ρ' H' → Q' a ρ' H') : PS g W env β H s Q' f s' := let ⟨a, b, c, d, e, f, r, q⟩ := h; ⟨a, b, c, d, e, f, r, hq _ _ _ q⟩

theorem WE.mono {e : Expr} {Q Q' : PV → List Cell → Prop} (h : WE g k env e ρ H Q) (hq : ∀ p H', Q p H' → Q' p H') : WE g k env e ρ H Q' :=
  fun A β s a b c => wpAny_mono (h A β s a b c) (fun _ _ x => x.mono hq) fun _ _ x => x
theorem WT.mono {e : Expr} {Q Q' : Bool → List Cell → Prop} (h : WT g k env e ρ H Q) (hq : ∀ p H', Q p H' → Q' p H') : WT g k env e ρ H Q' :=
  fun A β s a b c => wpAny_mono (h A β s a b c) (fun _ _ x => x.mono hq) fun _ _ x => x
theorem WSS.mono {ss : List Stmt} {Q Q' : AF → Rho → List Cell → Prop} (h : WSS g k W env ss ρ H Q) (hq : ∀ a ρ' H', Q a ρ' H' → Q' a ρ' H') : WSS g k W env ss ρ H Q' :=
  fun A β s a b c => wpAny_mono (h A β s a b c) (fun _ _ x => x.mono hq) fun _ _ x => x
theorem WSS.weak {ρ' : Rho} {ss : List Stmt} {Q : AF → Rho → List Cell → Prop} (hs : Sub ρ' ρ) (h : WSS g k W env ss ρ' H Q) : WSS g k W env ss ρ H Q :=
  fun A β s a b c => h A β s a b (c.weak hs)

theorem WSS.nil {Q : AF → Rho → List Cell → Prop} (h : Q .next ρ H) : WSS g k W env [] ρ H Q :=
  fun _ β _ _ S F => wpAny_execs_nil ⟨β, H, ρ, .next, .refl S, F, rfl, h⟩

noncomputable def contS (g : Cfg) (k : Nat) (W : List Addr) (env : Env) (rest : List Stmt) (Q : AF → Rho → List Cell → Prop) : AF → Rho → List Cell → Prop
  | .next, ρ', H' => WSS g k W env rest ρ' H' Q
  | .brk, ρ', H' => Q .brk ρ' H'
  | .cont, ρ', H' => Q .cont ρ' H'
  | .ret p, ρ', H' => Q (.ret p) ρ' H'

theorem WSS.cons {st : Stmt} {rest : List Stmt} {Q : AF → Rho → List Cell → Prop} (h : WS g k W env st ρ H (contS g k W env rest Q)) : WSS g k W env (st :: rest) ρ H Q := by
  intro A β s hA S F
  refine wpAny_execs_cons (wpAny_mono (h A β s hA S F) (fun f s1 h1 => ?_) fun _ _ x => x)
  obtain ⟨β1, H1, ρ1, af, T1, F1, R1, q⟩ := h1
  cases af with
  | next => obtain rfl := R1; exact wpAny_mono (q A β1 s1 hA T1.sim F1) (fun f s2 h2 => h2.after S T1) fun _ _ x => x
  | brk => obtain rfl := R1; exact ⟨β1, H1, ρ1, .brk, T1, F1, rfl, q⟩
  | cont => obtain rfl := R1; exact ⟨β1, H1, ρ1, .cont, T1, F1, rfl, q⟩
  | ret p => obtain ⟨v, rfl, hv⟩ := R1; exact ⟨β1, H1, ρ1, .ret p, T1, F1, ⟨v, rfl, hv⟩, q⟩

theorem WS.ret {e : Expr} {pos : Pos} {Q : AF → Rho → List Cell → Prop} (h : WE g k env e ρ H (fun p H' => Q (.ret p) ρ H')) : WS g k W env (.Return (some e) pos) ρ H Q :=
  fun A β s hA S F => wpAny_Return_some (wpAny_mono (h A β s hA S F) (fun v s1 h1 => by
    obtain ⟨β1, H1, pv, T1, hv, q⟩ := h1
    exact ⟨β1, H1, ρ, .ret pv, T1.ofNil, F.step T1, ⟨v, rfl, hv⟩, q⟩) fun _ _ x => x)
theorem WS.brk {pos : Pos} {Q : AF → Rho → List Cell → Prop} (h : Q .brk ρ H) : WS g k W env (.Break pos) ρ H Q :=
  fun _ β _ _ S F => wpAny_Break ⟨β, H, ρ, .brk, .refl S, F, rfl, h⟩
theorem WS.cont {pos : Pos} {Q : AF → Rho → List Cell → Prop} (h : Q .cont ρ H) : WS g k W env (.Continue pos) ρ H Q :=
  fun _ β _ _ S F => wpAny_Continue ⟨β, H, ρ, .cont, .refl S, F, rfl, h⟩

theorem WS.ite {test : Expr} {body orelse : List Stmt} {pos : Pos} {Q : AF → Rho → List Cell → Prop}
    (h : WT g k env test ρ H (fun b H' => if b then WSS g k W env body ρ H' Q else WSS g k W env orelse ρ H' Q)) : WS g k W env (.If test body orelse pos) ρ H Q := by
  intro A β s hA S F
  refine wpAny_If (wpAny_mono (h A β s hA S F) (fun b s1 h1 => ?_) fun _ _ x => x)
  obtain ⟨β1, H1, T1, q⟩ := h1
  cases b with
  | true => exact wpAny_mono (q A β1 s1 hA T1.sim (F.step T1)) (fun f s2 h2 => h2.after S T1.ofNil) fun _ _ x => x
  | false => exact wpAny_mono (q A β1 s1 hA T1.sim (F.step T1)) (fun f s2 h2 => h2.after S T1.ofNil) fun _ _ x => x

theorem WA.name {x : Str} {pos : Pos} {p : PV} {Q : Rho → List Cell → Prop} (h : Q (putR x p ρ) H) (hk : env.kindOf x = some .local) (hW : env.locals ∈ W) : WA g k W env (.Name x pos) p ρ H Q := by
  intro A β s v hA S F hv
  obtain ⟨m, hn, hm⟩ := F.ns
  refine wpAny_assign_Name (wpAny_storeName_local hk hn (fun h' hn' hs => ?_) (by rw [F.fn]; rfl))
  refine ⟨β, H, putR x p ρ, Step.side S hs.extBut F.apartL F.newL hW ?_, F.storeL hv hk hm hn hn' hs, h⟩
  obtain ⟨o, _, _, e, _⟩ := hn'; exact ⟨o, e⟩
theorem WA.cell {x : Str} {pos : Pos} {p : PV} {c : Addr} {Q : Rho → List Cell → Prop} (h : Q (putR x p ρ) H) (hk : env.kindOf x = some .cell) (hc : env.cells.lookup x = some c) (hW : c ∈ W) : WA g k W env (.Name x pos) p ρ H Q := by
  intro A β s v hA S F hv
  obtain ⟨ov, hov, _⟩ := F.cell x c hc
  refine wpAny_assign_Name (wpAny_storeName_cell F.fn hk hc hov fun h' hn' hs => ?_)
  refine ⟨β, H, putR x p ρ, Step.side S hs.extBut (F.apartC x c hc) (F.newC x c hc) hW ?_, F.storeC hv hk hc hn' hs, h⟩
  obtain ⟨o, e, _⟩ := hn'; exact ⟨o, e⟩

theorem exec_assign1 {t value : Expr} {pos : Pos} (hs : swapsWith value (some t) pos.line env = pure false) (hw : swappedStores [t] value env = pure none) (ht : assignEach [t] env = [(false, PySem.assign t env)]) :
    exec (.Assign [t] value pos) env = (do standAt pos; let v ← eval value env; PySem.assign t env v; pure .next) := by
  rw [PyProof.Rows.exec_Assign]
  have e : swapsWithSole [t] value pos.line env = pure false := hs
  rw [e, hw, ht]
  rfl

theorem WS.assign {t value : Expr} {pos : Pos} {Q : AF → Rho → List Cell → Prop} (h : WE g k env value ρ H (fun p H' => WA g k W env t p ρ H' (fun ρ' H'' => Q .next ρ' H'')))
    (hs : swapsWith value (some t) pos.line env = pure false := by rfl) (hw : swappedStores [t] value env = pure none := by rfl) (ht : assignEach [t] env = [(false, PySem.assign t env)] := by rfl) :
    WS g k W env (.Assign [t] value pos) ρ H Q := by
  intro A β s hA S F
  rw [exec_assign1 hs hw ht]
  refine wpAny_bind (wpAny_standAt (wpAny_bind (wpAny_mono (h A β s hA S F) (fun v s1 h1 => ?_) fun _ _ x => x)))
  obtain ⟨β1, H1, p, T1, hv, q⟩ := h1
  refine wpAny_bind (wpAny_mono (q A β1 s1 v hA T1.sim (F.step T1) hv) (fun _ s2 h2 => ?_) fun _ _ x => x)
  obtain ⟨β2, H2, ρ2, T2, F2, q2⟩ := h2
  exact wpAny_pure ⟨β2, H2, ρ2, .next, (T1.ofNil).trans T2 S, F2, rfl, q2⟩

theorem WS.assignN {x : Str} {npos pos : Pos} {value : Expr} {Q : AF → Rho → List Cell → Prop} (h : WE g k env value ρ H (fun p H' => Q .next (putR x p ρ) H'))
    (hk : env.kindOf x = some .local := by rfl) (hW : env.locals ∈ W := by simp) (hs : swapsWith value (some (.Name x npos)) pos.line env = pure false := by rfl) : WS g k W env (.Assign [.Name x npos] value pos) ρ H Q :=
  WS.assign (h.mono fun p H' q => WA.name q hk hW) hs

theorem WS.expr {e : Expr} {pos : Pos} {Q : AF → Rho → List Cell → Prop} (h : WE g k env e ρ H (fun p H' => (∀ n, p ≠ .loc n) ∧ (∀ v, p ≠ .raw v) ∧ Q .next ρ H'))
    (hi : interactive env = false := by rfl) (hs : swapsWith e none pos.line env = pure false := by rfl) : WS g k W env (.Expr e pos) ρ H Q := by
  intro A β s hA S F
  refine wpAny_Expr (wpAny_mono (h A β s hA S F) (fun v s1 h1 => ?_) fun _ _ x => x) hi hs
  obtain ⟨β1, H1, p, T1, hv, hn, hr, q⟩ := h1
  have fin : PS g W env β H s Q .next s1 := ⟨β1, H1, ρ, .next, T1.ofNil, F.step T1, rfl, q⟩
  cases p with
  | none => obtain rfl := hv; exact fin
  | bool b => obtain rfl := hv; exact fin
  | int i => obtain ⟨t, rfl⟩ := hv; exact fin
  | str x => obtain ⟨t, rfl⟩ := hv; exact fin
  | loc n => exact (hn n rfl).elim
  | raw u => exact (hr u rfl).elim

/-! expressions -/
theorem WE.int {i : Int} {n : Nat} {pos : Pos} {Q : PV → List Cell → Prop} (h : Q (.int i) H) : WE g k env (.Constant (.int i) n pos) ρ H Q :=
  fun _ _ _ _ S _ => wpAny_Constant_int (PE.tok (pv := .int i) S ⟨_, rfl⟩ h)
theorem WE.strc {x : Str} {n : Nat} {pos : Pos} {Q : PV → List Cell → Prop} (h : Q (.str x) H) : WE g k env (.Constant (.str x) n pos) ρ H Q :=
  fun _ _ _ _ S _ => wpAny_Constant_str (PE.tok (pv := .str x) S ⟨_, rfl⟩ h)
theorem WE.nonec {n : Nat} {pos : Pos} {Q : PV → List Cell → Prop} (h : Q .none H) : WE g k env (.Constant .none n pos) ρ H Q :=
  fun _ _ _ _ S _ => wpAny_Constant_none (PE.here (pv := .none) S rfl h)
theorem WE.boolc {b : Bool} {n : Nat} {pos : Pos} {Q : PV → List Cell → Prop} (h : Q (.bool b) H) : WE g k env (.Constant (.bool b) n pos) ρ H Q :=
  fun _ _ _ _ S _ => wpAny_Constant_bool (PE.here (pv := .bool b) S rfl h)

theorem WE.nameL {x : Str} {pos : Pos} {p : PV} {Q : PV → List Cell → Prop} (e : ρ.lookup x = some p) (h : Q p H) (hk : env.kindOf x = some .local := by rfl) (hd : (x == ("__debug__" : Str)) = false := by decide) :
    WE g k env (.Name x pos) ρ H Q := by
  intro A β s hA S F
  obtain ⟨m, hn, hm⟩ := F.ns
  obtain ⟨v, hv, hvl⟩ := hm x p e hk
  exact wpAny_Name (wpAny_loadName_local F.fn hk hn hv (PE.here S hvl h)) hd
theorem WE.nameC {x : Str} {pos : Pos} {p : PV} {c : Addr} {Q : PV → List Cell → Prop} (e : ρ.lookup x = some p) (h : Q p H) (hk : env.kindOf x = some .cell) (hc : env.cells.lookup x = some c)
    (hd : (x == ("__debug__" : Str)) = false := by decide) : WE g k env (.Name x pos) ρ H Q := by
  intro A β s hA S F
  obtain ⟨ov, ho, hv⟩ := F.cell x c hc
  obtain ⟨v, rfl, hvl⟩ := hv p e (.inl hk)
  exact wpAny_Name (wpAny_loadName_cell F.fn hk hc ho (PE.here S hvl h)) hd
theorem WE.nameF {x : Str} {pos : Pos} {p : PV} {c : Addr} {Q : PV → List Cell → Prop} (e : ρ.lookup x = some p) (h : Q p H) (hk : env.kindOf x = some .free) (hc : env.cells.lookup x = some c)
    (hd : (x == ("__debug__" : Str)) = false := by decide) (hn : (x == ("__classdict__" : Str)) = false := by decide) : WE g k env (.Name x pos) ρ H Q := by
  intro A β s hA S F
  obtain ⟨ov, ho, hv⟩ := F.cell x c hc
  obtain ⟨v, rfl, hvl⟩ := hv p e (.inr hk)
  exact wpAny_Name (wpAny_loadName_free F.fn hk hc ho (PE.here S hvl h) hn) hd
/-- a name of the module -/
theorem WE.nameG (G : Gd g) {x : Str} {pos : Pos} {v : Value} {p : PV} {Q : PV → List Cell → Prop} (e : nsIn (KK g.w.params) mainGlobals x = some (some v)) (hv : ∀ β, Vl β p v) (h : Q p H)
    (hk : env.kindOf x = some .globalImplicit := by rfl) (hd : (x == ("__debug__" : Str)) = false := by decide) : WE g k env (.Name x pos) ρ H Q := by
  intro A β s hA S F
  obtain ⟨mg, mb, hg, hb, hbb⟩ := G.top
  refine Name_function_global F.fn hk (loadGlobal_global (mg := mg) (v := v) ?_ (mg_of G.K hg e) (PE.here S (hv β) h)) hd
  rw [F.gl]; exact hg.keeps S.base
/-- a name of the built-ins -/
theorem WE.nameB (G : Gd g) {x : Str} {pos : Pos} {v : Value} {Q : PV → List Cell → Prop} (e : nsIn (KK g.w.params) mainGlobals x = some none) (hv : bootBuiltins x = some v) (hn : x ≠ "__name__") (h : Q (.raw v) H)
    (hk : env.kindOf x = some .globalImplicit := by rfl) (hd : (x == ("__debug__" : Str)) = false := by decide) : WE g k env (.Name x pos) ρ H Q := by
  intro A β s hA S F
  obtain ⟨mg, mb, hg, hb, hbb⟩ := G.top
  refine Name_function_global F.fn hk (loadGlobal_builtin (mg := mg) (mb := mb) (v := v) ?_ (mg_none_of G.K hg e) ?_ ((hbb x hn).trans hv) (PE.here (pv := .raw v) S rfl h)) hd
  · rw [F.gl]; exact hg.keeps S.base
  · rw [F.bl]; exact hb.keeps S.base

theorem WE.binop {l r : Expr} {op : Operator} {pos : Pos} {Q : PV → List Cell → Prop} (h : WE g k env l ρ H (fun a H1 => WE g k env r ρ H1 (fun b H2 => WO2 g k a b (binaryOp op) H2 Q))) :
    WE g k env (.BinOp l op r pos) ρ H Q := by
  intro A β s hA S F
  refine wpAny_BinOp (wpAny_mono (h A β s hA S F) (fun va s1 h1 => ?_) fun _ _ x => x)
  obtain ⟨β1, H1, a, T1, V1, h1⟩ := h1
  refine wpAny_mono (h1 A β1 s1 hA T1.sim (F.step T1)) (fun vb s2 h2 => ?_) fun _ _ x => x
  obtain ⟨β2, H2, b, T2, V2, h2⟩ := h2
  exact wpAny_mono (h2 A β2 s2 va vb hA T2.sim (V1.pre T2.pre) V2) (fun v s3 h3 => (h3.after T1.sim T2).after S T1) fun _ _ x => x

theorem WT.cmp {l r : Expr} {op : CmpOp} {pos : Pos} {Q : Bool → List Cell → Prop} (h : WE g k env l ρ H (fun a H1 => WE g k env r ρ H1 (fun b H2 => WO2 g k a b (compareOp op) H2 (fun p H3 => ∃ c, p = .bool c ∧ Q c H3))))
    (hm : behindInMarks op r = false := by with_unfolding_all rfl) : WT g k env (.Compare l [op] [r] pos) ρ H Q := by
  intro A β s hA S F
  refine wpAny_isTrue_Compare1 (wpAny_mono (h A β s hA S F) (fun va s1 h1 => ?_) fun _ _ x => x) hm
  obtain ⟨β1, H1, a, T1, V1, h1⟩ := h1
  refine wpAny_mono (h1 A β1 s1 hA T1.sim (F.step T1)) (fun vb s2 h2 => ?_) fun _ _ x => x
  obtain ⟨β2, H2, b, T2, V2, h2⟩ := h2
  refine wpAny_mono (h2 A β2 s2 va vb hA T2.sim (V1.pre T2.pre) V2) (fun v s3 h3 => ?_) fun _ _ x => x
  obtain ⟨β3, H3, p, T3, V3, c, rfl, q⟩ := h3
  obtain rfl := V3
  exact wpAny_truthy_bool ⟨β3, H3, (T1.trans T2 S).trans T3 S, q⟩

theorem WT.value {e : Expr} {Q : Bool → List Cell → Prop} (h : WE g k env e ρ H (fun p H1 => WT1 g k p H1 Q))
    (he : isTrue e env (eval e env) = (do let v ← eval e env; standAt e.pos; holding [v] (truthy v)) := by rfl) : WT g k env e ρ H Q := by
  intro A β s hA S F
  rw [he]
  refine wpAny_bind (wpAny_mono (h A β s hA S F) (fun v s1 h1 => wpAny_bind (wpAny_standAt (wpAny_holding ?_))) fun _ _ x => x)
  obtain ⟨β1, H1, p, T1, V1, h1⟩ := h1
  exact wpAny_mono (h1 A β1 s1 v hA T1.sim V1) (fun b s2 h2 => h2.after S T1) fun _ _ x => x

theorem WT.not {x : Expr} {pos : Pos} {Q : Bool → List Cell → Prop} (h : WT g k env x ρ H (fun b H1 => Q (!b) H1)) : WT g k env (.UnaryOp .Not x pos) ρ H Q := by
  intro A β s hA S F
  refine wpAny_isTrue_Not (wpAny_mono (h A β s hA S F) (fun b s1 h1 => ?_) fun _ _ x => x)
  obtain ⟨β1, H1, T1, q⟩ := h1
  exact ⟨β1, H1, T1, q⟩

noncomputable def WAll (g : Cfg) (k : Nat) (env : Env) (op : BoolOp) (es : List Expr) (ρ : Rho) (H : List Cell) (Q : Bool → List Cell → Prop) : Prop := WB g k env (allTrue op es env) ρ H Q
theorem WT.bool {op : BoolOp} {es : List Expr} {pos : Pos} {Q : Bool → List Cell → Prop} (h : WAll g k env op es ρ H Q) : WT g k env (.BoolOp op es pos) ρ H Q :=
  fun A β s hA S F => wpAny_isTrue_BoolOp (h A β s hA S F)
theorem WAll.nilA {Q : Bool → List Cell → Prop} (h : Q true H) : WAll g k env .And [] ρ H Q := fun _ _ _ _ S _ => wpAny_allTrue_And_nil (PB.here S h)
theorem WAll.nilO {Q : Bool → List Cell → Prop} (h : Q false H) : WAll g k env .Or [] ρ H Q := fun _ _ _ _ S _ => wpAny_allTrue_Or_nil (PB.here S h)
theorem WAll.consA {x : Expr} {r : List Expr} {Q : Bool → List Cell → Prop} (h : WT g k env x ρ H (fun b H1 => if b then WAll g k env .And r ρ H1 Q else Q false H1)) : WAll g k env .And (x :: r) ρ H Q := by
  intro A β s hA S F
  refine wpAny_allTrue_And_cons (wpAny_mono (h A β s hA S F) (fun b s1 h1 => ?_) fun _ _ x => x)
  obtain ⟨β1, H1, T1, q⟩ := h1
  cases b with
  | false => exact ⟨β1, H1, T1, q⟩
  | true => exact wpAny_mono (q A β1 s1 hA T1.sim (F.step T1)) (fun b s2 h2 => h2.after S T1) fun _ _ x => x
theorem WAll.consO {x : Expr} {r : List Expr} {Q : Bool → List Cell → Prop} (h : WT g k env x ρ H (fun b H1 => if b then Q true H1 else WAll g k env .Or r ρ H1 Q)) : WAll g k env .Or (x :: r) ρ H Q := by
  intro A β s hA S F
  refine wpAny_allTrue_Or_cons (wpAny_mono (h A β s hA S F) (fun b s1 h1 => ?_) fun _ _ x => x)
  obtain ⟨β1, H1, T1, q⟩ := h1
  cases b with
  | true => exact ⟨β1, H1, T1, q⟩
  | false => exact wpAny_mono (q A β1 s1 hA T1.sim (F.step T1)) (fun b s2 h2 => h2.after S T1) fun _ _ x => x

theorem WE.ifexp {test body orelse : Expr} {pos : Pos} {Q : PV → List Cell → Prop} (h : WT g k env test ρ H (fun b H1 => if b then WE g k env body ρ H1 Q else WE g k env orelse ρ H1 Q)) :
    WE g k env (.IfExp test body orelse pos) ρ H Q := by
  intro A β s hA S F
  refine wpAny_IfExp (wpAny_mono (h A β s hA S F) (fun b s1 h1 => ?_) fun _ _ x => x)
  obtain ⟨β1, H1, T1, q⟩ := h1
  cases b with
  | true => exact wpAny_mono (q A β1 s1 hA T1.sim (F.step T1)) (fun v s2 h2 => h2.after S T1) fun _ _ x => x
  | false => exact wpAny_mono (q A β1 s1 hA T1.sim (F.step T1)) (fun v s2 h2 => h2.after S T1) fun _ _ x => x

theorem WLs.nil {Q : List PV → List Cell → Prop} (h : Q [] H) : WLs g k env [] ρ H Q := fun _ _ β _ _ S _ => wpAny_items_nil ⟨β, H, [], .refl S, trivial, h⟩
theorem WLs.cons {e : Expr} {r : List Expr} {Q : List PV → List Cell → Prop} (h : WE g k env e ρ H (fun p H1 => WLs g k env r ρ H1 (fun ps H2 => Q (p :: ps) H2)))
    (he : starEach (e :: r) env = (false, eval e env) :: starEach r env := by rfl) : WLs g k env (e :: r) ρ H Q := by
  intro pos A β s hA S F
  refine args_cons (wpAny_mono (h A β s hA S F) (fun v s1 h1 => ?_) fun _ _ x => x) he
  obtain ⟨β1, H1, p, T1, V1, h1⟩ := h1
  refine wpAny_mono (h1 pos A β1 s1 hA T1.sim (F.step T1)) (fun vs s2 h2 => ?_) fun _ _ x => x
  obtain ⟨β2, H2, ps, T2, V2, h2⟩ := h2
  exact ⟨β2, H2, p :: ps, T1.trans T2 S, ⟨V1.pre T2.pre, V2⟩, h2⟩

theorem PE.list {vs : List Value} {ps : List PV} {tk : Nat} {Q : PV → List Cell → Prop} (S : SimG g β H s) (hv : Vls β ps vs) (h : Q (.loc H.length) (H ++ [.list ps])) :
    PE g β H s Q (.ref s.heap.objs.size) { s with heap := s.heap.push { cls := .type "list", data := .seq vs.toArray }, toks := tk } := by
  refine ⟨β ++ [s.heap.objs.size], H ++ [.list ps], .loc H.length, Step.add (c := .list ps) S (fun b o e => Heap.get?_push_of_some _ e) (get_size_none _) ⟨vs, 0, Heap.get?_push_size _ rfl, hv.pre (List.prefix_append _ _)⟩, ⟨_, ?_, rfl⟩, h⟩
  rw [← S.len]; simp
theorem PE.tup {vs : List Value} {ps : List PV} {tk : Nat} {Q : PV → List Cell → Prop} (S : SimG g β H s) (hv : Vls β ps vs) (h : Q (.loc H.length) (H ++ [.tup ps])) :
    PE g β H s Q (.ref s.heap.objs.size) { s with heap := s.heap.push { cls := .type "tuple", data := .seq vs.toArray }, toks := tk } := by
  refine ⟨β ++ [s.heap.objs.size], H ++ [.tup ps], .loc H.length, Step.add (c := .tup ps) S (fun b o e => Heap.get?_push_of_some _ e) (get_size_none _) ⟨vs, ⟨_, Heap.get?_push_size _ rfl, rfl, 0, rfl⟩, hv.pre (List.prefix_append _ _)⟩, ⟨_, ?_, rfl⟩, h⟩
  rw [← S.len]; simp

theorem WE.list {es : List Expr} {pos : Pos} {Q : PV → List Cell → Prop} (h : WLs g k env es ρ H (fun ps H1 => ps.length ≤ 1000 ∧ Q (.loc H1.length) (H1 ++ [.list ps]))) : WE g k env (.List es pos) ρ H Q := by
  intro A β s hA S F
  refine List_ (wpAny_mono (h pos A β s hA S F) (fun vs s1 h1 => ?_) fun _ _ x => x)
  obtain ⟨β1, H1, ps, T1, V1, hl, q⟩ := h1
  refine wpAny_newObj_type ((PE.list (tk := s1.toks) T1.sim V1 q).after S T1) ?_
  show vs.toArray.size ≤ sizeLine
  rw [List.size_toArray, V1.len, sizeLine_eq]; omega
theorem WE.tuple {es : List Expr} {n : Nat} {pos : Pos} {Q : PV → List Cell → Prop} (h : WLs g k env es ρ H (fun ps H1 => ps.length ≤ 1000 ∧ Q (.loc H1.length) (H1 ++ [.tup ps]))) : WE g k env (.Tuple es n pos) ρ H Q := by
  intro A β s hA S F
  refine Tuple_ (wpAny_mono (h pos A β s hA S F) (fun vs s1 h1 => ?_) fun _ _ x => x)
  obtain ⟨β1, H1, ps, T1, V1, hl, q⟩ := h1
  refine wpAny_newObj_type ((PE.tup (tk := s1.toks) T1.sim V1 q).after S T1) ?_
  show vs.toArray.size ≤ sizeLine
  rw [List.size_toArray, V1.len, sizeLine_eq]; omega
/-- a list display that nobody will change -/
theorem WE.flist {es : List Expr} {pos : Pos} {Q : PV → List Cell → Prop} (h : WLs g k env es ρ H (fun ps H1 => ps.length ≤ 1000 ∧ Q (.loc H1.length) (H1 ++ [.flist ps]))) : WE g k env (.List es pos) ρ H Q := by
  intro A β s hA S F
  refine wpAny_mono (WE.list (Q := fun p H' => Ex2 fun H1 ps => And3 (p = .loc H1.length) (H' = H1 ++ [.list ps]) (Q (.loc H1.length) (H1 ++ [.flist ps]))) (fun pos A β s a b c => wpAny_mono (h pos A β s a b c) (fun vs s1 ⟨b1, h1, ps, t, v, l, q⟩ => ⟨b1, h1, ps, t, v, l, h1, ps, rfl, rfl, q⟩) fun _ _ x => x) A β s hA S F) (fun v s1 h1 => ?_) fun _ _ x => x
  obtain ⟨β1, H', p, T1, V1, H1, ps, rfl, rfl, q⟩ := h1
  refine ⟨β1, H1 ++ [.flist ps], .loc H1.length, ?_, V1, q⟩
  have := T1.freeze (n := H1.length) (xs := ps) (by simp)
  simpa using this

end
end Mine

namespace Mine

/-- how a value is called with plain arguments -/
noncomputable def CW (g : Cfg) (f : Value) : Prop := ∀ (pos : Pos) (first : List Value) (args : List (Bool × Sem Value)) (A : Around) (E : Value → Shared → Prop) (s : Shared) (Q : Value → Shared → Prop), args.any (·.1) = false →
  wpAny g.M A (evalArgs f true args []) (fun a s₁ => (KK g.w.params).In s₁.heap ∧ wpAny g.M A (call f (first ++ a.pos) a.kw) Q E s₁) E s → wpAny g.M A (callWith pos f first args []) Q E s

/-- a call of f upon values -/
noncomputable def WC (g : Cfg) (k : Nat) (f : Value) (ps : List PV) (H : List Cell) (Q : PV → List Cell → Prop) : Prop :=
  ∀ A β s vs, Rm k A → SimG g β H s → Vls β ps vs → wpAny g.M A (call f vs []) (PE g β H s Q) noE s
/-- a method of a built-in kind, looked up -/
noncomputable def GM (g : Cfg) (H : List Cell) (p : PV) (name : Str) (id : String) : Prop :=
  ∀ A β s v pl (Q : Value × List Value → Shared → Prop) E, SimG g β H s → Vl β p v → Q (.builtin id, [v]) s → wpAny g.M A (getMethod v name pl) Q E s

section
variable {g : Cfg} {k : Nat} {W β β' : List Addr} {env : Env} {ρ : Rho} {H H' : List Cell} {s s' : Shared}

theorem CW.builtin {id : String} : CW g (.builtin id) := fun _ _ _ _ _ _ _ hp h => callWith_builtin hp (wpAny_mono h (fun _ _ x => x.2) fun _ _ x => x)
theorem CW.type {T : String} : CW g (.type T) := fun _ _ _ _ _ _ _ hp h => PyProof.Rows.callWith_type hp (wpAny_mono h (fun _ _ x => x.2) fun _ _ x => x)
theorem CW.K {f : Value} (hk : keepIn (KK g.w.params) f = true) : CW g f := fun _ _ _ _ _ _ _ hp h => by
  refine callWith_of (P := fun h => (KK g.w.params).In h) ?_ (keeps_K hk) h
  rw [hp]; rfl

theorem evalArgs_of {M : Model} {A : Around} {E : Value → Shared → Prop} {f : Value} : ∀ {l : List (Bool × Sem Value)} {Q : Args → Shared → Prop}, l.any (·.1) = false →
    wpAny M A (spliced l) (fun vs s' => Q ⟨vs, []⟩ s') E s → wpAny M A (evalArgs f true l []) Q E s
  | [], Q, _, h => by
    unfold evalArgs
    show wpAny M A (spliced [] >>= _) Q E s
    refine wpAny_bind (wpAny_mono h (fun vs s' h' => ?_) fun _ _ x => x)
    refine wpAny_bind (wpAny_pure ?_)
    refine wpAny_holding ?_
    exact wpAny_bind (wpAny_pure (wpAny_bind (wpAny_pure (wpAny_pure h'))))
  | (false, _) :: _, _, _, h => evalArgs_plain h
  | (true, _) :: _, _, hp, _ => by simp at hp


theorem WE.call (G : Gd g) {fe : Expr} {args : List Expr} {pos : Pos} {f : Value} {Q : PV → List Cell → Prop}
    (hf : WE g k env fe ρ H (fun p H1 => p = .raw f ∧ WLs g k env args ρ H1 (fun ps H2 => WC g k f ps H2 Q))) (hc : CW g f)
    (hp : (backTo pos (starEach args env)).any (·.1) = false := by rfl)
    (he : eval (.Call fe args [] pos) env = (do callWith pos (← eval fe env) [] (backTo pos (starEach args env)) (backToKw pos (keywordEach [] env))) := by rfl) :
    WE g k env (.Call fe args [] pos) ρ H Q := by
  intro A β s hA S F
  refine Call_ (wpAny_mono (hf A β s hA S F) (fun v s1 h1 => ?_) fun _ _ x => x) he
  obtain ⟨β1, H1, p, T1, V1, rfl, h1⟩ := h1
  obtain rfl := V1
  refine hc pos [] _ A _ s1 _ hp (evalArgs_of hp (wpAny_mono (h1 pos A β1 s1 hA T1.sim (F.step T1)) (fun vs s2 h2 => ?_) fun _ _ x => x))
  obtain ⟨β2, H2, ps, T2, V2, h2⟩ := h2
  refine ⟨G.K.keeps T2.sim.base, ?_⟩
  exact wpAny_mono (h2 A β2 s2 vs hA T2.sim V2) (fun v s3 h3 => (h3.after T1.sim T2).after S T1) fun _ _ x => x

theorem WE.meth {o : Expr} {name : Str} {apos pos : Pos} {args : List Expr} {id : String} {pl : Sem Bool} {Q : PV → List Cell → Prop}
    (h : WE g k env o ρ H (fun p H1 => GM g H1 p name id ∧ WLs g k env args ρ H1 (fun ps H2 => WC g k (.builtin id) (p :: ps) H2 Q)))
    (hp : (backTo pos (starEach args env)).any (·.1) = false := by rfl)
    (he : eval (.Call (.Attribute o name apos) args [] pos) env = (do
      let ov ← eval o env
      standAt apos.atName
      let (f, first) ← holding [ov] (getMethod ov name pl)
      callWith pos f first (backTo pos (starEach args env)) []) := by rfl) :
    WE g k env (.Call (.Attribute o name apos) args [] pos) ρ H Q := by
  intro A β s hA S F
  refine MethodCall_ (pl := pl) (wpAny_mono (h A β s hA S F) (fun v s1 h1 => ?_) fun _ _ x => x) he
  obtain ⟨β1, H1, p, T1, V1, hm, h1⟩ := h1
  refine hm A β1 s1 v pl _ _ T1.sim V1 ?_
  refine callWith_builtin hp (evalArgs_of hp (wpAny_mono (h1 pos A β1 s1 hA T1.sim (F.step T1)) (fun vs s2 h2 => ?_) fun _ _ x => x))
  obtain ⟨β2, H2, ps, T2, V2, h2⟩ := h2
  exact wpAny_mono (h2 A β2 s2 (v :: vs) hA T2.sim ⟨V1.pre T2.pre, V2⟩) (fun v s3 h3 => (h3.after T1.sim T2).after S T1) fun _ _ x => x

theorem GM.str {x : Str} {name : Str} {id : String} (slot : Slot "str" name id) (ty : typeOf (.builtin id) = pure (.type "method_descriptor")) : GM g H (.str x) name id := by
  intro A β s v pl Q E S hv h
  obtain ⟨t, rfl⟩ := hv
  exact PySem.GM.of (.str x t) (typeIs_str _ _ _) slot ty PySem.GM.noRef h
theorem GM.append {n : Nat} {xs : List PV} (e : H[n]? = some (.list xs)) : GM g H (.loc n) "append" "list.append" := by
  intro A β s v pl Q E S hv h
  obtain ⟨a, ea, rfl⟩ := hv
  obtain ⟨vs, m, ho, r⟩ := S.at e ea
  exact getMethod_list_append ho rfl rfl h

theorem WE.sub {ve ie : Expr} {pos : Pos} {Q : PV → List Cell → Prop} (h : WE g k env ve ρ H (fun a H1 => WE g k env ie ρ H1 (fun b H2 => WO2 g k a b (subscriptTail ve ie) H2 Q))) :
    WE g k env (.Subscript ve ie pos) ρ H Q := by
  intro A β s hA S F
  refine Subscript_ (wpAny_mono (h A β s hA S F) (fun va s1 h1 => ?_) fun _ _ x => x)
  obtain ⟨β1, H1, a, T1, V1, h1⟩ := h1
  refine wpAny_mono (h1 A β1 s1 hA T1.sim (F.step T1)) (fun vb s2 h2 => ?_) fun _ _ x => x
  obtain ⟨β2, H2, b, T2, V2, h2⟩ := h2
  exact wpAny_mono (h2 A β2 s2 va vb hA T2.sim (V1.pre T2.pre) V2) (fun v s3 h3 => (h3.after T1.sim T2).after S T1) fun _ _ x => x

theorem cell_list {n : Nat} {a : Addr} {xs : List PV} (S : SimG g β H s) (e : H[n]? = some (.list xs) ∨ H[n]? = some (.flist xs)) (ea : β[n]? = some a) : ∃ vs, s.heap.IsList a vs.toArray ∧ Vls β xs vs := by
  rcases e with e | e
  · obtain ⟨vs, m, ho, r⟩ := S.at e ea; exact ⟨vs, ⟨_, ho, rfl, m, rfl⟩, r⟩
  · exact S.at e ea

/-- an item of a list by a number from the front -/
theorem WO2.itemL {ve ie : Expr} {n : Nat} {i : Int} {xs : List PV} {p : PV} {Q : PV → List Cell → Prop} (e : H[n]? = some (.list xs) ∨ H[n]? = some (.flist xs)) (h0 : 0 ≤ i) (h1 : i < 2 ^ 62) (hx : xs[i.toNat]? = some p) (h : Q p H)
    (hs : ∀ l u, subscripted ie false (.ref l) (.int i u) = operate [.ref l, .int i u] (getItem (.ref l) (.int i u)) := by intro _ _; with_unfolding_all rfl)
    (hg : ∀ l r, letTemporaryGo ve (.ref l) r = pure () := by intro _ _; with_unfolding_all rfl) : WO2 g k (.loc n) (.int i) (subscriptTail ve ie) H Q := by
  intro A β s va vb hA S Va Vb
  obtain ⟨a, ea, rfl⟩ := Va
  obtain ⟨t, rfl⟩ := Vb
  obtain ⟨vs, hl, r⟩ := cell_list S e ea
  obtain ⟨v, hv, hvl⟩ := r.get hx
  exact item_list hl h0 (by omega) (by simpa using hv) (PE.here S hvl h) (hs _ _) (hg _)
/-- an item of a list by a written number from behind -/
theorem WO2.itemLneg {ve ie : Expr} {n : Nat} {i : Int} {xs : List PV} {p : PV} {Q : PV → List Cell → Prop} (e : H[n]? = some (.list xs) ∨ H[n]? = some (.flist xs)) (h0 : i < 0) (h1 : -(xs.length : Int) ≤ i) (h2 : -(2 ^ 62) ≤ i) (hx : xs[(i + xs.length).toNat]? = some p) (h : Q p H)
    (hs : ∀ l u, subscripted ie false (.ref l) (.int i u) = operate [.ref l, .int i u] (getItem (.ref l) (.int i u)) := by intro _ _; with_unfolding_all rfl)
    (hg : ∀ l r, letTemporaryGo ve (.ref l) r = pure () := by intro _ _; with_unfolding_all rfl) : WO2 g k (.loc n) (.int i) (subscriptTail ve ie) H Q := by
  intro A β s va vb hA S Va Vb
  obtain ⟨a, ea, rfl⟩ := Va
  obtain ⟨t, rfl⟩ := Vb
  obtain ⟨vs, hl, r⟩ := cell_list S e ea
  obtain ⟨v, hv, hvl⟩ := r.get hx
  have hlen : vs.toArray.size = xs.length := by simp [r.len]
  exact subscriptTail_builtin hl.typeIs slot_list_getitem.lookup (wpAny_getItem_list_neg hl h0 (by rw [hlen]; exact h1) (by omega) (by rw [hlen]; simpa using hv) (PE.here S hvl h)) (hs _ _) (hg _)
theorem WO2.itemT {ve ie : Expr} {n : Nat} {i : Int} {xs : List PV} {p : PV} {Q : PV → List Cell → Prop} (e : H[n]? = some (.tup xs)) (h0 : 0 ≤ i) (h1 : i < 2 ^ 62) (hx : xs[i.toNat]? = some p) (h : Q p H)
    (hs : ∀ l u, subscripted ie false (.ref l) (.int i u) = operate [.ref l, .int i u] (getItem (.ref l) (.int i u)) := by intro _ _; with_unfolding_all rfl)
    (hg : ∀ l r, letTemporaryGo ve (.ref l) r = pure () := by intro _ _; with_unfolding_all rfl) : WO2 g k (.loc n) (.int i) (subscriptTail ve ie) H Q := by
  intro A β s va vb hA S Va Vb
  obtain ⟨a, ea, rfl⟩ := Va
  obtain ⟨t, rfl⟩ := Vb
  obtain ⟨vs, hl, r⟩ := S.at e ea
  obtain ⟨v, hv, hvl⟩ := r.get hx
  have hj : seqIndex? i vs.length = some i.toNat := seqIndex_of h0 (by
    have := (List.getElem?_eq_some_iff.mp hv).1
    omega)
  exact item_tupleL (l := vs) hl (by omega) (by omega) hj hv (PE.here S hvl h) (hs _ _) (hg _)
/-- a sign of a text -/
theorem WO2.itemS {ve ie : Expr} {x : Str} {i : Int} {c : Nat} {Q : PV → List Cell → Prop} (h0 : 0 ≤ i) (h1 : i < 2 ^ 62) (hx : x.cps[i.toNat]? = some c) (h : Q (.str ⟨#[c]⟩) H)
    (hs : ∀ l u, subscripted ie false (.str x l) (.int i u) = operate [.str x l, .int i u] (getItem (.str x l) (.int i u)) := by intro _ _; with_unfolding_all rfl)
    (hg : ∀ l r, letTemporaryGo ve (.str x l) r = pure () := by intro _ _; with_unfolding_all rfl) : WO2 g k (.str x) (.int i) (subscriptTail ve ie) H Q := by
  intro A β s va vb hA S Va Vb
  obtain ⟨u, rfl⟩ := Va
  obtain ⟨t, rfl⟩ := Vb
  have hlt : i < x.length := by
    have := (Array.getElem?_eq_some_iff.mp hx).1
    have e : x.length = x.cps.size := rfl
    omega
  refine subscriptTail_builtin (typeIs_str s x u) F.slot_str_getitem.lookup (P.getItem_str (c := c) ?_ ?_ (PE.tok (pv := .str ⟨#[c]⟩) S ⟨_, rfl⟩ h)) (hs _ _) (hg _)
  · simp; omega
  · rw [seqIndex_of h0 hlt]; simpa using hx

/-! sums and the like -/
theorem WO2.addI {a b : Int} {Q : PV → List Cell → Prop} (h : Q (.int (a + b)) H) : WO2 g k (.int a) (.int b) (binaryOp .Add) H Q := by
  rintro A β s va vb hA S ⟨t, rfl⟩ ⟨u, rfl⟩; exact P.add_int (PE.tok (pv := .int (a + b)) S ⟨_, rfl⟩ h)
theorem WO2.subI {a b : Int} {Q : PV → List Cell → Prop} (h : Q (.int (a - b)) H) : WO2 g k (.int a) (.int b) (binaryOp .Sub) H Q := by
  rintro A β s va vb hA S ⟨t, rfl⟩ ⟨u, rfl⟩; exact P.sub_int (PE.tok (pv := .int (a - b)) S ⟨_, rfl⟩ h)
theorem WO2.mulI {a b : Int} {Q : PV → List Cell → Prop} (h : Q (.int (a * b)) H) (hm : IntMulOk a b) : WO2 g k (.int a) (.int b) (binaryOp .Mult) H Q := by
  rintro A β s va vb hA S ⟨t, rfl⟩ ⟨u, rfl⟩; exact P.mul_int (PE.tok (pv := .int (a * b)) S ⟨_, rfl⟩ h) hm
theorem WO2.modI {a b : Int} {Q : PV → List Cell → Prop} (hb : b ≠ 0) (h : Q (.int (a.fmod b)) H) : WO2 g k (.int a) (.int b) (binaryOp .Mod) H Q := by
  rintro A β s va vb hA S ⟨t, rfl⟩ ⟨u, rfl⟩; exact mod_int' hb (PE.tok (pv := .int (a.fmod b)) S ⟨_, rfl⟩ h)
theorem noPylong {a b : Int} (hb : b.natAbs < 2 ^ 1000) : Builtin.divisionGoesByPylong a b = false := by
  unfold Builtin.divisionGoesByPylong
  have : b.natAbs.log2 ≤ 1000 := by
    by_cases h0 : b.natAbs = 0
    · rw [h0]; decide
    · exact Nat.le_of_lt ((Nat.log2_lt h0).mpr hb)
  simp only [Bool.and_eq_false_iff, decide_eq_false_iff_not]
  left
  split <;> omega
theorem WO2.divI {a b : Int} {Q : PV → List Cell → Prop} (hb : b ≠ 0) (hs : b.natAbs < 2 ^ 1000) (h : Q (.int (a.fdiv b)) H) : WO2 g k (.int a) (.int b) (binaryOp .FloorDiv) H Q := by
  rintro A β s va vb hA S ⟨t, rfl⟩ ⟨u, rfl⟩; exact floordiv_int (hp := .inl (noPylong hs)) hb (PE.tok (pv := .int (a.fdiv b)) S ⟨_, rfl⟩ h)
theorem WO2.andI {a b : Int} {Q : PV → List Cell → Prop} (h : Q (.int (Builtin.bitAnd a b)) H) : WO2 g k (.int a) (.int b) (binaryOp .BitAnd) H Q := by
  rintro A β s va vb hA S ⟨t, rfl⟩ ⟨u, rfl⟩; exact and_int (PE.tok (pv := .int (Builtin.bitAnd a b)) S ⟨_, rfl⟩ h)
theorem WO2.powI {a n : Int} {Q : PV → List Cell → Prop} (hn : 0 ≤ n) (hsz : (Builtin.Int.intBits a : Int) * n ≤ 2 ^ 27) (h : Q (.int (a ^ n.toNat)) H) : WO2 g k (.int a) (.int n) (binaryOp .Pow) H Q := by
  rintro A β s va vb hA S ⟨t, rfl⟩ ⟨u, rfl⟩; exact pow_int hn hsz (PE.tok (pv := .int (a ^ n.toNat)) S ⟨_, rfl⟩ h)
theorem WO2.eqI {a b : Int} {Q : PV → List Cell → Prop} (h : Q (.bool (a == b)) H) : WO2 g k (.int a) (.int b) (compareOp .Eq) H Q := by
  rintro A β s va vb hA S ⟨t, rfl⟩ ⟨u, rfl⟩; exact P.eq_int (PE.here (pv := .bool (a == b)) S rfl h)
theorem WO2.neI {a b : Int} {Q : PV → List Cell → Prop} (h : Q (.bool (a != b)) H) : WO2 g k (.int a) (.int b) (compareOp .NotEq) H Q := by
  rintro A β s va vb hA S ⟨t, rfl⟩ ⟨u, rfl⟩; exact P.ne_int (PE.here (pv := .bool (a != b)) S rfl h)
theorem WO2.ltI {a b : Int} {Q : PV → List Cell → Prop} (h : Q (.bool (decide (a < b))) H) : WO2 g k (.int a) (.int b) (compareOp .Lt) H Q := by
  rintro A β s va vb hA S ⟨t, rfl⟩ ⟨u, rfl⟩; exact P.lt_int (PE.here (pv := .bool (decide (a < b))) S rfl h)
theorem WO2.gtI {a b : Int} {Q : PV → List Cell → Prop} (h : Q (.bool (decide (a > b))) H) : WO2 g k (.int a) (.int b) (compareOp .Gt) H Q := by
  rintro A β s va vb hA S ⟨t, rfl⟩ ⟨u, rfl⟩; exact P.gt_int (PE.here (pv := .bool (decide (a > b))) S rfl h)

theorem beq_str (x y : Str) : (x.cps.toList == y.cps.toList) = (x == y) := by
  rw [Bool.eq_iff_iff, beq_iff_eq, beq_iff_eq]
  constructor
  · intro h; cases x; cases y; simp at h; rw [h]
  · rintro rfl; rfl
theorem WO2.eqS {x y : Str} {Q : PV → List Cell → Prop} (h : Q (.bool (x == y)) H) : WO2 g k (.str x) (.str y) (compareOp .Eq) H Q := by
  rintro A β s va vb hA S ⟨t, rfl⟩ ⟨u, rfl⟩; exact P.eq_str (PE.here (pv := .bool (x == y)) S (by rw [beq_str]; rfl) h)
theorem WO2.neS {x y : Str} {Q : PV → List Cell → Prop} (h : Q (.bool (x != y)) H) : WO2 g k (.str x) (.str y) (compareOp .NotEq) H Q := by
  rintro A β s va vb hA S ⟨t, rfl⟩ ⟨u, rfl⟩
  exact P.ne_str (PE.here (pv := .bool (x != y)) S (by show _ = _; simp only [bne, beq_str]) h)
theorem str_app_nil (x y : Str) (h : x.length = 0) : x ++ y = y := by
  cases x with | mk a => cases y with | mk b =>
  have : a.size = 0 := h
  show Str.mk (a ++ b) = Str.mk b
  rw [Array.size_eq_zero_iff.mp this]; simp
theorem str_nil_app (x y : Str) (h : y.length = 0) : x ++ y = x := by
  cases x with | mk a => cases y with | mk b =>
  have : b.size = 0 := h
  show Str.mk (a ++ b) = Str.mk a
  rw [Array.size_eq_zero_iff.mp this]; simp
theorem post_addS {x y : Str} {t u : Tok} {Q : PV → List Cell → Prop} (S : SimG g β H s) (hl : (x ++ y).length ≤ 100000) (h : Q (.str (x ++ y)) H) :
    (if x.length == 0 then Made.val (.str y u) else if y.length == 0 then Made.val (.str x t) else Made.str (x ++ y)).post (PE g β H s Q) s := by
  split
  · rename_i hx
    rw [str_app_nil x y (by simpa using hx)] at h
    exact PE.here (pv := .str y) S ⟨_, rfl⟩ h
  · split
    · rename_i hy
      rw [str_nil_app x y (by simpa using hy)] at h
      exact PE.here (pv := .str x) S ⟨_, rfl⟩ h
    · exact ⟨by rw [sizeLine_eq]; omega, PE.tok (pv := .str (x ++ y)) S ⟨_, rfl⟩ h⟩
theorem WO2.addS {x y : Str} {Q : PV → List Cell → Prop} (hl : (x ++ y).length ≤ 100000) (h : Q (.str (x ++ y)) H) : WO2 g k (.str x) (.str y) (binaryOp .Add) H Q := by
  rintro A β s va vb hA S ⟨t, rfl⟩ ⟨u, rfl⟩; exact P.add_str (post_addS S hl h)
theorem WO2.iaddS {x y : Str} {Q : PV → List Cell → Prop} (hl : (x ++ y).length ≤ 100000) (h : Q (.str (x ++ y)) H) : WO2 g k (.str x) (.str y) (inplaceOp .Add) H Q := by
  rintro A β s va vb hA S ⟨t, rfl⟩ ⟨u, rfl⟩; exact P.iadd_str (post_addS S hl h)
theorem WO2.iaddI {a b : Int} {Q : PV → List Cell → Prop} (h : Q (.int (a + b)) H) : WO2 g k (.int a) (.int b) (inplaceOp .Add) H Q := by
  rintro A β s va vb hA S ⟨t, rfl⟩ ⟨u, rfl⟩; exact P.iadd_int (PE.tok (pv := .int (a + b)) S ⟨_, rfl⟩ h)
theorem WO2.isNone {p : PV} {Q : PV → List Cell → Prop} (h : Q (.bool (match p with | .none => true | _ => false)) H) (hr : ∀ v, p ≠ .raw v) : WO2 g k p .none (compareOp .Is) H Q := by
  intro A β s va vb hA S Va Vb
  obtain rfl := Vb
  refine is_none (PE.here S ?_ h)
  cases p with
  | none => obtain rfl := Va; rfl
  | bool b => obtain rfl := Va; rfl
  | int i => obtain ⟨t, rfl⟩ := Va; rfl
  | str x => obtain ⟨t, rfl⟩ := Va; rfl
  | loc n => obtain ⟨a, _, rfl⟩ := Va; rfl
  | raw v => exact (hr v rfl).elim
end
end Mine

namespace Mine

section
variable {g : Cfg} {k : Nat} {W β β' : List Addr} {env : Env} {ρ : Rho} {H H' : List Cell} {s s' : Shared}

theorem vls1 {β : List Addr} {p : PV} {vs : List Value} (h : Vls β [p] vs) : ∃ v, vs = [v] ∧ Vl β p v := by
  cases vs with
  | nil => exact h.elim
  | cons v r =>
  cases r with
  | nil => exact ⟨v, rfl, h.1⟩
  | cons _ _ => exact h.2.elim
theorem vls2 {β : List Addr} {p q : PV} {vs : List Value} (h : Vls β [p, q] vs) : ∃ v u, vs = [v, u] ∧ Vl β p v ∧ Vl β q u := by
  cases vs with
  | nil => exact h.elim
  | cons v r =>
  obtain ⟨u, rfl, b⟩ := vls1 h.2
  exact ⟨v, u, rfl, h.1, b⟩

theorem WC.startswith {x y : Str} {Q : PV → List Cell → Prop} (h : Q (.bool (Txt.startswith x y)) H) : WC g k (.builtin "str.startswith") [.str x, .str y] H Q := by
  intro A β s vs hA S V
  obtain ⟨v, u, rfl, ⟨t, rfl⟩, ⟨t', rfl⟩⟩ := vls2 V
  exact SC.startswith (PE.here (pv := .bool (Txt.startswith x y)) S rfl h)
theorem WC.endswith {x y : Str} {Q : PV → List Cell → Prop} (h : Q (.bool (Txt.endswith x y)) H) : WC g k (.builtin "str.endswith") [.str x, .str y] H Q := by
  intro A β s vs hA S V
  obtain ⟨v, u, rfl, ⟨t, rfl⟩, ⟨t', rfl⟩⟩ := vls2 V
  exact SC.endswith (PE.here (pv := .bool (Txt.endswith x y)) S rfl h)
theorem WC.rfind {x y : Str} {Q : PV → List Cell → Prop} (h : Q (.int (Txt.rfind x y)) H) : WC g k (.builtin "str.rfind") [.str x, .str y] H Q := by
  intro A β s vs hA S V
  obtain ⟨v, u, rfl, ⟨t, rfl⟩, ⟨t', rfl⟩⟩ := vls2 V
  exact SC.rfind (PE.tok (pv := .int (Txt.rfind x y)) S ⟨_, rfl⟩ h)

theorem vls_strs {β : List Addr} : ∀ {xs : List Str} {l : List (Str × Tok)}, l.map (·.1) = xs → Vls β (xs.map .str) (strValues l)
  | [], [], _ => trivial
  | _ :: _, (y, t) :: r, e => by
    simp only [List.map_cons, List.cons.injEq] at e
    obtain ⟨rfl, e⟩ := e
    exact ⟨⟨t, rfl⟩, vls_strs e⟩
theorem strs_of_vls {β : List Addr} : ∀ {xs : List Str} {vs : List Value}, Vls β (xs.map .str) vs → ∃ l : List (Str × Tok), l.map (·.1) = xs ∧ vs = strValues l
  | [], [], _ => ⟨[], rfl, rfl⟩
  | x :: xs, v :: vs, ⟨⟨t, e⟩, r⟩ => by
    obtain ⟨l, e1, e2⟩ := strs_of_vls r
    exact ⟨(x, t) :: l, by simp [e1], by rw [e, e2]; rfl⟩
  | [], _ :: _, x => x.elim
  | _ :: _, [], x => x.elim

theorem WC.split {x y : Str} {Q : PV → List Cell → Prop} (hy : (y.length == 0) = false) (hx : x.length ≤ 100000) (hp : (PySem.Builtin.Str.partsBetween x (PySem.Builtin.Str.occurrences x y 0 x.length (x.length + 1)) y.length).length ≤ 100000)
    (h : Q (.loc H.length) (H ++ [.list ((Txt.split x y).map .str)])) : WC g k (.builtin "str.split") [.str x, .str y] H Q := by
  intro A β s vs hA S V
  obtain ⟨v, u, rfl, ⟨t, rfl⟩, ⟨t', rfl⟩⟩ := vls2 V
  have fin : ∀ (l : List (Str × Tok)) tk, l.map (·.1) = Txt.split x y → PE g β H s Q (.ref s.heap.objs.size) { s with heap := s.heap.push { cls := .type "list", data := .seq (strValues l).toArray }, toks := tk } :=
    fun l tk e => PE.list S (vls_strs e) h
  have e24 : sizeLine = 16777216 := sizeLine_eq
  cases h1 : (decide (x.length < y.length) || decide (PySem.Builtin.Str.strKind x < PySem.Builtin.Str.strKind y))
  · cases hf : (PySem.Builtin.Str.occurrences x y 0 x.length (x.length + 1)).isEmpty
    · refine call_meets F.slot_str_split (typeIs_str _ _ _) F.entry_str_split (F.args_str_split_2 _ _) (meets_str_split_sep x y t t' h1 hy hf (by omega) (by omega)) ?_
      show wants (PE g β H s Q) noE _ { s with toks := _, heap := s.heap.push { cls := .type "list", data := .seq (strsFrom s.toks (PySem.Builtin.Str.partsBetween x (PySem.Builtin.Str.occurrences x y 0 x.length (x.length + 1)) y.length)).toArray } }
      rw [strsFrom_eq]
      exact fin (numbered s.toks _) _ ((numbered_texts _ _).trans ((if_neg (ne_true_of_eq_false h1)).trans (if_neg (ne_true_of_eq_false hf))).symm)
    · exact call_meets F.slot_str_split (typeIs_str _ _ _) F.entry_str_split (F.args_str_split_2 _ _) (meets_str_split_not_found x y t t' h1 hy hf)
        (fin [(x, t)] _ ((if_neg (ne_true_of_eq_false h1)).trans (if_pos hf)).symm)
  · exact call_meets F.slot_str_split (typeIs_str _ _ _) F.entry_str_split (F.args_str_split_2 _ _) (meets_str_split_cannot_occur x y t t' h1)
      (fin [(x, t)] _ (if_pos h1).symm)

theorem WC.join {x : Str} {n : Nat} {xs : List Str} {Q : PV → List Cell → Prop} (e : H[n]? = some (.list (xs.map .str)) ∨ H[n]? = some (.flist (xs.map .str))) (hok : JoinOk x xs = true) (h : Q (.str (Txt.join x xs)) H) :
    WC g k (.builtin "str.join") [.str x, .loc n] H Q := by
  intro A β s vs hA S V
  obtain ⟨v, u, rfl, ⟨t, rfl⟩, ⟨a, ea, rfl⟩⟩ := vls2 V
  obtain ⟨vs, hl, r⟩ := cell_list S e ea
  obtain ⟨l, e1, rfl⟩ := strs_of_vls r
  exact SC.join hl e1 hok fun t' tk => PE.tok (pv := .str (Txt.join x xs)) S ⟨_, rfl⟩ h

theorem WC.append {n : Nat} {xs : List PV} {p : PV} {Q : PV → List Cell → Prop} (e : H[n]? = some (.list xs)) (hl : xs.length ≤ 100000) (h : Q .none (H.set n (.list (xs ++ [p])))) : WC g k (.builtin "list.append") [.loc n, p] H Q := by
  intro A β s vs hA S V
  obtain ⟨v, u, rfl, ⟨a, ea, rfl⟩, hu⟩ := vls2 V
  obtain ⟨vs, m, ho, r⟩ := S.at e ea
  have hT : s.TypeIs (.ref a) "list" := ⟨_, ho, rfl⟩
  have e24 : sizeLine = 16777216 := sizeLine_eq
  refine wpAny_call_entry slot_list_append hT entry_list_append ?_ (args_list_append _ _)
  show wpAny _ _ (updateSeq a (·.push u) >>= fun _ => ret .none) _ _ s
  refine wpAny_bind (wpAny_updateSeq ho rfl (wpAny_pure ⟨.none, rfl, ?_⟩) (by have := r.len; simp; omega) (by have := r.len; simp; omega))
  refine ⟨β, H.set n (.list (xs ++ [p])), .none, Step.put (tk := s.toks) S e ea rfl (fun b o hb x => (Heap.get?_update_other s.heap _ (Ne.symm hb)).trans x) ?_, rfl, h⟩
  exact ⟨vs ++ [u], _, (Heap.get?_update_self _ ho rfl).trans (by simp [Obj.mapSeq]; rfl), r.snoc hu⟩

theorem WC.pop {n : Nat} {xs : List PV} {p : PV} {Q : PV → List Cell → Prop} (e : H[n]? = some (.list (xs ++ [p]))) (hl : xs.length ≤ 100000) (h : Q p (H.set n (.list xs))) : WC g k (.builtin "list.pop") [.loc n] H Q := by
  intro A β s vs hA S V
  obtain ⟨v, rfl, ⟨a, ea, rfl⟩⟩ := vls1 V
  obtain ⟨vs, m, ho, r⟩ := S.at e ea
  have e24 : sizeLine = 16777216 := sizeLine_eq
  have hlen : vs.length = xs.length + 1 := by simp [r.len]
  obtain ⟨y, hy, hyv⟩ := r.get (i := xs.length) (p := p) (by simp)
  refine call_meets F.slot_list_pop ⟨_, ho, rfl⟩ F.entry_list_pop (F.args_list_pop_1 _) (MeetsSeq.list_pop_last a vs.toArray m y (by simp only [List.size_toArray, hlen, Nat.add_sub_cancel, List.getElem?_toArray]; exact hy) (by simp [hlen]; omega)) ⟨ho, ?_⟩
  refine ⟨β, H.set n (.list xs), p, Step.put (tk := s.toks) S e ea rfl (fun b o hb x => (Heap.get?_update_other s.heap _ (Ne.symm hb)).trans x) ?_, hyv, h⟩
  have he : (vs.toArray.eraseIdxIfInBounds (vs.toArray.size - 1)) = (vs.take xs.length).toArray := by
    rw [List.eraseIdxIfInBounds_toArray, List.size_toArray, hlen, Nat.add_sub_cancel, List.eraseIdx_eq_take_drop_succ, List.drop_eq_nil_of_le (by omega), List.append_nil]
  have hobj : ∃ m', Obj.mapSeq (fun xs => xs.eraseIdxIfInBounds (vs.toArray.size - 1)) { cls := Value.type "list", data := Data.seq vs.toArray m } = { cls := Value.type "list", data := Data.seq (vs.take xs.length).toArray m' } := by
    simp only [Obj.mapSeq, he]
    exact ⟨_, rfl⟩
  obtain ⟨m', hm'⟩ := hobj
  exact ⟨vs.take xs.length, m', (Heap.get?_update_self _ ho (by rw [hm']; rfl)).trans (congrArg some hm'), by simpa using r.take xs.length⟩
theorem GM.pop {n : Nat} {xs : List PV} (e : H[n]? = some (.list xs)) : GM g H (.loc n) "pop" "list.pop" := by
  intro A β s v pl Q E S hv h
  obtain ⟨a, ea, rfl⟩ := hv
  obtain ⟨vs, m, ho, r⟩ := S.at e ea
  exact getMethod_builtin ⟨_, ho, rfl⟩ F.plainAttrs_list F.slot_list_pop F.type_list_pop (fun b eb => by cases eb; exact ⟨_, ho, rfl⟩) h

theorem WC.lenL {n : Nat} {xs : List PV} {Q : PV → List Cell → Prop} (e : H[n]? = some (.list xs) ∨ H[n]? = some (.flist xs)) (hl : xs.length ≤ 100000) (h : Q (.int xs.length) H) : WC g k (.builtin "len") [.loc n] H Q := by
  intro A β s vs hA S V
  obtain ⟨v, rfl, ⟨a, ea, rfl⟩⟩ := vls1 V
  obtain ⟨vs, hlist, r⟩ := cell_list S e ea
  have hlen : vs.toArray.size = xs.length := by simp [r.len]
  refine call_len_list hlist (by omega) (PE.tok (pv := .int xs.length) S ⟨s.toks + 1, by rw [hlen]⟩ h)
theorem WC.abs {a : Int} {Q : PV → List Cell → Prop} (h : Q (.int (if a < 0 then -a else a)) H) : WC g k (.builtin "abs") [.int a] H Q := by
  intro A β s vs hA S V
  obtain ⟨v, rfl, ⟨t, rfl⟩⟩ := vls1 V
  exact call_abs_int fun u tk => PE.tok (pv := .int (if a < 0 then -a else a)) S ⟨_, rfl⟩ h

/-! truth -/
theorem WT1.bool {b : Bool} {Q : Bool → List Cell → Prop} (h : Q b H) : WT1 g k (.bool b) H Q := by
  rintro A β s v hA S rfl; exact wpAny_truthy_bool (PB.here S h)
theorem WT1.str {x : Str} {Q : Bool → List Cell → Prop} (hx : x.length ≤ 100000) (h : Q (x.length != 0) H) : WT1 g k (.str x) H Q := by
  rintro A β s v hA S ⟨t, rfl⟩
  have e : ((x.length : Int) != 0) = (x.length != 0) := by
    rw [Bool.eq_iff_iff]; simp
  exact P.truthy_str (by omega) (by rw [e]; exact ⟨β, H, Step.grow (h' := s.heap) S fun _ _ e => e, h⟩)
theorem WT1.list {n : Nat} {xs : List PV} {Q : Bool → List Cell → Prop} (e : H[n]? = some (.list xs) ∨ H[n]? = some (.flist xs)) (hl : xs.length ≤ 100000) (h : Q (xs.length != 0) H) : WT1 g k (.loc n) H Q := by
  rintro A β s v hA S ⟨a, ea, rfl⟩
  obtain ⟨vs, hlist, r⟩ := cell_list S e ea
  have hlen : vs.toArray.size = xs.length := by simp [r.len]
  have he : (!vs.toArray.isEmpty) = (xs.length != 0) := by
    rw [← hlen, Bool.eq_iff_iff]; simp [Array.isEmpty]
  exact wpAny_truthy_list hlist (by omega) (by rw [he]; exact ⟨β, H, Step.grow (h' := s.heap) S fun _ _ e => e, h⟩)

end
end Mine

namespace Mine

noncomputable def Wf (env : Env) : List Addr := env.locals :: env.scope.names.filterMap fun n => env.cells.lookup n.1
/-- a name that is met through a cell -/
noncomputable def Reach (env : Env) (x : Str) : Prop := (env.kindOf x = some .cell ∨ env.kindOf x = some .free) ∧ ∃ c, env.cells.lookup x = some c
noncomputable def retQ (Q : PV → List Cell → Prop) : AF → Rho → List Cell → Prop
  | .ret p, _, H => Q p H
  | _, _, H => Q .none H

/-- what a function's frame knows of its names -/
structure EnvOk (names : List (Str × NameKind)) (env : Env) : Prop where
  kind : ∀ x, env.kindOf x = names.lookup x
  cells : ∀ x, names.lookup x = some .cell → ∃ c, env.cells.lookup x = some c ∧ c ∈ Wf env
  fn : env.scope.kind = .function

theorem EnvOk.reach {names : List (Str × NameKind)} {env : Env} (h : EnvOk names env) {x : Str} (e : names.lookup x = some .cell) : Reach env x := ⟨.inl ((h.kind x).trans e), let ⟨c, hc, _⟩ := h.cells x e; ⟨c, hc⟩⟩

section
variable {P : Params} {B : Shared} {W β β' : List Addr} {H H' : List Cell} {s s₁ s' : Shared}

theorem get_none_of_le {h : Heap} {a : Addr} (e : h.objs.size ≤ a) : h.get? a = none := by
  cases x : h.get? a with
  | none => rfl
  | some o => exact absurd (Heap.lt_size x) (Nat.not_lt.mpr e)

theorem Step.fresh (_S : Sim P B β H s) (hW : ∀ a ∈ W, s.heap.get? a = none) (hk : ∀ b o, s.heap.get? b = some o → s₁.heap.get? b = some o) (T : Step P B W β H s₁ β' H' s') : Step P B [] β H s β' H' s' where
  sim := T.sim
  pre := T.pre
  mono := T.mono
  pres := fun b o hb _ e => T.pres b o hb (fun hm => by rw [hW b hm] at e; cases e) (hk b o e)
  new := fun a ha => by
    rcases T.new a ha with h | h | h
    · exact .inl h
    · refine .inr (.inl ?_)
      cases x : s.heap.get? a with
      | none => rfl
      | some o => rw [hk a o x] at h; cases h
    · exact .inr (.inr h)
  live := fun b o e => T.live b o (hk b o e)
end

theorem bindL_miss {kindOf : Str → Option NameKind} {x : Str} : ∀ {binds : List (Str × Value)} {m : Str → Option Value}, binds.lookup x = none → bindL kindOf binds m x = m x
  | [], _, _ => rfl
  | (n, v) :: r, m, h => by
    rw [List.lookup_cons] at h
    cases hx : x == n with
    | true => rw [hx] at h; cases h
    | false =>
      rw [hx] at h
      unfold bindL
      rw [bindL_miss h]
      split
      · have : x ≠ n := fun e => by rw [e, beq_self_eq_true] at hx; cases hx
        simp [this]
      · rfl
theorem bindC_miss {kindOf : Str → Option NameKind} {x : Str} : ∀ {binds : List (Str × Value)} {m : Str → Option Value}, binds.lookup x = none → bindC kindOf binds m x = m x
  | [], _, _ => rfl
  | (n, v) :: r, m, h => by
    rw [List.lookup_cons] at h
    cases hx : x == n with
    | true => rw [hx] at h; cases h
    | false =>
      rw [hx] at h
      unfold bindC
      rw [bindC_miss h]
      split
      · rfl
      · have : x ≠ n := fun e => by rw [e, beq_self_eq_true] at hx; cases hx
        simp [this]
theorem lookup_none_of {α : Type} {x : Str} : ∀ {l : List (Str × α)}, x ∉ l.map (·.1) → l.lookup x = none
  | [], _ => rfl
  | (n, v) :: r, h => by
    rw [List.lookup_cons]
    have h1 : x ≠ n := fun e => h (by simp [e])
    rw [beq_eq_false_iff_ne.mpr h1]
    exact lookup_none_of fun hm => h (List.mem_cons_of_mem _ hm)
theorem bindL_hit {kindOf : Str → Option NameKind} {x : Str} {v : Value} (hk : kindOf x = some .local) : ∀ {binds : List (Str × Value)} {m : Str → Option Value}, (binds.map (·.1)).Nodup → binds.lookup x = some v → bindL kindOf binds m x = some v
  | [], _, _, h => by simp at h
  | (n, u) :: r, m, hn, h => by
    rw [List.map_cons, List.nodup_cons] at hn
    rw [List.lookup_cons] at h
    unfold bindL
    cases hx : x == n with
    | true =>
      rw [hx] at h; cases h
      have e : x = n := beq_iff_eq.mp hx
      subst e
      rw [bindL_miss (lookup_none_of hn.1), if_pos hk]; simp
    | false => rw [hx] at h; exact bindL_hit hk hn.2 h
theorem bindC_hit {kindOf : Str → Option NameKind} {x : Str} {v : Value} (hk : kindOf x ≠ some .local) : ∀ {binds : List (Str × Value)} {m : Str → Option Value}, (binds.map (·.1)).Nodup → binds.lookup x = some v → bindC kindOf binds m x = some v
  | [], _, _, h => by simp at h
  | (n, u) :: r, m, hn, h => by
    rw [List.map_cons, List.nodup_cons] at hn
    rw [List.lookup_cons] at h
    unfold bindC
    cases hx : x == n with
    | true =>
      rw [hx] at h; cases h
      have e : x = n := beq_iff_eq.mp hx
      subst e
      rw [bindC_miss (lookup_none_of hn.1), if_neg hk]; simp
    | false => rw [hx] at h; exact bindC_hit hk hn.2 h

/-- two lists of bindings, name by name -/
noncomputable def Binds (β : List Addr) : Rho → List (Str × Value) → Prop
  | [], [] => True
  | (x, p) :: r, (y, v) :: t => x = y ∧ Vl β p v ∧ Binds β r t
  | _, _ => False
theorem Binds.get {β : List Addr} {x : Str} {p : PV} : ∀ {ρ : Rho} {bs : List (Str × Value)}, Binds β ρ bs → ρ.lookup x = some p → ∃ v, bs.lookup x = some v ∧ Vl β p v
  | [], [], _, h => by simp at h
  | (y, q) :: r, (z, v) :: t, ⟨e, a, b⟩, h => by
    subst e
    rw [List.lookup_cons] at h ⊢
    cases hx : x == y with
    | true => rw [hx] at h; cases h; exact ⟨v, rfl, a⟩
    | false => rw [hx] at h; exact b.get h
  | [], _ :: _, x, _ => x.elim
  | _ :: _, [], x, _ => x.elim
theorem Binds.keys {β : List Addr} : ∀ {ρ : Rho} {bs : List (Str × Value)}, Binds β ρ bs → bs.map (·.1) = ρ.map (·.1)
  | [], [], _ => rfl
  | (_, _) :: _, (_, _) :: _, ⟨e, _, b⟩ => by simp [e, b.keys]
  | [], _ :: _, x => x.elim
  | _ :: _, [], x => x.elim

section
variable {g : Cfg} {k : Nat} {W β β' : List Addr} {env : Env} {ρ : Rho} {H H' : List Cell} {s s' : Shared}

theorem WE.nameR {x : Str} {pos : Pos} {p : PV} {Q : PV → List Cell → Prop} (e : ρ.lookup x = some p) (h : Q p H) (hr : Reach env x)
    (hd : (x == ("__debug__" : Str)) = false := by decide) (hn : (x == ("__classdict__" : Str)) = false := by decide) : WE g k env (.Name x pos) ρ H Q := by
  obtain ⟨hk | hk, c, hc⟩ := hr
  · exact WE.nameC e h hk hc hd
  · exact WE.nameF e h hk hc hd hn

/-- the frame that a call lays -/
theorem Frm.enter {fd : FuncData} {f : Addr} {binds : List (Str × Value)} {ρ₀ : Rho} {s₁ : Shared} (S : SimG g β H s) (hk : fd.scope.kind = .function) (hg : fd.globals = mainGlobals) (hb : fd.builtins = builtinsNs)
    (hnd : (ρ₀.map (·.1)).Nodup) (hB : Binds β ρ₀ binds)
    (x : InCallC s (callEnvC fd s.heap.objs.size f).locals (bindL (callEnvC fd s.heap.objs.size f).kindOf binds fun _ => none) (callEnvC fd s.heap.objs.size f).cells
        (bindC (callEnvC fd s.heap.objs.size f).kindOf binds fun _ => none) s₁) : Frm g.B β (callEnvC fd s.heap.objs.size f) ρ₀ s₁ where
  fn := hk
  gl := hg
  bl := hb
  ns := ⟨_, x.toInCall.ns, fun y pv e hky => by
    obtain ⟨v, hv, hvl⟩ := hB.get e
    exact ⟨v, bindL_hit hky (by rw [hB.keys]; exact hnd) hv, hvl⟩⟩
  cell := fun y c e => ⟨_, x.cell y c e, fun pv e' hky => by
    obtain ⟨v, hv, hvl⟩ := hB.get e'
    exact ⟨v, bindC_hit (by rcases hky with h | h <;> rw [h] <;> decide) (by rw [hB.keys]; exact hnd) hv, hvl⟩⟩
  inj := fun y z c e e' => name_of_addr x.apart (mem_of_lookup e) (mem_of_lookup e')
  apartL := S.not_mem (get_size_none _)
  apartC := fun y c e => S.not_mem (get_none_of_le (Nat.le_of_lt (x.above y c (mem_of_lookup e))))
  newL := S.base_none (get_size_none _)
  newC := fun y c e => S.base_none (get_none_of_le (Nat.le_of_lt (x.above y c (mem_of_lookup e))))

theorem cellsFrom_some {x : Str} : ∀ (names : List (Str × NameKind)) (n : Nat) (acc : List (Str × Addr)), (x, NameKind.cell) ∈ names ∨ (acc.lookup x).isSome = true → ((cellsFrom n names acc).lookup x).isSome = true
  | [], _, _, h => by
    rcases h with h | h
    · cases h
    · exact h
  | (y, kd) :: r, n, acc, h => by
    unfold cellsFrom
    split
    · rename_i hk
      refine cellsFrom_some r _ _ ?_
      by_cases hxy : x = y
      · subst hxy; right; simp
      · rcases h with h | h
        · rcases List.mem_cons.mp h with h | h
          · cases h; exact absurd rfl hxy
          · exact .inl h
        · right; rw [List.lookup_cons, beq_eq_false_iff_ne.mpr hxy]; exact h
    · rename_i hk
      refine cellsFrom_some r _ _ ?_
      rcases h with h | h
      · rcases List.mem_cons.mp h with h | h
        · cases h; exact absurd rfl hk
        · exact .inl h
      · exact .inr h
theorem EnvOk.of_call {fd : FuncData} {L f : Addr} (hk : fd.scope.kind = .function) : EnvOk fd.scope.names (callEnvC fd L f) where
  kind := fun _ => rfl
  cells := fun x e => by
    obtain ⟨c, h⟩ := Option.isSome_iff_exists.mp (cellsFrom_some fd.scope.names (L + 1) [] (.inl (mem_of_lookup e)))
    exact ⟨c, h, List.mem_cons_of_mem _ (List.mem_filterMap.mpr ⟨_, mem_of_lookup e, h⟩)⟩
  fn := hk

theorem vs1 {α : Type} {P : List α → Prop} (h : ∀ a, P [a]) : ∀ vs : List α, vs.length = 1 → P vs := by
  intro vs e
  obtain ⟨a, rfl⟩ := List.length_eq_one_iff.mp e
  exact h a
theorem vsS {α : Type} {P : List α → Prop} {n : Nat} (h : ∀ a r, r.length = n → P (a :: r)) : ∀ vs : List α, vs.length = n + 1 → P vs := by
  intro vs e
  cases vs with
  | nil => cases e
  | cons a r => exact h a r (Nat.succ.inj e)
theorem vs2 {α : Type} {P : List α → Prop} (h : ∀ a b, P [a, b]) : ∀ vs : List α, vs.length = 2 → P vs := vsS fun a => vs1 (h a)
theorem vs3 {α : Type} {P : List α → Prop} (h : ∀ a b c, P [a, b, c]) : ∀ vs : List α, vs.length = 3 → P vs := vsS fun a => vs2 (P := fun r => P (a :: r)) (h a)
theorem vs5 {α : Type} {P : List α → Prop} (h : ∀ a b c d e, P [a, b, c, d, e]) : ∀ vs : List α, vs.length = 5 → P vs := vsS fun a => vsS (P := fun r => P (a :: r)) fun b => vs3 (P := fun r => P (a :: b :: r)) (h a b)

/-- a call of one of the text's own defs, all parameters plain -/
theorem WC.fn (G : Gd g) {f : Addr} {o : Obj} {fd : FuncData} {body : List Stmt} {names : List Str} {ps : List PV} {Q : PV → List Cell → Prop}
    (hl : (KK g.w.params).lookup f = some o) (hd : o.data = .func fd) (hbody : fd.body = .stmts body) (hcode : codeIn (KK g.w.params) fd.code fd.qualname = true)
    (hbind : ∀ vs : List Value, vs.length = names.length → bindArgs fd ⟨vs, []⟩ = pure (names.zip vs)) (hlen : ps.length = names.length) (hnd : names.Nodup)
    (hclo : fd.closure = []) (hk : fd.scope.kind = .function) (hg : fd.globals = mainGlobals) (hb : fd.builtins = builtinsNs) (hco : fd.scope.isCoroutine = false) (hgen : fd.scope.isGenerator = false)
    (hp : (names.all fun x => decide (fd.scope.names.lookup x = some .local) || decide (fd.scope.names.lookup x = some .cell)) = true)
    (h : ∀ env, EnvOk fd.scope.names env → WSS g k (Wf env) env body (names.zip ps) H (retQ Q)) : WC g (k + 1) (.ref f) ps H Q := by
  intro A β s vs hA S V
  have hB : ∀ {ns : List Str} {ps : List PV} {vs : List Value}, Vls β ps vs → ps.length = ns.length → Binds β (ns.zip ps) (ns.zip vs) := by
    intro ns
    induction ns with
    | nil => intro ps vs _ _; simp [Binds]
    | cons n r ih =>
      intro ps vs V e
      cases ps with
      | nil => cases e
      | cons p ps =>
      cases vs with
      | nil => exact V.elim
      | cons v vs => exact ⟨rfl, V.1, ih V.2 (Nat.succ.inj e)⟩
  have hkeys : (names.zip ps).map (·.1) = names := by rw [List.map_fst_zip]; omega
  refine wpAny_call (codeAny_call_cells (o := o) (binds := names.zip vs) hA.depth (S.base _ _ (G.K _ _ hl)) hd (G.nolimit.keeps S.base) ((codeRec_of G.K hcode).keeps S.base) hbody (hbind vs (by rw [V.len, hlen])) hclo ?_ (fun s₁ x => ?_) hco hgen hk)
  · intro x hx
    have := List.all_eq_true.mp hp x.1 (List.of_mem_zip hx).1
    simp only [Bool.or_eq_true, decide_eq_true_eq] at this
    rcases this with e | e
    · exact .inl e
    · exact .inr ⟨e, cellsFrom_some _ _ _ (.inl (mem_of_lookup e))⟩
  · have hkp := x.toInCall.keep
    obtain ⟨h₁, tk₁, rfl⟩ := x.toInCall.same
    have S₁ : SimG g β H { s with heap := h₁, toks := tk₁ } := S.grow hkp
    refine wpAny_mono (h _ (EnvOk.of_call hk) _ β _ hA.deeper S₁ (Frm.enter S hk hg hb (by rw [hkeys]; exact hnd) (hB V hlen) x)) (fun fl s' hs => ?_) (fun _ _ x => x.elim)
    obtain ⟨β', H', ρ', af, T, F', R, q⟩ := hs
    have T' : StepG g [] β H s β' H' s' := T.fresh S (fun a ha => by
      rcases List.mem_cons.mp ha with rfl | ha
      · exact get_size_none _
      · obtain ⟨⟨n, kd⟩, _, hm⟩ := List.mem_filterMap.mp ha
        exact get_none_of_le (Nat.le_of_lt (x.above n a (mem_of_lookup hm)))) hkp
    cases af with
    | next => obtain rfl := R; exact ⟨β', H', .none, T', rfl, q⟩
    | brk => obtain rfl := R; exact ⟨β', H', .none, T', rfl, q⟩
    | cont => obtain rfl := R; exact ⟨β', H', .none, T', rfl, q⟩
    | ret p => obtain ⟨v, rfl, hv⟩ := R; exact ⟨β', H', p, T', hv, q⟩
end
end Mine

namespace Mine

section
variable {prog : Program} {w : World} {A : Around} {s : Shared}
theorem codeAny_forLoopT {R : Result → Shared → Prop} {target it body orelse env} (I : Nat → Shared → Prop)
    (turn : ∀ n s, I n s → wpAny (model prog w) A (pyNext it) (fun r s₁ => match r with
      | none => wpAny (model prog w) A (execs orelse env) (fun f s₃ => R (.ok f) s₃) (notedBy (model prog w) A env fun e s' => R (.error e) s') s₁
      | some v => wpAny (model prog w) A (letOwnedTupleGo target it v) (fun _ s₁' => wpAny (model prog w) A (assign target env v) (fun _ s₂ => wpAny (model prog w) A (execs body env) (fun f s₃ => match f with
          | .next | .cont => ∃ m, m < n ∧ I m s₃
          | .brk => R (.ok .next) s₃
          | .ret v => R (.ok (.ret v)) s₃) (notedBy (model prog w) A env fun e s' => R (.error e) s') s₂) (notedBy (model prog w) A env fun e s' => R (.error e) s') s₁') (notedBy (model prog w) A env fun e s' => R (.error e) s') s₁) (notedBy (model prog w) A env fun e s' => R (.error e) s') s)
    (n : Nat) (h : I n s) : codeAny (model prog w) A (.forLoop target it body orelse env) R s := by
  refine codeAny_loop' rfl I (fun n s hI => ?_) n h
  show wpAny _ A ((forTurn target it body orelse env).onRaise (fun x => do noteFrame x env; theTreesLotGoes x)) _ _ s
  refine wpAny_noted ?_
  simp only [forTurn]
  refine wpAny_bind (wpAny_standAt (wpAny_bind (wpAny_onRaise (wpAny_mono (turn n s hI) (fun r s₁ h₁ => ?_) fun _ _ h' => wpAny_standAt h'))))
  cases r with
  | none => exact wpAny_pure (.inr ⟨rfl, codeAny_block h₁⟩)
  | some v =>
    refine wpAny_bind (wpAny_mono h₁ (fun _ s₁' h₁' => ?_) fun _ _ h' => h')
    refine wpAny_bind (wpAny_mono h₁' (fun _ s₂ h₂ => wpAny_bind (wpAny_mono h₂ (fun f s₃ h₃ => ?_) fun _ _ h' => h')) fun _ _ h' => h')
    cases f with
    | next => exact wpAny_pure (.inl ⟨rfl, h₃⟩)
    | cont => exact wpAny_pure (.inl ⟨rfl, h₃⟩)
    | brk => exact wpAny_pure h₃
    | ret v => exact wpAny_pure h₃
end


section
variable {P : Params} {B : Shared} {W β β' β₀ : List Addr} {H H' H₀ : List Cell} {s s' s₀ : Shared}

theorem Step.firm (S : Sim P B β H s) (x : Step P B W β H s β' H' s') {b : Addr} {o : Obj} (hb : Firm β H b) (e : s.heap.get? b = some o) : Firm β' H' b := fun i c e1 e2 => by
  rcases x.new b (List.mem_of_getElem? e1) with h | h | h
  · obtain ⟨j, hj, rfl⟩ := List.getElem_of_mem h
    have e3 : β'[j]? = some β[j] := pre_get x.pre (List.getElem?_eq_getElem hj)
    have hij : i = j := (List.getElem?_inj (List.getElem?_eq_some_iff.mp e1).1 x.sim.nodup).mp (e1.trans e3.symm)
    subst hij
    have hH : i < H.length := S.len ▸ hj
    have hc := hb i H[i] (List.getElem?_eq_getElem hj) (List.getElem?_eq_getElem hH)
    have := x.mono i _ (List.getElem?_eq_getElem hH) hc
    rw [e2] at this; cases this; exact hc
  · rw [e] at h; cases h
  · cases hm : c.mut with
    | false => rfl
    | true => exact absurd (x.sim.fresh i b c e1 e2 hm) h

/-- the machine's own objects change: they are none of ours -/
theorem Step.junk (S₀ : Sim P B β₀ H₀ s₀) (T : Step P B W β₀ H₀ s₀ β H s) {wr : List Addr} {h' : Heap} {tk : Nat} (hw : ∀ b ∈ wr, s₀.heap.get? b = none ∧ b ∉ β)
    (hk : ∀ b o, b ∉ wr → s.heap.get? b = some o → h'.get? b = some o) : Step P B W β₀ H₀ s₀ β H { s with heap := h', toks := tk } where
  sim := {
    len := T.sim.len
    nodup := T.sim.nodup
    cells := fun i b c e e' => (T.sim.cells i b c e e').keep (List.prefix_refl _) fun o x => hk b o (fun hm => (hw b hm).2 (List.mem_of_getElem? e)) x
    base := fun b o e => hk b o (fun hm => by have := (hw b hm).1; rw [S₀.base b o e] at this; cases this) (T.sim.base b o e)
    fresh := T.sim.fresh
    same := let ⟨_, _, e⟩ := T.sim.same; ⟨h', tk, by rw [e]⟩ }
  pre := T.pre
  mono := T.mono
  pres := fun b o hb hbw e => hk b o (fun hm => by have := (hw b hm).1; rw [e] at this; cases this) (T.pres b o hb hbw e)
  new := T.new
  live := fun b o e => by
    obtain ⟨o', e'⟩ := T.live b o e
    exact ⟨o', hk b o' (fun hm => by have := (hw b hm).1; rw [e] at this; cases this) e'⟩

theorem Frm.junk {env : Env} {ρ : Rho} (F : Frm B β env ρ s) {wr : List Addr} {h' : Heap} {tk : Nat} (hL : env.locals ∉ wr) (hC : ∀ x c, env.cells.lookup x = some c → c ∉ wr)
    (hk : ∀ b o, b ∉ wr → s.heap.get? b = some o → h'.get? b = some o) : Frm B β env ρ { s with heap := h', toks := tk } where
  fn := F.fn
  gl := F.gl
  bl := F.bl
  ns := let ⟨m, ⟨o, es, ep, e, r⟩, hm⟩ := F.ns; ⟨m, ⟨o, es, ep, hk _ _ hL e, r⟩, hm⟩
  cell := fun x c e => let ⟨ov, ⟨o, ho, hd⟩, hv⟩ := F.cell x c e; ⟨ov, ⟨o, hk _ _ (hC x c e) ho, hd⟩, hv⟩
  inj := F.inj
  apartL := F.apartL
  apartC := F.apartC
  newL := F.newL
  newC := F.newC

theorem Frm.alive {env : Env} {ρ : Rho} (F : Frm B β env ρ s) {a : Addr} (h : a ∈ Wf env) : ∃ o, s.heap.get? a = some o := by
  rcases List.mem_cons.mp h with rfl | h
  · exact F.aliveL
  · obtain ⟨⟨n, kd⟩, _, e⟩ := List.mem_filterMap.mp h
    obtain ⟨_, ⟨o, ho, _⟩, _⟩ := F.cell n a e
    exact ⟨o, ho⟩
theorem Frm.aliveC {env : Env} {ρ : Rho} (F : Frm B β env ρ s) {x : Str} {c : Addr} (e : env.cells.lookup x = some c) : ∃ o, s.heap.get? c = some o := by
  obtain ⟨_, ⟨o, ho, _⟩, _⟩ := F.cell x c e; exact ⟨o, ho⟩
end

noncomputable def loopQ (J : Rho → List Cell → Prop) (Q : AF → Rho → List Cell → Prop) : AF → Rho → List Cell → Prop
  | .next, ρ, H => J ρ H
  | .cont, ρ, H => J ρ H
  | .brk, ρ, H => Q .next ρ H
  | .ret p, ρ, H => Q (.ret p) ρ H

section
variable {g : Cfg} {k : Nat} {W β β' : List Addr} {env : Env} {ρ : Rho} {H H' : List Cell} {s s' : Shared}

theorem go_quiet {M : Model} {A : Around} {E : Value → Shared → Prop} {target : Expr} {I : Addr} {v : Value} {Q : Unit → Shared → Prop} {o : Obj} (ho : s.heap.get? I = some o)
    (hc : ∀ n, o.cls = .type n → ["enumerate", "zip", "dict_itemiterator", "dict_reverseitemiterator", "odict_iterator", "itertools.zip_longest", "itertools.pairwise"].contains n = false) (h : Q () s) :
    wpAny M A (letOwnedTupleGo target (.ref I) v) Q E s := by
  unfold letOwnedTupleGo
  split
  · split
    · rename_i r a heq
      cases heq
      refine wpAny_bind (wpAny_load ho ?_)
      split
      · rename_i n vs hn _
        rw [hc n hn, Bool.false_and]
        exact wpAny_pure h
      · exact wpAny_pure h
    · exact wpAny_pure h
  · split
    · rename_i r a heq
      cases heq
      refine wpAny_bind (wpAny_load ho ?_)
      split
      · rename_i n vs hn _
        rw [hc n hn, Bool.false_and]
        exact wpAny_pure h
      · exact wpAny_pure h
    · exact wpAny_pure h
  · exact wpAny_pure h

/-- the loop itself, over an iterator that hands on what stands in ps -/
theorem for_walk {A : Around} {target : Expr} {body orelse : List Stmt} {I : Addr} {fp : List Addr} {n : Nat} {Pi : Nat → Value → Prop} {St : Nat → Heap → Prop} {ps : List PV} {Q : AF → Rho → List Cell → Prop}
    (J : List PV → Rho → List Cell → Prop) (hA : Rm k A) (Wk : Walks g.prog g.w A I fp [I] n Pi St)
    (hlive : ∀ i h, St i h → ∃ o, h.get? I = some o)
    (hgo : ∀ i v (s : Shared) (Q : Unit → Shared → Prop) (E : Value → Shared → Prop), St i s.heap → Q () s → wpAny g.M A (letOwnedTupleGo target (.ref I) v) Q E s)
    (S : SimG g β H s) (F : Frm g.B β env ρ s) {h₁ : Heap} {tk₁ : Nat} (hk : ∀ b o, s.heap.get? b = some o → h₁.get? b = some o) (hI : s.heap.get? I = none)
    (hfp : ∀ b ∈ fp, (∃ o, h₁.get? b = some o) ∧ Firm β H b ∧ b ∉ W) (hP : ∀ i v, i < n → Pi i v → ∃ p, ps[i]? = some p ∧ Vl β p v) (hn : n = ps.length) (hst : St 0 h₁) (hj : J ps ρ H)
    (turn : ∀ x rest ρ' H', J (x :: rest) ρ' H' → WA g k W env target x ρ' H' (fun ρ2 H2 => WSS g k W env body ρ2 H2 (loopQ (J rest) Q)))
    (fin : ∀ ρ' H', J [] ρ' H' → WSS g k W env orelse ρ' H' Q) (E : Value → Shared → Prop) :
    codeAny g.M A (.forLoop target (.ref I) body orelse env) (fun r s' => match r with | .ok f => PS g W env β H s Q f s' | .error e => E e s') { s with heap := h₁, toks := tk₁ } := by
  have S₁ : StepG g W β H s β H { s with heap := h₁, toks := tk₁ } := Step.grow S hk
  have hIL : env.locals ∉ [I] := fun h => by
    obtain ⟨o, e⟩ := F.aliveL
    rw [List.mem_singleton.mp h, hI] at e; cases e
  have hIC : ∀ x c, env.cells.lookup x = some c → c ∉ [I] := fun x c ec h => by
    obtain ⟨o, e⟩ := F.aliveC ec
    rw [List.mem_singleton.mp h, hI] at e; cases e
  refine codeAny_forLoopT (fun m s' => Ex4 fun i β' H' ρ' => And8 (StepG g W β H s β' H' s') (Frm g.B β' env ρ' s') (St i s'.heap) (∀ b ∈ fp, (∃ o, s'.heap.get? b = some o) ∧ Firm β' H' b) (I ∉ β') (J (ps.drop i) ρ' H') (i ≤ n) (m = n + 1 - i)) ?_ (n + 1)
    ⟨0, β, H, ρ, S₁, F.junk (wr := []) (by simp) (fun _ _ _ => by simp) (fun b o _ e => hk b o e), hst, fun b hb => ⟨(hfp b hb).1, (hfp b hb).2.1⟩, S.not_mem hI, by simpa using hj, Nat.zero_le _, by omega⟩
  rintro m s' ⟨i, β', H', ρ', T, F', st, hf, hIb, hJ, hi, rfl⟩
  by_cases hlt : i < n
  · refine Wk.item i _ _ _ hlt st fun v h2 tk2 hp st2 hk2 => ?_
    have T2 : StepG g W β H s β' H' { s' with heap := h2, toks := tk2 } := T.junk S (wr := [I]) (fun b hb => by rw [List.mem_singleton.mp hb]; exact ⟨hI, hIb⟩) hk2
    have F2 : Frm g.B β' env ρ' { s' with heap := h2, toks := tk2 } := F'.junk hIL hIC hk2
    refine hgo (i + 1) v _ _ _ st2 ?_
    obtain ⟨p, hp1, hp2⟩ := hP i v hlt hp
    have hd : ps.drop i = p :: ps.drop (i + 1) := by
      obtain ⟨hlt', e⟩ := List.getElem?_eq_some_iff.mp hp1
      rw [List.drop_eq_getElem_cons hlt', e]
    rw [hd] at hJ
    refine wpAny_mono (turn p _ ρ' H' hJ A β' _ v hA T2.sim F2 (hp2.pre T.pre)) (fun _ s3 h3 => ?_) fun _ _ x => x.elim
    obtain ⟨β3, H3, ρ3, T3, F3, q3⟩ := h3
    refine wpAny_mono (q3 A β3 s3 hA T3.sim F3) (fun f s4 h4 => ?_) fun _ _ x => x.elim
    obtain ⟨β4, H4, ρ4, af, T4, F4, R4, q4⟩ := h4
    have T34 := T3.trans T4 T2.sim
    have T4' : StepG g W β H s β4 H4 s4 := T2.trans T34 S
    have keepfp : ∀ b ∈ fp, ∀ o, h2.get? b = some o → s4.heap.get? b = some o := fun b hb o e => T34.pres b o (hf b hb).2 (hfp b hb).2.2 e
    have alive2 : ∀ b ∈ fp, ∃ o, h2.get? b = some o := fun b hb => by
      obtain ⟨o, e⟩ := (hf b hb).1
      by_cases hbI : b = I
      · subst hbI; exact hlive _ _ st2
      · exact ⟨o, hk2 b o (by simpa using hbI) e⟩
    have next : J (ps.drop (i + 1)) ρ4 H4 → ∃ m, m < n + 1 - i ∧ Ex4 fun i β' H' ρ' => And8 (StepG g W β H s β' H' s4) (Frm g.B β' env ρ' s4) (St i s4.heap) (∀ b ∈ fp, (∃ o, s4.heap.get? b = some o) ∧ Firm β' H' b) (I ∉ β') (J (ps.drop i) ρ' H') (i ≤ n) (m = n + 1 - i) := fun hj4 => by
      refine ⟨n + 1 - (i + 1), by omega, i + 1, β4, H4, ρ4, T4', F4, Wk.frame _ _ _ st2 keepfp, fun b hb => ?_, fun hm => ?_, hj4, hlt, rfl⟩
      · obtain ⟨o, e⟩ := alive2 b hb
        exact ⟨⟨o, keepfp b hb o e⟩, T34.firm T2.sim (hf b hb).2 e⟩
      · obtain ⟨o, e⟩ := hlive _ _ st2
        rcases T34.new _ hm with h | h | h
        · exact hIb h
        · rw [show ({ s' with heap := h2, toks := tk2 } : Shared).heap.get? I = some o from e] at h; cases h
        · exact h (S.base_none hI)
    cases af with
    | next => obtain rfl := R4; exact next q4
    | cont => obtain rfl := R4; exact next q4
    | brk => obtain rfl := R4; exact ⟨β4, H4, ρ4, .next, T4', F4, rfl, q4⟩
    | ret p' => obtain ⟨u, rfl, hu⟩ := R4; exact ⟨β4, H4, ρ4, .ret p', T4', F4, ⟨u, rfl, hu⟩, q4⟩
  · have hin : i = n := by omega
    subst hin
    refine Wk.done _ _ _ st fun h2 tk2 hk2 => ?_
    have T2 : StepG g W β H s β' H' { s' with heap := h2, toks := tk2 } := T.junk S (wr := [I]) (fun b hb => by rw [List.mem_singleton.mp hb]; exact ⟨hI, hIb⟩) hk2
    have F2 : Frm g.B β' env ρ' { s' with heap := h2, toks := tk2 } := F'.junk hIL hIC hk2
    rw [hn, List.drop_length] at hJ
    refine wpAny_mono (fin ρ' H' hJ A β' _ hA T2.sim F2) (fun f s3 h3 => ?_) fun _ _ x => x.elim
    exact h3.after S T2

theorem Vls.back {β : List Addr} : ∀ {ps : List PV} {vs : List Value} {i : Nat} {v : Value}, Vls β ps vs → vs[i]? = some v → ∃ p, ps[i]? = some p ∧ Vl β p v
  | p :: _, _ :: _, 0, _, ⟨a, _⟩, e => by simp at e; subst e; exact ⟨p, by simp, a⟩
  | _ :: _, _ :: _, i + 1, _, ⟨_, r⟩, e => by
    simp at e
    obtain ⟨v, e', x⟩ := r.back e
    exact ⟨v, by simpa using e', x⟩
  | [], [], _, _, _, e => by simp at e
  | [], _ :: _, _, _, x, _ => x.elim
  | _ :: _, [], _, _, x, _ => x.elim

noncomputable def cellItems : Cell → Option (List PV)
  | .flist xs => some xs
  | .tup xs => some xs
  | .rng n => some ((List.range n).map fun i => .int (Int.ofNat i))
  | _ => none

theorem WS.for_ {target iter : Expr} {body orelse : List Stmt} {pos : Pos} {Q : AF → Rho → List Cell → Prop} (J : List PV → Rho → List Cell → Prop)
    (hit : WE g k env iter ρ H (fun p H1 => Ex3 fun n c xs => And5 (p = .loc n) (H1[n]? = some c) (cellItems c = some xs) (xs.length ≤ 100000) (J xs ρ H1)))
    (turn : ∀ x rest ρ' H', J (x :: rest) ρ' H' → WA g k (Wf env) env target x ρ' H' (fun ρ2 H2 => WSS g k (Wf env) env body ρ2 H2 (loopQ (J rest) Q)))
    (fin : ∀ ρ' H', J [] ρ' H' → WSS g k (Wf env) env orelse ρ' H' Q)
    (hs : ∀ x, foldedSetIterable iter env x = pure x := by intro _; rfl) : WS g k (Wf env) env (.For target iter body orelse pos) ρ H Q := by
  intro A β s hA S F
  refine wpAny_For (wpAny_mono (hit A β s hA S F) (fun v s1 h1 => ?_) fun _ _ x => x) hs
  obtain ⟨β1, H1, p, T1, V1, n, c, xs, rfl, hc, hxs, hlen, hJ⟩ := h1
  obtain ⟨a, ea, rfl⟩ := V1
  have F1 := F.step T1
  have back : ∀ f s', PS g (Wf env) env β1 H1 s1 Q f s' → PS g (Wf env) env β H s Q f s' := fun f s' h => h.after S T1.ofNil
  have hne : a ≠ s1.heap.objs.size := by
    obtain ⟨o, e⟩ := T1.sim.mem_some (List.mem_of_getElem? ea)
    exact Nat.ne_of_lt (Heap.lt_size e)
  have haW : a ∉ Wf env := fun h => by
    rcases List.mem_cons.mp h with rfl | h
    · exact F1.apartL (List.mem_of_getElem? ea)
    · obtain ⟨⟨y, kd⟩, _, e⟩ := List.mem_filterMap.mp h
      exact F1.apartC y a e (List.mem_of_getElem? ea)
  have hIW : s1.heap.objs.size ∉ Wf env := fun h => by
    obtain ⟨o, e⟩ := F1.alive h
    rw [get_size_none] at e; cases e
  have firmA : c.mut = false → Firm β1 H1 a := fun hm i c' e1 e2 => by
    have hij : i = n := (List.getElem?_inj (List.getElem?_eq_some_iff.mp e1).1 T1.sim.nodup).mp (e1.trans ea.symm)
    subst hij
    rw [hc] at e2; cases e2; exact hm
  have firmI : Firm β1 H1 s1.heap.objs.size := firm_of_not (T1.sim.not_mem (get_size_none _))
  have alA : ∀ ob, ∃ o, (s1.heap.push ob).get? a = some o := fun ob => by
    obtain ⟨o, e⟩ := T1.sim.mem_some (List.mem_of_getElem? ea)
    exact ⟨o, Heap.get?_push_of_some _ e⟩
  cases c with
  | list _ => cases hxs
  | dict _ => cases hxs
  | attrs _ => cases hxs
  | inst _ _ => cases hxs
  | obj _ => cases hxs
  | flist ys =>
    cases hxs
    obtain ⟨vs, hl, r⟩ := T1.sim.at hc ea
    refine wpAny_pyIter_list hl (codeAny_mono (for_walk (E := cameBackBy (model g.prog g.w) A env noE) J hA (Walks.list hA.1 s1.heap.objs.size a hne vs.toArray) (fun i h st => ?_) (fun i v s Q E st q => ?_) T1.sim F1 (fun b o e => Heap.get?_push_of_some _ e) (get_size_none _) ?_ ?_ (by simp [r.len]) ⟨⟨_, Heap.get?_push_size _ rfl, rfl, rfl⟩, hl.push _⟩ hJ turn fin) fun rr s' h => ?_)
    · obtain ⟨o, e, _⟩ := st.1; exact ⟨o, e⟩
    · obtain ⟨o, e, hcl, _⟩ := st.1
      exact go_quiet e (fun n hn => by rw [hcl] at hn; cases hn; decide) q
    · intro b hb
      rcases List.mem_cons.mp hb with rfl | hb
      · exact ⟨⟨_, Heap.get?_push_size _ rfl⟩, firmI, hIW⟩
      · rw [List.mem_singleton.mp hb]; exact ⟨alA _, firmA rfl, haW⟩
    · intro i v _ hv; exact r.back (by simpa using hv)
    · cases rr with
      | ok f => exact back f s' h
      | error e => exact h
  | tup ys =>
    cases hxs
    obtain ⟨vs, hl, r⟩ := T1.sim.at hc ea
    refine wpAny_pyIter_tuple hl (codeAny_mono (for_walk (E := cameBackBy (model g.prog g.w) A env noE) J hA (Walks.tuple hA.1 s1.heap.objs.size a hne vs.toArray) (fun i h st => ?_) (fun i v s Q E st q => ?_) T1.sim F1 (fun b o e => Heap.get?_push_of_some _ e) (get_size_none _) ?_ ?_ (by simp [r.len]) ⟨⟨_, Heap.get?_push_size _ rfl, rfl, rfl⟩, hl.push _⟩ hJ turn fin) fun rr s' h => ?_)
    · obtain ⟨o, e, _⟩ := st.1; exact ⟨o, e⟩
    · obtain ⟨o, e, hcl, _⟩ := st.1
      exact go_quiet e (fun n hn => by rw [hcl] at hn; cases hn; decide) q
    · intro b hb
      rcases List.mem_cons.mp hb with rfl | hb
      · exact ⟨⟨_, Heap.get?_push_size _ rfl⟩, firmI, hIW⟩
      · rw [List.mem_singleton.mp hb]; exact ⟨alA _, firmA rfl, haW⟩
    · intro i v _ hv; exact r.back (by simpa using hv)
    · cases rr with
      | ok f => exact back f s' h
      | error e => exact h
  | rng m =>
    cases hxs
    obtain ⟨t, u, v, hr⟩ := T1.sim.at hc ea
    have hm : m ≤ 100000 := by simpa using hlen
    have hsz : Builtin.Range.rangeSize 0 (Int.ofNat m) 1 = (m : Int) := by
      unfold Builtin.Range.rangeSize
      simp only [show (1 : Int) > 0 by decide, if_true, Int.ediv_one]
      split <;> simp at * <;> omega
    have hsm : Builtin.Range.small 0 (Int.ofNat m) 1 = true := by
      unfold Builtin.Range.small Builtin.Range.rangeFitsLong
      rw [hsz]
      simp only [Bool.and_eq_true, Bool.or_eq_true, decide_eq_true_eq, beq_iff_eq, show (1 : Int) > 0 by decide, if_true]
      simp only [Int.ofNat_eq_natCast]
      omega
    refine wpAny_pyIter_range hr hsm (codeAny_mono (for_walk (E := cameBackBy (model g.prog g.w) A env noE) J hA (Walks.range hA.1 s1.heap.objs.size 0 1 m) (fun i h st => ⟨_, st⟩) (fun i v s Q E st q => ?_) T1.sim F1 (fun b o e => Heap.get?_push_of_some _ e) (get_size_none _) ?_ ?_ (by simp) (by rw [hsz]; exact Heap.get?_push_size _ rfl) hJ turn fin) fun rr s' h => ?_)
    · exact go_quiet st (fun n hn => by cases hn; decide) q
    · intro b hb
      rw [List.mem_singleton.mp hb]
      exact ⟨⟨_, Heap.get?_push_size _ rfl⟩, firmI, hIW⟩
    · rintro i v hi ⟨t, rfl⟩
      exact ⟨.int (Int.ofNat i), by simp [hi], t, by simp⟩
    · cases rr with
      | ok f => exact back f s' h
      | error e => exact h
end
end Mine

namespace Mine

section
variable {g : Cfg} {k : Nat} {W β β' : List Addr} {env : Env} {ρ : Rho} {H H' : List Cell} {s s' : Shared}

/-! stores -/
theorem WA.item {o i : Expr} {pos : Pos} {p : PV} {Q : Rho → List Cell → Prop}
    (h : WE g k env o ρ H (fun po H1 => WE g k env i ρ H1 (fun pi H2 => Ex3 fun n j xs => And7 (po = .loc n) (pi = .int j) (H2[n]? = some (.list xs)) (0 ≤ j) (j < xs.length) (xs.length ≤ 100000) (Q ρ (H2.set n (.list (xs.set j.toNat p))))))) :
    WA g k W env (.Subscript o i pos) p ρ H Q := by
  intro A β s v hA S F hv
  refine kas_sub (wpAny_mono (h A β s hA S F) (fun ov s1 h1 => ?_) fun _ _ x => x)
  obtain ⟨β1, H1, po, T1, V1, h1⟩ := h1
  refine wpAny_mono (h1 A β1 s1 hA T1.sim (F.step T1)) (fun iv s2 h2 => ?_) fun _ _ x => x
  obtain ⟨β2, H2, pi, T2, V2, n, j, xs, rfl, rfl, e, h0, hlt, hl, q⟩ := h2
  obtain ⟨a, ea, rfl⟩ := V1.pre T2.pre
  obtain ⟨t, rfl⟩ := V2
  obtain ⟨vs, m, ho, r⟩ := T2.sim.at e ea
  refine ki_setAt ho h0 (by omega) (by simp [r.len]; omega) ?_
  have T12 := T1.trans T2 S
  have hobj : ∃ m', Obj.mapSeq (·.setIfInBounds j.toNat v) { cls := Value.type "list", data := Data.seq vs.toArray m } = { cls := Value.type "list", data := Data.seq (vs.set j.toNat v).toArray m' } := by
    have he : vs.toArray.setIfInBounds j.toNat v = (vs.set j.toNat v).toArray := by simp
    simp only [Obj.mapSeq, he]
    exact ⟨_, rfl⟩
  obtain ⟨m', hm'⟩ := hobj
  have T3 : StepG g W β2 H2 s2 β2 (H2.set n (.list (xs.set j.toNat p))) _ := Step.put (tk := s2.toks) T2.sim e ea rfl (fun b o hb x => (Heap.get?_update_other s2.heap (Obj.mapSeq (·.setIfInBounds j.toNat v)) (Ne.symm hb)).trans x)
    ⟨vs.set j.toNat v, m', (Heap.get?_update_self _ ho (by rw [hm']; rfl)).trans (congrArg some hm'), r.set ((hv.pre T1.pre).pre T2.pre) _⟩
  have T3' : StepG g [] β2 H2 s2 β2 (H2.set n (.list (xs.set j.toNat p))) _ := Step.put (tk := s2.toks) T2.sim e ea rfl (fun b o hb x => (Heap.get?_update_other s2.heap (Obj.mapSeq (·.setIfInBounds j.toNat v)) (Ne.symm hb)).trans x)
    ⟨vs.set j.toNat v, m', (Heap.get?_update_self _ ho (by rw [hm']; rfl)).trans (congrArg some hm'), r.set ((hv.pre T1.pre).pre T2.pre) _⟩
  exact ⟨β2, _, ρ, (T12.ofNil).trans T3 S, (F.step T12).step T3', q⟩

noncomputable def WAs (g : Cfg) (k : Nat) (W : List Addr) (env : Env) : List Expr → List PV → Rho → List Cell → (Rho → List Cell → Prop) → Prop
  | [], [], ρ, H, Q => Q ρ H
  | t :: ts, p :: ps, ρ, H, Q => WA g k W env t p ρ H (fun ρ1 H1 => WAs g k W env ts ps ρ1 H1 Q)
  | _, _, _, _, _ => False

theorem assignInOrder_of {A : Around} (hA : Rm k A) : ∀ (ts : List Expr) (ps : List PV) (vs : List Value) (ρ : Rho) (H : List Cell) (β : List Addr) (s : Shared) (Q : Rho → List Cell → Prop), SimG g β H s → Frm g.B β env ρ s → Vls β ps vs →
    WAs g k W env ts ps ρ H Q → wpAny g.M A (assignInOrder (ts.map (PySem.assign · env)) vs) (fun _ s' => PA g W env β H s Q s') noE s
  | [], [], [], ρ, H, β, s, Q, S, F, _, h => wpAny_pure ⟨β, H, ρ, .refl S, F, h⟩
  | t :: ts, p :: ps, v :: vs, ρ, H, β, s, Q, S, F, ⟨hv, hr⟩, h => by
    show wpAny g.M A (do holding vs (PySem.assign t env v); assignInOrder (ts.map (PySem.assign · env)) vs) _ _ _
    refine wpAny_bind (wpAny_holding (wpAny_mono (h A β s v hA S F hv) (fun _ s1 h1 => ?_) fun _ _ x => x))
    obtain ⟨β1, H1, ρ1, T1, F1, q⟩ := h1
    exact wpAny_mono (assignInOrder_of hA ts ps vs ρ1 H1 β1 s1 Q T1.sim F1 (hr.pre T1.pre) q) (fun _ s2 h2 => h2.after S T1) fun _ _ x => x
  | [], _ :: _, _, _, _, _, _, _, _, _, _, h => h.elim
  | _ :: _, [], _, _, _, _, _, _, _, _, _, h => h.elim
  | [], [], _ :: _, _, _, _, _, _, _, _, x, _ => x.elim
  | _ :: _, _ :: _, [], _, _, _, _, _, _, _, x, _ => x.elim

theorem WA.unpack {elts : List Expr} {n : Nat} {m : Nat} {pos : Pos} {ps : List PV} {Q : Rho → List Cell → Prop} (e : H[n]? = some (.tup ps) ∨ H[n]? = some (.list ps) ∨ H[n]? = some (.flist ps)) (hl : elts.length = ps.length)
    (h : WAs g k W env elts ps ρ H Q) (he : assignEach elts env = elts.map (fun t => (false, PySem.assign t env)) := by rfl) : WA g k W env (.Tuple elts m pos) (.loc n) ρ H Q := by
  intro A β s v hA S F hv
  obtain ⟨a, ea, rfl⟩ := hv
  have hstar : (assignEach elts env).findIdx? (·.1) = none := by
    rw [he, List.findIdx?_map]
    rw [List.findIdx?_eq_none_iff]; intro x _; rfl
  have hmap : (assignEach elts env).map (·.2) = elts.map (PySem.assign · env) := by rw [he, List.map_map]; rfl
  have hlen : (assignEach elts env).length = ps.length := by rw [he, List.length_map, hl]
  have fin : ∀ (vs : List Value) h', Vls β ps vs → Heap.ExtBut s.heap.objs.size s.heap h' → wpAny g.M A (assignInOrder ((assignEach elts env).map (·.2)) vs) (fun _ s' => PA g W env β H s Q s') noE { s with heap := h' } := by
    intro vs h' r hx
    have hk : ∀ b o, s.heap.get? b = some o → h'.get? b = some o := fun b o x => hx b o (Nat.ne_of_lt (Heap.lt_size x)) x
    have T : StepG g W β H s β H { s with heap := h', toks := s.toks } := Step.grow S hk
    have T0 : StepG g [] β H s β H { s with heap := h', toks := s.toks } := Step.grow S hk
    rw [hmap]
    exact wpAny_mono (assignInOrder_of hA elts ps vs ρ H β _ Q T.sim (F.step T0) r h) (fun _ s2 h2 => h2.after S T) fun _ _ x => x
  rcases e with e | e
  · obtain ⟨vs, hl', r⟩ := S.at e ea
    exact wpAny_assign_Tuple hA.1 hl' (by rw [hlen]; simp [r.len]) hstar fun h' hx => fin vs h' r hx
  · obtain ⟨vs, hl', r⟩ := cell_list S e ea
    rw [PyProof.Rows.assign_Tuple]
    refine wpAny_bind (wpAny_standAt ?_)
    unfold PySem.unpack
    rw [hstar, hlen, ← r.len]
    refine wpAny_bind (wpAny_holding ?_)
    have := kun_itemsOf (prog := g.prog) (w := g.w) (E := noE) (Q := fun vs' s' => wpAny g.M A (assignInOrder ((assignEach elts env).map (·.2)) vs') (fun _ s' => PA g W env β H s Q s') noE s') hA.1 hl' (fun h' hx => fin vs h' r hx)
    simpa using this

/-! x += e -/
theorem WS.aug {x : Str} {npos pos : Pos} {op : Operator} {value : Expr} {p : PV} {Q : AF → Rho → List Cell → Prop} (e : ρ.lookup x = some p)
    (h : WE g k env value ρ H (fun q H1 => WO2 g k p q (inplaceOp op) H1 (fun r H2 => Q .next (putR x r ρ) H2))) (hk : env.kindOf x = some .local) (hW : env.locals ∈ W) : WS g k W env (.AugAssign (.Name x npos) op value pos) ρ H Q := by
  intro A β s hA S F
  obtain ⟨m, hn, hm⟩ := F.ns
  obtain ⟨v, hv, hvl⟩ := hm x p e hk
  refine wpAny_AugAssign_Name (wpAny_loadName_local F.fn hk hn hv (wpAny_mono (h A β s hA S F) (fun u s1 h1 => ?_) fun _ _ x => x))
  obtain ⟨β1, H1, q, T1, V1, h1⟩ := h1
  refine wpAny_mono (h1 A β1 s1 v u hA T1.sim (hvl.pre T1.pre) V1) (fun r s2 h2 => ?_) fun _ _ x => x
  obtain ⟨β2, H2, pr, T2, V2, q2⟩ := h2
  have T12 := T1.trans T2 S
  have F2 := F.step T12
  obtain ⟨m2, hn2, hm2⟩ := F2.ns
  refine wpAny_storeName_local hk hn2 (fun h' hn' hs => ?_) (by rw [F.fn]; rfl)
  refine ⟨β2, H2, putR x pr ρ, .next, (T12.ofNil).trans (Step.side T2.sim hs.extBut F2.apartL F2.newL hW ?_) S, F2.storeL V2 hk hm2 hn2 hn' hs, rfl, q2⟩
  obtain ⟨o, _, _, e, _⟩ := hn'; exact ⟨o, e⟩

/-! while -/
theorem WS.while_ {test : Expr} {body orelse : List Stmt} {pos : Pos} {Q : AF → Rho → List Cell → Prop} (J : Nat → Rho → List Cell → Prop) {m₀ : Nat} (h₀ : J m₀ ρ H)
    (turn : ∀ m ρ' H', J m ρ' H' → WT g k env test ρ' H' (fun b H2 => if b then WSS g k W env body ρ' H2 (loopQ (fun ρ3 H3 => ∃ m', m' < m ∧ J m' ρ3 H3) Q) else WSS g k W env orelse ρ' H2 Q)) :
    WS g k W env (.While test body orelse pos) ρ H Q := by
  intro A β s hA S F
  refine wpAny_While ?_
  refine codeAny_whileLoop (fun m s' => Ex3 fun β' H' ρ' => And3 (StepG g W β H s β' H' s') (Frm g.B β' env ρ' s') (J m ρ' H')) ?_ m₀ ⟨β, H, ρ, .refl S, F, h₀⟩
  rintro m s' ⟨β', H', ρ', T, F', hJ⟩
  refine wpAny_mono (turn m ρ' H' hJ A β' s' hA T.sim F') (fun b s2 h2 => ?_) fun _ _ x => x.elim
  obtain ⟨β2, H2, T2, q⟩ := h2
  have T2' := T.trans (T2.ofNil) S
  cases b with
  | true =>
    refine wpAny_mono (q A β2 s2 hA T2.sim (F'.step T2)) (fun f s3 h3 => ?_) fun _ _ x => x.elim
    obtain ⟨β3, H3, ρ3, af, T3, F3, R3, q3⟩ := h3
    have T3' := T2'.trans T3 S
    cases af with
    | next => obtain rfl := R3; obtain ⟨m', hm, hj⟩ := q3; exact ⟨m', hm, β3, H3, ρ3, T3', F3, hj⟩
    | cont => obtain rfl := R3; obtain ⟨m', hm, hj⟩ := q3; exact ⟨m', hm, β3, H3, ρ3, T3', F3, hj⟩
    | brk => obtain rfl := R3; exact ⟨β3, H3, ρ3, .next, T3', F3, rfl, q3⟩
    | ret p => obtain ⟨u, rfl, hu⟩ := R3; exact ⟨β3, H3, ρ3, .ret p, T3', F3, ⟨u, rfl, hu⟩, q3⟩
  | false => exact wpAny_mono (q A β2 s2 hA T2.sim (F'.step T2)) (fun f s3 h3 => h3.after S T2') fun _ _ x => x.elim

/-! slices -/
noncomputable def WPt (g : Cfg) (k : Nat) (env : Env) (e : Option Expr) (ρ : Rho) (H : List Cell) (Q : Option Int → List Cell → Prop) : Prop :=
  match e with
  | none => Q none H
  | some e => WE g k env e ρ H (fun p H1 => ∃ i, p = .int i ∧ Q (some i) H1)
theorem WPt.run {e : Option Expr} {Q : Option Int → List Cell → Prop} (h : WPt g k env e ρ H Q) {A : Around} (hA : Rm k A) (S : SimG g β H s) (F : Frm g.B β env ρ s) :
    wpAny g.M A (evalPart e env) (fun v s' => Ex3 fun β' H' q => And3 (StepG g [] β H s β' H' s') (v = partValue q) (Q (q.map (·.1)) H')) noE s := by
  cases e with
  | none => exact wpAny_pure ⟨β, H, none, .refl S, rfl, h⟩
  | some e =>
    refine wpAny_mono (h A β s hA S F) (fun v s1 h1 => ?_) fun _ _ x => x
    obtain ⟨β1, H1, p, T1, V1, i, rfl, q⟩ := h1
    obtain ⟨t, rfl⟩ := V1
    exact ⟨β1, H1, some (i, t), T1, rfl, q⟩

theorem WE.sliceS {ve : Expr} {lo hi : Option Expr} {p pos : Pos} {Q : PV → List Cell → Prop}
    (h : WE g k env ve ρ H (fun a H1 => WPt g k env lo ρ H1 (fun l H2 => WPt g k env hi ρ H2 (fun u H3 => ∃ x, And3 (a = .str x) (x.length ≤ 100000) (Q (.str (Txt.slice x l u)) H3)))))
    (ht : ∀ o r, letTemporaryGo ve (.str o 0) r = pure () := by intro _ _; rfl) (ht' : ∀ o r, letTemporaryGo ve o r = pure () := by intro _ _; rfl) : WE g k env (.Subscript ve (.Slice lo hi none p) pos) ρ H Q := by
  intro A β s hA S F
  refine wpAny_Subscript_str_slice (wpAny_mono (h A β s hA S F) (fun o s1 h1 => ?_) fun _ _ x => x) ht'
  obtain ⟨β1, H1, a, T1, V1, h1⟩ := h1
  refine wpAny_mono (h1.run hA T1.sim (F.step T1)) (fun vl s2 h2 => ?_) fun _ _ x => x
  obtain ⟨β2, H2, l, T2, rfl, h2⟩ := h2
  have T12 := T1.trans T2 S
  refine wpAny_mono (h2.run hA T2.sim (F.step T12)) (fun vu s3 h3 => ?_) fun _ _ x => x
  obtain ⟨β3, H3, u, T3, rfl, x, rfl, hx, q⟩ := h3
  obtain ⟨t, rfl⟩ := V1
  have T123 := T12.trans T3 S
  have e24 : sizeLine = 16777216 := sizeLine_eq
  refine ⟨x, t, l, u, rfl, rfl, rfl, ?_⟩
  have hk : ∀ b o, s3.heap.get? b = some o → (s3.heap.push { cls := .type "slice", data := .fields #[partValue l, partValue u, .none] }).get? b = some o := fun b o e => Heap.get?_push_of_some _ e
  have key : ∀ t' tk, PE g β H s Q (.str (Txt.slice x (l.map (·.1)) (u.map (·.1))) t') { s3 with heap := s3.heap.push { cls := .type "slice", data := .fields #[partValue l, partValue u, .none] }, toks := tk } := fun t' tk =>
    ⟨β3, H3, .str (Txt.slice x (l.map (·.1)) (u.map (·.1))), T123.trans (Step.grow T3.sim hk) S, ⟨t', rfl⟩, q⟩
  have hle := Txt.slice_le x (l.map (·.1)) (u.map (·.1))
  have hsl : slicePicked x l u none = Builtin.Str.strSliceIndices (l.map (·.1)) (u.map (·.1)) 1 x.length := rfl
  unfold sliceMade
  unfold Txt.slice at key hle
  rw [← hsl] at key hle
  show (if ((1 : Int) == 1 && (slicePicked x l u none).length == x.length) = true then _ else _ : Made).post _ _
  split
  · rename_i hc
    rw [if_pos hc] at key
    exact key t s3.toks
  · rename_i hc
    rw [if_neg hc] at key hle
    exact ⟨by
      show _ ≤ sizeLine
      exact Nat.le_trans hle (by omega), key _ _⟩

theorem WE.sliceL {ve : Expr} {lo hi : Option Expr} {p pos : Pos} {Q : PV → List Cell → Prop}
    (h : WE g k env ve ρ H (fun a H1 => WPt g k env lo ρ H1 (fun l H2 => WPt g k env hi ρ H2 (fun u H3 => Ex2 fun n xs => And4 (a = .loc n) (H3[n]? = some (.list xs) ∨ H3[n]? = some (.flist xs)) (xs.length ≤ 100000) (Q (.loc H3.length) (H3 ++ [.list ((xs.drop (l.elim 0 (clipAt xs.length))).take (u.elim xs.length (clipAt xs.length) - l.elim 0 (clipAt xs.length)))]))))))
    (ht' : ∀ o r, letTemporaryGo ve o r = pure () := by intro _ _; rfl) : WE g k env (.Subscript ve (.Slice lo hi none p) pos) ρ H Q := by
  intro A β s hA S F
  refine wpAny_Subscript_list_slice (wpAny_mono (h A β s hA S F) (fun o s1 h1 => ?_) fun _ _ x => x) ht'
  obtain ⟨β1, H1, a, T1, V1, h1⟩ := h1
  refine wpAny_mono (h1.run hA T1.sim (F.step T1)) (fun vl s2 h2 => ?_) fun _ _ x => x
  obtain ⟨β2, H2, l, T2, rfl, h2⟩ := h2
  have T12 := T1.trans T2 S
  refine wpAny_mono (h2.run hA T2.sim (F.step T12)) (fun vu s3 h3 => ?_) fun _ _ x => x
  obtain ⟨β3, H3, u, T3, rfl, n, xs, rfl, e, hl, q⟩ := h3
  have T123 := T12.trans T3 S
  have e24 : sizeLine = 16777216 := sizeLine_eq
  obtain ⟨a, ea, rfl⟩ := (V1.pre T2.pre).pre T3.pre
  obtain ⟨vs, hlist, r⟩ := cell_list T3.sim e ea
  have hpart : ∀ q : Option (Int × Tok), IsPart (partValue q) (q.map (·.1)) := fun q => by cases q with | none => exact .none | some x => exact .int _ _
  refine ⟨a, vs.toArray, l.map (·.1), u.map (·.1), rfl, hlist, by simp [r.len]; omega, hpart l, hpart u, ?_⟩
  rw [slicePick_plain]
  simp only [List.size_toArray, r.len]
  have hk : ∀ b o, s3.heap.get? b = some o → (s3.heap.push { cls := .type "slice", data := .fields #[partValue l, partValue u, .none] }).get? b = some o := fun b o e => Heap.get?_push_of_some _ e
  have T4 : StepG g [] β3 H3 s3 β3 H3 { s3 with heap := s3.heap.push { cls := .type "slice", data := .fields #[partValue l, partValue u, .none] }, toks := s3.toks } := Step.grow T3.sim hk
  have := PE.list (tk := s3.toks) T4.sim ((r.drop ((l.map (·.1)).elim 0 (clipAt xs.length))).take ((u.map (·.1)).elim xs.length (clipAt xs.length) - (l.map (·.1)).elim 0 (clipAt xs.length))) q
  have := this.after S (T123.trans T4 S)
  rw [Heap.size_push] at this
  exact this

theorem WO2.addL {n m : Nat} {xs ys : List PV} {Q : PV → List Cell → Prop} (e : H[n]? = some (.list xs) ∨ H[n]? = some (.flist xs)) (e' : H[m]? = some (.list ys) ∨ H[m]? = some (.flist ys)) (hl : xs.length + ys.length ≤ 100000)
    (h : Q (.loc H.length) (H ++ [.list (xs ++ ys)])) : WO2 g k (.loc n) (.loc m) (binaryOp .Add) H Q := by
  rintro A β s va vb hA S ⟨a, ea, rfl⟩ ⟨b, eb, rfl⟩
  obtain ⟨vs, hl1, r1⟩ := cell_list S e ea
  obtain ⟨ws, hl2, r2⟩ := cell_list S e' eb
  have e24 : sizeLine = 16777216 := sizeLine_eq
  obtain ⟨⟨cls, dd, data, sl⟩, ho, hc, n1, hd⟩ := id hl1
  obtain ⟨⟨cls2, dd2, data2, sl2⟩, ho2, hc2, n2, hd2⟩ := id hl2
  simp only at hc hd hc2 hd2
  subst hc hd hc2 hd2
  have e : vs.toArray ++ ws.toArray = (vs ++ ws).toArray := by simp
  refine concat_meets ⟨_, ho, rfl⟩ ⟨_, ho2, rfl⟩ noFill_list_add seq_list_add PySem.F.slot_list_add PySem.F.entry_list_add (PySem.F.args_list_add_2 _ _) (list_addW a b vs.toArray ws.toArray n1 n2 dd dd2 sl sl2 (by have := r1.len; have := r2.len; simp; omega)) ⟨ho, ho2, ?_⟩
  rw [e]
  exact PE.list (tk := s.toks) S (Vls.app r2 r1) h
end
end Mine

namespace Mine

noncomputable def clGo (env : Env) : List (Str × NameKind) → List (Str × Addr) → List (Str × Addr)
  | [], acc => acc
  | (n, kd) :: r, acc => clGo env r (if kd == .free then (n, (env.cells.lookup n).getD 0) :: acc else acc)
noncomputable abbrev clOf (scope : Scope) (env : Env) : List (Str × Addr) := clGo env scope.names []

theorem closure_go {env : Env} (f : Str × NameKind → List (Str × Addr) → Sem (ForInStep (List (Str × Addr))))
    (hf : ∀ n kd cs, f (n, kd) cs = if kd == NameKind.free then (do let c ← cellOf env n; pure (.yield ((n, c) :: cs))) else pure (.yield cs)) :
    ∀ (names : List (Str × NameKind)) (acc : List (Str × Addr)), (∀ n, (n, NameKind.free) ∈ names → ∃ c, env.cells.lookup n = some c) → forIn names acc f = pure (clGo env names acc)
  | [], acc, _ => by rw [List.forIn_nil]; rfl
  | (n, kd) :: r, acc, h => by
    have hr : ∀ n, (n, NameKind.free) ∈ r → ∃ c, env.cells.lookup n = some c := fun m hm => h m (List.mem_cons_of_mem _ hm)
    rw [List.forIn_cons, hf]
    unfold clGo
    by_cases hk : (kd == NameKind.free) = true
    · rw [if_pos hk, if_pos hk]
      obtain ⟨c, hc⟩ := h n (by rw [beq_iff_eq.mp hk]; exact List.mem_cons_self)
      have e : cellOf env n = pure c := by unfold cellOf; rw [hc]
      rw [e, hc]
      show forIn r ((n, c) :: acc) f = _
      exact closure_go f hf r _ hr
    · rw [if_neg hk, if_neg hk]
      show forIn r acc f = _
      exact closure_go f hf r _ hr
theorem closureFor_of {scope : Scope} {env : Env} (h : ∀ n, (n, NameKind.free) ∈ scope.names → ∃ c, env.cells.lookup n = some c) : closureFor scope env = pure (clOf scope env) := by
  unfold closureFor
  have := closure_go (env := env) (fun x r => if (x.2 == NameKind.free) = true then (do let c ← cellOf env x.1; pure (.yield ((x.1, c) :: r))) else pure (.yield r)) (fun _ _ _ => rfl) scope.names [] h
  simp only [bind_pure]
  exact this
theorem clGo_mem {env : Env} {x : Str} {c : Addr} : ∀ {names : List (Str × NameKind)} {acc : List (Str × Addr)}, (∀ n, (n, NameKind.free) ∈ names → ∃ c, env.cells.lookup n = some c) →
    (∀ n c, (n, c) ∈ acc → env.cells.lookup n = some c) → (x, c) ∈ clGo env names acc → env.cells.lookup x = some c
  | [], _, _, ha, h => ha _ _ h
  | (n, kd) :: r, acc, hn, ha, h => by
    unfold clGo at h
    refine clGo_mem (fun m hm => hn m (List.mem_cons_of_mem _ hm)) (fun m c' hm => ?_) h
    by_cases hk : (kd == NameKind.free) = true
    · rw [if_pos hk] at hm
      rcases List.mem_cons.mp hm with e | hm
      · cases e
        obtain ⟨c0, hc0⟩ := hn n (by rw [beq_iff_eq.mp hk]; exact List.mem_cons_self)
        rw [hc0]; rfl
      · exact ha m c' hm
    · rw [if_neg hk] at hm; exact ha m c' hm
theorem clGo_some {env : Env} {x : Str} : ∀ {names : List (Str × NameKind)} {acc : List (Str × Addr)}, (x, NameKind.free) ∈ names ∨ (acc.lookup x).isSome = true → ((clGo env names acc).lookup x).isSome = true
  | [], _, h => by
    rcases h with h | h
    · cases h
    · exact h
  | (n, kd) :: r, acc, h => by
    unfold clGo
    refine clGo_some ?_
    rcases h with h | h
    · rcases List.mem_cons.mp h with e | h
      · cases e; right; simp
      · exact .inl h
    · right
      split
      · rw [List.lookup_cons]; split
        · rfl
        · exact h
      · exact h

theorem relabel_lookup {scope : Scope} {env : Env} {x : Str} : (relabel scope env).names.lookup x = (scope.names.lookup x).map fun k => if (k == .free && env.scope.kind == .function && env.kindOf x == some .cell) then .cell else k := by
  show (scope.names.map fun (n, k) => if (k == NameKind.free && env.scope.kind == .function && env.kindOf n == some .cell) then (n, NameKind.cell) else (n, k)).lookup x = _
  generalize scope.names = names
  induction names with
  | nil => rfl
  | cons p r ih =>
    obtain ⟨n, kd⟩ := p
    have hf : ∀ b : Bool, (if b = true then (n, NameKind.cell) else (n, kd)) = (n, if b = true then NameKind.cell else kd) := fun b => by cases b <;> rfl
    rw [List.map_cons]
    simp only [hf, List.lookup_cons]
    by_cases hx : x = n
    · subst hx
      simp only [beq_self_eq_true, Option.map_some]
    · simp only [beq_eq_false_iff_ne.mpr hx]
      exact ih

/-- what a comprehension's frame knows of its names -/
structure CompEnv (scope : Scope) (cenv : Env) : Prop where
  loc : ∀ x, scope.names.lookup x = some .local → cenv.kindOf x = some .local
  free : ∀ x, scope.names.lookup x = some .free → Reach cenv x
  glob : ∀ x, scope.names.lookup x = some .globalImplicit → cenv.kindOf x = some .globalImplicit

/-- the names of a comprehension: one local beside the run's own, the rest met through cells or the module -/
noncomputable def compNames (x : Str) (names : List (Str × NameKind)) : Bool := names.all fun p => (p.2 == .local && (p.1 == x || p.1 == (".0" : Str)) && decide (names.lookup p.1 = some .local)) || p.2 == .free || p.2 == .globalImplicit

section
variable {g : Cfg} {k : Nat} {W β β' : List Addr} {env : Env} {ρ : Rho} {H H' : List Cell} {s s' : Shared} {scope : Scope} {x : Str}

theorem CompEnv.of {C : Addr} (hfree : ∀ n, scope.names.lookup n = some .free → Reach env n) (hf' : ∀ n, (n, NameKind.free) ∈ scope.names → ∃ c, env.cells.lookup n = some c) : CompEnv scope (compEnvC scope (clOf scope env) C env) where
  loc := fun y e => by show (relabel scope env).names.lookup y = _; rw [relabel_lookup, e]; simp
  free := fun y e => by
    refine ⟨?_, Option.isSome_iff_exists.mp (clGo_some (.inl (mem_of_lookup e)))⟩
    show (relabel scope env).names.lookup y = _ ∨ (relabel scope env).names.lookup y = _
    rw [relabel_lookup, e]
    simp only [Option.map_some]
    split
    · exact .inl rfl
    · exact .inr rfl
  glob := fun y e => by show (relabel scope env).names.lookup y = _; rw [relabel_lookup, e]; simp

theorem Frm.comp {C : Addr} {m : Str → Option Value} {v : Value} {y : PV} (F : Frm g.B β env ρ s) (hk : scope.kind = .function) (hm : s.heap.Ns C m) (hv : m x = some v) (hvl : Vl β y v) (hC : C ∉ β) (hCB : g.B.heap.get? C = none)
    (hn : compNames x scope.names = true) (hx : scope.names.lookup x = some .local) (h0 : ρ.lookup (".0" : Str) = none) (hfree : ∀ n, scope.names.lookup n = some .free → Reach env n) (hf' : ∀ n, (n, NameKind.free) ∈ scope.names → ∃ c, env.cells.lookup n = some c) (hx0 : x ≠ (".0" : Str)) :
    Frm g.B β (compEnvC scope (clOf scope env) C env) ((x, y) :: ρ) s := by
  have cells : ∀ z c, (clOf scope env).lookup z = some c → env.cells.lookup z = some c := fun z c e => clGo_mem hf' (fun _ _ h => absurd h List.not_mem_nil) (mem_of_lookup e)
  have kinds : ∀ z kd, scope.names.lookup z = some kd → (kd = .local ∧ (z = x ∨ z = (".0" : Str))) ∨ kd = .free ∨ kd = .globalImplicit := fun z kd e => by
    have := List.all_eq_true.mp hn (z, kd) (mem_of_lookup e)
    simp only [Bool.or_eq_true, Bool.and_eq_true, beq_iff_eq, decide_eq_true_eq] at this
    rcases this with (⟨⟨a, b⟩, _⟩ | a) | a
    · exact .inl ⟨a, b⟩
    · exact .inr (.inl a)
    · exact .inr (.inr a)
  have hkind : ∀ z kd, (compEnvC scope (clOf scope env) C env).kindOf z = some kd → ∃ kd', scope.names.lookup z = some kd' ∧ (kd' = kd ∨ (kd' = .free ∧ kd = .cell)) := fun z kd e => by
    have e' : (relabel scope env).names.lookup z = some kd := e
    rw [relabel_lookup] at e'
    cases hz : scope.names.lookup z with
    | none => rw [hz] at e'; cases e'
    | some kd' =>
      rw [hz] at e'
      simp only [Option.map_some, Option.some.injEq] at e'
      split at e'
      · rename_i hc
        simp only [Bool.and_eq_true, beq_iff_eq] at hc
        exact ⟨kd', rfl, .inr ⟨hc.1.1, e'.symm⟩⟩
      · exact ⟨kd', rfl, .inl e'⟩
  exact {
    fn := hk
    gl := F.gl
    bl := F.bl
    ns := ⟨m, hm, fun z pv e hz => by
      obtain ⟨kd', e1, e2⟩ := hkind z _ hz
      have hl : kd' = .local := by
        rcases e2 with e2 | ⟨_, e2⟩
        · exact e2
        · cases e2
      subst hl
      rcases kinds z _ e1 with ⟨_, rfl | rfl⟩ | h | h
      · rw [List.lookup_cons, beq_self_eq_true] at e; cases e; exact ⟨v, hv, hvl⟩
      · rw [List.lookup_cons, beq_eq_false_iff_ne.mpr (Ne.symm hx0), h0] at e; cases e
      · cases h
      · cases h⟩
    cell := fun z c e => by
      have e' := cells z c e
      obtain ⟨ov, ho, hov⟩ := F.cell z c e'
      refine ⟨ov, ho, fun pv ep hz => ?_⟩
      have hzf : scope.names.lookup z = some .free := by
        rcases hz with hz | hz <;> obtain ⟨kd', e1, e2⟩ := hkind z _ hz <;> rcases kinds z _ e1 with ⟨rfl, _⟩ | rfl | rfl <;> rcases e2 with e2 | ⟨e2, _⟩ <;> first | exact e1 | cases e2
      have hzx : z ≠ x := by
        rintro rfl
        rw [hx] at hzf; cases hzf
      rw [List.lookup_cons, beq_eq_false_iff_ne.mpr hzx] at ep
      exact hov pv ep (hfree z hzf).1
    inj := fun z1 z2 c e1 e2 => F.inj z1 z2 c (cells z1 c e1) (cells z2 c e2)
    apartL := hC
    apartC := fun z c e => F.apartC z c (cells z c e)
    newL := hCB
    newC := fun z c e => F.newC z c (cells z c e) }
end
end Mine

namespace Mine

section
variable {P : Params} {B : Shared} {W β β' β₀ : List Addr} {H H' H₀ : List Cell} {s s' s₀ : Shared}
/-- an object that the machine made is taken in -/
theorem Step.adopt (S : Sim P B β H s) (T : Step P B W β H s β' H' s') {a : Addr} {c : Cell} (ha : a ∉ β') (hs : s.heap.get? a = none) (hc : CellIs P s'.heap (β' ++ [a]) a c) :
    Step P B W β H s (β' ++ [a]) (H' ++ [c]) s' where
  sim := {
    len := by simp [T.sim.len]
    nodup := by
      rw [List.nodup_append]
      refine ⟨T.sim.nodup, by simp, fun x hx y hy => ?_⟩
      simp at hy; subst hy
      rintro rfl
      exact ha hx
    cells := fun i b c' e e' => by
      by_cases hi : i < β'.length
      · rw [List.getElem?_append_left hi] at e
        rw [List.getElem?_append_left (T.sim.len ▸ hi)] at e'
        exact (T.sim.cells i b c' e e').keep (List.prefix_append _ _) fun o x => x
      · have hil : i = β'.length := by
          have := (List.getElem?_eq_some_iff.mp e).1
          simp at this; omega
        subst hil
        simp at e; subst e
        rw [T.sim.len] at e'
        simp at e'; subst e'
        exact hc
    base := T.sim.base
    fresh := fun i b c' e e' hm => by
      by_cases hi : i < β'.length
      · rw [List.getElem?_append_left hi] at e
        rw [List.getElem?_append_left (T.sim.len ▸ hi)] at e'
        exact T.sim.fresh i b c' e e' hm
      · have hil : i = β'.length := by
          have := (List.getElem?_eq_some_iff.mp e).1
          simp at this; omega
        subst hil
        simp at e; subst e
        exact S.base_none hs
    same := T.sim.same }
  pre := T.pre.trans (List.prefix_append _ _)
  mono := T.mono.trans (FM.app _ _)
  pres := T.pres
  new := fun x h => by
    rcases List.mem_append.mp h with h | h
    · exact T.new x h
    · simp at h; subst h; exact .inr (.inl hs)
  live := T.live

/-- a list that was frozen for a while -/
theorem Step.thaw {n : Nat} {xs : List PV} (S : Sim P B β H s) (e : H[n]? = some (.list xs)) (T : Step P B W β (H.set n (.flist xs)) s β' H' s') (hW : ∀ a, β[n]? = some a → a ∉ W) : Step P B W β H s β' (H'.set n (.list xs)) s' := by
  obtain ⟨a, ea, vs, m, ho, r⟩ := S.addr e
  have hn : n < H.length := (List.getElem?_eq_some_iff.mp e).1
  have ea' : β'[n]? = some a := pre_get T.pre ea
  have eset : (H.set n (.flist xs))[n]? = some (.flist xs) := List.getElem?_set_self hn
  have en : H'[n]? = some (.flist xs) := T.mono n _ eset rfl
  have hn' : n < H'.length := (List.getElem?_eq_some_iff.mp en).1
  have ho' := T.pres a _ (fun i c e1 e2 => by
    have hij : i = n := (List.getElem?_inj (List.getElem?_eq_some_iff.mp e1).1 S.nodup).mp (e1.trans ea.symm)
    subst hij
    rw [eset] at e2; cases e2; rfl) (hW a ea) ho
  exact {
    sim := {
      len := by simp [T.sim.len]
      nodup := T.sim.nodup
      cells := fun i b c e1 e2 => by
        by_cases hi : i = n
        · subst hi
          rw [List.getElem?_set_self hn'] at e2; cases e2
          rw [ea'] at e1; cases e1
          exact ⟨vs, m, ho', r.pre T.pre⟩
        · rw [List.getElem?_set_ne (Ne.symm hi)] at e2
          exact T.sim.cells i b c e1 e2
      base := T.sim.base
      fresh := fun i b c e1 e2 hm => by
        by_cases hi : i = n
        · subst hi
          rw [ea'] at e1; cases e1
          exact S.fresh i a _ ea e rfl
        · rw [List.getElem?_set_ne (Ne.symm hi)] at e2
          exact T.sim.fresh i b c e1 e2 hm
      same := T.sim.same }
    pre := T.pre
    mono := fun i c e1 hm => by
      have hi : i ≠ n := by rintro rfl; rw [e] at e1; cases e1; cases hm
      rw [List.getElem?_set_ne (Ne.symm hi)]
      exact T.mono i c (by rw [List.getElem?_set_ne (Ne.symm hi)]; exact e1) hm
    pres := fun b o hb hw x => T.pres b o (fun i c e1 e2 => by
      by_cases hi : i = n
      · subst hi; rw [eset] at e2; cases e2; rfl
      · rw [List.getElem?_set_ne (Ne.symm hi)] at e2; exact hb i c e1 e2) hw x
    new := T.new
    live := T.live }
end

section
variable {g : Cfg} {k : Nat} {W β β' : List Addr} {env : Env} {ρ : Rho} {H H' : List Cell} {s s' : Shared}

theorem WE.thaw {e : Expr} {n : Nat} {xs : List PV} {Q : PV → List Cell → Prop} (hn : H[n]? = some (.list xs)) (h : WE g k env e ρ (H.set n (.flist xs)) (fun p H' => Q p (H'.set n (.list xs)))) : WE g k env e ρ H Q := by
  intro A β s hA S F
  refine wpAny_mono (h A β s hA (S.freeze hn) F) (fun v s1 h1 => ?_) fun _ _ x => x
  obtain ⟨β1, H1, p, T1, V1, q⟩ := h1
  exact ⟨β1, _, p, Step.thaw S hn T1 (by simp), V1, q⟩
theorem WE.freeze {e : Expr} {Q : PV → List Cell → Prop} (h : WE g k env e ρ H (fun p H' => Ex2 fun n xs => (H'[n]? = some (.list xs)) ∧ (Q p (H'.set n (.flist xs))))) : WE g k env e ρ H Q := by
  intro A β s hA S F
  refine wpAny_mono (h A β s hA S F) (fun v s1 h1 => ?_) fun _ _ x => x
  obtain ⟨β1, H1, p, T1, V1, n, xs, e, q⟩ := h1
  exact ⟨β1, _, p, T1.freeze e, V1, q⟩
theorem WSS.freeze {ss : List Stmt} {n : Nat} {xs : List PV} {Q : AF → Rho → List Cell → Prop} (hn : H[n]? = some (.list xs)) (h : WSS g k W env ss ρ (H.set n (.flist xs)) Q) : WSS g k W env ss ρ H Q := by
  intro A β s hA S F
  have T : StepG g [] β H s β (H.set n (.flist xs)) s := (Step.refl S).freeze hn
  exact wpAny_mono (h A β s hA T.sim F) (fun v s1 h1 => h1.after S T.ofNil) fun _ _ x => x

/-- what an iterator over a cell is -/
structure ItOk (g : Cfg) (A : Around) (β : List Addr) (H : List Cell) (s : Shared) (xs : List PV) (ob : Obj) (fp : List Addr) (Pi : Nat → Value → Prop) (St : Nat → Heap → Prop) : Prop where
  walk : Walks g.prog g.w A s.heap.objs.size fp [s.heap.objs.size] xs.length Pi St
  live : ∀ i h, St i h → ∃ o, h.get? s.heap.objs.size = some o
  go : ∀ target i v (s' : Shared) (Q : Unit → Shared → Prop) (E : Value → Shared → Prop), St i s'.heap → Q () s' → wpAny g.M A (letOwnedTupleGo target (.ref s.heap.objs.size) v) Q E s'
  get : ∀ b o, s.heap.get? b = some o → (s.heap.push ob).get? b = some o
  firm : ∀ b ∈ fp, (∃ o, (s.heap.push ob).get? b = some o) ∧ Firm β H b ∧ (b = s.heap.objs.size ∨ b ∈ β)
  item : ∀ i v, i < xs.length → Pi i v → ∃ p, xs[i]? = some p ∧ Vl β p v
  start : St 0 (s.heap.push ob)

theorem iter_cell {A : Around} (hA : Rm k A) (S : SimG g β H s) {n : Nat} {a : Addr} {c : Cell} {xs : List PV} (ea : β[n]? = some a) (hc : H[n]? = some c) (hxs : cellItems c = some xs) (hlen : xs.length ≤ 100000)
    {Q : Value → Shared → Prop} {E : Value → Shared → Prop} (h : ∀ ob fp Pi St tk, ItOk g A β H s xs ob fp Pi St → Q (.ref s.heap.objs.size) { s with heap := s.heap.push ob, toks := tk }) : wpAny g.M A (pyIter (.ref a)) Q E s := by
  have hne : a ≠ s.heap.objs.size := by
    obtain ⟨o, e⟩ := S.mem_some (List.mem_of_getElem? ea)
    exact Nat.ne_of_lt (Heap.lt_size e)
  have firmA : c.mut = false → Firm β H a := fun hm i c' e1 e2 => by
    have hij : i = n := (List.getElem?_inj (List.getElem?_eq_some_iff.mp e1).1 S.nodup).mp (e1.trans ea.symm)
    subst hij
    rw [hc] at e2; cases e2; exact hm
  have firmI : Firm β H s.heap.objs.size := firm_of_not (S.not_mem (get_size_none _))
  have alA : ∀ ob, ∃ o, (s.heap.push ob).get? a = some o := fun ob => by
    obtain ⟨o, e⟩ := S.mem_some (List.mem_of_getElem? ea)
    exact ⟨o, Heap.get?_push_of_some _ e⟩
  cases c with
  | list _ => cases hxs
  | dict _ => cases hxs
  | attrs _ => cases hxs
  | inst _ _ => cases hxs
  | obj _ => cases hxs
  | flist ys =>
    cases hxs
    obtain ⟨vs, hl, r⟩ := S.at hc ea
    have Wk := Walks.list (prog := g.prog) (w := g.w) hA.1 s.heap.objs.size a hne vs.toArray
    rw [show vs.toArray.size = xs.length by simp [r.len]] at Wk
    refine wpAny_pyIter_list hl (h _ _ _ _ s.toks ⟨Wk, fun i h st => ?_, fun _ i v s Q E st q => ?_, fun b o e => Heap.get?_push_of_some _ e, ?_, ?_, ⟨⟨_, Heap.get?_push_size _ rfl, rfl, rfl⟩, hl.push _⟩⟩)
    · obtain ⟨o, e, _⟩ := st.1; exact ⟨o, e⟩
    · obtain ⟨o, e, hcl, _⟩ := st.1
      exact go_quiet e (fun n hn => by rw [hcl] at hn; cases hn; decide) q
    · intro b hb
      rcases List.mem_cons.mp hb with rfl | hb
      · exact ⟨⟨_, Heap.get?_push_size _ rfl⟩, firmI, .inl rfl⟩
      · rw [List.mem_singleton.mp hb]; exact ⟨alA _, firmA rfl, .inr (List.mem_of_getElem? ea)⟩
    · intro i v _ hv; exact r.back (by simpa using hv)
  | tup ys =>
    cases hxs
    obtain ⟨vs, hl, r⟩ := S.at hc ea
    have Wk := Walks.tuple (prog := g.prog) (w := g.w) hA.1 s.heap.objs.size a hne vs.toArray
    rw [show vs.toArray.size = xs.length by simp [r.len]] at Wk
    refine wpAny_pyIter_tuple hl (h _ _ _ _ s.toks ⟨Wk, fun i h st => ?_, fun _ i v s Q E st q => ?_, fun b o e => Heap.get?_push_of_some _ e, ?_, ?_, ⟨⟨_, Heap.get?_push_size _ rfl, rfl, rfl⟩, hl.push _⟩⟩)
    · obtain ⟨o, e, _⟩ := st.1; exact ⟨o, e⟩
    · obtain ⟨o, e, hcl, _⟩ := st.1
      exact go_quiet e (fun n hn => by rw [hcl] at hn; cases hn; decide) q
    · intro b hb
      rcases List.mem_cons.mp hb with rfl | hb
      · exact ⟨⟨_, Heap.get?_push_size _ rfl⟩, firmI, .inl rfl⟩
      · rw [List.mem_singleton.mp hb]; exact ⟨alA _, firmA rfl, .inr (List.mem_of_getElem? ea)⟩
    · intro i v _ hv; exact r.back (by simpa using hv)
  | rng m =>
    cases hxs
    obtain ⟨t, u, v, hr⟩ := S.at hc ea
    have hm : m ≤ 100000 := by simpa using hlen
    have hsz : Builtin.Range.rangeSize 0 (Int.ofNat m) 1 = (m : Int) := by
      unfold Builtin.Range.rangeSize
      simp only [show (1 : Int) > 0 by decide, if_true, Int.ediv_one]
      split <;> simp at * <;> omega
    have hsm : Builtin.Range.small 0 (Int.ofNat m) 1 = true := by
      unfold Builtin.Range.small Builtin.Range.rangeFitsLong
      rw [hsz]
      simp only [Bool.and_eq_true, Bool.or_eq_true, decide_eq_true_eq, beq_iff_eq, show (1 : Int) > 0 by decide, if_true]
      simp only [Int.ofNat_eq_natCast]
      omega
    refine wpAny_pyIter_range hr hsm (h _ _ _ _ _ ⟨by simpa using Walks.range (prog := g.prog) (w := g.w) hA.1 s.heap.objs.size 0 1 m, fun i h st => ⟨_, st⟩, fun _ i v s Q E st q => ?_, fun b o e => Heap.get?_push_of_some _ e, ?_, ?_, by rw [hsz]; exact Heap.get?_push_size _ rfl⟩)
    · exact go_quiet st (fun n hn => by cases hn; decide) q
    · intro b hb
      rw [List.mem_singleton.mp hb]
      exact ⟨⟨_, Heap.get?_push_size _ rfl⟩, firmI, .inl rfl⟩
    · rintro i v hi ⟨t, rfl⟩
      simp at hi
      exact ⟨.int (Int.ofNat i), by simp [hi], t, by simp⟩
end
end Mine

namespace Mine

section
variable {g : Cfg} {k : Nat} {W β β' : List Addr} {env : Env} {ρ : Rho} {H H' : List Cell} {s s' : Shared}

noncomputable def WIfs (g : Cfg) (k : Nat) (env : Env) (ifs : List Expr) (ρ : Rho) (H : List Cell) (Q : Bool → List Cell → Prop) : Prop :=
  match ifs with
  | [] => Q true H
  | [c] => WT g k env c ρ H Q
  | _ => False
theorem WIfs.run {ifs : List Expr} {Q : Bool → List Cell → Prop} (h : WIfs g k env ifs ρ H Q) {A : Around} (hA : Rm k A) (S : SimG g β H s) (F : Frm g.B β env ρ s) :
    wpAny g.M A (forIn ifs true fun c r => if r = true then do let ok ← isTrue c env (eval c env); pure (ForInStep.yield ok) else pure (ForInStep.yield r)) (PB g β H s Q) noE s := by
  match ifs, h with
  | [], h => exact wpAny_tests_nil (PB.here S h)
  | [c], h => exact wpAny_tests_one (h A β s hA S F)

/-- the run of a comprehension over an iterator, up to the list made -/
theorem comp_walk {A : Around} {elt iter : Expr} {x : Str} {px : Pos} {ifs : List Expr} {scope : Scope} {pos : Pos} {fp : List Addr} {Pi : Nat → Value → Prop} {St : Nat → Heap → Prop} {xs : List PV} {ob : Obj} {tk : Nat}
    (J : List PV → List PV → List Cell → Prop) (hA : Rm k A) (S : SimG g β H s) (F : Frm g.B β env ρ s) (It : ItOk g A β H s xs ob fp Pi St) (hlen : xs.length ≤ 100000)
    (hcell : ∀ y ∈ scope.names, y.2 ≠ .cell) (hkind : scope.kind = .function) (hn : compNames x scope.names = true) (hx : scope.names.lookup x = some .local) (h0 : ρ.lookup (".0" : Str) = none) (hx0 : x ≠ (".0" : Str))
    (hfree : ∀ n, (n, NameKind.free) ∈ scope.names → Reach env n)
    (hJ : J xs [] H)
    (turn : ∀ y rest acc H2, J (y :: rest) acc H2 → ∀ cenv, CompEnv scope cenv → WIfs g k cenv ifs ((x, y) :: ρ) H2 (fun b H3 => if b then WE g k cenv elt ((x, y) :: ρ) H3 (fun p H4 => J rest (acc ++ [p]) H4) else J rest acc H3))
    {RR : Value → Addr → Result → Shared → Prop} {E : Value → Shared → Prop}
    (hRR : ∀ D C β' H' acc m s', D ∉ β' → C ∉ β' → D ≠ C → s.heap.get? D = none → s.heap.get? C = none → StepG g [] β H s β' H' s' → Frm g.B β' env ρ s' → CellIs g.w.params s'.heap β' D (.list acc) → s'.heap.Ns C m → J [] acc H' → acc.length ≤ 100000 →
      RR (.ref D) C (.ok .next) s') :
    wpAny g.M A (newList []) (fun acc s₃ => wpAny g.M A (newFunctionEnv scope env.globals (clOf scope env) [] env.qual none .none (some env)) (fun cenv s₄ =>
      codeAny g.M A (.compStart (.ListComp elt [⟨.Name x px, iter, ifs, 0⟩] scope pos) 0 (.ref s.heap.objs.size) acc { cenv with scope := relabel scope env }) (RR acc cenv.locals) s₄) E s₃) E { s with heap := s.heap.push ob, toks := tk } := by
  have e24 : sizeLine = 16777216 := sizeLine_eq
  have hf' : ∀ n, (n, NameKind.free) ∈ scope.names → ∃ c, env.cells.lookup n = some c := fun n hm => (hfree n hm).2
  have hfl : ∀ n, scope.names.lookup n = some .free → Reach env n := fun n e => hfree n (mem_of_lookup e)
  refine wpAny_newObj_type (wpAny_newFunctionEnv hcell (by intro y hy; simp at hy) (fun h₁ hns₁ hsb₁ => ?_) hkind) (hd := by show ([] : List Value).toArray.size ≤ sizeLine; simp)
  dsimp only at hns₁ hsb₁ ⊢
  generalize hH1 : s.heap.push ob = H1 at hns₁ hsb₁ ⊢
  have hD : H1.objs.size = s.heap.objs.size + 1 := by rw [← hH1, Heap.size_push]
  generalize hH2 : H1.push { cls := .type "list", dict := none, data := .seq ([] : List Value).toArray } = H2 at hns₁ hsb₁ ⊢
  have hC : H2.objs.size = s.heap.objs.size + 2 := by rw [← hH2, Heap.size_push, hD]
  have neC : ∀ b o, H1.get? b = some o → b ≠ H2.objs.size := fun b o e h => by
    have h2 : b < H1.objs.size := Heap.lt_size e
    have h3 : (b : Nat) = H2.objs.size := h
    rw [h3, hC, hD] at h2
    exact absurd h2 (Nat.not_lt.mpr (Nat.le_succ _))
  have neD : H1.objs.size ≠ H2.objs.size := by rw [hC, hD]; omega
  have up : ∀ b o, H1.get? b = some o → h₁.get? b = some o := fun b o e => hsb₁.extBut b o (neC b o e) (Heap.get?_push_of_some _ (hH2 ▸ Heap.get?_push_of_some _ e))
  have old : ∀ b o, s.heap.get? b = some o → h₁.get? b = some o := fun b o e => up b o (hH1 ▸ It.get b o e)
  have hacc : h₁.PlainList H1.objs.size #[] := ⟨_, hsb₁.extBut _ _ neD (Heap.get?_push_of_some _ (hH2 ▸ Heap.get?_push_size _ rfl))⟩
  have hst : St 0 h₁ := It.walk.frame _ _ _ It.start fun b _ o e => up b o (hH1 ▸ e)
  have Wk := It.walk
  have Wlive := It.live
  have Wfirm := It.firm
  obtain ⟨I, hI⟩ : ∃ I : Nat, s.heap.objs.size = I := ⟨_, rfl⟩
  obtain ⟨D, hDD⟩ : ∃ D : Nat, H1.objs.size = D := ⟨_, rfl⟩
  obtain ⟨C, hCC⟩ : ∃ C : Nat, H2.objs.size = C := ⟨_, rfl⟩
  have lI : s.heap.objs.size ≤ I := Nat.le_of_eq hI
  have lD : s.heap.objs.size ≤ D := by omega
  have lC : s.heap.objs.size ≤ C := by omega
  have dID : I ≠ D := fun h => by omega
  have dIC : I ≠ C := fun h => by omega
  have dDC : D ≠ C := fun h => by omega
  rw [hCC, hDD, hI]
  rw [hI] at Wk Wlive Wfirm
  rw [hCC] at hns₁ hsb₁
  rw [hDD] at hacc
  have nI : s.heap.get? I = none := get_none_of_le lI
  have nD : s.heap.get? D = none := get_none_of_le lD
  have nC : s.heap.get? C = none := get_none_of_le lC
  have hwr : ∀ b ∈ [I, D, C], s.heap.get? b = none ∧ b ∉ β := fun b hb => by
    simp only [List.mem_cons, List.not_mem_nil, or_false] at hb
    rcases hb with rfl | rfl | rfl
    · exact ⟨nI, S.not_mem nI⟩
    · exact ⟨nD, S.not_mem nD⟩
    · exact ⟨nC, S.not_mem nC⟩
  have hfpI : ∀ b ∈ fp, b ≠ D ∧ b ≠ C := fun b hb => by
    rcases (Wfirm b hb).2.2 with h | h
    · exact ⟨h ▸ dID, h ▸ dIC⟩
    · obtain ⟨o, e⟩ := S.mem_some h
      exact ⟨fun h => (by rw [h, nD] at e; cases e), fun h => (by rw [h, nC] at e; cases e)⟩
  have hLn : env.locals ∉ [I, D, C] := fun h => by
    obtain ⟨o, e⟩ := F.aliveL
    rw [(hwr _ h).1] at e; cases e
  have hCn : ∀ x c, env.cells.lookup x = some c → c ∉ [I, D, C] := fun x c ec h => by
    obtain ⟨o, e⟩ := F.aliveC ec
    rw [(hwr _ h).1] at e; cases e
  have loop : ∀ s₃ : Shared, s₃ = { s with heap := h₁, toks := tk + ([] : List (Str × Value)).length } →
      codeAny g.M A (.compLoop (.ListComp elt [⟨.Name x px, iter, ifs, 0⟩] scope pos) 0 (.ref I) (.ref D) (compEnvC scope (clOf scope env) C env)) (RR (.ref D) C) s₃ := by
    rintro s₃ rfl
    refine codeAny_compLoop_tests (fun m s' => Ex6 fun i β' H' acc vs mc => And12 (StepG g [] β H s β' H' s') (Frm g.B β' env ρ s') (St i s'.heap) (∀ b ∈ fp, (∃ o, s'.heap.get? b = some o) ∧ Firm β' H' b) (∀ b ∈ [I, D, C], b ∉ β') (s'.heap.PlainList D vs.toArray) (Vls β' acc vs) (s'.heap.Ns C mc) (J (xs.drop i) acc H') (acc.length ≤ i) (i ≤ xs.length) (m = xs.length + 1 - i)) ?_ (xs.length + 1)
      ⟨0, β, H, [], [], _, Step.grow S old, F.junk (wr := []) (by simp) (fun _ _ _ => by simp) (fun b o _ e => old b o e), hst, fun b hb => ⟨?_, (Wfirm b hb).2.1⟩, fun b hb => (hwr b hb).2, hacc, trivial, hns₁, by simpa using hJ, Nat.le_refl _, Nat.zero_le _, by omega⟩
    · rintro m s' ⟨i, β', H', acc, vs, mc, T, F', st, hf, hnb, hl, hv, hns, hj, hai, hi, rfl⟩
      have hpl : vs.length = acc.length := hv.len
      by_cases hlt : i < xs.length
      · refine Wk.item i _ _ _ hlt st fun v h2 tk2 hp st2 hk2 => ?_
        have k2 : ∀ b o, b ∉ [I, D, C] → s'.heap.get? b = some o → h2.get? b = some o := fun b o hb e => hk2 b o (fun h => hb (by simp at h; simp [h])) e
        obtain ⟨p, hp1, hp2⟩ := It.item i v hlt hp
        have hd : xs.drop i = p :: xs.drop (i + 1) := by
          obtain ⟨hlt', e⟩ := List.getElem?_eq_some_iff.mp hp1
          rw [List.drop_eq_getElem_cons hlt', e]
        rw [hd] at hj
        have hns2 : h2.Ns C mc := hns.at' fun o e => hk2 _ o (by simp; exact Ne.symm dIC) e
        have hl2 : h2.PlainList D vs.toArray := hl.at fun o e => hk2 _ o (by simp; exact Ne.symm dID) e
        refine wpAny_assign_Name (wpAny_storeName_local (lookup_relabel_local hx) hns2 (fun h3 hn3 hs3 => ?_) (by simp [compEnvC, relabel, hkind]))
        have k3 : ∀ b o, b ∉ [I, D, C] → s'.heap.get? b = some o → h3.get? b = some o := fun b o hb e => hs3.extBut b o (fun h => hb (by subst h; simp [compEnvC])) (k2 b o hb e)
        have T3 : StepG g [] β H s β' H' { s' with heap := h3, toks := tk2 + 1 } := T.junk S (wr := [I, D, C]) (fun b hb => ⟨(hwr b hb).1, hnb b hb⟩) k3
        have F3 : Frm g.B β' env ρ { s' with heap := h3, toks := tk2 + 1 } := F'.junk hLn hCn k3
        have st3 : St (i + 1) h3 := Wk.frame _ _ _ st2 fun b hb o e => hs3.extBut b o (hfpI b hb).2 e
        have hl3 : h3.PlainList D vs.toArray := hl2.at fun o e => hs3.extBut _ o dDC e
        have FC : Frm g.B β' (compEnvC scope (clOf scope env) C env) ((x, p) :: ρ) { s' with heap := h3, toks := tk2 + 1 } :=
          Frm.comp F3 hkind hn3 (by simp) (hp2.pre T.pre) (hnb C (by simp)) (S.base_none nC) hn hx h0 hfl hf' hx0
        have alive3 : ∀ b ∈ fp, ∃ o, h3.get? b = some o := fun b hb => by
          obtain ⟨o, e⟩ := (hf b hb).1
          by_cases hbI : b = I
          · subst hbI; exact Wlive _ _ st3
          · exact ⟨o, k3 b o (by simp; exact ⟨hbI, (hfpI b hb).1, (hfpI b hb).2⟩) e⟩
        have wI : ∃ o, h3.get? I = some o := Wlive _ _ st3
        have wD : ∃ o, h3.get? D = some o := by obtain ⟨n, e⟩ := hl3; exact ⟨_, e⟩
        have wC : ∃ o, h3.get? C = some o := by obtain ⟨o, _, _, e, _⟩ := hn3; exact ⟨o, e⟩
        have wr3 : ∀ b ∈ [I, D, C], ∃ o, h3.get? b = some o := fun b hb => by
          simp only [List.mem_cons, List.not_mem_nil, or_false] at hb
          rcases hb with rfl | rfl | rfl
          · exact wI
          · exact wD
          · exact wC
        -- what stays over a step from here
        have over : ∀ {β4 H4 s4}, StepG g [] β' H' { s' with heap := h3, toks := tk2 + 1 } β4 H4 s4 →
            (St (i + 1) s4.heap ∧ (∀ b ∈ fp, (∃ o, s4.heap.get? b = some o) ∧ Firm β4 H4 b) ∧ (∀ b ∈ [I, D, C], b ∉ β4) ∧ s4.heap.PlainList D vs.toArray ∧ s4.heap.Ns C (fun y => if y = x then some v else mc y)) := fun {β4 H4 s4} T4 => by
          have keep : ∀ b o, Firm β' H' b → h3.get? b = some o → s4.heap.get? b = some o := fun b o hb e => T4.pres b o hb (by simp) e
          have kw : ∀ b ∈ [I, D, C], ∀ o, h3.get? b = some o → s4.heap.get? b = some o := fun b hb o e => keep b o (firm_of_not (hnb b hb)) e
          refine ⟨Wk.frame _ _ _ st3 fun b hb o e => keep b o (hf b hb).2 e, fun b hb => ?_, fun b hb hm => ?_, hl3.at (kw D (by simp)), hn3.at' (kw C (by simp))⟩
          · obtain ⟨o, e⟩ := alive3 b hb
            exact ⟨⟨o, keep b o (hf b hb).2 e⟩, T4.firm T3.sim (hf b hb).2 e⟩
          · obtain ⟨o, e⟩ := wr3 b hb
            rcases T4.new _ hm with h | h | h
            · exact hnb b hb h
            · rw [show ({ s' with heap := h3, toks := tk2 + 1 } : Shared).heap.get? b = some o from e] at h; cases h
            · exact h (S.base_none (hwr b hb).1)
        have cenvOk : CompEnv scope (compEnvC scope (clOf scope env) C env) := CompEnv.of hfl hf'
        refine wpAny_mono (WIfs.run (turn p _ acc H' hj _ cenvOk) hA T3.sim FC) (fun b s4 h4 => ?_) fun _ _ x => x.elim
        obtain ⟨β4, H4, T4, q4⟩ := h4
        cases b with
        | false =>
          rw [if_neg (by decide)] at q4 ⊢
          obtain ⟨a1, a2, a3, a4, a5⟩ := over T4
          exact ⟨xs.length + 1 - (i + 1), by omega, i + 1, β4, H4, acc, vs, _, T3.trans T4 S, F3.step T4, a1, a2, a3, a4, hv.pre T4.pre, a5, q4, by omega, hlt, rfl⟩
        | true =>
          rw [if_pos rfl] at q4 ⊢
          refine wpAny_mono (q4 A β4 s4 hA T4.sim (FC.step T4)) (fun y s5 h5 => ?_) fun _ _ x => x.elim
          obtain ⟨β5, H5, py, T5, V5, q5⟩ := h5
          have T45 := T4.trans T5 T3.sim
          obtain ⟨a1, a2, a3, a4, a5⟩ := over T45
          refine wpAny_list_append_plain a4 (fun h6 hl6 hs6 => ?_) (by simp; omega)
          have k6 : ∀ b o, b ∉ [I, D, C] → s5.heap.get? b = some o → h6.get? b = some o := fun b o hb e => hs6.extBut b o (fun h => hb (by subst h; simp)) e
          have T6 : StepG g [] β H s β5 H5 { s5 with heap := h6, toks := s5.toks } := (T3.trans T45 S).junk S (wr := [I, D, C]) (fun b hb => ⟨(hwr b hb).1, a3 b hb⟩) k6
          refine ⟨xs.length + 1 - (i + 1), by omega, i + 1, β5, H5, acc ++ [py], vs ++ [y], _, T6, (F3.step T45).junk hLn hCn k6, Wk.frame _ _ _ a1 fun b hb o e => hs6.extBut b o (hfpI b hb).1 e, fun b hb => ?_, a3, by simpa using hl6, (hv.pre T45.pre).snoc V5,
            a5.at' fun o e => hs6.extBut _ o (Ne.symm dDC) e, q5, by simp; omega, hlt, rfl⟩
          obtain ⟨⟨o, e⟩, hfm⟩ := a2 b hb
          exact ⟨⟨o, hs6.extBut b o (hfpI b hb).1 e⟩, hfm⟩
      · have hin : i = xs.length := by omega
        subst hin
        refine Wk.done _ _ _ st fun h2 tk2 hk2 => ?_
        have k2 : ∀ b o, b ∉ [I, D, C] → s'.heap.get? b = some o → h2.get? b = some o := fun b o hb e => hk2 b o (fun h => hb (by simp at h; simp [h])) e
        have T2 : StepG g [] β H s β' H' { s' with heap := h2, toks := tk2 } := T.junk S (wr := [I, D, C]) (fun b hb => ⟨(hwr b hb).1, hnb b hb⟩) k2
        have F2 : Frm g.B β' env ρ { s' with heap := h2, toks := tk2 } := F'.junk hLn hCn k2
        rw [List.drop_length] at hj
        have hl2 : h2.PlainList D vs.toArray := hl.at fun o e => hk2 _ o (by simp; exact Ne.symm dID) e
        obtain ⟨nn, hl2⟩ := hl2
        exact hRR D C β' H' acc _ _ (hnb D (by simp)) (hnb C (by simp)) dDC nD nC T2 F2 ⟨vs, nn, hl2, hv⟩ (hns.at' fun o e => hk2 _ o (by simp; exact Ne.symm dIC) e) hj (by omega)
    · obtain ⟨⟨o, e⟩, _⟩ := Wfirm b hb
      exact ⟨o, up b o (hH1 ▸ e)⟩
  exact codeAny_compStart_list (loop _ rfl) (Wk.self 0 _ _ _ hst (loop _ rfl))

/-- [elt for x in iter if c] -/
theorem WE.comp {elt iter : Expr} {x : Str} {px : Pos} {ifs : List Expr} {scope : Scope} {pos : Pos} {Q : PV → List Cell → Prop} (J : List PV → List PV → List Cell → Prop)
    (hit : WE g k env iter ρ H (fun p H1 => Ex3 fun n c xs => And5 (p = .loc n) (H1[n]? = some c) (cellItems c = some xs) (xs.length ≤ 100000) (J xs [] H1)))
    (turn : ∀ y rest acc H2, J (y :: rest) acc H2 → ∀ cenv, CompEnv scope cenv → WIfs g k cenv ifs ((x, y) :: ρ) H2 (fun b H3 => if b then WE g k cenv elt ((x, y) :: ρ) H3 (fun p H4 => J rest (acc ++ [p]) H4) else J rest acc H3))
    (fin : ∀ acc H2, J [] acc H2 → acc.length ≤ 100000 → Q (.loc H2.length) (H2 ++ [.list acc]))
    (h0 : ρ.lookup (".0" : Str) = none) (hfree : ∀ n, (n, NameKind.free) ∈ scope.names → Reach env n)
    (hcell : ∀ y ∈ scope.names, y.2 ≠ .cell := by decide) (hkind : scope.kind = .function := by rfl) (hn : compNames x scope.names = true := by decide) (hx : scope.names.lookup x = some .local := by rfl) (hx0 : x ≠ (".0" : Str) := by decide)
    (hs : ∀ x, foldedSetIterable iter env x = pure x := by intro _; rfl) :
    WE g k env (.ListComp elt [⟨.Name x px, iter, ifs, 0⟩] scope pos) ρ H Q := by
  intro A β s hA S F
  have hnames : ∀ y ∈ scope.names, y.2 = .local → scope.names.lookup y.1 = some .local := fun y hy hl => by
    have := List.all_eq_true.mp hn y hy
    simp only [Bool.or_eq_true, Bool.and_eq_true, beq_iff_eq, decide_eq_true_eq] at this
    rcases this with (⟨_, h⟩ | h) | h
    · exact h
    · rw [hl] at h; cases h
    · rw [hl] at h; cases h
  rw [eval_ListComp]
  refine wpAny_comprehension_free (use := none) rfl hs (closureFor_of fun n hm => (hfree n hm).2) hkind hnames (wpAny_mono (h := (hit A β s hA S F : wpAny g.M A (firstIter [⟨.Name x px, iter, ifs, 0⟩] env) _ _ s)) (fun v s1 h1 => ?_) fun _ _ x => x)
  obtain ⟨β1, H1, p, T1, V1, n, c, xs, rfl, hc, hxs, hlen, hJ⟩ := h1
  obtain ⟨a, ea, rfl⟩ := V1
  refine iter_cell hA T1.sim ea hc hxs hlen fun ob fp Pi St tk It => ?_
  refine comp_walk (RR := fun acc C => compPost g.M A noE none (PE g β H s Q) acc C) J hA T1.sim (F.step T1) It hlen hcell hkind hn hx h0 hx0 hfree hJ turn ?_
  intro D C β' H' acc m s' hD hC hDC nD nC T2 F2 hcl hns hj hal
  refine ⟨m, hns, fun h' hs' => ?_⟩
  have T12 := T1.trans T2 S
  have nD0 : s.heap.get? D = none := by
    cases e : s.heap.get? D with
    | none => rfl
    | some o => obtain ⟨o', e'⟩ := T1.live D o e; rw [nD] at e'; cases e'
  have nC0 : s.heap.get? C = none := by
    cases e : s.heap.get? C with
    | none => rfl
    | some o => obtain ⟨o', e'⟩ := T1.live C o e; rw [nC] at e'; cases e'
  have k' : ∀ b o, b ∉ [C] → s'.heap.get? b = some o → h'.get? b = some o := fun b o hb e => hs'.extBut b o (fun h => hb (by simp [h])) e
  have T3 : StepG g [] β H s β' H' { s' with heap := h', toks := s'.toks } := T12.junk S (wr := [C]) (fun b hb => by rw [List.mem_singleton.mp hb]; exact ⟨nC0, hC⟩) k'
  have hcl' : CellIs g.w.params h' (β' ++ [D]) D (.list acc) := by
    obtain ⟨vs, nn, e, r⟩ := hcl
    exact ⟨vs, nn, k' D _ (by simp; exact hDC) e, r.pre (List.prefix_append _ _)⟩
  have T4 := Step.adopt S T3 hD nD0 hcl'
  refine ⟨_, _, .loc H'.length, T4, ⟨D, ?_, rfl⟩, fin acc H' hj hal⟩
  rw [← T3.sim.len]; simp

/-- x = [elt for y in iter if c], by the machine's shorter way -/
theorem WS.assignComp {elt iter : Expr} {x : Str} {px : Pos} {ifs : List Expr} {scope : Scope} {pos spos py : Pos} {y : Str} {Q : AF → Rho → List Cell → Prop} (J : List PV → List PV → List Cell → Prop)
    (hit : WE g k env iter ρ H (fun p H1 => Ex3 fun n c xs => And5 (p = .loc n) (H1[n]? = some c) (cellItems c = some xs) (xs.length ≤ 100000) (J xs [] H1)))
    (turn : ∀ y rest acc H2, J (y :: rest) acc H2 → ∀ cenv, CompEnv scope cenv → WIfs g k cenv ifs ((x, y) :: ρ) H2 (fun b H3 => if b then WE g k cenv elt ((x, y) :: ρ) H3 (fun p H4 => J rest (acc ++ [p]) H4) else J rest acc H3))
    (fin : ∀ acc H2, J [] acc H2 → acc.length ≤ 100000 → Q .next (putR y (.loc H2.length) ρ) (H2 ++ [.list acc]))
    (hsw : swapsWith (.ListComp elt [⟨.Name x px, iter, ifs, 0⟩] scope pos) (some (.Name y py)) spos.line env = pure true)
    (hy : env.kindOf y = some .local) (hW : env.locals ∈ W)
    (h0 : ρ.lookup (".0" : Str) = none) (hfree : ∀ n, (n, NameKind.free) ∈ scope.names → Reach env n)
    (hcell : ∀ y ∈ scope.names, y.2 ≠ .cell := by decide) (hkind : scope.kind = .function := by rfl) (hn : compNames x scope.names = true := by decide) (hx : scope.names.lookup x = some .local := by rfl) (hx0 : x ≠ (".0" : Str) := by decide)
    (hs : ∀ x, foldedSetIterable iter env x = pure x := by intro _; rfl) :
    WS g k W env (.Assign [.Name y py] (.ListComp elt [⟨.Name x px, iter, ifs, 0⟩] scope pos) spos) ρ H Q := by
  intro A β s hA S F
  have hnames : ∀ y ∈ scope.names, y.2 = .local → scope.names.lookup y.1 = some .local := fun y hy hl => by
    have := List.all_eq_true.mp hn y hy
    simp only [Bool.or_eq_true, Bool.and_eq_true, beq_iff_eq, decide_eq_true_eq] at this
    rcases this with (⟨_, h⟩ | h) | h
    · exact h
    · rw [hl] at h; cases h
    · rw [hl] at h; cases h
  rw [exec_Assign_Name_used _ _ _ _ hsw]
  refine wpAny_bind (wpAny_standAt (wpAny_bind ?_))
  refine wpAny_mono (Q := fun _ s' => PS g W env β H s Q .next s') ?_ (fun _ s' q => wpAny_pure q) fun _ _ x => x
  refine wpAny_mono (Q := fun _ s' => PS g W env β H s Q .next s') (h := (?_ : wpAny g.M A (evalThenUse (.ListComp elt [⟨.Name x px, iter, ifs, 0⟩] scope pos) env (PySem.assign (.Name y py) env)) _ noE s)) (fun _ s' q => q) fun _ _ x => x
  unfold evalThenUse
  refine wpAny_bind ?_
  refine wpAny_comprehension_free (use := some (PySem.assign (.Name y py) env)) rfl hs (closureFor_of fun n hm => (hfree n hm).2) hkind hnames (wpAny_mono (h := (hit A β s hA S F : wpAny g.M A (firstIter [⟨.Name x px, iter, ifs, 0⟩] env) _ _ s)) (fun v s1 h1 => ?_) fun _ _ x => x)
  obtain ⟨β1, H1, p, T1, V1, n, c, xs, rfl, hc, hxs, hlen, hJ⟩ := h1
  obtain ⟨a, ea, rfl⟩ := V1
  refine iter_cell hA T1.sim ea hc hxs hlen fun ob fp Pi St tk It => ?_
  refine comp_walk (RR := fun acc C => compPost g.M A noE (some (PySem.assign (.Name y py) env)) _ acc C) J hA T1.sim (F.step T1) It hlen hcell hkind hn hx h0 hx0 hfree hJ turn ?_
  intro D C β' H' acc m s' hD hC hDC nD nC T2 F2 hcl hns hj hal
  have T12 := T1.trans T2 S
  have nD0 : s.heap.get? D = none := by
    cases e : s.heap.get? D with
    | none => rfl
    | some o => obtain ⟨o', e'⟩ := T1.live D o e; rw [nD] at e'; cases e'
  have nC0 : s.heap.get? C = none := by
    cases e : s.heap.get? C with
    | none => rfl
    | some o => obtain ⟨o', e'⟩ := T1.live C o e; rw [nC] at e'; cases e'
  have hcl' : CellIs g.w.params s'.heap (β' ++ [D]) D (.list acc) := hcl.keep (List.prefix_append _ _) fun _ e => e
  have T3 := Step.adopt S T12 hD nD0 hcl'
  have hLD : env.locals ≠ D := fun h => by obtain ⟨o, e⟩ := F.aliveL; rw [h, nD0] at e; cases e
  have hLC : env.locals ≠ C := fun h => by obtain ⟨o, e⟩ := F.aliveL; rw [h, nC0] at e; cases e
  have F3 : Frm g.B (β' ++ [D]) env ρ s' := F.step T3
  obtain ⟨ml, hnl, hml⟩ := F3.ns
  show wpAny _ A (PySem.assign (.Name y py) env (.ref D)) _ _ _
  refine wpAny_assign_Name (wpAny_storeName_local hy hnl (fun h₂ hn₂ hs₂ => ?_) (by rw [F.fn]; rfl))
  refine ⟨m, hns.sameBut hs₂ (Ne.symm hLC), fun h₃ hs₃ => ?_⟩
  have hvD : Vl (β' ++ [D]) (.loc H'.length) (.ref D) := ⟨D, by rw [← T12.sim.len]; simp, rfl⟩
  have F4 := F3.storeL (tk := s'.toks + 1) hvD hy hml hnl hn₂ hs₂
  have T4 : StepG g W β H s (β' ++ [D]) (H' ++ [.list acc]) { s' with heap := h₂, toks := s'.toks + 1 } := (T3.ofNil).trans (Step.side T3.sim hs₂.extBut F3.apartL F3.newL hW (by obtain ⟨o, _, _, e, _⟩ := hn₂; exact ⟨o, e⟩)) S
  have hC4 : C ∉ β' ++ [D] := by simp; exact ⟨hC, fun h => hDC h.symm⟩
  have k3 : ∀ b o, b ∉ [C] → h₂.get? b = some o → h₃.get? b = some o := fun b o hb e => hs₃.extBut b o (fun h => hb (by simp [h])) e
  have T5 := T4.junk (tk := s'.toks + 1) (h' := h₃) S (wr := [C]) (fun b hb => by rw [List.mem_singleton.mp hb]; exact ⟨nC0, hC4⟩) k3
  have F5 := F4.junk (tk := s'.toks + 1) (h' := h₃) (wr := [C]) (by simp; exact hLC) (fun z c ec => by
    obtain ⟨o, e⟩ := F.aliveC ec
    simp; rintro rfl; rw [nC0] at e; cases e) k3
  exact wpAny_pure ⟨_, _, _, .next, T5, F5, rfl, fin acc H' hj hal⟩
end
end Mine

namespace Mine

section
open AutoSeq1 (wpAny_loadPart')
theorem meets_enumerate_newT (l : Addr) (items : Array Value) (n : Nat) (dct : Option Addr) (sl : Array (Option Value)) :
    Meets (Builtin.«enumerate.__new__» ⟨[.type "enumerate", .ref l], []⟩) (fun _ R s => s.heap.get? l = some { cls := .type "tuple", dict := dct, data := .seq items n, slots := sl } ∧
      R (.ok (.ret (.ref (s.heap.push { cls := .type "tuple_iterator", data := .fields #[.ref l, .int 0 0] }).objs.size)))
        { s with heap := (s.heap.push { cls := .type "tuple_iterator", data := .fields #[.ref l, .int 0 0] }).push { cls := .type "enumerate", data := .fields #[.none, .bool false, .ref s.heap.objs.size, rawInt 0, .none, .none] } }) :=
  .of_wp fun prog w A R s h => by
    obtain ⟨hp, g, d, tk, os⟩ := s; obtain ⟨hl, h⟩ := h
    have hsub := sub_enumerate
    have hL : Heap.IsTuple (Shared.heap ⟨hp, g, d, tk, os⟩) l items := ⟨_, hl, rfl, n, rfl⟩
    wp_walk using wpAny_loadPart' hl
    refine wpAny_stack_any fun st => wpAny_pure ?_
    split
    · rename_i c _ _ _ _ _
      cases (c == Value.type "enumerate")
      · wp_walk using wpAny_loadPart' hl, wpAny_pyIter_tuple hL
        exact ⟨_, rfl, h⟩
      · wp_walk using wpAny_loadPart' hl, wpAny_pyIter_tuple hL
        exact ⟨_, rfl, h⟩
    · wp_walk using wpAny_loadPart' hl, wpAny_pyIter_tuple hL
      exact ⟨_, rfl, h⟩
end

section
variable {prog : Program} {w : World} {A : Around} {E : Value → Shared → Prop} {s : Shared}

theorem call_enumerate_tuple {l : Addr} {items : Array Value} {Q : Value → Shared → Prop} (hL : s.heap.IsTuple l items)
    (h : ∀ h', IsEnum h' (s.heap.objs.size + 1) s.heap.objs.size 0 .none → h'.IsTupleIter s.heap.objs.size l 0 → h'.objs.size = s.heap.objs.size + 2 →
      (∀ b o, s.heap.get? b = some o → h'.get? b = some o) → Q (.ref (s.heap.objs.size + 1)) { s with heap := h' }) :
    wpAny (model prog w) A (call (.type "enumerate") [.ref l]) Q E s := by
  obtain ⟨⟨c, dct, dt, sl⟩, hl, hc, n, hd⟩ := hL
  replace hc : c = .type "tuple" := hc
  replace hd : dt = .seq items n := hd
  subst hc hd
  refine callType_new F.called_enumerate (by decide) (F.typeCall_enumerate_1 _) (F.newCall_enumerate_1 _) (fun obj => F.args_object_init_2 obj _) F.entry_enumerate_new
    (meets_enumerate_newT l items n dct sl) ⟨hl, ?_⟩
  have hz : (s.heap.push { cls := .type "tuple_iterator", data := .fields #[.ref l, .int 0 0] }).objs.size = s.heap.objs.size + 1 := Heap.size_push ..
  show _ ∧ _
  rw [hz]
  have he : IsEnum ((s.heap.push { cls := .type "tuple_iterator", data := .fields #[.ref l, .int 0 0] }).push
      { cls := .type "enumerate", data := .fields #[.none, .bool false, .ref s.heap.objs.size, rawInt 0, .none, .none] }) (s.heap.objs.size + 1) s.heap.objs.size 0 .none := by
    have := Heap.get?_push_size (s.heap.push { cls := .type "tuple_iterator", data := .fields #[.ref l, .int 0 0] })
      (o := { cls := .type "enumerate", data := .fields #[.none, .bool false, .ref s.heap.objs.size, rawInt 0, .none, .none] }) rfl
    rw [hz] at this; exact this
  refine ⟨⟨_, he, rfl⟩, h _ he ⟨_, Heap.get?_push_of_some _ (Heap.get?_push_size _ rfl), rfl, rfl⟩ (by rw [Heap.size_push, hz]) fun b o x => Heap.get?_push_of_some _ (Heap.get?_push_of_some _ x)⟩

theorem wpAny_nextOf_tuple_item {it l : Addr} {i : Nat} {items : Array Value} {x : Value} {Q : Value → Shared → Prop} (hit : s.heap.IsTupleIter it l i)
    (hl : s.heap.IsTuple l items) (hx : items[i]? = some x)
    (hQ : ∀ h', h'.IsTupleIter it l (i + 1) → Heap.SameBut it s.heap h' → Q x { s with heap := h' }) :
    wpAny (model prog w) A (Builtin.SmallTypes.nextOf (.ref it)) Q E s := by
  obtain ⟨o, ho, hc, hd⟩ := id hit
  obtain ⟨ol, hol, _, nl, hdl⟩ := hl
  unfold Builtin.SmallTypes.nextOf
  refine wpAny_bind (wpAny_callSpecial?_slot (name := Str.ofString "__next__") hit.typeIs PySem.F.slot_tuple_iterator_next
    (wpAny_call_entry PySem.F.slot_tuple_iterator_next hit.typeIs PySem.F.entry_tuple_iterator_next ?_ (PySem.F.args_tuple_iterator_next_1 _)))
  show wpAny _ _ (field (.ref it) 0 >>= _) _ _ s
  refine wpAny_bind (wpAny_field ho hd (x := .ref l) rfl ?_)
  show wpAny _ _ (if (Value.ref l == Value.none) = true then _ else _) _ _ s
  rw [if_neg (show ¬ ((Value.ref l == Value.none) = true) from Bool.false_ne_true)]
  show wpAny _ _ (field (.ref it) 1 >>= _) _ _ s
  refine wpAny_bind (wpAny_field ho hd (x := .int i 0) rfl ?_)
  show wpAny _ _ (seqItems? (.ref l) >>= _) _ _ s
  refine wpAny_bind (wpAny_seqItems hol hdl ?_)
  simp only [Int.toNat_natCast, hx]
  refine wpAny_bind (wpAny_setField ho hd (by simp) (wpAny_pure ⟨x, rfl, wpAny_pure (hQ _ ?_ (Heap.SameBut.update ..))⟩))
  exact ⟨_, Heap.get?_update_self _ ho (Obj.isFreed_of_fields (Obj.data_mapFields hd _)), (Obj.cls_mapFields ..).trans hc, by
    rw [Obj.data_mapFields hd]; simp [rawInt]⟩

theorem wpAny_nextOf_tuple_end {it l : Addr} {i : Nat} {items : Array Value} {Q : Value → Shared → Prop} (hh : A.handled = none)
    (hit : s.heap.IsTupleIter it l i) (hl : s.heap.IsTuple l items) (hx : items[i]? = none)
    (hE : ∀ h' e, Heap.ExtBut it s.heap h' → (∃ o, h'.get? e = some o ∧ o.cls = .type "StopIteration") → E (.ref e) { s with heap := h' }) :
    wpAny (model prog w) A (Builtin.SmallTypes.nextOf (.ref it)) Q E s := by
  obtain ⟨o, ho, hc, hd⟩ := id hit
  obtain ⟨ol, hol, _, nl, hdl⟩ := hl
  unfold Builtin.SmallTypes.nextOf
  refine wpAny_bind (wpAny_callSpecial?_slot (name := Str.ofString "__next__") hit.typeIs PySem.F.slot_tuple_iterator_next
    (wpAny_call_entry PySem.F.slot_tuple_iterator_next hit.typeIs PySem.F.entry_tuple_iterator_next ?_ (PySem.F.args_tuple_iterator_next_1 _)))
  show wpAny _ _ (field (.ref it) 0 >>= _) _ _ s
  refine wpAny_bind (wpAny_field ho hd (x := .ref l) rfl ?_)
  show wpAny _ _ (if (Value.ref l == Value.none) = true then _ else _) _ _ s
  rw [if_neg (show ¬ ((Value.ref l == Value.none) = true) from Bool.false_ne_true)]
  show wpAny _ _ (field (.ref it) 1 >>= _) _ _ s
  refine wpAny_bind (wpAny_field ho hd (x := .int i 0) rfl ?_)
  show wpAny _ _ (seqItems? (.ref l) >>= _) _ _ s
  refine wpAny_bind (wpAny_seqItems hol hdl ?_)
  simp only [Int.toNat_natCast, hx]
  refine wpAny_bind (wpAny_rule (wpAny_bind (wpAny_setField ho hd (by simp) ?_)))
  show wpAny _ _ (newExc (.type "StopIteration") [] >>= _) _ _ _
  refine wpAny_bind ?_
  simp only [newExc, newTuple]
  refine wpAny_bind (wpAny_newObj_type ?_ (by size_fits))
  refine wpAny_bind (m := firstArgMember _ _) (wpAny_of_eq (a := Value.none) (by first | rfl | (simp only [firstArgMember]; rfl)) ?_)
  refine wpAny_newObj_type ?_ (by size_fits)
  simp only [raiseNew]
  refine wpAny_bind (wpAny_handled ?_)
  first | rw [show A.in1.handled = none from hh] | rw [hh]
  refine wpAny_bind (wpAny_pure (wpAny_throw ?_))
  exact hE _ _ (((Heap.SameBut.update ..).extBut.push _).push _) ⟨_, Heap.get?_push_size _ rfl, rfl⟩
end

theorem isTuple_at {h h' : Heap} {a : Addr} {items : Array Value} (x : h.IsTuple a items) (hk : ∀ o, h.get? a = some o → h'.get? a = some o) : h'.IsTuple a items := let ⟨o, e, r⟩ := x; ⟨o, hk o e, r⟩
theorem isTupleIter_at {h h' : Heap} {a t : Addr} {i : Nat} (x : h.IsTupleIter a t i) (hk : ∀ o, h.get? a = some o → h'.get? a = some o) : h'.IsTupleIter a t i := let ⟨o, e, r⟩ := x; ⟨o, hk o e, r⟩

theorem draws_tuple {prog : Program} {w : World} {A : Around} (hh : A.handled = none) (it l : Addr) (hne : l ≠ it) (items : Array Value) :
    Draws prog w A it [it, l] items.size (fun i v => items[i]? = some v) (fun i h => h.IsTupleIter it l i ∧ h.IsTuple l items) where
  live := fun _ _ st => let ⟨o, ho, _⟩ := st.1; ⟨o, ho⟩
  frame := fun _ _ _ st hk => ⟨isTupleIter_at st.1 fun o e => hk it (by simp) o e, isTuple_at st.2 fun o e => hk l (by simp) o e⟩
  item := fun i s Q E hi st hQ => by
    refine wpAny_nextOf_tuple_item st.1 st.2 (x := items[i]) (by simp [hi]) fun h' hit' hs' => ?_
    exact hQ _ h' s.toks (by simp [hi]) ⟨hit', st.2.extBut hs'.extBut hne⟩ hs'
  done := fun s Q E st hE => wpAny_nextOf_tuple_end hh st.1 st.2 (by simp) hE
end Mine

namespace Mine

/-- a value of the module as we see it -/
noncomputable def pvOf : Value → PV
  | .int i _ => .int i
  | .str x _ => .str x
  | v => .raw v
theorem vl_pvOf {β : List Addr} (v : Value) : Vl β (pvOf v) v := by
  unfold pvOf
  split
  · exact ⟨_, rfl⟩
  · exact ⟨_, rfl⟩
  · rfl
theorem vls_pvOf {β : List Addr} : ∀ vs : List Value, Vls β (vs.map pvOf) vs
  | [] => trivial
  | v :: r => ⟨vl_pvOf v, vls_pvOf r⟩

section
variable {g : Cfg} {k : Nat} {W β β' : List Addr} {env : Env} {ρ : Rho} {H H' : List Cell} {s s' : Shared}

/-- a tuple of the module -/
noncomputable def KTup (g : Cfg) (a : Addr) (vs : List Value) : Prop := ∃ o, (KK g.w.params).lookup a = some o ∧ o.cls = .type "tuple" ∧ ∃ n, o.data = .seq vs.toArray n
theorem KTup.isTuple (G : Gd g) (S : SimG g β H s) {a : Addr} {vs : List Value} (h : KTup g a vs) : s.heap.IsTuple a vs.toArray := by
  obtain ⟨o, e, hc, n, hd⟩ := h
  exact ⟨o, S.base _ _ (G.K _ _ e), hc, n, hd⟩
theorem KTup.base (G : Gd g) {a : Addr} {vs : List Value} (h : KTup g a vs) : g.B.heap.get? a ≠ none := by
  obtain ⟨o, e, _⟩ := h
  rw [G.K _ _ e]; simp

/-- an iterator that hands on tuples -/
structure ItT (g : Cfg) (A : Around) (β β' : List Addr) (H' : List Cell) (s s' : Shared) (I : Addr) (xss : List (List PV)) (fp wr : List Addr) (Pt : Nat → Array Value → Prop) (St : Nat → Heap → Prop) (Mid : Nat → Addr → Heap → Prop) : Prop where
  walk : WalksT g.prog g.w A I fp wr xss.length Pt St Mid
  start : St 0 s'.heap
  fresh : ∀ b ∈ wr, s.heap.get? b = none ∧ b ∉ β'
  live : ∀ i h, St i h → ∀ b ∈ wr, ∃ o, h.get? b = some o
  keep : ∀ b ∈ fp, (∃ o, s'.heap.get? b = some o) ∧ Firm β' H' b ∧ (s.heap.get? b = none ∨ b ∈ β' ∨ g.B.heap.get? b ≠ none)
  item : ∀ i vals, i < xss.length → Pt i vals → ∃ ps, xss[i]? = some ps ∧ Vls β' ps vals.toList

noncomputable def WItT (g : Cfg) (k : Nat) (env : Env) (iter : Expr) (ρ : Rho) (H : List Cell) (Q : List (List PV) → List Cell → Prop) : Prop :=
  ∀ A β s, Rm k A → SimG g β H s → Frm g.B β env ρ s → wpAny g.M A (eval iter env) (fun v s1 => Ex9 fun β1 H1 I xss fp wr Pt St Mid => And4 (v = .ref I) (StepG g [] β H s β1 H1 s1) (ItT g A β β1 H1 s s1 I xss fp wr Pt St Mid) (Q xss H1)) noE s

theorem Frm.off {x : Addr} (F : Frm g.B β env ρ s) (h : x ∈ Wf env) : x ∉ β ∧ g.B.heap.get? x = none ∧ ∃ o, s.heap.get? x = some o := by
  refine ⟨?_, ?_, F.alive h⟩
  · rcases List.mem_cons.mp h with rfl | h
    · exact F.apartL
    · obtain ⟨⟨y, kd⟩, _, e⟩ := List.mem_filterMap.mp h
      exact F.apartC y x e
  · rcases List.mem_cons.mp h with rfl | h
    · exact F.newL
    · obtain ⟨⟨y, kd⟩, _, e⟩ := List.mem_filterMap.mp h
      exact F.newC y x e

theorem WS.forT {elts : List Expr} {m : Nat} {tpos : Pos} {iter : Expr} {body orelse : List Stmt} {pos : Pos} {Q : AF → Rho → List Cell → Prop} (J : List (List PV) → Rho → List Cell → Prop)
    (hit : WItT g k env iter ρ H (fun xss H1 => J xss ρ H1))
    (turn : ∀ x rest ρ' H', J (x :: rest) ρ' H' → elts.length = x.length ∧ WAs g k (Wf env) env elts x ρ' H' (fun ρ2 H2 => WSS g k (Wf env) env body ρ2 H2 (loopQ (J rest) Q)))
    (fin : ∀ ρ' H', J [] ρ' H' → WSS g k (Wf env) env orelse ρ' H' Q)
    (he : assignEach elts env = elts.map (fun t => (false, PySem.assign t env)) := by rfl)
    (hs : ∀ x, foldedSetIterable iter env x = pure x := by intro _; rfl) : WS g k (Wf env) env (.For (.Tuple elts m tpos) iter body orelse pos) ρ H Q := by
  intro A β s hA S F
  have hstar : (assignEach elts env).findIdx? (·.1) = none := by
    rw [he, List.findIdx?_map]
    rw [List.findIdx?_eq_none_iff]; intro x _; rfl
  have hmap : (assignEach elts env).map (·.2) = elts.map (PySem.assign · env) := by rw [he, List.map_map]; rfl
  refine wpAny_For (wpAny_mono (hit A β s hA S F) (fun v s1 h1 => ?_) fun _ _ x => x) hs
  obtain ⟨β1, H1, I, xss, fp, wr, Pt, St, Mid, rfl, T1, It, hJ⟩ := h1
  have F1 := F.step T1
  have hwn : ∀ b ∈ wr, b ∉ Wf env := fun b hb h => by
    obtain ⟨o, e⟩ := F.alive h
    rw [(It.fresh b hb).1] at e; cases e
  have hLn : env.locals ∉ wr := fun h => hwn _ h (List.mem_cons_self ..)
  have hCn : ∀ x c, env.cells.lookup x = some c → c ∉ wr := fun x c ec h => by
    obtain ⟨o, e⟩ := F.aliveC ec
    rw [(It.fresh c h).1] at e; cases e
  have hfpW : ∀ b ∈ fp, b ∉ Wf env := fun b hb h => by
    obtain ⟨h1, h2, o, h3⟩ := F.off h
    rcases (It.keep b hb).2.2 with e | e | e
    · rw [h3] at e; cases e
    · exact (F1.off h).1 e
    · exact e h2
  refine It.walk.self 0 _ _ _ It.start ?_
  refine codeAny_mono (R := fun r s' => match r with | .ok f => PS g (Wf env) env β H s Q f s' | .error e => cameBackBy (model g.prog g.w) A env noE e s') ?_ (fun r s' h => by cases r with | ok f => exact h | error e => exact h)
  refine codeAny_forLoopT (fun m s' => Ex4 fun i β' H' ρ' => And9 (StepG g (Wf env) β H s β' H' s') (Frm g.B β' env ρ' s') (St i s'.heap) (∀ b ∈ fp, (∃ o, s'.heap.get? b = some o) ∧ Firm β' H' b) (∀ b ∈ wr, b ∉ β') (β1 <+: β') (J (xss.drop i) ρ' H') (i ≤ xss.length) (m = xss.length + 1 - i)) ?_ (xss.length + 1)
    ⟨0, β1, H1, ρ, T1.ofNil, F1, It.start, fun b hb => ⟨(It.keep b hb).1, (It.keep b hb).2.1⟩, fun b hb => (It.fresh b hb).2, List.prefix_refl _, by simpa using hJ, Nat.zero_le _, by omega⟩
  rintro m s' ⟨i, β', H', ρ', T, F', st, hf, hIb, hpre, hJ, hi, rfl⟩
  by_cases hlt : i < xss.length
  · refine It.walk.item i _ _ _ hlt st fun T0 vals h2 tk2 hp hTn hT hmid hk2 => ?_
    have T2 : StepG g (Wf env) β H s β' H' { s' with heap := h2, toks := tk2 } := T.junk S (wr := wr) (fun b hb => ⟨(It.fresh b hb).1, hIb b hb⟩) hk2
    refine It.walk.go elts _ tpos i T0 _ _ _ hmid fun h3 st3 hk3 => ?_
    have T3 : StepG g (Wf env) β H s β' H' { s' with heap := h3, toks := tk2 } := T2.junk S (wr := wr) (fun b hb => ⟨(It.fresh b hb).1, hIb b hb⟩) hk3
    have k3 : ∀ b o, b ∉ wr → s'.heap.get? b = some o → h3.get? b = some o := fun b o hb e => hk3 b o hb (hk2 b o hb e)
    have F3 : Frm g.B β' env ρ' { s' with heap := h3, toks := tk2 } := F'.junk hLn hCn k3
    have hT3 : h3.IsTuple T0 vals := by
      obtain ⟨o, e, r⟩ := hT
      exact ⟨o, hk3 T0 o (It.walk.apart i T0 _ hmid) e, r⟩
    obtain ⟨ps, hp1, hp2⟩ := It.item i vals hlt hp
    have hd : xss.drop i = ps :: xss.drop (i + 1) := by
      obtain ⟨hlt', e⟩ := List.getElem?_eq_some_iff.mp hp1
      rw [List.drop_eq_getElem_cons hlt', e]
    rw [hd] at hJ
    obtain ⟨hlen, hWA⟩ := turn ps _ ρ' H' hJ
    have hv3 : Vls β' ps vals.toList := hp2.pre hpre
    refine wpAny_assign_Tuple hA.1 hT3 (by rw [he, List.length_map, hlen, ← hv3.len]; simp) hstar fun h4 hx4 => ?_
    have hk4 : ∀ b o, h3.get? b = some o → h4.get? b = some o := fun b o x => hx4 b o (Nat.ne_of_lt (Heap.lt_size x)) x
    have T4 : StepG g (Wf env) β' H' { s' with heap := h3, toks := tk2 } β' H' { s' with heap := h4, toks := tk2 } := Step.grow (s := { s' with heap := h3, toks := tk2 }) T3.sim hk4
    have T4' : StepG g [] β' H' { s' with heap := h3, toks := tk2 } β' H' { s' with heap := h4, toks := tk2 } := Step.grow (s := { s' with heap := h3, toks := tk2 }) T3.sim hk4
    have F4 := F3.step T4'
    rw [hmap]
    refine wpAny_mono (assignInOrder_of hA elts ps vals.toList ρ' H' β' _ _ T4.sim F4 hv3 hWA) (fun _ s5 h5 => ?_) fun _ _ x => x.elim
    obtain ⟨β5, H5, ρ5, T5, F5, q5⟩ := h5
    refine wpAny_mono (q5 A β5 s5 hA T5.sim F5) (fun f s6 h6 => ?_) fun _ _ x => x.elim
    obtain ⟨β6, H6, ρ6, af, T6, F6, R6, q6⟩ := h6
    have T46 := T4.trans (T5.trans T6 T4.sim) T3.sim
    have T6' : StepG g (Wf env) β H s β6 H6 s6 := T3.trans T46 S
    have alive3 : ∀ b ∈ fp, ∃ o, h3.get? b = some o := fun b hb => by
      obtain ⟨o, e⟩ := (hf b hb).1
      by_cases hbI : b ∈ wr
      · exact It.live _ _ st3 b hbI
      · exact ⟨o, k3 b o hbI e⟩
    have keepfp : ∀ b ∈ fp, ∀ o, h3.get? b = some o → s6.heap.get? b = some o := fun b hb o e => T46.pres b o (hf b hb).2 (hfpW b hb) e
    have next : J (xss.drop (i + 1)) ρ6 H6 → ∃ m, m < xss.length + 1 - i ∧ Ex4 fun i β' H' ρ' => And9 (StepG g (Wf env) β H s β' H' s6) (Frm g.B β' env ρ' s6) (St i s6.heap) (∀ b ∈ fp, (∃ o, s6.heap.get? b = some o) ∧ Firm β' H' b) (∀ b ∈ wr, b ∉ β') (β1 <+: β') (J (xss.drop i) ρ' H') (i ≤ xss.length) (m = xss.length + 1 - i) := fun hj6 => by
      refine ⟨xss.length + 1 - (i + 1), by omega, i + 1, β6, H6, ρ6, T6', F6, It.walk.frame _ _ _ st3 keepfp, fun b hb => ?_, fun b hb hm => ?_, hpre.trans T46.pre, hj6, hlt, rfl⟩
      · obtain ⟨o, e⟩ := alive3 b hb
        exact ⟨⟨o, keepfp b hb o e⟩, T46.firm T3.sim (hf b hb).2 e⟩
      · obtain ⟨o, e⟩ := It.live _ _ st3 b hb
        rcases T46.new _ hm with h | h | h
        · exact hIb b hb h
        · rw [show ({ s' with heap := h3, toks := tk2 } : Shared).heap.get? b = some o from e] at h; cases h
        · exact h (S.base_none (It.fresh b hb).1)
    cases af with
    | next => obtain rfl := R6; exact next q6
    | cont => obtain rfl := R6; exact next q6
    | brk => obtain rfl := R6; exact ⟨β6, H6, ρ6, .next, T6', F6, rfl, q6⟩
    | ret p' => obtain ⟨u, rfl, hu⟩ := R6; exact ⟨β6, H6, ρ6, .ret p', T6', F6, ⟨u, rfl, hu⟩, q6⟩
  · have hin : i = xss.length := by omega
    subst hin
    refine It.walk.done _ _ _ st fun h2 tk2 hk2 => ?_
    have T2 : StepG g (Wf env) β H s β' H' { s' with heap := h2, toks := tk2 } := T.junk S (wr := wr) (fun b hb => ⟨(It.fresh b hb).1, hIb b hb⟩) hk2
    have F2 : Frm g.B β' env ρ' { s' with heap := h2, toks := tk2 } := F'.junk hLn hCn hk2
    rw [List.drop_length] at hJ
    refine wpAny_mono (fin ρ' H' hJ A β' _ hA T2.sim F2) (fun f s3 h3 => ?_) fun _ _ x => x.elim
    exact h3.after S T2
end
end Mine

namespace Mine

section
variable {g : Cfg} {k : Nat} {W β β' : List Addr} {env : Env} {ρ : Rho} {H H' : List Cell} {s s' : Shared}

noncomputable def enumPs : Nat → List PV → List (List PV)
  | _, [] => []
  | i, p :: r => [.int i, p] :: enumPs (i + 1) r
theorem enumPs_len : ∀ (i : Nat) (ps : List PV), (enumPs i ps).length = ps.length
  | _, [] => rfl
  | i, _ :: r => by simp [enumPs, enumPs_len (i + 1) r]
theorem enumPs_get : ∀ (i j : Nat) (ps : List PV) (p : PV), ps[j]? = some p → (enumPs i ps)[j]? = some [.int ((i + j : Nat) : Int), p]
  | _, _, [], _, h => by simp at h
  | i, 0, q :: r, p, h => by simp at h; subst h; simp [enumPs]
  | i, j + 1, q :: r, p, h => by
    simp at h
    simp only [enumPs, List.getElem?_cons_succ]
    rw [enumPs_get (i + 1) j r p h]
    congr 3
    simp; omega
noncomputable def zipPs : List PV → List PV → List (List PV)
  | p :: r, q :: t => [p, q] :: zipPs r t
  | _, _ => []
theorem zipPs_len : ∀ (ps qs : List PV), (zipPs ps qs).length = min ps.length qs.length
  | [], _ => by simp [zipPs]
  | _ :: _, [] => by simp [zipPs]
  | _ :: r, _ :: t => by simp [zipPs, zipPs_len r t]
theorem zipPs_get : ∀ (j : Nat) (ps qs : List PV) (p q : PV), ps[j]? = some p → qs[j]? = some q → (zipPs ps qs)[j]? = some [p, q]
  | _, [], _, _, _, h, _ => by simp at h
  | _, _ :: _, [], _, _, _, h => by simp at h
  | 0, _ :: _, _ :: _, _, _, h, h' => by simp at h h'; subst h h'; simp [zipPs]
  | j + 1, _ :: r, _ :: t, p, q, h, h' => by
    simp at h h'
    simpa [zipPs] using zipPs_get j r t p q h h'

theorem WItT.enumL {fe e : Expr} {pos : Pos} {Q : List (List PV) → List Cell → Prop}
    (hf : WE g k env fe ρ H (fun p H1 => p = .raw (.type "enumerate") ∧ WLs g k env [e] ρ H1 (fun ps H2 => Ex2 fun n xs => And3 (ps = [.loc n]) (H2[n]? = some (.flist xs)) (Q (enumPs 0 xs) H2))))
    (hp : (backTo pos (starEach [e] env)).any (·.1) = false := by rfl)
    (he : eval (.Call fe [e] [] pos) env = (do callWith pos (← eval fe env) [] (backTo pos (starEach [e] env)) (backToKw pos (keywordEach [] env))) := by rfl) : WItT g k env (.Call fe [e] [] pos) ρ H Q := by
  intro A β s hA S F
  refine Call_ (wpAny_mono (hf A β s hA S F) (fun v s1 h1 => ?_) fun _ _ x => x) he
  obtain ⟨β1, H1, q, T1, V1, rfl, h1⟩ := h1
  obtain rfl := V1
  refine PyProof.Rows.callWith_type hp (evalArgs_of hp (wpAny_mono (h1 pos A β1 s1 hA T1.sim (F.step T1)) (fun vs s2 h2 => ?_) fun _ _ x => x))
  obtain ⟨β2, H2, ps, T2, V2, n, xs, rfl, hn, q⟩ := h2
  obtain ⟨v, rfl, a, ea, rfl⟩ := vls1 V2
  have T12 := T1.trans T2 S
  obtain ⟨us, hl, r⟩ := T2.sim.at hn ea
  have hlt : a < s2.heap.objs.size := by obtain ⟨o, e, _⟩ := hl; exact Heap.lt_size e
  have eL : us.toArray.size = (enumPs 0 xs).length := by rw [enumPs_len]; simp [r.len]
  refine call_enumerate_list hl fun h' hE hI hsz hk => ?_
  have T3 : StepG g [] β H s β2 H2 { s2 with heap := h', toks := s2.toks } := T12.trans (Step.grow T2.sim hk) S
  have nI : s.heap.get? s2.heap.objs.size = none := by
    cases x : s.heap.get? s2.heap.objs.size with
    | none => rfl
    | some o => obtain ⟨o', e⟩ := T12.live _ o x; rw [get_size_none] at e; cases e
  have nE : s.heap.get? (s2.heap.objs.size + 1) = none := by
    cases x : s.heap.get? (s2.heap.objs.size + 1) with
    | none => rfl
    | some o => obtain ⟨o', e⟩ := T12.live _ o x; rw [get_none_of_le (Nat.le_succ _)] at e; cases e
  have bI : s2.heap.objs.size ∉ β2 := T2.sim.not_mem (get_size_none _)
  have bE : s2.heap.objs.size + 1 ∉ β2 := T2.sim.not_mem (get_none_of_le (Nat.le_succ _))
  have Wk := WalksT.enumerate (prog := g.prog) (w := g.w) hA.1 (s2.heap.objs.size + 1) s2.heap.objs.size a (Nat.succ_ne_self _) (Nat.ne_of_lt (Nat.lt_succ_of_lt hlt)) (Nat.ne_of_lt hlt) us.toArray
  rw [eL] at Wk
  refine ⟨β2, H2, _, enumPs 0 xs, _, _, _, _, _, rfl, T3, ⟨Wk, ⟨⟨_, hE⟩, hI, hl.at fun o e => hk _ o e⟩, ?_, ?_, ?_, ?_⟩, q⟩
  · intro b hb
    simp only [List.mem_cons, List.not_mem_nil, or_false] at hb
    rcases hb with rfl | rfl
    · exact ⟨nE, bE⟩
    · exact ⟨nI, bI⟩
  · rintro i h ⟨⟨old, he⟩, ⟨o, ho, _⟩, _⟩ b hb
    simp only [List.mem_cons, List.not_mem_nil, or_false] at hb
    rcases hb with rfl | rfl
    · exact ⟨_, he⟩
    · exact ⟨o, ho⟩
  · intro b hb
    simp only [List.mem_cons, List.not_mem_nil, or_false] at hb
    rcases hb with rfl | rfl | rfl
    · exact ⟨⟨_, hE⟩, firm_of_not bE, .inl nE⟩
    · obtain ⟨o, ho, _⟩ := hI
      exact ⟨⟨o, ho⟩, firm_of_not bI, .inl nI⟩
    · obtain ⟨o, ho, _⟩ := hl
      refine ⟨⟨o, hk _ o ho⟩, fun i c e1 e2 => ?_, .inr (.inl (List.mem_of_getElem? ea))⟩
      have hij : i = n := (List.getElem?_inj (List.getElem?_eq_some_iff.mp e1).1 T2.sim.nodup).mp (e1.trans ea.symm)
      subst hij
      rw [hn] at e2; cases e2; rfl
  · rintro i vals hi ⟨t, x, hx, rfl⟩
    obtain ⟨p, hp1, hp2⟩ := r.back (by simpa using hx)
    exact ⟨_, enumPs_get 0 i xs p hp1, ⟨t, by simp⟩, hp2, trivial⟩

theorem WItT.enumK (G : Gd g) {fe e : Expr} {pos : Pos} {t : Addr} {us : List Value} {Q : List (List PV) → List Cell → Prop} (hK : KTup g t us)
    (hf : WE g k env fe ρ H (fun p H1 => p = .raw (.type "enumerate") ∧ WLs g k env [e] ρ H1 (fun ps H2 => ps = [.raw (.ref t)] ∧ Q (enumPs 0 (us.map pvOf)) H2)))
    (hp : (backTo pos (starEach [e] env)).any (·.1) = false := by rfl)
    (he : eval (.Call fe [e] [] pos) env = (do callWith pos (← eval fe env) [] (backTo pos (starEach [e] env)) (backToKw pos (keywordEach [] env))) := by rfl) : WItT g k env (.Call fe [e] [] pos) ρ H Q := by
  intro A β s hA S F
  refine Call_ (wpAny_mono (hf A β s hA S F) (fun v s1 h1 => ?_) fun _ _ x => x) he
  obtain ⟨β1, H1, q, T1, V1, rfl, h1⟩ := h1
  obtain rfl := V1
  refine PyProof.Rows.callWith_type hp (evalArgs_of hp (wpAny_mono (h1 pos A β1 s1 hA T1.sim (F.step T1)) (fun vs s2 h2 => ?_) fun _ _ x => x))
  obtain ⟨β2, H2, ps, T2, V2, rfl, q⟩ := h2
  obtain ⟨v, rfl, hv⟩ := vls1 V2
  obtain rfl := hv
  have T12 := T1.trans T2 S
  have hl := hK.isTuple G T2.sim
  have hB := hK.base G
  have hlt : t < s2.heap.objs.size := by obtain ⟨o, e, _⟩ := hl; exact Heap.lt_size e
  have eL : us.toArray.size = (enumPs 0 (us.map pvOf)).length := by rw [enumPs_len]; simp
  refine call_enumerate_tuple hl fun h' hE hI hsz hk => ?_
  have T3 : StepG g [] β H s β2 H2 { s2 with heap := h', toks := s2.toks } := T12.trans (Step.grow T2.sim hk) S
  have nI : s.heap.get? s2.heap.objs.size = none := by
    cases x : s.heap.get? s2.heap.objs.size with
    | none => rfl
    | some o => obtain ⟨o', e⟩ := T12.live _ o x; rw [get_size_none] at e; cases e
  have nE : s.heap.get? (s2.heap.objs.size + 1) = none := by
    cases x : s.heap.get? (s2.heap.objs.size + 1) with
    | none => rfl
    | some o => obtain ⟨o', e⟩ := T12.live _ o x; rw [get_none_of_le (Nat.le_succ _)] at e; cases e
  have bI : s2.heap.objs.size ∉ β2 := T2.sim.not_mem (get_size_none _)
  have bE : s2.heap.objs.size + 1 ∉ β2 := T2.sim.not_mem (get_none_of_le (Nat.le_succ _))
  have Wk := WalksT.enumerateD (draws_tuple (prog := g.prog) (w := g.w) (A := A.in1) hA.1 s2.heap.objs.size t (Nat.ne_of_lt hlt) us.toArray) (s2.heap.objs.size + 1) (Nat.succ_ne_self _) (by simp; exact Ne.symm (Nat.ne_of_lt (Nat.lt_succ_of_lt hlt))) (by simp)
  rw [eL] at Wk
  refine ⟨β2, H2, _, enumPs 0 (us.map pvOf), _, _, _, _, _, rfl, T3, ⟨Wk, ⟨⟨_, hE⟩, hI, isTuple_at hl fun o e => hk _ o e⟩, ?_, ?_, ?_, ?_⟩, q⟩
  · intro b hb
    simp only [List.mem_cons, List.not_mem_nil, or_false] at hb
    rcases hb with rfl | rfl
    · exact ⟨nE, bE⟩
    · exact ⟨nI, bI⟩
  · rintro i h ⟨⟨old, he⟩, ⟨o, ho, _⟩, _⟩ b hb
    simp only [List.mem_cons, List.not_mem_nil, or_false] at hb
    rcases hb with rfl | rfl
    · exact ⟨_, he⟩
    · exact ⟨o, ho⟩
  · intro b hb
    simp only [List.mem_cons, List.not_mem_nil, or_false] at hb
    rcases hb with rfl | rfl | rfl
    · exact ⟨⟨_, hE⟩, firm_of_not bE, .inl nE⟩
    · obtain ⟨o, ho, _⟩ := hI
      exact ⟨⟨o, ho⟩, firm_of_not bI, .inl nI⟩
    · obtain ⟨o, ho, _⟩ := hl
      refine ⟨⟨o, hk _ o ho⟩, fun i c e1 e2 => ?_, .inr (.inr hB)⟩
      cases hm : c.mut with
      | false => rfl
      | true => exact absurd (T2.sim.fresh i _ c e1 e2 hm) hB
  · rintro i vals hi ⟨t', x, hx, rfl⟩
    have hx' : (us.map pvOf)[i]? = some (pvOf x) := by rw [List.getElem?_map]; simp at hx; rw [hx]; rfl
    exact ⟨_, enumPs_get 0 i _ _ hx', ⟨t', by simp⟩, vl_pvOf x, trivial⟩

theorem WItT.zip {fe e1 e2 : Expr} {pos : Pos} {Q : List (List PV) → List Cell → Prop}
    (hf : WE g k env fe ρ H (fun p H1 => p = .raw (.type "zip") ∧ WLs g k env [e1, e2] ρ H1 (fun ps H2 => Ex4 fun n m xs ys => And4 (ps = [.loc n, .loc m]) (H2[n]? = some (.flist xs)) (H2[m]? = some (.flist ys)) (Q (zipPs xs ys) H2))))
    (hp : (backTo pos (starEach [e1, e2] env)).any (·.1) = false := by rfl)
    (he : eval (.Call fe [e1, e2] [] pos) env = (do callWith pos (← eval fe env) [] (backTo pos (starEach [e1, e2] env)) (backToKw pos (keywordEach [] env))) := by rfl) : WItT g k env (.Call fe [e1, e2] [] pos) ρ H Q := by
  intro A β s hA S F
  refine Call_ (wpAny_mono (hf A β s hA S F) (fun v s1 h1 => ?_) fun _ _ x => x) he
  obtain ⟨β1, H1, q, T1, V1, rfl, h1⟩ := h1
  obtain rfl := V1
  refine PyProof.Rows.callWith_type hp (evalArgs_of hp (wpAny_mono (h1 pos A β1 s1 hA T1.sim (F.step T1)) (fun vs s2 h2 => ?_) fun _ _ x => x))
  obtain ⟨β2, H2, ps, T2, V2, n, m, xs, ys, rfl, hn, hm, q⟩ := h2
  obtain ⟨v, u, rfl, ⟨a, ea, rfl⟩, ⟨b, eb, rfl⟩⟩ := vls2 V2
  have T12 := T1.trans T2 S
  obtain ⟨us, hl1, r1⟩ := T2.sim.at hn ea
  obtain ⟨ws, hl2, r2⟩ := T2.sim.at hm eb
  have la : a < s2.heap.objs.size := by obtain ⟨o, e, _⟩ := hl1; exact Heap.lt_size e
  have lb : b < s2.heap.objs.size := by obtain ⟨o, e, _⟩ := hl2; exact Heap.lt_size e
  have eL : min us.toArray.size ws.toArray.size = (zipPs xs ys).length := by rw [zipPs_len]; simp [r1.len, r2.len]
  refine call_zip_2 hl1 hl2 fun h' hz hTI hTO hi1 hi2 hsz hk => ?_
  have T3 : StepG g [] β H s β2 H2 { s2 with heap := h', toks := s2.toks } := T12.trans (Step.grow T2.sim hk) S
  have nn : ∀ j, s.heap.get? (s2.heap.objs.size + j) = none := fun j => by
    cases x : s.heap.get? (s2.heap.objs.size + j) with
    | none => rfl
    | some o => obtain ⟨o', e⟩ := T12.live _ o x; rw [get_none_of_le (Nat.le_add_right _ _)] at e; cases e
  have nb : ∀ j, s2.heap.objs.size + j ∉ β2 := fun j => T2.sim.not_mem (get_none_of_le (Nat.le_add_right _ _))
  have ne : ∀ i j : Nat, i ≠ j → s2.heap.objs.size + i ≠ s2.heap.objs.size + j := fun i j h e => h (Nat.add_left_cancel e)
  have na : ∀ j, a ≠ s2.heap.objs.size + j := fun j => Nat.ne_of_lt (Nat.lt_of_lt_of_le la (Nat.le_add_right _ _))
  have nb' : ∀ j, b ≠ s2.heap.objs.size + j := fun j => Nat.ne_of_lt (Nat.lt_of_lt_of_le lb (Nat.le_add_right _ _))
  have D : ZipApart (s2.heap.objs.size + 4) (s2.heap.objs.size + 2) (s2.heap.objs.size + 3) s2.heap.objs.size (s2.heap.objs.size + 1) a b := by
    constructor <;> first | exact ne _ _ (by decide) | exact na _ | exact nb' _ | exact ne 0 _ (by decide) | exact ne _ 0 (by decide) | exact na 0 | exact nb' 0
  have Wk := WalksT.zip2 (prog := g.prog) (w := g.w) hA.1 _ _ _ _ _ a b D us.toArray ws.toArray
  rw [eL] at Wk
  refine ⟨β2, H2, _, zipPs xs ys, _, _, _, _, _, rfl, T3, ⟨Wk, ⟨hz, hTI, ⟨_, _, hTO⟩, hi1, hi2, hl1.at fun o e => hk _ o e, hl2.at fun o e => hk _ o e⟩, ?_, ?_, ?_, ?_⟩, q⟩
  · intro b hb
    simp only [List.mem_cons, List.not_mem_nil, or_false] at hb
    rcases hb with rfl | rfl | rfl | rfl
    · exact ⟨nn _, nb _⟩
    · exact ⟨nn _, nb _⟩
    · exact ⟨nn 0, nb 0⟩
    · exact ⟨nn _, nb _⟩
  · rintro i h ⟨h1, h2, ⟨_, _, h3⟩, ⟨o, ho, _⟩, ⟨o', ho', _⟩, _⟩ b hb
    simp only [List.mem_cons, List.not_mem_nil, or_false] at hb
    rcases hb with rfl | rfl | rfl | rfl
    · exact ⟨_, h1⟩
    · exact ⟨_, h3⟩
    · exact ⟨o, ho⟩
    · exact ⟨o', ho'⟩
  · intro c hc
    simp only [List.mem_cons, List.not_mem_nil, or_false] at hc
    rcases hc with rfl | rfl | rfl | rfl | rfl | rfl | rfl
    · exact ⟨⟨_, hz⟩, firm_of_not (nb _), .inl (nn _)⟩
    · exact ⟨⟨_, hTI⟩, firm_of_not (nb _), .inl (nn _)⟩
    · exact ⟨⟨_, hTO⟩, firm_of_not (nb _), .inl (nn _)⟩
    · obtain ⟨o, ho, _⟩ := hi1
      exact ⟨⟨o, ho⟩, firm_of_not (nb 0), .inl (nn 0)⟩
    · obtain ⟨o, ho, _⟩ := hi2
      exact ⟨⟨o, ho⟩, firm_of_not (nb _), .inl (nn _)⟩
    · obtain ⟨o, ho, _⟩ := hl1
      refine ⟨⟨o, hk _ o ho⟩, fun i c e1 e2 => ?_, .inr (.inl (List.mem_of_getElem? ea))⟩
      have hij : i = n := (List.getElem?_inj (List.getElem?_eq_some_iff.mp e1).1 T2.sim.nodup).mp (e1.trans ea.symm)
      subst hij
      rw [hn] at e2; cases e2; rfl
    · obtain ⟨o, ho, _⟩ := hl2
      refine ⟨⟨o, hk _ o ho⟩, fun i c e1 e2 => ?_, .inr (.inl (List.mem_of_getElem? eb))⟩
      have hij : i = m := (List.getElem?_inj (List.getElem?_eq_some_iff.mp e1).1 T2.sim.nodup).mp (e1.trans eb.symm)
      subst hij
      rw [hm] at e2; cases e2; rfl
  · rintro i vals hi ⟨x, y, hx, hy, rfl⟩
    obtain ⟨p, hp1, hp2⟩ := r1.back (by simpa using hx)
    obtain ⟨p', hp1', hp2'⟩ := r2.back (by simpa using hy)
    exact ⟨_, zipPs_get i xs ys p p' hp1 hp1', hp2, hp2', trivial⟩

/-- a loop over a tuple of the module -/
theorem WS.forK (G : Gd g) {target iter : Expr} {body orelse : List Stmt} {pos : Pos} {Q : AF → Rho → List Cell → Prop} (J : List PV → Rho → List Cell → Prop)
    (hit : WE g k env iter ρ H (fun p H1 => Ex2 fun t us => And3 (p = .raw (.ref t)) (KTup g t us) (J (us.map pvOf) ρ H1)))
    (turn : ∀ x rest ρ' H', J (x :: rest) ρ' H' → WA g k (Wf env) env target x ρ' H' (fun ρ2 H2 => WSS g k (Wf env) env body ρ2 H2 (loopQ (J rest) Q)))
    (fin : ∀ ρ' H', J [] ρ' H' → WSS g k (Wf env) env orelse ρ' H' Q)
    (hs : ∀ x, foldedSetIterable iter env x = pure x := by intro _; rfl) : WS g k (Wf env) env (.For target iter body orelse pos) ρ H Q := by
  intro A β s hA S F
  refine wpAny_For (wpAny_mono (hit A β s hA S F) (fun v s1 h1 => ?_) fun _ _ x => x) hs
  obtain ⟨β1, H1, p, T1, V1, t, us, rfl, hK, hJ⟩ := h1
  obtain rfl := V1
  have F1 := F.step T1
  have hl := hK.isTuple G T1.sim
  have hB := hK.base G
  have hlt : t < s1.heap.objs.size := by obtain ⟨o, e, _⟩ := hl; exact Heap.lt_size e
  have hIW : s1.heap.objs.size ∉ Wf env := fun h => by
    obtain ⟨o, e⟩ := F1.alive h
    rw [get_size_none] at e; cases e
  refine wpAny_pyIter_tuple hl (codeAny_mono (for_walk (E := cameBackBy (model g.prog g.w) A env noE) (ps := us.map pvOf) J hA (Walks.tuple hA.1 s1.heap.objs.size t (Nat.ne_of_lt hlt) us.toArray) (fun i h st => ?_) (fun i v s Q E st q => ?_) T1.sim F1 (fun b o e => Heap.get?_push_of_some _ e) (get_size_none _) ?_ ?_ (by simp) ⟨⟨_, Heap.get?_push_size _ rfl, rfl, rfl⟩, hl.push _⟩ hJ turn fin) fun rr s' h => ?_)
  · obtain ⟨o, e, _⟩ := st.1; exact ⟨o, e⟩
  · obtain ⟨o, e, hcl, _⟩ := st.1
    exact go_quiet e (fun n hn => by rw [hcl] at hn; cases hn; decide) q
  · intro b hb
    rcases List.mem_cons.mp hb with rfl | hb
    · exact ⟨⟨_, Heap.get?_push_size _ rfl⟩, firm_of_not (T1.sim.not_mem (get_size_none _)), hIW⟩
    · rw [List.mem_singleton.mp hb]
      obtain ⟨o, e, _⟩ := hl
      refine ⟨⟨o, Heap.get?_push_of_some _ e⟩, fun i c e1 e2 => ?_, fun h => hB (F1.off h).2.1⟩
      cases hm : c.mut with
      | false => rfl
      | true => exact absurd (T1.sim.fresh i _ c e1 e2 hm) hB
  · intro i v _ hv
    have hv' : us[i]? = some v := by simpa using hv
    exact ⟨pvOf v, by rw [List.getElem?_map, hv']; rfl, vl_pvOf v⟩
  · cases rr with
    | ok f => exact PS.after S T1.ofNil h
    | error e => exact h

theorem WA.unpackK (G : Gd g) {elts : List Expr} {m : Nat} {pos : Pos} {t : Addr} {us : List Value} {Q : Rho → List Cell → Prop} (hK : KTup g t us) (hl : elts.length = us.length)
    (h : WAs g k W env elts (us.map pvOf) ρ H Q) (he : assignEach elts env = elts.map (fun t => (false, PySem.assign t env)) := by rfl) : WA g k W env (.Tuple elts m pos) (.raw (.ref t)) ρ H Q := by
  intro A β s v hA S F hv
  obtain rfl := hv
  have hstar : (assignEach elts env).findIdx? (·.1) = none := by
    rw [he, List.findIdx?_map]
    rw [List.findIdx?_eq_none_iff]; intro x _; rfl
  have hmap : (assignEach elts env).map (·.2) = elts.map (PySem.assign · env) := by rw [he, List.map_map]; rfl
  refine wpAny_assign_Tuple hA.1 (hK.isTuple G S) (by rw [he, List.length_map, hl]; simp) hstar fun h' hx => ?_
  have hk : ∀ b o, s.heap.get? b = some o → h'.get? b = some o := fun b o x => hx b o (Nat.ne_of_lt (Heap.lt_size x)) x
  have T : StepG g W β H s β H { s with heap := h', toks := s.toks } := Step.grow S hk
  have T0 : StepG g [] β H s β H { s with heap := h', toks := s.toks } := Step.grow S hk
  rw [hmap]
  exact wpAny_mono (assignInOrder_of hA elts (us.map pvOf) us ρ H β _ Q T.sim (F.step T0) (vls_pvOf us) h) (fun _ s2 h2 => h2.after S T) fun _ _ x => x
end
end Mine

namespace Mine

/-- what a frame knows of its names, function or comprehension -/
structure EOk (names : List (Str × NameKind)) (env : Env) : Prop where
  loc : ∀ x, names.lookup x = some .local → env.kindOf x = some .local
  far : ∀ x, names.lookup x = some .cell ∨ names.lookup x = some .free → Reach env x
  glob : ∀ x, names.lookup x = some .globalImplicit → env.kindOf x = some .globalImplicit
/-- .. and a function beside, of where it may store -/
structure FOk (names : List (Str × NameKind)) (env : Env) : Prop where
  eok : EOk names env
  cell : ∀ x, names.lookup x = some .cell → env.kindOf x = some .cell ∧ ∃ c, env.cells.lookup x = some c ∧ c ∈ Wf env

theorem EnvOk.fok {names : List (Str × NameKind)} {env : Env} (h : EnvOk names env) (hf : (names.all fun p => p.2 != .free) = true) : FOk names env where
  eok := {
    loc := fun x e => (h.kind x).trans e
    far := fun x e => by
      rcases e with e | e
      · exact h.reach e
      · have := List.all_eq_true.mp hf _ (mem_of_lookup e)
        simp at this
    glob := fun x e => (h.kind x).trans e }
  cell := fun x e => ⟨(h.kind x).trans e, h.cells x e⟩
theorem CompEnv.eok {scope : Scope} {cenv : Env} (h : CompEnv scope cenv) (hf : (scope.names.all fun p => p.2 != .cell) = true) : EOk scope.names cenv where
  loc := h.loc
  far := fun x e => by
    rcases e with e | e
    · have := List.all_eq_true.mp hf _ (mem_of_lookup e)
      simp at this
    · exact h.free x e
  glob := h.glob

section
variable {g : Cfg} {k : Nat} {W β β' : List Addr} {env : Env} {ρ : Rho} {H H' : List Cell} {s s' : Shared} {names : List (Str × NameKind)}

theorem WE.lcl (hE : EOk names env) {x : Str} {pos : Pos} {p : PV} {Q : PV → List Cell → Prop} (h : Q p H) (e : ρ.lookup x = some p := by rfl) (hk : names.lookup x = some .local := by rfl) (hd : (x == ("__debug__" : Str)) = false := by decide) :
    WE g k env (.Name x pos) ρ H Q := WE.nameL e h (hE.loc x hk) hd
theorem WE.l (hE : EOk names env) {x : Str} {pos : Pos} {p : PV} {Q : PV → List Cell → Prop} (e : ρ.lookup x = some p) (h : Q p H) (hk : names.lookup x = some .local := by rfl) (hd : (x == ("__debug__" : Str)) = false := by decide) :
    WE g k env (.Name x pos) ρ H Q := WE.nameL e h (hE.loc x hk) hd
theorem WE.f (hE : EOk names env) {x : Str} {pos : Pos} {p : PV} {Q : PV → List Cell → Prop} (e : ρ.lookup x = some p) (h : Q p H) (hk : names.lookup x = some .cell ∨ names.lookup x = some .free := by first | exact .inl rfl | exact .inr rfl)
    (hd : (x == ("__debug__" : Str)) = false := by decide) (hn : (x == ("__classdict__" : Str)) = false := by decide) : WE g k env (.Name x pos) ρ H Q := WE.nameR e h (hE.far x hk) hd hn
theorem WE.glb (G : Gd g) (hE : EOk names env) {x : Str} {pos : Pos} {v : Value} {Q : PV → List Cell → Prop} (e : nsIn (KK g.w.params) mainGlobals x = some (some v)) (h : Q (pvOf v) H) (hk : names.lookup x = some .globalImplicit := by rfl)
    (hd : (x == ("__debug__" : Str)) = false := by decide) : WE g k env (.Name x pos) ρ H Q := WE.nameG G e (fun _ => vl_pvOf v) h (hE.glob x hk) hd
theorem WE.bi (G : Gd g) (hE : EOk names env) {x : Str} {pos : Pos} {v : Value} {Q : PV → List Cell → Prop} (e : nsIn (KK g.w.params) mainGlobals x = some none) (hv : bootBuiltins x = some v) (h : Q (.raw v) H) (hk : names.lookup x = some .globalImplicit := by rfl)
    (hn : x ≠ "__name__" := by decide) (hd : (x == ("__debug__" : Str)) = false := by decide) : WE g k env (.Name x pos) ρ H Q := WE.nameB G e hv hn h (hE.glob x hk) hd

/-- f(args), f a def of the module -/
theorem WE.callK (G : Gd g) (hE : EOk names env) {x : Str} {args : List Expr} {npos pos : Pos} {a : Addr} {Q : PV → List Cell → Prop} (e : nsIn (KK g.w.params) mainGlobals x = some (some (.ref a))) (hk : keepIn (KK g.w.params) (.ref a) = true)
    (h : WLs g k env args ρ H (fun ps H2 => WC g k (.ref a) ps H2 Q)) (hx : names.lookup x = some .globalImplicit := by rfl) (hd : (x == ("__debug__" : Str)) = false := by decide)
    (hp : (backTo pos (starEach args env)).any (·.1) = false := by rfl)
    (he : eval (.Call (.Name x npos) args [] pos) env = (do callWith pos (← eval (.Name x npos) env) [] (backTo pos (starEach args env)) (backToKw pos (keywordEach [] env))) := by rfl) :
    WE g k env (.Call (.Name x npos) args [] pos) ρ H Q :=
  WE.call G (WE.glb G hE e ⟨rfl, h⟩ hx hd) (CW.K hk) hp he
theorem WE.callB (G : Gd g) (hE : EOk names env) {x : Str} {args : List Expr} {npos pos : Pos} {id : String} {Q : PV → List Cell → Prop} (e : nsIn (KK g.w.params) mainGlobals x = some none) (hv : bootBuiltins x = some (.builtin id))
    (h : WLs g k env args ρ H (fun ps H2 => WC g k (.builtin id) ps H2 Q)) (hx : names.lookup x = some .globalImplicit := by rfl) (hn : x ≠ "__name__" := by decide) (hd : (x == ("__debug__" : Str)) = false := by decide)
    (hp : (backTo pos (starEach args env)).any (·.1) = false := by rfl)
    (he : eval (.Call (.Name x npos) args [] pos) env = (do callWith pos (← eval (.Name x npos) env) [] (backTo pos (starEach args env)) (backToKw pos (keywordEach [] env))) := by rfl) :
    WE g k env (.Call (.Name x npos) args [] pos) ρ H Q :=
  WE.call G (WE.bi G hE e hv ⟨rfl, h⟩ hx hn hd) CW.builtin hp he
theorem WE.callT (G : Gd g) (hE : EOk names env) {x : Str} {args : List Expr} {npos pos : Pos} {id : String} {Q : PV → List Cell → Prop} (e : nsIn (KK g.w.params) mainGlobals x = some none) (hv : bootBuiltins x = some (.type id))
    (h : WLs g k env args ρ H (fun ps H2 => WC g k (.type id) ps H2 Q)) (hx : names.lookup x = some .globalImplicit := by rfl) (hn : x ≠ "__name__" := by decide) (hd : (x == ("__debug__" : Str)) = false := by decide)
    (hp : (backTo pos (starEach args env)).any (·.1) = false := by rfl)
    (he : eval (.Call (.Name x npos) args [] pos) env = (do callWith pos (← eval (.Name x npos) env) [] (backTo pos (starEach args env)) (backToKw pos (keywordEach [] env))) := by rfl) :
    WE g k env (.Call (.Name x npos) args [] pos) ρ H Q :=
  WE.call G (WE.bi G hE e hv ⟨rfl, h⟩ hx hn hd) CW.type hp he

theorem WLs.one {e : Expr} {Q : List PV → List Cell → Prop} (h : WE g k env e ρ H (fun p H1 => Q [p] H1)) (he : starEach [e] env = (false, eval e env) :: starEach [] env := by rfl) : WLs g k env [e] ρ H Q :=
  WLs.cons (h.mono fun p H1 q => WLs.nil q) he
theorem WLs.two {e1 e2 : Expr} {Q : List PV → List Cell → Prop} (h : WE g k env e1 ρ H (fun p H1 => WE g k env e2 ρ H1 (fun q H2 => Q [p, q] H2)))
    (he : starEach [e1, e2] env = (false, eval e1 env) :: starEach [e2] env := by rfl) (he2 : starEach [e2] env = (false, eval e2 env) :: starEach [] env := by rfl) : WLs g k env [e1, e2] ρ H Q :=
  WLs.cons (h.mono fun p H1 q => WLs.one q he2) he

/-- x = e -/
theorem WS.asg (hE : FOk names env) {x : Str} {npos pos : Pos} {value : Expr} {Q : AF → Rho → List Cell → Prop} (h : WE g k env value ρ H (fun p H' => Q .next (putR x p ρ) H'))
    (hk : names.lookup x = some .local := by rfl) (hs : swapsWith value (some (.Name x npos)) pos.line env = pure false := by rfl) : WS g k (Wf env) env (.Assign [.Name x npos] value pos) ρ H Q :=
  WS.assignN h (hE.eok.loc x hk) (List.mem_cons_self ..) hs
theorem WA.nm (hE : FOk names env) {x : Str} {pos : Pos} {p : PV} {Q : Rho → List Cell → Prop} (h : Q (putR x p ρ) H) (hk : names.lookup x = some .local ∨ names.lookup x = some .cell := by first | exact .inl rfl | exact .inr rfl) : WA g k (Wf env) env (.Name x pos) p ρ H Q := by
  rcases hk with hk | hk
  · exact WA.name h (hE.eok.loc x hk) (List.mem_cons_self ..)
  · obtain ⟨h1, c, h2, h3⟩ := hE.cell x hk
    exact WA.cell h h1 h2 h3
/-- x = e, x a cell -/
theorem WS.asgC (hE : FOk names env) {x : Str} {npos pos : Pos} {value : Expr} {Q : AF → Rho → List Cell → Prop} (h : WE g k env value ρ H (fun p H' => Q .next (putR x p ρ) H'))
    (hk : names.lookup x = some .cell := by rfl) (hs : swapsWith value (some (.Name x npos)) pos.line env = pure false := by rfl) : WS g k (Wf env) env (.Assign [.Name x npos] value pos) ρ H Q :=
  WS.assign (h.mono fun p H' q => WA.nm hE q (.inr hk)) hs
theorem WS.aug' (hE : FOk names env) {x : Str} {npos pos : Pos} {op : Operator} {value : Expr} {p : PV} {Q : AF → Rho → List Cell → Prop} (e : ρ.lookup x = some p)
    (h : WE g k env value ρ H (fun q H1 => WO2 g k p q (inplaceOp op) H1 (fun r H2 => Q .next (putR x r ρ) H2))) (hk : names.lookup x = some .local := by rfl) : WS g k (Wf env) env (.AugAssign (.Name x npos) op value pos) ρ H Q :=
  WS.aug e h (hE.eok.loc x hk) (List.mem_cons_self ..)
theorem WA.weak {t : Expr} {p : PV} {ρ' : Rho} {Q : Rho → List Cell → Prop} (hs : Sub ρ' ρ) (h : WA g k W env t p ρ' H Q) : WA g k W env t p ρ H Q := fun A β s v a b c d => h A β s v a b (c.weak hs) d
theorem WAs.weak : ∀ {ts : List Expr} {ps : List PV} {ρ ρ' : Rho} {H : List Cell} {Q : Rho → List Cell → Prop}, Sub ρ' ρ → (∀ ρ1 ρ2 H, Sub ρ1 ρ2 → Q ρ1 H → Q ρ2 H) → WAs g k W env ts ps ρ' H Q → WAs g k W env ts ps ρ H Q
  | [], [], _, _, _, _, hs, hq, h => hq _ _ _ hs h
  | _ :: _, _ :: _, _, _, _, _, hs, _, h => WA.weak hs h
  | [], _ :: _, _, _, _, _, _, _, h => h.elim
  | _ :: _, [], _, _, _, _, _, _, h => h.elim
theorem Sub.refl (ρ : Rho) : Sub ρ ρ := fun _ _ e => e

/-- what holds up to names that nobody asks for -/
noncomputable def Up (J : Rho → List Cell → Prop) : Rho → List Cell → Prop := fun ρ H => ∃ ρ0, Sub ρ0 ρ ∧ J ρ0 H

theorem WS.forW {target iter : Expr} {body orelse : List Stmt} {pos : Pos} {Q : AF → Rho → List Cell → Prop} (J : List PV → Rho → List Cell → Prop)
    (hit : WE g k env iter ρ H (fun p H1 => Ex3 fun n c xs => And5 (p = .loc n) (H1[n]? = some c) (cellItems c = some xs) (xs.length ≤ 100000) (Up (J xs) ρ H1)))
    (turn : ∀ x rest ρ' H', J (x :: rest) ρ' H' → WA g k (Wf env) env target x ρ' H' (fun ρ2 H2 => WSS g k (Wf env) env body ρ2 H2 (loopQ (Up (J rest)) Q)))
    (fin : ∀ ρ' H', J [] ρ' H' → WSS g k (Wf env) env orelse ρ' H' Q)
    (hs : ∀ x, foldedSetIterable iter env x = pure x := by intro _; rfl) : WS g k (Wf env) env (.For target iter body orelse pos) ρ H Q :=
  WS.for_ (fun xs => Up (J xs)) hit (fun x rest ρ' H' ⟨_, hs, hj⟩ => WA.weak hs (turn x rest _ H' hj)) (fun ρ' H' ⟨_, hs, hj⟩ => WSS.weak hs (fin _ H' hj)) hs
theorem WS.forKW (G : Gd g) {target iter : Expr} {body orelse : List Stmt} {pos : Pos} {Q : AF → Rho → List Cell → Prop} (J : List PV → Rho → List Cell → Prop)
    (hit : WE g k env iter ρ H (fun p H1 => Ex2 fun t us => And3 (p = .raw (.ref t)) (KTup g t us) (Up (J (us.map pvOf)) ρ H1)))
    (turn : ∀ x rest ρ' H', J (x :: rest) ρ' H' → WA g k (Wf env) env target x ρ' H' (fun ρ2 H2 => WSS g k (Wf env) env body ρ2 H2 (loopQ (Up (J rest)) Q)))
    (fin : ∀ ρ' H', J [] ρ' H' → WSS g k (Wf env) env orelse ρ' H' Q)
    (hs : ∀ x, foldedSetIterable iter env x = pure x := by intro _; rfl) : WS g k (Wf env) env (.For target iter body orelse pos) ρ H Q :=
  WS.forK G (fun xs => Up (J xs)) hit (fun x rest ρ' H' ⟨_, hs, hj⟩ => WA.weak hs (turn x rest _ H' hj)) (fun ρ' H' ⟨_, hs, hj⟩ => WSS.weak hs (fin _ H' hj)) hs
theorem WS.forTW {elts : List Expr} {m : Nat} {tpos : Pos} {iter : Expr} {body orelse : List Stmt} {pos : Pos} {Q : AF → Rho → List Cell → Prop} (J : List (List PV) → Rho → List Cell → Prop)
    (hit : WItT g k env iter ρ H (fun xss H1 => Up (J xss) ρ H1))
    (turn : ∀ x rest ρ' H', J (x :: rest) ρ' H' → elts.length = x.length ∧ WAs g k (Wf env) env elts x ρ' H' (fun ρ2 H2 => WSS g k (Wf env) env body ρ2 H2 (loopQ (Up (J rest)) Q)))
    (fin : ∀ ρ' H', J [] ρ' H' → WSS g k (Wf env) env orelse ρ' H' Q)
    (he : assignEach elts env = elts.map (fun t => (false, PySem.assign t env)) := by rfl)
    (hs : ∀ x, foldedSetIterable iter env x = pure x := by intro _; rfl) : WS g k (Wf env) env (.For (.Tuple elts m tpos) iter body orelse pos) ρ H Q :=
  WS.forT (fun xs => Up (J xs)) hit (fun x rest ρ' H' ⟨_, hs, hj⟩ => let ⟨a, b⟩ := turn x rest _ H' hj; ⟨a, WAs.weak hs (fun _ _ _ hs h => WSS.weak hs h) b⟩) (fun ρ' H' ⟨_, hs, hj⟩ => WSS.weak hs (fin _ H' hj)) he hs
theorem WS.whileW {test : Expr} {body orelse : List Stmt} {pos : Pos} {Q : AF → Rho → List Cell → Prop} (J : Nat → Rho → List Cell → Prop) {m₀ : Nat} (h₀ : Up (J m₀) ρ H)
    (turn : ∀ m ρ' H', J m ρ' H' → WT g k env test ρ' H' (fun b H2 => if b then WSS g k W env body ρ' H2 (loopQ (Up (fun ρ3 H3 => ∃ m', m' < m ∧ J m' ρ3 H3)) Q) else WSS g k W env orelse ρ' H2 Q)) :
    WS g k W env (.While test body orelse pos) ρ H Q :=
  WS.while_ (fun m => Up (J m)) h₀ fun m ρ' H' ⟨ρ0, hs, hj⟩ A β s hA S F => wpAny_mono (turn m ρ0 H' hj A β s hA S (F.weak hs)) (fun b s2 ⟨β2, H2, T, q⟩ => ⟨β2, H2, T, by
    cases b with
    | true =>
      rw [if_pos rfl] at q ⊢
      refine WSS.weak hs (q.mono fun af ρ3 H3 q3 => ?_)
      cases af with
      | next => obtain ⟨ρ4, h4, m', hm, h5⟩ := q3; exact ⟨m', hm, ρ4, h4, h5⟩
      | cont => obtain ⟨ρ4, h4, m', hm, h5⟩ := q3; exact ⟨m', hm, ρ4, h4, h5⟩
      | brk => exact q3
      | ret p => exact q3
    | false => exact WSS.weak hs q⟩) fun _ _ x => x

theorem Up.mk {J : Rho → List Cell → Prop} {ρ0 : Rho} (h : J ρ0 H) (hs : SubL ρ0 ρ) : Up J ρ H := ⟨ρ0, hs.sub, h⟩
theorem LQ.next {J : Rho → List Cell → Prop} {Q : AF → Rho → List Cell → Prop} (h : J ρ H) : loopQ J Q .next ρ H := h
theorem LQ.cont {J : Rho → List Cell → Prop} {Q : AF → Rho → List Cell → Prop} (h : J ρ H) : loopQ J Q .cont ρ H := h
theorem LQ.brk {J : Rho → List Cell → Prop} {Q : AF → Rho → List Cell → Prop} (h : Q .next ρ H) : loopQ J Q .brk ρ H := h
theorem LQ.ret {J : Rho → List Cell → Prop} {Q : AF → Rho → List Cell → Prop} {p : PV} (h : Q (.ret p) ρ H) : loopQ J Q (.ret p) ρ H := h
theorem CS.next {rest : List Stmt} {Q : AF → Rho → List Cell → Prop} (h : WSS g k W env rest ρ H Q) : contS g k W env rest Q .next ρ H := h
theorem CS.brk {rest : List Stmt} {Q : AF → Rho → List Cell → Prop} (h : Q .brk ρ H) : contS g k W env rest Q .brk ρ H := h
theorem CS.cont {rest : List Stmt} {Q : AF → Rho → List Cell → Prop} (h : Q .cont ρ H) : contS g k W env rest Q .cont ρ H := h
theorem CS.ret {rest : List Stmt} {p : PV} {Q : AF → Rho → List Cell → Prop} (h : Q (.ret p) ρ H) : contS g k W env rest Q (.ret p) ρ H := h
theorem WS.ex {e : Expr} {pos : Pos} {Q : AF → Rho → List Cell → Prop} (h : WE g k env e ρ H (fun p H' => (∀ n, p ≠ .loc n) ∧ (∀ v, p ≠ .raw v) ∧ Q .next ρ H'))
    (hs : swapsWith e none pos.line env = pure false := by rfl) : WS g k W env (.Expr e pos) ρ H Q := fun A β s hA S F => WS.expr h (by unfold interactive; rw [F.fn]; rfl) hs A β s hA S F

/-- a call of one of the module's defs -/
theorem WC.def (G : Gd g) {f : Addr} {o : Obj} {fd : FuncData} {body : List Stmt} {xs : List Str} {ps : List PV} {Q : PV → List Cell → Prop}
    (hl : (KK g.w.params).lookup f = some o) (hd : o.data = .func fd) (hbody : fd.body = .stmts body) (hcode : codeIn (KK g.w.params) fd.code fd.qualname = true)
    (hbind : ∀ vs : List Value, vs.length = xs.length → bindArgs fd ⟨vs, []⟩ = pure (xs.zip vs)) (hlen : ps.length = xs.length) (hnd : xs.Nodup)
    (hclo : fd.closure = []) (hk : fd.scope.kind = .function) (hg : fd.globals = mainGlobals) (hb : fd.builtins = builtinsNs) (hco : fd.scope.isCoroutine = false) (hgen : fd.scope.isGenerator = false)
    (hp : (xs.all fun x => decide (fd.scope.names.lookup x = some .local) || decide (fd.scope.names.lookup x = some .cell)) = true) (hf : (fd.scope.names.all fun p => p.2 != .free) = true)
    (h : ∀ env, FOk fd.scope.names env → EOk fd.scope.names env → WSS g k (Wf env) env body (xs.zip ps) H (retQ Q)) : WC g (k + 1) (.ref f) ps H Q :=
  WC.fn G hl hd hbody hcode hbind hlen hnd hclo hk hg hb hco hgen hp fun env hE => h env (hE.fok hf) (hE.fok hf).eok
end
end Mine

namespace Mine

theorem all_gl (P : Params) : nsIn (KK P) mainGlobals ("S_IFMT" : Str) = some (some (.ref 28)) ∧ nsIn (KK P) mainGlobals ("filemode" : Str) = some (some (.ref 68)) ∧ nsIn (KK P) mainGlobals ("_plain_name" : Str) = some (some (.ref 75)) ∧ nsIn (KK P) mainGlobals ("fspath" : Str) = some (some (.ref 141)) ∧ nsIn (KK P) mainGlobals ("_kind" : Str) = some (some (.ref 148)) ∧ nsIn (KK P) mainGlobals ("_fspath" : Str) = some (some (.ref 155)) ∧ nsIn (KK P) mainGlobals ("splitext" : Str) = some (some (.ref 162)) ∧ nsIn (KK P) mainGlobals ("_c_path" : Str) = some (some (.ref 169)) ∧ nsIn (KK P) mainGlobals ("_shelf_fresh" : Str) = some (some (.ref 176)) ∧ nsIn (KK P) mainGlobals ("_splitroot" : Str) = some (some (.ref 183)) ∧ nsIn (KK P) mainGlobals ("basename" : Str) = some (some (.ref 190)) ∧ nsIn (KK P) mainGlobals ("_normpath" : Str) = some (some (.ref 197)) ∧ nsIn (KK P) mainGlobals ("normpath_path" : Str) = some (some (.ref 204)) ∧ nsIn (KK P) mainGlobals ("_modname" : Str) = some (some (.ref 238)) ∧ nsIn (KK P) mainGlobals ("_check_arg_types" : Str) = some (some (.ref 245)) ∧ nsIn (KK P) mainGlobals ("_get_sep" : Str) = some (some (.ref 252)) ∧ nsIn (KK P) mainGlobals ("join" : Str) = some (some (.ref 259)) ∧ nsIn (KK P) mainGlobals ("splitroot" : Str) = some (some (.ref 266)) ∧ nsIn (KK P) mainGlobals ("normpath" : Str) = some (some (.ref 273)) ∧ nsIn (KK P) mainGlobals ("normpath_posixpath" : Str) = some (some (.ref 273)) ∧ nsIn (KK P) mainGlobals ("commonpath" : Str) = some (some (.ref 278)) ∧ nsIn (KK P) mainGlobals ("_law_way" : Str) = some (some (.ref 285)) ∧ nsIn (KK P) mainGlobals ("_law_world" : Str) = some (some (.ref 290)) ∧ nsIn (KK P) mainGlobals ("_law_listing" : Str) = some (some (.ref 297)) ∧ nsIn (KK P) mainGlobals ("_law_first_bar" : Str) = some (some (.ref 304)) ∧ nsIn (KK P) mainGlobals ("_law_barred" : Str) = some (some (.ref 311)) ∧ nsIn (KK P) mainGlobals ("_law_shared" : Str) = some (some (.ref 318)) ∧ nsIn (KK P) mainGlobals ("_law_tops" : Str) = some (some (.ref 325)) ∧ nsIn (KK P) mainGlobals ("_Ignore" : Str) = some (some (.ref 227)) ∧ nsIn (KK P) mainGlobals ("_filemode_table" : Str) = some (some (.ref 61)) := ⟨by kernel_rfl, by kernel_rfl, by kernel_rfl, by kernel_rfl, by kernel_rfl, by kernel_rfl, by kernel_rfl, by kernel_rfl, by kernel_rfl, by kernel_rfl, by kernel_rfl, by kernel_rfl, by kernel_rfl, by kernel_rfl, by kernel_rfl, by kernel_rfl, by kernel_rfl, by kernel_rfl, by kernel_rfl, by kernel_rfl, by kernel_rfl, by kernel_rfl, by kernel_rfl, by kernel_rfl, by kernel_rfl, by kernel_rfl, by kernel_rfl, by kernel_rfl, by kernel_rfl, by kernel_rfl⟩
theorem gl_S_IFMT (P : Params) : nsIn (KK P) mainGlobals ("S_IFMT" : Str) = some (some (.ref 28)) := (all_gl P).1
theorem gl_filemode (P : Params) : nsIn (KK P) mainGlobals ("filemode" : Str) = some (some (.ref 68)) := (all_gl P).2.1
theorem gl__plain_name (P : Params) : nsIn (KK P) mainGlobals ("_plain_name" : Str) = some (some (.ref 75)) := (all_gl P).2.2.1
theorem gl_fspath (P : Params) : nsIn (KK P) mainGlobals ("fspath" : Str) = some (some (.ref 141)) := (all_gl P).2.2.2.1
theorem gl__kind (P : Params) : nsIn (KK P) mainGlobals ("_kind" : Str) = some (some (.ref 148)) := (all_gl P).2.2.2.2.1
theorem gl__fspath (P : Params) : nsIn (KK P) mainGlobals ("_fspath" : Str) = some (some (.ref 155)) := (all_gl P).2.2.2.2.2.1
theorem gl_splitext (P : Params) : nsIn (KK P) mainGlobals ("splitext" : Str) = some (some (.ref 162)) := (all_gl P).2.2.2.2.2.2.1
theorem gl__c_path (P : Params) : nsIn (KK P) mainGlobals ("_c_path" : Str) = some (some (.ref 169)) := (all_gl P).2.2.2.2.2.2.2.1
theorem gl__shelf_fresh (P : Params) : nsIn (KK P) mainGlobals ("_shelf_fresh" : Str) = some (some (.ref 176)) := (all_gl P).2.2.2.2.2.2.2.2.1
theorem gl__splitroot (P : Params) : nsIn (KK P) mainGlobals ("_splitroot" : Str) = some (some (.ref 183)) := (all_gl P).2.2.2.2.2.2.2.2.2.1
theorem gl_basename (P : Params) : nsIn (KK P) mainGlobals ("basename" : Str) = some (some (.ref 190)) := (all_gl P).2.2.2.2.2.2.2.2.2.2.1
theorem gl__normpath (P : Params) : nsIn (KK P) mainGlobals ("_normpath" : Str) = some (some (.ref 197)) := (all_gl P).2.2.2.2.2.2.2.2.2.2.2.1
theorem gl_normpath_path (P : Params) : nsIn (KK P) mainGlobals ("normpath_path" : Str) = some (some (.ref 204)) := (all_gl P).2.2.2.2.2.2.2.2.2.2.2.2.1
theorem gl__modname (P : Params) : nsIn (KK P) mainGlobals ("_modname" : Str) = some (some (.ref 238)) := (all_gl P).2.2.2.2.2.2.2.2.2.2.2.2.2.1
theorem gl__check_arg_types (P : Params) : nsIn (KK P) mainGlobals ("_check_arg_types" : Str) = some (some (.ref 245)) := (all_gl P).2.2.2.2.2.2.2.2.2.2.2.2.2.2.1
theorem gl__get_sep (P : Params) : nsIn (KK P) mainGlobals ("_get_sep" : Str) = some (some (.ref 252)) := (all_gl P).2.2.2.2.2.2.2.2.2.2.2.2.2.2.2.1
theorem gl_join (P : Params) : nsIn (KK P) mainGlobals ("join" : Str) = some (some (.ref 259)) := (all_gl P).2.2.2.2.2.2.2.2.2.2.2.2.2.2.2.2.1
theorem gl_splitroot (P : Params) : nsIn (KK P) mainGlobals ("splitroot" : Str) = some (some (.ref 266)) := (all_gl P).2.2.2.2.2.2.2.2.2.2.2.2.2.2.2.2.2.1
theorem gl_normpath (P : Params) : nsIn (KK P) mainGlobals ("normpath" : Str) = some (some (.ref 273)) := (all_gl P).2.2.2.2.2.2.2.2.2.2.2.2.2.2.2.2.2.2.1
theorem gl_normpath_posixpath (P : Params) : nsIn (KK P) mainGlobals ("normpath_posixpath" : Str) = some (some (.ref 273)) := (all_gl P).2.2.2.2.2.2.2.2.2.2.2.2.2.2.2.2.2.2.2.1
theorem gl_commonpath (P : Params) : nsIn (KK P) mainGlobals ("commonpath" : Str) = some (some (.ref 278)) := (all_gl P).2.2.2.2.2.2.2.2.2.2.2.2.2.2.2.2.2.2.2.2.1
theorem gl__law_way (P : Params) : nsIn (KK P) mainGlobals ("_law_way" : Str) = some (some (.ref 285)) := (all_gl P).2.2.2.2.2.2.2.2.2.2.2.2.2.2.2.2.2.2.2.2.2.1
theorem gl__law_world (P : Params) : nsIn (KK P) mainGlobals ("_law_world" : Str) = some (some (.ref 290)) := (all_gl P).2.2.2.2.2.2.2.2.2.2.2.2.2.2.2.2.2.2.2.2.2.2.1
theorem gl__law_listing (P : Params) : nsIn (KK P) mainGlobals ("_law_listing" : Str) = some (some (.ref 297)) := (all_gl P).2.2.2.2.2.2.2.2.2.2.2.2.2.2.2.2.2.2.2.2.2.2.2.1
theorem gl__law_first_bar (P : Params) : nsIn (KK P) mainGlobals ("_law_first_bar" : Str) = some (some (.ref 304)) := (all_gl P).2.2.2.2.2.2.2.2.2.2.2.2.2.2.2.2.2.2.2.2.2.2.2.2.1
theorem gl__law_barred (P : Params) : nsIn (KK P) mainGlobals ("_law_barred" : Str) = some (some (.ref 311)) := (all_gl P).2.2.2.2.2.2.2.2.2.2.2.2.2.2.2.2.2.2.2.2.2.2.2.2.2.1
theorem gl__law_shared (P : Params) : nsIn (KK P) mainGlobals ("_law_shared" : Str) = some (some (.ref 318)) := (all_gl P).2.2.2.2.2.2.2.2.2.2.2.2.2.2.2.2.2.2.2.2.2.2.2.2.2.2.1
theorem gl__law_tops (P : Params) : nsIn (KK P) mainGlobals ("_law_tops" : Str) = some (some (.ref 325)) := (all_gl P).2.2.2.2.2.2.2.2.2.2.2.2.2.2.2.2.2.2.2.2.2.2.2.2.2.2.2.1
theorem gl__Ignore (P : Params) : nsIn (KK P) mainGlobals ("_Ignore" : Str) = some (some (.ref 227)) := (all_gl P).2.2.2.2.2.2.2.2.2.2.2.2.2.2.2.2.2.2.2.2.2.2.2.2.2.2.2.2.1
theorem gl__filemode_table (P : Params) : nsIn (KK P) mainGlobals ("_filemode_table" : Str) = some (some (.ref 61)) := (all_gl P).2.2.2.2.2.2.2.2.2.2.2.2.2.2.2.2.2.2.2.2.2.2.2.2.2.2.2.2.2
theorem all_kp (P : Params) : keepIn (KK P) (.ref 28) = true ∧ keepIn (KK P) (.ref 68) = true ∧ keepIn (KK P) (.ref 75) = true ∧ keepIn (KK P) (.ref 141) = true ∧ keepIn (KK P) (.ref 148) = true ∧ keepIn (KK P) (.ref 155) = true ∧ keepIn (KK P) (.ref 162) = true ∧ keepIn (KK P) (.ref 169) = true ∧ keepIn (KK P) (.ref 176) = true ∧ keepIn (KK P) (.ref 183) = true ∧ keepIn (KK P) (.ref 190) = true ∧ keepIn (KK P) (.ref 197) = true ∧ keepIn (KK P) (.ref 204) = true ∧ keepIn (KK P) (.ref 238) = true ∧ keepIn (KK P) (.ref 245) = true ∧ keepIn (KK P) (.ref 252) = true ∧ keepIn (KK P) (.ref 259) = true ∧ keepIn (KK P) (.ref 266) = true ∧ keepIn (KK P) (.ref 273) = true ∧ keepIn (KK P) (.ref 278) = true ∧ keepIn (KK P) (.ref 285) = true ∧ keepIn (KK P) (.ref 290) = true ∧ keepIn (KK P) (.ref 297) = true ∧ keepIn (KK P) (.ref 304) = true ∧ keepIn (KK P) (.ref 311) = true ∧ keepIn (KK P) (.ref 318) = true ∧ keepIn (KK P) (.ref 325) = true ∧ keepIn (KK P) (.ref 227) = true := ⟨by kernel_rfl, by kernel_rfl, by kernel_rfl, by kernel_rfl, by kernel_rfl, by kernel_rfl, by kernel_rfl, by kernel_rfl, by kernel_rfl, by kernel_rfl, by kernel_rfl, by kernel_rfl, by kernel_rfl, by kernel_rfl, by kernel_rfl, by kernel_rfl, by kernel_rfl, by kernel_rfl, by kernel_rfl, by kernel_rfl, by kernel_rfl, by kernel_rfl, by kernel_rfl, by kernel_rfl, by kernel_rfl, by kernel_rfl, by kernel_rfl, by kernel_rfl⟩
theorem kp_28 (P : Params) : keepIn (KK P) (.ref 28) = true := (all_kp P).1
theorem kp_68 (P : Params) : keepIn (KK P) (.ref 68) = true := (all_kp P).2.1
theorem kp_75 (P : Params) : keepIn (KK P) (.ref 75) = true := (all_kp P).2.2.1
theorem kp_141 (P : Params) : keepIn (KK P) (.ref 141) = true := (all_kp P).2.2.2.1
theorem kp_148 (P : Params) : keepIn (KK P) (.ref 148) = true := (all_kp P).2.2.2.2.1
theorem kp_155 (P : Params) : keepIn (KK P) (.ref 155) = true := (all_kp P).2.2.2.2.2.1
theorem kp_162 (P : Params) : keepIn (KK P) (.ref 162) = true := (all_kp P).2.2.2.2.2.2.1
theorem kp_169 (P : Params) : keepIn (KK P) (.ref 169) = true := (all_kp P).2.2.2.2.2.2.2.1
theorem kp_176 (P : Params) : keepIn (KK P) (.ref 176) = true := (all_kp P).2.2.2.2.2.2.2.2.1
theorem kp_183 (P : Params) : keepIn (KK P) (.ref 183) = true := (all_kp P).2.2.2.2.2.2.2.2.2.1
theorem kp_190 (P : Params) : keepIn (KK P) (.ref 190) = true := (all_kp P).2.2.2.2.2.2.2.2.2.2.1
theorem kp_197 (P : Params) : keepIn (KK P) (.ref 197) = true := (all_kp P).2.2.2.2.2.2.2.2.2.2.2.1
theorem kp_204 (P : Params) : keepIn (KK P) (.ref 204) = true := (all_kp P).2.2.2.2.2.2.2.2.2.2.2.2.1
theorem kp_238 (P : Params) : keepIn (KK P) (.ref 238) = true := (all_kp P).2.2.2.2.2.2.2.2.2.2.2.2.2.1
theorem kp_245 (P : Params) : keepIn (KK P) (.ref 245) = true := (all_kp P).2.2.2.2.2.2.2.2.2.2.2.2.2.2.1
theorem kp_252 (P : Params) : keepIn (KK P) (.ref 252) = true := (all_kp P).2.2.2.2.2.2.2.2.2.2.2.2.2.2.2.1
theorem kp_259 (P : Params) : keepIn (KK P) (.ref 259) = true := (all_kp P).2.2.2.2.2.2.2.2.2.2.2.2.2.2.2.2.1
theorem kp_266 (P : Params) : keepIn (KK P) (.ref 266) = true := (all_kp P).2.2.2.2.2.2.2.2.2.2.2.2.2.2.2.2.2.1
theorem kp_273 (P : Params) : keepIn (KK P) (.ref 273) = true := (all_kp P).2.2.2.2.2.2.2.2.2.2.2.2.2.2.2.2.2.2.1
theorem kp_278 (P : Params) : keepIn (KK P) (.ref 278) = true := (all_kp P).2.2.2.2.2.2.2.2.2.2.2.2.2.2.2.2.2.2.2.1
theorem kp_285 (P : Params) : keepIn (KK P) (.ref 285) = true := (all_kp P).2.2.2.2.2.2.2.2.2.2.2.2.2.2.2.2.2.2.2.2.1
theorem kp_290 (P : Params) : keepIn (KK P) (.ref 290) = true := (all_kp P).2.2.2.2.2.2.2.2.2.2.2.2.2.2.2.2.2.2.2.2.2.1
theorem kp_297 (P : Params) : keepIn (KK P) (.ref 297) = true := (all_kp P).2.2.2.2.2.2.2.2.2.2.2.2.2.2.2.2.2.2.2.2.2.2.1
theorem kp_304 (P : Params) : keepIn (KK P) (.ref 304) = true := (all_kp P).2.2.2.2.2.2.2.2.2.2.2.2.2.2.2.2.2.2.2.2.2.2.2.1
theorem kp_311 (P : Params) : keepIn (KK P) (.ref 311) = true := (all_kp P).2.2.2.2.2.2.2.2.2.2.2.2.2.2.2.2.2.2.2.2.2.2.2.2.1
theorem kp_318 (P : Params) : keepIn (KK P) (.ref 318) = true := (all_kp P).2.2.2.2.2.2.2.2.2.2.2.2.2.2.2.2.2.2.2.2.2.2.2.2.2.1
theorem kp_325 (P : Params) : keepIn (KK P) (.ref 325) = true := (all_kp P).2.2.2.2.2.2.2.2.2.2.2.2.2.2.2.2.2.2.2.2.2.2.2.2.2.2.1
theorem kp_227 (P : Params) : keepIn (KK P) (.ref 227) = true := (all_kp P).2.2.2.2.2.2.2.2.2.2.2.2.2.2.2.2.2.2.2.2.2.2.2.2.2.2.2
theorem all_gn (P : Params) : nsIn (KK P) mainGlobals ("enumerate" : Str) = some none ∧ nsIn (KK P) mainGlobals ("type" : Str) = some none ∧ nsIn (KK P) mainGlobals ("str" : Str) = some none ∧ nsIn (KK P) mainGlobals ("bytes" : Str) = some none ∧ nsIn (KK P) mainGlobals ("range" : Str) = some none ∧ nsIn (KK P) mainGlobals ("zip" : Str) = some none ∧ nsIn (KK P) mainGlobals ("tuple" : Str) = some none ∧ nsIn (KK P) mainGlobals ("map" : Str) = some none ∧ nsIn (KK P) mainGlobals ("set" : Str) = some none ∧ nsIn (KK P) mainGlobals ("issubclass" : Str) = some none ∧ nsIn (KK P) mainGlobals ("len" : Str) = some none ∧ nsIn (KK P) mainGlobals ("abs" : Str) = some none ∧ nsIn (KK P) mainGlobals ("isinstance" : Str) = some none ∧ nsIn (KK P) mainGlobals ("min" : Str) = some none ∧ nsIn (KK P) mainGlobals ("max" : Str) = some none ∧ nsIn (KK P) mainGlobals ("repr" : Str) = some none := ⟨by kernel_rfl, by kernel_rfl, by kernel_rfl, by kernel_rfl, by kernel_rfl, by kernel_rfl, by kernel_rfl, by kernel_rfl, by kernel_rfl, by kernel_rfl, by kernel_rfl, by kernel_rfl, by kernel_rfl, by kernel_rfl, by kernel_rfl, by kernel_rfl⟩
theorem gn_enumerate (P : Params) : nsIn (KK P) mainGlobals ("enumerate" : Str) = some none := (all_gn P).1
theorem gn_type (P : Params) : nsIn (KK P) mainGlobals ("type" : Str) = some none := (all_gn P).2.1
theorem gn_str (P : Params) : nsIn (KK P) mainGlobals ("str" : Str) = some none := (all_gn P).2.2.1
theorem gn_bytes (P : Params) : nsIn (KK P) mainGlobals ("bytes" : Str) = some none := (all_gn P).2.2.2.1
theorem gn_range (P : Params) : nsIn (KK P) mainGlobals ("range" : Str) = some none := (all_gn P).2.2.2.2.1
theorem gn_zip (P : Params) : nsIn (KK P) mainGlobals ("zip" : Str) = some none := (all_gn P).2.2.2.2.2.1
theorem gn_tuple (P : Params) : nsIn (KK P) mainGlobals ("tuple" : Str) = some none := (all_gn P).2.2.2.2.2.2.1
theorem gn_map (P : Params) : nsIn (KK P) mainGlobals ("map" : Str) = some none := (all_gn P).2.2.2.2.2.2.2.1
theorem gn_set (P : Params) : nsIn (KK P) mainGlobals ("set" : Str) = some none := (all_gn P).2.2.2.2.2.2.2.2.1
theorem gn_issubclass (P : Params) : nsIn (KK P) mainGlobals ("issubclass" : Str) = some none := (all_gn P).2.2.2.2.2.2.2.2.2.1
theorem gn_len (P : Params) : nsIn (KK P) mainGlobals ("len" : Str) = some none := (all_gn P).2.2.2.2.2.2.2.2.2.2.1
theorem gn_abs (P : Params) : nsIn (KK P) mainGlobals ("abs" : Str) = some none := (all_gn P).2.2.2.2.2.2.2.2.2.2.2.1
theorem gn_isinstance (P : Params) : nsIn (KK P) mainGlobals ("isinstance" : Str) = some none := (all_gn P).2.2.2.2.2.2.2.2.2.2.2.2.1
theorem gn_min (P : Params) : nsIn (KK P) mainGlobals ("min" : Str) = some none := (all_gn P).2.2.2.2.2.2.2.2.2.2.2.2.2.1
theorem gn_max (P : Params) : nsIn (KK P) mainGlobals ("max" : Str) = some none := (all_gn P).2.2.2.2.2.2.2.2.2.2.2.2.2.2.1
theorem gn_repr (P : Params) : nsIn (KK P) mainGlobals ("repr" : Str) = some none := (all_gn P).2.2.2.2.2.2.2.2.2.2.2.2.2.2.2
theorem all_bb : bootBuiltins ("enumerate" : Str) = some (.type "enumerate") ∧ bootBuiltins ("type" : Str) = some (.type "type") ∧ bootBuiltins ("str" : Str) = some (.type "str") ∧ bootBuiltins ("bytes" : Str) = some (.type "bytes") ∧ bootBuiltins ("range" : Str) = some (.type "range") ∧ bootBuiltins ("zip" : Str) = some (.type "zip") ∧ bootBuiltins ("tuple" : Str) = some (.type "tuple") ∧ bootBuiltins ("map" : Str) = some (.type "map") ∧ bootBuiltins ("set" : Str) = some (.type "set") ∧ bootBuiltins ("issubclass" : Str) = some (.builtin "issubclass") ∧ bootBuiltins ("len" : Str) = some (.builtin "len") ∧ bootBuiltins ("abs" : Str) = some (.builtin "abs") ∧ bootBuiltins ("isinstance" : Str) = some (.builtin "isinstance") ∧ bootBuiltins ("min" : Str) = some (.builtin "min") ∧ bootBuiltins ("max" : Str) = some (.builtin "max") ∧ bootBuiltins ("repr" : Str) = some (.builtin "repr") := ⟨by kernel_rfl, by kernel_rfl, by kernel_rfl, by kernel_rfl, by kernel_rfl, by kernel_rfl, by kernel_rfl, by kernel_rfl, by kernel_rfl, by kernel_rfl, by kernel_rfl, by kernel_rfl, by kernel_rfl, by kernel_rfl, by kernel_rfl, by kernel_rfl⟩
theorem bb_enumerate : bootBuiltins ("enumerate" : Str) = some (.type "enumerate") := (all_bb).1
theorem bb_type : bootBuiltins ("type" : Str) = some (.type "type") := (all_bb).2.1
theorem bb_str : bootBuiltins ("str" : Str) = some (.type "str") := (all_bb).2.2.1
theorem bb_bytes : bootBuiltins ("bytes" : Str) = some (.type "bytes") := (all_bb).2.2.2.1
theorem bb_range : bootBuiltins ("range" : Str) = some (.type "range") := (all_bb).2.2.2.2.1
theorem bb_zip : bootBuiltins ("zip" : Str) = some (.type "zip") := (all_bb).2.2.2.2.2.1
theorem bb_tuple : bootBuiltins ("tuple" : Str) = some (.type "tuple") := (all_bb).2.2.2.2.2.2.1
theorem bb_map : bootBuiltins ("map" : Str) = some (.type "map") := (all_bb).2.2.2.2.2.2.2.1
theorem bb_set : bootBuiltins ("set" : Str) = some (.type "set") := (all_bb).2.2.2.2.2.2.2.2.1
theorem bb_issubclass : bootBuiltins ("issubclass" : Str) = some (.builtin "issubclass") := (all_bb).2.2.2.2.2.2.2.2.2.1
theorem bb_len : bootBuiltins ("len" : Str) = some (.builtin "len") := (all_bb).2.2.2.2.2.2.2.2.2.2.1
theorem bb_abs : bootBuiltins ("abs" : Str) = some (.builtin "abs") := (all_bb).2.2.2.2.2.2.2.2.2.2.2.1
theorem bb_isinstance : bootBuiltins ("isinstance" : Str) = some (.builtin "isinstance") := (all_bb).2.2.2.2.2.2.2.2.2.2.2.2.1
theorem bb_min : bootBuiltins ("min" : Str) = some (.builtin "min") := (all_bb).2.2.2.2.2.2.2.2.2.2.2.2.2.1
theorem bb_max : bootBuiltins ("max" : Str) = some (.builtin "max") := (all_bb).2.2.2.2.2.2.2.2.2.2.2.2.2.2.1
theorem bb_repr : bootBuiltins ("repr" : Str) = some (.builtin "repr") := (all_bb).2.2.2.2.2.2.2.2.2.2.2.2.2.2.2
end Mine

namespace Mine

theorem kind_issub_nested : builtinKind "issubclass.nested" = none := by unfold builtinKind; rw [S.findZ_eq]; decide +kernel
theorem plain_issub_nested : plainId "issubclass.nested" = true := by decide +kernel
theorem args_issub_nested (a b c : Value) : argsOk "issubclass.nested" ⟨[a, b, c], []⟩ := by unfold argsOk; rw [S.signatureZ_eq]; kernel_rfl
theorem sub_str_str : isSubtype (.type "str") (.type "str") = pure true := by rw [isSubtype_type]; kernel_rfl

section
variable {prog : Program} {w : World} {A : Around} {E : Value → Shared → Prop} {s : Shared}

theorem code_function_meets {id : String} {B : Builtin} {args : List Value} {S : PySem.Spec} {R : Result → Shared → Prop} (kind : builtinKind id = none) (plain : plainId id = true)
    (entry : entryFor table id = some B) (ok : argsOk id ⟨args, []⟩) (g : Meets (B ⟨args, []⟩) S) (h : S A R s) : codeAny (model prog w) A (.call (.builtin id) ⟨args, []⟩) R s := by
  refine codeAny_call_builtin plain entry ?_
  have hfin := g prog w A R s h
  simp only [checkBuiltinCall, kind]
  cases hsig : Manifest.signature? id with
  | none => exact wpAny_pure hfin
  | some sig =>
    simp only [argsOk, hsig] at ok
    have h2 : Bind.checkArgs id sig ⟨args, []⟩ = pure () := ok
    show wpAny _ _ (Bind.checkArgs id sig ⟨args, []⟩) _ _ s
    rw [h2]; exact wpAny_pure hfin

theorem issub_nested_str {dep : Int} {tk : Tok} : Meets (Builtin.«issubclass.nested» ⟨[.type "str", .type "str", .int dep tk], []⟩) (fun _ R s => R (.ok (.ret (.bool true))) s) :=
  .of_wp fun prog w A R s h => by
    have hself := sub_str_str
    have hm : typeOf (.type "str") = pure (.type "type") := by first | rfl | kernel_rfl
    repeat (any_goals (first | assumption | (rw [hm]) | (rw [hself]) | wp_step))
    exact ⟨_, rfl, h⟩

theorem issub_nested_tuple {tp : Addr} {n : Nat} {dct : Option Addr} {sl : Array (Option Value)} {tk : Tok} {Q : Fin → Shared → Prop}
    (htp : s.heap.get? tp = some { cls := .type "tuple", dict := dct, data := .seq [Value.type "str", .type "bytes"].toArray n, slots := sl })
    (hq : Q (.done (.ret (.bool true))) s) : wpAny (model prog w) A (Builtin.«issubclass.nested» ⟨[.type "str", .ref tp, .int 0 tk], []⟩) Q E s := by
  obtain ⟨h, g, d, t, os⟩ := s
  have hT2 : (⟨h, g, d, t, os⟩ : Shared).TypeIs (.ref tp) "tuple" := ⟨_, htp, rfl⟩
  have f1 := F.isi_sub_tuple
  repeat (any_goals (first | assumption | wp_step))
  show codeAny (model prog w) A (.call (.builtin "issubclass.nested") ⟨[.type "str", .type "str", .int 1 0], []⟩) _ _
  refine code_function_meets kind_issub_nested plain_issub_nested F.entry_issubclass_nested (args_issub_nested _ _ _) (issub_nested_str (dep := 1) (tk := 0)) ?_
  show wpAny _ _ (truthy (.bool true) >>= _) _ _ _
  refine wpAny_bind (m := truthy (.bool true)) (wpAny_pure ?_)
  exact wpAny_bind (wpAny_pure (wpAny_pure (wpAny_pure (wpAny_pure hq))))

theorem call_issub_str {tp : Addr} {vs : List Value} {Q : Value → Shared → Prop} (ht : s.heap.IsTuple tp vs.toArray) (hv : vs = [.type "str", .type "bytes"]) (hq : Q (.bool true) s) :
    wpAny (model prog w) A (call (.builtin "issubclass") [.type "str", .ref tp]) Q E s := by
  subst hv
  obtain ⟨⟨c, dct, dt, sl⟩, hl, hc, n, hd⟩ := ht
  replace hc : c = .type "tuple" := hc
  replace hd : dt = .seq _ n := hd
  subst hc hd
  exact call_issubclass (S := fun _ R s => s.heap.get? tp = some { cls := .type "tuple", dict := dct, data := .seq [Value.type "str", .type "bytes"].toArray n, slots := sl } ∧ R (.ok (.ret (.bool true))) s)
    (fun _ _ _ _ _ h => issubclass_outer (issub_nested_tuple h.1 h.2)) ⟨hl, hq⟩
end
end Mine

namespace Mine

section
variable {g : Cfg} {k : Nat} {W β β' : List Addr} {env : Env} {ρ : Rho} {H H' : List Cell} {s s' : Shared} {names : List (Str × NameKind)}

theorem vls3 {β : List Addr} {p q r : PV} {vs : List Value} (h : Vls β [p, q, r] vs) : ∃ v u w, vs = [v, u, w] ∧ Vl β p v ∧ Vl β q u ∧ Vl β r w := by
  cases vs with
  | nil => exact h.elim
  | cons v r =>
  obtain ⟨u, w, rfl, b, c⟩ := vls2 h.2
  exact ⟨v, u, w, rfl, h.1, b, c⟩

theorem RQ {rest : List Stmt} {p : PV} {Q : PV → List Cell → Prop} (h : Q p H) : contS g k W env rest (retQ Q) (.ret p) ρ H := h
theorem WPt.no {Q : Option Int → List Cell → Prop} (h : Q none H) : WPt g k env none ρ H Q := h
theorem WPt.so {e : Expr} {Q : Option Int → List Cell → Prop} (h : WE g k env e ρ H (fun p H1 => ∃ i, p = .int i ∧ Q (some i) H1)) : WPt g k env (some e) ρ H Q := h
theorem WC.typeS {x : Str} {Q : PV → List Cell → Prop} (h : Q (.raw (.type "str")) H) : WC g k (.type "type") [.str x] H Q := by
  intro A β s vs hA S V
  obtain ⟨v, rfl, ⟨t, rfl⟩⟩ := vls1 V
  exact call_type_of (typeIs_str _ _ _) (by decide) (PE.here (pv := .raw (.type "str")) S rfl h)
theorem WC.issubS {n : Nat} {Q : PV → List Cell → Prop} (e : H[n]? = some (.tup [.raw (.type "str"), .raw (.type "bytes")])) (h : Q (.bool true) H) : WC g k (.builtin "issubclass") [.raw (.type "str"), .loc n] H Q := by
  intro A β s vs hA S V
  obtain ⟨v, u, rfl, hv, ⟨a, ea, rfl⟩⟩ := vls2 V
  obtain rfl := hv
  obtain ⟨ws, ht, r⟩ := S.at e ea
  obtain ⟨x, y, rfl, hx, hy⟩ := vls2 r
  obtain rfl := hx
  obtain rfl := hy
  exact call_issub_str ht rfl (PE.here (pv := .bool true) S rfl h)
theorem WC.isiBytes {x : Str} {Q : PV → List Cell → Prop} (h : Q (.bool false) H) : WC g k (.builtin "isinstance") [.str x, .raw (.type "bytes")] H Q := by
  intro A β s vs hA S V
  obtain ⟨v, u, rfl, ⟨t, rfl⟩, hu⟩ := vls2 V
  obtain rfl := hu
  exact IsiPair.str_bytes (PE.tok (pv := .bool false) S rfl h)

theorem WO2.isType {a b : String} {Q : PV → List Cell → Prop} (h : Q (.bool (Value.type a == Value.type b)) H) : WO2 g k (.raw (.type a)) (.raw (.type b)) (compareOp .Is) H Q := by
  rintro A β s va vb hA S rfl rfl
  show wpAny _ A (do return Value.bool (← isSame (.type a) (.type b))) _ _ s
  exact wpAny_bind (wpAny_pure (wpAny_pure (PE.here (pv := .bool (Value.type a == Value.type b)) S rfl h)))

/-- a or b -/
theorem WE.or2 {e1 e2 : Expr} {pos : Pos} {Q : PV → List Cell → Prop} (h : WE g k env e1 ρ H (fun p H1 => WT1 g k p H1 (fun c H2 => if c then Q p H2 else WE g k env e2 ρ H2 Q))) : WE g k env (.BoolOp .Or [e1, e2] pos) ρ H Q := by
  intro A β s hA S F
  refine PyProof.Rows.BoolOp_or (wpAny_mono (h A β s hA S F) (fun v s1 h1 => ?_) fun _ _ x => x)
  obtain ⟨β1, H1, p, T1, V1, h1⟩ := h1
  refine wpAny_mono (h1 A β1 s1 v hA T1.sim V1) (fun c s2 h2 => ?_) fun _ _ x => x
  obtain ⟨β2, H2, T2, q⟩ := h2
  have T12 := T1.trans T2 S
  cases c with
  | true => exact ⟨β2, H2, p, T12, V1.pre T2.pre, q⟩
  | false => exact PyProof.Rows.BoolOp_one (wpAny_mono (q A β2 s2 hA T2.sim (F.step T12)) (fun v s3 h3 => h3.after S T12) fun _ _ x => x)

/-- try .. except, when nothing is raised -/
theorem WS.try_ {body orelse : List Stmt} {h₀ : ExceptHandler} {hs : List ExceptHandler} {pos : Pos} {Q : AF → Rho → List Cell → Prop} (h : WSS g k W env body ρ H (fun af ρ' H' => match af with | .next => WSS g k W env orelse ρ' H' Q | af => Q af ρ' H')) :
    WS g k W env (.Try body (h₀ :: hs) orelse [] pos) ρ H Q := by
  intro A β s hA S F
  refine wpAny_Try_except (wpAny_mono (h A β s hA S F) (fun f s1 h1 => ?_) fun _ _ x => x.elim)
  obtain ⟨β1, H1, ρ1, af, T1, F1, R1, q⟩ := h1
  cases af with
  | next => obtain rfl := R1; exact wpAny_mono (q A β1 s1 hA T1.sim F1) (fun f s2 h2 => h2.after S T1) fun _ _ x => x
  | brk => obtain rfl := R1; exact ⟨β1, H1, ρ1, .brk, T1, F1, rfl, q⟩
  | cont => obtain rfl := R1; exact ⟨β1, H1, ρ1, .cont, T1, F1, rfl, q⟩
  | ret p => obtain ⟨v, rfl, hv⟩ := R1; exact ⟨β1, H1, ρ1, .ret p, T1, F1, ⟨v, rfl, hv⟩, q⟩

/-- a call of one of the module's defs, whatever its binding makes -/
theorem WC.fnV (G : Gd g) {f : Addr} {o : Obj} {fd : FuncData} {body : List Stmt} {ps : List PV} {ρ₀ : Rho} {H₁ : List Cell} {Q : PV → List Cell → Prop}
    (hl : (KK g.w.params).lookup f = some o) (hd : o.data = .func fd) (hbody : fd.body = .stmts body) (hcode : codeIn (KK g.w.params) fd.code fd.qualname = true)
    (hbind : ∀ A β s vs, Rm 0 A → SimG g β H s → Vls β ps vs → wpAny g.M A (bindArgs fd ⟨vs, []⟩) (fun bs s' => ∃ β', StepG g [] β H s β' H₁ s' ∧ Binds β' ρ₀ bs) noE s) (hnd : (ρ₀.map (·.1)).Nodup)
    (hclo : fd.closure = []) (hk : fd.scope.kind = .function) (hg : fd.globals = mainGlobals) (hb : fd.builtins = builtinsNs) (hco : fd.scope.isCoroutine = false) (hgen : fd.scope.isGenerator = false)
    (hp : ∀ x ∈ ρ₀.map (·.1), fd.scope.names.lookup x = some .local ∨ fd.scope.names.lookup x = some .cell) (hf : (fd.scope.names.all fun p => p.2 != .free) = true)
    (h : ∀ env, FOk fd.scope.names env → EOk fd.scope.names env → WSS g k (Wf env) env body ρ₀ H₁ (retQ Q)) : WC g (k + 1) (.ref f) ps H Q := by
  intro A β s vs hA S V
  refine wpAny_call (codeAny_call_function (fd := fd) hA.depth (S.base _ _ (G.K _ _ hl)) hd hco hgen hbody ((codeRec_of G.K hcode).keeps S.base) ?_)
  refine wpAny_mono (hbind A.in1 β s vs (hA.less (j := 1) (Nat.le_add_left 1 k)).in1 S V) (fun bs s1 h1 => ?_) fun _ _ x => x.elim
  obtain ⟨β1, T1, hB⟩ := h1
  rw [hclo]
  refine wpAny_newFunctionEnv_cells hk ?_ fun env he s₂ x => ?_
  · intro y hy
    have hm : y.1 ∈ ρ₀.map (·.1) := by rw [← hB.keys]; exact List.mem_map_of_mem hy
    rcases hp _ hm with e | e
    · exact .inl e
    · exact .inr ⟨e, cellsFrom_some _ _ _ (.inl (mem_of_lookup e))⟩
  subst he
  have hkp := x.toInCall.keep
  refine ⟨(G.nolimit.keeps T1.sim.base).keeps hkp, codeAny_func ?_⟩
  obtain ⟨h₂, tk₂, rfl⟩ := x.toInCall.same
  have S₂ : SimG g β1 H₁ { s1 with heap := h₂, toks := tk₂ } := T1.sim.grow hkp
  have hE : EnvOk fd.scope.names (callEnvC fd s1.heap.objs.size f) := EnvOk.of_call hk
  refine wpAny_mono (h (callEnvC fd s1.heap.objs.size f) (hE.fok hf) (hE.fok hf).eok _ β1 _ hA.deeper S₂ (Frm.enter T1.sim hk hg hb hnd hB x)) (fun fl s' hs => ?_) (fun _ _ x => x.elim)
  obtain ⟨β', H', ρ', af, T, F', R, q⟩ := hs
  have T' : StepG g [] β1 H₁ s1 β' H' s' := T.fresh T1.sim (fun a ha => by
    rcases List.mem_cons.mp ha with rfl | ha
    · exact get_size_none _
    · obtain ⟨⟨n, kd⟩, _, hm⟩ := List.mem_filterMap.mp ha
      exact get_none_of_le (Nat.le_of_lt (x.above n a (mem_of_lookup hm)))) hkp
  have T'' := T1.trans T' S
  cases af with
  | next => obtain rfl := R; exact ⟨β', H', .none, T'', rfl, q⟩
  | brk => obtain rfl := R; exact ⟨β', H', .none, T'', rfl, q⟩
  | cont => obtain rfl := R; exact ⟨β', H', .none, T'', rfl, q⟩
  | ret p => obtain ⟨v, rfl, hv⟩ := R; exact ⟨β', H', p, T'', hv, q⟩
end
end Mine

namespace Mine

section
variable {prog : Program} {w : World} {A : Around} {E : Value → Shared → Prop} {s : Shared} {env : Env}
theorem sub_slice {value : Expr} {lower upper : Option Expr} {p pos : Pos} {T id : String} {Q : Value → Shared → Prop}
    (hl : typeLookup (.type T) "__getitem__" = pure (some (.builtin id)))
    (h : wpAny (model prog w) A (eval value env) (fun o s₁ => wpAny (model prog w) A (eval (.Slice lower upper none p) env) (fun i s₂ => s₂.TypeIs o T ∧ wpAny (model prog w) A (getItem o i) Q E s₂) E s₁) E s) :
    wpAny (model prog w) A (eval (.Subscript value (.Slice lower upper none p) pos) env) Q E s := by
  rw [eval_Subscript]
  refine wpAny_bind (wpAny_mono h (fun o s₁ h₁ => wpAny_bind (wpAny_holding (wpAny_mono h₁ (fun i s₂ h₂ => wpAny_bind (wpAny_standAt ?_)) fun _ _ x => x)))
    fun _ _ x => x)
  have fin : wpAny (model prog w) A (operate [i, o] (getItem o i)) (fun r s₃ => wpAny (model prog w) A (letTemporaryGo value o r >>= fun _ => pure r) Q E s₃) E s₂ :=
    wpAny_operating (wpAny_mono h₂.2 (fun r s₃ h₃ => wpAny_bind (wpAny_letTemporaryGo (wpAny_pure h₃))) fun _ _ x => x)
  first
    | (refine wpAny_bind ?_
       rw [getitemInPython_of_ne h₂.1.not_modules]
       refine wpAny_bind (wpAny_specialOf h₂.1 hl ?_)
       first
         | exact wpAny_pure (wpAny_bind fin)
         | exact wpAny_bind (wpAny_pure (wpAny_bind fin))
         | exact wpAny_bind fin)
    | (refine wpAny_bind (wpAny_specialOf h₂.1 hl ?_)
       first
         | exact wpAny_bind (wpAny_pure (wpAny_bind fin))
         | exact wpAny_bind fin)
theorem sub_str_slice {value : Expr} {lower upper : Option Expr} {p pos : Pos} {Q : Value → Shared → Prop}
    (h : wpAny (model prog w) A (eval value env) (fun o s₁ => wpAny (model prog w) A (evalPart lower env) (fun vl s₂ => wpAny (model prog w) A (evalPart upper env) (fun vu s₃ =>
      ∃ x t l u, o = .str x t ∧ vl = partValue l ∧ vu = partValue u ∧
        (sliceMade x t l u none).post Q { s₃ with heap := s₃.heap.push { cls := .type "slice", data := .fields #[vl, vu, .none] } }) E s₂) E s₁) E s) :
    wpAny (model prog w) A (eval (.Subscript value (.Slice lower upper none p) pos) env) Q E s := by
  refine sub_slice (T := "str") PySem.F.slot_str_getitem.lookup (wpAny_mono h (fun o s₁ h₁ => wpAny_Slice (wpAny_mono h₁ (fun vl s₂ h₂ => wpAny_mono h₂ (fun vu s₃ h₃ => ?_) fun _ _ e => e) fun _ _ e => e)) fun _ _ e => e)
  obtain ⟨x, t, l, u, rfl, rfl, rfl, hQ⟩ := h₃
  rw [evalPart_none]
  exact wpAny_pure ⟨typeIs_str _ x t, wpAny_getItem_str_slice (l := l) (u := u) (st := none) ⟨_, Heap.get?_push_size _ rfl, rfl, rfl⟩ rfl hQ⟩
end

section
variable {g : Cfg} {k : Nat} {W β β' : List Addr} {env : Env} {ρ : Rho} {H H' : List Cell} {s s' : Shared} {names : List (Str × NameKind)}

theorem WC.lenT {n : Nat} {xs : List PV} {Q : PV → List Cell → Prop} (e : H[n]? = some (.tup xs)) (hl : xs.length ≤ 100000) (h : Q (.int xs.length) H) : WC g k (.builtin "len") [.loc n] H Q := by
  intro A β s vs hA S V
  obtain ⟨v, rfl, ⟨a, ea, rfl⟩⟩ := vls1 V
  obtain ⟨vs, ht, r⟩ := S.at e ea
  have hlen : vs.toArray.size = xs.length := by simp [r.len]
  exact PyProof.Rows.len_tuple ht (by omega) (PE.tok (pv := .int xs.length) S ⟨s.toks + 1, by rw [hlen]⟩ h)
theorem WT1.tup {n : Nat} {xs : List PV} {Q : Bool → List Cell → Prop} (e : H[n]? = some (.tup xs)) (hl : xs.length ≤ 100000) (h : Q (xs.length != 0) H) : WT1 g k (.loc n) H Q := by
  rintro A β s v hA S ⟨a, ea, rfl⟩
  obtain ⟨vs, ht, r⟩ := S.at e ea
  have hlen : vs.toArray.size = xs.length := by simp [r.len]
  have he : (!vs.toArray.isEmpty) = (xs.length != 0) := by
    rw [← hlen, Bool.eq_iff_iff]; simp [Array.isEmpty]
  exact PyProof.Rows.truthy_tuple ht (by omega) (by rw [he]; exact ⟨β, H, Step.grow (h' := s.heap) S fun _ _ e => e, h⟩)

theorem des_pairs {w : World} {prog : Program} {β : List Addr} : ∀ {es : List (Str × PV)} {ds : List DictEntry}, DEs w.params β es ds →
    ∃ kvs : List (Str × Value), Pairs (PySem.strKind prog w) ds kvs ∧ kvs.map (·.1) = es.map (·.1) ∧ Vls β (es.map (·.2)) (kvs.map (·.2)) ∧ ∀ e ∈ ds, ∃ k, (PySem.strKind prog w).is k e.key = true ∧ e.hash = (PySem.strKind prog w).hash k
  | [], [], _ => ⟨[], .nil, rfl, trivial, by simp⟩
  | (n, p) :: r, e :: t, ⟨⟨⟨tk, hk⟩, hh, hv⟩, hr⟩ => by
    obtain ⟨kvs, h1, h2, h3, h4⟩ := des_pairs (prog := prog) hr
    have hkey : (PySem.strKind prog w).is n e.key = true := by rw [hk]; show Value.isStrOf n (.str n tk) = true; simp [Value.isStrOf]
    refine ⟨(n, e.val) :: kvs, .cons hkey rfl h1, by simp [h2], ⟨hv, h3⟩, fun x hx => ?_⟩
    rcases List.mem_cons.mp hx with rfl | hx
    · exact ⟨n, hkey, hh⟩
    · exact h4 x hx
  | [], _ :: _, x => x.elim
  | _ :: _, [], x => x.elim

theorem cell_dict {n : Nat} {a : Addr} {es : List (Str × PV)} (S : SimG g β H s) (e : H[n]? = some (.dict es)) (ea : β[n]? = some a) (hnd : (es.map (·.1)).Nodup) :
    (a == sysModules) = false ∧ ∃ kvs : List (Str × Value), s.heap.DictOf (PySem.strKind g.prog g.w) a kvs ∧ kvs.map (·.1) = es.map (·.1) ∧ Vls β (es.map (·.2)) (kvs.map (·.2)) := by
  obtain ⟨hs, ds, m, ho, hd⟩ := S.at e ea
  obtain ⟨kvs, h1, h2, h3, h4⟩ := des_pairs (prog := g.prog) hd
  refine ⟨hs, kvs, ⟨_, ds.toArray, m, ho, ⟨rfl, rfl, rfl⟩, rfl, fun e he => h4 e (by simpa using he), by simpa using h1, by rw [h2]; exact hnd⟩, h2, h3⟩

theorem WT1.dict {n : Nat} {es : List (Str × PV)} {Q : Bool → List Cell → Prop} (e : H[n]? = some (.dict es)) (hnd : (es.map (·.1)).Nodup) (hl : es.length ≤ 100000) (h : Q (es.length != 0) H) : WT1 g k (.loc n) H Q := by
  rintro A β s v hA S ⟨a, ea, rfl⟩
  obtain ⟨hs, kvs, hd, hk, hv⟩ := cell_dict S e ea hnd
  have hlen : kvs.length = es.length := by simpa using congrArg List.length hk
  have he : (!kvs.isEmpty) = (es.length != 0) := by
    rw [← hlen]; cases kvs <;> simp
  exact wpAny_truthy_dict hs hd (by omega) (by rw [he]; exact ⟨β, H, Step.grow (h' := s.heap) S fun _ _ e => e, h⟩)

theorem Sim.big (G : Gd g) (S : SimG g β H s) : 330 < s.heap.objs.size := by
  obtain ⟨o, e⟩ : ∃ o, (KK g.w.params).lookup 330 = some o := ⟨_, rfl⟩
  exact Heap.lt_size (S.base _ _ (G.K _ _ e))
theorem Sim.notSys (G : Gd g) (S : SimG g β H s) {n : Nat} (h : s.heap.objs.size ≤ n) : (n == sysModules) = false := by
  have := S.big G
  have e : sysModules = 1 := rfl
  rw [beq_eq_false_iff_ne, e]
  intro h1
  subst h1
  exact absurd (Nat.lt_of_lt_of_le this h) (by decide)
theorem WE.sliceS' {ve : Expr} {lo hi : Option Expr} {p pos : Pos} {Q : PV → List Cell → Prop}
    (h : WE g k env ve ρ H (fun a H1 => WPt g k env lo ρ H1 (fun l H2 => WPt g k env hi ρ H2 (fun u H3 => ∃ x, And3 (a = .str x) (x.length ≤ 100000) (Q (.str (Txt.slice x l u)) H3)))))
    : WE g k env (.Subscript ve (.Slice lo hi none p) pos) ρ H Q := by
  intro A β s hA S F
  refine sub_str_slice (wpAny_mono (h A β s hA S F) (fun o s1 h1 => ?_) fun _ _ x => x)
  obtain ⟨β1, H1, a, T1, V1, h1⟩ := h1
  refine wpAny_mono (h1.run hA T1.sim (F.step T1)) (fun vl s2 h2 => ?_) fun _ _ x => x
  obtain ⟨β2, H2, l, T2, rfl, h2⟩ := h2
  have T12 := T1.trans T2 S
  refine wpAny_mono (h2.run hA T2.sim (F.step T12)) (fun vu s3 h3 => ?_) fun _ _ x => x
  obtain ⟨β3, H3, u, T3, rfl, x, rfl, hx, q⟩ := h3
  obtain ⟨t, rfl⟩ := V1
  have T123 := T12.trans T3 S
  have e24 : sizeLine = 16777216 := sizeLine_eq
  refine ⟨x, t, l, u, rfl, rfl, rfl, ?_⟩
  have hk : ∀ b o, s3.heap.get? b = some o → (s3.heap.push { cls := .type "slice", data := .fields #[partValue l, partValue u, .none] }).get? b = some o := fun b o e => Heap.get?_push_of_some _ e
  have key : ∀ t' tk, PE g β H s Q (.str (Txt.slice x (l.map (·.1)) (u.map (·.1))) t') { s3 with heap := s3.heap.push { cls := .type "slice", data := .fields #[partValue l, partValue u, .none] }, toks := tk } := fun t' tk =>
    ⟨β3, H3, .str (Txt.slice x (l.map (·.1)) (u.map (·.1))), T123.trans (Step.grow T3.sim hk) S, ⟨t', rfl⟩, q⟩
  have hle := Txt.slice_le x (l.map (·.1)) (u.map (·.1))
  have hsl : slicePicked x l u none = Builtin.Str.strSliceIndices (l.map (·.1)) (u.map (·.1)) 1 x.length := rfl
  unfold sliceMade
  unfold Txt.slice at key hle
  rw [← hsl] at key hle
  show (if ((1 : Int) == 1 && (slicePicked x l u none).length == x.length) = true then _ else _ : Made).post _ _
  split
  · rename_i hc
    rw [if_pos hc] at key
    exact key t s3.toks
  · rename_i hc
    rw [if_neg hc] at key hle
    exact ⟨by
      show _ ≤ sizeLine
      exact Nat.le_trans hle (by omega), key _ _⟩

/-- the base of a subscript does not matter -/
theorem WO2.base {ve ie : Expr} {a b : PV} {Q : PV → List Cell → Prop} (h : WO2 g k a b (subscriptTail (.Name (PySem.Str.ofString "_") ⟨0, 0, 0, 0⟩) ie) H Q) : WO2 g k a b (subscriptTail ve ie) H Q :=
  fun A β s va vb hA S Va Vb => PySem.W.kba_turn (fun _ => rfl) (h A β s va vb hA S Va Vb)
end
end Mine

namespace Mine

noncomputable def OkS (x : Str) : Bool := PyData.canLay0 (.str x)
noncomputable def OkL (xs : List Str) : Bool := xs.all OkS

theorem eqvAll_str : ∀ xs ys : List Str, PyData.eqvAll (xs.map .str) (ys.map .str) = (xs == ys)
  | [], [] => rfl
  | [], _ :: _ => rfl
  | _ :: _, [] => rfl
  | x :: xs, y :: ys => by
    show (x == y && PyData.eqvAll (xs.map .str) (ys.map .str)) = _
    rw [eqvAll_str xs ys]; rfl
theorem depthAll_str : ∀ xs : List Str, PyData.depthAll (xs.map .str) = 0
  | [] => rfl
  | x :: xs => by
    show max 0 (PyData.depthAll (xs.map .str)) = 0
    rw [depthAll_str xs]; rfl
theorem canLayAll_str : ∀ {xs : List Str}, OkL xs = true → PyData.canLayAll0 (xs.map .str) = true
  | [], _ => rfl
  | x :: xs, h => by
    simp only [OkL, List.all_cons, Bool.and_eq_true] at h
    show (PyData.canLay0 (.str x) && PyData.canLayAll0 (xs.map .str)) = true
    rw [canLayAll_str (xs := xs) h.2, Bool.and_true]; exact h.1

section
variable {g : Cfg} {k : Nat} {W β β' : List Addr} {env : Env} {ρ : Rho} {H H' : List Cell} {s s' : Shared} {names : List (Str × NameKind)}

theorem readsAll_str {h : Heap} {β : List Addr} : ∀ {xs : List Str} {vs : List Value}, Vls β (xs.map .str) vs → ReadsAll h vs (xs.map .str) []
  | [], [], _ => .nil
  | x :: xs, v :: vs, ⟨⟨t, e⟩, r⟩ => by subst e; exact .cons (as := []) (bs := []) (.str x t) (readsAll_str r)
  | [], _ :: _, x => x.elim
  | _ :: _, [], x => x.elim
theorem reads_list {n : Nat} {a : Addr} {xs : List Str} (S : SimG g β H s) (e : H[n]? = some (.list (xs.map .str)) ∨ H[n]? = some (.flist (xs.map .str))) (ea : β[n]? = some a) : Reads s.heap (.ref a) (.list (xs.map .str)) [a] := by
  obtain ⟨vs, ⟨o, ho, hc, m, hd⟩, r⟩ := cell_list S e ea
  exact .list ho hc hd (by simpa using readsAll_str r)
theorem can_list {xs : List Str} (h : OkL xs = true) : PyData.canLay0 (.list (xs.map .str)) = true := by
  unfold PyData.canLay0; exact canLayAll_str h
theorem depth_list (xs : List Str) : PyData.depth (.list (xs.map .str)) = 1 := by
  unfold PyData.depth; rw [depthAll_str]
theorem Rm.line {k : Nat} {A : Around} (h : Rm k A) : A.units + 16 ≤ cLine := by have := h.2.2; omega

theorem WO2.eqL {n m : Nat} {xs ys : List Str} {Q : PV → List Cell → Prop} (e : H[n]? = some (.list (xs.map .str)) ∨ H[n]? = some (.flist (xs.map .str))) (e' : H[m]? = some (.list (ys.map .str)) ∨ H[m]? = some (.flist (ys.map .str)))
    (hx : OkL xs = true) (hy : OkL ys = true) (h : Q (.bool (xs == ys)) H) : WO2 g k (.loc n) (.loc m) (compareOp .Eq) H Q := by
  rintro A β s va vb hA S ⟨a, ea, rfl⟩ ⟨b, eb, rfl⟩
  refine SeqAt.compareEq_reads (reads_list S e ea) (reads_list S e' eb) (can_list hx) (can_list hy) (by rw [depth_list, depth_list]; have := hA.line; omega) ?_
  have ev : PyData.eqv (.list (xs.map .str)) (.list (ys.map .str)) = (xs == ys) := eqvAll_str xs ys
  rw [ev]
  exact PE.here (pv := .bool (xs == ys)) S rfl h
theorem WO2.neL {n m : Nat} {xs ys : List Str} {Q : PV → List Cell → Prop} (e : H[n]? = some (.list (xs.map .str)) ∨ H[n]? = some (.flist (xs.map .str))) (e' : H[m]? = some (.list (ys.map .str)) ∨ H[m]? = some (.flist (ys.map .str)))
    (hx : OkL xs = true) (hy : OkL ys = true) (h : Q (.bool (!(xs == ys))) H) : WO2 g k (.loc n) (.loc m) (compareOp .NotEq) H Q := by
  rintro A β s va vb hA S ⟨a, ea, rfl⟩ ⟨b, eb, rfl⟩
  refine SeqAt.compareNe_reads (reads_list S e ea) (reads_list S e' eb) (can_list hx) (can_list hy) (by rw [depth_list, depth_list]; have := hA.line; omega) ?_
  have ev : PyData.eqv (.list (xs.map .str)) (.list (ys.map .str)) = (xs == ys) := eqvAll_str xs ys
  rw [ev]
  exact PE.here (pv := .bool (!(xs == ys))) S rfl h

theorem any_str (x : Str) : ∀ xs : List Str, ((xs.map PyData.str).any fun y => PyData.eqv y (.str x)) = xs.contains x
  | [] => rfl
  | y :: ys => by
    simp only [List.map_cons, List.any_cons, any_str x ys, List.contains_cons]
    congr 1
    show (y == x) = (x == y)
    rw [Bool.eq_iff_iff, beq_iff_eq, beq_iff_eq]; exact eq_comm
theorem WO2.notInS {n : Nat} {x : Str} {xs : List Str} {Q : PV → List Cell → Prop} (e : H[n]? = some (.list (xs.map .str)) ∨ H[n]? = some (.flist (xs.map .str))) (hx : OkL xs = true) (hd : OkS x = true) (h : Q (.bool (!(xs.contains x))) H) :
    WO2 g k (.str x) (.loc n) (compareOp .NotIn) H Q := by
  rintro A β s va vb hA S ⟨t, rfl⟩ ⟨a, ea, rfl⟩
  refine SeqAt.notIn_list_reads (reads_list S e ea) (.str x t) (canLayAll_str hx) hd (by rw [depthAll_str]; have := hA.line; show A.units + 1 + min 0 0 < _; omega) ?_
  rw [any_str]
  exact PE.here (pv := .bool (!(xs.contains x))) S rfl h

/-- a cell of lists of texts -/
noncomputable def LLs (H : List Cell) : List PV → List (List Str) → Prop
  | [], [] => True
  | p :: ps, l :: ls => (∃ n, p = .loc n ∧ (H[n]? = some (.list (l.map .str)) ∨ H[n]? = some (.flist (l.map .str)))) ∧ LLs H ps ls
  | _, _ => False
theorem readsAll_lls (S : SimG g β H s) : ∀ {ps : List PV} {lss : List (List Str)} {vs : List Value}, LLs H ps lss → Vls β ps vs → ∃ as, ReadsAll s.heap vs (lss.map fun l => .list (l.map .str)) as
  | [], [], [], _, _ => ⟨[], .nil⟩
  | p :: ps, l :: ls, v :: vs, ⟨⟨n, e, hn⟩, hr⟩, ⟨hv, hvs⟩ => by
    subst e
    obtain ⟨a, ea, rfl⟩ := hv
    obtain ⟨as, ih⟩ := readsAll_lls S hr hvs
    exact ⟨_, .cons (reads_list S hn ea) ih⟩
  | [], _ :: _, _, x, _ => x.elim
  | _ :: _, [], _, x, _ => x.elim
  | [], [], _ :: _, _, x => x.elim
  | _ :: _, _ :: _, [], _, x => x.elim
theorem depthAll_lls : ∀ lss : List (List Str), PyData.depthAll (lss.map fun l => .list (l.map .str)) ≤ 1
  | [] => Nat.zero_le _
  | l :: ls => by
    show max (PyData.depth (.list (l.map .str))) (PyData.depthAll (ls.map fun l => .list (l.map .str))) ≤ 1
    rw [depth_list]; have := depthAll_lls ls; omega
theorem canLayAll_lls : ∀ {lss : List (List Str)}, (lss.all OkL) = true → PyData.canLayAll0 (lss.map fun l => .list (l.map .str)) = true
  | [], _ => rfl
  | l :: ls, h => by
    simp only [List.all_cons, Bool.and_eq_true] at h
    show (PyData.canLay0 (.list (l.map .str)) && PyData.canLayAll0 (ls.map fun l => .list (l.map .str))) = true
    rw [can_list h.1, canLayAll_lls h.2]; rfl
theorem any_lls (x : List Str) : ∀ xs : List (List Str), ((xs.map fun l => PyData.list (l.map .str)).any fun y => PyData.eqv y (.list (x.map .str))) = xs.contains x
  | [] => rfl
  | y :: ys => by
    simp only [List.map_cons, List.any_cons, any_lls x ys, List.contains_cons]
    congr 1
    show PyData.eqvAll (y.map .str) (x.map .str) = _
    rw [eqvAll_str, Bool.eq_iff_iff, beq_iff_eq, beq_iff_eq]; exact eq_comm
theorem WO2.notInL {n m : Nat} {x : List Str} {ps : List PV} {lss : List (List Str)} {Q : PV → List Cell → Prop} (ex : H[m]? = some (.list (x.map .str)) ∨ H[m]? = some (.flist (x.map .str))) (e : H[n]? = some (.list ps) ∨ H[n]? = some (.flist ps)) (hl : LLs H ps lss)
    (hx : OkL x = true) (hls : (lss.all OkL) = true) (h : Q (.bool (!(lss.contains x))) H) : WO2 g k (.loc m) (.loc n) (compareOp .NotIn) H Q := by
  rintro A β s va vb hA S ⟨b, eb, rfl⟩ ⟨a, ea, rfl⟩
  obtain ⟨vs, ⟨o, ho, hc, q, hd⟩, r⟩ := cell_list S e ea
  obtain ⟨as, ra⟩ := readsAll_lls S hl r
  refine SeqAt.notIn_list_reads (.list ho hc hd (by simpa using ra)) (reads_list S ex eb) (canLayAll_lls hls) (can_list hx) (by have := depthAll_lls lss; have := hA.line; rw [depth_list]; omega) ?_
  rw [any_lls]
  exact PE.here (pv := .bool (!(lss.contains x))) S rfl h
end
end Mine

namespace Mine

noncomputable def ltL : List Str → List Str → Bool
  | [], [] => false
  | [], _ :: _ => true
  | _ :: _, [] => false
  | x :: xs, y :: ys => if x == y then ltL xs ys else decide (x.cps.toList < y.cps.toList)
theorem ltL_nil (ys : List Str) : ltL [] ys = decide (0 < ys.length) := by cases ys <;> simp [ltL]
theorem ltL_nil2 (xs : List Str) : ltL xs [] = false := by cases xs <;> simp [ltL]
theorem strv_size (l : List (Str × Tok)) : (strValues l).toArray.size = l.length := by simp [strValues]
theorem strv_get (l : List (Str × Tok)) (i : Nat) : (strValues l).toArray[i]? = (l[i]?).map fun p => Value.str p.1 p.2 := by simp [strValues]

section
open AutoSeq1 (wpAny_loadPart')
open MeetsSeq MeetsSeq2 MeetsSeq3

theorem lt_loop (l b : Addr) (n n2 : Nat) (dd dd2 : Option Addr) (sl sl2 : Array (Option Value)) (vs us : List (Str × Tok)) (k : Nat) :
    ∀ i : Nat, vs.length - i = k → i ≤ vs.length → i ≤ us.length → Meets (Builtin.«list.__eq__.loop» ⟨[.ref l, .ref b, rawInt i, rawInt 0], []⟩)
      (fun A R s => s.heap.get? l = some { cls := .type "list", dict := dd, data := .seq (strValues vs).toArray n, slots := sl } ∧ s.heap.get? b = some { cls := .type "list", dict := dd2, data := .seq (strValues us).toArray n2, slots := sl2 } ∧
        R (.ok (.ret (.bool (ltL ((vs.drop i).map (·.1)) ((us.drop i).map (·.1)))))) s) := by
  induction k with
  | zero =>
    intro i hk hi hi2 prog w A R s h
    obtain ⟨hp, g, d, tk, os⟩ := s; obtain ⟨hl, hb, h⟩ := h
    wp_walk using wpAny_loadPart' hl, wpAny_loadPart' hb
    have e1 : (strValues vs).toArray[((i : Nat) : Int).toNat]? = none := by
      rw [Int.toNat_natCast, strv_get, List.getElem?_eq_none (by omega)]; rfl
    rw [e1]
    wp_walk using wpAny_loadPart' hl, wpAny_loadPart' hb
    show R (.ok (.ret (.bool (decide ((strValues vs).toArray.size < (strValues us).toArray.size))))) _
    rw [strv_size, strv_size]
    have hd : vs.drop i = [] := List.drop_eq_nil_of_le (by omega)
    rw [hd, List.map_nil, ltL_nil, List.length_map, List.length_drop] at h
    have e : (decide (0 < us.length - i)) = decide (vs.length < us.length) := by congr 1; apply propext; omega
    rw [e] at h; exact h
  | succ k ih =>
    intro i hk hi hi2 prog w A R s h
    obtain ⟨hp, g, d, tk, os⟩ := s; obtain ⟨hl, hb, h⟩ := h
    wp_walk using wpAny_loadPart' hl, wpAny_loadPart' hb
    have hlt : i < vs.length := by omega
    have e1 : (strValues vs).toArray[((i : Nat) : Int).toNat]? = some (.str vs[i].1 vs[i].2) := by
      rw [Int.toNat_natCast, strv_get, List.getElem?_eq_getElem hlt]; rfl
    have hdv : vs.drop i = vs[i] :: vs.drop (i + 1) := List.drop_eq_getElem_cons hlt
    by_cases hlt2 : i < us.length
    · have e2 : (strValues us).toArray[((i : Nat) : Int).toNat]? = some (.str us[i].1 us[i].2) := by
        rw [Int.toNat_natCast, strv_get, List.getElem?_eq_getElem hlt2]; rfl
      have hdu : us.drop i = us[i] :: us.drop (i + 1) := List.drop_eq_getElem_cons hlt2
      have hc : ((i : Int) + 1) = ((i + 1 : Nat) : Int) := by push_cast; rfl
      rw [hdv, hdu, List.map_cons, List.map_cons, ltL] at h
      rw [e1, e2]
      refine wpAny_bind (PyProof.Rows.eqBool_str ?_)
      cases hbb : (vs[i].1 == us[i].1) with
      | true =>
        rw [hbb, if_pos rfl] at h
        wp_walk
        rw [hc]
        exact ⟨plainId_quiet plain_eq_loop _, codeAny_builtin entry_eq_loop (by
          rw [Around.under_plainId plain_eq_loop _]
          exact ih (i + 1) (by omega) (by omega) (by omega) prog w A R _ ⟨hl, hb, h⟩)⟩
      | false =>
        rw [hbb, if_neg (by decide)] at h
        wp_walk using wpAny_loadPart' hl, wpAny_loadPart' hb
        rw [e1, e2]
        refine wpAny_bind (PySem.P.lt_str (?_ : (fun v s' => wpAny (model prog w) A.in1 (ret v) _ _ s') _ _))
        exact wpAny_pure h
    · have e2 : (strValues us).toArray[((i : Nat) : Int).toNat]? = none := by
        rw [Int.toNat_natCast, strv_get, List.getElem?_eq_none (by omega)]; rfl
      have hdu : us.drop i = [] := List.drop_eq_nil_of_le (by omega)
      rw [e1, e2]
      wp_walk using wpAny_loadPart' hl, wpAny_loadPart' hb
      show R (.ok (.ret (.bool (decide ((strValues vs).toArray.size < (strValues us).toArray.size))))) _
      rw [strv_size, strv_size]
      rw [hdu, List.map_nil, ltL_nil2] at h
      have e : (decide (vs.length < us.length)) = false := by rw [decide_eq_false_iff_not]; omega
      rw [e]; exact h
theorem gt_loop (l b : Addr) (n n2 : Nat) (dd dd2 : Option Addr) (sl sl2 : Array (Option Value)) (vs us : List (Str × Tok)) (k : Nat) :
    ∀ i : Nat, vs.length - i = k → i ≤ vs.length → i ≤ us.length → Meets (Builtin.«list.__eq__.loop» ⟨[.ref l, .ref b, rawInt i, rawInt 4], []⟩)
      (fun A R s => s.heap.get? l = some { cls := .type "list", dict := dd, data := .seq (strValues vs).toArray n, slots := sl } ∧ s.heap.get? b = some { cls := .type "list", dict := dd2, data := .seq (strValues us).toArray n2, slots := sl2 } ∧
        R (.ok (.ret (.bool (ltL ((us.drop i).map (·.1)) ((vs.drop i).map (·.1)))))) s) := by
  induction k with
  | zero =>
    intro i hk hi hi2 prog w A R s h
    obtain ⟨hp, g, d, tk, os⟩ := s; obtain ⟨hl, hb, h⟩ := h
    wp_walk using wpAny_loadPart' hl, wpAny_loadPart' hb
    have e1 : (strValues vs).toArray[((i : Nat) : Int).toNat]? = none := by
      rw [Int.toNat_natCast, strv_get, List.getElem?_eq_none (by omega)]; rfl
    rw [e1]
    wp_walk using wpAny_loadPart' hl, wpAny_loadPart' hb
    show R (.ok (.ret (.bool (decide ((strValues vs).toArray.size > (strValues us).toArray.size))))) _
    rw [strv_size, strv_size]
    have hd : vs.drop i = [] := List.drop_eq_nil_of_le (by omega)
    rw [hd, List.map_nil, ltL_nil2] at h
    have e : (decide (vs.length > us.length)) = false := by rw [decide_eq_false_iff_not]; omega
    rw [e]; exact h
  | succ k ih =>
    intro i hk hi hi2 prog w A R s h
    obtain ⟨hp, g, d, tk, os⟩ := s; obtain ⟨hl, hb, h⟩ := h
    wp_walk using wpAny_loadPart' hl, wpAny_loadPart' hb
    have hlt : i < vs.length := by omega
    have e1 : (strValues vs).toArray[((i : Nat) : Int).toNat]? = some (.str vs[i].1 vs[i].2) := by
      rw [Int.toNat_natCast, strv_get, List.getElem?_eq_getElem hlt]; rfl
    have hdv : vs.drop i = vs[i] :: vs.drop (i + 1) := List.drop_eq_getElem_cons hlt
    by_cases hlt2 : i < us.length
    · have e2 : (strValues us).toArray[((i : Nat) : Int).toNat]? = some (.str us[i].1 us[i].2) := by
        rw [Int.toNat_natCast, strv_get, List.getElem?_eq_getElem hlt2]; rfl
      have hdu : us.drop i = us[i] :: us.drop (i + 1) := List.drop_eq_getElem_cons hlt2
      have hc : ((i : Int) + 1) = ((i + 1 : Nat) : Int) := by push_cast; rfl
      rw [hdv, hdu, List.map_cons, List.map_cons, ltL] at h
      rw [e1, e2]
      refine wpAny_bind (PyProof.Rows.eqBool_str ?_)
      have hsw : (us[i].1 == vs[i].1) = (vs[i].1 == us[i].1) := by rw [Bool.eq_iff_iff, beq_iff_eq, beq_iff_eq]; exact eq_comm
      rw [hsw] at h
      cases hbb : (vs[i].1 == us[i].1) with
      | true =>
        rw [hbb, if_pos rfl] at h
        wp_walk
        rw [hc]
        exact ⟨plainId_quiet plain_eq_loop _, codeAny_builtin entry_eq_loop (by
          rw [Around.under_plainId plain_eq_loop _]
          exact ih (i + 1) (by omega) (by omega) (by omega) prog w A R _ ⟨hl, hb, h⟩)⟩
      | false =>
        rw [hbb, if_neg (by decide)] at h
        wp_walk using wpAny_loadPart' hl, wpAny_loadPart' hb
        rw [e1, e2]
        refine wpAny_bind (PySem.P.gt_str (?_ : (fun v s' => wpAny (model prog w) A.in1 (ret v) _ _ s') _ _))
        exact wpAny_pure h
    · have e2 : (strValues us).toArray[((i : Nat) : Int).toNat]? = none := by
        rw [Int.toNat_natCast, strv_get, List.getElem?_eq_none (by omega)]; rfl
      have hdu : us.drop i = [] := List.drop_eq_nil_of_le (by omega)
      rw [e1, e2]
      wp_walk using wpAny_loadPart' hl, wpAny_loadPart' hb
      show R (.ok (.ret (.bool (decide ((strValues vs).toArray.size > (strValues us).toArray.size))))) _
      rw [strv_size, strv_size]
      rw [hdu, List.map_nil, ltL_nil, List.length_map, List.length_drop] at h
      have e : (decide (0 < vs.length - i)) = decide (vs.length > us.length) := by congr 1; apply propext; omega
      rw [e] at h; exact h

theorem list_ltW (l b : Addr) (n n2 : Nat) (dd dd2 : Option Addr) (sl sl2 : Array (Option Value)) (vs us : List (Str × Tok)) :
    Meets (Builtin.«list.__lt__» ⟨[.ref l, .ref b], []⟩)
      (fun _ R s => s.heap.get? l = some { cls := .type "list", dict := dd, data := .seq (strValues vs).toArray n, slots := sl } ∧ s.heap.get? b = some { cls := .type "list", dict := dd2, data := .seq (strValues us).toArray n2, slots := sl2 } ∧
        R (.ok (.ret (.bool (ltL (vs.map (·.1)) (us.map (·.1)))))) s) := by
  intro prog w A R s h
  obtain ⟨hp, g, d, tk, os⟩ := s; obtain ⟨hl, hb, h⟩ := h
  have f3 := AutoSeq1.sub_list_list
  wp_walk using wpAny_loadPart' hl, wpAny_loadPart' hb
  exact ⟨plainId_quiet plain_eq_loop _, codeAny_builtin entry_eq_loop (by
    rw [Around.under_plainId plain_eq_loop _]
    exact lt_loop l b n n2 dd dd2 sl sl2 vs us _ 0 rfl (Nat.zero_le _) (Nat.zero_le _) prog w A R _ ⟨hl, hb, by simpa using h⟩)⟩
theorem list_gtW (l b : Addr) (n n2 : Nat) (dd dd2 : Option Addr) (sl sl2 : Array (Option Value)) (vs us : List (Str × Tok)) :
    Meets (Builtin.«list.__gt__» ⟨[.ref l, .ref b], []⟩)
      (fun _ R s => s.heap.get? l = some { cls := .type "list", dict := dd, data := .seq (strValues vs).toArray n, slots := sl } ∧ s.heap.get? b = some { cls := .type "list", dict := dd2, data := .seq (strValues us).toArray n2, slots := sl2 } ∧
        R (.ok (.ret (.bool (ltL (us.map (·.1)) (vs.map (·.1)))))) s) := by
  intro prog w A R s h
  obtain ⟨hp, g, d, tk, os⟩ := s; obtain ⟨hl, hb, h⟩ := h
  have f3 := AutoSeq1.sub_list_list
  wp_walk using wpAny_loadPart' hl, wpAny_loadPart' hb
  exact ⟨plainId_quiet plain_eq_loop _, codeAny_builtin entry_eq_loop (by
    rw [Around.under_plainId plain_eq_loop _]
    exact gt_loop l b n n2 dd dd2 sl sl2 vs us _ 0 rfl (Nat.zero_le _) (Nat.zero_le _) prog w A R _ ⟨hl, hb, by simpa using h⟩)⟩
end

section
variable {prog : Program} {w : World} {A : Around} {E : Value → Shared → Prop} {s : Shared}
theorem rich_lt_list {l b : Addr} {vs us : List (Str × Tok)} {Q : Value → Shared → Prop} (hl : s.heap.IsList l (strValues vs).toArray) (hb : s.heap.IsList b (strValues us).toArray) (hu : A.units < cLine)
    (h : Q (.bool (ltL (vs.map (·.1)) (us.map (·.1)))) s) : wpAny (model prog w) A (richCompare .Lt (.ref l) (.ref b)) Q E s := by
  obtain ⟨⟨c, dct, dt, sl⟩, ho, hc, n, hd⟩ := id hl
  obtain ⟨⟨c2, dct2, dt2, sl2⟩, ho2, hc2, n2, hd2⟩ := id hb
  simp only at hc hd hc2 hd2
  subst hc hd hc2 hd2
  exact richCompare_meets_room hl.typeIs hb.typeIs PySem.F.slot_list_lt PySem.F.entry_list_lt (PySem.F.args_list_lt_2 _ _) (list_ltW l b n n2 dct dct2 sl sl2 vs us) ⟨ho, ho2, by simp, h⟩ hu
theorem rich_gt_list {l b : Addr} {vs us : List (Str × Tok)} {Q : Value → Shared → Prop} (hl : s.heap.IsList l (strValues vs).toArray) (hb : s.heap.IsList b (strValues us).toArray) (hu : A.units < cLine)
    (h : Q (.bool (ltL (us.map (·.1)) (vs.map (·.1)))) s) : wpAny (model prog w) A (richCompare .Gt (.ref l) (.ref b)) Q E s := by
  obtain ⟨⟨c, dct, dt, sl⟩, ho, hc, n, hd⟩ := id hl
  obtain ⟨⟨c2, dct2, dt2, sl2⟩, ho2, hc2, n2, hd2⟩ := id hb
  simp only at hc hd hc2 hd2
  subst hc hd hc2 hd2
  exact richCompare_meets_room hl.typeIs hb.typeIs PySem.F.slot_list_gt PySem.F.entry_list_gt (PySem.F.args_list_gt_2 _ _) (list_gtW l b n n2 dct dct2 sl sl2 vs us) ⟨ho, ho2, by simp, h⟩ hu
end
end Mine

namespace Mine

section
variable {prog : Program} {w : World} {A : Around} {E : Value → Shared → Prop} {s : Shared}

theorem min_done {I S : Addr} {fp : List Addr} {n : Nat} {Pi : Nat → Value → Prop} {St : Nat → Heap → Prop} {R : Result → Shared → Prop} (W : Walks prog w A.in1 I fp [I] n Pi St) (hSI : S ≠ I) {vb : Value} {c : Nat} (hst : St n s.heap)
    (hS : s.heap.get? S = some { cls := .type "list", data := .seq #[vb, vb] c })
    (hR : ∀ h' tk, (∀ b o, b ≠ I → b ≠ S → s.heap.get? b = some o → h'.get? b = some o) → R (.ok (.ret vb)) { s with heap := h', toks := tk }) :
    codeAny (model prog w) A (.builtin "min.loop" ⟨[.ref I, .none, .ref S], []⟩) R s := by
  refine codeAny_builtin PySem.F.entry_min_loop ?_
  rw [Around.under_plainId PySem.F.plain_min_loop _]
  show wpAny _ A.in1 (seqItems? (.ref S) >>= _) _ _ s
  refine wpAny_bind (wpAny_seqItems hS rfl ?_)
  show wpAny _ A.in1 (tryCatch (pyNext (.ref I)) _ >>= _) _ _ s
  refine wpAny_bind (wpAny_tryCatch (W.done s _ _ hst fun h' tk hk' => ?_))
  have hS' := hk' S _ (by simpa using hSI) hS
  show wpAny _ A.in1 (updateSeq S (fun _ => #[]) >>= _) _ _ _
  refine wpAny_bind ?_
  refine wpAny_updateSeq hS' rfl (wpAny_bind (wpAny_letGo (wpAny_pure ?_)))
  exact hR _ tk fun b o hbI hbS e => (Heap.get?_update_other _ _ (Ne.symm hbS)).trans (hk' b o (by simpa using hbI) e)

theorem min_next {I S : Addr} {fp : List Addr} {n i : Nat} {Pi : Nat → Value → Prop} {St : Nat → Heap → Prop} {R : Result → Shared → Prop} (W : Walks prog w A.in1 I fp [I] n Pi St) (hSI : S ≠ I) (hSf : S ∉ fp) (hi : i < n) {vb : Value} {c : Nat} (hst : St i s.heap)
    (hS : s.heap.get? S = some { cls := .type "list", data := .seq #[vb, vb] c })
    (hcmp : ∀ v h' tk (Q : Value → Shared → Prop) E, Pi i v → (∀ b o, b ≠ I → s.heap.get? b = some o → h'.get? b = some o) →
      (∀ bt, (∀ h'' c', St (i + 1) h'' → h''.get? S = some { cls := .type "list", data := .seq #[if bt then v else vb, if bt then v else vb] c' } → (∀ b o, b ≠ I → b ≠ S → s.heap.get? b = some o → h''.get? b = some o) →
        codeAny (model prog w) A (.builtin "min.loop" ⟨[.ref I, .none, .ref S], []⟩) R { s with heap := h'', toks := tk }) → Q (.bool bt) { s with heap := h', toks := tk }) →
      wpAny (model prog w) A.in1 (richCompare .Lt v vb) Q E { s with heap := h', toks := tk }) :
    codeAny (model prog w) A (.builtin "min.loop" ⟨[.ref I, .none, .ref S], []⟩) R s := by
  have hname : (toString "min" ++ toString ".loop" : String) = "min.loop" := by decide
  refine codeAny_builtin PySem.F.entry_min_loop ?_
  rw [Around.under_plainId PySem.F.plain_min_loop _]
  show wpAny _ A.in1 (seqItems? (.ref S) >>= _) _ _ s
  refine wpAny_bind (wpAny_seqItems hS rfl ?_)
  show wpAny _ A.in1 (tryCatch (pyNext (.ref I)) _ >>= _) _ _ s
  refine wpAny_bind (wpAny_tryCatch (W.item i s _ _ hi hst fun v h' tk hP hst' hk' => ?_))
  have hk : ∀ b o, b ≠ I → s.heap.get? b = some o → h'.get? b = some o := fun b o hb e => hk' b o (by simpa using hb) e
  have hS' := hk S _ hSI hS
  show wpAny _ A.in1 (tryCatch (holding [v, v] (richCompare .Lt v vb >>= _)) _ >>= _) _ _ _
  refine wpAny_bind (wpAny_tryCatch (wpAny_holding (wpAny_bind (hcmp v h' tk _ _ hP hk fun bt cont => ?_))))
  refine wpAny_bind (wpAny_holding (wpAny_truthy_bool ?_))
  refine wpAny_bind (wpAny_letGo (wpAny_pure ?_))
  cases bt with
  | true =>
    simp only [if_true] at cont ⊢
    refine wpAny_bind ?_
    refine wpAny_updateSeq hS' rfl (wpAny_bind (wpAny_letGo ?_))
    rw [hname]
    refine wpAny_pure ⟨plainId_quiet PySem.F.plain_min_loop _, cont _ _ (W.frame _ _ _ hst' fun b hbf o e => ?_) (Heap.get?_update_self _ hS' rfl) fun b o hbI hbS e => ?_⟩
    · exact (Heap.get?_update_other _ _ (fun h : S = b => hSf (by rw [h]; exact hbf))).trans e
    · exact (Heap.get?_update_other _ _ (Ne.symm hbS)).trans (hk b o hbI e)
  | false =>
    simp only [Bool.false_eq_true, if_false] at cont ⊢
    refine wpAny_bind (wpAny_letGo ?_)
    rw [hname]
    exact wpAny_pure ⟨plainId_quiet PySem.F.plain_min_loop _, cont _ _ hst' hS' fun b o hbI _ e => hk b o hbI e⟩

theorem min_first {I S : Addr} {fp : List Addr} {n : Nat} {Pi : Nat → Value → Prop} {St : Nat → Heap → Prop} {R : Result → Shared → Prop} (W : Walks prog w A.in1 I fp [I] n Pi St) (hSI : S ≠ I) (hSf : S ∉ fp) (hn : 0 < n) {c : Nat} (hst : St 0 s.heap)
    (hS : s.heap.get? S = some { cls := .type "list", data := .seq #[] c })
    (cont : ∀ v h'' tk c', Pi 0 v → St 1 h'' → h''.get? S = some { cls := .type "list", data := .seq #[v, v] c' } → (∀ b o, b ≠ I → b ≠ S → s.heap.get? b = some o → h''.get? b = some o) →
        codeAny (model prog w) A (.builtin "min.loop" ⟨[.ref I, .none, .ref S], []⟩) R { s with heap := h'', toks := tk }) :
    codeAny (model prog w) A (.builtin "min.loop" ⟨[.ref I, .none, .ref S], []⟩) R s := by
  have hname : (toString "min" ++ toString ".loop" : String) = "min.loop" := by decide
  refine codeAny_builtin PySem.F.entry_min_loop ?_
  rw [Around.under_plainId PySem.F.plain_min_loop _]
  show wpAny _ A.in1 (seqItems? (.ref S) >>= _) _ _ s
  refine wpAny_bind (wpAny_seqItems hS rfl ?_)
  show wpAny _ A.in1 (tryCatch (pyNext (.ref I)) _ >>= _) _ _ s
  refine wpAny_bind (wpAny_tryCatch (W.item 0 s _ _ hn hst fun v h' tk hP hst' hk' => ?_))
  have hk : ∀ b o, b ≠ I → s.heap.get? b = some o → h'.get? b = some o := fun b o hb e => hk' b o (by simpa using hb) e
  have hS' := hk S _ hSI hS
  show wpAny _ A.in1 (updateSeq S (fun _ => #[v, v]) >>= _) _ _ _
  refine wpAny_bind ?_
  refine wpAny_updateSeq hS' rfl ?_
  rw [hname]
  refine wpAny_pure ⟨plainId_quiet PySem.F.plain_min_loop _, cont v _ _ _ hP (W.frame _ _ _ hst' fun b hbf o e => ?_) (Heap.get?_update_self _ hS' rfl) fun b o hbI hbS e => ?_⟩
  · exact (Heap.get?_update_other _ _ (fun h : S = b => hSf (by rw [h]; exact hbf))).trans e
  · exact (Heap.get?_update_other _ _ (Ne.symm hbS)).trans (hk b o hbI e)

theorem call_min_pair {L a b : Addr} {vs us : List (Str × Tok)} {Q : Value → Shared → Prop} (hh : A.handled = none) (hL : s.heap.IsList L #[.ref a, .ref b]) (ha : s.heap.IsList a (strValues vs).toArray) (hb : s.heap.IsList b (strValues us).toArray) (hu : A.units + 1 < cLine)
    (h : ∀ h' tk, (∀ b o, s.heap.get? b = some o → h'.get? b = some o) → Q (if (ltL (us.map (·.1)) (vs.map (·.1))) then .ref b else .ref a) { s with heap := h', toks := tk }) :
    wpAny (model prog w) A (call (.builtin "min") [.ref L]) Q E s := by
  have hname : (toString "min" ++ toString ".loop" : String) = "min.loop" := by decide
  have lL : L < s.heap.objs.size := by obtain ⟨o, e, _⟩ := hL; exact Heap.lt_size e
  refine call_function_tree PySem.F.kind_min PySem.F.plain_min PySem.F.entry_min (PySem.F.args_min1 _) ?_
  show wpAny _ A.in1 (Builtin.Builtins.bindParams "min" ["key", "default"] 0 ⟨[], []⟩ >>= _) _ _ s
  refine wpAny_bind (wpAny_of_eq (show Builtin.Builtins.bindParams "min" ["key", "default"] 0 ⟨[], []⟩ = pure [none, none] from rfl) ?_)
  refine wpAny_bind (wpAny_pure ?_)
  refine wpAny_bind (wpAny_pyIter_list hL ?_)
  refine wpAny_bind (wpAny_newObj_type ?_)
  rw [hname]
  have W := Walks.list (prog := prog) (w := w) (A := A.in1) hh s.heap.objs.size L (Nat.ne_of_lt lL) #[.ref a, .ref b]
  generalize hH1 : s.heap.push { cls := .type "list_iterator", data := .fields #[.ref L, .int 0 0] } = H1
  have z1 : H1.objs.size = s.heap.objs.size + 1 := by rw [← hH1, Heap.size_push]
  have hSI : H1.objs.size ≠ s.heap.objs.size := by rw [z1]; exact Nat.succ_ne_self _
  have hSf : H1.objs.size ∉ [s.heap.objs.size, L] := by
    rw [z1]; simp; exact Ne.symm (Nat.ne_of_lt (Nat.lt_succ_of_lt lL))
  have old : ∀ c o, s.heap.get? c = some o → H1.get? c = some o := fun c o e => by rw [← hH1]; exact Heap.get?_push_of_some _ e
  have old2 : ∀ c o, s.heap.get? c = some o → (H1.push { cls := .type "list", data := .seq ([] : List Value).toArray }).get? c = some o := fun c o e => Heap.get?_push_of_some _ (old c o e)
  have ne : ∀ c o, s.heap.get? c = some o → c ≠ s.heap.objs.size ∧ c ≠ H1.objs.size := fun c o e => ⟨Nat.ne_of_lt (Heap.lt_size e), by rw [z1]; exact Nat.ne_of_lt (Nat.lt_succ_of_lt (Heap.lt_size e))⟩
  refine wpAny_pure ⟨plainId_quiet PySem.F.plain_min_loop _, min_first W hSI hSf (by simp) ⟨⟨_, by rw [← hH1]; exact Heap.get?_push_of_some _ (Heap.get?_push_size _ rfl), rfl, rfl⟩, hL.at fun o e => old2 _ o e⟩ (Heap.get?_push_size _ rfl) ?_⟩
  intro v h1 tk1 c1 hv hst1 hS1 hk1
  obtain rfl : v = .ref a := by simpa using hv.symm
  have k1 : ∀ c o, s.heap.get? c = some o → h1.get? c = some o := fun c o e => hk1 c o (ne c o e).1 (ne c o e).2 (old2 c o e)
  refine min_next W hSI hSf (i := 1) (by simp) hst1 hS1 ?_
  intro v h2 tk2 Q2 E2 hv hk2 cont
  obtain rfl : v = .ref b := by simpa using hv.symm
  have k2 : ∀ c o, s.heap.get? c = some o → h2.get? c = some o := fun c o e => hk2 c o (ne c o e).1 (k1 c o e)
  refine rich_lt_list (hb.at fun o e => k2 _ o e) (ha.at fun o e => k2 _ o e) (by show A.units + 1 < cLine; exact hu) (cont _ ?_)
  intro h3 c3 hst3 hS3 hk3
  have k3 : ∀ c o, s.heap.get? c = some o → h3.get? c = some o := fun c o e => hk3 c o (ne c o e).1 (ne c o e).2 (k1 c o e)
  refine min_done W hSI hst3 hS3 ?_
  intro h4 tk4 hk4
  have := h h4 tk4 fun c o e => hk4 c o (ne c o e).1 (ne c o e).2 (k3 c o e)
  cases hbt : (ltL (us.map (·.1)) (vs.map (·.1))) with
  | true => rw [hbt] at this; exact this
  | false => rw [hbt] at this; exact this

theorem max_done {I S : Addr} {fp : List Addr} {n : Nat} {Pi : Nat → Value → Prop} {St : Nat → Heap → Prop} {R : Result → Shared → Prop} (W : Walks prog w A.in1 I fp [I] n Pi St) (hSI : S ≠ I) {vb : Value} {c : Nat} (hst : St n s.heap)
    (hS : s.heap.get? S = some { cls := .type "list", data := .seq #[vb, vb] c })
    (hR : ∀ h' tk, (∀ b o, b ≠ I → b ≠ S → s.heap.get? b = some o → h'.get? b = some o) → R (.ok (.ret vb)) { s with heap := h', toks := tk }) :
    codeAny (model prog w) A (.builtin "max.loop" ⟨[.ref I, .none, .ref S], []⟩) R s := by
  refine codeAny_builtin PySem.F.entry_max_loop ?_
  rw [Around.under_plainId PySem.F.plain_max_loop _]
  show wpAny _ A.in1 (seqItems? (.ref S) >>= _) _ _ s
  refine wpAny_bind (wpAny_seqItems hS rfl ?_)
  show wpAny _ A.in1 (tryCatch (pyNext (.ref I)) _ >>= _) _ _ s
  refine wpAny_bind (wpAny_tryCatch (W.done s _ _ hst fun h' tk hk' => ?_))
  have hS' := hk' S _ (by simpa using hSI) hS
  show wpAny _ A.in1 (updateSeq S (fun _ => #[]) >>= _) _ _ _
  refine wpAny_bind ?_
  refine wpAny_updateSeq hS' rfl (wpAny_bind (wpAny_letGo (wpAny_pure ?_)))
  exact hR _ tk fun b o hbI hbS e => (Heap.get?_update_other _ _ (Ne.symm hbS)).trans (hk' b o (by simpa using hbI) e)

theorem max_next {I S : Addr} {fp : List Addr} {n i : Nat} {Pi : Nat → Value → Prop} {St : Nat → Heap → Prop} {R : Result → Shared → Prop} (W : Walks prog w A.in1 I fp [I] n Pi St) (hSI : S ≠ I) (hSf : S ∉ fp) (hi : i < n) {vb : Value} {c : Nat} (hst : St i s.heap)
    (hS : s.heap.get? S = some { cls := .type "list", data := .seq #[vb, vb] c })
    (hcmp : ∀ v h' tk (Q : Value → Shared → Prop) E, Pi i v → (∀ b o, b ≠ I → s.heap.get? b = some o → h'.get? b = some o) →
      (∀ bt, (∀ h'' c', St (i + 1) h'' → h''.get? S = some { cls := .type "list", data := .seq #[if bt then v else vb, if bt then v else vb] c' } → (∀ b o, b ≠ I → b ≠ S → s.heap.get? b = some o → h''.get? b = some o) →
        codeAny (model prog w) A (.builtin "max.loop" ⟨[.ref I, .none, .ref S], []⟩) R { s with heap := h'', toks := tk }) → Q (.bool bt) { s with heap := h', toks := tk }) →
      wpAny (model prog w) A.in1 (richCompare .Gt v vb) Q E { s with heap := h', toks := tk }) :
    codeAny (model prog w) A (.builtin "max.loop" ⟨[.ref I, .none, .ref S], []⟩) R s := by
  have hname : (toString "max" ++ toString ".loop" : String) = "max.loop" := by decide
  refine codeAny_builtin PySem.F.entry_max_loop ?_
  rw [Around.under_plainId PySem.F.plain_max_loop _]
  show wpAny _ A.in1 (seqItems? (.ref S) >>= _) _ _ s
  refine wpAny_bind (wpAny_seqItems hS rfl ?_)
  show wpAny _ A.in1 (tryCatch (pyNext (.ref I)) _ >>= _) _ _ s
  refine wpAny_bind (wpAny_tryCatch (W.item i s _ _ hi hst fun v h' tk hP hst' hk' => ?_))
  have hk : ∀ b o, b ≠ I → s.heap.get? b = some o → h'.get? b = some o := fun b o hb e => hk' b o (by simpa using hb) e
  have hS' := hk S _ hSI hS
  show wpAny _ A.in1 (tryCatch (holding [v, v] (richCompare .Gt v vb >>= _)) _ >>= _) _ _ _
  refine wpAny_bind (wpAny_tryCatch (wpAny_holding (wpAny_bind (hcmp v h' tk _ _ hP hk fun bt cont => ?_))))
  refine wpAny_bind (wpAny_holding (wpAny_truthy_bool ?_))
  refine wpAny_bind (wpAny_letGo (wpAny_pure ?_))
  cases bt with
  | true =>
    simp only [if_true] at cont ⊢
    refine wpAny_bind ?_
    refine wpAny_updateSeq hS' rfl (wpAny_bind (wpAny_letGo ?_))
    rw [hname]
    refine wpAny_pure ⟨plainId_quiet PySem.F.plain_max_loop _, cont _ _ (W.frame _ _ _ hst' fun b hbf o e => ?_) (Heap.get?_update_self _ hS' rfl) fun b o hbI hbS e => ?_⟩
    · exact (Heap.get?_update_other _ _ (fun h : S = b => hSf (by rw [h]; exact hbf))).trans e
    · exact (Heap.get?_update_other _ _ (Ne.symm hbS)).trans (hk b o hbI e)
  | false =>
    simp only [Bool.false_eq_true, if_false] at cont ⊢
    refine wpAny_bind (wpAny_letGo ?_)
    rw [hname]
    exact wpAny_pure ⟨plainId_quiet PySem.F.plain_max_loop _, cont _ _ hst' hS' fun b o hbI _ e => hk b o hbI e⟩

theorem max_first {I S : Addr} {fp : List Addr} {n : Nat} {Pi : Nat → Value → Prop} {St : Nat → Heap → Prop} {R : Result → Shared → Prop} (W : Walks prog w A.in1 I fp [I] n Pi St) (hSI : S ≠ I) (hSf : S ∉ fp) (hn : 0 < n) {c : Nat} (hst : St 0 s.heap)
    (hS : s.heap.get? S = some { cls := .type "list", data := .seq #[] c })
    (cont : ∀ v h'' tk c', Pi 0 v → St 1 h'' → h''.get? S = some { cls := .type "list", data := .seq #[v, v] c' } → (∀ b o, b ≠ I → b ≠ S → s.heap.get? b = some o → h''.get? b = some o) →
        codeAny (model prog w) A (.builtin "max.loop" ⟨[.ref I, .none, .ref S], []⟩) R { s with heap := h'', toks := tk }) :
    codeAny (model prog w) A (.builtin "max.loop" ⟨[.ref I, .none, .ref S], []⟩) R s := by
  have hname : (toString "max" ++ toString ".loop" : String) = "max.loop" := by decide
  refine codeAny_builtin PySem.F.entry_max_loop ?_
  rw [Around.under_plainId PySem.F.plain_max_loop _]
  show wpAny _ A.in1 (seqItems? (.ref S) >>= _) _ _ s
  refine wpAny_bind (wpAny_seqItems hS rfl ?_)
  show wpAny _ A.in1 (tryCatch (pyNext (.ref I)) _ >>= _) _ _ s
  refine wpAny_bind (wpAny_tryCatch (W.item 0 s _ _ hn hst fun v h' tk hP hst' hk' => ?_))
  have hk : ∀ b o, b ≠ I → s.heap.get? b = some o → h'.get? b = some o := fun b o hb e => hk' b o (by simpa using hb) e
  have hS' := hk S _ hSI hS
  show wpAny _ A.in1 (updateSeq S (fun _ => #[v, v]) >>= _) _ _ _
  refine wpAny_bind ?_
  refine wpAny_updateSeq hS' rfl ?_
  rw [hname]
  refine wpAny_pure ⟨plainId_quiet PySem.F.plain_max_loop _, cont v _ _ _ hP (W.frame _ _ _ hst' fun b hbf o e => ?_) (Heap.get?_update_self _ hS' rfl) fun b o hbI hbS e => ?_⟩
  · exact (Heap.get?_update_other _ _ (fun h : S = b => hSf (by rw [h]; exact hbf))).trans e
  · exact (Heap.get?_update_other _ _ (Ne.symm hbS)).trans (hk b o hbI e)

theorem call_max_pair {L a b : Addr} {vs us : List (Str × Tok)} {Q : Value → Shared → Prop} (hh : A.handled = none) (hL : s.heap.IsList L #[.ref a, .ref b]) (ha : s.heap.IsList a (strValues vs).toArray) (hb : s.heap.IsList b (strValues us).toArray) (hu : A.units + 1 < cLine)
    (h : ∀ h' tk, (∀ b o, s.heap.get? b = some o → h'.get? b = some o) → Q (if (ltL (vs.map (·.1)) (us.map (·.1))) then .ref b else .ref a) { s with heap := h', toks := tk }) :
    wpAny (model prog w) A (call (.builtin "max") [.ref L]) Q E s := by
  have hname : (toString "max" ++ toString ".loop" : String) = "max.loop" := by decide
  have lL : L < s.heap.objs.size := by obtain ⟨o, e, _⟩ := hL; exact Heap.lt_size e
  refine call_function_tree PySem.F.kind_max PySem.F.plain_max PySem.F.entry_max (PySem.F.args_max1 _) ?_
  show wpAny _ A.in1 (Builtin.Builtins.bindParams "max" ["key", "default"] 0 ⟨[], []⟩ >>= _) _ _ s
  refine wpAny_bind (wpAny_of_eq (show Builtin.Builtins.bindParams "max" ["key", "default"] 0 ⟨[], []⟩ = pure [none, none] from rfl) ?_)
  refine wpAny_bind (wpAny_pure ?_)
  refine wpAny_bind (wpAny_pyIter_list hL ?_)
  refine wpAny_bind (wpAny_newObj_type ?_)
  rw [hname]
  have W := Walks.list (prog := prog) (w := w) (A := A.in1) hh s.heap.objs.size L (Nat.ne_of_lt lL) #[.ref a, .ref b]
  generalize hH1 : s.heap.push { cls := .type "list_iterator", data := .fields #[.ref L, .int 0 0] } = H1
  have z1 : H1.objs.size = s.heap.objs.size + 1 := by rw [← hH1, Heap.size_push]
  have hSI : H1.objs.size ≠ s.heap.objs.size := by rw [z1]; exact Nat.succ_ne_self _
  have hSf : H1.objs.size ∉ [s.heap.objs.size, L] := by
    rw [z1]; simp; exact Ne.symm (Nat.ne_of_lt (Nat.lt_succ_of_lt lL))
  have old : ∀ c o, s.heap.get? c = some o → H1.get? c = some o := fun c o e => by rw [← hH1]; exact Heap.get?_push_of_some _ e
  have old2 : ∀ c o, s.heap.get? c = some o → (H1.push { cls := .type "list", data := .seq ([] : List Value).toArray }).get? c = some o := fun c o e => Heap.get?_push_of_some _ (old c o e)
  have ne : ∀ c o, s.heap.get? c = some o → c ≠ s.heap.objs.size ∧ c ≠ H1.objs.size := fun c o e => ⟨Nat.ne_of_lt (Heap.lt_size e), by rw [z1]; exact Nat.ne_of_lt (Nat.lt_succ_of_lt (Heap.lt_size e))⟩
  refine wpAny_pure ⟨plainId_quiet PySem.F.plain_max_loop _, max_first W hSI hSf (by simp) ⟨⟨_, by rw [← hH1]; exact Heap.get?_push_of_some _ (Heap.get?_push_size _ rfl), rfl, rfl⟩, hL.at fun o e => old2 _ o e⟩ (Heap.get?_push_size _ rfl) ?_⟩
  intro v h1 tk1 c1 hv hst1 hS1 hk1
  obtain rfl : v = .ref a := by simpa using hv.symm
  have k1 : ∀ c o, s.heap.get? c = some o → h1.get? c = some o := fun c o e => hk1 c o (ne c o e).1 (ne c o e).2 (old2 c o e)
  refine max_next W hSI hSf (i := 1) (by simp) hst1 hS1 ?_
  intro v h2 tk2 Q2 E2 hv hk2 cont
  obtain rfl : v = .ref b := by simpa using hv.symm
  have k2 : ∀ c o, s.heap.get? c = some o → h2.get? c = some o := fun c o e => hk2 c o (ne c o e).1 (k1 c o e)
  refine rich_gt_list (hb.at fun o e => k2 _ o e) (ha.at fun o e => k2 _ o e) (by show A.units + 1 < cLine; exact hu) (cont _ ?_)
  intro h3 c3 hst3 hS3 hk3
  have k3 : ∀ c o, s.heap.get? c = some o → h3.get? c = some o := fun c o e => hk3 c o (ne c o e).1 (ne c o e).2 (k1 c o e)
  refine max_done W hSI hst3 hS3 ?_
  intro h4 tk4 hk4
  have := h h4 tk4 fun c o e => hk4 c o (ne c o e).1 (ne c o e).2 (k3 c o e)
  cases hbt : (ltL (vs.map (·.1)) (us.map (·.1))) with
  | true => rw [hbt] at this; exact this
  | false => rw [hbt] at this; exact this
end
end Mine

namespace Mine

section
variable {g : Cfg} {k : Nat} {W β β' : List Addr} {env : Env} {ρ : Rho} {H H' : List Cell} {s s' : Shared} {names : List (Str × NameKind)}

theorem pair_list {n i j : Nat} {a : Addr} (S : SimG g β H s) (e : H[n]? = some (.list [.loc i, .loc j]) ∨ H[n]? = some (.flist [.loc i, .loc j])) (ea : β[n]? = some a) : ∃ b c, s.heap.IsList a #[.ref b, .ref c] ∧ β[i]? = some b ∧ β[j]? = some c := by
  obtain ⟨vs, hl, r⟩ := cell_list S e ea
  obtain ⟨v, u, rfl, ⟨b, eb, rfl⟩, ⟨c, ec, rfl⟩⟩ := vls2 r
  exact ⟨b, c, hl, eb, ec⟩
theorem strs_list {n : Nat} {a : Addr} {xs : List Str} (S : SimG g β H s) (e : H[n]? = some (.list (xs.map .str)) ∨ H[n]? = some (.flist (xs.map .str))) (ea : β[n]? = some a) : ∃ l : List (Str × Tok), l.map (·.1) = xs ∧ s.heap.IsList a (strValues l).toArray := by
  obtain ⟨vs, hl, r⟩ := cell_list S e ea
  obtain ⟨l, e1, rfl⟩ := strs_of_vls r
  exact ⟨l, e1, hl⟩

theorem WC.minL {n i j : Nat} {xs ys : List Str} {Q : PV → List Cell → Prop} (e : H[n]? = some (.list [.loc i, .loc j]) ∨ H[n]? = some (.flist [.loc i, .loc j])) (ei : H[i]? = some (.list (xs.map .str)) ∨ H[i]? = some (.flist (xs.map .str)))
    (ej : H[j]? = some (.list (ys.map .str)) ∨ H[j]? = some (.flist (ys.map .str))) (h : Q (if ltL ys xs then .loc j else .loc i) H) : WC g k (.builtin "min") [.loc n] H Q := by
  intro A β s vs hA S V
  obtain ⟨v, rfl, ⟨a, ea, rfl⟩⟩ := vls1 V
  obtain ⟨b, c, hl, eb, ec⟩ := pair_list S e ea
  obtain ⟨l1, r1, h1⟩ := strs_list S ei eb
  obtain ⟨l2, r2, h2⟩ := strs_list S ej ec
  refine call_min_pair hA.1 hl h1 h2 (by have := hA.line; omega) fun h' tk hk => ?_
  rw [r1, r2]
  refine PE.grow S hk ?_ h
  cases ltL ys xs with
  | true => exact ⟨c, ec, rfl⟩
  | false => exact ⟨b, eb, rfl⟩
theorem WC.maxL {n i j : Nat} {xs ys : List Str} {Q : PV → List Cell → Prop} (e : H[n]? = some (.list [.loc i, .loc j]) ∨ H[n]? = some (.flist [.loc i, .loc j])) (ei : H[i]? = some (.list (xs.map .str)) ∨ H[i]? = some (.flist (xs.map .str)))
    (ej : H[j]? = some (.list (ys.map .str)) ∨ H[j]? = some (.flist (ys.map .str))) (h : Q (if ltL xs ys then .loc j else .loc i) H) : WC g k (.builtin "max") [.loc n] H Q := by
  intro A β s vs hA S V
  obtain ⟨v, rfl, ⟨a, ea, rfl⟩⟩ := vls1 V
  obtain ⟨b, c, hl, eb, ec⟩ := pair_list S e ea
  obtain ⟨l1, r1, h1⟩ := strs_list S ei eb
  obtain ⟨l2, r2, h2⟩ := strs_list S ej ec
  refine call_max_pair hA.1 hl h1 h2 (by have := hA.line; omega) fun h' tk hk => ?_
  rw [r1, r2]
  refine PE.grow S hk ?_ h
  cases ltL xs ys with
  | true => exact ⟨c, ec, rfl⟩
  | false => exact ⟨b, eb, rfl⟩
end
end Mine

namespace Mine

theorem slot_map_init : Slot "map" "__init__" "object.__init__" :=
  .of (owner := "object") (n := "__init__") (by rw [typeLookup_type, builtinLookup_eq_fast]; kernel_rfl) (by decide +kernel) (by decide +kernel) (by decide +kernel)
    (by first | exact .inl (by decide +kernel) | exact .inr (by decide +kernel)) (by rw [isSubtype_type]; kernel_rfl)
theorem slot_map_iter : Slot "map" "__iter__" "map.__iter__" :=
  .of (owner := "map") (n := "__iter__") (by rw [typeLookup_type, builtinLookup_eq_fast]; kernel_rfl) (by decide +kernel) (by decide +kernel) (by decide +kernel)
    (by first | exact .inl (by decide +kernel) | exact .inr (by decide +kernel)) (by rw [isSubtype_type]; kernel_rfl)
theorem slot_map_next : Slot "map" "__next__" "map.__next__" :=
  .of (owner := "map") (n := "__next__") (by rw [typeLookup_type, builtinLookup_eq_fast]; kernel_rfl) (by decide +kernel) (by decide +kernel) (by decide +kernel)
    (by first | exact .inl (by decide +kernel) | exact .inr (by decide +kernel)) (by rw [isSubtype_type]; kernel_rfl)
theorem entry_map_next : entryFor table "map.__next__" = some Builtin.«map.__next__» := entryFor_of_tree (by kernel_rfl)
/-- as the kit's entryFor_alias, each side by the kit's quick tables -/
theorem entry_alias {id id' : String} {b : Builtin} (h1 : entriesT.find (code id) = none) (h2 : id.cutAt '#' = [id])
    (h3 : String.map (fun c => if (c.isAlphanum || c == '_' || c == '.') = true then c else '_') id = id) (h4 : Manifest.canonical id = id')
    (h5 : entriesT.find (code id') = some b) : entryFor table id = some b :=
  entryFor_alias (id' := id') (by rw [fastTable_eq_tree]; exact h1) h2 (by rw [h3, h4]; exact String.append_empty) (by rw [fastTable_eq_tree]; exact h5)
theorem entry_map_iter : entryFor table "map.__iter__" = some Builtin.«dict_keyiterator.__iter__» :=
  entry_alias (id' := "dict_keyiterator.__iter__") (by kernel_rfl) rfl (by decide +kernel) (by rw [Fast.canonicalQ_eq]; decide +kernel) (by kernel_rfl)
theorem mro_map : mroOf (.type "map") = pure [.type "map", .type "object"] := by rw [mroOf_type]; kernel_rfl
theorem lookup_map_new : typeLookup (.type "map") "__new__" = pure (some (.builtin "map.__new__")) := by rw [typeLookup_type, builtinLookup_eq_fast]; kernel_rfl
theorem called_map : TypeCalled "map" "map.__new__" "object.__init__" :=
  ⟨by decide +kernel, by decide +kernel, ⟨_, _, mro_map⟩, madeBy_type mro_map lookup_map_new (by decide +kernel), by decide +kernel, by rw [isSubtype_type]; kernel_rfl, slot_map_init⟩
theorem typeCall_map_2 (a b : Value) : checkTypeCall "map" ⟨[a, b], []⟩ = pure () := by unfold checkTypeCall; rw [S.signatureZ_eq]; kernel_rfl
theorem kind_map_new : builtinKind "map.__new__" = some .builtinFn := by unfold builtinKind; rw [S.findZ_eq]; decide +kernel
theorem split_map_new : splitId "map.__new__" = some ("map", "__new__") := by decide +kernel
theorem newCall_map_2 (a b : Value) : checkBuiltinCall "map.__new__" ⟨[.type "map", a, b], []⟩ = pure () := by
  unfold checkBuiltinCall; rw [kind_map_new, split_map_new, S.signatureZ_eq, S.findZ_eq, S.canonicalZ_eq]; kernel_rfl
theorem entry_map_new : entryFor table "map.__new__" = some Builtin.«map.__new__» := entryFor_of_tree (by kernel_rfl)
theorem args_map_next (a : Value) : argsOk "map.__next__" ⟨[a], []⟩ := by unfold argsOk; rw [S.signatureZ_eq]; kernel_rfl
theorem args_map_iter (a : Value) : argsOk "map.__iter__" ⟨[a], []⟩ := by unfold argsOk; rw [S.signatureZ_eq]; kernel_rfl
theorem sub_map : isSubtype (.type "map") (.type "map") = pure true := by rw [isSubtype_type]; kernel_rfl
theorem map_no_len : typeLookup (.type "map") "__len__" = pure none := by rw [typeLookup_type, builtinLookup_eq_fast]; kernel_rfl
theorem map_no_hint : typeLookup (.type "map") "__length_hint__" = pure none := by rw [typeLookup_type, builtinLookup_eq_fast]; kernel_rfl

theorem meets_map_new (f : Value) (l : Addr) (xs : Array Value) :
    Meets (Builtin.«map.__new__» ⟨[.type "map", f, .ref l], []⟩) (fun _ R s => s.heap.IsList l xs ∧
      R (.ok (.ret (.ref (s.heap.objs.size + 1 + 1)))) { s with heap := ((s.heap.push { cls := .type "list_iterator", data := .fields #[.ref l, .int 0 0] }).push { cls := .type "tuple", data := .seq #[.ref s.heap.objs.size] }).push { cls := .type "map", data := .fields #[.ref (s.heap.objs.size + 1), f] } }) :=
  .of_wp fun prog w A R s h => by
    obtain ⟨hp, g, d, tk, os⟩ := s; obtain ⟨hl1, h⟩ := h
    have hsub := sub_map
    have hL1 : Heap.IsList (Shared.heap ⟨hp, g, d, tk, os⟩) l xs := hl1
    wp_walk using wpAny_pyIter_list hL1
    refine ⟨_, rfl, ?_⟩
    simpa [Heap.size_push] using h

section
variable {prog : Program} {w : World} {A : Around} {E : Value → Shared → Prop} {s : Shared}
noncomputable abbrev IsMap (h : Heap) (M TI it : Addr) (f : Value) : Prop := h.get? M = some { cls := .type "map", data := .fields #[.ref TI, f] } ∧ h.get? TI = some { cls := .type "tuple", data := .seq #[.ref it] }

theorem map_next_item {M TI it L : Addr} {f x : Value} {i : Nat} {xs : Array Value} {Q : Value → Shared → Prop} (hM : IsMap s.heap M TI it f) (hi : s.heap.IsListIter it L i) (hl : s.heap.IsList L xs) (hx : xs[i]? = some x)
    (h : ∀ h', h'.IsListIter it L (i + 1) → Heap.SameBut it s.heap h' → wpAny (model prog w) A (call f [x]) Q E { s with heap := h' }) (hMi : M ≠ it) :
    wpAny (model prog w) A (Builtin.«map.__next__» ⟨[.ref M], []⟩) (fun fin s' => ∃ v, fin = .done (.ret v) ∧ Q v s') E s := by
  obtain ⟨hM1, hT1⟩ := hM
  show wpAny _ _ (field (.ref M) 0 >>= _) _ _ s
  refine wpAny_bind (wpAny_field hM1 rfl (x := .ref TI) rfl ?_)
  show wpAny _ _ (seqItems? (.ref TI) >>= _) _ _ s
  refine wpAny_bind (wpAny_seqItems hT1 rfl ?_)
  have hM2 : ∀ h', Heap.SameBut it s.heap h' → h'.get? M = some { cls := .type "map", data := .fields #[.ref TI, f] } := fun h' hs => (hs.2 M hMi).trans hM1
  dsimp only
  refine wpAny_bind ?_
  rw [← Array.forIn_toList]
  show wpAny _ _ (forIn [Value.ref it] #[] _) _ _ s
  rw [List.forIn_cons]
  refine wpAny_bind (wpAny_bind (wpAny_holding (wpAny_nextOf_list_item hi hl hx fun h' hi' hs' => wpAny_pure ?_)))
  dsimp only
  rw [List.forIn_nil]
  refine wpAny_pure ?_
  show wpAny _ _ (field (.ref M) 1 >>= _) _ _ _
  refine wpAny_bind (wpAny_field (hM2 h' hs') rfl (x := f) rfl ?_)
  refine wpAny_bind (wpAny_holding (wpAny_mono (h h' hi' hs') (fun v s2 hq => ?_) fun _ _ x => x))
  exact wpAny_bind (wpAny_letGo (wpAny_pure ⟨v, rfl, hq⟩))

theorem map_next_end {M TI it L : Addr} {f : Value} {xs : Array Value} {Q : Option Value → Shared → Prop} (hh : A.handled = none) (hM : IsMap s.heap M TI it f) (hi : s.heap.IsListIter it L xs.size) (hl : s.heap.IsList L xs)
    (h : ∀ h', Heap.ExtBut it s.heap h' → Q none { s with heap := h' }) : wpAny (model prog w) A (pyNext (.ref M)) Q E s := by
  obtain ⟨hM1, hT1⟩ := hM
  have hT : s.TypeIs (.ref M) "map" := ⟨_, hM1, rfl⟩
  unfold pyNext
  refine wpAny_bind (wpAny_attempt (wpAny_callSpecial?_slot (name := Str.ofString "__next__") hT slot_map_next
    (wpAny_call_entry slot_map_next hT entry_map_next ?_ (args_map_next _))))
  show wpAny _ _ (field (.ref M) 0 >>= _) _ _ s
  refine wpAny_bind (wpAny_field hM1 rfl (x := .ref TI) rfl ?_)
  show wpAny _ _ (seqItems? (.ref TI) >>= _) _ _ s
  refine wpAny_bind (wpAny_seqItems hT1 rfl ?_)
  dsimp only
  refine wpAny_bind ?_
  rw [← Array.forIn_toList]
  show wpAny _ _ (forIn [Value.ref it] #[] _) _ _ s
  rw [List.forIn_cons]
  refine wpAny_bind (wpAny_bind (wpAny_holding (wpAny_nextOf_list_end hh hi hl (by simp) fun h' e hx' he => ?_)))
  obtain ⟨o, ho, hc⟩ := he
  refine wpAny_bind (wpAny_isInstance (T := "StopIteration") (b := true) ⟨o, ho, hc⟩ isSubtype_stop ?_)
  exact wpAny_pure (h _ hx')

theorem pyNext_map {M TI it L : Addr} {f x : Value} {i : Nat} {xs : Array Value} {Q : Option Value → Shared → Prop} (hM : IsMap s.heap M TI it f) (hi : s.heap.IsListIter it L i) (hl : s.heap.IsList L xs) (hx : xs[i]? = some x) (hMi : M ≠ it)
    (h : ∀ h' E', h'.IsListIter it L (i + 1) → Heap.SameBut it s.heap h' → wpAny (model prog w) A.in1 (call f [x]) (fun v s2 => Q (some v) s2) E' { s with heap := h' }) :
    wpAny (model prog w) A (pyNext (.ref M)) Q E s := by
  have hT : s.TypeIs (.ref M) "map" := ⟨_, hM.1, rfl⟩
  unfold pyNext
  refine wpAny_bind (wpAny_attempt (wpAny_callSpecial?_slot (name := Str.ofString "__next__") hT slot_map_next
    (wpAny_call_entry slot_map_next hT entry_map_next ?_ (args_map_next _))))
  exact map_next_item hM hi hl hx (fun h' a b => wpAny_mono (h h' _ a b) (fun v s2 q => wpAny_pure q) fun _ _ x => x) hMi
end
end Mine

namespace Mine

section
variable {prog : Program} {w : World} {A : Around} {E : Value → Shared → Prop} {s : Shared} {I : Addr} {fp wr : List Addr} {G : Array GenState → Array GenState → Prop} {n : Nat} {P : Nat → Value → Prop} {St : Nat → Shared → Prop}
open AutoSeq1 (wpAny_loadPart')

theorem wpAny_collect_map {Q : List Value → Shared → Prop} (W : WalksS prog w A.in1 I fp wr G n P St) (hT : ∀ i s, St i s → s.TypeIs (.ref I) "map") (hst : St 0 s) (hfp : ∀ b ∈ fp, b < s.heap.objs.size) (hI : I ∈ fp)
    (hQ : ∀ s' acc, Moved wr G s s' → ItemsOf P acc n → Q acc.toList s') (hn : n ≤ sizeLine) : wpAny (model prog w) A (collect (.ref I)) Q E s := by
  have hSf : s.heap.objs.size ∉ fp := fun hm => Nat.lt_irrefl _ (hfp _ hm)
  have hSI : s.heap.objs.size ≠ I := fun e => hSf (e ▸ hI)
  unfold collect
  refine wpAny_bind (wpAny_runValue (codeAny_builtin PySem.F.entry_proto_collect ?_))
  rw [Around.under_plainId PySem.F.plain_proto_collect _]
  show wpAny _ A.in1 (newList [] >>= fun l => again (.builtin "list.__iadd__" ⟨[l, .ref I], []⟩)) _ _ s
  refine wpAny_bind (wpAny_newObj_type ?_)
  refine wpAny_pure ⟨plainId_quiet PySem.F.plain_list_iadd _, codeAny_builtin PySem.F.entry_list_iadd ?_⟩
  rw [Around.under_plainId PySem.F.plain_list_iadd _]
  have hst₁ := W.frame 0 s (s.heap.push { cls := .type "list", data := .seq ([] : List Value).toArray }) s.toks hst (Nat.le_refl _) fun b _ o e => Heap.get?_push_of_some _ e
  show wpAny _ A.in1 (Builtin.List.listExtendWith (.ref s.heap.objs.size) (.ref I) (.ref s.heap.objs.size)) _ _ _
  unfold Builtin.List.listExtendWith
  refine wpAny_bind (wpAny_typeOf (hT 0 _ hst₁) ?_)
  have h1 : Builtin.List.listSameRef (.ref s.heap.objs.size) (.ref I) = false := by simp [Builtin.List.listSameRef, hSI]
  have h2 : (Value.type "map" == Value.type "list") = false := by decide
  have h3 : (Value.type "map" == Value.type "tuple") = false := by decide
  simp only [h1, h2, h3, Bool.or_false, Bool.false_eq_true, if_false]
  refine wpAny_bind (W.self 0 _ _ _ hst₁ ?_)
  refine wpAny_bind (wpAny_holding ?_)
  unfold Builtin.List.listLengthHint
  refine wpAny_bind (wpAny_specialOf (hT 0 _ hst₁) map_no_len ?_)
  show wpAny _ A.in1 (specialOf (Value.ref I) (Str.ofString "__length_hint__") >>= _) _ _ _
  refine wpAny_bind (wpAny_specialOf (hT 0 _ hst₁) map_no_hint ?_)
  refine wpAny_pure ?_
  show wpAny _ A.in1 (rule "list.extend.makes-room" >>= fun _ => Builtin.List.listTouch (.ref s.heap.objs.size) >>= fun _ =>
    again (.builtin "list.extend.loop" ⟨[.ref s.heap.objs.size, .ref I, .ref s.heap.objs.size], []⟩)) _ _ _
  refine wpAny_bind (wpAny_rule ?_)
  have hS₁ : (s.heap.push { cls := .type "list", data := .seq ([] : List Value).toArray }).get? s.heap.objs.size = some { cls := .type "list", data := .seq ([] : List Value).toArray } := Heap.get?_push_size _ rfl
  refine wpAny_bind ?_
  show wpAny _ A.in1 (updateSeq s.heap.objs.size (·.push .none) >>= fun _ => updateSeq s.heap.objs.size (·.pop)) _ _ _
  refine wpAny_bind (wpAny_updateSeq hS₁ rfl ?_)
  have hS₂ := Heap.get?_update_self (Obj.mapSeq (·.push Value.none)) hS₁ rfl
  refine wpAny_updateSeq hS₂ rfl ?_
  have hS₃ := Heap.get?_update_self (Obj.mapSeq (·.pop)) hS₂ rfl
  have oth : ∀ b o, b ≠ s.heap.objs.size → (s.heap.push { cls := .type "list", data := .seq ([] : List Value).toArray }).get? b = some o →
      (((s.heap.push { cls := .type "list", data := .seq ([] : List Value).toArray }).update s.heap.objs.size (Obj.mapSeq (·.push Value.none))).update s.heap.objs.size (Obj.mapSeq (·.pop))).get? b = some o :=
    fun b o hb e => (Heap.get?_update_other _ _ (Ne.symm hb)).trans ((Heap.get?_update_other _ _ (Ne.symm hb)).trans e)
  refine wpAny_pure ⟨plainId_quiet PySem.F.plain_extend_loop _, codeAny_extend_loopS W hn _ hSf _ n 0 _ _ _ rfl (Nat.zero_le _)
    (W.frame 0 ({ s with heap := s.heap.push { cls := .type "list", data := .seq ([] : List Value).toArray } } : Shared) _ s.toks hst₁ (Nat.le_refl _) fun b hb o e => oth b o (fun h => hSf (h ▸ hb)) e) hS₃ (ItemsOf.nil P) fun s' acc' c' hm hS' hacc => ?_⟩
  show wpAny _ A (load s.heap.objs.size >>= _) _ _ s'
  refine wpAny_bind (wpAny_load hS' ?_)
  refine wpAny_pure (hQ s' acc' (Moved.drop_new (o := { cls := .type "list", data := .seq ([] : List Value).toArray }) (tk := s.toks) (Moved.trans W.gtrans ((Moved.refl W.grefl).then_heap (by first | exact Nat.le_refl _ | exact Nat.le_succ _ | omega) fun b o hb e => ?_) hm) (Nat.le_refl _)) hacc)
  exact oth b o (fun h => hb (h ▸ List.mem_cons_self)) e

theorem call_tuple_map {Q : Value → Shared → Prop} (W : WalksS prog w A.in1.in1.in1 I fp wr G n P St) (hT : ∀ i s, St i s → s.TypeIs (.ref I) "map") (hst : St 0 s) (hfp : ∀ b ∈ fp, b < s.heap.objs.size) (hI : I ∈ fp)
    (hQ : ∀ s' acc, Moved wr G s s' → ItemsOf P acc n → Q (.ref s'.heap.objs.size) { s' with heap := s'.heap.push { cls := .type "tuple", data := .seq acc } }) (hsz : n ≤ sizeLine) :
    wpAny (model prog w) A (call (.type "tuple") [.ref I]) Q E s := by
  refine callType_codes (Q₁ := fun obj s₁ => s₁.TypeIs obj "tuple" ∧ Q obj s₁) PySem.F.called_tuple (PySem.F.typeCall_tuple_1 _) PySem.F.entry_object_init
    ?_ fun obj s₁ h₁ => ⟨h₁.1, PySem.F.args_object_init_2 obj _, object_init_meets PySem.F.called_tuple.init.lookup PySem.F.called_tuple.made (by decide) prog w A.in1 _ s₁ ⟨h₁.1, rfl, h₁.2⟩⟩
  refine codeAny_of_tree ?_
  show wpAny _ A.in1.in1 (do checkBuiltinCall "tuple.__new__" ⟨[.type "tuple", .ref I], []⟩; again (.builtin "tuple.__new__" ⟨[.type "tuple", .ref I], []⟩)) _ _ s
  refine wpAny_bind (wpAny_of_eq (PySem.F.newCall_tuple_1 _) (wpAny_pure ⟨plainId_quiet PySem.F.plain_tuple_new _, codeAny_builtin PySem.F.entry_tuple_new ?_⟩))
  rw [Around.under_plainId PySem.F.plain_tuple_new _]
  have hsub := sub_tuple_self
  have hinit := init_tuple_lookup
  have hmh := madeHere_tuple
  have hTI := hT 0 s hst
  wp_walk using wpAny_typeOf hTI, wpAny_collect_map (hn := hsz) W hT hst hfp hI
  intro s' acc hm hacc
  show wpAny _ _ (Builtin.Tuple.tupleExact acc.toList.toArray >>= fun v => ret v) _ _ _
  unfold Builtin.Tuple.tupleExact
  refine wpAny_bind (wpAny_newObj_type ?_ (by show acc.toList.toArray.size ≤ sizeLine; simp only [Array.toArray_toList]; rw [hacc.1]; exact hsz))
  refine wpAny_pure ?_
  have e : acc.toList.toArray = acc := by simp
  rw [e]
  exact ⟨⟨_, Heap.get?_push_size _ rfl, rfl⟩, hQ s' acc hm hacc⟩
end
end Mine

namespace Mine


section
variable {g : Cfg} {k : Nat} {W β β' : List Addr} {env : Env} {ρ : Rho} {H H' : List Cell} {s s' : Shared}

theorem c_S_IFMT (G : Gd g) {m : Int} {Q : PV → List Cell → Prop} (h : Q (.int (Builtin.bitAnd m 61440)) H) : WC g (k + 1) (.ref 28) [.int m] H Q := by
  refine WC.def (xs := ["mode"]) G rfl rfl rfl (by kernel_rfl) ?_ rfl (by decide) rfl rfl rfl rfl rfl rfl rfl rfl ?_
  · exact vs1 fun _ => rfl
  intro env hF hE
  refine WSS.cons (WS.ret (WE.binop (WE.lcl hE (WE.int (WO2.andI h)))))

/-! filemode -/
noncomputable abbrev Bit := Int × Str
noncomputable def charOf (m : Int) (i : Nat) : List Bit → Str
  | [] => if i = 0 then "?" else "-"
  | (b, c) :: r => if (if i = 0 then Builtin.bitAnd m 61440 == b else Builtin.bitAnd m b == b) then c else charOf m i r
noncomputable def chars (m : Int) : Nat → List (List Bit) → List Str
  | _, [] => []
  | i, t :: r => charOf m i t :: chars m (i + 1) r
noncomputable def KBit (g : Cfg) (v : Value) (b : Bit) : Prop := ∃ a t u, v = .ref a ∧ KTup g a [.int b.1 t, .str b.2 u]
noncomputable def KBits (g : Cfg) : List Value → List Bit → Prop
  | [], [] => True
  | v :: vs, b :: bs => KBit g v b ∧ KBits g vs bs
  | _, _ => False
noncomputable def KRow (g : Cfg) (v : Value) (t : List Bit) : Prop := ∃ a us, v = .ref a ∧ KTup g a us ∧ KBits g us t
noncomputable def KRows (g : Cfg) : List Value → List (List Bit) → Prop
  | [], [] => True
  | v :: vs, b :: bs => KRow g v b ∧ KRows g vs bs
  | _, _ => False

noncomputable def fmTable : List (List Bit) := [[(40960, "l"), (49152, "s"), (32768, "-"), (24576, "b"), (16384, "d"), (8192, "c"), (4096, "p")], [(256, "r")], [(128, "w")], [(2112, "s"), (2048, "S"), (64, "x")], [(32, "r")], [(16, "w")], [(1032, "s"), (1024, "S"), (8, "x")], [(4, "r")], [(2, "w")], [(513, "t"), (512, "T"), (1, "x")]]

theorem kbit {a : Addr} {b : Bit} {o : Obj} {t u : Tok} {n : Nat} (h : (KK g.w.params).lookup a = some o) (hc : o.cls = .type "tuple") (hd : o.data = .seq [.int b.1 t, .str b.2 u].toArray n) : KBit g (.ref a) b := ⟨a, t, u, rfl, o, h, hc, n, hd⟩
theorem krow {a : Addr} {us : List Value} {t : List Bit} {o : Obj} {n : Nat} (h : (KK g.w.params).lookup a = some o) (hc : o.cls = .type "tuple") (hd : o.data = .seq us.toArray n) (hb : KBits g us t) : KRow g (.ref a) t := ⟨a, us, rfl, ⟨o, h, hc, n, hd⟩, hb⟩

theorem k_table : ∃ us, KTup g 61 us ∧ KRows g us fmTable := by
  refine ⟨[.ref 36, .ref 38, .ref 40, .ref 44, .ref 46, .ref 48, .ref 52, .ref 54, .ref 56, .ref 60], ⟨_, rfl, rfl, _, rfl⟩, ?_⟩
  refine ⟨krow rfl rfl rfl (us := [.ref 29, .ref 30, .ref 31, .ref 32, .ref 33, .ref 34, .ref 35]) ⟨kbit rfl rfl rfl, kbit rfl rfl rfl, kbit rfl rfl rfl, kbit rfl rfl rfl, kbit rfl rfl rfl, kbit rfl rfl rfl, kbit rfl rfl rfl, trivial⟩, ?_⟩
  refine ⟨krow rfl rfl rfl (us := [.ref 37]) ⟨kbit rfl rfl rfl, trivial⟩, ?_⟩
  refine ⟨krow rfl rfl rfl (us := [.ref 39]) ⟨kbit rfl rfl rfl, trivial⟩, ?_⟩
  refine ⟨krow rfl rfl rfl (us := [.ref 41, .ref 42, .ref 43]) ⟨kbit rfl rfl rfl, kbit rfl rfl rfl, kbit rfl rfl rfl, trivial⟩, ?_⟩
  refine ⟨krow rfl rfl rfl (us := [.ref 45]) ⟨kbit rfl rfl rfl, trivial⟩, ?_⟩
  refine ⟨krow rfl rfl rfl (us := [.ref 47]) ⟨kbit rfl rfl rfl, trivial⟩, ?_⟩
  refine ⟨krow rfl rfl rfl (us := [.ref 49, .ref 50, .ref 51]) ⟨kbit rfl rfl rfl, kbit rfl rfl rfl, kbit rfl rfl rfl, trivial⟩, ?_⟩
  refine ⟨krow rfl rfl rfl (us := [.ref 53]) ⟨kbit rfl rfl rfl, trivial⟩, ?_⟩
  refine ⟨krow rfl rfl rfl (us := [.ref 55]) ⟨kbit rfl rfl rfl, trivial⟩, ?_⟩
  refine ⟨krow rfl rfl rfl (us := [.ref 57, .ref 58, .ref 59]) ⟨kbit rfl rfl rfl, kbit rfl rfl rfl, kbit rfl rfl rfl, trivial⟩, trivial⟩

theorem ite_b {b : Bool} {p q : Prop} (h1 : b = true → p) (h2 : b = false → q) : if b then p else q := by cases b with
  | true => exact h1 rfl
  | false => exact h2 rfl

theorem chars_len (m : Int) : ∀ (i : Nat) (t : List (List Bit)), (chars m i t).length = t.length
  | _, [] => rfl
  | i, _ :: r => by simp [chars, chars_len m (i + 1) r]

theorem c_filemode (G : Gd g) {m : Int} {Q : PV → List Cell → Prop} (hj : JoinOk "" (chars m 0 fmTable) = true) (h : Q (.str (Txt.join "" (chars m 0 fmTable))) (H ++ [.list ((chars m 0 fmTable).map .str)])) : WC g (k + 2) (.ref 68) [.int m] H Q := by
  refine WC.def (xs := ["mode"]) G rfl rfl rfl (by kernel_rfl) ?_ rfl (by decide) rfl rfl rfl rfl rfl rfl rfl rfl ?_
  · exact vs1 fun _ => rfl
  intro env hF hE
  obtain ⟨us, hK, hR⟩ := k_table (g := g)
  refine WSS.cons (WS.asg hF (WE.list (WLs.nil ⟨by simp, ?_⟩)))
  refine WSS.cons (WS.forTW (fun xss ρ H' => Ex4 fun (i : Nat) (vs : List Value) (tabs : List (List Bit)) (done : List Str) => And5 (xss = enumPs i (vs.map pvOf)) (KRows g vs tabs) (done ++ chars m i tabs = chars m 0 fmTable) (ρ = ([("mode", .int m), ("perm", .loc H.length)] : Rho)) (H' = H ++ [.list (done.map .str)])) ?_ ?_ ?_)
  · refine WItT.enumK G hK (WE.bi G hE (gn_enumerate _) bb_enumerate ⟨rfl, WLs.one (WE.glb G hE (gl__filemode_table _) ⟨rfl, ?_⟩)⟩)
    exact ⟨_, Sub.refl _, 0, us, fmTable, [], rfl, hR, rfl, rfl, rfl⟩
  · rintro x rest ρ' H' ⟨i, vs, tabs, done, e, hr, hc, rfl, rfl⟩
    cases vs with
    | nil => cases e
    | cons v vs =>
    cases tabs with
    | nil => exact hr.elim
    | cons t tabs =>
    obtain ⟨hv, hr⟩ := hr
    obtain ⟨a, us2, rfl, hK2, hB⟩ := hv
    simp only [List.map_cons, enumPs, List.cons.injEq] at e
    obtain ⟨rfl, rfl⟩ := e
    refine ⟨rfl, WA.nm hF (WA.nm hF ?_)⟩
    have hlen : done.length ≤ 10 := by
      have := congrArg List.length hc
      rw [List.length_append, chars_len, chars_len] at this
      have e10 : fmTable.length = 10 := rfl
      omega
    have step : ∀ ρ3 c, charOf m i t = c → Sub ([("mode", .int m), ("perm", .loc H.length)] : Rho) ρ3 →
        Up (fun ρ H' => Ex4 fun (i' : Nat) (vs' : List Value) (tabs : List (List Bit)) (done : List Str) => And5 (enumPs (i + 1) (vs.map pvOf) = enumPs i' (vs'.map pvOf)) (KRows g vs' tabs) (done ++ chars m i' tabs = chars m 0 fmTable) (ρ = ([("mode", .int m), ("perm", .loc H.length)] : Rho)) (H' = H ++ [.list (done.map .str)])) ρ3
          ((H ++ [Cell.list (done.map PV.str)]).set H.length (Cell.list (done.map PV.str ++ [PV.str c]))) := fun ρ3 c hcc hs => by
      refine ⟨_, hs, i + 1, vs, tabs, done ++ [c], rfl, hr, ?_, rfl, ?_⟩
      · rw [← hc, chars, hcc, List.append_assoc]; rfl
      · simp
    have hcell : (H ++ [Cell.list (done.map PV.str)])[H.length]? = some (.list (done.map .str)) := by simp
    refine WSS.cons (WS.forKW G (fun rest ρ' H'' => Ex2 fun us3 bits => And5 (rest = us3.map pvOf) (KBits g us3 bits) (charOf m i bits = charOf m i t) (ρ' = ([("mode", .int m), ("perm", .loc H.length), ("index", .int i)] : Rho)) (H'' = H ++ [.list (done.map .str)])) ?_ ?_ ?_)
    · exact WE.lcl hE ⟨a, us2, rfl, hK2, Up.mk ⟨us2, t, rfl, hB, rfl, rfl, rfl⟩ ⟨rfl, rfl, rfl, trivial⟩⟩
    · rintro x rest ρ' H' ⟨us3, bits, e, hb, hcc, rfl, rfl⟩
      cases us3 with
      | nil => cases e
      | cons u us3 =>
      cases bits with
      | nil => exact hb.elim
      | cons b bits =>
      obtain ⟨hu, hb⟩ := hb
      obtain ⟨c, t1, t2, rfl, hK3⟩ := hu
      simp only [List.map_cons, List.cons.injEq] at e
      obtain ⟨rfl, rfl⟩ := e
      refine WA.unpackK G hK3 rfl (WA.nm hF (WA.nm hF ?_))
      refine WSS.cons (WS.ite (WT.cmp (WE.lcl hE (WE.int (WO2.eqI ⟨_, rfl, ite_b (fun hi => ?_) (fun hi => ?_)⟩)))))
      · refine WSS.cons (WS.ite (WT.cmp (WE.callK G hE (gl_S_IFMT _) (kp_28 _) (WLs.one (WE.lcl hE (c_S_IFMT G (WE.lcl hE (WO2.eqI ⟨_, rfl, ite_b (fun hm => ?_) (fun hm => ?_)⟩))))))))
        · refine WSS.cons (WS.ex (WE.meth (WE.lcl hE ⟨GM.append hcell, WLs.one (WE.lcl hE (WC.append hcell (by simp; omega) ⟨by simp, by simp, ?_⟩))⟩)))
          refine WSS.cons (WS.brk (WSS.nil (step _ _ ?_ (SubL.sub ⟨rfl, rfl, trivial⟩))))
          have hi0 : i = 0 := by simpa using hi
          subst hi0
          rw [← hcc]
          show (if (Builtin.bitAnd m 61440 == b.1) = true then b.2 else charOf m 0 bits) = b.2
          rw [if_pos hm]
        · refine WSS.nil (WSS.nil (WSS.nil ?_))
          refine LQ.next (Up.mk ⟨us3, bits, rfl, hb, ?_, rfl, rfl⟩ ⟨rfl, rfl, rfl, trivial⟩)
          have hi0 : i = 0 := by simpa using hi
          subst hi0
          rw [← hcc]
          show charOf m 0 bits = if (Builtin.bitAnd m 61440 == b.1) = true then b.2 else charOf m 0 bits
          rw [if_neg (by rw [hm]; decide)]
      · have hi0 : i ≠ 0 := by intro h; subst h; cases hi
        refine WSS.cons (WS.ite (WT.cmp (WE.binop (WE.lcl hE (WE.lcl hE (WO2.andI (WE.lcl hE (WO2.eqI ⟨_, rfl, ite_b (fun hm => ?_) (fun hm => ?_)⟩))))))))
        · refine WSS.cons (WS.ex (WE.meth (WE.lcl hE ⟨GM.append hcell, WLs.one (WE.lcl hE (WC.append hcell (by simp; omega) ⟨by simp, by simp, ?_⟩))⟩)))
          refine WSS.cons (WS.brk (WSS.nil (step _ _ ?_ (SubL.sub ⟨rfl, rfl, trivial⟩))))
          rw [← hcc, charOf, if_neg hi0, if_pos hm]
        · refine WSS.nil (WSS.nil (WSS.nil ?_))
          refine LQ.next (Up.mk ⟨us3, bits, rfl, hb, ?_, rfl, rfl⟩ ⟨rfl, rfl, rfl, trivial⟩)
          rw [← hcc, charOf, if_neg hi0, if_neg (by rw [hm]; decide)]
    · rintro ρ' H' ⟨us3, bits, e, hb, hcc, rfl, rfl⟩
      cases us3 with
      | cons _ _ => cases e
      | nil =>
      cases bits with
      | cons _ _ => exact hb.elim
      | nil =>
      refine WSS.cons (WS.ite (WT.cmp (WE.lcl hE (WE.int (WO2.eqI ⟨_, rfl, ite_b (fun hi => ?_) (fun hi => ?_)⟩)))))
      · refine WSS.cons (WS.ex (WE.meth (WE.lcl hE ⟨GM.append hcell, WLs.one (WE.strc (WC.append hcell (by simp; omega) ⟨by simp, by simp, ?_⟩))⟩)))
        refine WSS.nil (WSS.nil (WSS.nil (step _ _ ?_ (SubL.sub ⟨rfl, rfl, trivial⟩))))
        have hi0 : i = 0 := by simpa using hi
        rw [← hcc, charOf, if_pos hi0]
      · refine WSS.cons (WS.ex (WE.meth (WE.lcl hE ⟨GM.append hcell, WLs.one (WE.strc (WC.append hcell (by simp; omega) ⟨by simp, by simp, ?_⟩))⟩)))
        refine WSS.nil (WSS.nil (WSS.nil (step _ _ ?_ (SubL.sub ⟨rfl, rfl, trivial⟩))))
        have hi0 : i ≠ 0 := by intro h; subst h; cases hi
        rw [← hcc, charOf, if_neg hi0]
  · rintro ρ' H' ⟨i, vs, tabs, done, e, hr, hc, rfl, rfl⟩
    cases vs with
    | cons _ _ => cases e
    | nil =>
    cases tabs with
    | cons _ _ => exact hr.elim
    | nil =>
    simp only [chars, List.append_nil] at hc
    subst hc
    refine WSS.nil (WSS.cons (WS.ret ?_))
    with_reducible apply WE.meth
    case he => rfl
    case hp => rfl
    refine WE.strc ⟨GM.str PySem.F.slot_str_join PySem.F.type_str_join, ?_⟩
    exact WLs.one (WE.lcl hE (WC.join (n := H.length) (xs := chars m 0 fmTable) (.inl (by simp)) hj h))
end
end Mine

namespace Mine

section
variable {g : Cfg} {k : Nat} {W β β' : List Addr} {env : Env} {ρ : Rho} {H H' : List Cell} {s s' : Shared}

theorem c_fspath (G : Gd g) {x : Str} {Q : PV → List Cell → Prop} (h : ∀ E, Q (.str x) (H ++ E)) : WC g (k + 1) (.ref 141) [.str x] H Q := by
  refine WC.def (xs := ["path"]) G rfl rfl rfl (by kernel_rfl) ?_ rfl (by decide) rfl rfl rfl rfl rfl rfl rfl rfl ?_
  · exact vs1 fun _ => rfl
  intro env hF hE
  refine WSS.cons (WS.asg hF (WE.callT G hE (gn_type _) bb_type (WLs.one (WE.l hE rfl (WC.typeS ?_)))))
  refine WSS.cons (WS.ite (WT.value (WE.callB G hE (gn_issubclass _) bb_issubclass (WLs.two (WE.l hE rfl (WE.tuple (WLs.two (WE.bi G hE (gn_str _) bb_str (WE.bi G hE (gn_bytes _) bb_bytes ⟨by simp, ?_⟩)))))))))
  refine WC.issubS (by simp) (WT1.bool ?_)
  exact WSS.cons (WS.ret (WE.l hE rfl (h _)))

theorem c_get_sep (G : Gd g) {x : Str} {Q : PV → List Cell → Prop} (h : Q (.str "/") H) : WC g (k + 1) (.ref 252) [.str x] H Q := by
  refine WC.def (xs := ["path"]) G rfl rfl rfl (by kernel_rfl) ?_ rfl (by decide) rfl rfl rfl rfl rfl rfl rfl rfl ?_
  · exact vs1 fun _ => rfl
  intro env hF hE
  refine WSS.cons (WS.ite (WT.value (WE.callB G hE (gn_isinstance _) bb_isinstance (WLs.two (WE.l hE rfl (WE.bi G hE (gn_bytes _) bb_bytes (WC.isiBytes (WT1.bool ?_))))))))
  exact WSS.cons (WS.ret (WE.strc h))

noncomputable def joinP (a b : Str) : Str := if Txt.startswith b "/" || a.length == 0 then b else if Txt.endswith a "/" then a ++ b else a ++ ("/" ++ b)

theorem len_app (x y : Str) : (x ++ y).length = x.length + y.length := by
  cases x with | mk a => cases y with | mk b => exact Array.size_append

theorem c_join (G : Gd g) {a b : Str} {Q : PV → List Cell → Prop} (hl : a.length + b.length + 1 ≤ 100000) (h : ∀ E, Q (.str (joinP a b)) (H ++ E)) : WC g (k + 2) (.ref 259) [.str a, .str b] H Q := by
  refine WC.fnV G (ρ₀ := [("a", .str a), ("p", .loc H.length)]) (H₁ := H ++ [.tup [.str b]]) rfl rfl rfl (by kernel_rfl) ?_ (by simp; decide) rfl rfl rfl rfl rfl rfl ?_ rfl ?_
  · intro A β s vs hA S V
    obtain ⟨v, u, rfl, hv, hu⟩ := vls2 V
    show wpAny g.M A (newTuple [u] >>= fun t => pure [(("a" : Str), v), ("p", t)]) _ _ s
    refine wpAny_bind (wpAny_newTuple (wpAny_pure ?_))
    have T : StepG g [] β H s (β ++ [s.heap.objs.size]) (H ++ [.tup [.str b]]) { s with heap := s.heap.push { cls := .type "tuple", data := .seq #[u] }, toks := s.toks } :=
      Step.add S (fun b o e => Heap.get?_push_of_some _ e) (get_size_none _) ⟨[u], ⟨_, Heap.get?_push_size _ rfl, rfl, 0, rfl⟩, hu.pre (List.prefix_append _ _), trivial⟩
    exact ⟨_, T, rfl, hv.pre (List.prefix_append _ _), rfl, ⟨_, by rw [← S.len]; simp, rfl⟩, trivial⟩
  · intro x hx
    simp at hx
    rcases hx with rfl | rfl <;> exact .inl rfl
  intro env hF hE
  refine WSS.cons (WS.asg hF (WE.callK G hE (gl_fspath _) (kp_141 _) (WLs.one (WE.l hE rfl (c_fspath G fun E => ?_)))))
  refine WSS.cons (WS.asg hF (WE.callK G hE (gl__get_sep _) (kp_252 _) (WLs.one (WE.l hE rfl (c_get_sep G ?_)))))
  refine WSS.cons (WS.asg hF (WE.l hE rfl ?_))
  refine WSS.cons (WS.try_ ?_)
  have cell : ∀ E', (H ++ [.tup [.str b]] ++ E ++ E')[H.length]? = some (.tup [.str b]) := fun E' => by simp
  refine WSS.cons (WS.forW (fun rest ρ' H' => (∃ E', H' = H ++ [.tup [.str b]] ++ E ++ E') ∧ ((rest = [.str b] ∧ ρ' = ([("a", .str a), ("p", .loc H.length), ("sep", .str "/"), ("path", .str a)] : Rho)) ∨ (rest = [] ∧ ρ' = ([("path", .str (joinP a b))] : Rho)))) ?_ ?_ ?_)
  · exact WE.l hE rfl ⟨H.length, .tup [.str b], [.str b], rfl, by simp, rfl, by simp, Up.mk ⟨⟨[], by simp⟩, .inl ⟨rfl, rfl⟩⟩ ⟨rfl, rfl, rfl, rfl, trivial⟩⟩
  · rintro x rest ρ' H' ⟨⟨E1, rfl⟩, ⟨e, rfl⟩ | ⟨e, rfl⟩⟩
    · simp only [List.cons.injEq] at e
      obtain ⟨rfl, rfl⟩ := e
      refine WA.nm hF ?_
      refine WSS.cons (WS.asg hF (WE.callK G hE (gl_fspath _) (kp_141 _) (WLs.one (WE.l hE rfl (c_fspath G fun E2 => ?_)))))
      have la : a.length ≤ 100000 := by omega
      have fin : ∀ ρ3 r, r = joinP a b → ρ3.lookup ("path" : Str) = some (.str r) → Up (fun ρ' H' => (∃ E', H' = H ++ [.tup [.str b]] ++ E ++ E') ∧ (([] = [PV.str b] ∧ ρ' = ([("a", .str a), ("p", .loc H.length), ("sep", .str "/"), ("path", .str a)] : Rho)) ∨ (([] : List PV) = [] ∧ ρ' = ([("path", .str (joinP a b))] : Rho)))) ρ3 (H ++ [.tup [.str b]] ++ E ++ E1 ++ E2) := fun ρ3 r hr hl => by
        subst hr
        exact Up.mk ⟨⟨E1 ++ E2, by simp⟩, .inr ⟨rfl, rfl⟩⟩ ⟨hl, trivial⟩
      refine WSS.cons (WS.ite (WT.bool (WAll.consO (WT.value (WE.meth (WE.l hE rfl ⟨GM.str PySem.F.slot_str_startswith PySem.F.type_str_startswith, WLs.one (WE.l hE rfl (WC.startswith (WT1.bool (ite_b (fun h1 => ?_) (fun h1 => ?_)))))⟩))))))
      · refine WSS.cons (WS.asg hF (WE.l hE rfl (CS.next (WSS.nil (CS.next (WSS.nil (LQ.next (fin _ _ ?_ rfl))))))))
        rw [joinP, h1]; rfl
      · refine WAll.consO (WT.not (WT.value (WE.l hE rfl (WT1.str la (ite_b (fun h2 => ?_) (fun h2 => ?_))))))
        · refine WSS.cons (WS.asg hF (WE.l hE rfl (CS.next (WSS.nil (CS.next (WSS.nil (LQ.next (fin _ _ ?_ rfl))))))))
          have : a.length = 0 := by simpa using h2
          rw [joinP, h1, this]; rfl
        · refine WAll.nilO ?_
          have ha : ¬ a.length = 0 := by simpa using h2
          refine WSS.cons (WS.ite (WT.value (WE.meth (WE.l hE rfl ⟨GM.str PySem.F.slot_str_endswith PySem.F.type_str_endswith, WLs.one (WE.l hE rfl (WC.endswith (WT1.bool (ite_b (fun h3 => ?_) (fun h3 => ?_)))))⟩))))
          · refine WSS.cons (WS.aug' hF rfl (WE.l hE rfl (WO2.iaddS (by rw [len_app]; omega) (CS.next (WSS.nil (CS.next (WSS.nil (CS.next (WSS.nil (LQ.next (fin _ _ ?_ rfl)))))))))))
            rw [joinP, h1, h3]; simp [ha]
          · refine WSS.cons (WS.aug' hF rfl (WE.binop (WE.l hE rfl (WE.l hE rfl (WO2.addS (by rw [len_app]; show 1 + _ ≤ _; omega) (WO2.iaddS (by rw [len_app, len_app]; show _ + (1 + _) ≤ _; omega) (CS.next (WSS.nil (CS.next (WSS.nil (CS.next (WSS.nil (LQ.next (fin _ _ ?_ rfl))))))))))))))
            rw [joinP, h1, h3]; simp [ha]
    · cases e
  · rintro ρ' H' ⟨⟨E1, rfl⟩, ⟨e, rfl⟩ | ⟨e, rfl⟩⟩
    · cases e
    · refine WSS.nil (CS.next (WSS.nil (WSS.nil (CS.next (WSS.cons (WS.ret (WE.l hE rfl (RQ ?_))))))))
      have := h ([.tup [.str b]] ++ E ++ E1)
      simpa using this

/-- splitroot, as triples of texts -/
noncomputable def splitP (x : Str) : Str × Str × Str :=
  if Txt.slice x none (some 1) != "/" then ("", "", x)
  else if Txt.slice x (some 1) (some 2) != "/" || Txt.slice x (some 2) (some 3) == "/" then ("", "/", Txt.slice x (some 1) none)
  else ("", Txt.slice x none (some 2), Txt.slice x (some 2) none)

theorem c_splitroot (G : Gd g) {x : Str} {Q : PV → List Cell → Prop} (hl : x.length ≤ 100000) (h : ∀ E, Q (.loc (H ++ E).length) (H ++ E ++ [.tup [.str (splitP x).1, .str (splitP x).2.1, .str (splitP x).2.2]])) : WC g (k + 2) (.ref 266) [.str x] H Q := by
  refine WC.def (xs := ["p"]) G rfl rfl rfl (by kernel_rfl) ?_ rfl (by decide) rfl rfl rfl rfl rfl rfl rfl rfl ?_
  · exact vs1 fun _ => rfl
  intro env hF hE
  refine WSS.cons (WS.asg hF (WE.callK G hE (gl_fspath _) (kp_141 _) (WLs.one (WE.l hE rfl (c_fspath G fun E => ?_)))))
  refine WSS.cons (WS.ite (WT.value (WE.callB G hE (gn_isinstance _) bb_isinstance (WLs.two (WE.l hE rfl (WE.bi G hE (gn_bytes _) bb_bytes (WC.isiBytes (WT1.bool ?_))))))))
  refine WSS.cons (WS.asg hF (WE.strc (CS.next (WSS.cons (WS.asg hF (WE.strc (CS.next (WSS.nil (CS.next ?_)))))))))
  refine WSS.cons (WS.ite (WT.cmp (WE.sliceS (WE.l hE rfl (WPt.no (WPt.so (WE.int ⟨_, rfl, x, rfl, hl, WE.l hE rfl (WO2.neS ⟨_, rfl, ite_b (fun h1 => ?_) (fun h1 => ?_)⟩)⟩)))))))
  · refine WSS.cons (WS.ret (WE.tuple (WLs.cons (WE.l hE rfl (WLs.cons (WE.l hE rfl (WLs.cons (WE.l hE rfl (WLs.nil ⟨by simp, CS.ret (RQ ?_)⟩)))))))))
    have := h E
    rw [splitP, h1] at this
    exact this
  · refine WSS.cons (WS.ite (WT.bool (WAll.consO (WT.cmp (WE.sliceS (WE.l hE rfl (WPt.so (WE.int ⟨_, rfl, WPt.so (WE.int ⟨_, rfl, x, rfl, hl, WE.l hE rfl (WO2.neS ⟨_, rfl, ite_b (fun h2 => ?_) (fun h2 => ?_)⟩)⟩)⟩))))))))
    · refine WSS.cons (WS.ret (WE.tuple (WLs.cons (WE.l hE rfl (WLs.cons (WE.l hE rfl (WLs.cons (WE.sliceS (WE.l hE rfl (WPt.so (WE.int ⟨_, rfl, WPt.no ⟨x, rfl, hl, WLs.nil ⟨by simp, CS.ret (CS.ret (RQ ?_))⟩⟩⟩)))))))))))
      have := h E
      rw [splitP, h1, h2] at this
      exact this
    · refine WAll.consO (WT.cmp (WE.sliceS (WE.l hE rfl (WPt.so (WE.int ⟨_, rfl, WPt.so (WE.int ⟨_, rfl, x, rfl, hl, WE.l hE rfl (WO2.eqS ⟨_, rfl, ite_b (fun h3 => ?_) (fun h3 => WAll.nilO ?_)⟩)⟩)⟩)))))
      · refine WSS.cons (WS.ret (WE.tuple (WLs.cons (WE.l hE rfl (WLs.cons (WE.l hE rfl (WLs.cons (WE.sliceS (WE.l hE rfl (WPt.so (WE.int ⟨_, rfl, WPt.no ⟨x, rfl, hl, WLs.nil ⟨by simp, CS.ret (CS.ret (RQ ?_))⟩⟩⟩)))))))))))
        have := h E
        rw [splitP, h1, h2, h3] at this
        exact this
      · refine WSS.cons (WS.ret (WE.tuple (WLs.cons (WE.l hE rfl (WLs.cons (WE.sliceS (WE.l hE rfl (WPt.no (WPt.so (WE.int ⟨_, rfl, x, rfl, hl, WLs.cons (WE.sliceS (WE.l hE rfl (WPt.so (WE.int ⟨_, rfl, WPt.no ⟨x, rfl, hl, WLs.nil ⟨by simp, CS.ret (CS.ret (RQ ?_))⟩⟩⟩))))⟩))))))))))
        have := h E
        rw [splitP, h1, h2, h3] at this
        exact this
end
end Mine

namespace Mine

noncomputable def normStep (i : Str) (acc : List Str) (c : Str) : List Str :=
  if c.length == 0 || c == "." then acc
  else if c != ".." || (i.length == 0 && acc.length == 0) || acc.getLast? == some (".." : Str) then acc ++ [c]
  else acc.dropLast
noncomputable def normComps (x : Str) : List Str := (Txt.split (splitP x).2.2 "/").foldl (normStep (splitP x).2.1) []
noncomputable def normP (x : Str) : Str :=
  if x.length == 0 then "." else
  if ((splitP x).2.1 ++ Txt.join "/" (normComps x)).length == 0 then "." else (splitP x).2.1 ++ Txt.join "/" (normComps x)

noncomputable abbrev normR (i0 : Str) (HB : List Cell) : Rho := [("dot", .str "."), ("dotdot", .str ".."), ("sep", .str "/"), ("initial_slashes", .str i0), ("new_comps", .loc HB.length)]
noncomputable def normJ (i0 : Str) (HB : List Cell) (comps : List Str) (rest : List PV) (ρ' : Rho) (H' : List Cell) : Prop :=
  Ex2 fun todo acc : List Str => And6 (rest = todo.map .str) (∀ c ∈ todo, c.length ≤ 100000) (todo.foldl (normStep i0) acc = comps.foldl (normStep i0) []) (acc.length + todo.length ≤ 100000) (H' = HB ++ [.list (acc.map .str)]) (ρ' = normR i0 HB)

section
variable {g : Cfg} {k : Nat} {W β β' : List Addr} {env : Env} {ρ : Rho} {H H' : List Cell} {s s' : Shared} {names : List (Str × NameKind)}

theorem WE.neg {i : Int} {n : Nat} {p pos : Pos} {Q : PV → List Cell → Prop} (h : Q (.int (-i)) H) : WE g k env (.UnaryOp .USub (.Constant (.int i) n p) pos) ρ H Q :=
  fun _ _ _ _ S _ => PyProof.Rows.UnaryOp_ (wpAny_Constant_int (PyProof.Rows.neg_int (PE.tok (pv := .int (-i)) S ⟨_, rfl⟩ h)))

theorem occ_parts (x : Str) (cuts : List Nat) (n : Nat) : (PySem.Builtin.Str.partsBetween x cuts n).length = cuts.length + 1 := by
  unfold PySem.Builtin.Str.partsBetween
  simp

theorem split_small {x y : Str} (h : x.length ≤ 90000) : (PySem.Builtin.Str.partsBetween x (PySem.Builtin.Str.occurrences x y 0 x.length (x.length + 1)) y.length).length ≤ 100000 := by
  rw [occ_parts]
  have := StrLaws.occ_length_le x y 0 x.length (x.length + 1)
  omega
theorem sub_le (x : Str) (i j : Nat) : (PySem.Builtin.Str.strSub x i j).length ≤ x.length := by
  show (x.cps.extract i j).size ≤ x.cps.size
  rw [Array.size_extract]; omega
theorem split_le {x y p : Str} (h : p ∈ Txt.split x y) : p.length ≤ x.length := by
  unfold Txt.split at h
  split at h
  · rw [List.mem_singleton.mp h]; exact Nat.le_refl _
  · split at h
    · rw [List.mem_singleton.mp h]; exact Nat.le_refl _
    · unfold PySem.Builtin.Str.partsBetween at h
      obtain ⟨⟨i, j⟩, _, rfl⟩ := List.mem_map.mp h
      exact sub_le _ _ _
theorem split_len {x y : Str} (h : x.length ≤ 90000) : (Txt.split x y).length ≤ 100000 := by
  unfold Txt.split
  split
  · simp
  · split
    · simp
    · exact split_small h

theorem WSS.freezeLast {ss : List Stmt} {xs : List PV} {Q : AF → Rho → List Cell → Prop} (h : WSS g k W env ss ρ (H ++ [.flist xs]) Q) : WSS g k W env ss ρ (H ++ [.list xs]) Q := by
  refine WSS.freeze (n := H.length) (xs := xs) (by simp) ?_
  have e : (H ++ [Cell.list xs]).set H.length (Cell.flist xs) = H ++ [Cell.flist xs] := by simp
  rw [e]; exact h

theorem splitP_le (x : Str) : (splitP x).2.1.length ≤ x.length + 1 ∧ (splitP x).2.2.length ≤ x.length := by
  unfold splitP
  split
  · exact ⟨Nat.zero_le _, Nat.le_refl _⟩
  · split
    · exact ⟨Nat.le_add_left _ _, Txt.slice_le _ _ _⟩
    · exact ⟨Nat.le_succ_of_le (Txt.slice_le _ _ _), Txt.slice_le _ _ _⟩

set_option maxHeartbeats 1000000 in
theorem c_normpath (G : Gd g) {x : Str} {Q : PV → List Cell → Prop} (hl : x.length ≤ 90000) (hj : JoinOk "/" (normComps x) = true) (hjl : ((splitP x).2.1 ++ Txt.join "/" (normComps x)).length ≤ 100000) (h : ∀ E, Q (.str (normP x)) (H ++ E)) : WC g (k + 3) (.ref 273) [.str x] H Q := by
  refine WC.def (xs := ["path"]) G rfl rfl rfl (by kernel_rfl) ?_ rfl (by decide) rfl rfl rfl rfl rfl rfl rfl rfl ?_
  · exact vs1 fun _ => rfl
  intro env hF hE
  dsimp only at hF hE
  refine WSS.cons (WS.asg hF (WE.callK G hE (gl_fspath _) (kp_141 _) (WLs.one (WE.l hE rfl (c_fspath G fun E => ?_)))))
  refine WSS.cons (WS.ite (WT.value (WE.callB G hE (gn_isinstance _) bb_isinstance (WLs.two (WE.l hE rfl (WE.bi G hE (gn_bytes _) bb_bytes (WC.isiBytes (WT1.bool ?_))))))))
  refine WSS.cons (WS.asg hF (WE.strc (CS.next (WSS.cons (WS.asg hF (WE.strc (CS.next (WSS.cons (WS.asg hF (WE.strc (CS.next (WSS.nil (CS.next ?_)))))))))))))
  refine WSS.cons (WS.ite (WT.not (WT.value (WE.l hE rfl (WT1.str (by omega) (ite_b (fun h1 => ?_) (fun h1 => ?_)))))))
  · refine WSS.cons (WS.ret (WE.l hE rfl (CS.ret (RQ ?_))))
    have := h E
    rw [normP, if_pos (by simpa using h1)] at this
    exact this
  refine WSS.nil (CS.next ?_)
  have hx0 : ¬ ((x.length == 0) = true) := by simpa using h1
  obtain ⟨hl1, hl2⟩ := splitP_le x
  refine WSS.cons (WS.assign (WE.callK G hE (gl_splitroot _) (kp_266 _) (WLs.one (WE.l hE rfl (c_splitroot G (by omega) fun E2 => ?_)))))
  refine WA.unpack (ps := [.str (splitP x).1, .str (splitP x).2.1, .str (splitP x).2.2]) (.inl (by simp)) rfl ?_
  refine WA.nm hF (WA.nm hF (WA.nm hF (CS.next ?_)))
  refine WSS.cons (WS.asg hF (WE.meth (WE.l hE rfl ⟨GM.str PySem.F.slot_str_split PySem.F.type_str_split, WLs.one (WE.l hE rfl (WC.split rfl (by omega) (split_small (by omega)) (CS.next (WSS.freezeLast ?_))))⟩)))
  refine WSS.cons (WS.asg hF (WE.list (WLs.nil ⟨by simp, CS.next ?_⟩)))
  have fin : ∀ E', Q (.str (if ((splitP x).2.1 ++ Txt.join "/" (normComps x)).length == 0 then "." else (splitP x).2.1 ++ Txt.join "/" (normComps x))) (H ++ E ++ E2 ++ E') := fun E' => by
    have := h (E ++ E2 ++ E')
    rw [normP, if_neg hx0] at this
    simpa using this
  obtain ⟨nC, hnC⟩ : ∃ nC, nC = (H ++ E ++ E2 ++ [Cell.tup [.str (splitP x).1, .str (splitP x).2.1, .str (splitP x).2.2]]).length := ⟨_, rfl⟩
  obtain ⟨comps, hcomps⟩ : ∃ c, c = Txt.split (splitP x).2.2 "/" := ⟨_, rfl⟩
  have hcs : ∀ c ∈ comps, c.length ≤ 100000 := fun c hc => by
    subst hcomps
    have := split_le hc
    omega
  have hclen : comps.length ≤ 100000 := by subst hcomps; exact split_len (by omega)
  have hi0 : (splitP x).2.1.length ≤ 100000 := by omega
  have hnc : comps.foldl (normStep (splitP x).2.1) [] = normComps x := by subst hcomps; rfl
  have hcC : (H ++ E ++ E2 ++ [Cell.tup [.str (splitP x).1, .str (splitP x).2.1, .str (splitP x).2.2]] ++ [Cell.flist (comps.map PV.str)] ++ [Cell.list []])[nC]? = some (.flist (comps.map .str)) := by subst hnC; simp
  have fin := fun v => fin ([Cell.tup [.str (splitP x).1, .str (splitP x).2.1, .str (splitP x).2.2]] ++ [Cell.flist (comps.map PV.str)] ++ [v])
  rw [← hnC, ← hcomps]
  simp only [← List.append_assoc] at fin
  revert fin hcC
  generalize (H ++ E ++ E2 ++ [Cell.tup [.str (splitP x).1, .str (splitP x).2.1, .str (splitP x).2.2]] ++ [Cell.flist (comps.map PV.str)]) = HB
  intro hcC fin
  revert hi0 hnc hjl fin hl1 hj
  generalize normComps x = nc
  generalize (splitP x).2.1 = i0
  intro hj hjl hl1 hi0 hnc fin
  refine WSS.cons (WS.forW (normJ i0 HB comps) ?_ ?_ ?_)
  · exact WE.l hE rfl ⟨nC, .flist (comps.map .str), comps.map .str, rfl, hcC, rfl, (by simp; omega), Up.mk ⟨comps, [], rfl, hcs, rfl, (by simp; omega), by simp, rfl⟩ ⟨rfl, rfl, rfl, rfl, rfl, trivial⟩⟩
  · rintro x rest ρ' H' ⟨todo, acc, e, hts, hfold, hlen, rfl, rfl⟩
    cases todo with
    | nil => cases e
    | cons c todo =>
    simp only [List.map_cons, List.cons.injEq] at e
    obtain ⟨rfl, rfl⟩ := e
    simp only [List.length_cons] at hlen
    have hcl : c.length ≤ 100000 := hts c List.mem_cons_self
    have hcell : (HB ++ [Cell.list (acc.map PV.str)])[HB.length]? = some (.list (acc.map .str)) := by simp
    have next : ∀ ρ3 acc', SubL (normR i0 HB) ρ3 → normStep i0 acc c = acc' → acc'.length ≤ acc.length + 1 →
        Up (normJ i0 HB comps (todo.map .str)) ρ3 (HB ++ [Cell.list (acc'.map PV.str)]) := fun ρ3 acc' hs he hl => by
      refine Up.mk ⟨todo, acc', rfl, fun c hc => hts c (List.mem_cons_of_mem _ hc), ?_, by omega, rfl, rfl⟩ hs
      rw [← hfold, List.foldl_cons, he]
    refine WA.nm hF ?_
    refine WSS.cons (WS.ite (WT.bool (WAll.consO (WT.not (WT.value (WE.l hE rfl (WT1.str hcl (ite_b (fun h1 => ?_) (fun h1 => ?_)))))))))
    · refine WSS.cons (WS.cont (CS.cont (CS.cont (LQ.cont (next _ acc ⟨rfl, rfl, rfl, rfl, rfl, trivial⟩ ?_ (by omega))))))
      have : c.length = 0 := by simpa using h1
      simp [normStep, this]
    have hc0 : ¬ c.length = 0 := by simpa using h1
    refine WAll.consO (WT.cmp (WE.l hE rfl (WE.l hE rfl (WO2.eqS ⟨_, rfl, ite_b (fun h2 => ?_) (fun h2 => ?_)⟩))))
    · refine WSS.cons (WS.cont (CS.cont (CS.cont (LQ.cont (next _ acc ⟨rfl, rfl, rfl, rfl, rfl, trivial⟩ ?_ (by omega))))))
      have : c = "." := by simpa using h2
      simp [normStep, this]
    have hcd : ¬ c = "." := by simpa using h2
    refine WAll.nilO (WSS.nil (CS.next ?_))
    have push : ∀ ρ3, SubL (normR i0 HB) ρ3 → ((c != ".." || (i0.length == 0 && acc.length == 0) || acc.getLast? == some (".." : Str)) = true) → Up (normJ i0 HB comps (todo.map .str)) ρ3 ((HB ++ [Cell.list (acc.map PV.str)]).set HB.length (Cell.list (acc.map PV.str ++ [PV.str c]))) := fun ρ3 hs hq => by
      have e : (HB ++ [Cell.list (acc.map PV.str)]).set HB.length (Cell.list (acc.map PV.str ++ [PV.str c])) = HB ++ [Cell.list ((acc ++ [c]).map PV.str)] := by simp
      rw [e]
      refine next ρ3 (acc ++ [c]) hs ?_ (by simp)
      rw [normStep, if_neg (by simp [hc0, hcd]), if_pos hq]
    refine WSS.cons (WS.ite (WT.mono (Q := fun b H1 => H1 = HB ++ [Cell.list (acc.map PV.str)] ∧ b = (c != ".." || (i0.length == 0 && acc.length == 0) || acc.getLast? == some (".." : Str))) ?_ ?_))
    · refine WT.bool (WAll.consO (WT.cmp (WE.l hE rfl (WE.l hE rfl (WO2.neS ⟨_, rfl, ite_b (fun h3 => ?_) (fun h3 => ?_)⟩)))))
      · exact ⟨rfl, by rw [h3]; rfl⟩
      refine WAll.consO (WT.mono (Q := fun b H1 => H1 = HB ++ [Cell.list (acc.map PV.str)] ∧ b = (i0.length == 0 && acc.length == 0)) ?_ ?_)
      · refine WT.bool (WAll.consA (WT.not (WT.value (WE.l hE rfl (WT1.str hi0 (ite_b (fun h4 => ?_) (fun h4 => ?_)))))))
        · refine WAll.consA (WT.not (WT.value (WE.l hE rfl (WT1.list (.inl hcell) (by simp; omega) (ite_b (fun h5 => ?_) (fun h5 => ?_))))))
          · refine WAll.nilA ⟨rfl, ?_⟩
            simp at h4 h5
            simp [h4, h5]
          · refine ⟨rfl, ?_⟩
            have h5' : (acc.length == 0) = false := by simpa using h5
            rw [h5', Bool.and_false]
        · refine ⟨rfl, ?_⟩
          have h4' : (i0.length == 0) = false := by simpa using h4
          rw [h4', Bool.false_and]
      · rintro b H1 ⟨rfl, hb⟩
        cases b with
        | true => exact ⟨rfl, by rw [← hb, Bool.or_true, Bool.true_or]⟩
        | false =>
        rw [h3, ← hb, Bool.false_or, Bool.false_or]
        refine WAll.consO (WT.bool (WAll.consA (WT.value (WE.l hE rfl (WT1.list (.inl hcell) (by simp; omega) (ite_b (fun h6 => ?_) (fun h6 => ?_)))))))
        · have hne : acc ≠ [] := by intro h; subst h; simp at h6
          obtain ⟨pre, l, hpl⟩ : ∃ pre l, acc = pre ++ [l] := ⟨acc.dropLast, acc.getLast hne, (List.dropLast_concat_getLast hne).symm⟩
          have hlast : acc.getLast? = some l := by rw [hpl]; simp
          have hln : acc.length = pre.length + 1 := by rw [hpl]; simp
          have hidx : (-1 + ((acc.map PV.str).length : Int)).toNat = pre.length := by rw [List.length_map]; omega
          have hlo : -(((acc.map PV.str).length : Nat) : Int) ≤ -1 := by rw [List.length_map]; omega
          have hix : (acc.map PV.str)[(-1 + ((acc.map PV.str).length : Int)).toNat]? = some (PV.str l) := by rw [hidx, hpl]; simp
          refine WAll.consA (WT.cmp (WE.sub (WE.l hE rfl (WE.neg (WO2.itemLneg (p := .str l) (.inl hcell) (by decide) hlo (by decide) hix (WE.l hE rfl (WO2.eqS ⟨_, rfl, ite_b (fun h7 => WAll.nilA ⟨rfl, ?_⟩) (fun h7 => WAll.nilO ⟨rfl, ?_⟩)⟩)))))))
          · rw [hlast]; simpa using h7
          · rw [hlast]; simpa using h7
        · have hnil : acc = [] := by simpa using h6
          exact WAll.nilO ⟨rfl, by rw [hnil]; rfl⟩
    · rintro b H1 ⟨rfl, hb⟩
      cases b with
      | true => exact WSS.cons (WS.ex (WE.meth (WE.l hE rfl ⟨GM.append hcell, WLs.one (WE.l hE rfl (WC.append hcell (by simp; omega) ⟨by simp, by simp, CS.next (WSS.nil (CS.next (WSS.nil (LQ.next (push _ ⟨rfl, rfl, rfl, rfl, rfl, trivial⟩ hb.symm)))))⟩))⟩)))
      | false =>
      have hq := hb.symm
      refine WSS.cons (WS.ite (WT.value (WE.l hE rfl (WT1.list (.inl hcell) (by simp; omega) (ite_b (fun h8 => ?_) (fun h8 => ?_))))))
      · have hne : acc ≠ [] := by intro h; subst h; simp at h8
        obtain ⟨pre, l, hpl⟩ : ∃ pre l, acc = pre ++ [l] := ⟨acc.dropLast, acc.getLast hne, (List.dropLast_concat_getLast hne).symm⟩
        have hcellp : (HB ++ [Cell.list (acc.map PV.str)])[HB.length]? = some (.list (pre.map .str ++ [.str l])) := by simp [hpl]
        have hplen : pre.length + 1 = acc.length := by simp [hpl]
        refine WSS.cons (WS.ex (WE.meth (WE.l hE rfl ⟨GM.pop hcellp, WLs.nil (WC.pop hcellp (by simp; omega) ⟨by simp, by simp, CS.next (WSS.nil (CS.next (WSS.nil (CS.next (WSS.nil (LQ.next ?_))))))⟩)⟩)))
        have e : (HB ++ [Cell.list (acc.map PV.str)]).set HB.length (Cell.list (pre.map PV.str)) = HB ++ [Cell.list (pre.map PV.str)] := by simp
        rw [e]
        refine next _ pre ⟨rfl, rfl, rfl, rfl, rfl, trivial⟩ ?_ (by omega)
        rw [normStep, if_neg (by simp [hc0, hcd]), if_neg (by rw [hq]; decide), hpl]; simp
      · have hnil : acc = [] := by simpa using h8
        refine WSS.nil (CS.next (WSS.nil (CS.next (WSS.nil (LQ.next (next _ acc ⟨rfl, rfl, rfl, rfl, rfl, trivial⟩ ?_ (by omega)))))))
        rw [normStep, if_neg (by simp [hc0, hcd]), if_neg (by rw [hq]; decide), hnil]; rfl
  · rintro ρ' H' ⟨todo, acc, e, hts, hfold, hlen, rfl, rfl⟩
    cases todo with
    | cons _ _ => cases e
    | nil =>
    simp only [List.foldl_nil] at hfold
    subst hfold
    refine WSS.nil (CS.next ?_)
    have fin := fin (.list ((nc).map .str))
    rw [hnc]
    refine WSS.cons (WS.asg hF (WE.l hE rfl (CS.next ?_)))
    refine WSS.cons (WS.asg hF (WE.binop (WE.l hE rfl (WE.meth (WE.l hE rfl ⟨GM.str PySem.F.slot_str_join PySem.F.type_str_join, WLs.one (WE.l hE rfl (WC.join (n := HB.length) (xs := nc) (.inl (by simp)) hj (WO2.addS hjl (CS.next ?_))))⟩)))))
    revert fin hjl
    generalize (i0 ++ Txt.join "/" nc) = r
    intro hjl fin
    refine WSS.cons (WS.ret (WE.or2 (WE.l hE rfl (WT1.str hjl (ite_b (fun h9 => RQ ?_) (fun h9 => WE.l hE rfl (RQ ?_)))))))
    · rw [if_neg (by simpa using h9)] at fin
      exact fin
    · rw [if_pos (by simpa using h9)] at fin
      exact fin
end
end Mine

namespace Mine

section
variable {g : Cfg} {k : Nat} {W β β' : List Addr} {env : Env} {ρ : Rho} {H H' : List Cell} {s s' : Shared} {names : List (Str × NameKind)}

theorem c_kind (G : Gd g) {n x : Str} {Q : PV → List Cell → Prop} (h : Q (.str "") H) : WC g (k + 1) (.ref 148) [.str n, .str x] H Q := by
  refine WC.def (xs := ["name", "x"]) G rfl rfl rfl (by kernel_rfl) ?_ rfl (by decide) rfl rfl rfl rfl rfl rfl rfl rfl ?_
  · exact vs2 fun _ _ => rfl
  intro env hF hE
  dsimp only at hF hE
  refine WSS.cons (WS.asg hF (WE.callT G hE (gn_type _) bb_type (WLs.one (WE.l hE rfl (WC.typeS (CS.next ?_))))))
  refine WSS.cons (WS.ite (WT.cmp (WE.l hE rfl (WE.bi G hE (gn_str _) bb_str (WO2.isType ⟨_, rfl, ?_⟩)))))
  exact WSS.cons (WS.ret (WE.strc (CS.ret (RQ h))))

theorem c_fspath2 (G : Gd g) {n x : Str} {Q : PV → List Cell → Prop} (h : Q (.str x) H) : WC g (k + 2) (.ref 155) [.str n, .str x] H Q := by
  refine WC.def (xs := ["name", "x"]) G rfl rfl rfl (by kernel_rfl) ?_ rfl (by decide) rfl rfl rfl rfl rfl rfl rfl rfl ?_
  · exact vs2 fun _ _ => rfl
  intro env hF hE
  dsimp only at hF hE
  refine WSS.cons (WS.asg hF (WE.callK G hE (gl__kind _) (kp_148 _) (WLs.two (WE.l hE rfl (WE.l hE rfl (c_kind G (CS.next ?_)))))))
  refine WSS.cons (WS.ite (WT.value (WE.l hE rfl (WT1.str (by decide) ?_))))
  exact WSS.nil (CS.next (WSS.cons (WS.ret (WE.l hE rfl (RQ h)))))

theorem slice_eq (x : Str) (l u : Option Int) : Txt.slice x l u = StrLaws.sliceText x l u := rfl
theorem slice_shelf (x : Str) : Txt.slice (x ++ "/") none (some (-1)) = x := by
  have hlen : (x ++ ("/" : Str)).length = x.length + 1 := by rw [len_app]; rfl
  rw [slice_eq, StrLaws.sliceText_to_neg (by decide) (by rw [hlen]; omega), hlen]
  cases x with | mk a =>
  have e1 : ((-1 : Int) + ((Str.length ⟨a⟩ + 1 : Nat) : Int) - 0).toNat = a.size := by
    show ((-1 : Int) + ((a.size + 1 : Nat) : Int) - 0).toNat = a.size
    omega
  rw [e1]
  have e2 : (Str.mk a ++ ("/" : Str)).cps = a ++ ("/" : Str).cps := rfl
  rw [e2]
  simp

theorem c_shelf (G : Gd g) {x : Str} {Q : PV → List Cell → Prop} (hl : x.length ≤ 99999) (h : Q (.str x) H) : WC g (k + 1) (.ref 176) [.str x] H Q := by
  refine WC.def (xs := ["s"]) G rfl rfl rfl (by kernel_rfl) ?_ rfl (by decide) rfl rfl rfl rfl rfl rfl rfl rfl ?_
  · exact vs1 fun _ => rfl
  intro env hF hE
  dsimp only at hF hE
  have hlen : (x ++ ("/" : Str)).length ≤ 100000 := by rw [len_app]; show _ + 1 ≤ _; omega
  refine WSS.cons (WS.ret (WE.sliceS' (WE.binop (WE.l hE rfl (WE.strc (WO2.addS hlen (WPt.no (WPt.so (WE.neg ⟨_, rfl, _, rfl, hlen, RQ ?_⟩)))))))))
  rw [slice_shelf]; exact h

theorem c_splitroot2 (G : Gd g) {x : Str} {Q : PV → List Cell → Prop} (hl : x.length ≤ 99999) (h : Q (.loc H.length) (H ++ [.tup [.str (splitP x).1, .str (splitP x).2.1, .str (splitP x).2.2]])) : WC g (k + 2) (.ref 183) [.str x] H Q := by
  have hl' : x.length ≤ 100000 := by omega
  refine WC.def (xs := ["p"]) G rfl rfl rfl (by kernel_rfl) ?_ rfl (by decide) rfl rfl rfl rfl rfl rfl rfl rfl ?_
  · exact vs1 fun _ => rfl
  intro env hF hE
  dsimp only at hF hE
  refine WSS.cons (WS.asg hF (WE.strc (CS.next (WSS.cons (WS.asg hF (WE.strc (CS.next ?_)))))))
  refine WSS.cons (WS.ite (WT.cmp (WE.sliceS (WE.l hE rfl (WPt.no (WPt.so (WE.int ⟨_, rfl, x, rfl, hl', WE.l hE rfl (WO2.neS ⟨_, rfl, ite_b (fun h1 => ?_) (fun h1 => ?_)⟩)⟩)))))))
  · refine WSS.cons (WS.ret (WE.tuple (WLs.cons (WE.l hE rfl (WLs.cons (WE.l hE rfl (WLs.cons (WE.callK G hE (gl__shelf_fresh _) (kp_176 _) (WLs.one (WE.l hE rfl (c_shelf G hl (WLs.nil ⟨by simp, CS.ret (RQ ?_)⟩))))))))))))
    rw [splitP, h1] at h
    exact h
  · refine WSS.cons (WS.ite (WT.bool (WAll.consO (WT.cmp (WE.sliceS (WE.l hE rfl (WPt.so (WE.int ⟨_, rfl, WPt.so (WE.int ⟨_, rfl, x, rfl, hl', WE.l hE rfl (WO2.neS ⟨_, rfl, ite_b (fun h2 => ?_) (fun h2 => ?_)⟩)⟩)⟩))))))))
    · refine WSS.cons (WS.ret (WE.tuple (WLs.cons (WE.l hE rfl (WLs.cons (WE.l hE rfl (WLs.cons (WE.sliceS (WE.l hE rfl (WPt.so (WE.int ⟨_, rfl, WPt.no ⟨x, rfl, hl', WLs.nil ⟨by simp, CS.ret (CS.ret (RQ ?_))⟩⟩⟩)))))))))))
      rw [splitP, h1, h2] at h
      exact h
    · refine WAll.consO (WT.cmp (WE.sliceS (WE.l hE rfl (WPt.so (WE.int ⟨_, rfl, WPt.so (WE.int ⟨_, rfl, x, rfl, hl', WE.l hE rfl (WO2.eqS ⟨_, rfl, ite_b (fun h3 => ?_) (fun h3 => WAll.nilO ?_)⟩)⟩)⟩)))))
      · refine WSS.cons (WS.ret (WE.tuple (WLs.cons (WE.l hE rfl (WLs.cons (WE.l hE rfl (WLs.cons (WE.sliceS (WE.l hE rfl (WPt.so (WE.int ⟨_, rfl, WPt.no ⟨x, rfl, hl', WLs.nil ⟨by simp, CS.ret (CS.ret (RQ ?_))⟩⟩⟩)))))))))))
        rw [splitP, h1, h2, h3] at h
        exact h
      · have hs2 : (Txt.slice x none (some 2)).length ≤ 99999 := Nat.le_trans (Txt.slice_le _ _ _) hl
        refine WSS.cons (WS.ret (WE.tuple (WLs.cons (WE.l hE rfl (WLs.cons (WE.callK G hE (gl__shelf_fresh _) (kp_176 _) (WLs.one (WE.sliceS (WE.l hE rfl (WPt.no (WPt.so (WE.int ⟨_, rfl, x, rfl, hl', c_shelf G hs2 (WLs.cons (WE.sliceS (WE.l hE rfl (WPt.so (WE.int ⟨_, rfl, WPt.no ⟨x, rfl, hl', WLs.nil ⟨by simp, CS.ret (CS.ret (RQ ?_))⟩⟩⟩)))))⟩))))))))))))
        rw [splitP, h1, h2, h3] at h
        exact h

theorem c_c_path (G : Gd g) {n c ar x : Str} {i j : Nat} {Q : PV → List Cell → Prop} (hi : H[i]? = some (.tup [.str x])) (hj : H[j]? = some (.dict [])) (h : Q (.str x) H) : WC g (k + 2) (.ref 169) [.str n, .str c, .str ar, .loc i, .loc j] H Q := by
  refine WC.def (xs := ["name", "cname", "argname", "args", "kwargs"]) G rfl rfl rfl (by kernel_rfl) ?_ rfl (by decide) rfl rfl rfl rfl rfl rfl rfl rfl ?_
  · exact vs5 fun _ _ _ _ _ => rfl
  intro env hF hE
  dsimp only at hF hE
  refine WSS.cons (WS.ite (WT.bool (WAll.consA (WT.cmp (WE.callB G hE (gn_len _) bb_len (WLs.one (WE.l hE rfl (WC.lenT hi (by simp) (WE.int (WO2.eqI ⟨_, rfl, ?_⟩))))))))))
  refine WAll.consA (WT.not (WT.value (WE.l hE rfl (WT1.dict hj (by simp) (by simp) (WAll.nilA ?_)))))
  refine WSS.cons (WS.asg hF (WE.sub (WE.l hE rfl (WE.int (WO2.itemT (p := .str x) hi (by decide) (by decide) rfl (CS.next (WSS.nil (CS.next ?_))))))))
  refine WSS.cons (WS.asg hF (WE.callK G hE (gl__kind _) (kp_148 _) (WLs.two (WE.l hE rfl (WE.l hE rfl (c_kind G (CS.next ?_)))))))
  refine WSS.cons (WS.ite (WT.value (WE.l hE rfl (WT1.str (by decide) ?_))))
  exact WSS.nil (CS.next (WSS.cons (WS.ret (WE.l hE rfl (RQ h)))))

set_option maxHeartbeats 1000000 in
theorem c_normpath2 (G : Gd g) {x : Str} {Q : PV → List Cell → Prop} (hl : x.length ≤ 90000) (hj : JoinOk "/" (normComps x) = true) (hjl : ((splitP x).2.1 ++ Txt.join "/" (normComps x)).length ≤ 99999) (h : ∀ E, Q (.str (normP x)) (H ++ E)) : WC g (k + 3) (.ref 197) [.str x] H Q := by
  refine WC.def (xs := ["path"]) G rfl rfl rfl (by kernel_rfl) ?_ rfl (by decide) rfl rfl rfl rfl rfl rfl rfl rfl ?_
  · exact vs1 fun _ => rfl
  intro env hF hE
  dsimp only at hF hE
  refine WSS.cons (WS.asg hF (WE.strc (CS.next (WSS.cons (WS.asg hF (WE.strc (CS.next (WSS.cons (WS.asg hF (WE.strc (CS.next ?_)))))))))))
  refine WSS.cons (WS.ite (WT.not (WT.value (WE.l hE rfl (WT1.str (by omega) (ite_b (fun h1 => ?_) (fun h1 => ?_)))))))
  · refine WSS.cons (WS.ret (WE.l hE rfl (CS.ret (RQ ?_))))
    have := h []
    rw [normP, if_pos (by simpa using h1), List.append_nil] at this
    exact this
  refine WSS.nil (CS.next ?_)
  have hx0 : ¬ ((x.length == 0) = true) := by simpa using h1
  obtain ⟨hl1, hl2⟩ := splitP_le x
  refine WSS.cons (WS.assign (WE.callK G hE (gl__splitroot _) (kp_183 _) (WLs.one (WE.l hE rfl (c_splitroot2 G (by omega) ?_)))))
  refine WA.unpack (ps := [.str (splitP x).1, .str (splitP x).2.1, .str (splitP x).2.2]) (.inl (by simp)) rfl ?_
  refine WA.nm hF (WA.nm hF (WA.nm hF (CS.next ?_)))
  refine WSS.cons (WS.asg hF (WE.meth (WE.l hE rfl ⟨GM.str PySem.F.slot_str_split PySem.F.type_str_split, WLs.one (WE.l hE rfl (WC.split rfl (by omega) (split_small (by omega)) (CS.next (WSS.freezeLast ?_))))⟩)))
  refine WSS.cons (WS.asg hF (WE.list (WLs.nil ⟨by simp, CS.next ?_⟩)))
  have fin : ∀ E', Q (.str (if ((splitP x).2.1 ++ Txt.join "/" (normComps x)).length == 0 then "." else (splitP x).2.1 ++ Txt.join "/" (normComps x))) (H ++ E') := fun E' => by
    have := h E'
    rw [normP, if_neg hx0] at this
    simpa using this
  obtain ⟨nC, hnC⟩ : ∃ nC, nC = (H ++ [Cell.tup [.str (splitP x).1, .str (splitP x).2.1, .str (splitP x).2.2]]).length := ⟨_, rfl⟩
  obtain ⟨comps, hcomps⟩ : ∃ c, c = Txt.split (splitP x).2.2 "/" := ⟨_, rfl⟩
  have hcs : ∀ c ∈ comps, c.length ≤ 100000 := fun c hc => by
    subst hcomps
    have := split_le hc
    omega
  have hclen : comps.length ≤ 100000 := by subst hcomps; exact split_len (by omega)
  have hi0 : (splitP x).2.1.length ≤ 100000 := by omega
  have hnc : comps.foldl (normStep (splitP x).2.1) [] = normComps x := by subst hcomps; rfl
  have hcC : (H ++ [Cell.tup [.str (splitP x).1, .str (splitP x).2.1, .str (splitP x).2.2]] ++ [Cell.flist (comps.map PV.str)] ++ [Cell.list []])[nC]? = some (.flist (comps.map .str)) := by subst hnC; simp
  have fin := fun v => fin ([Cell.tup [.str (splitP x).1, .str (splitP x).2.1, .str (splitP x).2.2]] ++ [Cell.flist (comps.map PV.str)] ++ [v])
  rw [← hnC, ← hcomps]
  simp only [← List.append_assoc] at fin
  revert fin hcC
  generalize (H ++ [Cell.tup [.str (splitP x).1, .str (splitP x).2.1, .str (splitP x).2.2]] ++ [Cell.flist (comps.map PV.str)]) = HB
  intro hcC fin
  revert hi0 hnc hjl fin hl1 hj
  generalize normComps x = nc
  generalize (splitP x).2.1 = i0
  intro hj hjl hl1 hi0 hnc fin
  refine WSS.cons (WS.forW (normJ i0 HB comps) ?_ ?_ ?_)
  · exact WE.l hE rfl ⟨nC, .flist (comps.map .str), comps.map .str, rfl, hcC, rfl, (by simp; omega), Up.mk ⟨comps, [], rfl, hcs, rfl, (by simp; omega), by simp, rfl⟩ ⟨rfl, rfl, rfl, rfl, rfl, trivial⟩⟩
  · rintro x rest ρ' H' ⟨todo, acc, e, hts, hfold, hlen, rfl, rfl⟩
    cases todo with
    | nil => cases e
    | cons c todo =>
    simp only [List.map_cons, List.cons.injEq] at e
    obtain ⟨rfl, rfl⟩ := e
    simp only [List.length_cons] at hlen
    have hcl : c.length ≤ 100000 := hts c List.mem_cons_self
    have hcell : (HB ++ [Cell.list (acc.map PV.str)])[HB.length]? = some (.list (acc.map .str)) := by simp
    have next : ∀ ρ3 acc', SubL (normR i0 HB) ρ3 → normStep i0 acc c = acc' → acc'.length ≤ acc.length + 1 →
        Up (normJ i0 HB comps (todo.map .str)) ρ3 (HB ++ [Cell.list (acc'.map PV.str)]) := fun ρ3 acc' hs he hl => by
      refine Up.mk ⟨todo, acc', rfl, fun c hc => hts c (List.mem_cons_of_mem _ hc), ?_, by omega, rfl, rfl⟩ hs
      rw [← hfold, List.foldl_cons, he]
    refine WA.nm hF ?_
    refine WSS.cons (WS.ite (WT.bool (WAll.consO (WT.not (WT.value (WE.l hE rfl (WT1.str hcl (ite_b (fun h1 => ?_) (fun h1 => ?_)))))))))
    · refine WSS.cons (WS.cont (CS.cont (CS.cont (LQ.cont (next _ acc ⟨rfl, rfl, rfl, rfl, rfl, trivial⟩ ?_ (by omega))))))
      have : c.length = 0 := by simpa using h1
      simp [normStep, this]
    have hc0 : ¬ c.length = 0 := by simpa using h1
    refine WAll.consO (WT.cmp (WE.l hE rfl (WE.l hE rfl (WO2.eqS ⟨_, rfl, ite_b (fun h2 => ?_) (fun h2 => ?_)⟩))))
    · refine WSS.cons (WS.cont (CS.cont (CS.cont (LQ.cont (next _ acc ⟨rfl, rfl, rfl, rfl, rfl, trivial⟩ ?_ (by omega))))))
      have : c = "." := by simpa using h2
      simp [normStep, this]
    have hcd : ¬ c = "." := by simpa using h2
    refine WAll.nilO (WSS.nil (CS.next ?_))
    have push : ∀ ρ3, SubL (normR i0 HB) ρ3 → ((c != ".." || (i0.length == 0 && acc.length == 0) || acc.getLast? == some (".." : Str)) = true) → Up (normJ i0 HB comps (todo.map .str)) ρ3 ((HB ++ [Cell.list (acc.map PV.str)]).set HB.length (Cell.list (acc.map PV.str ++ [PV.str c]))) := fun ρ3 hs hq => by
      have e : (HB ++ [Cell.list (acc.map PV.str)]).set HB.length (Cell.list (acc.map PV.str ++ [PV.str c])) = HB ++ [Cell.list ((acc ++ [c]).map PV.str)] := by simp
      rw [e]
      refine next ρ3 (acc ++ [c]) hs ?_ (by simp)
      rw [normStep, if_neg (by simp [hc0, hcd]), if_pos hq]
    refine WSS.cons (WS.ite (WT.mono (Q := fun b H1 => H1 = HB ++ [Cell.list (acc.map PV.str)] ∧ b = (c != ".." || (i0.length == 0 && acc.length == 0) || acc.getLast? == some (".." : Str))) ?_ ?_))
    · refine WT.bool (WAll.consO (WT.cmp (WE.l hE rfl (WE.l hE rfl (WO2.neS ⟨_, rfl, ite_b (fun h3 => ?_) (fun h3 => ?_)⟩)))))
      · exact ⟨rfl, by rw [h3]; rfl⟩
      refine WAll.consO (WT.mono (Q := fun b H1 => H1 = HB ++ [Cell.list (acc.map PV.str)] ∧ b = (i0.length == 0 && acc.length == 0)) ?_ ?_)
      · refine WT.bool (WAll.consA (WT.not (WT.value (WE.l hE rfl (WT1.str hi0 (ite_b (fun h4 => ?_) (fun h4 => ?_)))))))
        · refine WAll.consA (WT.not (WT.value (WE.l hE rfl (WT1.list (.inl hcell) (by simp; omega) (ite_b (fun h5 => ?_) (fun h5 => ?_))))))
          · refine WAll.nilA ⟨rfl, ?_⟩
            simp at h4 h5
            simp [h4, h5]
          · refine ⟨rfl, ?_⟩
            have h5' : (acc.length == 0) = false := by simpa using h5
            rw [h5', Bool.and_false]
        · refine ⟨rfl, ?_⟩
          have h4' : (i0.length == 0) = false := by simpa using h4
          rw [h4', Bool.false_and]
      · rintro b H1 ⟨rfl, hb⟩
        cases b with
        | true => exact ⟨rfl, by rw [← hb, Bool.or_true, Bool.true_or]⟩
        | false =>
        rw [h3, ← hb, Bool.false_or, Bool.false_or]
        refine WAll.consO (WT.bool (WAll.consA (WT.value (WE.l hE rfl (WT1.list (.inl hcell) (by simp; omega) (ite_b (fun h6 => ?_) (fun h6 => ?_)))))))
        · have hne : acc ≠ [] := by intro h; subst h; simp at h6
          obtain ⟨pre, l, hpl⟩ : ∃ pre l, acc = pre ++ [l] := ⟨acc.dropLast, acc.getLast hne, (List.dropLast_concat_getLast hne).symm⟩
          have hlast : acc.getLast? = some l := by rw [hpl]; simp
          have hln : acc.length = pre.length + 1 := by rw [hpl]; simp
          have hidx : (-1 + ((acc.map PV.str).length : Int)).toNat = pre.length := by rw [List.length_map]; omega
          have hlo : -(((acc.map PV.str).length : Nat) : Int) ≤ -1 := by rw [List.length_map]; omega
          have hix : (acc.map PV.str)[(-1 + ((acc.map PV.str).length : Int)).toNat]? = some (PV.str l) := by rw [hidx, hpl]; simp
          refine WAll.consA (WT.cmp (WE.sub (WE.l hE rfl (WE.neg (WO2.itemLneg (p := .str l) (.inl hcell) (by decide) hlo (by decide) hix (WE.l hE rfl (WO2.eqS ⟨_, rfl, ite_b (fun h7 => WAll.nilA ⟨rfl, ?_⟩) (fun h7 => WAll.nilO ⟨rfl, ?_⟩)⟩)))))))
          · rw [hlast]; simpa using h7
          · rw [hlast]; simpa using h7
        · have hnil : acc = [] := by simpa using h6
          exact WAll.nilO ⟨rfl, by rw [hnil]; rfl⟩
    · rintro b H1 ⟨rfl, hb⟩
      cases b with
      | true => exact WSS.cons (WS.ex (WE.meth (WE.l hE rfl ⟨GM.append hcell, WLs.one (WE.l hE rfl (WC.append hcell (by simp; omega) ⟨by simp, by simp, CS.next (WSS.nil (CS.next (WSS.nil (LQ.next (push _ ⟨rfl, rfl, rfl, rfl, rfl, trivial⟩ hb.symm)))))⟩))⟩)))
      | false =>
      have hq := hb.symm
      refine WSS.cons (WS.ite (WT.value (WE.l hE rfl (WT1.list (.inl hcell) (by simp; omega) (ite_b (fun h8 => ?_) (fun h8 => ?_))))))
      · have hne : acc ≠ [] := by intro h; subst h; simp at h8
        obtain ⟨pre, l, hpl⟩ : ∃ pre l, acc = pre ++ [l] := ⟨acc.dropLast, acc.getLast hne, (List.dropLast_concat_getLast hne).symm⟩
        have hcellp : (HB ++ [Cell.list (acc.map PV.str)])[HB.length]? = some (.list (pre.map .str ++ [.str l])) := by simp [hpl]
        have hplen : pre.length + 1 = acc.length := by simp [hpl]
        refine WSS.cons (WS.ex (WE.meth (WE.l hE rfl ⟨GM.pop hcellp, WLs.nil (WC.pop hcellp (by simp; omega) ⟨by simp, by simp, CS.next (WSS.nil (CS.next (WSS.nil (CS.next (WSS.nil (LQ.next ?_))))))⟩)⟩)))
        have e : (HB ++ [Cell.list (acc.map PV.str)]).set HB.length (Cell.list (pre.map PV.str)) = HB ++ [Cell.list (pre.map PV.str)] := by simp
        rw [e]
        refine next _ pre ⟨rfl, rfl, rfl, rfl, rfl, trivial⟩ ?_ (by omega)
        rw [normStep, if_neg (by simp [hc0, hcd]), if_neg (by rw [hq]; decide), hpl]; simp
      · have hnil : acc = [] := by simpa using h8
        refine WSS.nil (CS.next (WSS.nil (CS.next (WSS.nil (LQ.next (next _ acc ⟨rfl, rfl, rfl, rfl, rfl, trivial⟩ ?_ (by omega)))))))
        rw [normStep, if_neg (by simp [hc0, hcd]), if_neg (by rw [hq]; decide), hnil]; rfl
  · rintro ρ' H' ⟨todo, acc, e, hts, hfold, hlen, rfl, rfl⟩
    cases todo with
    | cons _ _ => cases e
    | nil =>
    simp only [List.foldl_nil] at hfold
    subst hfold
    refine WSS.nil (CS.next ?_)
    have fin := fin (.list (nc.map .str))
    rw [hnc]
    refine WSS.cons (WS.asg hF (WE.l hE rfl (CS.next ?_)))
    refine WSS.cons (WS.asg hF (WE.binop (WE.l hE rfl (WE.meth (WE.l hE rfl ⟨GM.str PySem.F.slot_str_join PySem.F.type_str_join, WLs.one (WE.l hE rfl (WC.join (n := HB.length) (xs := nc) (.inl (by simp)) hj (WO2.addS (by omega) (CS.next ?_))))⟩)))))
    revert fin hjl
    generalize (i0 ++ Txt.join "/" nc) = r
    intro hjl fin
    refine WSS.cons (WS.ite (WT.not (WT.value (WE.l hE rfl (WT1.str (by omega) (ite_b (fun h9 => ?_) (fun h9 => ?_)))))))
    · rw [if_pos (by simpa using h9)] at fin
      exact WSS.cons (WS.ret (WE.l hE rfl (CS.ret (RQ fin))))
    · rw [if_neg (by simpa using h9)] at fin
      exact WSS.nil (CS.next (WSS.cons (WS.ret (WE.callK G hE (gl__shelf_fresh _) (kp_176 _) (WLs.one (WE.l hE rfl (c_shelf G hjl (RQ fin))))))))

theorem c_normpath_path (G : Gd g) {x : Str} {Q : PV → List Cell → Prop} (hl : x.length ≤ 90000) (hj : JoinOk "/" (normComps x) = true) (hjl : ((splitP x).2.1 ++ Txt.join "/" (normComps x)).length ≤ 99999) (h : ∀ E, Q (.str (normP x)) (H ++ E)) : WC g (k + 4) (.ref 204) [.str x] H Q := by
  refine WC.fnV G (ρ₀ := [("args", .loc H.length), ("kwargs", .loc (H ++ [Cell.tup [.str x]]).length)]) (H₁ := H ++ [.tup [.str x]] ++ [.dict []]) rfl rfl rfl (by kernel_rfl) ?_ (by simp; decide) rfl rfl rfl rfl rfl rfl ?_ rfl ?_
  · intro A β s vs hA S V
    obtain ⟨u, rfl, hu⟩ := vls1 V
    show wpAny g.M A (newTuple [u] >>= fun t => alloc { cls := .type "dict", data := .dict #[] } >>= fun d => pure [(("args" : Str), t), ("kwargs", .ref d)]) _ _ s
    refine wpAny_bind (wpAny_newTuple ?_ (by show (1 : Nat) ≤ _; rw [sizeLine_eq]; decide))
    refine wpAny_bind (wpAny_alloc (wpAny_pure ?_))
    have T : StepG g [] β H s (β ++ [s.heap.objs.size]) (H ++ [.tup [.str x]]) { s with heap := s.heap.push { cls := .type "tuple", data := .seq #[u] }, toks := s.toks } :=
      Step.add S (fun b o e => Heap.get?_push_of_some _ e) (get_size_none _) ⟨[u], ⟨_, Heap.get?_push_size _ rfl, rfl, 0, rfl⟩, hu.pre (List.prefix_append _ _), trivial⟩
    have T2 := Step.add (W := []) (tk := s.toks) (c := .dict []) T.sim (h' := ({ s with heap := s.heap.push { cls := .type "tuple", data := .seq #[u] }, toks := s.toks } : Shared).heap.push { cls := .type "dict", data := .dict #[] }) (fun b o e => Heap.get?_push_of_some _ e) (get_size_none _) ⟨T.sim.notSys G (Nat.le_refl _), [], 0, Heap.get?_push_size _ rfl, trivial⟩
    refine ⟨_, T.trans T2 S, rfl, ⟨s.heap.objs.size, ?_, rfl⟩, rfl, ⟨_, ?_, rfl⟩, trivial⟩
    · rw [← S.len]; simp
    · rw [← T.sim.len]; simp
  · intro x hx
    simp at hx
    rcases hx with rfl | rfl <;> exact .inl rfl
  intro env hF hE
  dsimp only at hF hE
  refine WSS.cons (WS.ret (WE.callK G hE (gl__normpath _) (kp_197 _) (WLs.one (WE.callK G hE (gl__c_path _) (kp_169 _) (WLs.cons (WE.strc (WLs.cons (WE.strc (WLs.cons (WE.strc (WLs.cons (WE.l hE rfl (WLs.cons (WE.l hE rfl (WLs.nil ?_)))))))))))))))
  refine c_c_path G (x := x) (by simp) (by simp) ?_
  refine c_normpath2 G hl hj hjl fun E => RQ ?_
  have := h ([.tup [.str x]] ++ [.dict []] ++ E)
  simpa using this
end
end Mine

namespace Mine

noncomputable def baseP (x : Str) : Str := Txt.slice x (some (Txt.rfind x "/" + 1)) none
noncomputable def extScan (x : Str) : Nat → Int → Bool
  | 0, _ => false
  | n + 1, f => if Txt.slice x (some f) (some (f + 1)) != "." then true else extScan x n (f + 1)
noncomputable def extP (x : Str) : Str × Str :=
  if decide (Txt.rfind x "." > Txt.rfind x "/") && extScan x (Txt.rfind x "." - (Txt.rfind x "/" + 1)).toNat (Txt.rfind x "/" + 1) then (Txt.slice x none (some (Txt.rfind x ".")), Txt.slice x (some (Txt.rfind x ".")) none)
  else (x, Txt.slice x none (some 0))
noncomputable def modP (x : Str) : Str := (extP (baseP x)).1

section
variable {g : Cfg} {k : Nat} {W β β' : List Addr} {env : Env} {ρ : Rho} {H H' : List Cell} {s s' : Shared} {names : List (Str × NameKind)}

theorem c_basename (G : Gd g) {x : Str} {Q : PV → List Cell → Prop} (hl : x.length ≤ 100000) (h : Q (.str (baseP x)) H) : WC g (k + 3) (.ref 190) [.str x] H Q := by
  refine WC.def (xs := ["p"]) G rfl rfl rfl (by kernel_rfl) ?_ rfl (by decide) rfl rfl rfl rfl rfl rfl rfl rfl ?_
  · exact vs1 fun _ => rfl
  intro env hF hE
  dsimp only at hF hE
  refine WSS.cons (WS.asg hF (WE.callK G hE (gl__fspath _) (kp_155 _) (WLs.two (WE.strc (WE.l hE rfl (c_fspath2 G (CS.next ?_)))))))
  refine WSS.cons (WS.asg hF (WE.binop (WE.meth (WE.l hE rfl ⟨GM.str PySem.F.slot_str_rfind PySem.F.type_str_rfind, WLs.one (WE.strc (WC.rfind (WE.int (WO2.addI (CS.next ?_)))))⟩))))
  exact WSS.cons (WS.ret (WE.sliceS (WE.l hE rfl (WPt.so (WE.l hE rfl ⟨_, rfl, WPt.no ⟨x, rfl, hl, RQ h⟩⟩)))))

theorem c_splitext (G : Gd g) {x : Str} {Q : PV → List Cell → Prop} (hl : x.length ≤ 100000) (h : Q (.loc H.length) (H ++ [.tup [.str (extP x).1, .str (extP x).2]])) : WC g (k + 3) (.ref 162) [.str x] H Q := by
  refine WC.def (xs := ["p"]) G rfl rfl rfl (by kernel_rfl) ?_ rfl (by decide) rfl rfl rfl rfl rfl rfl rfl rfl ?_
  · exact vs1 fun _ => rfl
  intro env hF hE
  dsimp only at hF hE
  refine WSS.cons (WS.asg hF (WE.callK G hE (gl__fspath _) (kp_155 _) (WLs.two (WE.strc (WE.l hE rfl (c_fspath2 G (CS.next ?_)))))))
  refine WSS.cons (WS.asg hF (WE.strc (CS.next (WSS.cons (WS.asg hF (WE.strc (CS.next ?_)))))))
  refine WSS.cons (WS.asg hF (WE.meth (WE.l hE rfl ⟨GM.str PySem.F.slot_str_rfind PySem.F.type_str_rfind, WLs.one (WE.l hE rfl (WC.rfind (CS.next ?_)))⟩)))
  refine WSS.cons (WS.asg hF (WE.meth (WE.l hE rfl ⟨GM.str PySem.F.slot_str_rfind PySem.F.type_str_rfind, WLs.one (WE.l hE rfl (WC.rfind (CS.next ?_)))⟩)))
  obtain ⟨sp, hsp⟩ : ∃ sp, sp = Txt.rfind x "/" := ⟨_, rfl⟩
  obtain ⟨dt, hdt⟩ : ∃ dt, dt = Txt.rfind x "." := ⟨_, rfl⟩
  rw [← hsp, ← hdt]
  rw [extP, ← hsp, ← hdt] at h
  refine WSS.cons (WS.ite (WT.cmp (WE.l hE rfl (WE.l hE rfl (WO2.gtI ⟨_, rfl, ite_b (fun h1 => ?_) (fun h1 => ?_)⟩)))))
  · refine WSS.cons (WS.asg hF (WE.binop (WE.l hE rfl (WE.int (WO2.addI (CS.next ?_))))))
    refine WSS.cons (WS.whileW (fun m ρ' H' => ∃ f : Int, And4 (m = (dt - f).toNat) (extScan x m f = extScan x (dt - (sp + 1)).toNat (sp + 1)) (H' = H) (ρ' = ([("p", .str x), ("extsep", .str "."), ("dotIndex", .int dt), ("filenameIndex", .int f)] : Rho))) (m₀ := (dt - (sp + 1)).toNat) (Up.mk ⟨sp + 1, rfl, rfl, rfl, rfl⟩ ⟨rfl, rfl, rfl, rfl, trivial⟩) ?_)
    rintro m ρ' H' ⟨f, rfl, hsc, rfl, rfl⟩
    refine WT.cmp (WE.l hE rfl (WE.l hE rfl (WO2.ltI ⟨_, rfl, ite_b (fun h2 => ?_) (fun h2 => ?_)⟩)))
    · have hlt : f < dt := by simpa using h2
      obtain ⟨n, hn⟩ : ∃ n, (dt - f).toNat = n + 1 := ⟨(dt - f).toNat - 1, by omega⟩
      have hn' : (dt - (f + 1)).toNat = n := by omega
      rw [hn, extScan] at hsc
      refine WSS.cons (WS.ite (WT.cmp (WE.sliceS (WE.l hE rfl (WPt.so (WE.l hE rfl ⟨_, rfl, WPt.so (WE.binop (WE.l hE rfl (WE.int (WO2.addI ⟨_, rfl, x, rfl, hl, WE.l hE rfl (WO2.neS ⟨_, rfl, ite_b (fun h3 => ?_) (fun h3 => ?_)⟩)⟩))))⟩))))))
      · rw [if_pos h3] at hsc
        rw [h1, ← hsc] at h
        refine WSS.cons (WS.ret (WE.tuple (WLs.cons (WE.sliceS (WE.l hE rfl (WPt.no (WPt.so (WE.l hE rfl ⟨_, rfl, x, rfl, hl, WLs.cons (WE.sliceS (WE.l hE rfl (WPt.so (WE.l hE rfl ⟨_, rfl, WPt.no ⟨x, rfl, hl, WLs.nil ⟨by simp, CS.ret (CS.ret (LQ.ret (CS.ret (RQ ?_))))⟩⟩⟩))))⟩))))))))
        simpa using h
      · rw [if_neg (by rw [h3]; decide)] at hsc
        refine WSS.nil (CS.next (WSS.cons (WS.aug' hF rfl (WE.int (WO2.iaddI (CS.next (WSS.nil (LQ.next ?_))))))))
        exact Up.mk ⟨n, by omega, f + 1, hn'.symm, hsc, rfl, rfl⟩ ⟨rfl, rfl, rfl, rfl, trivial⟩
    · have hz : (dt - f).toNat = 0 := by have : ¬ f < dt := by simpa using h2
                                         omega
      rw [hz, extScan] at hsc
      rw [← hsc, Bool.and_false] at h
      exact WSS.nil (CS.next (WSS.nil (CS.next (WSS.cons (WS.ret (WE.tuple (WLs.cons (WE.l hE rfl (WLs.cons (WE.sliceS (WE.l hE rfl (WPt.no (WPt.so (WE.int ⟨_, rfl, x, rfl, hl, WLs.nil ⟨by simp, RQ h⟩⟩))))))))))))))
  · rw [h1, Bool.false_and] at h
    exact WSS.nil (CS.next (WSS.cons (WS.ret (WE.tuple (WLs.cons (WE.l hE rfl (WLs.cons (WE.sliceS (WE.l hE rfl (WPt.no (WPt.so (WE.int ⟨_, rfl, x, rfl, hl, WLs.nil ⟨by simp, RQ h⟩⟩))))))))))))

theorem c_modname (G : Gd g) {x : Str} {Q : PV → List Cell → Prop} (hl : x.length ≤ 100000) (h : ∀ E, Q (.str (modP x)) (H ++ E)) : WC g (k + 4) (.ref 238) [.str x] H Q := by
  refine WC.def (xs := ["path"]) G rfl rfl rfl (by kernel_rfl) ?_ rfl (by decide) rfl rfl rfl rfl rfl rfl rfl rfl ?_
  · exact vs1 fun _ => rfl
  intro env hF hE
  dsimp only at hF hE
  refine WSS.cons (WS.asg hF (WE.callK G hE (gl_basename _) (kp_190 _) (WLs.one (WE.l hE rfl (c_basename G hl (CS.next ?_))))))
  have hb : (baseP x).length ≤ 100000 := Nat.le_trans (Txt.slice_le _ _ _) hl
  refine WSS.cons (WS.assign (WE.callK G hE (gl_splitext _) (kp_162 _) (WLs.one (WE.l hE rfl (c_splitext G hb ?_)))))
  refine WA.unpack (ps := [.str (extP (baseP x)).1, .str (extP (baseP x)).2]) (.inl (by simp)) rfl ?_
  refine WA.nm hF (WA.nm hF (CS.next ?_))
  exact WSS.cons (WS.ret (WE.l hE rfl (RQ (h _))))
end
end Mine

namespace Mine

section
variable {g : Cfg} {k : Nat} {W β β' : List Addr} {env : Env} {ρ : Rho} {H H' : List Cell} {s s' : Shared} {names : List (Str × NameKind)}

theorem fmodN (a b : Nat) : (a : Int).fmod (b : Int) = ((a % b : Nat) : Int) := by
  rw [Int.fmod_eq_emod_of_nonneg _ (Int.natCast_nonneg b)]; rfl
theorem fdivN (a b : Nat) : (a : Int).fdiv (b : Int) = ((a / b : Nat) : Int) := by
  rw [Int.fdiv_eq_ediv_of_nonneg _ (Int.natCast_nonneg b)]; rfl
theorem WO2.modN {a b : Nat} {a' b' : Int} {Q : PV → List Cell → Prop} (hb : 0 < b) (h : Q (.int ((a % b : Nat) : Int)) H) (ea : a' = (a : Int) := by rfl) (eb : b' = (b : Int) := by rfl) : WO2 g k (.int a') (.int b') (binaryOp .Mod) H Q := by
  subst ea eb; exact WO2.modI (by omega) (by rw [fmodN]; exact h)
theorem WO2.divN {a b : Nat} {a' b' : Int} {Q : PV → List Cell → Prop} (hb : 0 < b) (hs : b < 2 ^ 1000) (h : Q (.int ((a / b : Nat) : Int)) H) (ea : a' = (a : Int) := by rfl) (eb : b' = (b : Int) := by rfl) : WO2 g k (.int a') (.int b') (binaryOp .FloorDiv) H Q := by
  subst ea eb; exact WO2.divI (by omega) (by simpa using hs) (by rw [fdivN]; exact h)

/-! displays of written texts -/
noncomputable def strOf : Expr → Option Str
  | .Constant (.str x) _ _ => some x
  | _ => none
noncomputable def lstOf : Expr → Option (List Expr)
  | .List cs _ => some cs
  | _ => none
theorem nos {α : Type} {x : α} {P : Prop} (h : none = some x) : P := nomatch h
theorem strOf_eq {e : Expr} {x : Str} (h : strOf e = some x) : ∃ n p, e = .Constant (.str x) n p := by
  cases e with
  | Constant c n p => cases c with
    | str y => cases h; exact ⟨n, p, rfl⟩
    | _ => exact nos h
  | _ => exact nos h
theorem lstOf_eq {e : Expr} {cs : List Expr} (h : lstOf e = some cs) : ∃ p, e = .List cs p := by
  cases e with
  | List es p => cases h; exact ⟨p, rfl⟩
  | _ => exact nos h
noncomputable def strConsts : List Expr → Option (List Str)
  | [] => some []
  | e :: r => (strOf e).bind fun x => (strConsts r).bind fun xs => some (x :: xs)
theorem WLs.strs : ∀ {es : List Expr} {ss : List Str} {H : List Cell} {Q : List PV → List Cell → Prop}, strConsts es = some ss → Q (ss.map .str) H → WLs g k env es ρ H Q
  | [], ss, H, Q, e, h => by
    cases e
    exact WLs.nil h
  | ex :: r, ss, H, Q, e, h => by
    obtain ⟨x, hx, e⟩ := Option.bind_eq_some_iff.mp e
    obtain ⟨ss', e', q⟩ := Option.bind_eq_some_iff.mp e
    cases q
    obtain ⟨n, p, rfl⟩ := strOf_eq hx
    exact WLs.cons (WE.strc (WLs.strs (Q := fun ps H2 => Q (.str x :: ps) H2) e' h))
noncomputable def strLists : List Expr → Option (List (List Str))
  | [] => some []
  | e :: r => (lstOf e).bind fun cs => (strConsts cs).bind fun a => (strLists r).bind fun b => some (a :: b)
noncomputable def locsFrom : Nat → Nat → List PV
  | _, 0 => []
  | a, n + 1 => .loc a :: locsFrom (a + 1) n
theorem locsFrom_get : ∀ (n a j : Nat), j < n → (locsFrom a n)[j]? = some (.loc (a + j))
  | 0, _, _, h => absurd h (Nat.not_lt_zero _)
  | n + 1, a, 0, _ => by simp [locsFrom]
  | n + 1, a, j + 1, h => by
    simp only [locsFrom, List.getElem?_cons_succ]
    rw [locsFrom_get n (a + 1) j (by omega)]
    congr 2; omega
theorem locsFrom_len : ∀ (n a : Nat), (locsFrom a n).length = n
  | 0, _ => rfl
  | n + 1, a => by simp [locsFrom, locsFrom_len n (a + 1)]
theorem WLs.strLists : ∀ {es : List Expr} {lss : List (List Str)} {H : List Cell} {Q : List PV → List Cell → Prop}, Mine.strLists es = some lss → (∀ l ∈ lss, l.length ≤ 1000) → Q (locsFrom H.length lss.length) (H ++ lss.map fun l => .list (l.map .str)) → WLs g k env es ρ H Q
  | [], lss, H, Q, e, _, h => by
    cases e
    exact WLs.nil (by simpa [locsFrom] using h)
  | ex :: r, lss, H, Q, e, hl, h => by
    obtain ⟨cs, hc, e⟩ := Option.bind_eq_some_iff.mp e
    obtain ⟨a, ha, e⟩ := Option.bind_eq_some_iff.mp e
    obtain ⟨b, hb, q⟩ := Option.bind_eq_some_iff.mp e
    cases q
    obtain ⟨p, rfl⟩ := lstOf_eq hc
    refine WLs.cons (WE.list (WLs.strs ha ⟨by simpa using hl a List.mem_cons_self, ?_⟩))
    refine WLs.strLists (Q := fun ps H2 => Q (.loc H.length :: ps) H2) hb (fun l hm => hl l (List.mem_cons_of_mem _ hm)) ?_
    simpa [locsFrom] using h

/-! _law_way -/
noncomputable def pieces : List Str := [".", "a", "b", "ab", "a//", "ab/../b", "./ab", "b/.."]
noncomputable def pwords : List (List Str) := [[], ["a"], ["b"], ["ab"], ["a"], ["b"], ["ab"], []]
noncomputable def wayF : Nat → Nat → List Str → Str → List Str × Str
  | 0, _, ws, sp => (ws, sp)
  | f + 1, n, ws, sp => if n = 0 then (ws, sp) else wayF f (n / 8) (ws ++ pwords.getD (n % 8) []) (joinP sp (pieces.getD (n % 8) "."))

theorem getD_map {α β : Type} (f : α → β) (l : List α) (d : α) {i : Nat} (h : i < l.length) : (l.map f)[i]? = some (f (l.getD i d)) := by
  rw [List.getElem?_map, List.getD_eq_getElem?_getD, List.getElem?_eq_getElem h]; rfl
theorem i4 {i : Nat} (h : i < 4) : i = 0 ∨ i = 1 ∨ i = 2 ∨ i = 3 := by revert i; decide
theorem i8 {i : Nat} (h : i < 8) : i = 0 ∨ i = 1 ∨ i = 2 ∨ i = 3 ∨ i = 4 ∨ i = 5 ∨ i = 6 ∨ i = 7 := by revert i; decide
theorem pieces_le (i : Nat) : (pieces.getD i ".").length ≤ 7 := by
  by_cases h : i < 8
  · have := i8 h
    rcases this with rfl | rfl | rfl | rfl | rfl | rfl | rfl | rfl <;> decide
  · rw [List.getD_eq_getElem?_getD, List.getElem?_eq_none (by show 8 ≤ i; omega)]; decide
theorem pwords_le (i : Nat) : (pwords.getD i []).length ≤ 1 := by
  by_cases h : i < 8
  · have := i8 h
    rcases this with rfl | rfl | rfl | rfl | rfl | rfl | rfl | rfl <;> decide
  · rw [List.getD_eq_getElem?_getD, List.getElem?_eq_none (by show 8 ≤ i; omega)]; decide
theorem joinP_le (a b : Str) : (joinP a b).length ≤ a.length + b.length + 1 := by
  unfold joinP
  split
  · omega
  · split
    · rw [len_app]; omega
    · rw [len_app, len_app]; show _ + (1 + _) ≤ _; omega

set_option maxHeartbeats 1000000 in
theorem c_way (G : Gd g) {n : Nat} {sp : Str} {m : Nat} {Q : PV → List Cell → Prop} (hn : n < 8 ^ m) (hm : m ≤ 100) (hl : sp.length ≤ 1000)
    (h : ∀ E w, (H ++ E)[w]? = some (.flist ((wayF m n [] sp).1.map .str)) → Q (.loc (H ++ E).length) (H ++ E ++ [.tup [.loc w, .str (wayF m n [] sp).2]])) : WC g (k + 3) (.ref 285) [.int n, .str sp] H Q := by
  refine WC.def (xs := ["rest", "spelled"]) G rfl rfl rfl (by kernel_rfl) ?_ rfl (by decide) rfl rfl rfl rfl rfl rfl rfl rfl ?_
  · exact vs2 fun _ _ => rfl
  intro env hF hE
  dsimp only at hF hE
  refine WSS.cons (WS.asg hF (WE.list (WLs.nil ⟨by simp, CS.next ?_⟩)))
  refine WSS.cons (WS.whileW (fun q ρ' H' => Ex5 fun (r : Nat) (ws : List Str) (p : Str) (w : Nat) (E : List Cell) => And9 (r < 8 ^ q) (H.length ≤ w) (q ≤ m) (ws.length + q ≤ m) (p.length + 8 * q ≤ sp.length + 8 * m) (wayF q r ws p = wayF m n [] sp) (H' = H ++ E) ((H ++ E)[w]? = some (.list (ws.map .str))) (ρ' = ([("rest", .int r), ("spelled", .str p), ("words", .loc w)] : Rho))) (m₀ := m)
    (Up.mk ⟨n, [], sp, H.length, [.list []], hn, Nat.le_refl _, Nat.le_refl _, by simp, Nat.le_refl _, rfl, rfl, by simp, rfl⟩ ⟨rfl, rfl, rfl, trivial⟩) ?_)
  rintro q ρ' H' ⟨r, ws, p, w, E, hr, hwH, hq, hws, hp, hf, rfl, hw, rfl⟩
  refine WT.cmp (WE.l hE rfl (WE.int (WO2.gtI ⟨_, rfl, ite_b (fun h1 => ?_) (fun h1 => ?_)⟩)))
  · have hr0 : r ≠ 0 := by rintro rfl; simp at h1
    obtain ⟨q, rfl⟩ : ∃ q', q = q' + 1 := ⟨q - 1, by
      cases q with
      | zero => simp at hr; exact absurd hr hr0
      | succ q => rfl⟩
    rw [wayF, if_neg hr0] at hf
    have hi : r % 8 < 8 := Nat.mod_lt _ (by decide)
    refine WSS.cons (WS.asg hF (WE.binop (WE.l hE rfl (WE.int (WO2.modN (a := r) (b := 8) (by decide) (CS.next ?_))))))
    refine WSS.cons (WS.asg hF (WE.callK G hE (gl_join _) (kp_259 _) (WLs.two (WE.l hE rfl (WE.sub (WE.list (WLs.strs (ss := pieces) rfl ⟨by decide, WE.l hE rfl (WO2.base ?_)⟩)))))))
    refine WO2.itemL (i := ((r % 8 : Nat) : Int)) (p := .str (pieces.getD (r % 8) ".")) (xs := pieces.map .str) (.inl (by simp)) (Int.natCast_nonneg _) (by omega) (getD_map PV.str pieces "." hi) ?_
    have hpl := pieces_le (r % 8)
    have hpw := pwords_le (r % 8)
    have hjl := joinP_le p (pieces.getD (r % 8) ".")
    refine c_join G (by omega) fun E2 => CS.next ?_
    revert hf hjl
    generalize joinP p (pieces.getD (r % 8) ".") = p2
    intro hf hjl
    have hww : w < (H ++ E).length := (List.getElem?_eq_some_iff.mp hw).1
    obtain ⟨H3, hH3⟩ : ∃ H3, H3 = H ++ E ++ [Cell.list (pieces.map PV.str)] ++ E2 := ⟨_, rfl⟩
    have hw3 : H3[w]? = some (.list (ws.map .str)) := by
      rw [hH3, List.append_assoc, List.getElem?_append_left hww]; exact hw
    rw [← hH3]
    refine WSS.cons (WS.asg hF (WE.binop (WE.l hE rfl ?_)))
    refine WE.sub ?_
    refine WE.list ?_
    refine WLs.strLists (lss := pwords) ?_ ?_ ?_
    · rfl
    · decide
    refine ⟨?_, WE.l hE rfl (WO2.base ?_)⟩
    · rw [locsFrom_len]; decide
    have hw3l : w < H3.length := (List.getElem?_eq_some_iff.mp hw3).1
    refine WO2.itemL (i := ((r % 8 : Nat) : Int)) (p := .loc (H3.length + r % 8)) (xs := locsFrom H3.length 8) (.inl (by simp; rfl)) (Int.natCast_nonneg _) (by omega) (locsFrom_get 8 _ _ hi) ?_
    refine WO2.addL (xs := ws.map .str) (ys := (pwords.getD (r % 8) []).map .str) (.inl ?_) (.inl ?_) ?_ (CS.next ?_)
    · rw [List.append_assoc, List.getElem?_append_left hw3l]; exact hw3
    · rw [List.append_assoc, List.getElem?_append_right (by omega), Nat.add_sub_cancel_left, List.getElem?_append_left (by simp [pwords]; omega)]
      exact getD_map (fun l => Cell.list (l.map PV.str)) pwords [] hi
    · simp only [List.length_map]; omega
    obtain ⟨E3, hE3⟩ : ∃ E3, H3 ++ pwords.map (fun l => Cell.list (l.map PV.str)) ++ [Cell.list (locsFrom H3.length pwords.length)] = H ++ E3 := ⟨E ++ [Cell.list (pieces.map PV.str)] ++ E2 ++ pwords.map (fun l => Cell.list (l.map PV.str)) ++ [Cell.list (locsFrom H3.length pwords.length)], by rw [hH3]; simp⟩
    rw [hE3]
    refine WSS.cons (WS.asg hF (WE.binop (WE.l hE rfl (WE.int (WO2.divN (a := r) (b := 8) (by decide) (by decide) (CS.next (WSS.nil (LQ.next ?_))))))))
    refine Up.mk ⟨q, by omega, r / 8, ws ++ pwords.getD (r % 8) [], p2, (H ++ E3).length, E3 ++ [Cell.list (ws.map .str ++ (pwords.getD (r % 8) []).map .str)], ?_, by simp, by omega, ?_, by omega, hf, by simp, ?_, rfl⟩ ⟨rfl, rfl, rfl, trivial⟩
    · rw [Nat.pow_succ] at hr; omega
    · simp only [List.length_append]; omega
    · rw [← List.append_assoc]; simp
  · have hr0 : r = 0 := by simpa using h1
    have hf' : (ws, p) = wayF m n [] sp := by
      rw [← hf, hr0]; cases q <;> simp [wayF]
    refine WSS.nil (CS.next ?_)
    refine WSS.freeze hw ?_
    have hww : w < (H ++ E).length := (List.getElem?_eq_some_iff.mp hw).1
    have eset : (H ++ E).set w (Cell.flist (ws.map PV.str)) = H ++ E.set (w - H.length) (Cell.flist (ws.map PV.str)) := by
      rw [List.set_append_right _ _ hwH]
    have hget : (H ++ E.set (w - H.length) (Cell.flist (ws.map PV.str)))[w]? = some (.flist (ws.map .str)) := by
      rw [← eset, List.getElem?_set_self hww]
    rw [eset]
    have := h (E.set (w - H.length) (Cell.flist (ws.map PV.str))) w (by rw [← hf']; exact hget)
    rw [← hf'] at this
    exact WSS.cons (WS.ret (WE.tuple (WLs.two (WE.l hE rfl (WE.l hE rfl ⟨by simp, RQ this⟩)))))
end
end Mine

namespace Mine

section
variable {g : Cfg} {k : Nat} {W β β' : List Addr} {env : Env} {ρ : Rho} {H H' : List Cell} {s s' : Shared} {names : List (Str × NameKind)}

theorem get_app {H : List Cell} {n : Nat} {c : Cell} (e : H[n]? = some c) (E : List Cell) : (H ++ E)[n]? = some c := by
  rw [List.getElem?_append_left (List.getElem?_eq_some_iff.mp e).1]; exact e

/-- H' is H with more behind -/
noncomputable def Ext (H H' : List Cell) : Prop := ∃ E, H' = H ++ E
theorem Ext.rfl' (H : List Cell) : Ext H H := ⟨[], by simp⟩
theorem Ext.more {H H' : List Cell} (h : Ext H H') (E : List Cell) : Ext H (H' ++ E) := by
  obtain ⟨F, rfl⟩ := h; exact ⟨F ++ E, by simp⟩
theorem Ext.get {H H' : List Cell} (h : Ext H H') {n : Nat} {c : Cell} (e : H[n]? = some c) : H'[n]? = some c := by
  obtain ⟨F, rfl⟩ := h; exact get_app e F
theorem Ext.trans {H H' H'' : List Cell} (h : Ext H H') (h' : Ext H' H'') : Ext H H'' := by
  obtain ⟨F, rfl⟩ := h; obtain ⟨F', rfl⟩ := h'; exact ⟨F ++ F', by simp⟩
theorem Ext.le {H H' : List Cell} (h : Ext H H') : H.length ≤ H'.length := by obtain ⟨F, rfl⟩ := h; simp

/-! _law_shared -/
noncomputable def sharedP : List Str → List Str → List Str
  | x :: xs, y :: ys => if x == y then x :: sharedP xs ys else []
  | _, _ => []

theorem c_shared (G : Gd g) {n m : Nat} {xs ys : List Str} {Q : PV → List Cell → Prop} (hn : H[n]? = some (.flist (xs.map .str))) (hm : H[m]? = some (.flist (ys.map .str))) (hl : xs.length ≤ 1000)
    (h : Q (.loc H.length) (H ++ [.list ((sharedP xs ys).map .str)])) : WC g (k + 1) (.ref 318) [.loc n, .loc m] H Q := by
  refine WC.def (xs := ["one", "other"]) G rfl rfl rfl (by kernel_rfl) ?_ rfl (by decide) rfl rfl rfl rfl rfl rfl rfl rfl ?_
  · exact vs2 fun _ _ => rfl
  intro env hF hE
  dsimp only at hF hE
  refine WSS.cons (WS.asg hF (WE.list (WLs.nil ⟨by simp, CS.next ?_⟩)))
  refine WSS.cons (WS.forTW (fun xss ρ' H' => Ex3 fun (a b d : List Str) => And5 (xss = zipPs (a.map .str) (b.map .str)) (d ++ sharedP a b = sharedP xs ys) (d.length + a.length ≤ 1000) (H' = H ++ [.list (d.map .str)]) (ρ' = ([("shared", .loc H.length)] : Rho))) ?_ ?_ ?_)
  · refine WItT.zip (WE.bi G hE (gn_zip _) bb_zip ⟨rfl, WLs.two (WE.l hE rfl (WE.l hE rfl ⟨n, m, xs.map .str, ys.map .str, rfl, get_app hn _, get_app hm _, ?_⟩))⟩)
    exact Up.mk ⟨xs, ys, [], rfl, rfl, by simpa using hl, rfl, rfl⟩ ⟨rfl, trivial⟩
  · rintro x rest ρ' H' ⟨a, b, d, e, hd, hlen, rfl, rfl⟩
    cases a with
    | nil => cases e
    | cons a as =>
    cases b with
    | nil => cases e
    | cons b bs =>
    simp only [List.map_cons, zipPs, List.cons.injEq] at e
    obtain ⟨rfl, rfl⟩ := e
    simp only [List.length_cons] at hlen
    have hcell : (H ++ [Cell.list (d.map PV.str)])[H.length]? = some (.list (d.map .str)) := by simp
    refine ⟨rfl, WA.nm hF (WA.nm hF ?_)⟩
    refine WSS.cons (WS.ite (WT.cmp (WE.l hE rfl (WE.l hE rfl (WO2.neS ⟨_, rfl, ite_b (fun h1 => ?_) (fun h1 => ?_)⟩)))))
    · have hne : ¬ (a == b) = true := by simpa using h1
      rw [sharedP, if_neg hne, List.append_nil] at hd
      subst hd
      exact WSS.cons (WS.ret (WE.l hE rfl (CS.ret (CS.ret (LQ.ret (RQ h))))))
    · have he : (a == b) = true := by simpa using h1
      rw [sharedP, if_pos he] at hd
      refine WSS.nil (CS.next (WSS.cons (WS.ex (WE.meth (WE.l hE rfl ⟨GM.append hcell, WLs.one (WE.l hE rfl (WC.append hcell (by simp; omega) ⟨by simp, by simp, CS.next (WSS.nil (LQ.next ?_))⟩))⟩)))))
      have ec : (H ++ [Cell.list (d.map PV.str)]).set H.length (Cell.list (d.map PV.str ++ [PV.str a])) = H ++ [Cell.list ((d ++ [a]).map PV.str)] := by simp
      rw [ec]
      exact Up.mk ⟨as, bs, d ++ [a], rfl, by rw [← hd]; simp, by simp; omega, rfl, rfl⟩ ⟨rfl, trivial⟩
  · rintro ρ' H' ⟨a, b, d, e, hd, hlen, rfl, rfl⟩
    have hz : sharedP a b = [] := by
      cases a with
      | nil => rfl
      | cons _ _ =>
      cases b with
      | nil => rfl
      | cons _ _ => cases e
    rw [hz, List.append_nil] at hd
    subst hd
    exact WSS.nil (CS.next (WSS.cons (WS.ret (WE.l hE rfl (RQ h)))))

/-! _law_listing -/
noncomputable def at1 (x : Str) (i : Nat) : Str := ⟨#[x.cps.getD i 0]⟩
noncomputable def rwL : List Str := ["--", "-w", "r-", "rw"]
noncomputable def listStep (m : Nat) (t : Str) (x : Nat × Nat × Str) : Str := t ++ rwL.getD (m / x.1 % 8 / 2) "--" ++ at1 x.2.2 (m / x.1 % 8 % 2 + m / x.2.1 % 2 * 2)
noncomputable def trips : List (Nat × Nat × Str) := [(64, 2048, "-xSs"), (8, 1024, "-xSs"), (1, 512, "-xTt")]
noncomputable def listP (m : Nat) : Str := trips.foldl (listStep m) (at1 "?pc?d?b?-?l?s???" (m / 4096))

theorem WO2.at1 {ve ie : Expr} {x : Str} {i : Nat} {Q : PV → List Cell → Prop} (hi : i < x.length) (hs : x.length ≤ 100000) (h : Q (.str (Mine.at1 x i)) H)
    (he : ∀ l u, subscripted ie false (.str x l) (.int (i : Int) u) = operate [.str x l, .int (i : Int) u] (getItem (.str x l) (.int (i : Int) u)) := by intro _ _; with_unfolding_all rfl) : WO2 g k (.str x) (.int i) (subscriptTail ve ie) H Q := by
  refine WO2.base (WO2.itemS (c := x.cps.getD i 0) (Int.natCast_nonneg _) (by omega) ?_ h he)
  have hi' : i < x.cps.size := hi
  rw [Int.toNat_natCast]
  simp [hi']

noncomputable def Trips (H : List Cell) : List PV → List (Nat × Nat × Str) → Prop
  | [], [] => True
  | p :: ps, t :: ts => (∃ n, p = .loc n ∧ H[n]? = some (.tup [.int t.1, .int t.2.1, .str t.2.2])) ∧ Trips H ps ts
  | _, _ => False
theorem Trips.app {H : List Cell} (E : List Cell) : ∀ {ps : List PV} {ts : List (Nat × Nat × Str)}, Trips H ps ts → Trips (H ++ E) ps ts
  | [], [], _ => trivial
  | _ :: _, _ :: _, ⟨⟨n, e, hn⟩, r⟩ => ⟨⟨n, e, get_app hn E⟩, r.app E⟩
  | [], _ :: _, x => x.elim
  | _ :: _, [], x => x.elim
theorem rwL_le (i : Nat) : (rwL.getD i "--").length ≤ 2 := by
  by_cases h : i < 4
  · have := i4 h
    rcases this with rfl | rfl | rfl | rfl <;> decide
  · rw [List.getD_eq_getElem?_getD, List.getElem?_eq_none (by show 4 ≤ i; omega)]; decide
theorem at1_len (x : Str) (i : Nat) : (at1 x i).length = 1 := rfl

set_option maxHeartbeats 1000000 in
theorem c_listing (G : Gd g) {m : Nat} {Q : PV → List Cell → Prop} (hm : m < 65536) (h : ∀ E, Q (.str (listP m)) (H ++ E)) : WC g (k + 1) (.ref 297) [.int m] H Q := by
  refine WC.def (xs := ["mode"]) G rfl rfl rfl (by kernel_rfl) ?_ rfl (by decide) rfl rfl rfl rfl rfl rfl rfl rfl ?_
  · exact vs1 fun _ => rfl
  intro env hF hE
  dsimp only at hF hE
  refine WSS.cons (WS.asg hF (WE.sub (WE.strc (WE.binop (WE.l hE rfl (WE.int (WO2.divN (a := m) (b := 4096) (by decide) (by decide) ?_)))))))
  refine WO2.at1 (by show m / 4096 < 16; omega) (by decide) (CS.next ?_)
  with_reducible refine WSS.cons ?_
  with_reducible refine WS.forW (fun rest ρ' H' => Ex2 fun (todo : List (Nat × Nat × Str)) (t : Str) => And6 (Ext H H') (Trips H' rest todo) (∀ x ∈ todo, 0 < x.1 ∧ 0 < x.2.1 ∧ x.1 < 1000 ∧ x.2.1 < 10000 ∧ x.2.2.length = 4) (t.length + 3 * todo.length ≤ 100) (todo.foldl (listStep m) t = listP m) (ρ' = ([("mode", .int m), ("text", .str t)] : Rho))) ?h1 ?h2 ?h3 ?hs
  case hs => intro _; rfl
  · refine WE.flist ?_
    refine WLs.cons (WE.tuple (WLs.cons (WE.int (WLs.cons (WE.int (WLs.cons (WE.strc (WLs.nil ⟨by simp, ?_⟩))))))))
    refine WLs.cons (WE.tuple (WLs.cons (WE.int (WLs.cons (WE.int (WLs.cons (WE.strc (WLs.nil ⟨by simp, ?_⟩))))))))
    refine WLs.cons (WE.tuple (WLs.cons (WE.int (WLs.cons (WE.int (WLs.cons (WE.strc (WLs.nil ⟨by simp, ?_⟩))))))))
    refine WLs.nil ⟨by simp, _, _, _, rfl, List.getElem?_concat_length .., rfl, by simp, ?_⟩
    refine Up.mk ⟨trips, at1 "?pc?d?b?-?l?s???" (m / 4096), .more (.more (.more (.more (.rfl' _) _) _) _) _, ?_, by decide, by rw [at1_len]; decide, rfl, rfl⟩ ⟨rfl, rfl, trivial⟩
    · exact ⟨⟨_, rfl, by simp⟩, ⟨_, rfl, by simp⟩, ⟨_, rfl, by simp⟩, trivial⟩
  · rintro x rest ρ' H' ⟨todo, t, hX, ht, hok, hlen, hf, rfl⟩
    cases todo with
    | nil => exact ht.elim
    | cons tt todo =>
    obtain ⟨u, a, l⟩ := tt
    obtain ⟨⟨n, e, hn⟩, ht2⟩ := ht
    subst e
    obtain ⟨hu, ha, hu2, ha2, hl4⟩ := hok _ List.mem_cons_self
    simp only at hu ha hu2 ha2 hl4 hn
    simp only [List.length_cons] at hlen
    have hr2 := rwL_le (m / u % 8 / 2)
    refine WA.unpack (.inl hn) rfl (WA.nm hF (WA.nm hF (WA.nm hF ?_)))
    have hbig : (10000 : Nat) < 2 ^ 1000 := by decide
    refine WSS.cons (WS.asg hF (WE.binop (WE.binop (WE.l hE rfl (WE.l hE rfl (WO2.divN (a := m) (b := u) hu (by omega) (WE.int (WO2.modN (a := m / u) (b := 8) (by decide) (CS.next ?_)))))))))
    refine WSS.cons (WS.asg hF (WE.binop (WE.l hE rfl ?_)))
    refine WE.sub ?_
    refine WE.list (WLs.strs (ss := rwL) rfl ⟨by decide, ?_⟩)
    refine WE.binop (WE.l hE rfl (WE.int (WO2.divN (a := m / u % 8) (b := 2) (by decide) (by decide) ?_)))
    refine WO2.base (WO2.itemL (i := ((m / u % 8 / 2 : Nat) : Int)) (p := .str (rwL.getD (m / u % 8 / 2) "--")) (xs := rwL.map .str) (.inl (by simp)) (Int.natCast_nonneg _) (by omega) (getD_map PV.str rwL "--" (by show _ < 4; omega)) ?_)
    refine WO2.addS (by rw [len_app]; omega) (CS.next ?_)
    refine WSS.cons (WS.asg hF (WE.binop (WE.l hE rfl ?_)))
    refine WE.sub (WE.l hE rfl ?_)
    refine WE.binop (WE.binop (WE.l hE rfl (WE.int (WO2.modN (a := m / u % 8) (b := 2) (by decide) ?_))))
    refine WE.binop (WE.binop (WE.binop (WE.l hE rfl (WE.l hE rfl (WO2.divN (a := m) (b := a) ha (by omega) (WE.int (WO2.modN (a := m / a) (b := 2) (by decide) (WE.int (WO2.mulI ?_ ?_)))))))))
    rotate_left
    · exact IntMulOk.of_right (by decide)
    refine WO2.addI ?_
    have eidx : ((m / u % 8 % 2 : Nat) : Int) + ((m / a % 2 : Nat) : Int) * 2 = ((m / u % 8 % 2 + m / a % 2 * 2 : Nat) : Int) := by omega
    rw [eidx]
    refine WO2.at1 (by rw [hl4]; omega) (by omega) ?_
    refine WO2.addS (by rw [len_app, len_app, at1_len]; omega) (CS.next (WSS.nil (LQ.next ?_)))
    refine Up.mk ⟨todo, listStep m t (u, a, l), hX.more _, ?_, fun x hx => hok x (List.mem_cons_of_mem _ hx), ?_, hf, rfl⟩ ⟨rfl, rfl, trivial⟩
    · exact ht2.app _
    · rw [listStep, len_app, len_app, at1_len]; simp only; omega
  · rintro ρ' H' ⟨todo, t, hX, ht, hok, hlen, hf, rfl⟩
    cases todo with
    | cons _ _ => exact ht.elim
    | nil =>
    simp only [List.foldl_nil] at hf
    subst hf
    obtain ⟨E, rfl⟩ := hX
    exact WSS.nil (CS.next (WSS.cons (WS.ret (WE.l hE rfl (RQ (h _))))))
end
end Mine

namespace Mine

noncomputable abbrev Rw := List Str × Nat × Str
noncomputable def rowHit (words : List Str) (unit far : Nat) (r : Rw) : Option Str :=
  if r.1 == words.take far && (r.2.1 / 4096 != 4 || r.2.1 / unit % 2 == 0) then some (listP r.2.1) else none
noncomputable def farHit (rows : List Rw) (words : List Str) (unit far : Nat) : Option Str := rows.findSome? (rowHit words unit far)
noncomputable def firstBarP (rows : List Rw) (words : List Str) (unit : Nat) : Str := ((List.range (words.length + 1)).findSome? (farHit rows words unit)).getD ""

/-- rows, as the heap bears them: nobody changes them any more -/
noncomputable def RowsAt (H : List Cell) : List PV → List Rw → Prop
  | [], [] => True
  | p :: ps, r :: rs => (∃ n w, p = .loc n ∧ H[n]? = some (.flist [.loc w, .int r.2.1, .str r.2.2]) ∧ H[w]? = some (.flist (r.1.map .str))) ∧ RowsAt H ps rs
  | _, _ => False
theorem RowsAt.ext {H H' : List Cell} (h : Ext H H') : ∀ {ps : List PV} {rs : List Rw}, RowsAt H ps rs → RowsAt H' ps rs
  | [], [], _ => trivial
  | _ :: _, _ :: _, ⟨⟨n, w, e, h1, h2⟩, r⟩ => ⟨⟨n, w, e, h.get h1, h.get h2⟩, r.ext h⟩
  | [], _ :: _, x => x.elim
  | _ :: _, [], x => x.elim
theorem RowsAt.len {H : List Cell} : ∀ {ps : List PV} {rs : List Rw}, RowsAt H ps rs → ps.length = rs.length
  | [], [], _ => rfl
  | _ :: _, _ :: _, ⟨_, r⟩ => by simp [r.len]
  | [], _ :: _, x => x.elim
  | _ :: _, [], x => x.elim

section
variable {g : Cfg} {k : Nat} {W β β' : List Addr} {env : Env} {ρ : Rho} {H H' : List Cell} {s s' : Shared} {names : List (Str × NameKind)}

theorem WC.range {n : Nat} {Q : PV → List Cell → Prop} (h : Q (.loc H.length) (H ++ [.rng n])) : WC g k (.type "range") [.int n] H Q := by
  intro A β s vs hA S V
  obtain ⟨v, rfl, ⟨t, rfl⟩⟩ := vls1 V
  refine call_range_1 ⟨β ++ [s.heap.objs.size], H ++ [.rng n], .loc H.length, Step.add (c := .rng n) S (fun b o e => Heap.get?_push_of_some _ e) (get_size_none _) ⟨_, _, _, Heap.get?_push_size _ rfl⟩, ⟨_, by rw [← S.len]; simp, rfl⟩, h⟩
theorem WO2.notInStr {x y : Str} {Q : PV → List Cell → Prop} (h : Q (.bool (!(Txt.contains x y))) H) : WO2 g k (.str y) (.str x) (compareOp .NotIn) H Q := by
  rintro A β s va vb hA S ⟨t, rfl⟩ ⟨u, rfl⟩
  exact P.notIn_str (PE.here (pv := .bool (!(Txt.contains x y))) S rfl h)
theorem clip_nat {n f : Nat} (h : f ≤ n) : clipAt n (f : Int) = f := by
  have := clipAt_cast n (f : Int)
  split at this <;> omega

set_option maxHeartbeats 1000000 in
theorem c_first_bar (G : Gd g) {r w : Nat} {unit : Nat} {ps : List PV} {rows : List Rw} {words : List Str} {Q : PV → List Cell → Prop} (hr : H[r]? = some (.flist ps)) (hR : RowsAt H ps rows) (hw : H[w]? = some (.flist (words.map .str)))
    (hu : 0 < unit) (hu2 : unit < 1000) (hwl : words.length ≤ 100) (hpl : ps.length ≤ 1000) (hok : OkL words = true) (hokr : ∀ x ∈ rows, OkL x.1 = true ∧ x.2.1 < 65536)
    (h : ∀ H', Ext H H' → Q (.str (firstBarP rows words unit)) H') : WC g (k + 2) (.ref 304) [.loc r, .loc w, .int unit] H Q := by
  refine WC.def (xs := ["rows", "words", "unit"]) G rfl rfl rfl (by kernel_rfl) ?_ rfl (by decide) rfl rfl rfl rfl rfl rfl rfl rfl ?_
  · exact vs3 fun _ _ _ => rfl
  intro env hF hE
  dsimp only at hF hE
  refine WSS.cons (WS.forW (fun rest ρ' H' => ∃ fars : List Nat, And5 (rest = fars.map (fun i => .int (Int.ofNat i))) (∀ f ∈ fars, f ≤ words.length) ((fars.findSome? (farHit rows words unit)).getD "" = firstBarP rows words unit) (Ext H H') (ρ' = ([("rows", .loc r), ("words", .loc w), ("unit", .int unit)] : Rho))) ?_ ?_ ?_)
  · refine WE.callT G hE (gn_range _) bb_range (WLs.one (WE.binop (WE.callB G hE (gn_len _) bb_len (WLs.one (WE.l hE rfl (WC.lenL (.inr hw) (by simp; omega) (WE.int (WO2.addI ?_))))))))
    have e1 : ((words.map PV.str).length : Int) + 1 = ((words.length + 1 : Nat) : Int) := by simp
    rw [e1]
    refine WC.range ⟨H.length, .rng (words.length + 1), _, rfl, by simp, rfl, by simp; omega, ?_⟩
    exact Up.mk ⟨List.range (words.length + 1), rfl, fun f hf => by have := List.mem_range.mp hf; omega, rfl, (Ext.rfl' H).more _, rfl⟩ ⟨rfl, rfl, rfl, trivial⟩
  · rintro x rest ρ' H' ⟨fars, e, hfl, hf, hX, rfl⟩
    cases fars with
    | nil => cases e
    | cons far fars =>
    simp only [List.map_cons, List.cons.injEq] at e
    obtain ⟨rfl, rfl⟩ := e
    have hfar : far ≤ words.length := hfl far List.mem_cons_self
    refine WA.nm hF ?_
    refine WSS.cons (WS.forW (fun rest' ρ' H2 => ∃ rs : List Rw, And5 (RowsAt H2 rest' rs) (∀ x ∈ rs, OkL x.1 = true ∧ x.2.1 < 65536) (((rs.findSome? (rowHit words unit far)).or (fars.findSome? (farHit rows words unit))).getD "" = firstBarP rows words unit) (Ext H H2) (ρ' = ([("rows", .loc r), ("words", .loc w), ("unit", .int unit), ("far", .int far)] : Rho))) ?_ ?_ ?_)
    · refine WE.l hE rfl ⟨r, .flist ps, ps, rfl, hX.get hr, rfl, by omega, Up.mk ⟨rows, hR.ext hX, hokr, ?_, hX, rfl⟩ ⟨rfl, rfl, rfl, rfl, trivial⟩⟩
      rw [← hf, List.findSome?_cons]
      cases hh : farHit rows words unit far with
      | none => rw [show rows.findSome? (rowHit words unit far) = none from hh]; rfl
      | some y => rw [show rows.findSome? (rowHit words unit far) = some y from hh]; rfl
    · rintro x rest' ρ' H2 ⟨rs, hRs, hoks, hfs, hX2, rfl⟩
      cases rs with
      | nil => exact hRs.elim
      | cons rr rs =>
      obtain ⟨rw_, md, sp⟩ := rr
      obtain ⟨⟨n, v, e, hn, hv⟩, hRs2⟩ := hRs
      subst e
      obtain ⟨hok1, hmd⟩ := hoks _ List.mem_cons_self
      simp only at hn hv hok1 hmd
      refine WA.nm hF ?_
      have hwo : OkL (words.take far) = true := by
        simp only [OkL, List.all_eq_true] at hok ⊢
        exact fun x hx => hok x (List.mem_of_mem_take hx)
      have next : ∀ ρ3 H3, SubL ([("rows", .loc r), ("words", .loc w), ("unit", .int unit), ("far", .int far)] : Rho) ρ3 → Ext H2 H3 → rowHit words unit far (rw_, md, sp) = none →
          Up (fun ρ' H2 => ∃ rs : List Rw, And5 (RowsAt H2 rest' rs) (∀ x ∈ rs, OkL x.1 = true ∧ x.2.1 < 65536) (((rs.findSome? (rowHit words unit far)).or (fars.findSome? (farHit rows words unit))).getD "" = firstBarP rows words unit) (Ext H H2) (ρ' = ([("rows", .loc r), ("words", .loc w), ("unit", .int unit), ("far", .int far)] : Rho))) ρ3 H3 := fun ρ3 H3 hs hx hh => by
        rw [List.findSome?_cons, hh] at hfs
        exact Up.mk ⟨rs, hRs2.ext hx, fun x hx => hoks x (List.mem_cons_of_mem _ hx), hfs, hX2.trans hx, rfl⟩ hs
      refine WSS.cons (WS.ite (WT.bool (WAll.consA ?_)))
      refine WT.cmp (WE.sub (WE.l hE rfl (WE.int (WO2.itemL (p := .loc v) (.inr hn) (by decide) (by decide) rfl ?_))))
      refine WE.sliceL (WE.l hE rfl (WPt.no (WPt.so (WE.l hE rfl ⟨(far : Int), rfl, w, words.map .str, rfl, .inr (hX2.get hw), by simp; omega, ?_⟩))))
      have eT : ((words.map PV.str).drop 0).take ((clipAt (words.map PV.str).length (far : Int)) - 0) = (words.take far).map .str := by
        rw [List.length_map, clip_nat hfar, List.drop_zero, Nat.sub_zero, List.map_take]
      simp only [Option.elim]
      rw [eT]
      refine WO2.eqL (.inr (get_app hv _)) (.inl (by simp)) hok1 hwo ⟨_, rfl, ite_b (fun h1 => ?_) (fun h1 => ?_)⟩
      · have hn' := get_app hn [Cell.list ((words.take far).map PV.str)]
        refine WAll.consA (WT.bool (WAll.consO ?_))
        refine WT.cmp (WE.binop (WE.sub (WE.l hE rfl (WE.int (WO2.itemL (p := .int md) (.inr hn') (by decide) (by decide) rfl ?_)))))
        refine WE.int (WO2.divN (a := md) (b := 4096) (by decide) (by decide) (WE.int (WO2.neI ⟨_, rfl, ?_⟩)))
        refine ite_b (fun h2 => WAll.nilA ?_) (fun h2 => ?_)
        · have h2' : (md / 4096 != 4) = true := by
            simp only [bne_iff_ne, ne_eq] at h2 ⊢
            omega
          have hh : rowHit words unit far (rw_, md, sp) = some (listP md) := by
            rw [rowHit]
            simp only [h1, h2', Bool.true_or, Bool.and_self, if_true]
          rw [List.findSome?_cons, hh] at hfs
          have hfs' : listP md = firstBarP rows words unit := hfs
          refine WSS.cons (WS.ret (WE.callK G hE (gl__law_listing _) (kp_297 _) (WLs.one (WE.sub (WE.l hE rfl (WE.int (WO2.itemL (p := .int md) (.inr hn') (by decide) (by decide) rfl (c_listing G hmd fun E => ?_))))))))
          refine CS.ret (CS.ret (LQ.ret (CS.ret (LQ.ret (RQ ?_)))))
          rw [hfs']
          exact h _ ((hX2.more _).more _)
        refine WAll.consO ?_
        refine WT.cmp (WE.binop (WE.binop (WE.sub (WE.l hE rfl (WE.int (WO2.itemL (p := .int md) (.inr hn') (by decide) (by decide) rfl ?_))))))
        refine WE.l hE rfl (WO2.divN (a := md) (b := unit) hu (Nat.lt_trans hu2 (by decide)) (WE.int (WO2.modN (a := md / unit) (b := 2) (by decide) (WE.int (WO2.eqI ⟨_, rfl, ite_b (fun h3 => WAll.nilA ?_) (fun h3 => WAll.nilO ?_)⟩)))))
        · have h3' : (md / unit % 2 == 0) = true := by
            simp only [beq_iff_eq] at h3 ⊢
            omega
          have hh : rowHit words unit far (rw_, md, sp) = some (listP md) := by
            rw [rowHit]
            simp only [h1, h3', Bool.or_true, Bool.and_self, if_true]
          rw [List.findSome?_cons, hh] at hfs
          have hfs' : listP md = firstBarP rows words unit := hfs
          refine WSS.cons (WS.ret (WE.callK G hE (gl__law_listing _) (kp_297 _) (WLs.one (WE.sub (WE.l hE rfl (WE.int (WO2.itemL (p := .int md) (.inr hn') (by decide) (by decide) rfl (c_listing G hmd fun E => ?_))))))))
          refine CS.ret (CS.ret (LQ.ret (CS.ret (LQ.ret (RQ ?_)))))
          rw [hfs']
          exact h _ ((hX2.more _).more _)
        · refine WSS.nil (CS.next (WSS.nil (LQ.next (next _ _ ⟨rfl, rfl, rfl, rfl, trivial⟩ ((Ext.rfl' _).more _) ?_))))
          have h2' : (md / 4096 != 4) = false := by
            rw [Bool.eq_false_iff] at h2 ⊢
            simp only [bne_iff_ne, ne_eq] at h2 ⊢
            omega
          have h3' : (md / unit % 2 == 0) = false := by
            rw [Bool.eq_false_iff] at h3 ⊢
            simp only [beq_iff_eq, ne_eq] at h3 ⊢
            omega
          rw [rowHit]
          simp only [h1, h2', h3', Bool.or_self, Bool.and_false, Bool.false_eq_true, if_false]
      · refine WSS.nil (CS.next (WSS.nil (LQ.next (next _ _ ⟨rfl, rfl, rfl, rfl, trivial⟩ ((Ext.rfl' _).more _) ?_))))
        rw [rowHit]
        simp only [h1, Bool.false_and, Bool.false_eq_true, if_false]
    · rintro ρ' H2 ⟨rs, hRs, hoks, hfs, hX2, rfl⟩
      cases rs with
      | cons _ _ => exact hRs.elim
      | nil =>
      refine WSS.nil (CS.next (WSS.nil (LQ.next ?_)))
      exact Up.mk ⟨fars, rfl, fun f hf => hfl f (List.mem_cons_of_mem _ hf), hfs, hX2, rfl⟩ ⟨rfl, rfl, rfl, trivial⟩
  · rintro ρ' H' ⟨fars, e, hfl, hf, hX, rfl⟩
    cases fars with
    | cons _ _ => cases e
    | nil =>
    have hf' : ("" : Str) = firstBarP rows words unit := hf
    refine WSS.nil (CS.next (WSS.cons (WS.ret (WE.strc (RQ ?_)))))
    rw [hf']; exact h _ hX
end
end Mine

namespace Mine

noncomputable def fmP (m : Nat) : Str := Txt.join "" (chars m 0 fmTable)
noncomputable def FmOk : Prop := ∀ m : Nat, m < 65536 → fmP m = listP m ∧ JoinOk "" (chars m 0 fmTable) = true
noncomputable def NormOk (x : Str) : Prop := x.length ≤ 90000 ∧ JoinOk "/" (normComps x) = true ∧ ((splitP x).2.1 ++ Txt.join "/" (normComps x)).length ≤ 99999

noncomputable abbrev Bd := Str × Str × Str × List Str
noncomputable def barHit (way : Nat) (r : Rw) : Option Bd :=
  if at1 (listP r.2.1) 0 != "d" || !(Txt.contains "xst" (at1 (listP r.2.1) (3 + 3 * way))) then some (normP r.2.2, listP r.2.1, r.2.2, r.1) else none
noncomputable def barredP (rows : List Rw) (way : Nat) : List Bd := rows.filterMap (barHit way)

noncomputable def BdsAt (H : List Cell) : List PV → List Bd → Prop
  | [], [] => True
  | p :: ps, b :: bs => (∃ n w, p = .loc n ∧ H[n]? = some (.flist [.str b.1, .str b.2.1, .str b.2.2.1, .loc w]) ∧ H[w]? = some (.flist (b.2.2.2.map .str))) ∧ BdsAt H ps bs
  | _, _ => False
theorem BdsAt.fm {H H' : List Cell} (h : FM H H') : ∀ {ps : List PV} {rs : List Bd}, BdsAt H ps rs → BdsAt H' ps rs
  | [], [], _ => trivial
  | _ :: _, _ :: _, ⟨⟨n, w, e, h1, h2⟩, r⟩ => ⟨⟨n, w, e, h n _ h1 rfl, h w _ h2 rfl⟩, r.fm h⟩
  | [], _ :: _, x => x.elim
  | _ :: _, [], x => x.elim
theorem RowsAt.fm {H H' : List Cell} (h : FM H H') : ∀ {ps : List PV} {rs : List Rw}, RowsAt H ps rs → RowsAt H' ps rs
  | [], [], _ => trivial
  | _ :: _, _ :: _, ⟨⟨n, w, e, h1, h2⟩, r⟩ => ⟨⟨n, w, e, h n _ h1 rfl, h w _ h2 rfl⟩, r.fm h⟩
  | [], _ :: _, x => x.elim
  | _ :: _, [], x => x.elim
theorem BdsAt.snoc {H : List Cell} {p : PV} {b : Bd} (hp : ∃ n w, p = .loc n ∧ H[n]? = some (.flist [.str b.1, .str b.2.1, .str b.2.2.1, .loc w]) ∧ H[w]? = some (.flist (b.2.2.2.map .str))) :
    ∀ {ps : List PV} {rs : List Bd}, BdsAt H ps rs → BdsAt H (ps ++ [p]) (rs ++ [b])
  | [], [], _ => ⟨hp, trivial⟩
  | _ :: _, _ :: _, ⟨a, r⟩ => ⟨a, r.snoc hp⟩
  | [], _ :: _, x => x.elim
  | _ :: _, [], x => x.elim
theorem BdsAt.len {H : List Cell} : ∀ {ps : List PV} {rs : List Bd}, BdsAt H ps rs → ps.length = rs.length
  | [], [], _ => rfl
  | _ :: _, _ :: _, ⟨_, r⟩ => by simp [r.len]
  | [], _ :: _, x => x.elim
  | _ :: _, [], x => x.elim
theorem Ext.fm {H H' : List Cell} (h : Ext H H') : FM H H' := by obtain ⟨E, rfl⟩ := h; exact FM.app _ _
theorem Ext.set {H H' : List Cell} (h : Ext H H') {n : Nat} (hn : H.length ≤ n) (c : Cell) : Ext H (H'.set n c) := by
  obtain ⟨E, rfl⟩ := h
  exact ⟨E.set (n - H.length) c, by rw [List.set_append_right _ _ hn]⟩

theorem rwL_len (i : Nat) : (rwL.getD i "--").length = 2 := by
  by_cases h : i < 4
  · have := i4 h
    rcases this with rfl | rfl | rfl | rfl <;> rfl
  · rw [List.getD_eq_getElem?_getD, List.getElem?_eq_none (by show 4 ≤ i; omega)]; rfl
theorem listP_len (m : Nat) : (listP m).length = 10 := by
  simp only [listP, trips, List.foldl_cons, List.foldl_nil, listStep, len_app, at1_len, rwL_len]

section
variable {g : Cfg} {k : Nat} {W β β' : List Addr} {env : Env} {ρ : Rho} {H H' : List Cell} {s s' : Shared} {names : List (Str × NameKind)}

set_option maxHeartbeats 1000000 in
theorem c_barred (G : Gd g) (FO : FmOk) {r : Nat} {way : Nat} {ps : List PV} {rows : List Rw} {Q : PV → List Cell → Prop} (hr : H[r]? = some (.flist ps)) (hR : RowsAt H ps rows) (hwy : way < 3)
    (hpl : ps.length ≤ 1000) (hokr : ∀ x ∈ rows, x.2.1 < 65536 ∧ NormOk x.2.2)
    (h : ∀ H' B qs, Ext H H' → H'[B]? = some (.flist qs) → BdsAt H' qs (barredP rows way) → Q (.loc B) H') : WC g (k + 4) (.ref 311) [.loc r, .int way] H Q := by
  refine WC.def (xs := ["rows", "way"]) G rfl rfl rfl (by kernel_rfl) ?_ rfl (by decide) rfl rfl rfl rfl rfl rfl rfl rfl ?_
  · exact vs2 fun _ _ => rfl
  intro env hF hE
  dsimp only at hF hE
  refine WSS.cons (WS.asg hF (WE.list (WLs.nil ⟨by simp, CS.next ?_⟩)))
  refine WSS.cons (WS.forW (fun rest ρ' H' => Ex3 fun (rs : List Rw) (bs : List Bd) (qs : List PV) => And8 (RowsAt H' rest rs) (∀ x ∈ rs, x.2.1 < 65536 ∧ NormOk x.2.2) (bs ++ rs.filterMap (barHit way) = barredP rows way) (H'[H.length]? = some (.list qs)) (BdsAt H' qs bs) (qs.length + rs.length ≤ 1000) (Ext H H') (ρ' = ([("way", .int way), ("barred", .loc H.length)] : Rho))) ?_ ?_ ?_)
  · exact WE.l hE rfl ⟨r, .flist ps, ps, rfl, get_app hr _, rfl, by omega, Up.mk ⟨rows, [], [], hR.ext ((Ext.rfl' H).more _), hokr, rfl, by simp, trivial, by simpa [← hR.len] using hpl, (Ext.rfl' H).more _, rfl⟩ ⟨rfl, rfl, trivial⟩⟩
  · rintro x rest ρ' H' ⟨rs, bs, qs, hRs, hoks, hbs, hB, hBs, hlen, hX, rfl⟩
    cases rs with
    | nil => exact hRs.elim
    | cons rr rs =>
    obtain ⟨wd, md, sp⟩ := rr
    obtain ⟨⟨n, v, e, hn, hv⟩, hRs2⟩ := hRs
    subst e
    obtain ⟨hmd, hno⟩ := hoks _ List.mem_cons_self
    simp only at hn hv hmd hno
    simp only [List.length_cons] at hlen
    obtain ⟨fe, fj⟩ := FO md hmd
    refine WA.nm hF ?_
    refine WSS.cons (WS.asg hF (WE.callK G hE (gl_filemode _) (kp_68 _) (WLs.one (WE.sub (WE.l hE rfl (WE.int (WO2.itemL (p := .int md) (.inr hn) (by decide) (by decide) rfl (c_filemode G fj (CS.next ?_)))))))))
    have fe' : Txt.join "" (chars md 0 fmTable) = listP md := fe
    rw [fe']
    have hX1 : Ext H' (H' ++ [Cell.list ((chars md 0 fmTable).map PV.str)]) := (Ext.rfl' _).more _
    revert hX1
    generalize H' ++ [Cell.list ((chars md 0 fmTable).map PV.str)] = H1
    intro hX1
    have hB1 := hX1.get hB
    have hBl : H.length < H1.length := (List.getElem?_eq_some_iff.mp hB1).1
    have hn1 := hX1.get hn
    have hv1 := hX1.get hv
    have hlen0 := listP_len md
    have skip : ∀ ρ3, SubL ([("way", .int way), ("barred", .loc H.length)] : Rho) ρ3 → barHit way (wd, md, sp) = none →
        Up (fun ρ' H' => Ex3 fun (rs : List Rw) (bs : List Bd) (qs : List PV) => And8 (RowsAt H' rest rs) (∀ x ∈ rs, x.2.1 < 65536 ∧ NormOk x.2.2) (bs ++ rs.filterMap (barHit way) = barredP rows way) (H'[H.length]? = some (.list qs)) (BdsAt H' qs bs) (qs.length + rs.length ≤ 1000) (Ext H H') (ρ' = ([("way", .int way), ("barred", .loc H.length)] : Rho))) ρ3 H1 := fun ρ3 hs hh => by
      rw [List.filterMap_cons_none hh] at hbs
      exact Up.mk ⟨rs, bs, qs, hRs2.fm hX1.fm, fun x hx => hoks x (List.mem_cons_of_mem _ hx), hbs, hB1, hBs.fm hX1.fm, by omega, hX.trans hX1, rfl⟩ hs
    refine WSS.cons (WS.ite (WT.bool (WAll.consO ?_)))
    refine WT.cmp (WE.sub (WE.l hE rfl (WE.int (WO2.at1 (i := 0) (by omega) (by omega) (WE.strc (WO2.neS ⟨_, rfl, ?_⟩))))))
    refine ite_b (fun h1 => ?_) (fun h1 => WAll.consO ?_)
    · have hh : barHit way (wd, md, sp) = some (normP sp, listP md, sp, wd) := by
        rw [barHit]
        simp only [h1, Bool.true_or, if_true]
      rw [List.filterMap_cons_some hh] at hbs
      refine WSS.cons (WS.ex (WE.meth (WE.l hE rfl ⟨GM.append hB1, WLs.one ?_⟩)))
      refine WE.flist ?_
      refine WLs.cons (WE.callK G hE (gl_normpath_posixpath _) (kp_273 _) (WLs.one (WE.sub (WE.l hE rfl (WE.int (WO2.itemL (p := .str sp) (.inr hn1) (by decide) (by decide) rfl (c_normpath G hno.1 hno.2.1 (Nat.le_trans hno.2.2 (by decide)) fun E => ?_)))))))
      have hX2 : Ext H1 (H1 ++ E) := (Ext.rfl' _).more _
      revert hX2
      generalize H1 ++ E = H2
      intro hX2
      refine WLs.cons (WE.l hE rfl (WLs.cons (WE.sub (WE.l hE rfl (WE.int (WO2.itemL (p := .str sp) (.inr (hX2.get hn1)) (by decide) (by decide) rfl ?_))))))
      refine WLs.cons (WE.sub (WE.l hE rfl (WE.int (WO2.itemL (p := .loc v) (.inr (hX2.get hn1)) (by decide) (by decide) rfl (WLs.nil ⟨by simp, ?_⟩)))))
      have hX3 : Ext H1 (H2 ++ [Cell.flist [.str (normP sp), .str (listP md), .str sp, .loc v]]) := hX2.more _
      have hB3 := hX3.get hB1
      have hv3 := hX3.get hv1
      have hnew : (H2 ++ [Cell.flist [.str (normP sp), .str (listP md), .str sp, .loc v]])[H2.length]? = some (.flist [.str (normP sp), .str (listP md), .str sp, .loc v]) := by simp
      revert hX3 hB3 hv3 hnew
      generalize H2 ++ [Cell.flist [.str (normP sp), .str (listP md), .str sp, .loc v]] = H3
      intro hX3 hB3 hv3 hnew
      refine WC.append hB3 (by omega) ⟨by simp, by simp, CS.next (WSS.nil (CS.next (WSS.nil (LQ.next ?_))))⟩
      have hBl3 : H.length < H3.length := (List.getElem?_eq_some_iff.mp hB3).1
      have hfm : FM H3 (H3.set H.length (.list (qs ++ [.loc H2.length]))) := FM.set hB3 rfl
      refine Up.mk ⟨rs, bs ++ [(normP sp, listP md, sp, wd)], qs ++ [.loc H2.length], hRs2.fm (hX1.fm.trans (hX3.fm.trans hfm)), fun x hx => hoks x (List.mem_cons_of_mem _ hx), by rw [← hbs]; simp, List.getElem?_set_self hBl3, ?_, by simp; omega, ((hX.trans hX1).trans hX3).set (Nat.le_refl _) _, rfl⟩ ⟨rfl, rfl, trivial⟩
      exact BdsAt.snoc ⟨H2.length, v, rfl, hfm _ _ hnew rfl, hfm _ _ hv3 rfl⟩ (hBs.fm (hX1.fm.trans (hX3.fm.trans hfm)))
    refine WT.cmp (WE.sub (WE.l hE rfl ?_))
    refine WE.binop (WE.int (WE.binop (WE.int (WE.l hE rfl (WO2.mulI (WO2.addI ?_) (IntMulOk.of_left (by decide)))))))
    have ei : (3 : Int) + 3 * (way : Int) = ((3 + 3 * way : Nat) : Int) := by omega
    rw [ei]
    refine WO2.at1 (by omega) (by omega) (WE.strc (WO2.notInStr ⟨_, rfl, ite_b (fun h2 => ?_) (fun h2 => WAll.nilO ?_)⟩))
    · have hh : barHit way (wd, md, sp) = some (normP sp, listP md, sp, wd) := by
        rw [barHit]
        simp only [h2, Bool.or_true, if_true]
      rw [List.filterMap_cons_some hh] at hbs
      refine WSS.cons (WS.ex (WE.meth (WE.l hE rfl ⟨GM.append hB1, WLs.one ?_⟩)))
      refine WE.flist ?_
      refine WLs.cons (WE.callK G hE (gl_normpath_posixpath _) (kp_273 _) (WLs.one (WE.sub (WE.l hE rfl (WE.int (WO2.itemL (p := .str sp) (.inr hn1) (by decide) (by decide) rfl (c_normpath G hno.1 hno.2.1 (Nat.le_trans hno.2.2 (by decide)) fun E => ?_)))))))
      have hX2 : Ext H1 (H1 ++ E) := (Ext.rfl' _).more _
      revert hX2
      generalize H1 ++ E = H2
      intro hX2
      refine WLs.cons (WE.l hE rfl (WLs.cons (WE.sub (WE.l hE rfl (WE.int (WO2.itemL (p := .str sp) (.inr (hX2.get hn1)) (by decide) (by decide) rfl ?_))))))
      refine WLs.cons (WE.sub (WE.l hE rfl (WE.int (WO2.itemL (p := .loc v) (.inr (hX2.get hn1)) (by decide) (by decide) rfl (WLs.nil ⟨by simp, ?_⟩)))))
      have hX3 : Ext H1 (H2 ++ [Cell.flist [.str (normP sp), .str (listP md), .str sp, .loc v]]) := hX2.more _
      have hB3 := hX3.get hB1
      have hv3 := hX3.get hv1
      have hnew : (H2 ++ [Cell.flist [.str (normP sp), .str (listP md), .str sp, .loc v]])[H2.length]? = some (.flist [.str (normP sp), .str (listP md), .str sp, .loc v]) := by simp
      revert hX3 hB3 hv3 hnew
      generalize H2 ++ [Cell.flist [.str (normP sp), .str (listP md), .str sp, .loc v]] = H3
      intro hX3 hB3 hv3 hnew
      refine WC.append hB3 (by omega) ⟨by simp, by simp, CS.next (WSS.nil (CS.next (WSS.nil (LQ.next ?_))))⟩
      have hBl3 : H.length < H3.length := (List.getElem?_eq_some_iff.mp hB3).1
      have hfm : FM H3 (H3.set H.length (.list (qs ++ [.loc H2.length]))) := FM.set hB3 rfl
      refine Up.mk ⟨rs, bs ++ [(normP sp, listP md, sp, wd)], qs ++ [.loc H2.length], hRs2.fm (hX1.fm.trans (hX3.fm.trans hfm)), fun x hx => hoks x (List.mem_cons_of_mem _ hx), by rw [← hbs]; simp, List.getElem?_set_self hBl3, ?_, by simp; omega, ((hX.trans hX1).trans hX3).set (Nat.le_refl _) _, rfl⟩ ⟨rfl, rfl, trivial⟩
      exact BdsAt.snoc ⟨H2.length, v, rfl, hfm _ _ hnew rfl, hfm _ _ hv3 rfl⟩ (hBs.fm (hX1.fm.trans (hX3.fm.trans hfm)))
    · refine WSS.nil (CS.next (WSS.nil (LQ.next (skip _ ⟨rfl, rfl, trivial⟩ ?_))))
      rw [barHit]
      simp only [h1, h2, Bool.or_self, Bool.false_eq_true, if_false]
  · rintro ρ' H' ⟨rs, bs, qs, hRs, hoks, hbs, hB, hBs, hlen, hX, rfl⟩
    cases rs with
    | cons _ _ => exact hRs.elim
    | nil =>
    simp only [List.filterMap_nil, List.append_nil] at hbs
    subst hbs
    refine WSS.nil (CS.next (WSS.freeze hB ?_))
    have hBl : H.length < H'.length := (List.getElem?_eq_some_iff.mp hB).1
    exact WSS.cons (WS.ret (WE.l hE rfl (RQ (h _ _ qs (hX.set (Nat.le_refl _) _) (List.getElem?_set_self hBl) (hBs.fm (FM.set hB rfl))))))
end
end Mine

namespace Mine

section
variable {g : Cfg} {k : Nat} {W β β' : List Addr} {env : Env} {ρ : Rho} {H H' : List Cell} {s s' : Shared} {names : List (Str × NameKind)}

theorem fspath_keeps (G : Gd g) {A : Around} {x : Str} {t : Tok} (hA : Rm (k + 1) A) (S : SimG g [] [] s) (E : Value → Shared → Prop) :
    wpAny g.M A (call (.ref 141) [.str x t]) (fun v s2 => (∃ t', v = .str x t') ∧ ∃ h tk, s2 = { s with heap := h, toks := tk } ∧ ∀ b o, s.heap.get? b = some o → h.get? b = some o) E s := by
  have hc : WC g (k + 1) (.ref 141) [.str x] [] (fun p _ => p = .str x) := c_fspath G fun _ => rfl
  refine wpAny_mono (hc A [] s [.str x t] hA S ⟨⟨t, rfl⟩, trivial⟩) (fun v s2 h => ?_) fun _ _ x => x.elim
  obtain ⟨β1, H1, p, T, V, rfl⟩ := h
  refine ⟨V, ?_⟩
  obtain ⟨h1, tk1, e1⟩ := T.sim.same
  obtain ⟨h0, tk0, e0⟩ := S.same
  refine ⟨h1, tk1, by rw [e1, e0], fun b o e => ?_⟩
  have := T.pres b o (fun i c e1 _ => by simp at e1) (by simp) e
  rw [e1] at this; exact this

theorem Sim.bare (S : SimG g β H s) : SimG g [] [] s where
  len := rfl
  nodup := List.nodup_nil
  cells := fun i a c e => by simp at e
  base := S.base
  fresh := fun i a c e => by simp at e
  same := S.same

theorem walk_map (G : Gd g) {A : Around} (hA : Rm (k + 2) A) {M TI it L : Addr} {xs : List (Str × Tok)} {s0 : Shared} (S0 : SimG g [] [] s0) (hM : IsMap s0.heap M TI it (.ref 141)) (hit : s0.heap.IsListIter it L 0) (hL : s0.heap.IsList L (strValues xs).toArray)
    (hMi : M ≠ it) (hTi : TI ≠ it) (hLi : L ≠ it) (hB : g.B.heap.get? it = none) :
    WalksS g.prog g.w A M (List.range s0.heap.objs.size) [it] (fun a b => a = b) xs.length (fun i v => Ex2 fun p t => (xs[i]? = some p) ∧ (v = .str p.1 t))
      (fun i s' => Ex2 fun h tk => And3 (s' = { s0 with heap := h, toks := tk }) (∀ b o, b ≠ it → s0.heap.get? b = some o → h.get? b = some o) (h.IsListIter it L i)) where
  sub := fun b hb => by
    rw [List.mem_singleton.mp hb]
    obtain ⟨o, e, _⟩ := hit
    exact List.mem_range.mpr (Heap.lt_size e)
  grefl := fun _ => rfl
  gtrans := fun _ _ _ a b => a.trans b
  frame := fun i s' h' tk ⟨h, tk0, e, hk, hi⟩ _ hf => by
    subst e
    refine ⟨h', tk, rfl, fun b o hb eb => hf b (List.mem_range.mpr (Heap.lt_size eb)) o (hk b o hb eb), ?_⟩
    obtain ⟨o, e, r⟩ := hi
    obtain ⟨o0, e0, _⟩ := hit
    exact ⟨o, hf it (List.mem_range.mpr (Heap.lt_size e0)) o e, r⟩
  item := fun i s' Q E hi ⟨h, tk0, e, hk, hit'⟩ hQ => by
    subst e
    have hx : (strValues xs).toArray[i]? = some (.str xs[i].1 xs[i].2) := by rw [strv_get, List.getElem?_eq_getElem hi]; rfl
    refine pyNext_map (s := { s0 with heap := h, toks := tk0 }) (xs := (strValues xs).toArray) ⟨hk M _ hMi hM.1, hk TI _ hTi hM.2⟩ hit' (hL.at fun o e => hk L o hLi e) hx hMi fun h1 E' hit1 hs1 => ?_
    have hk1 : ∀ b o, b ≠ it → s0.heap.get? b = some o → h1.get? b = some o := fun b o hb e => hs1.extBut b o hb (hk b o hb e)
    have S1 : SimG g [] [] ({ s0 with heap := h1, toks := tk0 } : Shared) := {
      len := rfl
      nodup := List.nodup_nil
      cells := fun i a c e => by simp at e
      base := fun b o e => hk1 b o (fun hb => by rw [hb, hB] at e; cases e) (S0.base b o e)
      fresh := fun i a c e => by simp at e
      same := let ⟨_, _, e⟩ := S0.same; ⟨h1, tk0, by rw [e]⟩ }
    refine wpAny_mono (wpAny_toks_of (n := tk0) (s := { s0 with heap := h1, toks := tk0 }) (Nat.le_refl _) (fspath_keeps G (k := k) hA.in1 S1 E')) (fun v s2 h2 => ?_) fun _ _ x => x.2
    obtain ⟨htk, ⟨t', rfl⟩, h2, tk2, rfl, hk2⟩ := h2
    refine hQ _ _ ⟨xs[i], t', List.getElem?_eq_getElem hi, rfl⟩ ⟨h2, tk2, rfl, fun b o hb e => hk2 b o (hk1 b o hb e), ?_⟩ ⟨fun b o hb e => hk2 b o (hs1.extBut b o (by simpa using hb) e), rfl, rfl, rfl, htk⟩
    obtain ⟨o, e, r⟩ := hit1
    exact ⟨o, hk2 it o e, r⟩
  done := fun s' Q E ⟨h, tk0, e, hk, hit'⟩ hQ => by
    subst e
    have hsz : (strValues xs).toArray.size = xs.length := strv_size xs
    refine map_next_end (s := { s0 with heap := h, toks := tk0 }) (xs := (strValues xs).toArray) hA.1 ⟨hk M _ hMi hM.1, hk TI _ hTi hM.2⟩ (by rw [hsz]; exact hit') (hL.at fun o e => hk L o hLi e) fun h1 hx => ?_
    exact hQ _ ⟨fun b o hb e => hx b o (by simpa using hb) e, rfl, rfl, rfl, Nat.le_refl _⟩
  self := fun i s' Q E ⟨h, tk0, e, hk, hit'⟩ hQ => by
    subst e
    have hT : ({ s0 with heap := h, toks := tk0 } : Shared).TypeIs (.ref M) "map" := ⟨_, hk M _ hMi hM.1, rfl⟩
    refine wpAny_pyIter_slot hT slot_map_iter (wpAny_call_entry slot_map_iter hT entry_map_iter ?_ (args_map_iter _))
    show wpAny _ _ (ret (.ref M)) _ _ _
    exact wpAny_pure ⟨_, rfl, "map", _, hT, slot_map_next.lookup, hQ⟩

theorem vls_of : ∀ {ps : List PV} {vs : List Value}, vs.length = ps.length → (∀ (j : Nat) (p : PV) (v : Value), ps[j]? = some p → vs[j]? = some v → Vl β p v) → Vls β ps vs
  | [], [], _, _ => trivial
  | p :: ps, v :: vs, hl, h => ⟨h 0 p v rfl rfl, vls_of (by simpa using hl) fun j p' v' a b => h (j + 1) p' v' a b⟩
  | [], _ :: _, hl, _ => by simp at hl
  | _ :: _, [], hl, _ => by simp at hl

/-- tuple(map(fspath, xs)), as one call upon another -/
theorem WC.tupleMap (G : Gd g) {n : Nat} {xs : List Str} {Q : PV → List Cell → Prop} (e : H[n]? = some (.list (xs.map .str)) ∨ H[n]? = some (.flist (xs.map .str))) (hlen : xs.length ≤ 1000) (h : Q (.loc H.length) (H ++ [.tup (xs.map .str)])) :
    ∀ A β s v, Rm (k + 6) A → SimG g β H s → Vl β (.loc n) v → wpAny g.M A (call (.type "map") [.ref 141, v]) (fun m s1 => wpAny g.M A (call (.type "tuple") [m]) (PE g β H s Q) noE s1) noE s := by
  rintro A β s v hA S ⟨a, ea, rfl⟩
  obtain ⟨l, hl, hL⟩ := strs_list S e ea
  have lL : a < s.heap.objs.size := by obtain ⟨o, e, _⟩ := hL; exact Heap.lt_size e
  refine callType_new called_map (by decide) (typeCall_map_2 _ _) (newCall_map_2 _ _) (fun obj => PySem.F.args_object_init_3 obj _ _) entry_map_new (meets_map_new (.ref 141) a (strValues l).toArray) ⟨hL, ?_⟩
  generalize hH3 : ((s.heap.push { cls := .type "list_iterator", data := .fields #[.ref a, .int 0 0] }).push { cls := .type "tuple", data := .seq #[.ref s.heap.objs.size] }).push { cls := .type "map", data := .fields #[.ref (s.heap.objs.size + 1), .ref 141] } = H3
  have z1 : (s.heap.push { cls := .type "list_iterator", data := .fields #[.ref a, .int 0 0] }).objs.size = s.heap.objs.size + 1 := Heap.size_push ..
  have z2 : ((s.heap.push { cls := .type "list_iterator", data := .fields #[.ref a, .int 0 0] }).push { cls := .type "tuple", data := .seq #[.ref s.heap.objs.size] }).objs.size = s.heap.objs.size + 1 + 1 := by rw [Heap.size_push, z1]
  have z3 : H3.objs.size = s.heap.objs.size + 1 + 1 + 1 := by rw [← hH3, Heap.size_push, z2]
  have old : ∀ b o, s.heap.get? b = some o → H3.get? b = some o := fun b o e => by
    rw [← hH3]; exact Heap.get?_push_of_some _ (Heap.get?_push_of_some _ (Heap.get?_push_of_some _ e))
  have gM : H3.get? (s.heap.objs.size + 1 + 1) = some { cls := .type "map", data := .fields #[.ref (s.heap.objs.size + 1), .ref 141] } := by
    rw [← hH3, ← z2]; exact Heap.get?_push_size _ rfl
  have gT : H3.get? (s.heap.objs.size + 1) = some { cls := .type "tuple", data := .seq #[.ref s.heap.objs.size] } := by
    rw [← hH3, ← z1]; exact Heap.get?_push_of_some _ (Heap.get?_push_size _ rfl)
  have gI : H3.IsListIter s.heap.objs.size a 0 := ⟨_, by rw [← hH3]; exact Heap.get?_push_of_some _ (Heap.get?_push_of_some _ (Heap.get?_push_size _ rfl)), rfl, rfl⟩
  refine ⟨⟨_, gM, rfl⟩, ?_⟩
  have S3 : SimG g [] [] ({ s with heap := H3 } : Shared) := (S.grow (tk := s.toks) old).bare
  have n1 : (s.heap.objs.size + 1 + 1 : Nat) ≠ s.heap.objs.size := by omega
  have n2 : (s.heap.objs.size + 1 : Nat) ≠ s.heap.objs.size := by omega
  have W := walk_map G (k := k + 1) (A := A.in1.in1.in1) hA.in1.in1.in1 S3 ⟨gM, gT⟩ gI (hL.at fun o e => old _ o e) n1 n2 (Nat.ne_of_lt lL) (S.base_none (get_size_none _))
  refine call_tuple_map W (fun i s' ⟨h, tk, e, hk, _⟩ => by subst e; exact ⟨_, hk _ _ n1 gM, rfl⟩) ⟨H3, s.toks, rfl, fun _ _ _ e => e, gI⟩ (fun b hb => List.mem_range.mp hb) (List.mem_range.mpr (by show _ < H3.objs.size; omega)) (fun s' acc hm hacc => ?_) (by rw [sizeLine_eq, ← List.length_map (f := (·.1)), hl]; omega)
  obtain ⟨h', tk', e', hk'⟩ : ∃ h' tk', s' = { s with heap := h', toks := tk' } ∧ ∀ b o, s.heap.get? b = some o → h'.get? b = some o := by
    refine ⟨s'.heap, s'.toks, ?_, fun b o e => hm.heap b o (by simp; exact Nat.ne_of_lt (Heap.lt_size e)) (old b o e)⟩
    obtain ⟨hp, gn, dr, tk, os⟩ := s'
    have h1 : gn = s.gens := hm.gens.symm
    have h2 : dr = s.drawn := hm.drawn
    have h3 : os = s.os := hm.os
    subst h1 h2 h3; rfl
  subst e'
  have T1 : StepG g [] β H s β H { s with heap := h', toks := tk' } := Step.grow S hk'
  have hvls : Vls β (xs.map .str) acc.toList := by
    refine vls_of (by rw [Array.length_toList, hacc.1, List.length_map, ← hl, List.length_map]) fun j p v hp hv => ?_
    obtain ⟨q, t, hq, rfl⟩ := hacc.2 j v (by simpa using hv)
    rw [List.getElem?_map, ← hl, List.getElem?_map, hq] at hp
    simp only [Option.map_some, Option.some.injEq] at hp
    subst hp
    exact ⟨t, rfl⟩
  have := PE.tup (tk := tk') T1.sim hvls h
  have e1 : acc.toList.toArray = acc := by simp
  rw [e1] at this
  exact this.after S T1
end
end Mine

namespace Mine

section
variable {g : Cfg} {k : Nat} {W β β' : List Addr} {env : Env} {ρ : Rho} {H H' : List Cell} {s s' : Shared} {names : List (Str × NameKind)}

/-- the expression tuple(map(f, xs)), f being fspath -/
theorem WE.tupleMap (G : Gd g) {ft fm e1 e2 : Expr} {p1 p2 : Pos} {Q : PV → List Cell → Prop}
    (h : WE g (k + 6) env ft ρ H (fun p H0 => p = .raw (.type "tuple") ∧ WE g (k + 6) env fm ρ H0 (fun q H1 => q = .raw (.type "map") ∧ WLs g (k + 6) env [e1, e2] ρ H1 (fun ps H2 => Ex2 fun (n : Nat) (xs : List Str) => And4 (ps = [.raw (.ref 141), .loc n]) (H2[n]? = some (.list (xs.map .str)) ∨ H2[n]? = some (.flist (xs.map .str))) (xs.length ≤ 1000) (Q (.loc H2.length) (H2 ++ [.tup (xs.map .str)]))))))
    (hp : (backTo p1 (starEach [.Call fm [e1, e2] [] p2] env)).any (·.1) = false := by rfl) (hp2 : (backTo p2 (starEach [e1, e2] env)).any (·.1) = false := by rfl)
    (hs : starEach [.Call fm [e1, e2] [] p2] env = (false, eval (.Call fm [e1, e2] [] p2) env) :: starEach [] env := by rfl)
    (he : eval (.Call ft [.Call fm [e1, e2] [] p2] [] p1) env = (do callWith p1 (← eval ft env) [] (backTo p1 (starEach [.Call fm [e1, e2] [] p2] env)) (backToKw p1 (keywordEach [] env))) := by rfl)
    (he2 : eval (.Call fm [e1, e2] [] p2) env = (do callWith p2 (← eval fm env) [] (backTo p2 (starEach [e1, e2] env)) (backToKw p2 (keywordEach [] env))) := by rfl) :
    WE g (k + 6) env (.Call ft [.Call fm [e1, e2] [] p2] [] p1) ρ H Q := by
  intro A β s hA S F
  refine Call_ (wpAny_mono (h A β s hA S F) (fun v s1 h1 => ?_) fun _ _ x => x) he
  obtain ⟨β1, H1, p, T1, V1, rfl, h1⟩ := h1
  obtain rfl := V1
  refine PyProof.Rows.callWith_type hp (evalArgs_of hp (args_cons ?_ hs))
  refine Call_ (wpAny_mono (h1 A β1 s1 hA T1.sim (F.step T1)) (fun v s2 h2 => ?_) fun _ _ x => x) he2
  obtain ⟨β2, H2, q, T2, V2, rfl, h2⟩ := h2
  obtain rfl := V2
  have T12 := T1.trans T2 S
  refine PyProof.Rows.callWith_type hp2 (evalArgs_of hp2 (wpAny_mono (h2 p2 A β2 s2 hA T2.sim (F.step T12)) (fun vs s3 h3 => ?_) fun _ _ x => x))
  obtain ⟨β3, H3, ps, T3, V3, n, xs, rfl, hn, hl, q⟩ := h3
  have T13 := T12.trans T3 S
  obtain ⟨u, v, rfl, hu, hv⟩ := vls2 V3
  obtain rfl := hu
  refine wpAny_mono (WC.tupleMap G hn hl q A β3 s3 v hA T3.sim hv) (fun m s4 h4 => ?_) fun _ _ x => x
  exact wpAny_items_nil (wpAny_mono h4 (fun r s5 h5 => h5.after S T13) fun _ _ x => x)
end
end Mine

namespace Mine

section
variable {prog : Program} {w : World} {A : Around} {E : Value → Shared → Prop} {s : Shared}
theorem pyHash_bool {b : Bool} {Q : Int → Shared → Prop} (h : Q (hashInt (if b then 1 else 0)) { s with toks := s.toks + 1 }) : wpAny (model prog w) A (pyHash (.bool b)) Q E s := by
  have hr := rawHash_range (if b then 1 else 0)
  have hT : s.TypeIs (.bool b) "bool" := PySem.typeIs_bool _ _
  unfold pyHash
  have hv : [Value.bool b].any Value.onHeap = false := rfl
  refine wpAny_bind ?_
  rw [cRoomFor, if_neg (by rw [hv]; exact Bool.false_ne_true)]; refine wpAny_pure ?_
  refine wpAny_bind (wpAny_specialOf hT PySem.F.slot_bool_hash.lookup ?_)
  show wpAny _ _ (if (some (Value.builtin "int.__hash__") == some Value.none) = true then _ else _) Q E s
  rw [if_neg (by rw [beq_builtin_none]; exact Bool.false_ne_true)]
  refine wpAny_bind (wpAny_specialOf hT PySem.F.slot_bool_hash.lookup ?_)
  show wpAny _ _ (callSpecialIfBoundUnlessNone? (.bool b) "__hash__" _ >>= _) Q E s
  refine wpAny_bind (wpAny_callSpecialIfBoundUnlessNone?_slot hT PySem.F.slot_bool_hash
    (wpAny_call_entry PySem.F.slot_bool_hash hT entry_int_hash
      (show wpAny _ _ (do ret (← mkInt (rawHash (if b then 1 else 0)))) _ _ s from wpAny_ret_mkInt ?_) (args_int_hash _)))
  show wpAny _ _ (if (decide (-(2 : Int) ^ 63 ≤ rawHash (if b then 1 else 0)) && decide (rawHash (if b then 1 else 0) < 2 ^ 63)) = true then _ else _) Q E _
  rw [if_pos (by rw [decide_eq_true hr.1, decide_eq_true hr.2]; rfl)]
  exact wpAny_pure h

end
end Mine

namespace Mine

noncomputable def hB (b : Bool) : Int := hashInt (if b then 1 else 0)
noncomputable def tab1 (b led : Bool) : SetTable := { mask := 7, place := #[if b then 1 else 0], dummies := #[], finger := 0, led := led, moves := 0, plain := true }
theorem lay_first (b led : Bool) : layNew (SetTable.fresh 0 0 led) #[] (hB b) (.bool b) = (#[(hB b, .bool b)], tab1 b led, false, false) := by
  cases b <;> cases led <;> kernel_rfl
theorem tab1_full (b led : Bool) : (tab1 b led).tooFull = false := by cases b <;> cases led <;> decide

/-- a set of one bool, or of none -/
noncomputable abbrev setObj (es : Array (Int × Value)) (ep : Nat) (t : SetTable) : Obj := { cls := .type "set", data := .set es ep t }

section
variable {prog : Program} {w : World} {A : Around} {E : Value → Shared → Prop} {s : Shared}

theorem set_add_first {D : Addr} {b led : Bool} {Q : Value → Shared → Prop} (ho : s.heap.get? D = some (setObj #[] 0 (SetTable.fresh 0 0 led)))
    (h : ∀ h', h'.get? D = some (setObj #[(hB b, .bool b)] 1 (tab1 b led)) → (∀ a o, a ≠ D → s.heap.get? a = some o → h'.get? a = some o) → Q .none { s with heap := h', toks := s.toks + 1 }) :
    wpAny (model prog w) A (call (.builtin "set.add") [.ref D, .bool b]) Q E s := by
  have hT : s.TypeIs (.ref D) "set" := ⟨_, ho, rfl⟩
  refine wpAny_call_entry PySem.F.slot_set_add hT PySem.F.entry_set_add ?_ (PySem.F.args_set_add_2 _ _)
  unfold Builtin.«set.add» Builtin.Frozenset.oneOther
  simp only [List.isEmpty_nil, bind_assoc]
  unfold Builtin.Frozenset.addrOf setAdd
  refine wpAny_bind (wpAny_pure ?_)
  try dsimp only
  refine wpAny_bind (wpAny_pure ?_)
  try dsimp only
  refine wpAny_bind ?_
  refine wpAny_holding ?_
  refine wpAny_bind (pyHash_bool ?_)
  unfold setAddHashed setAddHashedIn
  refine wpAny_holding (wpAny_bind (wpAny_setState_of (s := { s with toks := s.toks + 1 }) ho rfl (by rfl) ?_))
  dsimp only
  rw [show byScan (.bool b) #[] = true from by simp [byScan, Value.scannable, scanBound]]
  simp only [↓reduceIte]
  unfold setAddByScan
  refine wpAny_bind ?_
  refine wpAny_bind (wpAny_rule ?_)
  refine wpAny_bind (m := setScan D (.bool b) _ true #[]) (wpAny_of_eq (show setScan D (.bool b) (hashInt (if b = true then 1 else 0)) true #[] = pure .absent from rfl) ?_)
  dsimp only
  rw [show layNew (SetTable.fresh 0 0 led) #[] (hashInt (if b = true then 1 else 0)) (.bool b) = (#[(hB b, .bool b)], tab1 b led, false, false) from lay_first b led]
  dsimp only
  refine wpAny_bind (wpAny_of_eq (a := ()) rfl ?_)
  rw [if_pos (show (tab1 b led).plain = true from rfl)]
  refine wpAny_bind (wpAny_of_eq (show hashByValue 8 (.bool b) = pure true from rfl) ?_)
  simp only [if_true]
  refine wpAny_bind (wpAny_storeSet_of (s := { s with toks := s.toks + 1 }) ho rfl ?_ (by rw [sizeLine_eq]; show 1 ≤ _; decide))
  rw [tab1_full]
  simp only [Bool.and_false, Bool.false_eq_true, if_false]
  refine wpAny_pure (wpAny_pure ?_)
  show wpAny _ _ (ret Value.none) _ _ _
  refine wpAny_pure ⟨_, rfl, h _ ?_ fun a o ha e => (Heap.get?_update_other _ _ (Ne.symm ha)).trans e⟩
  exact (Heap.get?_update_self _ ho rfl).trans rfl

theorem set_add_again {D : Addr} {b led : Bool} {Q : Value → Shared → Prop} (ho : s.heap.get? D = some (setObj #[(hB b, .bool b)] 1 (tab1 b led)))
    (h : Q .none { s with toks := s.toks + 1 }) :
    wpAny (model prog w) A (call (.builtin "set.add") [.ref D, .bool b]) Q E s := by
  have hT : s.TypeIs (.ref D) "set" := ⟨_, ho, rfl⟩
  have hf : (tab1 b led).fits 1 = true := by cases b <;> cases led <;> decide
  refine wpAny_call_entry PySem.F.slot_set_add hT PySem.F.entry_set_add ?_ (PySem.F.args_set_add_2 _ _)
  unfold Builtin.«set.add» Builtin.Frozenset.oneOther
  simp only [List.isEmpty_nil, bind_assoc]
  unfold Builtin.Frozenset.addrOf setAdd
  refine wpAny_bind (wpAny_pure ?_)
  try dsimp only
  refine wpAny_bind (wpAny_pure ?_)
  try dsimp only
  refine wpAny_bind ?_
  refine wpAny_holding ?_
  refine wpAny_bind (pyHash_bool ?_)
  unfold setAddHashed setAddHashedIn
  refine wpAny_holding (wpAny_bind (wpAny_setState_of (s := { s with toks := s.toks + 1 }) ho rfl hf ?_))
  dsimp only
  rw [show byScan (.bool b) #[(hB b, .bool b)] = true from by simp [byScan, Value.scannable, scanBound]]
  simp only [↓reduceIte]
  unfold setAddByScan
  refine wpAny_bind ?_
  refine wpAny_bind (wpAny_rule ?_)
  refine wpAny_bind ?_
  show wpAny _ _ (setScanFrom D (.bool b) (hB b) true [(hB b, .bool b)] 0) _ _ _
  unfold setScanFrom
  rw [if_pos (by simp)]
  refine wpAny_bind (wpAny_setEpoch_of (s := { s with toks := s.toks + 1 }) ho rfl hf ?_)
  refine wpAny_bind (SeqAt.EqAt.bool_bool b b prog w _ _ ?_)
  rw [show (b == b) = true by simp]
  refine wpAny_pure (wpAny_pure (wpAny_pure ?_))
  show wpAny _ _ (ret Value.none) _ _ _
  exact wpAny_pure ⟨_, rfl, h⟩
end
end Mine

namespace Mine

theorem entry_set_iter : entryFor table "set.__iter__" = some Builtin.«frozenset.__iter__» :=
  entry_alias (id' := "frozenset.__iter__") (by kernel_rfl) rfl (by decide +kernel) (by rw [Fast.canonicalQ_eq]; decide +kernel) (by kernel_rfl)
theorem slot_seti_next : Slot "set_iterator" "__next__" "set_iterator.__next__" :=
  .of (owner := "set_iterator") (n := "__next__") (by rw [typeLookup_type, builtinLookup_eq_fast]; kernel_rfl) (by decide +kernel) (by decide +kernel) (by decide +kernel)
    (by first | exact .inl (by decide +kernel) | exact .inr (by decide +kernel)) (by rw [isSubtype_type]; kernel_rfl)
theorem entry_seti_next : entryFor table "set_iterator.__next__" = some Builtin.«set_iterator.__next__» := entryFor_of_tree (by kernel_rfl)
theorem args_seti_next (a : Value) : argsOk "set_iterator.__next__" ⟨[a], []⟩ := by unfold argsOk; rw [S.signatureZ_eq]; kernel_rfl
section
variable {prog : Program} {w : World} {A : Around} {E : Value → Shared → Prop} {s : Shared}

theorem setDrawn_small {D : Addr} {es : Array (Int × Value)} {ep : Nat} {t : SetTable} (ho : s.heap.get? D = some (setObj es ep t)) (hf : t.fits es.size = true) (hn : es.size ≤ 1) :
    wpAny (model prog w) A (setDrawn D) (fun r s' => r = false ∧ s' = s) E s := by
  unfold setDrawn setsByText
  refine wpAny_bind (wpAny_setState_of ho rfl hf ?_)
  dsimp only
  refine wpAny_bind (wpAny_bind (wpAny_askSetting (wpAny_pure ?_)))
  refine wpAny_pure ⟨?_, rfl⟩
  show (!_ && (!t.plain && decide (es.size > 1))) = false
  have : decide (es.size > 1) = false := by simp; omega
  rw [this]; simp

theorem pyIter_set {D : Addr} {es : Array (Int × Value)} {ep : Nat} {t : SetTable} {Q : Value → Shared → Prop} (ho : s.heap.get? D = some (setObj es ep t)) (hf : t.fits es.size = true) (hn : es.size ≤ 1)
    (h : Q (.ref s.heap.objs.size) { s with heap := s.heap.push { cls := .type "set_iterator", data := .fields #[.int 0 0, .int 0 0, .ref D, .int es.size 0, .int ep 0] } }) :
    wpAny (model prog w) A (pyIter (.ref D)) Q E s := by
  have hT : s.TypeIs (.ref D) "set" := ⟨_, ho, rfl⟩
  refine wpAny_pyIter_slot hT PySem.F.slot_set_iter (wpAny_call_entry PySem.F.slot_set_iter hT entry_set_iter ?_ (PySem.F.args_set_iter_1 _))
  unfold Builtin.«frozenset.__iter__» Builtin.Frozenset.slot0 Builtin.Frozenset.sizeOf
  simp only [bind_assoc]
  refine wpAny_bind (wpAny_pure ?_)
  unfold Builtin.Frozenset.addrOf
  try dsimp only
  refine wpAny_bind (wpAny_pure ?_)
  refine wpAny_bind (wpAny_setEntries_of ho rfl hf ?_)
  refine wpAny_bind (wpAny_pure ?_)
  refine wpAny_bind (wpAny_mono (setDrawn_small ho hf hn) (fun r s1 h1 => ?_) fun _ _ x => x)
  obtain ⟨rfl, rfl⟩ := h1
  rw [if_neg (by decide)]
  refine wpAny_bind (wpAny_pure ?_)
  refine wpAny_bind (wpAny_setEpoch_of ho rfl hf ?_)
  exact wpAny_bind (wpAny_newObj_type (wpAny_pure ⟨_, rfl, "set_iterator", _, ⟨_, Heap.get?_push_size _ rfl, rfl⟩, slot_seti_next.lookup, h⟩))

/-- are sets led through their places here -/
noncomputable def ledOf (w : World) : Bool := !(w.params.followText "set-order")
theorem new_set {Q : Value → Shared → Prop} (h : Q (.ref s.heap.objs.size) { s with heap := s.heap.push (setObj #[] 0 (SetTable.fresh 0 0 (ledOf w))) }) : wpAny (model prog w) A (newSet (.type "set")) Q E s := by
  unfold newSet setsByText
  refine wpAny_bind (wpAny_bind (wpAny_askSetting (wpAny_pure ?_)))
  dsimp only
  simp only [newObj]
  exact wpAny_bind (wpAny_alloc (wpAny_pure h))
theorem pick_one {α : Type} (f : Nat → Nat) (x : α) : pickOrder f #[x] = #[x] := by
  unfold pickOrder
  show pickOrder.go f 1 0 [x] #[] = _
  unfold pickOrder.go
  simp [Nat.mod_one, pickOrder.go]

theorem setNext_zero {D : Addr} {b : Bool} {Q : Option (Value × Nat) → Shared → Prop} (ho : s.heap.get? D = some (setObj #[(hB b, .bool b)] 1 (tab1 b (ledOf w)))) (h : ∀ n, (n = 0 ∨ n = (if b then 2 else 1)) → (ledOf w = true → n = if b then 2 else 1) → Q (some (.bool b, n)) s) :
    wpAny (model prog w) A (setNext D 0 0 1) Q E s := by
  have hf : (tab1 b (ledOf w)).fits 1 = true := by cases b <;> cases ledOf w <;> decide
  unfold setNext setsByText
  refine wpAny_bind (wpAny_setState_of ho rfl hf ?_)
  dsimp only
  refine wpAny_bind (wpAny_bind (wpAny_askSetting (wpAny_pure ?_)))
  show wpAny _ _ (if w.params.followText "set-order" = true then _ else _) _ _ _
  cases hl : w.params.followText "set-order" with
  | true =>
    rw [if_pos rfl, if_neg (by decide)]
    unfold setWalk setsByText
    refine wpAny_bind (wpAny_bind (wpAny_setState_of ho rfl hf ?_))
    dsimp only
    refine wpAny_bind (wpAny_bind (wpAny_askSetting (wpAny_pure ?_)))
    show wpAny _ _ (if w.params.followText "set-order" = true then _ else _) _ _ _
    rw [hl, if_pos rfl]
    refine wpAny_bind (wpAny_askSetting (wpAny_pure ?_))
    rw [pick_one]
    refine wpAny_pure (h 0 (.inl rfl) fun hh => ?_)
    rw [ledOf, hl] at hh; cases hh
  | false =>
    have hled : ledOf w = true := by unfold ledOf; rw [hl]; rfl
    rw [if_neg (by decide)]
    rw [hled]
    split
    · rename_i hd
      have hd' : (!true && decide (1 > 1)) = true := hd
      cases hd'
    · refine wpAny_bind (wpAny_of_eq (a := ()) rfl ?_)
      refine wpAny_pure ?_
      cases b with
      | true => exact h 2 (.inr rfl) fun _ => rfl
      | false => exact h 1 (.inr rfl) fun _ => rfl

theorem setNext_one {D : Addr} {b : Bool} {n : Nat} {Q : Option (Value × Nat) → Shared → Prop} (ho : s.heap.get? D = some (setObj #[(hB b, .bool b)] 1 (tab1 b (ledOf w)))) (hn : ledOf w = true → n = if b then 2 else 1) (h : Q none s) :
    wpAny (model prog w) A (setNext D n 1 1) Q E s := by
  have hf : (tab1 b (ledOf w)).fits 1 = true := by cases b <;> cases ledOf w <;> decide
  unfold setNext setsByText
  refine wpAny_bind (wpAny_setState_of ho rfl hf ?_)
  dsimp only
  refine wpAny_bind (wpAny_bind (wpAny_askSetting (wpAny_pure ?_)))
  show wpAny _ _ (if w.params.followText "set-order" = true then _ else _) _ _ _
  cases hl : w.params.followText "set-order" with
  | true =>
    rw [if_pos rfl, if_neg (by decide)]
    unfold setWalk setsByText
    refine wpAny_bind (wpAny_bind (wpAny_setState_of ho rfl hf ?_))
    dsimp only
    refine wpAny_bind (wpAny_bind (wpAny_askSetting (wpAny_pure ?_)))
    show wpAny _ _ (if w.params.followText "set-order" = true then _ else _) _ _ _
    rw [hl, if_pos rfl]
    refine wpAny_bind (wpAny_askSetting (wpAny_pure ?_))
    rw [pick_one]
    exact wpAny_pure h
  | false =>
    have hled : ledOf w = true := by unfold ledOf; rw [hl]; rfl
    obtain rfl := hn hled
    rw [if_neg (by decide)]
    rw [hled]
    split
    · rename_i hd
      have hd' : (!true && decide (1 > 1)) = true := hd
      cases hd'
    · refine wpAny_bind (wpAny_of_eq (a := ()) rfl ?_)
      refine wpAny_pure ?_
      cases b with
      | true => exact h
      | false => exact h
end
end Mine

namespace Mine

section
variable {prog : Program} {w : World} {A : Around} {E : Value → Shared → Prop} {s : Shared}
noncomputable abbrev setIter (n i : Int) (src : Value) (sz ep : Int) : Obj := { cls := .type "set_iterator", data := .fields #[.int n 0, .int i 0, src, .int sz 0, .int ep 0] }

theorem pyNext_set_one {I D : Addr} {b : Bool} {Q : Option Value → Shared → Prop} (hI : s.heap.get? I = some (setIter 0 0 (.ref D) 1 1)) (ho : s.heap.get? D = some (setObj #[(hB b, .bool b)] 1 (tab1 b (ledOf w)))) (hne : D ≠ I)
    (h : ∀ h' n, h'.get? I = some (setIter (n : Nat) 1 (.ref D) 1 1) → (ledOf w = true → n = if b then 2 else 1) → (∀ a o, a ≠ I → s.heap.get? a = some o → h'.get? a = some o) → Q (some (.bool b)) { s with heap := h' }) :
    wpAny (model prog w) A (pyNext (.ref I)) Q E s := by
  have hT : s.TypeIs (.ref I) "set_iterator" := ⟨_, hI, rfl⟩
  have hf : (tab1 b (ledOf w)).fits 1 = true := by cases b <;> cases ledOf w <;> decide
  unfold pyNext
  refine wpAny_bind (wpAny_attempt (wpAny_callSpecial?_slot (name := Str.ofString "__next__") hT slot_seti_next
    (wpAny_call_entry slot_seti_next hT entry_seti_next ?_ (args_seti_next _))))
  unfold Builtin.«set_iterator.__next__»
  refine wpAny_bind (wpAny_pure ?_)
  dsimp only
  refine wpAny_bind (wpAny_fieldsOf hI rfl ?_)
  dsimp only
  refine wpAny_bind (wpAny_setEntries_of ho rfl hf ?_)
  rw [if_neg (by simp)]
  refine wpAny_bind (setNext_zero ho fun n _ hn => ?_)
  dsimp only
  refine wpAny_bind (wpAny_setField_rec hI (by simp) fun h1 hI1 hs1 => ?_)
  refine wpAny_bind (wpAny_setField_rec (s := { s with heap := h1 }) hI1 (by simp) fun h2 hI2 hs2 => ?_)
  exact wpAny_pure ⟨_, rfl, wpAny_pure (h h2 n hI2 hn fun a o ha e => hs2.extBut a o ha (hs1.extBut a o ha e))⟩

theorem pyNext_set_end {I D : Addr} {b : Bool} {n : Nat} {Q : Option Value → Shared → Prop} (hh : A.handled = none) (hI : s.heap.get? I = some (setIter (n : Nat) 1 (.ref D) 1 1)) (ho : s.heap.get? D = some (setObj #[(hB b, .bool b)] 1 (tab1 b (ledOf w)))) (hn : ledOf w = true → n = if b then 2 else 1)
    (h : ∀ h', (∀ a o, a ≠ I → s.heap.get? a = some o → h'.get? a = some o) → Q none { s with heap := h' }) :
    wpAny (model prog w) A (pyNext (.ref I)) Q E s := by
  have hT : s.TypeIs (.ref I) "set_iterator" := ⟨_, hI, rfl⟩
  have hf : (tab1 b (ledOf w)).fits 1 = true := by cases b <;> cases ledOf w <;> decide
  unfold pyNext
  refine wpAny_bind (wpAny_attempt (wpAny_callSpecial?_slot (name := Str.ofString "__next__") hT slot_seti_next
    (wpAny_call_entry slot_seti_next hT entry_seti_next ?_ (args_seti_next _))))
  unfold Builtin.«set_iterator.__next__»
  refine wpAny_bind (wpAny_pure ?_)
  dsimp only
  refine wpAny_bind (wpAny_fieldsOf hI rfl ?_)
  dsimp only
  refine wpAny_bind (wpAny_setEntries_of ho rfl hf ?_)
  rw [if_neg (by simp)]
  refine wpAny_bind (setNext_one (n := n) ho hn ?_)
  dsimp only
  refine wpAny_bind (wpAny_setField_rec hI (by simp) fun h1 hI1 hs1 => ?_)
  show wpAny _ _ (newExc (.type "StopIteration") [] >>= _) _ _ _
  refine wpAny_bind ?_
  simp only [newExc, newTuple]
  refine wpAny_bind (wpAny_newObj_type ?_ (by size_fits))
  refine wpAny_bind (m := firstArgMember _ _) (wpAny_of_eq (a := Value.none) (by first | rfl | (simp only [firstArgMember]; rfl)) ?_)
  refine wpAny_newObj_type ?_ (by size_fits)
  simp only [raiseNew]
  refine wpAny_bind (wpAny_handled ?_)
  first | rw [show A.in1.handled = none from hh] | rw [hh]
  refine wpAny_bind (wpAny_pure (wpAny_throw ?_))
  refine wpAny_bind (wpAny_isInstance (T := "StopIteration") (b := true) ⟨_, Heap.get?_push_size _ rfl, rfl⟩ isSubtype_stop ?_)
  exact wpAny_pure (h _ fun a o ha e => Heap.get?_push_of_some _ (Heap.get?_push_of_some _ (hs1.extBut a o ha e)))

theorem setNext_empty {D : Addr} {ep : Nat} {t : SetTable} {Q : Option (Value × Nat) → Shared → Prop} (ho : s.heap.get? D = some (setObj #[] ep t)) (hf : t.fits 0 = true) (h : Q none s) : wpAny (model prog w) A (setNext D 0 0 ep) Q E s := by
  unfold setNext setsByText
  refine wpAny_bind (wpAny_setState_of ho rfl hf ?_)
  dsimp only
  refine wpAny_bind (wpAny_bind (wpAny_askSetting (wpAny_pure ?_)))
  show wpAny _ _ (if w.params.followText "set-order" = true then _ else _) _ _ _
  cases hl : w.params.followText "set-order" with
  | true =>
    rw [if_pos rfl, if_neg (by simp)]
    unfold setWalk setsByText
    refine wpAny_bind (wpAny_bind (wpAny_setState_of ho rfl hf ?_))
    dsimp only
    refine wpAny_bind (wpAny_bind (wpAny_askSetting (wpAny_pure ?_)))
    show wpAny _ _ (if w.params.followText "set-order" = true then _ else _) _ _ _
    rw [hl, if_pos rfl]
    refine wpAny_bind (wpAny_askSetting (wpAny_pure ?_))
    exact wpAny_pure h
  | false =>
    rw [if_neg (by decide)]
    split
    · rename_i hd
      have hd' : (!t.plain && decide (0 > 1)) = true := hd
      simp at hd'
    · refine wpAny_bind (wpAny_of_eq (a := ()) ?_ ?_)
      · show (if (!t.led && !true) = true then _ else _) = _
        simp
      · refine wpAny_pure ?_
        simpa using h
end
end Mine

namespace Mine

section
variable {prog : Program} {w : World} {A : Around} {E : Value → Shared → Prop} {s : Shared}
theorem pyNext_set_none {I D : Addr} {ep : Nat} {t : SetTable} {Q : Option Value → Shared → Prop} (hh : A.handled = none) (hI : s.heap.get? I = some (setIter 0 0 (.ref D) 0 (ep : Nat))) (ho : s.heap.get? D = some (setObj #[] ep t)) (hf : t.fits 0 = true)
    (h : ∀ h', (∀ a o, a ≠ I → s.heap.get? a = some o → h'.get? a = some o) → Q none { s with heap := h' }) :
    wpAny (model prog w) A (pyNext (.ref I)) Q E s := by
  have hT : s.TypeIs (.ref I) "set_iterator" := ⟨_, hI, rfl⟩
  unfold pyNext
  refine wpAny_bind (wpAny_attempt (wpAny_callSpecial?_slot (name := Str.ofString "__next__") hT slot_seti_next
    (wpAny_call_entry slot_seti_next hT entry_seti_next ?_ (args_seti_next _))))
  unfold Builtin.«set_iterator.__next__»
  refine wpAny_bind (wpAny_pure ?_)
  dsimp only
  refine wpAny_bind (wpAny_fieldsOf hI rfl ?_)
  dsimp only
  refine wpAny_bind (wpAny_setEntries_of ho rfl hf ?_)
  rw [if_neg (by simp)]
  refine wpAny_bind (setNext_empty (ep := ep) ho hf ?_)
  dsimp only
  refine wpAny_bind (wpAny_setField_rec hI (by simp) fun h1 hI1 hs1 => ?_)
  show wpAny _ _ (newExc (.type "StopIteration") [] >>= _) _ _ _
  refine wpAny_bind ?_
  simp only [newExc, newTuple]
  refine wpAny_bind (wpAny_newObj_type ?_ (by size_fits))
  refine wpAny_bind (m := firstArgMember _ _) (wpAny_of_eq (a := Value.none) (by first | rfl | (simp only [firstArgMember]; rfl)) ?_)
  refine wpAny_newObj_type ?_ (by size_fits)
  simp only [raiseNew]
  refine wpAny_bind (wpAny_handled ?_)
  first | rw [show A.in1.handled = none from hh] | rw [hh]
  refine wpAny_bind (wpAny_pure (wpAny_throw ?_))
  refine wpAny_bind (wpAny_isInstance (T := "StopIteration") (b := true) ⟨_, Heap.get?_push_size _ rfl, rfl⟩ isSubtype_stop ?_)
  exact wpAny_pure (h _ fun a o ha e => Heap.get?_push_of_some _ (Heap.get?_push_of_some _ (hs1.extBut a o ha e)))
end

section
variable {g : Cfg} {k : Nat} {W β β' : List Addr} {env : Env} {ρ : Rho} {H H' : List Cell} {s s' : Shared} {names : List (Str × NameKind)}

noncomputable abbrev set0 (led : Bool) : Obj := setObj #[] 0 (SetTable.fresh 0 0 led)
theorem WC.set0 {Q : PV → List Cell → Prop} (h : ∀ led, Q (.loc H.length) (H ++ [.obj (set0 led)])) : WC g k (.type "set") [] H Q := by
  intro A β s vs hA S V
  cases vs with
  | cons _ _ => exact V.elim
  | nil =>
  refine call_set_0 fun led => ⟨β ++ [s.heap.objs.size], H ++ [.obj (Mine.set0 led)], .loc H.length, Step.add (c := .obj (Mine.set0 led)) (tk := s.toks) S (fun b o e => Heap.get?_push_of_some _ e) (get_size_none _) (Heap.get?_push_size _ rfl), ⟨_, by rw [← S.len]; simp, rfl⟩, h led⟩
theorem set0_of {led : Bool} {a : Addr} (e : s.heap.get? a = some (set0 led)) : s.heap.SetOf (PySem.strKind g.prog g.w) a (fun _ => false) 0 :=
  ⟨_, #[], 0, _, e, ⟨rfl, rfl, rfl⟩, rfl, fun e he => by simp at he, fun k => by simp, by decide, by rfl, rfl⟩
theorem WO2.inSet0 {n : Nat} {x : Str} {led : Bool} {Q : PV → List Cell → Prop} (e : H[n]? = some (.obj (set0 led))) (h : Q (.bool false) H) : WO2 g k (.str x) (.loc n) (compareOp .In) H Q := by
  rintro A β s va vb hA S ⟨t, rfl⟩ ⟨a, ea, rfl⟩
  have ho := S.at e ea
  refine wpAny_inSet_of (knd := PySem.strKind g.prog g.w) (k := x) (by show Value.isStrOf x (.str x t) = true; simp [Value.isStrOf]) rfl (set0_of ho) ?_
  exact PE.tok (pv := .bool false) S rfl h

/-- a loop over the empty set -/
theorem WS.forSet0 {target iter : Expr} {body orelse : List Stmt} {pos : Pos} {Q : AF → Rho → List Cell → Prop}
    (hit : WE g k env iter ρ H (fun p H1 => Ex2 fun n led => And3 (p = .loc n) (H1[n]? = some (.obj (set0 led))) (WSS g k W env orelse ρ H1 Q)))
    (hs : ∀ x, foldedSetIterable iter env x = pure x := by intro _; rfl) : WS g k W env (.For target iter body orelse pos) ρ H Q := by
  intro A β s hA S F
  refine wpAny_For (wpAny_mono (hit A β s hA S F) (fun v s1 h1 => ?_) fun _ _ x => x) hs
  obtain ⟨β1, H1, p, T1, V1, n, led, rfl, hc, hq⟩ := h1
  obtain ⟨a, ea, rfl⟩ := V1
  have ho := T1.sim.at hc ea
  have hlt : a < s1.heap.objs.size := Heap.lt_size ho
  refine pyIter_set ho (by rfl) (by simp) ?_
  refine codeAny_mono (R := fun r s' => match r with | .ok f => PS g W env β H s Q f s' | .error e => cameBackBy (model g.prog g.w) A env noE e s') ?_ (fun r s' h => by cases r with | ok f => exact h | error e => exact h)
  have hk : ∀ b o, s1.heap.get? b = some o → (s1.heap.push (setIter 0 0 (.ref a) 0 ((0 : Nat) : Int))).get? b = some o := fun b o e => Heap.get?_push_of_some _ e
  refine codeAny_forLoopT (fun m s' => s' = { s1 with heap := s1.heap.push (setIter 0 0 (.ref a) 0 ((0 : Nat) : Int)) }) ?_ 0 rfl
  rintro m s' rfl
  refine pyNext_set_none (s := { s1 with heap := s1.heap.push (setIter 0 0 (.ref a) 0 ((0 : Nat) : Int)) }) (ep := 0) hA.1 (Heap.get?_push_size _ rfl) (hk _ _ ho) (by rfl) fun h' hk' => ?_
  have T2 : StepG g [] β1 H1 s1 β1 H1 { s1 with heap := h', toks := s1.toks } := Step.grow T1.sim fun b o e => hk' b o (Nat.ne_of_lt (Heap.lt_size e)) (hk b o e)
  have T12 := T1.trans T2 S
  exact wpAny_mono (hq A β1 _ hA T12.sim (F.step T12)) (fun f s3 h3 => h3.after S T12.ofNil) fun _ _ x => x.elim
end
end Mine

namespace Mine

theorem compTurn_set (elt target iter : Expr) (scope : Scope) (pos : Pos) (it acc : Value) (env : Env) :
    compTurn (.SetComp elt [⟨target, iter, [], 0⟩] scope pos) 0 it acc env = (standAt iter.pos >>= fun _ => pyNext it >>= fun r => match r with
      | none => pure (.done .next)
      | some v => letOwnedTupleGo target it v >>= fun _ => assign target env v >>= fun _ =>
        (eval elt env >>= fun x => standAt elt.pos >>= fun _ => call (.builtin "set.add") [acc, x] >>= fun _ => pure ()) >>= fun _ =>
          again (.compLoop (.SetComp elt [⟨target, iter, [], 0⟩] scope pos) 0 it acc env)) := by rfl

section
variable {prog : Program} {w : World} {A : Around} {E : Value → Shared → Prop} {R : Result → Shared → Prop} {s : Shared}
theorem codeAny_compStart_set {elt target iter ifs rest scope pos it acc env}
    (h0 : codeAny (model prog w) A (.compLoop (.SetComp elt (⟨target, iter, ifs, 0⟩ :: rest) scope pos) 0 it acc env) R s)
    (h : wpAny (model prog w) A (pyIter it) (fun it' s' => codeAny (model prog w) A (.compLoop (.SetComp elt (⟨target, iter, ifs, 0⟩ :: rest) scope pos) 0 it' acc env) R s')
      (notedBy (model prog w) A env fun x s' => R (.error x) s') s) :
    codeAny (model prog w) A (.compStart (.SetComp elt (⟨target, iter, ifs, 0⟩ :: rest) scope pos) 0 it acc env) R s := by
  refine codeAny_of_tree ?_
  show wpAny _ A ((compStart (.SetComp elt (⟨target, iter, ifs, 0⟩ :: rest) scope pos) 0 it acc env).onRaise (fun x => do noteFrame x env; standAt theWindowsPlace)) _ _ s
  refine wpAny_notedAt ?_
  unfold compStart
  show wpAny _ A (ask >>= _) _ _ s
  refine wpAny_bind (wpAny_askSetting (wpAny_ite ?_))
  split
  · first
      | exact wpAny_bind (wpAny_pure (wpAny_pure (And.intro rfl h0)))
      | exact wpAny_pure (And.intro rfl h0)
  · first
      | exact wpAny_bind (wpAny_rule (wpAny_bind (wpAny_standAt (wpAny_bind (wpAny_mono h (fun it' s' h' => wpAny_pure (And.intro rfl h')) fun _ _ x => x)))))
      | (refine wpAny_bind (wpAny_rule ?_); show wpAny _ _ (standAt iter.pos >>= _) _ _ s; exact wpAny_bind (wpAny_standAt (wpAny_bind (wpAny_mono h (fun it' s' h' => wpAny_pure (And.intro rfl h')) fun _ _ x => x))))

theorem codeAny_compLoop_set {elt target iter : Expr} {scope : Scope} {pos : Pos} {it acc : Value} {env : Env} (I : Nat → Shared → Prop)
    (turn : ∀ n s, I n s → wpAny (model prog w) A (pyNext it) (fun r s₁ => match r with
      | none => R (.ok .next) s₁
      | some v => wpAny (model prog w) A (letOwnedTupleGo target it v) (fun _ s₁' => wpAny (model prog w) A (assign target env v) (fun _ s₂ => wpAny (model prog w) A (eval elt env) (fun x s₃ =>
          wpAny (model prog w) A (call (.builtin "set.add") [acc, x]) (fun _ s₄ => ∃ m, m < n ∧ I m s₄) (notedBy (model prog w) A env fun e s' => R (.error e) s') s₃)
        (notedBy (model prog w) A env fun e s' => R (.error e) s') s₂) (notedBy (model prog w) A env fun e s' => R (.error e) s') s₁') (notedBy (model prog w) A env fun e s' => R (.error e) s') s₁) (notedBy (model prog w) A env fun e s' => R (.error e) s') s)
    (n : Nat) (h : I n s) :
    codeAny (model prog w) A (.compLoop (.SetComp elt [⟨target, iter, [], 0⟩] scope pos) 0 it acc env) R s := by
  refine codeAny_loop rfl I (fun n s hI => ?_) n h
  show wpAny _ A ((compTurn (.SetComp elt [⟨target, iter, [], 0⟩] scope pos) 0 it acc env).onRaise (fun x => do noteFrame x env; theTreesLotGoes x)) _ _ s
  refine wpAny_noted ?_
  rw [compTurn_set]
  refine wpAny_bind (wpAny_standAt (wpAny_bind (wpAny_mono (turn n s hI) (fun r s₁ h₁ => ?_) fun _ _ h' => h')))
  cases r with
  | none => exact wpAny_pure h₁
  | some v =>
    refine wpAny_bind (wpAny_mono h₁ (fun _ s₁' h₁' => ?_) fun _ _ h' => h')
    refine wpAny_bind (wpAny_mono h₁' (fun _ s₂ h₂ => ?_) fun _ _ h' => h')
    exact wpAny_bind (wpAny_bind (wpAny_mono h₂ (fun x s₃ h₃ => wpAny_bind (wpAny_standAt (wpAny_bind (wpAny_mono h₃ (fun _ s₅ h₅ => wpAny_pure (wpAny_pure ⟨rfl, h₅⟩)) fun _ _ h' => h')))) fun _ _ h' => h'))
end

noncomputable abbrev setOf1 (b led : Bool) : Obj := setObj #[(hB b, .bool b)] 1 (tab1 b led)
noncomputable def setAt (i : Nat) (b led : Bool) : Obj := if i = 0 then setObj #[] 0 (SetTable.fresh 0 0 led) else setOf1 b led

section
variable {g : Cfg} {k : Nat} {W β β' : List Addr} {env : Env} {ρ : Rho} {H H' : List Cell} {s s' : Shared}

theorem set_walk {A : Around} {elt iter : Expr} {x : Str} {px : Pos} {scope : Scope} {pos : Pos} {fp : List Addr} {Pi : Nat → Value → Prop} {St : Nat → Heap → Prop} {xs : List PV} {ob : Obj} {tk : Nat} {b : Bool}
    (J : List PV → List Cell → Prop) (hA : Rm k A) (S : SimG g β H s) (F : Frm g.B β env ρ s) (It : ItOk g A β H s xs ob fp Pi St) (hne : xs ≠ [])
    (hcell : ∀ y ∈ scope.names, y.2 ≠ .cell) (hkind : scope.kind = .function) (hn : compNames x scope.names = true) (hx : scope.names.lookup x = some .local) (h0 : ρ.lookup (".0" : Str) = none) (hx0 : x ≠ (".0" : Str))
    (hfree : ∀ n, (n, NameKind.free) ∈ scope.names → Reach env n)
    (hJ : J xs H)
    (turn : ∀ y rest H2, J (y :: rest) H2 → ∀ cenv, CompEnv scope cenv → WE g k cenv elt ((x, y) :: ρ) H2 (fun p H4 => p = .bool b ∧ J rest H4))
    {RR : Value → Addr → Result → Shared → Prop} {E : Value → Shared → Prop}
    (hRR : ∀ D C β' H' m s', D ∉ β' → C ∉ β' → D ≠ C → s.heap.get? D = none → s.heap.get? C = none → StepG g [] β H s β' H' s' → Frm g.B β' env ρ s' → s'.heap.get? D = some (setOf1 b (ledOf g.w)) → s'.heap.Ns C m → J [] H' →
      RR (.ref D) C (.ok .next) s') :
    wpAny g.M A (newSet (.type "set")) (fun acc s₃ => wpAny g.M A (newFunctionEnv scope env.globals (clOf scope env) [] env.qual none .none (some env)) (fun cenv s₄ =>
      codeAny g.M A (.compStart (.SetComp elt [⟨.Name x px, iter, [], 0⟩] scope pos) 0 (.ref s.heap.objs.size) acc { cenv with scope := relabel scope env }) (RR acc cenv.locals) s₄) E s₃) E { s with heap := s.heap.push ob, toks := tk } := by
  have hf' : ∀ n, (n, NameKind.free) ∈ scope.names → ∃ c, env.cells.lookup n = some c := fun n hm => (hfree n hm).2
  have hfl : ∀ n, scope.names.lookup n = some .free → Reach env n := fun n e => hfree n (mem_of_lookup e)
  refine new_set (wpAny_newFunctionEnv hcell (by intro y hy; simp at hy) (fun h₁ hns₁ hsb₁ => ?_) hkind)
  dsimp only at hns₁ hsb₁ ⊢
  generalize hH1 : s.heap.push ob = H1 at hns₁ hsb₁ ⊢
  have hD : H1.objs.size = s.heap.objs.size + 1 := by rw [← hH1, Heap.size_push]
  generalize hH2 : H1.push (setObj #[] 0 (SetTable.fresh 0 0 (ledOf g.w))) = H2 at hns₁ hsb₁ ⊢
  have hC : H2.objs.size = s.heap.objs.size + 2 := by rw [← hH2, Heap.size_push, hD]
  have neC : ∀ b o, H1.get? b = some o → b ≠ H2.objs.size := fun b o e h => by
    have h2 : b < H1.objs.size := Heap.lt_size e
    have h3 : (b : Nat) = H2.objs.size := h
    rw [h3, hC, hD] at h2
    exact absurd h2 (Nat.not_lt.mpr (Nat.le_succ _))
  have neD : H1.objs.size ≠ H2.objs.size := by rw [hC, hD]; omega
  have up : ∀ b o, H1.get? b = some o → h₁.get? b = some o := fun b o e => hsb₁.extBut b o (neC b o e) (Heap.get?_push_of_some _ (hH2 ▸ Heap.get?_push_of_some _ e))
  have old : ∀ b o, s.heap.get? b = some o → h₁.get? b = some o := fun b o e => up b o (hH1 ▸ It.get b o e)
  have hacc : h₁.get? H1.objs.size = some (setAt 0 b (ledOf g.w)) := hsb₁.extBut _ _ neD (Heap.get?_push_of_some _ (hH2 ▸ Heap.get?_push_size _ rfl))
  have hst : St 0 h₁ := It.walk.frame _ _ _ It.start fun b _ o e => up b o (hH1 ▸ e)
  have Wk := It.walk
  have Wlive := It.live
  have Wfirm := It.firm
  have Wgo := It.go
  obtain ⟨I, hI⟩ : ∃ I : Nat, s.heap.objs.size = I := ⟨_, rfl⟩
  obtain ⟨D, hDD⟩ : ∃ D : Nat, H1.objs.size = D := ⟨_, rfl⟩
  obtain ⟨C, hCC⟩ : ∃ C : Nat, H2.objs.size = C := ⟨_, rfl⟩
  have lI : s.heap.objs.size ≤ I := Nat.le_of_eq hI
  have lD : s.heap.objs.size ≤ D := by omega
  have lC : s.heap.objs.size ≤ C := by omega
  have dID : I ≠ D := fun h => by omega
  have dIC : I ≠ C := fun h => by omega
  have dDC : D ≠ C := fun h => by omega
  rw [hCC, hDD, hI]
  rw [hI] at Wk Wlive Wfirm Wgo
  rw [hCC] at hns₁ hsb₁
  rw [hDD] at hacc
  have nI : s.heap.get? I = none := get_none_of_le lI
  have nD : s.heap.get? D = none := get_none_of_le lD
  have nC : s.heap.get? C = none := get_none_of_le lC
  have hwr : ∀ b ∈ [I, D, C], s.heap.get? b = none ∧ b ∉ β := fun b hb => by
    simp only [List.mem_cons, List.not_mem_nil, or_false] at hb
    rcases hb with rfl | rfl | rfl
    · exact ⟨nI, S.not_mem nI⟩
    · exact ⟨nD, S.not_mem nD⟩
    · exact ⟨nC, S.not_mem nC⟩
  have hfpI : ∀ b ∈ fp, b ≠ D ∧ b ≠ C := fun b hb => by
    rcases (Wfirm b hb).2.2 with h | h
    · exact ⟨h ▸ dID, h ▸ dIC⟩
    · obtain ⟨o, e⟩ := S.mem_some h
      exact ⟨fun h => (by rw [h, nD] at e; cases e), fun h => (by rw [h, nC] at e; cases e)⟩
  have hLn : env.locals ∉ [I, D, C] := fun h => by
    obtain ⟨o, e⟩ := F.aliveL
    rw [(hwr _ h).1] at e; cases e
  have hCn : ∀ x c, env.cells.lookup x = some c → c ∉ [I, D, C] := fun x c ec h => by
    obtain ⟨o, e⟩ := F.aliveC ec
    rw [(hwr _ h).1] at e; cases e
  have loop : ∀ s₃ : Shared, s₃ = { s with heap := h₁, toks := tk } →
      codeAny g.M A (.compLoop (.SetComp elt [⟨.Name x px, iter, [], 0⟩] scope pos) 0 (.ref I) (.ref D) (compEnvC scope (clOf scope env) C env)) (RR (.ref D) C) s₃ := by
    rintro s₃ rfl
    refine codeAny_compLoop_set (fun m s' => Ex4 fun i β' H' mc => And10 (StepG g [] β H s β' H' s') (Frm g.B β' env ρ s') (St i s'.heap) (∀ b ∈ fp, (∃ o, s'.heap.get? b = some o) ∧ Firm β' H' b) (∀ b ∈ [I, D, C], b ∉ β') (s'.heap.get? D = some (setAt i b (ledOf g.w))) (s'.heap.Ns C mc) (J (xs.drop i) H') (i ≤ xs.length) (m = xs.length + 1 - i)) ?_ (xs.length + 1)
      ⟨0, β, H, _, Step.grow S old, F.junk (wr := []) (by simp) (fun _ _ _ => by simp) (fun b o _ e => old b o e), hst, fun b hb => ⟨?_, (Wfirm b hb).2.1⟩, fun b hb => (hwr b hb).2, hacc, hns₁, by simpa using hJ, Nat.zero_le _, by omega⟩
    · rintro m s' ⟨i, β', H', mc, T, F', st, hf, hnb, hl, hns, hj, hi, rfl⟩
      by_cases hlt : i < xs.length
      · refine Wk.item i _ _ _ hlt st fun v h2 tk2 hp st2 hk2 => ?_
        have k2 : ∀ b o, b ∉ [I, D, C] → s'.heap.get? b = some o → h2.get? b = some o := fun b o hb e => hk2 b o (fun h => hb (by simp at h; simp [h])) e
        obtain ⟨p, hp1, hp2⟩ := It.item i v hlt hp
        have hd : xs.drop i = p :: xs.drop (i + 1) := by
          obtain ⟨hlt', e⟩ := List.getElem?_eq_some_iff.mp hp1
          rw [List.drop_eq_getElem_cons hlt', e]
        rw [hd] at hj
        have hns2 : h2.Ns C mc := hns.at' fun o e => hk2 _ o (by simp; exact Ne.symm dIC) e
        have hl2 : h2.get? D = some (setAt i b (ledOf g.w)) := hk2 _ _ (by simp; exact Ne.symm dID) hl
        refine Wgo _ _ _ _ _ _ st2 ?_
        refine wpAny_assign_Name (wpAny_storeName_local (lookup_relabel_local hx) hns2 (fun h3 hn3 hs3 => ?_) (by simp [compEnvC, relabel, hkind]))
        have k3 : ∀ b o, b ∉ [I, D, C] → s'.heap.get? b = some o → h3.get? b = some o := fun b o hb e => hs3.extBut b o (fun h => hb (by subst h; simp [compEnvC])) (k2 b o hb e)
        have T3 : StepG g [] β H s β' H' { s' with heap := h3, toks := tk2 + 1 } := T.junk S (wr := [I, D, C]) (fun b hb => ⟨(hwr b hb).1, hnb b hb⟩) k3
        have F3 : Frm g.B β' env ρ { s' with heap := h3, toks := tk2 + 1 } := F'.junk hLn hCn k3
        have st3 : St (i + 1) h3 := Wk.frame _ _ _ st2 fun b hb o e => hs3.extBut b o (hfpI b hb).2 e
        have hl3 : h3.get? D = some (setAt i b (ledOf g.w)) := hs3.extBut _ _ dDC hl2
        have FC : Frm g.B β' (compEnvC scope (clOf scope env) C env) ((x, p) :: ρ) { s' with heap := h3, toks := tk2 + 1 } :=
          Frm.comp F3 hkind hn3 (by simp) (hp2.pre T.pre) (hnb C (by simp)) (S.base_none nC) hn hx h0 hfl hf' hx0
        have alive3 : ∀ b ∈ fp, ∃ o, h3.get? b = some o := fun b hb => by
          obtain ⟨o, e⟩ := (hf b hb).1
          by_cases hbI : b = I
          · subst hbI; exact Wlive _ _ st3
          · exact ⟨o, k3 b o (by simp; exact ⟨hbI, (hfpI b hb).1, (hfpI b hb).2⟩) e⟩
        have wr3 : ∀ b ∈ [I, D, C], ∃ o, h3.get? b = some o := fun b hb => by
          simp only [List.mem_cons, List.not_mem_nil, or_false] at hb
          rcases hb with rfl | rfl | rfl
          · exact Wlive _ _ st3
          · exact ⟨_, hl3⟩
          · obtain ⟨o, _, _, e, _⟩ := hn3; exact ⟨o, e⟩
        have over : ∀ {β4 H4 s4}, StepG g [] β' H' { s' with heap := h3, toks := tk2 + 1 } β4 H4 s4 →
            (St (i + 1) s4.heap ∧ (∀ b ∈ fp, (∃ o, s4.heap.get? b = some o) ∧ Firm β4 H4 b) ∧ (∀ b ∈ [I, D, C], b ∉ β4) ∧ s4.heap.get? D = some (setAt i b (ledOf g.w)) ∧ s4.heap.Ns C (fun y => if y = x then some v else mc y)) := fun {β4 H4 s4} T4 => by
          have keep : ∀ b o, Firm β' H' b → h3.get? b = some o → s4.heap.get? b = some o := fun b o hb e => T4.pres b o hb (by simp) e
          have kw : ∀ b ∈ [I, D, C], ∀ o, h3.get? b = some o → s4.heap.get? b = some o := fun b hb o e => keep b o (firm_of_not (hnb b hb)) e
          refine ⟨Wk.frame _ _ _ st3 fun b hb o e => keep b o (hf b hb).2 e, fun b hb => ?_, fun b hb hm => ?_, kw D (by simp) _ hl3, hn3.at' (kw C (by simp))⟩
          · obtain ⟨o, e⟩ := alive3 b hb
            exact ⟨⟨o, keep b o (hf b hb).2 e⟩, T4.firm T3.sim (hf b hb).2 e⟩
          · obtain ⟨o, e⟩ := wr3 b hb
            rcases T4.new _ hm with h | h | h
            · exact hnb b hb h
            · rw [show ({ s' with heap := h3, toks := tk2 + 1 } : Shared).heap.get? b = some o from e] at h; cases h
            · exact h (S.base_none (hwr b hb).1)
        have cenvOk : CompEnv scope (compEnvC scope (clOf scope env) C env) := CompEnv.of hfl hf'
        refine wpAny_mono (turn p _ H' hj _ cenvOk A β' _ hA T3.sim FC) (fun y s5 h5 => ?_) fun _ _ x => x.elim
        obtain ⟨β5, H5, py, T5, V5, rfl, q5⟩ := h5
        obtain rfl := V5
        obtain ⟨a1, a2, a3, a4, a5⟩ := over T5
        have fin : ∀ h6 tk6, h6.get? D = some (setAt (i + 1) b (ledOf g.w)) → (∀ a o, a ≠ D → s5.heap.get? a = some o → h6.get? a = some o) →
            ∃ m, m < xs.length + 1 - i ∧ Ex4 fun i β' H' mc => And10 (StepG g [] β H s β' H' { s5 with heap := h6, toks := tk6 }) (Frm g.B β' env ρ { s5 with heap := h6, toks := tk6 }) (St i h6) (∀ b ∈ fp, (∃ o, h6.get? b = some o) ∧ Firm β' H' b) (∀ b ∈ [I, D, C], b ∉ β') (h6.get? D = some (setAt i b (ledOf g.w))) (h6.Ns C mc) (J (xs.drop i) H') (i ≤ xs.length) (m = xs.length + 1 - i) := fun h6 tk6 hl6 hs6 => by
          have k6 : ∀ b o, b ∉ [I, D, C] → s5.heap.get? b = some o → h6.get? b = some o := fun b o hb e => hs6 b o (fun h => hb (by subst h; simp)) e
          have T6 : StepG g [] β H s β5 H5 { s5 with heap := h6, toks := tk6 } := (T3.trans T5 S).junk S (wr := [I, D, C]) (fun b hb => ⟨(hwr b hb).1, a3 b hb⟩) k6
          refine ⟨xs.length + 1 - (i + 1), by omega, i + 1, β5, H5, _, T6, (F3.step T5).junk hLn hCn k6, Wk.frame _ _ _ a1 fun b hb o e => hs6 b o (hfpI b hb).1 e, fun b hb => ?_, a3, hl6, a5.at' fun o e => hs6 _ o (Ne.symm dDC) e, q5, hlt, rfl⟩
          obtain ⟨⟨o, e⟩, hfm⟩ := a2 b hb
          exact ⟨⟨o, hs6 b o (hfpI b hb).1 e⟩, hfm⟩
        have e1 : setAt (i + 1) b (ledOf g.w) = setOf1 b (ledOf g.w) := rfl
        by_cases h0i : i = 0
        · have a4' : s5.heap.get? D = some (setObj #[] 0 (SetTable.fresh 0 0 (ledOf g.w))) := by rw [a4, h0i]; rfl
          exact set_add_first a4' fun h6 hl6 hs6 => fin h6 _ (by rw [e1]; exact hl6) hs6
        · have a4' : s5.heap.get? D = some (setOf1 b (ledOf g.w)) := by rw [a4, setAt, if_neg h0i]
          exact set_add_again a4' (fin s5.heap _ (by rw [e1]; exact a4') fun a o _ e => e)
      · have hin : i = xs.length := by omega
        subst hin
        refine Wk.done _ _ _ st fun h2 tk2 hk2 => ?_
        have k2 : ∀ b o, b ∉ [I, D, C] → s'.heap.get? b = some o → h2.get? b = some o := fun b o hb e => hk2 b o (fun h => hb (by simp at h; simp [h])) e
        have T2 : StepG g [] β H s β' H' { s' with heap := h2, toks := tk2 } := T.junk S (wr := [I, D, C]) (fun b hb => ⟨(hwr b hb).1, hnb b hb⟩) k2
        have F2 : Frm g.B β' env ρ { s' with heap := h2, toks := tk2 } := F'.junk hLn hCn k2
        rw [List.drop_length] at hj
        have hl0 : s'.heap.get? D = some (setOf1 b (ledOf g.w)) := by rw [hl, setAt, if_neg (fun h => hne (List.length_eq_zero_iff.mp h))]
        have hl2 : h2.get? D = some (setOf1 b (ledOf g.w)) := hk2 _ _ (by simp; exact Ne.symm dID) hl0
        exact hRR D C β' H' _ _ (hnb D (by simp)) (hnb C (by simp)) dDC nD nC T2 F2 hl2 (hns.at' fun o e => hk2 _ o (by simp; exact Ne.symm dIC) e) hj
    · obtain ⟨⟨o, e⟩, _⟩ := Wfirm b hb
      exact ⟨o, up b o (hH1 ▸ e)⟩
  exact codeAny_compStart_set (loop _ rfl) (Wk.self 0 _ _ _ hst (loop _ rfl))

/-- {elt for x in iter}, all items one bool -/
theorem WE.setComp {elt iter : Expr} {x : Str} {px : Pos} {scope : Scope} {pos : Pos} {Q : PV → List Cell → Prop} {b : Bool} (J : List PV → List Cell → Prop)
    (hit : WE g k env iter ρ H (fun p H1 => Ex3 fun n c xs => And6 (p = .loc n) (H1[n]? = some c) (cellItems c = some xs) (xs.length ≤ 100000) (xs ≠ []) (J xs H1)))
    (turn : ∀ y rest H2, J (y :: rest) H2 → ∀ cenv, CompEnv scope cenv → WE g k cenv elt ((x, y) :: ρ) H2 (fun p H4 => p = .bool b ∧ J rest H4))
    (fin : ∀ H2, J [] H2 → Q (.loc H2.length) (H2 ++ [.obj (setOf1 b (ledOf g.w))]))
    (h0 : ρ.lookup (".0" : Str) = none) (hfree : ∀ n, (n, NameKind.free) ∈ scope.names → Reach env n)
    (hcell : ∀ y ∈ scope.names, y.2 ≠ .cell := by decide) (hkind : scope.kind = .function := by rfl) (hn : compNames x scope.names = true := by decide) (hx : scope.names.lookup x = some .local := by rfl) (hx0 : x ≠ (".0" : Str) := by decide)
    (hs : ∀ x, foldedSetIterable iter env x = pure x := by intro _; rfl) :
    WE g k env (.SetComp elt [⟨.Name x px, iter, [], 0⟩] scope pos) ρ H Q := by
  intro A β s hA S F
  have hnames : ∀ y ∈ scope.names, y.2 = .local → scope.names.lookup y.1 = some .local := fun y hy hl => by
    have := List.all_eq_true.mp hn y hy
    simp only [Bool.or_eq_true, Bool.and_eq_true, beq_iff_eq, decide_eq_true_eq] at this
    rcases this with (⟨_, h⟩ | h) | h
    · exact h
    · rw [hl] at h; cases h
    · rw [hl] at h; cases h
  rw [show eval (.SetComp elt [⟨.Name x px, iter, [], 0⟩] scope pos) env = comprehension (.SetComp elt [⟨.Name x px, iter, [], 0⟩] scope pos) scope env (firstIterPos [⟨.Name x px, iter, [], 0⟩] pos) (newSet (.type "set")) (firstAsync [⟨.Name x px, iter, [], 0⟩]) (firstIter [⟨.Name x px, iter, [], 0⟩] env) from by with_unfolding_all rfl]
  refine wpAny_comprehension_free (use := none) rfl hs (closureFor_of fun n hm => (hfree n hm).2) hkind hnames (wpAny_mono (h := (hit A β s hA S F : wpAny g.M A (firstIter [⟨.Name x px, iter, [], 0⟩] env) _ _ s)) (fun v s1 h1 => ?_) fun _ _ x => x)
  obtain ⟨β1, H1, p, T1, V1, n, c, xs, rfl, hc, hxs, hlen, hne, hJ⟩ := h1
  obtain ⟨a, ea, rfl⟩ := V1
  refine iter_cell hA T1.sim ea hc hxs hlen fun ob fp Pi St tk It => ?_
  refine set_walk (RR := fun acc C => compPost g.M A noE none (PE g β H s Q) acc C) J hA T1.sim (F.step T1) It hne hcell hkind hn hx h0 hx0 hfree hJ turn ?_
  intro D C β' H' m s' hD hC hDC nD nC T2 F2 hcl hns hj
  refine ⟨m, hns, fun h' hs' => ?_⟩
  have T12 := T1.trans T2 S
  have nD0 : s.heap.get? D = none := by
    cases e : s.heap.get? D with
    | none => rfl
    | some o => obtain ⟨o', e'⟩ := T1.live D o e; rw [nD] at e'; cases e'
  have nC0 : s.heap.get? C = none := by
    cases e : s.heap.get? C with
    | none => rfl
    | some o => obtain ⟨o', e'⟩ := T1.live C o e; rw [nC] at e'; cases e'
  have k' : ∀ b o, b ∉ [C] → s'.heap.get? b = some o → h'.get? b = some o := fun b o hb e => hs'.extBut b o (fun h => hb (by simp [h])) e
  have T3 : StepG g [] β H s β' H' { s' with heap := h', toks := s'.toks } := T12.junk S (wr := [C]) (fun b hb => by rw [List.mem_singleton.mp hb]; exact ⟨nC0, hC⟩) k'
  have hcl' : CellIs g.w.params h' (β' ++ [D]) D (.obj (setOf1 b (ledOf g.w))) := k' D _ (by simp; exact hDC) hcl
  have T4 := Step.adopt S T3 hD nD0 hcl'
  refine ⟨_, _, .loc H'.length, T4, ⟨D, ?_, rfl⟩, fin H' hj⟩
  rw [← T3.sim.len]; simp

/-- one name laid to the only item of a set -/
theorem WA.unpackSet1 {t : Expr} {n m : Nat} {pos : Pos} {b : Bool} {Q : Rho → List Cell → Prop} (e : H[n]? = some (.obj (setOf1 b (ledOf g.w)))) (h : WA g k W env t (.bool b) ρ H Q)
    (he : assignEach [t] env = [(false, PySem.assign t env)] := by rfl) : WA g k W env (.Tuple [t] m pos) (.loc n) ρ H Q := by
  intro A β s v hA S F hv
  obtain ⟨a, ea, rfl⟩ := hv
  have ho := S.at e ea
  have ho : s.heap.get? a = some (setOf1 b (ledOf g.w)) := ho
  have hlt : a < s.heap.objs.size := Heap.lt_size ho
  rw [PyProof.Rows.assign_Tuple]
  refine wpAny_bind (wpAny_standAt ?_)
  unfold PySem.unpack
  rw [he]
  show wpAny _ _ (holding [Value.ref a] (unpackItems (.ref a) 1 none) >>= _) _ _ _
  refine wpAny_bind (wpAny_holding ?_)
  have hT : s.TypeIs (.ref a) "set" := ⟨_, ho, rfl⟩
  unfold unpackItems notIterableAtAll
  refine wpAny_bind (wpAny_bind (wpAny_specialOf hT PySem.F.slot_set_iter.lookup (wpAny_pure ?_)))
  simp only [Bool.false_eq_true, if_false]
  have hk : ∀ c o, s.heap.get? c = some o → (s.heap.push (setIter 0 0 (.ref a) 1 1)).get? c = some o := fun c o e => Heap.get?_push_of_some _ e
  have hne : a ≠ s.heap.objs.size := Nat.ne_of_lt hlt
  refine wpAny_bind (wpAny_holding (pyIter_set ho (by cases b <;> cases ledOf g.w <;> decide) (by simp) ?_))
  refine wpAny_bind (wpAny_holding ?_)
  unfold draw
  refine wpAny_bind (pyNext_set_one (s := { s with heap := s.heap.push (setIter 0 0 (.ref a) 1 1) }) (b := b) (Heap.get?_push_size _ rfl) (hk _ _ ho) hne fun h1 nn hI1 hnn hk1 => ?_)
  dsimp only
  refine wpAny_bind (wpAny_holding ?_)
  unfold draw
  refine wpAny_pure (wpAny_pure ?_)
  rw [if_neg (by simp)]
  refine wpAny_bind (wpAny_holding (pyNext_set_end (s := { s with heap := h1 }) hA.1 hI1 (hk1 _ _ hne (hk _ _ ho)) hnn fun h2 hk2 => ?_))
  simp only [Option.isSome_none, Bool.false_eq_true, if_false]
  refine wpAny_pure ?_
  have kk : ∀ c o, s.heap.get? c = some o → h2.get? c = some o := fun c o e => by
    have hc : c ≠ s.heap.objs.size := Nat.ne_of_lt (Heap.lt_size e)
    exact hk2 c o hc (hk1 c o hc (hk c o e))
  have T : StepG g W β H s β H { s with heap := h2, toks := s.toks } := Step.grow S kk
  have T0 : StepG g [] β H s β H { s with heap := h2, toks := s.toks } := Step.grow S kk
  show wpAny _ _ (assignInOrder [PySem.assign t env] [.bool b]) _ _ _
  show wpAny g.M A (do holding [] (PySem.assign t env (.bool b)); assignInOrder [] []) _ _ _
  refine wpAny_bind (wpAny_holding (wpAny_mono (h A β _ (.bool b) hA T.sim (F.step T0) rfl) (fun _ s3 h3 => ?_) fun _ _ x => x))
  exact wpAny_pure (h3.after S T)
end
end Mine

namespace Mine

/-! order of lists of texts -/
theorem str_ext {x y : Str} (h : x.cps.toList = y.cps.toList) : x = y := by cases x; cases y; simp at h; rw [h]
theorem ltL_asymm : ∀ {a b : List Str}, ltL a b = true → ltL b a = false
  | [], [], h => by simp [ltL] at h
  | [], _ :: _, _ => rfl
  | _ :: _, [], h => by simp [ltL] at h
  | x :: a, y :: b, h => by
    rw [ltL] at h ⊢
    by_cases e : x = y
    · subst e
      simp only [beq_self_eq_true, if_true] at h ⊢
      exact ltL_asymm h
    · rw [if_neg (by simpa using e)] at h
      rw [if_neg (by simpa using Ne.symm e)]
      simp only [decide_eq_true_eq, decide_eq_false_iff_not] at h ⊢
      exact List.lt_asymm h
theorem ltL_total : ∀ {a b : List Str}, ltL a b = false → ltL b a = false → a = b
  | [], [], _, _ => rfl
  | [], _ :: _, h, _ => by simp [ltL] at h
  | _ :: _, [], _, h => by simp [ltL] at h
  | x :: a, y :: b, h, h' => by
    rw [ltL] at h h'
    by_cases e : x = y
    · subst e
      simp only [beq_self_eq_true, if_true] at h h'
      rw [ltL_total h h']
    · rw [if_neg (by simpa using e)] at h
      rw [if_neg (by simpa using Ne.symm e)] at h'
      simp only [decide_eq_false_iff_not] at h h'
      exact absurd (str_ext (List.le_antisymm h' h)) e
theorem ltL_next : ∀ (i : Nat) {a b : List Str}, ltL b a = false → a.take i = b.take i → i < a.length → i < b.length
  | 0, x :: a, [], h, _, _ => by simp [ltL] at h
  | 0, _ :: _, _ :: _, _, _, _ => by simp
  | _, [], _, _, _, hi => by simp at hi
  | i + 1, x :: a, [], h, _, _ => by simp [ltL] at h
  | i + 1, x :: a, y :: b, h, ht, hi => by
    simp only [List.take_succ_cons, List.cons.injEq] at ht
    obtain ⟨rfl, ht⟩ := ht
    rw [ltL] at h
    simp only [beq_self_eq_true, if_true] at h
    have := ltL_next i h ht (by simpa using hi)
    simpa using this
theorem sharedP_comm : ∀ a b : List Str, sharedP a b = sharedP b a
  | [], [] => rfl
  | [], _ :: _ => rfl
  | _ :: _, [] => rfl
  | x :: a, y :: b => by
    rw [sharedP, sharedP]
    by_cases e : x = y
    · subst e
      simp [sharedP_comm a b]
    · rw [if_neg (by simpa using e), if_neg (by simpa using Ne.symm e)]
theorem sharedP_self : ∀ a : List Str, sharedP a a = a
  | [] => rfl
  | x :: a => by rw [sharedP]; simp [sharedP_self a]

section
variable {g : Cfg} {k : Nat} {W β β' : List Addr} {env : Env} {ρ : Rho} {H H' : List Cell} {s s' : Shared} {names : List (Str × NameKind)}

theorem WS.mono {st : Stmt} {Q Q' : AF → Rho → List Cell → Prop} (h : WS g k W env st ρ H Q) (hq : ∀ a ρ' H', Q a ρ' H' → Q' a ρ' H') : WS g k W env st ρ H Q' :=
  fun A β s a b c => wpAny_mono (h A β s a b c) (fun _ _ x => x.mono hq) fun _ _ x => x

noncomputable def freeIn (scope : Scope) (names : List (Str × NameKind)) : Bool := scope.names.all fun p => p.2 != .free || decide (names.lookup p.1 = some .cell) || decide (names.lookup p.1 = some .free)
theorem freeIn.reach {scope : Scope} (h : freeIn scope names = true) (hE : EOk names env) : ∀ n, (n, NameKind.free) ∈ scope.names → Reach env n := fun n hm => by
  have := List.all_eq_true.mp h _ hm
  simp only [bne_self_eq_false, Bool.false_or, Bool.or_eq_true, decide_eq_true_eq] at this
  exact hE.far n this

/-- a comprehension; what its frame knows is told by the scope -/
theorem WE.compE (hE : EOk names env) {elt iter : Expr} {x : Str} {px : Pos} {ifs : List Expr} {scope : Scope} {pos : Pos} {Q : PV → List Cell → Prop} (J : List PV → List PV → List Cell → Prop)
    (h0 : ρ.lookup (".0" : Str) = none)
    (hit : WE g k env iter ρ H (fun p H1 => Ex3 fun n c xs => And5 (p = .loc n) (H1[n]? = some c) (cellItems c = some xs) (xs.length ≤ 100000) (J xs [] H1)))
    (turn : ∀ y rest acc H2, J (y :: rest) acc H2 → ∀ cenv, EOk scope.names cenv → WIfs g k cenv ifs ((x, y) :: ρ) H2 (fun b H3 => if b then WE g k cenv elt ((x, y) :: ρ) H3 (fun p H4 => J rest (acc ++ [p]) H4) else J rest acc H3))
    (fin : ∀ acc H2, J [] acc H2 → acc.length ≤ 100000 → Q (.loc H2.length) (H2 ++ [.list acc]))
    (hfree : freeIn scope names = true := by rfl) (hcell : (scope.names.all fun p => p.2 != .cell) = true := by rfl)
    (hkind : scope.kind = .function := by rfl) (hn : compNames x scope.names = true := by rfl) (hx : scope.names.lookup x = some .local := by rfl) (hx0 : x ≠ (".0" : Str) := by decide)
    (hs : ∀ x, foldedSetIterable iter env x = pure x := by intro _; rfl) :
    WE g k env (.ListComp elt [⟨.Name x px, iter, ifs, 0⟩] scope pos) ρ H Q :=
  WE.comp J hit (fun y rest acc H2 hj cenv hc => turn y rest acc H2 hj cenv (hc.eok hcell)) fin h0 (freeIn.reach hfree hE)
    (fun y hy h => by have := List.all_eq_true.mp hcell y hy; rw [h] at this; simp at this) hkind hn hx hx0 hs
theorem WE.setCompE (hE : EOk names env) {elt iter : Expr} {x : Str} {px : Pos} {scope : Scope} {pos : Pos} {Q : PV → List Cell → Prop} {b : Bool} (J : List PV → List Cell → Prop)
    (h0 : ρ.lookup (".0" : Str) = none)
    (hit : WE g k env iter ρ H (fun p H1 => Ex3 fun n c xs => And6 (p = .loc n) (H1[n]? = some c) (cellItems c = some xs) (xs.length ≤ 100000) (xs ≠ []) (J xs H1)))
    (turn : ∀ y rest H2, J (y :: rest) H2 → ∀ cenv, EOk scope.names cenv → WE g k cenv elt ((x, y) :: ρ) H2 (fun p H4 => p = .bool b ∧ J rest H4))
    (fin : ∀ H2, J [] H2 → Q (.loc H2.length) (H2 ++ [.obj (setOf1 b (ledOf g.w))]))
    (hfree : freeIn scope names = true := by rfl) (hcell : (scope.names.all fun p => p.2 != .cell) = true := by rfl)
    (hkind : scope.kind = .function := by rfl) (hn : compNames x scope.names = true := by rfl) (hx : scope.names.lookup x = some .local := by rfl) (hx0 : x ≠ (".0" : Str) := by decide)
    (hs : ∀ x, foldedSetIterable iter env x = pure x := by intro _; rfl) :
    WE g k env (.SetComp elt [⟨.Name x px, iter, [], 0⟩] scope pos) ρ H Q :=
  WE.setComp J hit (fun y rest H2 hj cenv hc => turn y rest H2 hj cenv (hc.eok hcell)) fin h0 (freeIn.reach hfree hE)
    (fun y hy h => by have := List.all_eq_true.mp hcell y hy; rw [h] at this; simp at this) hkind hn hx hx0 hs

/-- x = [comp] on one line -/
theorem WS.asgComp (hE : FOk names env) {elt iter : Expr} {x : Str} {px : Pos} {ifs : List Expr} {scope : Scope} {pos spos py : Pos} {y : Str} {Q : AF → Rho → List Cell → Prop} (J : List PV → List PV → List Cell → Prop)
    (h0 : ρ.lookup (".0" : Str) = none)
    (hit : WE g k env iter ρ H (fun p H1 => Ex3 fun n c xs => And5 (p = .loc n) (H1[n]? = some c) (cellItems c = some xs) (xs.length ≤ 100000) (J xs [] H1)))
    (turn : ∀ y rest acc H2, J (y :: rest) acc H2 → ∀ cenv, EOk scope.names cenv → WIfs g k cenv ifs ((x, y) :: ρ) H2 (fun b H3 => if b then WE g k cenv elt ((x, y) :: ρ) H3 (fun p H4 => J rest (acc ++ [p]) H4) else J rest acc H3))
    (fin : ∀ acc H2, J [] acc H2 → acc.length ≤ 100000 → Q .next (putR y (.loc H2.length) ρ) (H2 ++ [.list acc]))
    (hk : names.lookup y = some .local := by rfl) (hline : (py.line == pos.line) = true := by rfl) (hsw : (!(scope.names.any fun p => p.1 == y && (p.2 == .local || p.2 == .cell))) = true := by rfl)
    (hfree : freeIn scope names = true := by rfl) (hcell : (scope.names.all fun p => p.2 != .cell) = true := by rfl)
    (hkind : scope.kind = .function := by rfl) (hn : compNames x scope.names = true := by rfl) (hx : scope.names.lookup x = some .local := by rfl) (hx0 : x ≠ (".0" : Str) := by decide)
    (hs : ∀ x, foldedSetIterable iter env x = pure x := by intro _; rfl) :
    WS g k (Wf env) env (.Assign [.Name y py] (.ListComp elt [⟨.Name x px, iter, ifs, 0⟩] scope pos) spos) ρ H Q := by
  intro A β s hA S F
  refine WS.assignComp J hit (fun y rest acc H2 hj cenv hc => turn y rest acc H2 hj cenv (hc.eok hcell)) fin ?_ (hE.eok.loc y hk) (List.mem_cons_self ..) h0 (freeIn.reach hfree hE.eok)
    (fun y hy h => by have := List.all_eq_true.mp hcell y hy; rw [h] at this; simp at this) hkind hn hx hx0 hs A β s hA S F
  show (pure (env.blockKind == .function && env.kindOf y == some .local && py.line == pos.line && !(scope.names.any fun p => p.1 == y && (p.2 == .local || p.2 == .cell))) : Sem Bool) = pure true
  rw [hline, hsw, hE.eok.loc y hk]
  simp [Env.blockKind, F.fn, ScopeKind.isAnnotationScope]

/-- lists of texts that nobody changes -/
noncomputable def FLs (H : List Cell) : List PV → List (List Str) → Prop
  | [], [] => True
  | p :: ps, l :: ls => (∃ n, p = .loc n ∧ H[n]? = some (.flist (l.map .str))) ∧ FLs H ps ls
  | _, _ => False
theorem FLs.fm {H H' : List Cell} (h : FM H H') : ∀ {ps : List PV} {rs : List (List Str)}, FLs H ps rs → FLs H' ps rs
  | [], [], _ => trivial
  | _ :: _, _ :: _, ⟨⟨n, e, h1⟩, r⟩ => ⟨⟨n, e, h n _ h1 rfl⟩, r.fm h⟩
  | [], _ :: _, x => x.elim
  | _ :: _, [], x => x.elim
theorem FLs.snoc {H : List Cell} {p : PV} {b : List Str} (hp : ∃ n, p = .loc n ∧ H[n]? = some (.flist (b.map .str))) : ∀ {ps : List PV} {rs : List (List Str)}, FLs H ps rs → FLs H (ps ++ [p]) (rs ++ [b])
  | [], [], _ => ⟨hp, trivial⟩
  | _ :: _, _ :: _, ⟨a, r⟩ => ⟨a, r.snoc hp⟩
  | [], _ :: _, x => x.elim
  | _ :: _, [], x => x.elim
theorem FLs.len {H : List Cell} : ∀ {ps : List PV} {rs : List (List Str)}, FLs H ps rs → ps.length = rs.length
  | [], [], _ => rfl
  | _ :: _, _ :: _, ⟨_, r⟩ => by simp [r.len]
  | [], _ :: _, x => x.elim
  | _ :: _, [], x => x.elim
theorem WE.freezeNew {e : Expr} {Q : PV → List Cell → Prop} (h : WE g k env e ρ H (fun p H' => Ex2 fun H2 xs => And3 (p = .loc H2.length) (H' = H2 ++ [.list xs]) (Q (.loc H2.length) (H2 ++ [.flist xs])))) : WE g k env e ρ H Q :=
  WE.freeze (h.mono fun p H' ⟨H2, xs, e1, e2, q⟩ => ⟨H2.length, xs, by rw [e2]; simp, by
    have : (H2 ++ [Cell.list xs]).set H2.length (Cell.flist xs) = H2 ++ [Cell.flist xs] := by simp
    rw [e1, e2, this]; exact q⟩)
end
end Mine

namespace Mine

noncomputable def isComp (c : Str) : Bool := c.length != 0 && c != "."
noncomputable def comps (z : Str) : List Str := (Txt.split z "/").filter isComp
noncomputable def commonP (x y : Str) : Str := (if Txt.startswith x "/" then "/" else "") ++ Txt.join "/" (sharedP (comps x) (comps y))

theorem sharedP_take : ∀ (c : Nat) {a b : List Str}, a.take c = b.take c → sharedP a b = a.take c ++ sharedP (a.drop c) (b.drop c)
  | 0, _, _, _ => by simp
  | c + 1, [], [], _ => by simp [sharedP]
  | c + 1, [], _ :: _, h => by simp at h
  | c + 1, _ :: _, [], h => by simp at h
  | c + 1, x :: a, y :: b, h => by
    simp only [List.take_succ_cons, List.cons.injEq] at h
    obtain ⟨rfl, h⟩ := h
    rw [sharedP, if_pos (by simp), sharedP_take c h]
    simp

section
variable {g : Cfg} {k : Nat} {W β β' : List Addr} {env : Env} {ρ : Rho} {H H' : List Cell} {s s' : Shared} {names : List (Str × NameKind)}

theorem slice_none0 : Txt.slice ("/" : Str) none (some 0) = ("" : Str) := by kernel_rfl

theorem WIfs.no {P R : List Cell → Prop} (h : P H) : WIfs g k env [] ρ H (fun b H3 => if b then P H3 else R H3) := h
theorem WIfs.one {c : Expr} {Q : Bool → List Cell → Prop} (h : WT g k env c ρ H Q) : WIfs g k env [c] ρ H Q := h

theorem fls2 {H : List Cell} {ps : List PV} {a b : List Str} (h : FLs H ps [a, b]) : ∃ i j, ps = [.loc i, .loc j] ∧ H[i]? = some (.flist (a.map .str)) ∧ H[j]? = some (.flist (b.map .str)) := by
  cases ps with
  | nil => exact h.elim
  | cons p r =>
  cases r with
  | nil => exact h.2.elim
  | cons q r =>
  cases r with
  | cons _ _ => exact h.2.2.elim
  | nil =>
  obtain ⟨⟨i, rfl, hi⟩, ⟨j, rfl, hj⟩, _⟩ := h
  exact ⟨i, j, rfl, hi, hj⟩
set_option maxHeartbeats 2000000 in
theorem c_commonpath (G : Gd g) {n : Nat} {x y : Str} {Q : PV → List Cell → Prop} (hn : H[n]? = some (.list [.str x, .str y]) ∨ H[n]? = some (.flist [.str x, .str y])) (hx : x.length ≤ 90000) (hy : y.length ≤ 90000)
    (hst : Txt.startswith x "/" = Txt.startswith y "/") (hj : JoinOk "/" (sharedP (comps x) (comps y)) = true) (hlen : (commonP x y).length ≤ 99999)
    (h : ∀ H', Ext H H' → Q (.str (commonP x y)) H') : WC g (k + 7) (.ref 278) [.loc n] H Q := by
  refine WC.def (xs := ["paths"]) G rfl rfl rfl (by kernel_rfl) ?_ rfl (by decide) rfl rfl rfl rfl rfl rfl rfl rfl ?_
  · exact vs1 fun _ => rfl
  intro env hF hE
  dsimp only at hF hE
  refine WSS.cons (WS.asg hF (WE.tupleMap G (WE.bi G hE (gn_tuple _) bb_tuple ⟨rfl, WE.bi G hE (gn_map _) bb_map ⟨rfl, WLs.two (WE.glb G hE (gl_fspath _) (WE.l hE rfl ⟨n, [x, y], rfl, hn, by simp, ?_⟩))⟩⟩)))
  obtain ⟨H1, hH1⟩ : ∃ H1, H1 = H ++ [Cell.tup ([x, y].map PV.str)] := ⟨_, rfl⟩
  have hX1 : Ext H H1 := ⟨_, hH1⟩
  have ht : H1[H.length]? = some (.tup [.str x, .str y]) := by rw [hH1]; simp
  rw [← hH1]
  generalize H.length = t at ht ⊢
  clear hH1
  refine CS.next (WSS.cons (WS.ite (WT.not (WT.value (WE.l hE rfl (WT1.tup ht (by simp) ?_))))))
  refine WSS.nil (CS.next ?_)
  refine WSS.cons (WS.ite (WT.value (WE.callB G hE (gn_isinstance _) bb_isinstance (WLs.two (WE.sub (WE.l hE rfl (WE.int (WO2.itemT (p := .str x) ht (by decide) (by decide) rfl (WE.bi G hE (gn_bytes _) bb_bytes (WC.isiBytes (WT1.bool ?_)))))))))))
  refine WSS.cons (WS.asgC hF (WE.strc (CS.next (WSS.cons (WS.asgC hF (WE.strc (CS.next (WSS.nil (CS.next ?_)))))))))
  refine WSS.cons (WS.try_ ?_)
  refine WSS.weak (ρ' := ([("paths", .loc t), ("sep", .str "/"), ("curdir", .str ".")] : Rho)) (SubL.sub ⟨rfl, rfl, rfl, trivial⟩) ?_
  refine WSS.cons (WS.asgComp hF (fun rest acc H' => Ex2 fun dn td : List Str => And4 (rest = td.map .str) (dn ++ td = [x, y]) (FLs H' acc (dn.map fun z => Txt.split z "/")) (Ext H1 H')) rfl (WE.l hE rfl ⟨t, _, [.str x, .str y], rfl, ht, rfl, by simp, [], [x, y], rfl, rfl, trivial, Ext.rfl' _⟩) ?_ ?_)
  · rintro z rest acc H2 ⟨dn, td, e, ed, hF2, hX⟩ cenv hC
    cases td with
    | nil => cases e
    | cons z' td =>
    simp only [List.map_cons, List.cons.injEq] at e
    obtain ⟨rfl, rfl⟩ := e
    have hz : z'.length ≤ 90000 := by
      have : z' ∈ [x, y] := by rw [← ed]; simp
      simp at this; rcases this with rfl | rfl <;> assumption
    refine WIfs.no (WE.freezeNew (WE.meth (WE.l hC rfl ⟨GM.str PySem.F.slot_str_split PySem.F.type_str_split, WLs.one (WE.f hC rfl (WC.split rfl (by omega) (split_small hz) ⟨H2, _, rfl, rfl, dn ++ [z'], td, rfl, by simpa using ed, ?_, hX.more _⟩))⟩)))
    rw [List.map_append]; exact FLs.snoc ⟨H2.length, rfl, by simp⟩ (hF2.fm (FM.app _ _))
  rintro acc H2 ⟨dn, td, e, ed, hF2, hX2⟩ -
  match td, e, ed with
  | _ :: _, e, _ => cases e
  | [], _, ed =>
  rw [List.append_nil] at ed
  subst ed
  refine CS.next (WSS.freezeLast ?_)
  have hsp : (H2 ++ [Cell.flist acc])[H2.length]? = some (.flist acc) := by simp
  have hX3 : Ext H1 (H2 ++ [Cell.flist acc]) := hX2.more _
  have hF3 := hF2.fm (FM.app H2 [Cell.flist acc])
  revert hsp hX3 hF3
  generalize H2 ++ [Cell.flist acc] = H3
  generalize H2.length = sp
  intro hsp hX3 hF3
  clear hF2 hX2 H2
  have ht3 := hX3.get ht
  -- isabs
  refine WSS.cons (WS.try_ ?_)
  refine WSS.cons (WS.assign (WE.setCompE (b := Txt.startswith x "/") hE (fun rest H' => ∃ td : List Str, And3 (rest = td.map .str) (∀ z ∈ td, Txt.startswith z "/" = Txt.startswith x "/") (H' = H3)) rfl (WE.l hE rfl ⟨t, _, [.str x, .str y], rfl, ht3, rfl, by simp, by simp, [x, y], rfl, ?_, rfl⟩) ?_ ?_))
  · intro z hz
    simp only [List.mem_cons, List.not_mem_nil, or_false] at hz
    rcases hz with rfl | rfl
    · rfl
    · exact hst.symm
  · rintro z rest H' ⟨td, e, hz, rfl⟩ cenv hC
    match td, e, hz with
    | [], e, _ => cases e
    | z' :: td, e, hz =>
    simp only [List.map_cons, List.cons.injEq] at e
    obtain ⟨rfl, rfl⟩ := e
    exact WE.meth (WE.l hC rfl ⟨GM.str PySem.F.slot_str_startswith PySem.F.type_str_startswith, WLs.one (WE.f hC rfl (WC.startswith ⟨by rw [hz z' List.mem_cons_self], td, rfl, fun z h => hz z (List.mem_cons_of_mem _ h), rfl⟩))⟩)
  rintro H' ⟨td, e, -, rfl⟩
  obtain ⟨H4, hH4⟩ : ∃ H4, H4 = H' ++ [Cell.obj (setOf1 (Txt.startswith x "/") (ledOf g.w))] := ⟨_, rfl⟩
  have hset : H4[H'.length]? = some (.obj (setOf1 (Txt.startswith x "/") (ledOf g.w))) := by rw [hH4]; simp
  have hX4 : Ext H' H4 := ⟨_, hH4⟩
  rw [← hH4]
  clear hH4
  refine WA.unpackSet1 hset (WA.nm hF (CS.next (WSS.nil (WSS.nil (CS.next ?_)))))
  have hsp4 := hX4.get hsp
  have hF4 := hF3.fm hX4.fm
  have hX14 := hX3.trans hX4
  clear hF3 hsp hset ht3
  -- the parts
  refine WSS.weak (ρ' := ([("sep", .str "/"), ("curdir", .str "."), ("split_paths", .loc sp), ("isabs", .bool (Txt.startswith x "/"))] : Rho)) (SubL.sub ⟨rfl, rfl, rfl, rfl, trivial⟩) ?_
  have hacc : acc.length ≤ 100000 := by rw [hF4.len]; simp
  refine WSS.cons (WS.asgComp hF (fun rest acc2 H' => Ex2 fun dn td : List Str => And4 (FLs H' rest (td.map fun z => Txt.split z "/")) (dn ++ td = [x, y]) (FLs H' acc2 (dn.map comps)) (Ext H4 H')) rfl (WE.l hE rfl ⟨sp, _, acc, rfl, hsp4, rfl, hacc, [], [x, y], hF4, rfl, trivial, Ext.rfl' _⟩) ?_ ?_)
  · rintro z rest acc2 H2 ⟨dn, td, e, ed, hF2, hX⟩ cenv hC
    cases td with
    | nil => exact e.elim
    | cons z' td =>
    obtain ⟨⟨i, e1, hi⟩, e⟩ := e
    subst e1
    have hz : z'.length ≤ 90000 := by
      have : z' ∈ [x, y] := by rw [← ed]; simp
      simp at this; rcases this with rfl | rfl <;> assumption
    refine WIfs.no (WE.freezeNew (WE.compE hC (fun rest acc H' => Ex2 fun dn2 td2 : List Str => And4 (rest = td2.map .str) (dn2 ++ td2 = Txt.split z' "/") (acc = (dn2.filter isComp).map .str) (H' = H2)) rfl (WE.l hC rfl ⟨i, _, _, rfl, hi, rfl, by have := split_len (y := "/") hz; simpa using this, [], Txt.split z' "/", rfl, rfl, rfl, rfl⟩) ?_ ?_))
    · rintro c rest2 acc3 H5 ⟨dn2, td2, e2, ed2, rfl, rfl⟩ cenv2 hC2
      cases td2 with
      | nil => cases e2
      | cons c' td2 =>
      simp only [List.map_cons, List.cons.injEq] at e2
      obtain ⟨rfl, rfl⟩ := e2
      have hc' : c'.length ≤ 100000 := by
        have := split_le (x := z') (y := "/") (p := c') (by rw [← ed2]; simp)
        omega
      refine WIfs.one (WT.bool (WAll.consA (WT.value (WE.l hC2 rfl (WT1.str hc' (ite_b (fun h1 => ?_) (fun h1 => ?_)))))))
      · refine WAll.consA (WT.cmp (WE.l hC2 rfl (WE.f hC2 rfl (WO2.neS ⟨_, rfl, ite_b (fun h2 => WAll.nilA ?_) (fun h2 => ?_)⟩))))
        · refine WE.l hC2 rfl ⟨dn2 ++ [c'], td2, rfl, by simpa using ed2, ?_, rfl⟩
          have : isComp c' = true := by rw [isComp, h1, h2]; rfl
          simp [this]
        · refine ⟨dn2 ++ [c'], td2, rfl, by simpa using ed2, ?_, rfl⟩
          have : isComp c' = false := by rw [isComp, h1, h2]; rfl
          simp [this]
      · refine ⟨dn2 ++ [c'], td2, rfl, by simpa using ed2, ?_, rfl⟩
        have : isComp c' = false := by rw [isComp, h1]; rfl
        simp [this]
    · rintro acc3 H5 ⟨dn2, td2, e2, ed2, rfl, rfl⟩ -
      cases td2 with
      | cons _ _ => cases e2
      | nil =>
      rw [List.append_nil] at ed2
      subst ed2
      refine ⟨H5, _, rfl, rfl, dn ++ [z'], td, e.fm (FM.app _ _), by simpa using ed, ?_, hX.more _⟩
      rw [List.map_append]
      exact FLs.snoc ⟨H5.length, rfl, by simp [comps]⟩ (hF2.fm (FM.app _ _))
  rintro acc2 H2 ⟨dn, td, e, ed, hF2, hX2⟩ -
  match td, e, ed with
  | z :: td, e, _ => exact e.elim
  | [], _, ed =>
  rw [List.append_nil] at ed
  subst ed
  obtain ⟨i1, i2, rfl, hi1, hi2⟩ := fls2 hF2
  refine CS.next (WSS.freezeLast ?_)
  obtain ⟨H5, hH5⟩ : ∃ H5, H5 = H2 ++ [Cell.flist [.loc i1, .loc i2]] := ⟨_, rfl⟩
  have hq : H5[H2.length]? = some (.flist [.loc i1, .loc i2]) := by rw [hH5]; simp
  have hX5 : Ext H2 H5 := ⟨_, hH5⟩
  rw [← hH5]
  clear hH5
  generalize H2.length = q at hq ⊢
  have h51 := hX5.get hi1
  have h52 := hX5.get hi2
  have hXH : Ext H H5 := ((hX1.trans hX14).trans hX2).trans hX5
  clear hX5 hi1 hi2 hX2 hX14 hX4 hX3 hX1 hF4 hsp4 ht hn
  have lcx : (comps x).length ≤ 100000 := Nat.le_trans (List.length_filter_le _ _) (split_len hx)
  have lcy : (comps y).length ≤ 100000 := Nat.le_trans (List.length_filter_le _ _) (split_len hy)
  have pick : ∃ i j a b, (if ltL (comps y) (comps x) then PV.loc i2 else .loc i1) = .loc i ∧ (if ltL (comps x) (comps y) then PV.loc i2 else .loc i1) = .loc j ∧ H5[i]? = some (.flist (a.map .str)) ∧ H5[j]? = some (.flist (b.map .str)) ∧ ltL b a = false ∧
      sharedP a b = sharedP (comps x) (comps y) ∧ a.length ≤ 100000 := by
    cases h1 : ltL (comps y) (comps x) with
    | true =>
      have h2 := ltL_asymm h1
      rw [h2]
      exact ⟨i2, i1, comps y, comps x, rfl, rfl, h52, h51, h2, sharedP_comm _ _, lcy⟩
    | false =>
      cases h2 : ltL (comps x) (comps y) with
      | true => exact ⟨i1, i2, comps x, comps y, rfl, rfl, h51, h52, h1, rfl, lcx⟩
      | false =>
        have e := ltL_total h1 h2
        refine ⟨i1, i1, comps x, comps x, rfl, rfl, h51, h51, ?_, by rw [e], lcx⟩
        rw [e] at h1; exact h1
  obtain ⟨i, j, a, b, e1, e2, ha, hb, hab, hsh, hal⟩ := pick
  refine WSS.cons (WS.asg hF (WE.callB G hE (gn_min _) bb_min (WLs.one (WE.l hE rfl (WC.minL (.inr hq) (.inr h51) (.inr h52) ?_)))))
  rw [e1]
  refine CS.next (WSS.cons (WS.asg hF (WE.callB G hE (gn_max _) bb_max (WLs.one (WE.l hE rfl (WC.maxL (.inr hq) (.inr h51) (.inr h52) ?_))))))
  rw [e2]
  refine CS.next (WSS.cons (WS.asg hF (WE.l hE rfl (CS.next ?_))))
  clear e1 e2 h51 h52 hq
  refine WSS.weak (ρ' := ([("sep", .str "/"), ("isabs", .bool (Txt.startswith x "/")), ("s1", .loc i), ("s2", .loc j), ("common", .loc i)] : Rho)) (SubL.sub ⟨rfl, rfl, rfl, rfl, rfl, trivial⟩) ?_
  refine WSS.cons (WS.mono (Q := fun af ρ' H' => af = .next ∧ ∃ m, And3 (H'[m]? = some (.list ((sharedP a b).map .str)) ∨ H'[m]? = some (.flist ((sharedP a b).map .str))) (Ext H5 H') (SubL ([("sep", .str "/"), ("isabs", .bool (Txt.startswith x "/")), ("common", .loc m)] : Rho) ρ')) ?_ ?_)
  · refine WS.forTW (fun xss ρ' H' => ∃ c : Nat, And5 (c ≤ a.length) (xss = enumPs c ((a.drop c).map .str)) (a.take c = b.take c) (H' = H5) (ρ' = ([("sep", .str "/"), ("isabs", .bool (Txt.startswith x "/")), ("s1", .loc i), ("s2", .loc j), ("common", .loc i)] : Rho))) ?_ ?_ ?_
    · exact WItT.enumL (WE.bi G hE (gn_enumerate _) bb_enumerate ⟨rfl, WLs.one (WE.l hE rfl ⟨i, _, rfl, ha, Up.mk ⟨0, Nat.zero_le _, rfl, rfl, rfl, rfl⟩ ⟨rfl, rfl, rfl, rfl, rfl, trivial⟩⟩)⟩)
    · rintro xs rest ρ' H' ⟨c, hc, e, htk, rfl, rfl⟩
      by_cases hlt : c < a.length
      case neg =>
        rw [List.drop_eq_nil_of_le (by omega)] at e
        cases e
      have hb' := ltL_next c hab htk hlt
      rw [List.drop_eq_getElem_cons hlt, List.map_cons, enumPs] at e
      simp only [List.cons.injEq] at e
      obtain ⟨rfl, rfl⟩ := e
      refine ⟨rfl, WA.nm hF (WA.nm hF ?_)⟩
      have hbc : (b.map PV.str)[((c : Int)).toNat]? = some (.str b[c]) := by simp [List.getElem?_eq_getElem hb']
      refine WSS.cons (WS.ite (WT.cmp (WE.l hE rfl (WE.sub (WE.l hE rfl (WE.l hE rfl (WO2.itemL (p := .str b[c]) (.inr hb) (by omega) (by omega) hbc (WO2.neS ⟨_, rfl, ite_b (fun h1 => ?_) (fun h1 => ?_)⟩))))))))
      · have eS : sharedP a b = a.take c := by
          rw [sharedP_take c htk, List.drop_eq_getElem_cons hlt, List.drop_eq_getElem_cons hb', sharedP, if_neg (by simpa using h1), List.append_nil]
        refine WSS.cons (WS.asg hF (WE.sliceL (WE.l hE rfl (WPt.no (WPt.so (WE.l hE rfl ⟨(c : Int), rfl, i, a.map .str, rfl, .inr ha, by simpa using hal, ?_⟩))))))
        have eT : ((a.map PV.str).drop 0).take ((clipAt (a.map PV.str).length (c : Int)) - 0) = (a.take c).map .str := by
          rw [List.length_map, clip_nat hc, List.drop_zero, Nat.sub_zero, List.map_take]
        simp only [Option.elim]
        rw [eT]
        refine CS.next (WSS.cons (WS.brk (CS.brk (CS.brk (LQ.brk ⟨rfl, H'.length, .inl ?_, (Ext.rfl' _).more _, rfl, rfl, rfl, trivial⟩)))))
        rw [eS]; simp
      · have h1' : a[c] = b[c] := by simpa using h1
        refine WSS.nil (CS.next (WSS.nil (LQ.next (Up.mk ⟨c + 1, hlt, rfl, ?_, rfl, rfl⟩ ⟨rfl, rfl, rfl, rfl, rfl, trivial⟩))))
        rw [List.take_succ_eq_append_getElem hlt, List.take_succ_eq_append_getElem hb', htk, h1']
    · rintro ρ' H' ⟨c, hc, e, htk, rfl, rfl⟩
      by_cases hlt : c < a.length
      · rw [List.drop_eq_getElem_cons hlt, List.map_cons, enumPs] at e
        cases e
      have hca : c = a.length := by omega
      refine WSS.nil ⟨rfl, i, .inr ?_, Ext.rfl' _, rfl, rfl, rfl, trivial⟩
      have eS : sharedP a b = a := by
        rw [sharedP_take c htk, hca, List.take_length, List.drop_length]
        simp [sharedP]
      rw [eS]; exact ha
  rintro af ρ' H' ⟨rfl, m, hm, hX, hs⟩
  rw [hsh] at hm
  refine CS.next (WSS.weak hs.sub ?_)
  have hend := h _ (hXH.trans hX)
  refine WSS.cons (WS.asg hF (WE.ifexp (WT.value (WE.l hE rfl (WT1.bool (ite_b (fun h1 => ?_) (fun h1 => ?_)))))))
  · rw [commonP, h1] at hend hlen
    refine WE.f hE rfl (CS.next ?_)
    refine WSS.cons (WS.ret (WE.binop (WE.l hE rfl (WE.meth (WE.f hE rfl ⟨GM.str PySem.F.slot_str_join PySem.F.type_str_join, WLs.one (WE.l hE rfl (WC.join hm hj (WO2.addS (Nat.le_trans hlen (by decide)) (CS.ret (RQ hend)))))⟩)))))
  · rw [commonP, h1] at hend hlen
    refine WE.sliceS (WE.f hE rfl (WPt.no (WPt.so (WE.int ⟨_, rfl, "/", rfl, by decide, ?_⟩))))
    rw [slice_none0]
    refine CS.next (WSS.cons (WS.ret (WE.binop (WE.l hE rfl (WE.meth (WE.f hE rfl ⟨GM.str PySem.F.slot_str_join PySem.F.type_str_join, WLs.one (WE.l hE rfl (WC.join hm hj (WO2.addS (Nat.le_trans hlen (by decide)) (CS.ret (RQ hend)))))⟩))))))
end
end Mine

namespace Mine

noncomputable def lowHit (b c : Bd) : Bool := commonP b.1 c.1 == c.1 && c.2.2.2 != b.2.2.2
noncomputable def topsP (bds : List Bd) : List Bd := bds.filter fun b => !(bds.any (lowHit b))
structure PairOk (base : Str) (b c : Bd) : Prop where
  len : b.1.length ≤ 90000
  len' : c.1.length ≤ 90000
  abs : Txt.startswith b.1 "/" = Txt.startswith c.1 "/"
  jok : JoinOk "/" (sharedP (comps b.1) (comps c.1)) = true
  clen : (commonP b.1 c.1).length ≤ 99999
  eq : commonP b.1 c.1 = Txt.join "/" (base :: sharedP b.2.2.2 c.2.2.2)
  jok2 : JoinOk "/" (base :: sharedP b.2.2.2 c.2.2.2) = true
  ok : OkL b.2.2.2 = true
  ok' : OkL c.2.2.2 = true
  wl : b.2.2.2.length ≤ 1000

section
variable {g : Cfg} {k : Nat} {W β β' : List Addr} {env : Env} {ρ : Rho} {H H' : List Cell} {s s' : Shared} {names : List (Str × NameKind)}

theorem sharedP_len : ∀ a b : List Str, (sharedP a b).length ≤ a.length
  | [], _ => by simp [sharedP]
  | _ :: _, [] => by simp [sharedP]
  | x :: a, y :: b => by
    rw [sharedP]
    split
    · simpa using sharedP_len a b
    · simp

noncomputable def rho11_0 (r : Nat) (base : Str) (H : List Cell) : Rho := [("barred", .loc r), ("base", .str base), ("tops", .loc H.length)]
noncomputable def rho11_2 (r : Nat) (base : Str) (H : List Cell) (n : Nat) (low : Bool) : Rho := [("barred", .loc r), ("base", .str base), ("tops", .loc H.length), ("one", .loc n), ("lower", .bool low)]
set_option maxHeartbeats 2000000 in
theorem c_tops (G : Gd g) {r : Nat} {base : Str} {ps : List PV} {bds : List Bd} {Q : PV → List Cell → Prop} (hr : H[r]? = some (.flist ps)) (hR : BdsAt H ps bds) (hpl : ps.length ≤ 500)
    (hok : ∀ b ∈ bds, ∀ c ∈ bds, PairOk base b c)
    (h : ∀ H' T qs, Ext H H' → H'[T]? = some (.flist qs) → BdsAt H' qs (topsP bds) → qs.length ≤ 1000 → Q (.loc T) H') : WC g (k + 8) (.ref 325) [.loc r, .str base] H Q := by
  refine WC.def (xs := ["barred", "base"]) G rfl rfl rfl (by kernel_rfl) ?_ rfl (by decide) rfl rfl rfl rfl rfl rfl rfl rfl ?_
  · exact vs2 fun _ _ => rfl
  intro env hF hE
  dsimp only at hF hE
  refine WSS.cons (WS.asg hF (WE.list (WLs.nil ⟨by simp, CS.next ?_⟩)))
  refine WSS.cons (WS.forW (fun rest ρ' H' => Ex3 fun (rs ts : List Bd) (qs : List PV) => And8 (BdsAt H' rest rs) (∀ b ∈ rs, b ∈ bds) (ts ++ rs.filter (fun b => !(bds.any (lowHit b))) = topsP bds) (H'[H.length]? = some (.list qs)) (BdsAt H' qs ts) (qs.length + rs.length ≤ 500) (Ext H H') (ρ' = (rho11_0 r base H))) ?_ ?_ ?_)
  · refine WE.l hE rfl ⟨r, .flist ps, ps, rfl, get_app hr _, rfl, by omega, Up.mk ⟨bds, [], [], hR.fm (FM.app _ _), fun _ h => h, rfl, by simp, trivial, by simpa [← hR.len] using hpl, (Ext.rfl' H).more _, rfl⟩ ⟨rfl, rfl, rfl, trivial⟩⟩
  · rintro x rest ρ' H1 ⟨rs, ts, qs, hRs, hmem, hts, hT, hB, hlen, hX, rfl⟩
    cases rs with
    | nil => exact hRs.elim
    | cons b rs =>
    obtain ⟨⟨n, w, e, hn, hw⟩, hRs⟩ := hRs
    subst e
    have hb : b ∈ bds := hmem b List.mem_cons_self
    refine WA.nm hF ?_
    refine WSS.cons (WS.asg hF (WE.boolc (CS.next ?_)))
    refine WSS.cons (WS.mono (Q := fun af ρ' H' => af = .next ∧ Ext H1 H' ∧ SubL (rho11_2 r base H n (bds.any (lowHit b))) ρ') ?_ ?_)
    · refine WS.forW (fun rest ρ' H' => Ex2 fun (rs : List Bd) (low : Bool) => And5 (BdsAt H' rest rs) (∀ b ∈ rs, b ∈ bds) ((low || rs.any (lowHit b)) = bds.any (lowHit b)) (Ext H1 H') (ρ' = (rho11_2 r base H n low))) ?_ ?_ ?_
      · refine WE.l hE rfl ⟨r, .flist ps, ps, rfl, hX.get hr, rfl, by omega, Up.mk ⟨bds, false, hR.fm hX.fm, fun _ h => h, by simp, Ext.rfl' _, rfl⟩ ⟨rfl, rfl, rfl, rfl, rfl, trivial⟩⟩
      · rintro x rest2 ρ' H2 ⟨rs2, low, hR2, hmem2, hlow, hX2, rfl⟩
        cases rs2 with
        | nil => exact hR2.elim
        | cons c rs2 =>
        obtain ⟨⟨m, v, e, hm, hv⟩, hR2⟩ := hR2
        subst e
        have hc : c ∈ bds := hmem2 c List.mem_cons_self
        obtain ⟨ok1, ok2, ok3, ok4, ok5, ok6, ok7, ok8, ok9, ok10⟩ := hok b hb c hc
        have hn2 := hX2.get hn
        have hw2 := hX2.get hw
        refine WA.nm hF ?_
        refine WSS.cons (WS.asg hF (WE.callK G hE (gl_commonpath _) (kp_278 _) (WLs.one (WE.list ?_))))
        refine WLs.cons (WE.sub (WE.l hE rfl (WE.int (WO2.itemL (p := .str b.1) (.inr hn2) (by decide) (by decide) rfl ?_))))
        refine WLs.cons (WE.sub (WE.l hE rfl (WE.int (WO2.itemL (p := .str c.1) (.inr hm) (by decide) (by decide) rfl (WLs.nil ⟨by simp, ?_⟩)))))
        refine c_commonpath G (n := H2.length) (.inl (by simp)) ok1 ok2 ok3 ok4 ok5 fun H3 hX3 => ?_
        have hX23 : Ext H2 H3 := ((Ext.rfl' _).more _).trans hX3
        clear hX3
        have hn3 := hX23.get hn2
        have hm3 := hX23.get hm
        have hw3 := hX23.get hw2
        have hv3 := hX23.get hv
        refine CS.next ?_
        rw [ok6]
        refine WSS.cons (WS.ite (WT.cmp (WE.l hE rfl ?_)))
        with_reducible apply WE.meth
        case he => rfl
        case hp => rfl
        refine WE.strc ⟨GM.str PySem.F.slot_str_join PySem.F.type_str_join, WLs.one (WE.binop (WE.list (WLs.one (WE.l hE rfl ⟨by simp, ?_⟩))))⟩
        have hX34 : Ext H3 (H3 ++ [Cell.list [PV.str base]]) := (Ext.rfl' _).more _
        refine WE.callK G hE (gl__law_shared _) (kp_318 _) ?_
        refine WLs.cons (WE.sub (WE.l hE rfl (WE.int (WO2.itemL (p := .loc w) (.inr (hX34.get hn3)) (by decide) (by decide) rfl ?_))))
        refine WLs.cons (WE.sub (WE.l hE rfl (WE.int (WO2.itemL (p := .loc v) (.inr (hX34.get hm3)) (by decide) (by decide) rfl (WLs.nil ?_)))))
        refine c_shared G (hX34.get hw3) (hX34.get hv3) ok10 ?_
        have hsl := sharedP_len b.2.2.2 c.2.2.2
        refine WO2.addL (xs := [.str base]) (ys := (sharedP b.2.2.2 c.2.2.2).map .str) (.inl (get_app (by simp) _)) (.inl (by simp)) (by simp; omega) ?_
        have hjn : ((H3 ++ [Cell.list [PV.str base]] ++ [Cell.list ((sharedP b.2.2.2 c.2.2.2).map PV.str)]) ++ [Cell.list ([PV.str base] ++ (sharedP b.2.2.2 c.2.2.2).map PV.str)])[(H3 ++ [Cell.list [PV.str base]] ++ [Cell.list ((sharedP b.2.2.2 c.2.2.2).map PV.str)]).length]? = some (.list ((base :: sharedP b.2.2.2 c.2.2.2).map .str)) := by simp
        have hX36 : Ext H3 ((H3 ++ [Cell.list [PV.str base]] ++ [Cell.list ((sharedP b.2.2.2 c.2.2.2).map PV.str)]) ++ [Cell.list ([PV.str base] ++ (sharedP b.2.2.2 c.2.2.2).map PV.str)]) := (hX34.more _).more _
        revert hjn hX36
        generalize ((H3 ++ [Cell.list [PV.str base]] ++ [Cell.list ((sharedP b.2.2.2 c.2.2.2).map PV.str)]) ++ [Cell.list ([PV.str base] ++ (sharedP b.2.2.2 c.2.2.2).map PV.str)]) = H4
        generalize (H3 ++ [Cell.list [PV.str base]] ++ [Cell.list ((sharedP b.2.2.2 c.2.2.2).map PV.str)]).length = z
        intro hjn hX36
        refine WC.join (.inl hjn) ok7 (WO2.neS ⟨_, rfl, ite_b (fun h1 => ?_) (fun _ => ?_)⟩)
        · simp at h1
        refine WSS.nil (CS.next ?_)
        have hn4 := hX36.get hn3
        have hm4 := hX36.get hm3
        have hw4 := hX36.get hw3
        have hv4 := hX36.get hv3
        have next : ∀ ρ3 low3, SubL (rho11_2 r base H n low3) ρ3 → (low3 = (low || lowHit b c)) →
            Up (fun ρ' H' => Ex2 fun (rs : List Bd) (low : Bool) => And5 (BdsAt H' rest2 rs) (∀ b ∈ rs, b ∈ bds) ((low || rs.any (lowHit b)) = bds.any (lowHit b)) (Ext H1 H') (ρ' = (rho11_2 r base H n low))) ρ3 H4 := fun ρ3 low3 hs hl => by
          subst hl
          refine Up.mk ⟨rs2, _, hR2.fm (hX23.trans hX36).fm, fun x hx => hmem2 x (List.mem_cons_of_mem _ hx), ?_, hX2.trans (hX23.trans hX36), rfl⟩ hs
          rw [← hlow, List.any_cons, Bool.or_assoc]
        refine WSS.cons (WS.ite (WT.bool (WAll.consA (WT.cmp (WE.l hE rfl (WE.sub (WE.l hE rfl (WE.int (WO2.itemL (p := .str c.1) (.inr hm4) (by decide) (by decide) rfl (WO2.eqS ⟨_, rfl, ?_⟩))))))))))
        rw [← ok6]
        refine ite_b (fun h1 => ?_) (fun h1 => ?_)
        · refine WAll.consA (WT.cmp (WE.sub (WE.l hE rfl (WE.int (WO2.itemL (p := .loc v) (.inr hm4) (by decide) (by decide) rfl (WE.sub (WE.l hE rfl (WE.int (WO2.itemL (p := .loc w) (.inr hn4) (by decide) (by decide) rfl ?_)))))))))
          refine WO2.neL (.inr hv4) (.inr hw4) ok9 ok8 ⟨_, rfl, ite_b (fun h2 => WAll.nilA ?_) (fun h2 => ?_)⟩
          · refine WSS.cons (WS.asg hF (WE.boolc (CS.next (WSS.nil (CS.next (WSS.nil (LQ.next (next _ true ⟨rfl, rfl, rfl, rfl, rfl, trivial⟩ ?_))))))))
            rw [lowHit, h1]
            simp only [bne, h2, Bool.and_self, Bool.or_true]
          · refine WSS.nil (CS.next (WSS.nil (LQ.next (next _ low ⟨rfl, rfl, rfl, rfl, rfl, trivial⟩ ?_))))
            rw [lowHit]
            simp only [bne, h2, Bool.and_false, Bool.or_false]
        · refine WSS.nil (CS.next (WSS.nil (LQ.next (next _ low ⟨rfl, rfl, rfl, rfl, rfl, trivial⟩ ?_))))
          rw [lowHit, h1]
          simp only [Bool.false_and, Bool.or_false]
      · rintro ρ' H2 ⟨rs2, low, hR2, hmem2, hlow, hX2, rfl⟩
        cases rs2 with
        | cons _ _ => exact hR2.elim
        | nil =>
        simp only [List.any_nil, Bool.or_false] at hlow
        subst hlow
        exact WSS.nil ⟨rfl, hX2, rfl, rfl, rfl, rfl, rfl, trivial⟩
    rintro af ρ' H2 ⟨rfl, hX2, hs⟩
    refine CS.next (WSS.weak hs.sub ?_)
    have hT2 := hX2.get hT
    have hTl : H.length < H2.length := (List.getElem?_eq_some_iff.mp hT2).1
    simp only [List.length_cons] at hlen
    refine WSS.cons (WS.ite (WT.not (WT.value (WE.l hE rfl (WT1.bool ?_)))))
    refine ite_b (fun h1 => ?_) (fun h1 => ?_)
    · rw [List.filter_cons_of_pos (p := fun b => !(bds.any (lowHit b))) h1] at hts
      refine WSS.cons (WS.ex (WE.meth (WE.l hE rfl ⟨GM.append hT2, WLs.one (WE.l hE rfl (WC.append hT2 (by omega) ⟨by simp, by simp, CS.next (WSS.nil (CS.next (WSS.nil (LQ.next ?_))))⟩))⟩)))
      have hfm : FM H2 (H2.set H.length (.list (qs ++ [.loc n]))) := FM.set hT2 rfl
      refine Up.mk ⟨rs, ts ++ [b], qs ++ [.loc n], hRs.fm (hX2.fm.trans hfm), fun x hx => hmem x (List.mem_cons_of_mem _ hx), by rw [← hts]; simp, List.getElem?_set_self hTl, ?_, by simp; omega, (hX.trans hX2).set (Nat.le_refl _) _, rfl⟩ ⟨rfl, rfl, rfl, trivial⟩
      exact BdsAt.snoc ⟨n, w, rfl, hfm _ _ (hX2.get hn) rfl, hfm _ _ (hX2.get hw) rfl⟩ (hB.fm (hX2.fm.trans hfm))
    · rw [List.filter_cons_of_neg (p := fun b => !(bds.any (lowHit b))) (by rw [h1]; decide)] at hts
      exact WSS.nil (CS.next (WSS.nil (LQ.next (Up.mk ⟨rs, ts, qs, hRs.fm hX2.fm, fun x hx => hmem x (List.mem_cons_of_mem _ hx), hts, hT2, hB.fm hX2.fm, by omega, hX.trans hX2, rfl⟩ ⟨rfl, rfl, rfl, trivial⟩))))
  · rintro ρ' H1 ⟨rs, ts, qs, hRs, hmem, hts, hT, hB, hlen, hX, rfl⟩
    cases rs with
    | cons _ _ => exact hRs.elim
    | nil =>
    simp only [List.filter_nil, List.append_nil] at hts
    subst hts
    refine WSS.nil (CS.next (WSS.freeze hT ?_))
    have hTl : H.length < H1.length := (List.getElem?_eq_some_iff.mp hT).1
    exact WSS.cons (WS.ret (WE.l hE rfl (RQ (h _ _ qs (hX.set (Nat.le_refl _) _) (List.getElem?_set_self hTl) (hB.fm (FM.set hT rfl)) (by simp at hlen; omega)))))
end
end Mine

namespace Mine

noncomputable def toggle (u m : Nat) : Nat := if m / u % 2 == 0 then m + u else m - u
noncomputable def updR (ws : List Str) (f : Nat → Nat) (sp : Str) : List Rw → List Rw
  | [] => []
  | r :: rs => if r.1 == ws then (r.1, f r.2.1, sp) :: rs else r :: updR ws f sp rs
noncomputable abbrev Fl := List Str × Str × Str × Str
noncomputable def calleds : List Str := ["c.py", "c.", "d.e.py", "d.e.", "d.py", "d", ".f.py", ".f"]
noncomputable def stems : List Str := ["c", "d.e", "d", ".f"]
noncomputable def calledP (i : Nat) : Str := calleds.getD i "c.py"
noncomputable def stemP (i : Nat) : Str := stems.getD (i / 2) "c"
noncomputable def wayN (base : Str) (v : Nat) : List Str × Str := wayF 3 (v % 8 + v / 128 % 64 * 8) [] base
noncomputable def addR (rows : List Rw) (q : List Str × Str) : List Rw := if (rows.map (·.1)).contains q.1 then rows else rows ++ [(q.1, 16895, q.2)]
noncomputable def wstep (base : Str) (i : Nat) (v : Nat) (st : List Rw × List Fl) : List Rw × List Fl :=
  (updR (wayN base v).1 (toggle (2 ^ (v / 8 % 16))) (wayN base v).2 (addR st.1 (wayN base v)),
    st.2 ++ [((wayN base v).1, joinP (normP (wayN base v).2) (calledP i), calledP i, stemP i)])
noncomputable def worldP (base : Str) : Nat → List Int → List Rw × List Fl → List Rw × List Fl
  | _, [], st => st
  | i, v :: vs, st => worldP base (i + 1) vs (wstep base i v.natAbs st)

/-- rows that may still change, at growing places -/
noncomputable def MRows (H : List Cell) : Nat → List PV → List Rw → Prop
  | _, [], [] => True
  | lo, p :: ps, r :: rs => ∃ n w, (p = .loc n ∧ lo ≤ n ∧ H[n]? = some (.list [.loc w, .int r.2.1, .str r.2.2]) ∧ H[w]? = some (.flist (r.1.map .str))) ∧ MRows H (n + 1) ps rs
  | _, _, _ => False
theorem MRows.mono {H H' : List Cell} (hm : FM H H') : ∀ {lo : Nat} {ps : List PV} {rs : List Rw}, (∀ n, lo ≤ n → ∀ xs, H[n]? = some (.list xs) → H'[n]? = some (.list xs)) → MRows H lo ps rs → MRows H' lo ps rs
  | _, [], [], _, _ => trivial
  | lo, _ :: _, _ :: _, hk, ⟨n, w, ⟨e, hl, h1, h2⟩, r⟩ => ⟨n, w, ⟨e, hl, hk n hl _ h1, hm w _ h2 rfl⟩, MRows.mono hm (fun m hm' xs e => hk m (by omega) xs e) r⟩
  | _, [], _ :: _, _, x => x.elim
  | _, _ :: _, [], _, x => x.elim
theorem MRows.app {H : List Cell} {lo : Nat} {ps : List PV} {rs : List Rw} (h : MRows H lo ps rs) (E : List Cell) : MRows (H ++ E) lo ps rs := h.mono (FM.app H E) fun _ _ _ e => get_app e E
theorem MRows.ext {H H' : List Cell} {lo : Nat} {ps : List PV} {rs : List Rw} (h : MRows H lo ps rs) (hx : Ext H H') : MRows H' lo ps rs := h.mono hx.fm fun _ _ _ e => hx.get e
/-- a store below -/
theorem MRows.below {H : List Cell} {lo n : Nat} {ps : List PV} {rs : List Rw} {xs : List PV} {c : Cell} (h : MRows H lo ps rs) (hn : n < lo) (e : H[n]? = some (.list xs)) : MRows (H.set n c) lo ps rs :=
  h.mono (FM.set e rfl) fun m hm ys e' => by rw [List.getElem?_set_ne (by omega)]; exact e'
theorem MRows.snoc {H : List Cell} {r : Rw} {n w : Nat} (h1 : H[n]? = some (.list [.loc w, .int r.2.1, .str r.2.2])) (h2 : H[w]? = some (.flist (r.1.map .str))) : ∀ {lo : Nat} {ps : List PV} {rs : List Rw}, lo ≤ n → (∀ m ∈ ps, ∀ i, m = .loc i → i < n) → MRows H lo ps rs → MRows H lo (ps ++ [.loc n]) (rs ++ [r])
  | _, [], [], hl, _, _ => ⟨n, w, ⟨rfl, hl, h1, h2⟩, trivial⟩
  | _, p :: _, _ :: _, _, hb, ⟨m, v, ⟨e, h3, h4, h5⟩, t⟩ => ⟨m, v, ⟨e, h3, h4, h5⟩, MRows.snoc h1 h2 (hb p List.mem_cons_self m e) (fun q hq i ei => hb q (List.mem_cons_of_mem _ hq) i ei) t⟩
  | _, [], _ :: _, _, _, x => x.elim
  | _, _ :: _, [], _, _, x => x.elim
theorem MRows.lt {H : List Cell} : ∀ {lo : Nat} {ps : List PV} {rs : List Rw}, MRows H lo ps rs → ∀ m ∈ ps, ∀ i, m = .loc i → i < H.length
  | _, [], [], _ => by simp
  | _, p :: ps, _ :: _, ⟨n, w, ⟨e, _, h1, _⟩, r⟩ => fun m hm i ei => by
    rcases List.mem_cons.mp hm with rfl | hm
    · rw [e] at ei; cases ei; exact (List.getElem?_eq_some_iff.mp h1).1
    · exact r.lt m hm i ei
  | _, [], _ :: _, x => x.elim
  | _, _ :: _, [], x => x.elim

/-- the first row of these words -/
noncomputable def firstR (ws : List Str) : List PV → List Rw → Option PV
  | p :: ps, r :: rs => if r.1 == ws then some p else firstR ws ps rs
  | _, _ => none
theorem MRows.first {H : List Cell} {ws : List Str} {p : PV} : ∀ {lo : Nat} {ps : List PV} {rs : List Rw}, MRows H lo ps rs → firstR ws ps rs = some p →
    ∃ n w m s, p = .loc n ∧ lo ≤ n ∧ H[n]? = some (.list [.loc w, .int (m : Nat), .str s]) ∧ ∀ (f : Nat → Nat) (sp : Str), MRows (H.set n (.list [.loc w, .int ((f m : Nat) : Int), .str sp])) lo ps (updR ws f sp rs)
  | _, [], [], _, h => by simp [firstR] at h
  | lo, q :: ps, r :: rs, ⟨n, w, ⟨e, hl, h1, h2⟩, t⟩, h => by
    subst e
    rw [firstR] at h
    by_cases hr : (r.1 == ws) = true
    · rw [if_pos hr] at h
      cases h
      refine ⟨n, w, r.2.1, r.2.2, rfl, hl, h1, fun f sp => ?_⟩
      rw [updR, if_pos hr]
      have hn : n < H.length := (List.getElem?_eq_some_iff.mp h1).1
      have hnw : n ≠ w := fun hh => by rw [hh, h2] at h1; cases h1
      exact ⟨n, w, ⟨rfl, hl, List.getElem?_set_self hn, by rw [List.getElem?_set_ne hnw]; exact h2⟩, t.below (Nat.lt_succ_self n) h1⟩
    · rw [if_neg hr] at h
      obtain ⟨n2, w2, m, s, e2, hl2, h3, hf⟩ := t.first h
      refine ⟨n2, w2, m, s, e2, by omega, h3, fun f sp => ?_⟩
      rw [updR, if_neg hr]
      have hnn : n2 ≠ n := by omega
      have hnw : n2 ≠ w := fun hh => by rw [hh, h2] at h3; cases h3
      exact ⟨n, w, ⟨rfl, hl, by rw [List.getElem?_set_ne hnn]; exact h1, by rw [List.getElem?_set_ne hnw]; exact h2⟩, hf f sp⟩
  | _, [], _ :: _, x, _ => x.elim
  | _, _ :: _, [], x, _ => x.elim
theorem firstR_some {H : List Cell} {ws : List Str} : ∀ {lo : Nat} {ps : List PV} {rs : List Rw}, MRows H lo ps rs → (rs.map (·.1)).contains ws = true → ∃ p, firstR ws ps rs = some p
  | _, [], [], _, h => by simp at h
  | _, q :: ps, r :: rs, ⟨n, w, _, t⟩, h => by
    rw [firstR]
    by_cases hr : (r.1 == ws) = true
    · exact ⟨q, by rw [if_pos hr]⟩
    · rw [if_neg hr]
      rw [List.map_cons, List.contains_cons, Bool.or_eq_true] at h
      rcases h with h | h
      · exact absurd (by rw [beq_iff_eq] at h ⊢; exact h.symm) hr
      · exact firstR_some t h
  | _, [], _ :: _, x, _ => x.elim
  | _, _ :: _, [], x, _ => x.elim

/-- the files, as the heap bears them -/
noncomputable def FlsAt (H : List Cell) : List PV → List Fl → Prop
  | [], [] => True
  | p :: ps, f :: fs => (∃ n w, p = .loc n ∧ H[n]? = some (.flist [.loc w, .str f.2.1, .str f.2.2.1, .str f.2.2.2]) ∧ H[w]? = some (.flist (f.1.map .str))) ∧ FlsAt H ps fs
  | _, _ => False
theorem FlsAt.fm {H H' : List Cell} (h : FM H H') : ∀ {ps : List PV} {rs : List Fl}, FlsAt H ps rs → FlsAt H' ps rs
  | [], [], _ => trivial
  | _ :: _, _ :: _, ⟨⟨n, w, e, h1, h2⟩, r⟩ => ⟨⟨n, w, e, h n _ h1 rfl, h w _ h2 rfl⟩, r.fm h⟩
  | [], _ :: _, x => x.elim
  | _ :: _, [], x => x.elim
theorem FlsAt.snoc {H : List Cell} {p : PV} {f : Fl} (hp : ∃ n w, p = .loc n ∧ H[n]? = some (.flist [.loc w, .str f.2.1, .str f.2.2.1, .str f.2.2.2]) ∧ H[w]? = some (.flist (f.1.map .str))) :
    ∀ {ps : List PV} {rs : List Fl}, FlsAt H ps rs → FlsAt H (ps ++ [p]) (rs ++ [f])
  | [], [], _ => ⟨hp, trivial⟩
  | _ :: _, _ :: _, ⟨a, r⟩ => ⟨a, r.snoc hp⟩
  | [], _ :: _, x => x.elim
  | _ :: _, [], x => x.elim
theorem FlsAt.len {H : List Cell} : ∀ {ps : List PV} {rs : List Fl}, FlsAt H ps rs → ps.length = rs.length
  | [], [], _ => rfl
  | _ :: _, _ :: _, ⟨_, r⟩ => by simp [r.len]
  | [], _ :: _, x => x.elim
  | _ :: _, [], x => x.elim

section
variable {g : Cfg} {k : Nat} {W β β' : List Addr} {env : Env} {ρ : Rho} {H H' : List Cell} {s s' : Shared} {names : List (Str × NameKind)}
/-- all rows frozen -/
theorem WSS.freezeRows {ss : List Stmt} {Q : AF → Rho → List Cell → Prop} : ∀ {rs : List Rw} {ps : List PV} {lo : Nat} {H : List Cell}, MRows H lo ps rs →
    (∀ H', FM H H' → H'.length = H.length → (∀ i, i < lo → H'[i]? = H[i]?) → RowsAt H' ps rs → WSS g k W env ss ρ H' Q) → WSS g k W env ss ρ H Q
  | [], [], _, H, _, h => h H (FM.refl H) rfl (fun _ _ => rfl) trivial
  | r :: rs, p :: ps, lo, H, ⟨n, w, ⟨e, hl, h1, h2⟩, t⟩, h => by
    have hn : n < H.length := (List.getElem?_eq_some_iff.mp h1).1
    have hfm : FM H (H.set n (.flist [.loc w, .int r.2.1, .str r.2.2])) := FM.set h1 rfl
    refine WSS.freeze h1 (WSS.freezeRows (t.below (Nat.lt_succ_self n) h1) fun H' hm hle hlow hR => ?_)
    refine h H' (hfm.trans hm) (by rw [hle]; simp) (fun i hi => ?_) ⟨⟨n, w, e, hm n _ (List.getElem?_set_self hn) rfl, hm w _ (hfm w _ h2 rfl) rfl⟩, hR⟩
    rw [hlow i (by omega), List.getElem?_set_ne (by omega)]
  | [], _ :: _, _, _, x, _ => x.elim
  | _ :: _, [], _, _, x, _ => x.elim
end
end Mine

namespace Mine

structure WorldOk (base : Str) : Prop where
  bl : base.length ≤ 1000
  ok : ∀ n, n < 512 → OkL (wayF 3 n [] base).1 = true ∧ NormOk (wayF 3 n [] base).2 ∧ (normP (wayF 3 n [] base).2).length ≤ 90000

theorem thaw_back {H : List Cell} {R : Nat} {c c' : Cell} {E : List Cell} (e : H[R]? = some c) : (H.set R c' ++ E).set R c = H ++ E := by
  have hR : R < H.length := (List.getElem?_eq_some_iff.mp e).1
  rw [List.set_append_left _ _ (by simpa using hR), List.set_set]
  congr 1
  apply List.ext_getElem?
  intro i
  by_cases h : i = R
  · subst h; rw [List.getElem?_set_self hR, e]
  · rw [List.getElem?_set_ne (Ne.symm h)]
theorem updR_words (ws : List Str) (f : Nat → Nat) (sp : Str) : ∀ rows : List Rw, (updR ws f sp rows).map (·.1) = rows.map (·.1)
  | [] => rfl
  | r :: rs => by
    rw [updR]
    split
    · rfl
    · rw [List.map_cons, updR_words ws f sp rs, List.map_cons]
theorem calledP_le (i : Nat) : (calledP i).length ≤ 6 := by
  unfold calledP
  by_cases h : i < 8
  · have := i8 h
    rcases this with rfl | rfl | rfl | rfl | rfl | rfl | rfl | rfl <;> decide
  · rw [List.getD_eq_getElem?_getD, List.getElem?_eq_none (by show 8 ≤ i; omega)]; decide
theorem FLs.lls {H : List Cell} : ∀ {ps : List PV} {ls : List (List Str)}, FLs H ps ls → LLs H ps ls
  | [], [], _ => trivial
  | _ :: _, _ :: _, ⟨⟨n, e, h⟩, r⟩ => ⟨⟨n, e, .inr h⟩, r.lls⟩
  | [], _ :: _, x => x.elim
  | _ :: _, [], x => x.elim

section
variable {g : Cfg} {k : Nat} {W β β' : List Addr} {env : Env} {ρ : Rho} {H H' : List Cell} {s s' : Shared} {names : List (Str × NameKind)}

noncomputable def rho12_0 (N : Nat) (base : Str) (R : Nat) : Rho := [("numbers", .loc N), ("base", .str base), ("rows", .loc R), ("files", .loc (R + 1))]
noncomputable def rho12_1 (N : Nat) (base : Str) (R : Nat) (i : Nat) (v : Nat) (w : Nat) (sp : Str) : Rho := [("numbers", .loc N), ("base", .str base), ("rows", .loc R), ("files", .loc (R + 1)), ("n", .int i), ("value", .int v), ("words", .loc w), ("spelled", .str sp)]
noncomputable def rho12_2 (N : Nat) (base : Str) (R : Nat) (i : Nat) (w : Nat) (sp : Str) (n0 : Nat) (u : Nat) : Rho := [("numbers", .loc N), ("base", .str base), ("rows", .loc R), ("files", .loc (R + 1)), ("n", .int i), ("words", .loc w), ("spelled", .str sp), ("row", .loc n0), ("unit", .int u)]
noncomputable def rho12_3 (N : Nat) (base : Str) (R : Nat) (i : Nat) (w : Nat) (sp : Str) (n0 : Nat) : Rho := [("numbers", .loc N), ("base", .str base), ("rows", .loc R), ("files", .loc (R + 1)), ("n", .int i), ("words", .loc w), ("spelled", .str sp), ("row", .loc n0)]
set_option maxHeartbeats 2000000 in
theorem c_world (G : Gd g) {N : Nat} {base : Str} {nums : List Int} {Q : PV → List Cell → Prop} (hN : H[N]? = some (.flist (nums.map .int))) (hl : nums.length ≤ 8) (WO : WorldOk base)
    (h : ∀ H' R F ps qs, Ext H H' → H'[R]? = some (.flist ps) → RowsAt H' ps (worldP base 0 nums ([], [])).1 → H'[F]? = some (.flist qs) → FlsAt H' qs (worldP base 0 nums ([], [])).2 → Q (.loc H'.length) (H' ++ [.tup [.loc R, .loc F]])) :
    WC g (k + 4) (.ref 290) [.loc N, .str base] H Q := by
  refine WC.def (xs := ["numbers", "base"]) G rfl rfl rfl (by kernel_rfl) ?_ rfl (by decide) rfl rfl rfl rfl rfl rfl rfl rfl ?_
  · exact vs2 fun _ _ => rfl
  intro env hF hE
  dsimp only at hF hE
  refine WSS.cons (WS.asg hF (WE.list (WLs.nil ⟨by simp, CS.next ?_⟩)))
  refine WSS.cons (WS.asg hF (WE.list (WLs.nil ⟨by simp, CS.next ?_⟩)))
  obtain ⟨R, hRd⟩ : ∃ R, R = H.length := ⟨_, rfl⟩
  have eFl : (H ++ [Cell.list []]).length = R + 1 := by simp [hRd]
  rw [eFl, ← hRd]
  refine WSS.weak (ρ' := (rho12_0 N base R)) (SubL.sub ⟨rfl, rfl, rfl, rfl, trivial⟩) ?_
  refine WSS.cons (WS.forW (fun rest ρ' H' => Ex5 fun (i : Nat) (rows : List Rw) (files : List Fl) (ps qs : List PV) => And12 (rest = ((List.range nums.length).drop i).map (fun i => .int (Int.ofNat i))) (i ≤ nums.length) (worldP base i (nums.drop i) (rows, files) = worldP base 0 nums ([], [])) (H'[R]? = some (.list ps)) (H'[R + 1]? = some (.list qs)) (MRows H' (R + 2) ps rows) (FlsAt H' qs files) (∀ r ∈ rows, OkL r.1 = true) (ps.length ≤ i) (qs.length ≤ i) (Ext H H') (ρ' = (rho12_0 N base R))) ?_ ?_ ?_)
  · refine WE.callT G hE (gn_range _) bb_range (WLs.one (WE.callB G hE (gn_len _) bb_len (WLs.one (WE.l hE rfl (WC.lenL (.inr (get_app (get_app hN _) _)) (by simp; omega) ?_)))))
    have e1 : (((nums.map PV.int).length : Nat) : Int) = ((nums.length : Nat) : Int) := by simp
    rw [e1]
    refine WC.range ⟨_, .rng nums.length, _, rfl, by simp, rfl, by simp; omega, ?_⟩
    exact Up.mk ⟨0, [], [], [], [], rfl, Nat.zero_le _, rfl, by rw [hRd]; simp, by rw [hRd]; simp, trivial, trivial, by simp, Nat.le_refl _, Nat.le_refl _, (((Ext.rfl' H).more _).more _).more _, rfl⟩ ⟨rfl, rfl, rfl, rfl, trivial⟩
  · rintro x rest ρ' H1 ⟨i, rows, files, ps, qs, e, hi, hW, hR, hFc, hM, hFl, hok, hpl, hql, hX, rfl⟩
    by_cases hlt : i < nums.length
    case neg =>
      rw [List.drop_eq_nil_of_le (by simp; omega)] at e
      cases e
    rw [List.drop_eq_getElem_cons (by simpa using hlt), List.getElem_range, List.map_cons] at e
    simp only [List.cons.injEq] at e
    obtain ⟨rfl, rfl⟩ := e
    rw [List.drop_eq_getElem_cons hlt, worldP] at hW
    have hnum : (nums.map PV.int)[(Int.ofNat i).toNat]? = some (.int nums[i]) := by simp [List.getElem?_eq_getElem hlt]
    refine WA.nm hF ?_
    refine WSS.cons (WS.asg hF (WE.callB G hE (gn_abs _) bb_abs (WLs.one (WE.sub (WE.l hE rfl (WE.l hE rfl (WO2.itemL (p := .int nums[i]) (.inr (hX.get hN)) (Int.natCast_nonneg _) (by simp only [Int.ofNat_eq_natCast]; omega) hnum (WC.abs ?_))))))))
    have eabs : (if nums[i] < 0 then -nums[i] else nums[i]) = ((nums[i].natAbs : Nat) : Int) := by split <;> omega
    rw [eabs]
    clear eabs hnum
    revert hW
    generalize nums[i].natAbs = v
    intro hW
    refine CS.next ?_
    refine WSS.cons (WS.assign (WE.callK G hE (gl__law_way _) (kp_285 _) (WLs.two (WE.binop (WE.binop (WE.l hE rfl (WE.int (WO2.modN (a := v) (b := 8) (by decide) (WE.binop (WE.binop (WE.binop (WE.l hE rfl (WE.int (WO2.divN (a := v) (b := 128) (by decide) (by decide) ?_))))))))))))))
    refine WE.int (WO2.modN (a := v / 128) (b := 64) (by decide) (WE.int (WO2.mulI (WO2.addI ?_) (IntMulOk.of_right (by decide)))))
    have ear : ((v % 8 : Nat) : Int) + ((v / 128 % 64 : Nat) : Int) * 8 = ((v % 8 + v / 128 % 64 * 8 : Nat) : Int) := by push_cast; rfl
    rw [ear]
    have hlt512 : v % 8 + v / 128 % 64 * 8 < 512 := by omega
    obtain ⟨wok, wno, wnl⟩ := WO.ok _ hlt512
    refine WE.l hE rfl (c_way G (m := 3) (Nat.lt_of_lt_of_le hlt512 (by decide)) (by decide) WO.bl fun E w hw => ?_)
    refine WA.unpack (ps := [.loc w, .str (wayF 3 (v % 8 + v / 128 % 64 * 8) [] base).2]) (.inl (by simp)) rfl (WA.nm hF (WA.nm hF (CS.next ?_)))
    obtain ⟨H2, hH2⟩ : ∃ H2, H2 = H1 ++ E ++ [Cell.tup [.loc w, .str (wayF 3 (v % 8 + v / 128 % 64 * 8) [] base).2]] := ⟨_, rfl⟩
    have hw2 := get_app hw [Cell.tup [.loc w, .str (wayF 3 (v % 8 + v / 128 % 64 * 8) [] base).2]]
    rw [← hH2] at hw2 ⊢
    have hX2 : Ext H1 H2 := ⟨E ++ _, by rw [hH2, List.append_assoc]⟩
    clear hH2 hw
    obtain ⟨ws, sp, hq⟩ : ∃ ws sp, wayN base v = (ws, sp) := ⟨_, _, rfl⟩
    have hq' : wayF 3 (v % 8 + v / 128 % 64 * 8) [] base = (ws, sp) := hq
    rw [wstep, hq] at hW
    rw [hq'] at wok wno wnl hw2 ⊢
    dsimp only at hW wok wno wnl hw2 ⊢
    clear hq hq' ear
    have hR2 := hX2.get hR
    have hFc2 := hX2.get hFc
    have hM2 := hM.ext hX2
    have hFl2 := hFl.fm hX2.fm
    have hXH2 := hX.trans hX2
    clear hR hFc hM hFl hX hX2
    refine WSS.weak (ρ' := (rho12_1 N base R i v w sp)) (SubL.sub ⟨rfl, rfl, rfl, rfl, rfl, rfl, rfl, rfl, trivial⟩) ?_
    have hRl : R < H2.length := (List.getElem?_eq_some_iff.mp hR2).1
    have hokL : (rows.map (·.1)).all OkL = true := by
      rw [List.all_eq_true]; intro x hx
      obtain ⟨r, hr, rfl⟩ := List.mem_map.mp hx
      exact hok r hr
    -- if words not in [..]: rows.append(..)
    refine WSS.cons (WS.mono (Q := fun af ρ' H' => af = .next ∧ ∃ ps', And8 (H'[R]? = some (.list ps')) (H'[R + 1]? = some (.list qs)) (MRows H' (R + 2) ps' (addR rows (ws, sp))) (FlsAt H' qs files) (ps'.length ≤ i + 1) (Ext H H') (H'[w]? = some (.flist (ws.map .str))) (SubL (rho12_1 N base R i v w sp) ρ')) ?_ ?_)
    · refine WS.ite (WT.cmp (WE.f hE rfl (WE.thaw hR2 (WE.compE hE (fun rest acc H' => H' = H2.set R (.flist ps) ∧ ∃ lo ds rs, R < lo ∧ rows = ds ++ rs ∧ MRows H2 lo rest rs ∧ FLs H2 acc (ds.map (·.1))) rfl (WE.l hE rfl ⟨R, .flist ps, ps, rfl, List.getElem?_set_self hRl, rfl, by omega, rfl, R + 2, [], rows, by omega, rfl, hM2, trivial⟩) ?_ ?_))))
      · rintro y rest acc H' ⟨rfl, lo, ds, rs, hlo, hds, hMr, hFr⟩ cenv hC
        cases rs with
        | nil => exact hMr.elim
        | cons r rs =>
        obtain ⟨n, w', ⟨e, hl', h1, h2⟩, hMr⟩ := hMr
        subst e
        have hn : (H2.set R (.flist ps))[n]? = some (.list [.loc w', .int r.2.1, .str r.2.2]) := by rw [List.getElem?_set_ne (by omega)]; exact h1
        refine WIfs.no (WE.sub (WE.l hC rfl (WE.int (WO2.itemL (p := .loc w') (.inl hn) (by decide) (by decide) rfl ⟨rfl, n + 1, ds ++ [r], rs, by omega, by rw [hds]; simp, hMr, ?_⟩))))
        rw [List.map_append]
        exact FLs.snoc ⟨w', rfl, h2⟩ hFr
      · rintro acc H' ⟨rfl, lo, ds, rs, hlo, hds, hMr, hFr⟩ hal
        cases rs with
        | cons _ _ => exact hMr.elim
        | nil =>
        rw [List.append_nil] at hds
        subst hds
        rw [thaw_back hR2, List.length_set]
        have hX4 : Ext H2 (H2 ++ [Cell.list acc]) := (Ext.rfl' _).more _
        have hacc : (H2 ++ [Cell.list acc])[H2.length]? = some (.list acc) := by simp
        have hF4 := hFr.fm hX4.fm
        generalize H2.length = z at hacc ⊢
        revert hX4 hacc hF4
        generalize H2 ++ [Cell.list acc] = H4
        intro hX4 hF4 hacc
        have hR4 := hX4.get hR2
        have hFc4 := hX4.get hFc2
        have hM4 := hM2.ext hX4
        have hFl4 := hFl2.fm hX4.fm
        have hw4 := hX4.get hw2
        refine WO2.notInL (x := ws) (ps := acc) (lss := rows.map (·.1)) (.inr hw4) (.inl hacc) hF4.lls wok hokL ⟨_, rfl, ite_b (fun h1 => ?_) (fun h1 => ?_)⟩
        · refine WSS.cons (WS.ex (WE.meth (WE.l hE rfl ⟨GM.append hR4, WLs.one (WE.list (WLs.cons (WE.f hE rfl (WLs.cons (WE.int (WLs.cons (WE.l hE rfl (WLs.nil ⟨by simp, ?_⟩))))))))⟩)))
          have hX5 : Ext H4 (H4 ++ [Cell.list [.loc w, .int 16895, .str sp]]) := (Ext.rfl' _).more _
          have hnew : (H4 ++ [Cell.list [.loc w, .int 16895, .str sp]])[H4.length]? = some (.list [.loc w, .int 16895, .str sp]) := by simp
          have hlow : ∀ m ∈ ps, ∀ i, m = .loc i → i < H4.length := hM4.lt
          have hz4 : R + 2 ≤ H4.length := by
            have := (List.getElem?_eq_some_iff.mp hFc4).1; omega
          generalize H4.length = n4 at hnew hlow hz4 ⊢
          revert hX5 hnew
          generalize H4 ++ [Cell.list [.loc w, .int 16895, .str sp]] = H5
          intro hX5 hnew
          have hR5 := hX5.get hR4
          have hfm : FM H5 (H5.set R (.list (ps ++ [.loc n4]))) := FM.set hR5 rfl
          have hM5 := MRows.snoc (r := (ws, 16895, sp)) hnew (hX5.get hw4) hz4 hlow (hM4.ext hX5)
          refine WC.append hR5 (by omega) ⟨by simp, by simp, CS.next (WSS.nil ⟨rfl, ps ++ [.loc n4], List.getElem?_set_self (List.getElem?_eq_some_iff.mp hR5).1, ?_, ?_, hFl4.fm (hX5.fm.trans hfm), by simp; omega, ((hXH2.trans hX4).trans hX5).set (by omega) _, hfm _ _ (hX5.get hw4) rfl, rfl, rfl, rfl, rfl, rfl, rfl, rfl, rfl, trivial⟩)⟩
          · rw [List.getElem?_set_ne (by omega)]; exact hX5.get hFc4
          · rw [addR, if_neg (by simpa using h1)]
            exact hM5.below (by omega) hR5
        · refine WSS.nil ⟨rfl, ps, hR4, hFc4, ?_, hFl4, by omega, hXH2.trans hX4, hw4, rfl, rfl, rfl, rfl, rfl, rfl, rfl, rfl, trivial⟩
          rw [addR, if_pos (by simpa using h1)]
          exact hM4
    rintro af ρ' H3 ⟨rfl, ps3, hR3, hFc3, hM3, hFl3, hpl3, hX3, hw3, hs⟩
    refine CS.next (WSS.weak hs.sub ?_)
    clear hs hR2 hFc2 hM2 hFl2 hXH2 hRl hw2
    have hok3 : ∀ r ∈ addR rows (ws, sp), OkL r.1 = true := fun r hr => by
      unfold addR at hr
      split at hr
      · exact hok r hr
      · rcases List.mem_append.mp hr with hr | hr
        · exact hok r hr
        · rw [List.mem_singleton.mp hr]; exact wok
    have hcon : ((addR rows (ws, sp)).map (·.1)).contains ws = true := by
      unfold addR
      split
      · assumption
      · simp
    have hRl3 : R < H3.length := (List.getElem?_eq_some_iff.mp hR3).1
    obtain ⟨p0, hp0⟩ := firstR_some hM3 hcon
    obtain ⟨n0, w0, m0, s0, ep0, hn0, hrow, hupd⟩ := hM3.first hp0
    subst ep0
    clear hcon
    generalize addR rows (ws, sp) = rows1 at hW hM3 hok3 hupd hp0
    have hfirst : ∀ (rest : List PV) (acc : List PV) (r : Rw) (p : PV) (rs : List Rw), (r.1 == ws) = true → (acc.head?).or (firstR ws (p :: rest) (r :: rs)) = some (.loc n0) → ((acc ++ [p]).head?).or (firstR ws rest rs) = some (.loc n0) := fun rest acc r p rs hr hh => by
      rw [firstR, if_pos hr] at hh
      cases acc with
      | nil => simpa using hh
      | cons a acc => simpa using hh
    -- row = [..][0]
    refine WSS.cons (WS.asg hF (WE.sub (WE.thaw hR3 (WE.compE hE (fun rest acc H' => H' = H3.set R (.flist ps3) ∧ ∃ lo rs, R < lo ∧ MRows H3 lo rest rs ∧ (acc.head?).or (firstR ws rest rs) = some (.loc n0) ∧ acc.length + rest.length ≤ 100 ∧ ∀ r ∈ rs, OkL r.1 = true) rfl (WE.l hE rfl ⟨R, .flist ps3, ps3, rfl, List.getElem?_set_self hRl3, rfl, by omega, rfl, R + 2, rows1, by omega, hM3, by simpa using hp0, by simp; omega, hok3⟩) ?_ ?_))))
    · rintro y rest acc H' ⟨rfl, lo, rs, hlo, hMr, hfr, hal, hokr⟩ cenv hC
      cases rs with
      | nil => exact hMr.elim
      | cons r rs =>
      obtain ⟨n, w', ⟨e, hl', h1, h2⟩, hMr⟩ := hMr
      subst e
      have hn : (H3.set R (.flist ps3))[n]? = some (.list [.loc w', .int r.2.1, .str r.2.2]) := by rw [List.getElem?_set_ne (by omega)]; exact h1
      have hfm : FM H3 (H3.set R (.flist ps3)) := FM.set hR3 rfl
      simp only [List.length_cons] at hal
      refine WIfs.one (WT.cmp (WE.sub (WE.l hC rfl (WE.int (WO2.itemL (p := .loc w') (.inl hn) (by decide) (by decide) rfl (WE.f hC rfl ?_))))))
      refine WO2.eqL (.inr (hfm _ _ h2 rfl)) (.inr (hfm _ _ hw3 rfl)) (hokr r List.mem_cons_self) wok ⟨_, rfl, ite_b (fun h3 => ?_) (fun h3 => ?_)⟩
      · exact WE.l hC rfl ⟨rfl, n + 1, rs, by omega, hMr, hfirst rest acc r _ rs h3 hfr, by simp; omega, fun r hr => hokr r (List.mem_cons_of_mem _ hr)⟩
      · refine ⟨rfl, n + 1, rs, by omega, hMr, ?_, by omega, fun r hr => hokr r (List.mem_cons_of_mem _ hr)⟩
        rw [firstR, if_neg (by rw [h3]; decide)] at hfr
        exact hfr
    rintro acc H' ⟨rfl, lo, rs, hlo, hMr, hfr, hal, hokr⟩ -
    cases rs with
    | cons _ _ => exact hMr.elim
    | nil =>
    have efr : firstR ws ([] : List PV) [] = none := rfl
    rw [efr, Option.or_none] at hfr
    rw [thaw_back hR3, List.length_set]
    have hX4 : Ext H3 (H3 ++ [Cell.list acc]) := (Ext.rfl' _).more _
    have hacc : (H3 ++ [Cell.list acc])[H3.length]? = some (.list acc) := by simp
    generalize H3.length = z at hacc ⊢
    generalize hH4 : H3 ++ [Cell.list acc] = H4 at hX4 hacc ⊢
    have hupd4 : ∀ (f : Nat → Nat) (sp_1 : Str), MRows (H4.set n0 (Cell.list [PV.loc w0, PV.int ((f m0 : Nat) : Int), PV.str sp_1])) (R + 2) ps3 (updR ws f sp_1 rows1) := fun f sp1 => by
      have := (hupd f sp1).app [Cell.list acc]
      rw [← hH4, List.set_append_left _ _ (List.getElem?_eq_some_iff.mp hrow).1]
      exact this
    have hR4 := hX4.get hR3
    have hFc4 := hX4.get hFc3
    have hFl4 := hFl3.fm hX4.fm
    have hw4 := hX4.get hw3
    have hrow4 := hX4.get hrow
    have hXH4 := hX3.trans hX4
    refine WE.int (WO2.base (WO2.itemL (i := 0) (p := .loc n0) (xs := acc) (.inl hacc) (by decide) (by decide) ?_ (CS.next ?_)))
    · rw [← hfr]; cases acc <;> rfl
    clear hH4 hacc hX4 hfr hMr hokr hal hfirst hR3 hFc3 hFl3 hw3 hrow hX3 hupd hM3 hp0 hRl3
    have hul : v / 8 % 16 < 16 := Nat.mod_lt _ (by decide)
    refine WSS.cons (WS.asg hF (WE.binop (WE.int (WE.binop (WE.binop (WE.l hE rfl (WE.int (WO2.divN (a := v) (b := 8) (by decide) (by decide) (WE.int (WO2.modN (a := v / 8) (b := 16) (by decide) (WO2.powI (Int.natCast_nonneg _) ?_ ?_)))))))))))
    · show (2 : Int) * _ ≤ _
      omega
    have epow : (2 : Int) ^ (((v / 8 % 16 : Nat) : Int)).toNat = ((2 ^ (v / 8 % 16) : Nat) : Int) := by rw [Int.toNat_natCast]; push_cast; rfl
    rw [epow]
    have hu0 : 0 < 2 ^ (v / 8 % 16) := Nat.pow_pos (by decide)
    have hu1 : 2 ^ (v / 8 % 16) < 2 ^ 1000 := Nat.pow_lt_pow_right (by decide) (by omega)
    generalize 2 ^ (v / 8 % 16) = u at hW hu0 hu1 ⊢
    clear epow hul
    refine CS.next (WSS.weak (ρ' := (rho12_2 N base R i w sp n0 u)) (SubL.sub ⟨rfl, rfl, rfl, rfl, rfl, rfl, rfl, rfl, rfl, trivial⟩) ?_)
    -- the bit
    refine WSS.cons (WS.mono (Q := fun af ρ' H' => af = .next ∧ H' = H4.set n0 (.list [.loc w0, .int ((toggle u m0 : Nat) : Int), .str s0]) ∧
      SubL (rho12_3 N base R i w sp n0) ρ') ?_ ?_)
    · refine WS.ite (WT.cmp (WE.binop (WE.binop (WE.sub (WE.l hE rfl (WE.int (WO2.itemL (p := .int m0) (.inl hrow4) (by decide) (by decide) rfl (WE.l hE rfl (WO2.divN (a := m0) (b := u) hu0 hu1 (WE.int (WO2.modN (a := m0 / u) (b := 2) (by decide) (WE.int (WO2.eqI ⟨_, rfl, ite_b (fun h1 => ?_) (fun h1 => ?_)⟩)))))))))))))
      · refine WSS.cons (WS.assign (WE.binop (WE.sub (WE.l hE rfl (WE.int (WO2.itemL (p := .int m0) (.inl hrow4) (by decide) (by decide) rfl (WE.l hE rfl (WO2.addI (WA.item (WE.l hE rfl (WE.int ⟨n0, 1, _, rfl, rfl, hrow4, by decide, by show (1 : Int) < 3; decide, by simp, CS.next (WSS.nil ⟨rfl, ?_, rfl, rfl, rfl, rfl, rfl, rfl, rfl, rfl, trivial⟩)⟩)))))))))))
        have h1' : (m0 / u % 2 == 0) = true := by
          rw [beq_iff_eq] at h1 ⊢; omega
        rw [toggle, if_pos h1']
        rfl
      · refine WSS.cons (WS.assign (WE.binop (WE.sub (WE.l hE rfl (WE.int (WO2.itemL (p := .int m0) (.inl hrow4) (by decide) (by decide) rfl (WE.l hE rfl (WO2.subI (WA.item (WE.l hE rfl (WE.int ⟨n0, 1, _, rfl, rfl, hrow4, by decide, by show (1 : Int) < 3; decide, by simp, CS.next (WSS.nil ⟨rfl, ?_, rfl, rfl, rfl, rfl, rfl, rfl, rfl, rfl, trivial⟩)⟩)))))))))))
        have h1' : (m0 / u % 2 == 0) = false := by
          rw [beq_eq_false_iff_ne] at h1 ⊢; omega
        have hge : u ≤ m0 := by
          rcases Nat.lt_or_ge m0 u with h | h
          · rw [Nat.div_eq_of_lt h] at h1'; simp at h1'
          · exact h
        rw [toggle, if_neg (by rw [h1']; decide)]
        have : ((m0 - u : Nat) : Int) = (m0 : Int) - (u : Int) := by omega
        rw [this]
        rfl
    rintro af ρ' H5 ⟨rfl, rfl, hs⟩
    refine CS.next (WSS.weak hs.sub ?_)
    clear hs
    have hnl : n0 < H4.length := (List.getElem?_eq_some_iff.mp hrow4).1
    have hrow5 : (H4.set n0 (Cell.list [.loc w0, .int ((toggle u m0 : Nat) : Int), .str s0]))[n0]? = some (.list [.loc w0, .int ((toggle u m0 : Nat) : Int), .str s0]) := List.getElem?_set_self hnl
    refine WSS.cons (WS.assign (WE.l hE rfl (WA.item (WE.l hE rfl (WE.int ⟨n0, 2, _, rfl, rfl, hrow5, by decide, by show (2 : Int) < 3; decide, by simp, CS.next ?_⟩)))))
    have eset : ((H4.set n0 (Cell.list [.loc w0, .int ((toggle u m0 : Nat) : Int), .str s0])).set n0 (Cell.list ([PV.loc w0, .int ((toggle u m0 : Nat) : Int), .str s0].set (2 : Int).toNat (.str sp)))) = H4.set n0 (Cell.list [.loc w0, .int ((toggle u m0 : Nat) : Int), .str sp]) := by
      rw [List.set_set]; rfl
    rw [eset]
    have hM6 := hupd4 (toggle u) sp
    have hfm6 : FM H4 (H4.set n0 (Cell.list [.loc w0, .int ((toggle u m0 : Nat) : Int), .str sp])) := FM.set hrow4 rfl
    have hR6 : (H4.set n0 (Cell.list [.loc w0, .int ((toggle u m0 : Nat) : Int), .str sp]))[R]? = some (.list ps3) := by rw [List.getElem?_set_ne (by omega)]; exact hR4
    have hFc6 : (H4.set n0 (Cell.list [.loc w0, .int ((toggle u m0 : Nat) : Int), .str sp]))[R + 1]? = some (.list qs) := by rw [List.getElem?_set_ne (by omega)]; exact hFc4
    have hXH6 : Ext H (H4.set n0 (Cell.list [.loc w0, .int ((toggle u m0 : Nat) : Int), .str sp])) := hXH4.set (by omega) _
    have hFl6 := hFl4.fm hfm6
    have hw6 := hfm6 _ _ hw4 rfl
    clear eset hrow5 hupd4 hrow4 hR4 hFc4 hXH4 hFl4 hw4 hnl hfm6
    revert hM6 hR6 hFc6 hXH6 hFl6 hw6
    generalize H4.set n0 (Cell.list [.loc w0, .int ((toggle u m0 : Nat) : Int), .str sp]) = H6
    intro hM6 hR6 hFc6 hXH6 hFl6 hw6
    have hnl : ((i : Nat) : Int).toNat < 8 := by simp; omega
    -- called
    with_reducible refine WSS.cons ?_
    with_reducible refine WS.asg hF ?h0 ?hk ?hs
    case hk => rfl
    case hs => rfl
    with_reducible refine WE.sub ?_
    with_reducible refine WE.list ?_
    refine WLs.strs (ss := calleds) rfl ⟨by decide, WE.l hE rfl (WO2.base ?_)⟩
    refine WO2.itemL (i := ((i : Nat) : Int)) (p := .str (calledP i)) (xs := calleds.map .str) (.inl (by simp)) (Int.natCast_nonneg _) (by omega) (getD_map PV.str calleds "c.py" (by show i < 8; omega)) (CS.next ?_)
    have hX7 : Ext H6 (H6 ++ [Cell.list (calleds.map PV.str)]) := (Ext.rfl' _).more _
    have hM7 := hM6.ext hX7
    have hR7 := hX7.get hR6
    have hFc7 := hX7.get hFc6
    have hw7 := hX7.get hw6
    have hFl7 := hFl6.fm hX7.fm
    have hXH7 := hXH6.trans hX7
    clear hM6 hR6 hFc6 hw6 hFl6 hXH6 hX7
    generalize H6 ++ [Cell.list (calleds.map PV.str)] = H7 at hM7 hR7 hFc7 hw7 hFl7 hXH7 ⊢
    refine WSS.cons (WS.ex (WE.meth (WE.l hE rfl ⟨GM.append hFc7, WLs.one (WE.flist (WLs.cons (WE.f hE rfl (WLs.cons (WE.callK G hE (gl_join _) (kp_259 _) (WLs.two (WE.callK G hE (gl_normpath_posixpath _) (kp_273 _) (WLs.one (WE.l hE rfl (c_normpath G wno.1 wno.2.1 (Nat.le_trans wno.2.2 (by decide)) fun E1 => ?_))))))))))⟩)))
    have hcl := calledP_le i
    refine WE.l hE rfl (c_join G (by omega) fun E2 => ?_)
    refine WLs.cons (WE.l hE rfl (WLs.cons (WE.sub (WE.list (WLs.strs (ss := stems) rfl ⟨by decide, WE.binop (WE.l hE rfl (WE.int (WO2.divN (a := i) (b := 2) (by decide) (by decide) (WO2.base ?_))))⟩)))))
    refine WO2.itemL (i := ((i / 2 : Nat) : Int)) (p := .str (stemP i)) (xs := stems.map .str) (.inl (by simp)) (Int.natCast_nonneg _) (by omega) (getD_map PV.str stems "c" (by show i / 2 < 4; omega)) (WLs.nil ⟨by simp, ?_⟩)
    have hX8 : Ext H7 (H7 ++ E1 ++ E2 ++ [Cell.list (stems.map PV.str)]) := (((Ext.rfl' _).more _).more _).more _
    revert hX8
    generalize H7 ++ E1 ++ E2 ++ [Cell.list (stems.map PV.str)] = H8
    intro hX8
    have hX9 : Ext H7 (H8 ++ [Cell.flist [.loc w, .str (joinP (normP sp) (calledP i)), .str (calledP i), .str (stemP i)]]) := hX8.more _
    have hnew : (H8 ++ [Cell.flist [.loc w, .str (joinP (normP sp) (calledP i)), .str (calledP i), .str (stemP i)]])[H8.length]? = some (.flist [.loc w, .str (joinP (normP sp) (calledP i)), .str (calledP i), .str (stemP i)]) := by simp
    generalize H8.length = n9 at hnew ⊢
    generalize H8 ++ [Cell.flist [.loc w, .str (joinP (normP sp) (calledP i)), .str (calledP i), .str (stemP i)]] = H9 at hX9 hnew ⊢
    have hFc9 := hX9.get hFc7
    have hfm : FM H9 (H9.set (R + 1) (.list (qs ++ [.loc n9]))) := FM.set hFc9 rfl
    refine WC.append hFc9 (by omega) ⟨by simp, by simp, CS.next (WSS.nil (LQ.next (Up.mk ⟨i + 1, _, _, ps3, qs ++ [.loc n9], rfl, hlt, hW, ?_, List.getElem?_set_self (List.getElem?_eq_some_iff.mp hFc9).1, (hM7.ext hX9).below (by omega) hFc9, ?_, ?_, hpl3, by simp; omega, (hXH7.trans hX9).set (by omega) _, rfl⟩ ⟨rfl, rfl, rfl, rfl, trivial⟩)))⟩
    · rw [List.getElem?_set_ne (by omega)]; exact hX9.get hR7
    · exact FlsAt.snoc ⟨n9, w, rfl, hfm _ _ hnew rfl, hfm _ _ (hX9.get hw7) rfl⟩ (hFl7.fm (hX9.fm.trans hfm))
    · intro r hr
      have hm : r.1 ∈ (updR ws (toggle u) sp rows1).map (·.1) := List.mem_map_of_mem hr
      rw [updR_words] at hm
      obtain ⟨r', hr', e⟩ := List.mem_map.mp hm
      rw [← e]; exact hok3 r' hr'
  · rintro ρ' H1 ⟨i, rows, files, ps, qs, e, hi, hW, hR, hFc, hM, hFl, hok, hpl, hql, hX, rfl⟩
    have hin : i = nums.length := by
      rcases Nat.lt_or_ge i nums.length with hlt | hge
      · rw [List.drop_eq_getElem_cons (by simpa using hlt)] at e
        cases e
      · omega
    rw [hin, List.drop_length, worldP] at hW
    refine WSS.nil (CS.next ?_)
    refine WSS.freezeRows hM fun H2 hm hle hlow hRA => ?_
    have hR2 : H2[R]? = some (.list ps) := by rw [hlow R (by omega)]; exact hR
    have hFc2 : H2[R + 1]? = some (.list qs) := by rw [hlow (R + 1) (by omega)]; exact hFc
    have hX2 : Ext H H2 := by
      obtain ⟨E, rfl⟩ := hX
      refine ⟨H2.drop H.length, ?_⟩
      have : H = H2.take H.length := by
        apply List.ext_getElem?
        intro j
        by_cases hj : j < H.length
        · rw [List.getElem?_take_of_lt hj, hlow j (by omega), List.getElem?_append_left hj]
        · rw [List.getElem?_eq_none (by omega), List.getElem?_eq_none (by rw [List.length_take]; omega)]
      conv => lhs; rw [← List.take_append_drop H.length H2]
      rw [← this]
    have hRl : R < H2.length := (List.getElem?_eq_some_iff.mp hR2).1
    have hFl' : R + 1 < H2.length := (List.getElem?_eq_some_iff.mp hFc2).1
    refine WSS.freeze hR2 ?_
    have hFc3 : (H2.set R (.flist ps))[R + 1]? = some (.list qs) := by rw [List.getElem?_set_ne (by omega)]; exact hFc2
    refine WSS.freeze hFc3 ?_
    have hfm2 : FM H2 (H2.set R (.flist ps)) := FM.set hR2 rfl
    have hfm3 : FM (H2.set R (.flist ps)) ((H2.set R (.flist ps)).set (R + 1) (.flist qs)) := FM.set hFc3 rfl
    refine WSS.cons (WS.ret (WE.tuple (WLs.two (WE.l hE rfl (WE.l hE rfl ⟨by simp, RQ ?_⟩)))))
    refine h _ R (R + 1) ps qs ((hX2.set (by omega) _).set (by omega) _) ?_ ?_ ?_ ?_
    · rw [List.getElem?_set_ne (by omega)]; exact List.getElem?_set_self hRl
    · rw [← hW]; exact hRA.fm (hfm2.trans hfm3)
    · exact List.getElem?_set_self (by simpa using hFl')
    · rw [← hW]; exact hFl.fm (hm.trans (hfm2.trans hfm3))
end
end Mine

namespace Mine

noncomputable abbrev igObj : Obj := excClassObj "_Ignore" "_Ignore" 227 226 [.type "object"] [.type "object"] true [] [] false none none none none (some (.str "_Ignore" 475)) (some (.str "_Ignore" 483)) (some (.bool true)) "object.__new__"
theorem ig_cls (P : Params) : (KK P).lookup 227 = some igObj := by kernel_rfl
noncomputable def igEs (P : Params) : Array DictEntry := match (KK P).lookup 226 with | some ⟨_, _, .dict es _, _⟩ => es | _ => #[]
theorem ig_ns (P : Params) : ∃ o, (KK P).lookup 226 = some o ∧ o.data = .dict (igEs P) 4 := ⟨_, rfl, rfl⟩
theorem ig_keys (P : Params) : StrKeys (igEs P) := by
  intro e he
  have hl : igEs P = (match (KK P).lookup 226 with | some ⟨_, _, .dict es _, _⟩ => es | _ => #[]) := rfl
  have : ((igEs P).toList.all fun e => match e.key with | .str _ _ => true | _ => false) = true := by kernel_rfl
  have := List.all_eq_true.mp this e (by simpa using he)
  split at this
  · rename_i n t h; exact ⟨n, t, h⟩
  · cases this

theorem weight_type_call (C : Addr) (vs : List Value) : (Code.builtin "type.__call__" ⟨.ref C :: vs, []⟩).weight = 1 := by
  have hg : guardIds.contains "type.__call__" = false := by decide +kernel
  have h2 : (Code.builtin "type.__call__" ⟨.ref C :: vs, []⟩).isGuard = false := hg
  unfold Code.weight
  rw [h2]
  rfl
theorem Rm.under {k : Nat} {A : Around} {C : Addr} {vs : List Value} (h : Rm (k + 1) A) : Rm k (A.under (.builtin "type.__call__" ⟨.ref C :: vs, []⟩)) := by
  have hw := weight_type_call C vs
  have hu : (Code.builtin "type.__call__" ⟨.ref C :: vs, []⟩).cUnits = 1 := rfl
  refine ⟨h.1, ?_, ?_⟩
  · have := h.2.1
    show A.depth + (Code.builtin "type.__call__" ⟨.ref C :: vs, []⟩).weight + k < _
    omega
  · have := h.2.2
    show A.units + (Code.builtin "type.__call__" ⟨.ref C :: vs, []⟩).cUnits + 16 * k + 16 < _
    omega

section
variable {g : Cfg} {k : Nat} {W β β' : List Addr} {env : Env} {ρ : Rho} {H H' : List Cell} {s s' : Shared}

theorem ig_at (G : Gd g) (S : SimG g β H s) : s.heap.get? 227 = some igObj ∧ s.heap.Ns 226 (nsFind (igEs g.w.params)) := by
  refine ⟨S.base _ _ (G.K _ _ (ig_cls _)), ?_⟩
  obtain ⟨o, e, d⟩ := ig_ns g.w.params
  exact ⟨o, _, _, S.base _ _ (G.K _ _ e), d, ig_keys _, fun _ => rfl⟩

theorem inst_of (S : SimG g β H s) {C a : Addr} {n d : Nat} {es : List (Str × PV)} (e : H[n]? = some (.inst C d)) (ea : β[n]? = some a) (ed : H[d]? = some (.attrs es)) :
    ∃ mA dx, s.heap.Inst a C mA ∧ β[d]? = some dx ∧ dx ≠ a ∧ (∀ o, s.heap.get? a = some o → o.dict = some dx) ∧ (∀ x, (∀ pv, es.lookup x = some pv → ∃ v, mA x = some v ∧ Vl β pv v) ∧ (es.lookup x = none → mA x = none)) := by
  obtain ⟨o, dx, ho, hc, hnc, hd, edx⟩ := S.at e ea
  obtain ⟨mA, hN, hf⟩ := S.at ed edx
  have hne : dx ≠ a := by
    rintro rfl
    have hij : d = n := (List.getElem?_inj (List.getElem?_eq_some_iff.mp edx).1 S.nodup).mp (edx.trans ea.symm)
    rw [hij, e] at ed; cases ed
  exact ⟨mA, dx, ⟨o, ho, hc, hnc, .inr ⟨dx, hd, hne, hN⟩⟩, edx, hne, fun o' h' => by rw [ho] at h'; cases h'; exact hd, hf⟩

theorem WE.attr (G : Gd g) {oe : Expr} {name : Str} {pos : Pos} {Q : PV → List Cell → Prop}
    (h : WE g k env oe ρ H (fun po H1 => Ex4 fun n d es m => And5 (po = .loc n) (H1[n]? = some (.inst 227 d)) (H1[d]? = some (.attrs es)) (es.lookup name = some (.loc m)) (Q (.loc m) H1)))
    (hna : nsFind (igEs g.w.params) name = none := by kernel_rfl) (hng : nsFind (igEs g.w.params) "__getattribute__" = none := by kernel_rfl)
    (hB : typeLookup (.type "object") name = pure none := by rw [typeLookup_type, builtinLookup_eq_fast]; kernel_rfl)
    (he : eval (.Attribute oe name pos) env = (do
      let o ← eval oe env
      standAt pos.atName
      let r ← holding [o] (getAttr o name true)
      letTemporaryGo oe o r
      pure r) := by with_unfolding_all rfl) : WE g k env (.Attribute oe name pos) ρ H Q := by
  intro A β s hA S F
  refine Attribute_any_ (wpAny_mono (h A β s hA S F) (fun v s1 h1 => ?_) fun _ _ x => x) he
  obtain ⟨β1, H1, po, T1, V1, n, d, es, m, rfl, hn, hd, hl, q⟩ := h1
  obtain ⟨a, ea, rfl⟩ := V1
  obtain ⟨mA, dx, I, _, _, _, hf⟩ := inst_of T1.sim hn ea hd
  obtain ⟨v, hv, hvl⟩ := (hf name).1 _ hl
  obtain ⟨b, eb, rfl⟩ := hvl
  obtain ⟨hC, hN⟩ := ig_at G T1.sim
  obtain ⟨hh, gg, dd, t, os⟩ := s1
  refine load_attr hC hN hng hna hB I hv rfl ?_
  have T2 : StepG g [] β1 H1 ⟨hh, gg, dd, t, os⟩ β1 H1 ⟨hh, gg, dd, t + 1, os⟩ := Step.grow (s := ⟨hh, gg, dd, t, os⟩) (h' := hh) (tk := t + 1) T1.sim fun _ _ e => e
  exact ⟨β1, H1, .loc m, T1.trans T2 S, ⟨b, eb, rfl⟩, q⟩

theorem lookup_snoc {α : Type} {x y : Str} {p : α} : ∀ {es : List (Str × α)}, es.lookup y = none → (es ++ [(y, p)]).lookup x = if x = y then some p else es.lookup x
  | [], _ => by
    simp only [List.nil_append, List.lookup_cons, List.lookup_nil]
    by_cases h : x = y
    · subst h; simp
    · simp [h, beq_eq_false_iff_ne.mpr h]
  | (z, q) :: r, e => by
    rw [List.lookup_cons] at e
    simp only [List.cons_append, List.lookup_cons]
    cases hz : y == z with
    | true => rw [hz] at e; cases e
    | false =>
      rw [hz] at e
      have ih := lookup_snoc (x := x) (p := p) e
      cases hx : x == z with
      | true =>
        have : x ≠ y := by
          rintro rfl
          rw [hx] at hz; cases hz
        simp [this]
      | false => simpa using ih
theorem mem_fst_of_lookup {α : Type} {x : Str} : ∀ {es : List (Str × α)}, es.lookup x ≠ none → x ∈ es.map (·.1)
  | [], h => by simp at h
  | (z, q) :: r, h => by
    rw [List.lookup_cons] at h
    cases hx : x == z with
    | true => rw [beq_iff_eq.mp hx]; simp
    | false => rw [hx] at h; rw [List.map_cons]; exact List.mem_cons_of_mem _ (mem_fst_of_lookup h)

theorem WA.attr (G : Gd g) {oe : Expr} {name : Str} {pos : Pos} {p : PV} {Q : Rho → List Cell → Prop}
    (h : WE g k env oe ρ H (fun po H1 => Ex3 fun n d es => And6 (po = .loc n) (H1[n]? = some (.inst 227 d)) (H1[d]? = some (.attrs es)) (es.lookup name = none) (es.length ≤ 100) (Q ρ (H1.set d (.attrs (es ++ [(name, p)]))))))
    (hna : nsFind (igEs g.w.params) name = none := by kernel_rfl) (hns : nsFind (igEs g.w.params) "__setattr__" = none := by kernel_rfl)
    (hB : typeLookup (.type "object") name = pure none := by rw [typeLookup_type, builtinLookup_eq_fast]; kernel_rfl) : WA g k W env (.Attribute oe name pos) p ρ H Q := by
  intro A β s v hA S F hv
  refine kas_attr (wpAny_mono (h A β s hA S F) (fun ov s1 h1 => ?_) fun _ _ x => x)
  obtain ⟨β1, H1, po, T1, V1, n, d, es, rfl, hn, hd, hl, hlen, q⟩ := h1
  obtain ⟨a, ea, rfl⟩ := V1
  obtain ⟨mA, dx, I, edx, hne, hdict, hf⟩ := inst_of T1.sim hn ea hd
  obtain ⟨hC, hN⟩ := ig_at G T1.sim
  have hxC : a ≠ 227 := by
    rintro rfl
    obtain ⟨o, ho, hc, _⟩ := I
    rw [hC] at ho; cases ho; cases hc
  have hv1 : Vl β1 p v := hv.pre T1.pre
  have e24 : sizeLine = 16777216 := sizeLine_eq
  obtain ⟨hh, gg, dd, t, os⟩ := s1
  refine store_attr (ns := es.map (·.1)) PySem.F.store_object hC hN hns hna hB hxC I (fun h' tk' I' hk hsame => ?_) (fun y hy => mem_fst_of_lookup fun hh' => hy ((hf y).2 hh')) (by simp; omega)
  obtain ⟨o, ho, _⟩ := id I
  obtain ⟨o₁, e₁, c1, c2, c3, c4⟩ := hsame o ho
  have hdo := hdict o ho
  have hd1 := c4 dx hdo
  have heq : o₁ = o := by
    cases o; cases o₁
    simp only at c1 c2 c3 hdo hd1
    subst c1 c2 c3 hdo
    rw [hd1]
  have hall : ∀ b ob, b ≠ dx → hh.get? b = some ob → h'.get? b = some ob := fun b ob hb e => by
    by_cases hba : b = a
    · subst hba
      have : ob = o := Option.some.inj (e.symm.trans ho)
      rw [this, e₁, heq]
    · exact hk b ob hba (fun o₀ d' e0 ed => by
        have h0 : hh.get? a = some o := ho
        rw [h0] at e0; cases e0
        rw [hdo] at ed; cases ed; exact hb) e
  have hN' : h'.Ns1 dx (fun y => if y = name then some v else mA y) := by
    obtain ⟨o', e', _, _, hd'⟩ := I'
    rw [e₁] at e'; cases e'
    rcases hd' with ⟨hn0, _⟩ | ⟨d', hd', _, hns'⟩
    · rw [hd1] at hn0; cases hn0
    · rw [hd1] at hd'; cases hd'; exact hns'
  have T2 : StepG g [] β1 H1 ⟨hh, gg, dd, t, os⟩ β1 (H1.set d (.attrs (es ++ [(name, p)]))) { (⟨hh, gg, dd, t, os⟩ : Shared) with heap := h', toks := tk' } :=
    Step.put (tk := tk') (h' := h') T1.sim hd edx rfl hall ⟨_, hN', fun x => by
      rw [lookup_snoc hl]
      by_cases hx : x = name
      · subst hx
        simp only [if_true]
        exact ⟨fun pv e => by cases e; exact ⟨v, rfl, hv1⟩, fun e => by cases e⟩
      · simp only [hx, if_false]
        exact hf x⟩
  have T12 := T1.trans T2 S
  exact ⟨β1, _, ρ, T12.ofNil, F.step T12, q⟩

/-- a new object of the class -/
theorem WC.newIg (G : Gd g) {ps : List PV} {Q : PV → List Cell → Prop}
    (h : WC g k (.ref 217) (.loc (H.length + 1) :: ps) (H ++ [.attrs []] ++ [.inst 227 H.length]) (fun r H' => r = .none ∧ Q (.loc (H.length + 1)) H')) : WC g (k + 1) (.ref 227) ps H Q := by
  intro A β s vs hA S V
  obtain ⟨hC, hN⟩ := ig_at G S
  obtain ⟨oI, eI, cI⟩ : ∃ oI, (KK g.w.params).lookup 217 = some oI ∧ oI.cls = .type "function" := ⟨_, rfl, rfl⟩
  have hfI := S.base _ _ (G.K _ _ eI)
  obtain ⟨hh, gg, dd, t, os⟩ := s
  refine wpAny_call_obj_init PySem.F.objNew hC hN (fI := 217) (by kernel_rfl) hfI cI fun h' x dx Mk => ?_
  obtain ⟨ox, hx, hcx, hncx, hdx⟩ := Mk.inst
  have hdd := Mk.dict ox hx
  obtain ⟨hne, hNs⟩ : dx ≠ x ∧ h'.Ns1 dx fun _ => none := by
    rcases hdx with ⟨hn0, _⟩ | ⟨d', hd', hne, hns'⟩
    · rw [hn0] at hdd; cases hdd
    · obtain rfl := Option.some.inj (hd'.symm.trans hdd); exact ⟨hne, hns'⟩
  have T1 : StepG g [] β H ⟨hh, gg, dd, t, os⟩ (β ++ [dx]) (H ++ [.attrs []]) { (⟨hh, gg, dd, t, os⟩ : Shared) with heap := h', toks := t } :=
    Step.add (c := .attrs []) (tk := t) (h' := h') S Mk.keeps Mk.newD ⟨_, hNs, fun y => ⟨fun pv e => (by cases e), fun _ => rfl⟩⟩
  have hxβ : x ∉ β ++ [dx] := by
    rw [List.mem_append, List.mem_singleton]
    rintro (hm | rfl)
    · exact S.not_mem Mk.newX hm
    · exact hne rfl
  have hdxi : (β ++ [dx])[H.length]? = some dx := by rw [← S.len]; simp
  have T2 := Step.adopt (c := .inst 227 H.length) S T1 hxβ Mk.newX ⟨ox, dx, hx, hcx, hncx, hdd, pre_get (List.prefix_append _ _) hdxi⟩
  have hxi : (β ++ [dx] ++ [x])[H.length + 1]? = some x := by rw [← S.len]; simp
  refine wpAny_mono (h _ _ _ (.ref x :: vs) hA.under T2.sim ⟨⟨x, hxi, rfl⟩, (V.pre (List.prefix_append _ _)).pre (List.prefix_append _ _)⟩) (fun r s3 h3 => ?_) fun _ _ e => e
  obtain ⟨β3, H3, pv, T3, V3, rfl, q⟩ := h3
  exact ⟨V3, β3, H3, .loc (H.length + 1), T2.trans T3 S, ⟨x, pre_get T3.pre hxi, rfl⟩, q⟩

/-- a method of the class, called upon an object of it -/
theorem WE.methI (G : Gd g) {o : Expr} {name : Str} {apos pos : Pos} {args : List Expr} {f : Addr} {of : Obj} {pl : Sem Bool} {y : Option Value} {Q : PV → List Cell → Prop}
    (hf : nsFind (igEs g.w.params) name = some (.ref f)) (hfo : (KK g.w.params).lookup f = some of) (hfc : of.cls = .type "function") (hk : keepIn (KK g.w.params) (.ref f) = true) (hB : typeLookup (.type "object") name = pure y)
    (h : WE g k env o ρ H (fun p H1 => Ex3 fun n d es => And5 (p = .loc n) (H1[n]? = some (.inst 227 d)) (H1[d]? = some (.attrs es)) (es.lookup name = none) (WLs g k env args ρ H1 (fun ps H2 => WC g k (.ref f) (.loc n :: ps) H2 Q))))
    (hng : nsFind (igEs g.w.params) "__getattribute__" = none := by kernel_rfl) (hnh : nsFind (igEs g.w.params) "__getattr__" = none := by kernel_rfl)
    (hp : (backTo pos (starEach args env)).any (·.1) = false := by rfl)
    (he : eval (.Call (.Attribute o name apos) args [] pos) env = (do
      let ov ← eval o env
      standAt apos.atName
      let (f, first) ← holding [ov] (getMethod ov name pl)
      callWith pos f first (backTo pos (starEach args env)) []) := by rfl) :
    WE g k env (.Call (.Attribute o name apos) args [] pos) ρ H Q := by
  intro A β s hA S F
  refine MethodCall_ (pl := pl) (wpAny_mono (h A β s hA S F) (fun v s1 h1 => ?_) fun _ _ x => x) he
  obtain ⟨β1, H1, p, T1, V1, n, d, es, rfl, hn, hd, hl, h1⟩ := h1
  obtain ⟨a, ea, rfl⟩ := V1
  obtain ⟨mA, dx, I, _, _, _, hfm⟩ := inst_of T1.sim hn ea hd
  obtain ⟨hC, hN⟩ := ig_at G T1.sim
  have hfo' := T1.sim.base _ _ (G.K _ _ hfo)
  have fin : wpAny g.M A (callWith pos (.ref f) [.ref a] (backTo pos (starEach args env)) []) (PE g β H s Q) noE s1 := by
    refine CW.K hk pos [.ref a] _ A _ s1 _ hp (evalArgs_of hp (wpAny_mono (h1 pos A β1 s1 hA T1.sim (F.step T1)) (fun vs s2 h2 => ?_) fun _ _ x => x))
    obtain ⟨β2, H2, ps, T2, V2, h2⟩ := h2
    refine ⟨G.K.keeps T2.sim.base, ?_⟩
    exact wpAny_mono (h2 A β2 s2 (.ref a :: vs) hA T2.sim ⟨⟨a, pre_get T2.pre ea, rfl⟩, V2⟩) (fun v s3 h3 => (h3.after T1.sim T2).after S T1) fun _ _ x => x
  obtain ⟨hh, gg, dd, t, os⟩ := s1
  exact method_of hC hN hng hnh hf hfo' hfc hB I ((hfm name).2 hl) fin

/-! dicts of texts -/
theorem des_of {P : Params} {w : World} {prog : Program} (hw : w.params = P) {β : List Addr} : ∀ {es : List (Str × PV)} {ds : List DictEntry} {kvs : List (Str × Value)}, (∀ e ∈ ds, ∃ k, (PySem.strKind prog w).is k e.key = true ∧ e.hash = (PySem.strKind prog w).hash k) → Pairs (PySem.strKind prog w) ds kvs →
    kvs.map (·.1) = es.map (·.1) → Vls β (es.map (·.2)) (kvs.map (·.2)) → DEs P β es ds
  | [], [], [], _, _, _, _ => trivial
  | [], _, _ :: _, _, _, hm, _ => by simp at hm
  | _ :: _, _, [], _, _, hm, _ => by simp at hm
  | [], _ :: _, [], _, p, _, _ => nomatch p
  | (n, q) :: es, [], (x, v) :: kvs, _, p, _, _ => nomatch p
  | (n, q) :: es, e :: ds, (x, v) :: kvs, hk, p, hm, hv => by
    cases p with
    | cons p1 p2 p3 =>
    simp only [List.map_cons, List.cons.injEq] at hm
    obtain ⟨hx, hm⟩ := hm
    obtain ⟨k, hk1, hk2⟩ := hk e List.mem_cons_self
    have ekx : k = x := Value.isStrOf_inj _ _ _ hk1 p1
    obtain ⟨tk, etk⟩ := Value.isStrOf_shape p1
    subst ekx
    subst hx
    refine ⟨⟨⟨tk, etk⟩, ?_, ?_⟩, des_of hw (fun e he => hk e (List.mem_cons_of_mem _ he)) p3 hm hv.2⟩
    · rw [hk2]; subst hw; rfl
    · rw [p2]; exact hv.1
theorem dict_cell {h : Heap} {a : Addr} {es : List (Str × PV)} {kvs : List (Str × Value)} (hd : h.DictOf (PySem.strKind g.prog g.w) a kvs) (hs : (a == sysModules) = false) (hm : kvs.map (·.1) = es.map (·.1)) (hv : Vls β (es.map (·.2)) (kvs.map (·.2))) :
    CellIs g.w.params h β a (.dict es) := by
  obtain ⟨o, ds, ep, ho, ⟨c1, c2, c3⟩, hdat, hk, hp, _⟩ := hd
  refine ⟨hs, ds.toList, ep, ?_, des_of rfl (fun e he => hk e (by simpa using he)) hp hm hv⟩
  rw [ho]
  cases o
  simp only at c1 c2 c3 hdat
  subst c1 c2 c3 hdat
  rfl
theorem isStr (x : Str) (t : Tok) : Value.isStrOf x (.str x t) = true := by simp [Value.isStrOf]
theorem valueAt_of {β : List Addr} {x : Str} : ∀ {es : List (Str × PV)} {kvs : List (Str × Value)}, kvs.map (·.1) = es.map (·.1) → Vls β (es.map (·.2)) (kvs.map (·.2)) →
    (∀ p, es.lookup x = some p → ∃ v, valueAt kvs x = some v ∧ Vl β p v) ∧ (es.lookup x = none → valueAt kvs x = none)
  | [], [], _, _ => ⟨fun p e => by simp at e, fun _ => rfl⟩
  | [], _ :: _, h, _ => by simp at h
  | _ :: _, [], h, _ => by simp at h
  | (n, q) :: es, (m, v) :: kvs, h, hv => by
    simp only [List.map_cons, List.cons.injEq] at h
    obtain ⟨rfl, h⟩ := h
    have ih := valueAt_of (x := x) h hv.2
    by_cases hx : x = m
    · subst hx
      refine ⟨fun p e => ?_, fun e => ?_⟩
      · simp only [List.lookup_cons, beq_self_eq_true] at e
        cases e
        exact ⟨v, by simp [valueAt], hv.1⟩
      · simp at e
    · have e1 : valueAt ((m, v) :: kvs) x = valueAt kvs x := by simp [valueAt, Ne.symm hx]
      rw [e1, List.lookup_cons, beq_eq_false_iff_ne.mpr hx]
      exact ih

theorem WO2.inDict {n : Nat} {x : Str} {es : List (Str × PV)} {Q : PV → List Cell → Prop} (e : H[n]? = some (.dict es)) (hnd : (es.map (·.1)).Nodup) (h : Q (.bool (es.lookup x).isSome) H) : WO2 g k (.str x) (.loc n) (compareOp .In) H Q := by
  rintro A β s va vb hA S ⟨t, rfl⟩ ⟨a, ea, rfl⟩
  obtain ⟨hs, kvs, hd, hk, hv⟩ := cell_dict S e ea hnd
  refine wpAny_in_of (knd := PySem.strKind g.prog g.w) (k := x) (isStr x t) hs hd.mapOf ?_
  have hva := valueAt_of (x := x) hk hv
  have eb : (valueAt kvs x).isSome = (es.lookup x).isSome := by
    cases he : es.lookup x with
    | none => rw [hva.2 he]; rfl
    | some p => obtain ⟨v, h1, _⟩ := hva.1 p he; rw [h1]; rfl
  rw [eb]
  exact PE.tok (pv := .bool (es.lookup x).isSome) S rfl h
theorem WO2.getDict {ve ie : Expr} {n : Nat} {x : Str} {p : PV} {es : List (Str × PV)} {Q : PV → List Cell → Prop} (e : H[n]? = some (.dict es)) (hnd : (es.map (·.1)).Nodup) (hl : es.lookup x = some p) (h : Q p H)
    (hs : ∀ l u, subscripted ie false (.ref l) (.str x u) = operate [.ref l, .str x u] (getItem (.ref l) (.str x u)) := by intro _ _; with_unfolding_all rfl)
    (hg : ∀ l r, letTemporaryGo ve (.ref l) r = pure () := by intro _ _; with_unfolding_all rfl) : WO2 g k (.loc n) (.str x) (subscriptTail ve ie) H Q := by
  rintro A β s va vb hA S ⟨a, ea, rfl⟩ ⟨t, rfl⟩
  obtain ⟨hsm, kvs, hd, hk, hv⟩ := cell_dict S e ea hnd
  obtain ⟨v, hv1, hv2⟩ := (valueAt_of (x := x) hk hv).1 p hl
  exact subscriptTail_builtin hd.typeIs slot_dict_getitem.lookup (wpAny_getItem_of (knd := PySem.strKind g.prog g.w) (k := x) (isStr x t) hd.mapOf hv1 (PE.tok S hv2 h)) (hs _ _) (hg _)
theorem stored_new {x : Str} {v : Value} {kvs : List (Str × Value)} (h : x ∉ kvs.map (·.1)) : stored kvs x v = kvs ++ [(x, v)] := by
  unfold stored
  rw [if_neg]
  intro hh
  obtain ⟨kv, hm, he⟩ := List.any_eq_true.mp hh
  simp only [decide_eq_true_eq] at he
  exact h (List.mem_map.mpr ⟨kv, hm, he⟩)
theorem WA.itemD {o i : Expr} {pos : Pos} {p : PV} {Q : Rho → List Cell → Prop}
    (h : WE g k env o ρ H (fun po H1 => WE g k env i ρ H1 (fun pi H2 => Ex3 fun n x es => And7 (po = .loc n) (pi = .str x) (H2[n]? = some (.dict es)) ((es.map (·.1)).Nodup) (x ∉ es.map (·.1)) (es.length ≤ 1000) (Q ρ (H2.set n (.dict (es ++ [(x, p)]))))))) :
    WA g k W env (.Subscript o i pos) p ρ H Q := by
  intro A β s v hA S F hv
  refine kas_sub (wpAny_mono (h A β s hA S F) (fun ov s1 h1 => ?_) fun _ _ x => x)
  obtain ⟨β1, H1, po, T1, V1, h1⟩ := h1
  refine wpAny_mono (h1 A β1 s1 hA T1.sim (F.step T1)) (fun iv s2 h2 => ?_) fun _ _ x => x
  obtain ⟨β2, H2, pi, T2, V2, n, x, es, rfl, rfl, e, hnd, hx, hl, q⟩ := h2
  obtain ⟨a, ea, rfl⟩ := V1.pre T2.pre
  obtain ⟨t, rfl⟩ := V2
  obtain ⟨hsm, kvs, hd, hk, hvs⟩ := cell_dict T2.sim e ea hnd
  have hlen : kvs.length = es.length := by simpa using congrArg List.length hk
  have e24 : sizeLine = 16777216 := sizeLine_eq
  refine wpAny_setItem_pairs (knd := PySem.strKind g.prog g.w) (k := x) (isStr x t) hd (fun h' hd' hs' => ?_) (by omega)
  have hv2 : Vl β2 p v := (hv.pre T1.pre).pre T2.pre
  rw [stored_new (by rw [hk]; exact hx)] at hd'
  have T12 := T1.trans T2 S
  have T3 : StepG g [] β2 H2 s2 β2 (H2.set n (.dict (es ++ [(x, p)]))) { s2 with heap := h', toks := s2.toks + 1 } :=
    Step.put (tk := s2.toks + 1) T2.sim e ea rfl (fun b o hb eo => (hs'.2 b hb).trans eo) (dict_cell hd' hsm (by simp [hk]) (by rw [List.map_append, List.map_append]; exact Vls.snoc hv2 hvs))
  have T123 := T12.trans T3 S
  exact ⟨β2, _, ρ, T123.ofNil, F.step T123, q⟩
end
end Mine

namespace Mine

theorem gl_sep (P : Params) : nsIn (KK P) mainGlobals ("sep" : Str) = some (some (.str "/" 281)) := by kernel_rfl

section
variable {g : Cfg} {k : Nat} {W β β' : List Addr} {env : Env} {ρ : Rho} {H H' : List Cell} {s s' : Shared} {names : List (Str × NameKind)}

theorem WE.dict1 (G : Gd g) {x : Str} {i : Int} {c1 c2 : Nat} {p1 p2 pos : Pos} {Q : PV → List Cell → Prop} (h : Q (.loc H.length) (H ++ [.dict [(x, .int i)]])) :
    WE g k env (.Dict [some (.Constant (.str x) c1 p1)] [.Constant (.int i) c2 p2] pos) ρ H Q := by
  intro A β s hA S F
  refine wpAny_Dict_pairs (knd := PySem.strKind g.prog g.w) (pairs := [(eval (.Constant (.str x) c1 p1) env, do let x ← eval (.Constant (.int i) c2 p2) env; standAt pos; pure x)]) rfl (by simp) (by simp) ?_
  refine evalPairs_cons (wpAny_Constant_str (wpAny_bind (wpAny_Constant_int (wpAny_bind (wpAny_standAt (wpAny_pure (evalPairs_nil ?_)))))))
  refine ⟨[(x, .int i (s.toks + 1))], ⟨isStr x s.toks, rfl, trivial⟩, Heap.DictOf.new _, fun h' hd hs => ?_⟩
  have hm : merged (K := Str) [] [(x, Value.int i (s.toks + 1))] = [(x, .int i (s.toks + 1))] := by simp [merged, stored]
  rw [hm] at hd
  have hkk : ∀ b o, s.heap.get? b = some o → h'.get? b = some o := fun b o e => (hs.2 b (Nat.ne_of_lt (Heap.lt_size e))).trans (Heap.get?_push_of_some _ e)
  have T := Step.add (P := g.w.params) (B := g.B) (W := []) (c := .dict [(x, .int i)]) (tk := s.toks + 1 + 1 + [(Value.str x s.toks, Value.int i (s.toks + 1))].length) S hkk (get_size_none _) (dict_cell (g := g) (β := β ++ [s.heap.objs.size]) hd (S.notSys G (Nat.le_refl _)) rfl ⟨⟨_, rfl⟩, trivial⟩)
  exact ⟨_, _, .loc H.length, T, ⟨_, by rw [← S.len]; simp, rfl⟩, h⟩

/-- a tracer, as the heap bears it -/
noncomputable def TrAt (H : List Cell) (n d c : Nat) (dirs : List Str) (ig : List (Str × PV)) : Prop :=
  ∃ a b led, H[n]? = some (.inst 227 d) ∧ H[d]? = some (.attrs [("_mods", .loc a), ("_dirs", .loc b), ("_ignore", .loc c)]) ∧ H[a]? = some (.obj (set0 led)) ∧ H[b]? = some (.flist (dirs.map .str)) ∧ H[c]? = some (.dict ig)

noncomputable abbrev igAttrs (a b c : Nat) : Cell := .attrs [("_mods", .loc a), ("_dirs", .loc b), ("_ignore", .loc c)]

set_option maxHeartbeats 1000000 in
theorem c_init (G : Gd g) {x d m l : Nat} {ds : List Str} {Q : PV → List Cell → Prop} (hx : H[x]? = some (.inst 227 d)) (hd : H[d]? = some (.attrs [])) (hm : H[m]? = some (.list [])) (hl : H[l]? = some (.flist (ds.map .str))) (hdl : ds.length ≤ 1000)
    (hok : ∀ y ∈ ds, NormOk y)
    (h : ∀ H1 a b c led, Ext H H1 → H.length ≤ c → H1[a]? = some (.obj (set0 led)) → H1[b]? = some (.flist ((ds.map normP).map .str)) → H1[c]? = some (.dict [("<string>", .int 1)]) → Q .none (H1.set d (igAttrs a b c))) : WC g (k + 5) (.ref 217) [.loc x, .loc m, .loc l] H Q := by
  refine WC.fnV G (ρ₀ := [("self", .loc x), ("modules", .loc m), ("dirs", .loc l)]) (H₁ := H) rfl rfl rfl (by kernel_rfl) ?_ (by simp; decide) rfl rfl rfl rfl rfl rfl ?_ rfl ?_
  · intro A β s vs hA S V
    obtain ⟨v1, v2, v3, rfl, h1, h2, h3⟩ := vls3 V
    refine kp_binds (K := KK g.w.params) (binds := [("self", v1), ("modules", v2), ("dirs", v3)]) (G.K.keeps S.base) (fun S => by kernel_rfl) _ _ _ _ ?_
    exact ⟨β, .refl S, rfl, h1, rfl, h2, rfl, h3, trivial⟩
  · intro x hx
    simp at hx
    rcases hx with rfl | rfl | rfl <;> exact .inl rfl
  intro env hF hE
  dsimp only at hF hE
  have hdl' : d < H.length := (List.getElem?_eq_some_iff.mp hd).1
  have hxd : x ≠ d := by rintro rfl; rw [hd] at hx; cases hx
  -- self._mods = set()
  refine WSS.cons (WS.assign (WE.ifexp (WT.not (WT.value (WE.l hE rfl (WT1.list (.inl hm) (by simp) ?_))))))
  refine WE.callT G hE (gn_set _) bb_set (WLs.nil (WC.set0 fun led => ?_))
  obtain ⟨H1, hH1⟩ : ∃ H1, H1 = H ++ [Cell.obj (set0 led)] := ⟨_, rfl⟩
  have hX1 : Ext H H1 := ⟨_, hH1⟩
  have ha1 : H1[H.length]? = some (.obj (set0 led)) := by rw [hH1]; simp
  rw [← hH1]
  clear hH1
  refine WA.attr G (WE.l hE rfl ⟨x, d, [], rfl, hX1.get hx, hX1.get hd, rfl, by simp, CS.next ?_⟩)
  have hd1 := hX1.get hd
  have hd1l : d < H1.length := (List.getElem?_eq_some_iff.mp hd1).1
  obtain ⟨a, ea⟩ : ∃ a, a = H.length := ⟨_, rfl⟩
  rw [← ea] at ha1 ⊢
  have had : d ≠ a := by omega
  have hx2 : (H1.set d (Cell.attrs ([] ++ [(("_mods" : Str), PV.loc a)])))[x]? = some (.inst 227 d) := by rw [List.getElem?_set_ne (Ne.symm hxd)]; exact hX1.get hx
  have hl2 : (H1.set d (Cell.attrs ([] ++ [(("_mods" : Str), PV.loc a)])))[l]? = some (.flist (ds.map .str)) := FM.set hd1 rfl _ _ (hX1.get hl) rfl
  -- self._dirs
  have hd2 : (H1.set d (Cell.attrs ([] ++ [(("_mods" : Str), PV.loc a)])))[d]? = some (Cell.attrs [(("_mods" : Str), PV.loc a)]) := List.getElem?_set_self hd1l
  refine WSS.cons (WS.assign (WE.mono (Q := fun p H' => Ex2 fun b E2 => And3 (p = .loc b) (H' = H1.set d (Cell.attrs ([] ++ [(("_mods" : Str), PV.loc a)])) ++ E2) (H'[b]? = some (.flist ((ds.map normP).map .str)))) ?_ ?_))
  · refine WE.freezeNew (WE.ifexp (WT.not (WT.value (WE.l hE rfl (WT1.list (.inr hl2) (by simp; omega) ?_)))))
    refine ite_b (fun h1 => ?_) (fun h1 => ?_)
    · have : ds = [] := by cases ds with
        | nil => rfl
        | cons _ _ => simp at h1
      subst this
      exact WE.list (WLs.nil ⟨by simp, _, [], rfl, rfl, _, [_], rfl, rfl, by simp⟩)
    · refine WE.compE hE (fun rest acc H' => Ex2 fun dn td : List Str => And4 (rest = td.map .str) (dn ++ td = ds) (acc = (dn.map normP).map .str) (Ext (H1.set d (Cell.attrs ([] ++ [(("_mods" : Str), PV.loc a)]))) H')) rfl (WE.l hE rfl ⟨l, _, _, rfl, hl2, rfl, by simp; omega, [], ds, rfl, rfl, rfl, Ext.rfl' _⟩) ?_ ?_
      · rintro y rest acc H' ⟨dn, td, e, ed, rfl, hX⟩ cenv hC
        cases td with
        | nil => cases e
        | cons y' td =>
        simp only [List.map_cons, List.cons.injEq] at e
        obtain ⟨rfl, rfl⟩ := e
        obtain ⟨o1, o2, o3⟩ := hok y' (by rw [← ed]; simp)
        exact WIfs.no (WE.callK G hC (gl_normpath_path _) (kp_204 _) (WLs.one (WE.l hC rfl (c_normpath_path G o1 o2 o3 fun E => ⟨dn ++ [y'], td, rfl, by simpa using ed, by simp, hX.more _⟩))))
      · rintro acc H' ⟨dn, td, e, ed, rfl, E, rfl⟩ -
        cases td with
        | cons _ _ => cases e
        | nil =>
        rw [List.append_nil] at ed
        subst ed
        exact ⟨_, _, rfl, rfl, _, E ++ [_], rfl, by rw [List.append_assoc], by simp⟩
  rintro p H3 ⟨b, E2, rfl, rfl, hb⟩
  refine WA.attr G (WE.l hE rfl ⟨x, d, [(("_mods" : Str), PV.loc a)], rfl, get_app hx2 _, get_app hd2 _, rfl, by simp, CS.next ?_⟩)
  have hX4 : Ext H1 (H1 ++ E2) := (Ext.rfl' _).more _
  have eH : (H1.set d (Cell.attrs ([] ++ [(("_mods" : Str), PV.loc a)])) ++ E2).set d (Cell.attrs ([(("_mods" : Str), PV.loc a)] ++ [(("_dirs" : Str), PV.loc b)])) = (H1 ++ E2).set d (Cell.attrs [(("_mods" : Str), PV.loc a), (("_dirs" : Str), PV.loc b)]) := by
    rw [List.set_append_left _ _ (by simpa using hd1l), List.set_set, List.set_append_left _ _ hd1l]; rfl
  rw [eH]
  have hdb : d ≠ b := by
    rintro rfl
    rw [get_app hd2] at hb; cases hb
  have hb4 : (H1 ++ E2)[b]? = some (.flist ((ds.map normP).map .str)) := by
    have := FM.set (c' := .attrs [("_mods", .loc a), ("_dirs", .loc b)]) (get_app hd2 E2) rfl b _ hb rfl
    rw [List.set_append_left _ _ (by simpa using hd1l), List.set_set, ← List.set_append_left _ _ hd1l, List.getElem?_set_ne hdb] at this
    exact this
  have ha4 := hX4.get ha1
  have hXH4 := hX1.trans hX4
  have hx4 := hXH4.get hx
  have hd4 := hXH4.get hd
  clear eH hb hd2 hl2 hx2 ha1 hX1 hX4 hd1
  generalize H1 ++ E2 = H4 at hb4 ha4 hXH4 hx4 hd4 ⊢
  have hd4l : d < H4.length := (List.getElem?_eq_some_iff.mp hd4).1
  have hx5 : (H4.set d (Cell.attrs [(("_mods" : Str), PV.loc a), (("_dirs" : Str), PV.loc b)]))[x]? = some (.inst 227 d) := by rw [List.getElem?_set_ne (Ne.symm hxd)]; exact hx4
  have hd5 : (H4.set d (Cell.attrs [(("_mods" : Str), PV.loc a), (("_dirs" : Str), PV.loc b)]))[d]? = some (Cell.attrs [(("_mods" : Str), PV.loc a), (("_dirs" : Str), PV.loc b)]) := List.getElem?_set_self hd4l
  with_reducible refine WSS.cons ?_
  with_reducible refine WS.assign ?h0 ?hs ?hw ?ht
  case hs => rfl
  case hw => rfl
  case ht => rfl
  with_reducible refine WE.dict1 G ?_
  refine WA.attr G (WE.l hE rfl ⟨x, d, [(("_mods" : Str), PV.loc a), (("_dirs" : Str), PV.loc b)], rfl, get_app hx5 _, get_app hd5 _, rfl, by simp, CS.next (WSS.nil ?_)⟩)
  have eH : (H4.set d (Cell.attrs [(("_mods" : Str), PV.loc a), (("_dirs" : Str), PV.loc b)]) ++ [Cell.dict [(("<string>" : Str), PV.int 1)]]).set d (Cell.attrs ([(("_mods" : Str), PV.loc a), (("_dirs" : Str), PV.loc b)] ++ [(("_ignore" : Str), PV.loc (H4.set d (Cell.attrs [(("_mods" : Str), PV.loc a), (("_dirs" : Str), PV.loc b)])).length)])) =
      (H4 ++ [Cell.dict [(("<string>" : Str), PV.int 1)]]).set d (igAttrs a b H4.length) := by
    rw [List.set_append_left _ _ (by simpa using hd4l), List.set_set, List.set_append_left _ _ hd4l, List.length_set]; rfl
  rw [eH]
  have hX6 : Ext H4 (H4 ++ [Cell.dict [(("<string>" : Str), PV.int 1)]]) := (Ext.rfl' _).more _
  exact h _ a b H4.length led (hXH4.trans hX6) hXH4.le (hX6.get ha4) (hX6.get hb4) (by simp)

theorem c_newIg (G : Gd g) {m l : Nat} {ds : List Str} {Q : PV → List Cell → Prop} (hm : H[m]? = some (.list [])) (hl : H[l]? = some (.flist (ds.map .str))) (hdl : ds.length ≤ 1000) (hok : ∀ y ∈ ds, NormOk y)
    (h : ∀ H' n d c, Ext H H' → H.length ≤ n → H.length ≤ d → H.length ≤ c → TrAt H' n d c (ds.map normP) [("<string>", .int 1)] → Q (.loc n) H') : WC g (k + 6) (.ref 227) [.loc m, .loc l] H Q := by
  refine WC.newIg G ?_
  have hX : Ext H (H ++ [.attrs []] ++ [.inst 227 H.length]) := ((Ext.rfl' _).more _).more _
  refine c_init (d := H.length) G (by simp) (by simp) (hX.get hm) (hX.get hl) hdl hok fun H1 a b c led hX1 hc ha hb hc' => ⟨rfl, ?_⟩
  have hd1 : H1[H.length]? = some (.attrs []) := hX1.get (by simp)
  have hx1 : H1[H.length + 1]? = some (.inst 227 H.length) := hX1.get (by simp)
  have hfm : FM H1 (H1.set H.length (igAttrs a b c)) := FM.set hd1 rfl
  have hcl : H.length ≠ c := by simp at hc; omega
  refine h _ (H.length + 1) H.length c ((hX.trans hX1).set (Nat.le_refl _) _) (by omega) (Nat.le_refl _) (by simp at hc; omega) ⟨a, b, led, ?_, ?_, ?_, ?_, ?_⟩
  · exact hfm _ _ hx1 rfl
  · exact List.getElem?_set_self (List.getElem?_eq_some_iff.mp hd1).1
  · exact hfm _ _ ha rfl
  · exact hfm _ _ hb rfl
  · rw [List.getElem?_set_ne hcl]; exact hc'
end
end Mine

namespace Mine

noncomputable def underP (dirs : List Str) (f : Str) : Bool := dirs.any fun y => Txt.startswith f (y ++ "/")
noncomputable def namesV (dirs : List Str) (f : Str) : Int := if underP dirs f then 1 else 0

section
variable {g : Cfg} {k : Nat} {W β β' : List Addr} {env : Env} {ρ : Rho} {H H' : List Cell} {s s' : Shared} {names : List (Str × NameKind)}

theorem notin_of_lookup {α : Type} {x : Str} : ∀ {es : List (Str × α)}, es.lookup x = none → x ∉ es.map (·.1)
  | [], _ => by simp
  | (z, q) :: r, h => by
    rw [List.lookup_cons] at h
    cases hx : x == z with
    | true => rw [hx] at h; cases h
    | false =>
      rw [hx] at h
      rw [List.map_cons, List.mem_cons]
      rintro (rfl | hm)
      · simp at hx
      · exact notin_of_lookup h hm

set_option maxHeartbeats 1000000 in
theorem c_names (G : Gd g) {n d c : Nat} {dirs : List Str} {ig : List (Str × PV)} {f m : Str} {Q : PV → List Cell → Prop} (hT : TrAt H n d c dirs ig) (hnd : (ig.map (·.1)).Nodup) (hil : ig.length ≤ 100) (hdl : dirs.length ≤ 1000) (hdy : ∀ y ∈ dirs, y.length ≤ 90000)
    (hhit : ∀ p, ig.lookup m = some p → Q p H) (hmiss : ig.lookup m = none → Q (.int (namesV dirs f)) (H.set c (.dict (ig ++ [(m, .int (namesV dirs f))])))) :
    WC g (k + 1) (.ref 224) [.loc n, .str f, .str m] H Q := by
  refine WC.def (xs := ["self", "filename", "modulename"]) G rfl rfl rfl (by kernel_rfl) ?_ rfl (by decide) rfl rfl rfl rfl rfl rfl rfl rfl ?_
  · exact vs3 fun _ _ _ => rfl
  intro env hF hE
  dsimp only at hF hE
  obtain ⟨a, b, led, hn, hd, ha, hb, hc⟩ := hT
  refine WSS.cons (WS.ite (WT.cmp (WE.l hE rfl (WE.attr G (WE.l hE rfl ⟨n, d, _, c, rfl, hn, hd, rfl, WO2.inDict hc hnd ⟨_, rfl, ite_b (fun h1 => ?_) (fun h1 => ?_)⟩⟩)))))
  · obtain ⟨p, hp⟩ := Option.isSome_iff_exists.mp h1
    exact WSS.cons (WS.ret (WE.sub (WE.attr G (WE.l hE rfl ⟨n, d, _, c, rfl, hn, hd, rfl, WE.l hE rfl (WO2.base (WO2.getDict hc hnd hp (CS.ret (RQ (hhit p hp)))))⟩))))
  have hno : ig.lookup m = none := by
    cases e : ig.lookup m with
    | none => rfl
    | some p => rw [e] at h1; cases h1
  have hni := notin_of_lookup hno
  have hmiss := hmiss hno
  refine WSS.nil (CS.next ?_)
  refine WSS.cons (WS.ite (WT.cmp (WE.l hE rfl (WE.attr G (WE.l hE rfl ⟨n, d, _, a, rfl, hn, hd, rfl, WO2.inSet0 ha ⟨_, rfl, ?_⟩⟩)))))
  refine WSS.nil (CS.next ?_)
  refine WSS.cons (WS.forSet0 (WE.attr G (WE.l hE rfl ⟨n, d, _, a, rfl, hn, hd, rfl, a, led, rfl, ha, WSS.nil (CS.next ?_)⟩)))
  refine WSS.cons (WS.ite (WT.cmp (WE.l hE rfl (WE.nonec (WO2.isNone ⟨_, rfl, ?_⟩ (by simp))))))
  refine WSS.nil (CS.next ?_)
  refine WSS.cons (WS.forW (fun rest ρ' H' => ∃ td : List Str, And5 (rest = td.map .str) (∀ y ∈ td, y.length ≤ 90000) (underP td f = underP dirs f) (H' = H) (ρ' = ([("self", .loc n), ("filename", .str f), ("modulename", .str m)] : Rho))) ?_ ?_ ?_)
  · exact WE.attr G (WE.l hE rfl ⟨n, d, _, b, rfl, hn, hd, rfl, b, _, _, rfl, hb, rfl, by simp; omega, Up.mk ⟨dirs, rfl, hdy, rfl, rfl, rfl⟩ ⟨rfl, rfl, rfl, trivial⟩⟩)
  · rintro x rest ρ' H' ⟨td, e, hy, hu, rfl, rfl⟩
    cases td with
    | nil => cases e
    | cons y td =>
    simp only [List.map_cons, List.cons.injEq] at e
    obtain ⟨rfl, rfl⟩ := e
    have hyl := hy y List.mem_cons_self
    refine WA.nm hF ?_
    refine WSS.cons (WS.ite (WT.value (WE.meth (WE.l hE rfl ⟨GM.str PySem.F.slot_str_startswith PySem.F.type_str_startswith, WLs.one (WE.binop (WE.l hE rfl (WE.glb G hE (gl_sep _) (WO2.addS (by rw [len_app]; show _ + 1 ≤ _; omega) (WC.startswith (WT1.bool (ite_b (fun h2 => ?_) (fun h2 => ?_))))))))⟩))))
    · have hv : namesV dirs f = 1 := by
        rw [namesV, if_pos]
        rw [← hu, underP, List.any_cons, h2]; rfl
      rw [hv] at hmiss
      refine WSS.cons (WS.assign (WE.int (WA.itemD (WE.attr G (WE.l hE rfl ⟨n, d, _, c, rfl, hn, hd, rfl, WE.l hE rfl ⟨c, m, ig, rfl, rfl, hc, hnd, hni, by omega, CS.next ?_⟩⟩)))))
      exact WSS.cons (WS.ret (WE.int (CS.ret (CS.ret (LQ.ret (RQ hmiss))))))
    · refine WSS.nil (CS.next (WSS.nil (LQ.next (Up.mk ⟨td, rfl, fun y' h' => hy y' (List.mem_cons_of_mem _ h'), ?_, rfl, rfl⟩ ⟨rfl, rfl, rfl, trivial⟩))))
      rw [← hu, underP, underP, List.any_cons, h2]; rfl
  · rintro ρ' H' ⟨td, e, hy, hu, rfl, rfl⟩
    cases td with
    | cons _ _ => cases e
    | nil =>
    have hv : namesV dirs f = 0 := by
      rw [namesV, ← hu]; rfl
    rw [hv] at hmiss
    refine WSS.nil (CS.next ?_)
    refine WSS.cons (WS.assign (WE.int (WA.itemD (WE.attr G (WE.l hE rfl ⟨n, d, _, c, rfl, hn, hd, rfl, WE.l hE rfl ⟨c, m, ig, rfl, rfl, hc, hnd, hni, by omega, CS.next ?_⟩⟩)))))
    exact WSS.cons (WS.ret (WE.int (RQ hmiss)))
end
end Mine

namespace Mine

noncomputable def zerosP (n : Nat) : Str := if n = 0 then Str.empty else if n = 1 then "0" else ⟨(List.replicate n ("0" : Str).cps).foldl (· ++ ·) #[]⟩
noncomputable def ansS (a : Int) : Str := if a = 0 then "0" else "1"

theorem zeros_small : ∀ n : Nat, n ≤ 20 → (zerosP n).length ≤ 20 := by
  intro n hn
  have : ((List.range 21).all fun n => decide ((zerosP n).length ≤ 20)) = true := by decide +kernel
  have := List.all_eq_true.mp this n (List.mem_range.mpr (by omega))
  simpa using this

section
variable {g : Cfg} {k : Nat} {W β β' : List Addr} {env : Env} {ρ : Rho} {H H' : List Cell} {s s' : Shared} {names : List (Str × NameKind)}

theorem WO2.mulS0 {n : Nat} {Q : PV → List Cell → Prop} (hn : n ≤ 20) (h : Q (.str (zerosP n)) H) : WO2 g k (.str "0") (.int n) (binaryOp .Mult) H Q := by
  rintro A β s va vb hA S ⟨t, rfl⟩ ⟨u, rfl⟩
  have e24 : sizeLine = 16777216 := sizeLine_eq
  refine P.mul_str ?_ ?_ ?_ ?_
  · have h1 : ¬ ((n : Int) < -(2 ^ 63 : Int)) := by omega
    have h2 : ¬ ((n : Int) ≥ 2 ^ 63) := by omega
    rw [decide_eq_false h1, decide_eq_false h2]; rfl
  · intro h1 h2 h3
    have hl : (("0" : Str).length : Int) = 1 := by decide
    rw [hl] at h3
    have : (n : Int) ≤ 20 := by omega
    have h4 : (1 : Int) ≤ (2 ^ 63 - 1) / n := by
      rw [Int.le_ediv_iff_mul_le (by omega)]; omega
    omega
  · intro h1 h2
    have hl : ("0" : Str).length = 1 := by decide
    rw [hl]
    unfold PySem.Builtin.Str.tooLong
    simp only [Int.toNat_natCast, Nat.one_mul, decide_eq_false_iff_not]
    omega
  · have hz := zeros_small n hn
    by_cases h0 : n = 0
    · subst h0
      rw [if_pos (by decide)]
      exact ⟨by decide, PE.tok (pv := .str (zerosP 0)) S ⟨_, rfl⟩ h⟩
    · rw [if_neg (by omega)]
      by_cases h1 : n = 1
      · subst h1
        rw [if_pos (by decide)]
        exact PE.here (pv := .str (zerosP 1)) S ⟨_, rfl⟩ h
      · rw [if_neg (by
          have e1 : ((n : Int) == 1) = false := by rw [beq_eq_false_iff_ne]; omega
          rw [e1]; decide)]
        have e2 : zerosP n = ⟨(List.replicate n ("0" : Str).cps).foldl (· ++ ·) #[]⟩ := by rw [zerosP, if_neg h0, if_neg h1]
        rw [e2] at hz
        have e3 : ((n : Int)).toNat = n := by simp
        rw [e3]
        exact ⟨by rw [e24]; exact Nat.le_trans hz (by decide), PE.tok (pv := .str (zerosP n)) S ⟨_, by rw [e2]⟩ h⟩
theorem WC.reprI {a : Int} {Q : PV → List Cell → Prop} (ha : a = 0 ∨ a = 1) (h : Q (.str (ansS a)) H) : WC g k (.builtin "repr") [.int a] H Q := by
  intro A β s vs hA S V
  obtain ⟨v, rfl, ⟨t, rfl⟩⟩ := vls1 V
  refine P.repr_of_int (by rcases ha with rfl | rfl <;> decide) ?_
  have e : (toString a : Str) = ansS a := by rcases ha with rfl | rfl <;> rfl
  rw [e]
  exact PE.tok (pv := .str (ansS a)) S ⟨_, rfl⟩ h
end
end Mine

namespace Mine

noncomputable def lwBase (n : Nat) : Str := (["a", "/a"] : List Str).getD (n % 2) "a"
noncomputable def lwNums (vs : List Int) : List Int := [615, 22, 234, 689] ++ vs.take 4
noncomputable def lwWorld (vs : List Int) : List Rw × List Fl := worldP (lwBase vs.length) 0 (lwNums vs) ([], [])
noncomputable def lwRows (vs : List Int) : List Rw := (lwWorld vs).1
noncomputable def lwFiles (vs : List Int) : List Fl := (lwWorld vs).2
noncomputable def lwWay (vs : List Int) : Nat := vs.length % 3
noncomputable def lwBarred (vs : List Int) : List Bd := barredP (lwRows vs) (lwWay vs)
noncomputable def lwTops (vs : List Int) : List Bd := topsP (lwBarred vs)
noncomputable def listsP : List Bd → List Str → List Str
  | [], acc => acc
  | b :: bs, acc => listsP bs (if acc.contains b.2.1 then acc else acc ++ [b.2.1])
noncomputable def lwLists (vs : List Int) : List Str := listsP (lwTops vs) []
noncomputable def spells (bs : List Bd) : List Str := bs.map (·.2.2.1)
noncomputable def dirsOther (tops : List Bd) (l : Str) : List Str := (spells (tops.filter fun b => b.2.1 != l)).map normP
noncomputable def lwDirs (vs : List Int) : List (List Str) :=
  (spells (lwBarred vs) ++ (lwFiles vs).map (·.2.1)).map normP :: (spells (lwTops vs)).map normP :: (lwLists vs).map (dirsOther (lwTops vs))
noncomputable def unitP (way : Nat) : Nat := ([64, 8, 1] : List Nat).getD way 1
noncomputable def igNext (dirs : List Str) (ig : List (Str × Int)) (f : Fl) : List (Str × Int) := match ig.lookup f.2.2.2 with
  | some _ => ig
  | none => ig ++ [(f.2.2.2, namesV dirs f.2.1)]
noncomputable def igOf (dirs : List Str) (pre : List Fl) : List (Str × Int) := pre.foldl (igNext dirs) [("<string>", 1)]
noncomputable def answerP (dirs : List Str) (pre : List Fl) (f : Fl) : Int := ((igOf dirs pre).lookup f.2.2.2).getD (namesV dirs f.2.1)
noncomputable def firstFile (files : List Fl) (stem : Str) : List Str := (((files.filter fun f => f.2.2.2 == stem).map (·.1)).head?).getD []
noncomputable def dueP (vs : List Int) (f : Fl) : Str := firstBarP (lwRows vs) (firstFile (lwFiles vs) f.2.2.2) (unitP (lwWay vs))
noncomputable def wantedP (lists : List Str) (due : Str) : Str := if due != "" then "11" ++ Txt.join "" (lists.map fun l => if l == due then "0" else "1") else "00" ++ zerosP lists.length

structure LawOk (vs : List Int) : Prop where
  world : WorldOk (lwBase vs.length)
  fm : FmOk
  rows : ∀ r ∈ lwRows vs, r.2.1 < 65536 ∧ NormOk r.2.2 ∧ OkL r.1 = true
  nrows : (lwRows vs).length ≤ 15
  pairs : ∀ b ∈ lwBarred vs, ∀ c ∈ lwBarred vs, PairOk (lwBase vs.length) b c
  nfiles : (lwFiles vs).length ≤ 15
  files : ∀ f ∈ lwFiles vs, f.2.1 = Txt.join "/" (([lwBase vs.length] ++ f.1) ++ [f.2.2.1]) ∧ modP f.2.1 = f.2.2.2 ∧ NormOk f.2.1 ∧ f.2.1.length ≤ 1000 ∧ f.1.length ≤ 100 ∧ OkL f.1 = true ∧ JoinOk "/" (([lwBase vs.length] ++ f.1) ++ [f.2.2.1]) = true
  norms : ∀ y, y ∈ spells (lwBarred vs) ∨ y ∈ (lwFiles vs).map (·.2.1) → (normP y).length ≤ 90000
  lists : ∀ b ∈ lwTops vs, OkS b.2.1 = true
  ans : ∀ pre f post, lwFiles vs = pre ++ f :: post → (∀ dirs ∈ lwDirs vs, answerP dirs pre f = 0 ∨ answerP dirs pre f = 1) ∧ Txt.join "" ((lwDirs vs).map fun dirs => ansS (answerP dirs pre f)) = wantedP (lwLists vs) (dueP vs f)

/-! tracers on the heap -/
noncomputable def igCell (ig : List (Str × Int)) : List (Str × PV) := ig.map fun q => (q.1, .int q.2)
theorem igCell_fst (ig : List (Str × Int)) : (igCell ig).map (·.1) = ig.map (·.1) := by simp [igCell]
theorem igCell_lookup (x : Str) : ∀ ig : List (Str × Int), (igCell ig).lookup x = (ig.lookup x).map .int
  | [] => rfl
  | (y, v) :: r => by
    show ((y, PV.int v) :: igCell r).lookup x = _
    rw [List.lookup_cons, List.lookup_cons]
    cases x == y with
    | true => rfl
    | false => exact igCell_lookup x r
noncomputable def NL (H H' : List Cell) : Prop := ∀ (i : Nat) (c : Cell), H[i]? = some c → (∀ xs, c ≠ Cell.list xs) → H'[i]? = some c
theorem Ext.nl {H H' : List Cell} (h : Ext H H') : NL H H' := fun _ _ e _ => h.get e
theorem NL.set {H : List Cell} {j : Nat} {xs : List PV} {c' : Cell} (e : H[j]? = some (.list xs)) : NL H (H.set j c') := fun i c ei hc => by
  have : j ≠ i := by rintro rfl; rw [e] at ei; cases ei; exact hc _ rfl
  rw [List.getElem?_set_ne this]; exact ei
theorem NL.trans {H H' H'' : List Cell} (a : NL H H') (b : NL H' H'') : NL H H'' := fun i c e hc => b i c (a i c e hc) hc
theorem TrAt.nl {H H' : List Cell} (h : NL H H') {n d c : Nat} {dirs : List Str} {ig : List (Str × PV)} : TrAt H n d c dirs ig → TrAt H' n d c dirs ig
  | ⟨a, b, led, h1, h2, h3, h4, h5⟩ => ⟨a, b, led, h _ _ h1 (by simp), h _ _ h2 (by simp), h _ _ h3 (by simp), h _ _ h4 (by simp), h _ _ h5 (by simp)⟩
theorem TrAt.other {H : List Cell} {n d c c' : Nat} {dirs : List Str} {ig y z : List (Str × PV)} (hc : H[c]? = some (.dict y)) (hne : c ≠ c') : TrAt H n d c' dirs ig → TrAt (H.set c (.dict z)) n d c' dirs ig
  | ⟨a, b, led, h1, h2, h3, h4, h5⟩ => by
    have k : ∀ (i : Nat) (x : Cell), H[i]? = some x → (∀ es, x ≠ Cell.dict es) → (H.set c (.dict z))[i]? = some x := fun i x e hx => by
      have : c ≠ i := by rintro rfl; rw [hc] at e; cases e; exact hx _ rfl
      rw [List.getElem?_set_ne this]; exact e
    exact ⟨a, b, led, k _ _ h1 (by simp), k _ _ h2 (by simp), k _ _ h3 (by simp), k _ _ h4 (by simp), by rw [List.getElem?_set_ne hne]; exact h5⟩
theorem TrAt.own {H : List Cell} {n d c : Nat} {dirs : List Str} {ig z : List (Str × PV)} : TrAt H n d c dirs ig → TrAt (H.set c (.dict z)) n d c dirs z
  | ⟨a, b, led, h1, h2, h3, h4, h5⟩ => by
    have k : ∀ (i : Nat) (x : Cell), H[i]? = some x → (∀ es, x ≠ Cell.dict es) → (H.set c (.dict z))[i]? = some x := fun i x e hx => by
      have : c ≠ i := by rintro rfl; rw [h5] at e; cases e; exact hx _ rfl
      rw [List.getElem?_set_ne this]; exact e
    exact ⟨a, b, led, k _ _ h1 (by simp), k _ _ h2 (by simp), k _ _ h3 (by simp), k _ _ h4 (by simp), List.getElem?_set_self (List.getElem?_eq_some_iff.mp h5).1⟩
theorem TrAt.dict {H : List Cell} {n d c : Nat} {dirs : List Str} {ig : List (Str × PV)} (h : TrAt H n d c dirs ig) : H[c]? = some (.dict ig) := let ⟨_, _, _, _, _, _, _, h5⟩ := h; h5
noncomputable abbrev Tr := List Str × List (Str × Int)
noncomputable def Trs (H : List Cell) : List PV → List Tr → List Nat → Prop
  | [], [], [] => True
  | p :: ps, t :: ts, c :: cs => (∃ n d, p = .loc n ∧ TrAt H n d c t.1 (igCell t.2)) ∧ Trs H ps ts cs
  | _, _, _ => False
theorem Trs.nl {H H' : List Cell} (h : NL H H') : ∀ {ps : List PV} {ts : List Tr} {cs : List Nat}, Trs H ps ts cs → Trs H' ps ts cs
  | [], [], [], _ => trivial
  | _ :: _, _ :: _, _ :: _, ⟨⟨n, d, e, t⟩, r⟩ => ⟨⟨n, d, e, t.nl h⟩, r.nl h⟩
  | [], _ :: _, _, x => x.elim
  | [], [], _ :: _, x => x.elim
  | _ :: _, [], _, x => x.elim
  | _ :: _, _ :: _, [], x => x.elim
theorem Trs.snoc {H : List Cell} {p : PV} {t : Tr} {c n d : Nat} (e : p = .loc n) (ht : TrAt H n d c t.1 (igCell t.2)) : ∀ {ps : List PV} {ts : List Tr} {cs : List Nat}, Trs H ps ts cs → Trs H (ps ++ [p]) (ts ++ [t]) (cs ++ [c])
  | [], [], [], _ => ⟨⟨n, d, e, ht⟩, trivial⟩
  | _ :: _, _ :: _, _ :: _, ⟨x, r⟩ => ⟨x, r.snoc e ht⟩
  | [], _ :: _, _, x => x.elim
  | [], [], _ :: _, x => x.elim
  | _ :: _, [], _, x => x.elim
  | _ :: _, _ :: _, [], x => x.elim
theorem Trs.other {H : List Cell} {c : Nat} {y z : List (Str × PV)} (hc : H[c]? = some (.dict y)) : ∀ {ps : List PV} {ts : List Tr} {cs : List Nat}, c ∉ cs → Trs H ps ts cs → Trs (H.set c (.dict z)) ps ts cs
  | [], [], [], _, _ => trivial
  | _ :: _, _ :: _, c' :: cs, hn, ⟨⟨n, d, e, t⟩, r⟩ => by
    rw [List.mem_cons] at hn
    exact ⟨⟨n, d, e, t.other hc (fun h => hn (.inl h))⟩, r.other hc (fun h => hn (.inr h))⟩
  | [], _ :: _, _, _, x => x.elim
  | [], [], _ :: _, _, x => x.elim
  | _ :: _, [], _, _, x => x.elim
  | _ :: _, _ :: _, [], _, x => x.elim
theorem Trs.len {H : List Cell} : ∀ {ps : List PV} {ts : List Tr} {cs : List Nat}, Trs H ps ts cs → ps.length = ts.length
  | [], [], [], _ => rfl
  | _ :: _, _ :: _, _ :: _, ⟨_, r⟩ => by simp [r.len]
  | [], _ :: _, _, x => x.elim
  | [], [], _ :: _, x => x.elim
  | _ :: _, [], _, x => x.elim
  | _ :: _, _ :: _, [], x => x.elim
theorem Trs.lt {H : List Cell} : ∀ {ps : List PV} {ts : List Tr} {cs : List Nat}, Trs H ps ts cs → ∀ c ∈ cs, c < H.length
  | [], [], [], _ => by simp
  | _ :: _, _ :: _, c' :: cs, ⟨⟨n, d, e, t⟩, r⟩ => fun c hc => by
    rcases List.mem_cons.mp hc with rfl | hc
    · exact (List.getElem?_eq_some_iff.mp t.dict).1
    · exact r.lt c hc
  | [], _ :: _, _, x => x.elim
  | [], [], _ :: _, x => x.elim
  | _ :: _, [], _, x => x.elim
  | _ :: _, _ :: _, [], x => x.elim

theorem igOf_len (dirs : List Str) (pre : List Fl) : (igOf dirs pre).length ≤ pre.length + 1 := by
  have : ∀ (l : List Fl) (ig : List (Str × Int)), (l.foldl (igNext dirs) ig).length ≤ l.length + ig.length := by
    intro l
    induction l with
    | nil => intro ig; simp
    | cons f l ih =>
      intro ig
      rw [List.foldl_cons]
      have h1 := ih (igNext dirs ig f)
      have h2 : (igNext dirs ig f).length ≤ ig.length + 1 := by
        unfold igNext; split
        · omega
        · simp
      simp only [List.length_cons]; omega
  exact this pre _
theorem igOf_nodup (dirs : List Str) (pre : List Fl) : ((igOf dirs pre).map (·.1)).Nodup := by
  have : ∀ (l : List Fl) (ig : List (Str × Int)), (ig.map (·.1)).Nodup → ((l.foldl (igNext dirs) ig).map (·.1)).Nodup := by
    intro l
    induction l with
    | nil => intro ig h; exact h
    | cons f l ih =>
      intro ig h
      rw [List.foldl_cons]
      refine ih _ ?_
      unfold igNext
      split
      · exact h
      · rename_i hn
        rw [List.map_append, List.nodup_append]
        refine ⟨h, by simp, fun a ha b hb => ?_⟩
        simp at hb
        subst hb
        rintro rfl
        exact notin_of_lookup hn ha
  exact this pre _ (by simp)
theorem igOf_snoc (dirs : List Str) (pre : List Fl) (f : Fl) : igOf dirs (pre ++ [f]) = igNext dirs (igOf dirs pre) f := by
  unfold igOf; rw [List.foldl_append]; rfl

section
variable {g : Cfg} {k : Nat} {W β β' : List Addr} {env : Env} {ρ : Rho} {H H' : List Cell} {s s' : Shared} {names : List (Str × NameKind)}

/-- [one[2] for one in bs] -/
theorem WE.spells (hE : EOk names env) {iter : Expr} {c1 : Nat} {px p1 p2 p3 pos : Pos} {scope : Scope} {Q : PV → List Cell → Prop} (h0 : ρ.lookup (".0" : Str) = none)
    (hit : WE g k env iter ρ H (fun p H1 => Ex3 fun B ps bds => And5 (p = .loc B) (H1[B]? = some (.flist ps)) (BdsAt H1 ps bds) (ps.length ≤ 1000) (Q (.loc H1.length) (H1 ++ [.list ((Mine.spells bds).map .str)]))))
    (hfree : freeIn scope names = true := by rfl) (hcell : (scope.names.all fun p => p.2 != .cell) = true := by rfl)
    (hkind : scope.kind = .function := by rfl) (hn : compNames "one" scope.names = true := by rfl) (hx : scope.names.lookup ("one" : Str) = some NameKind.local := by rfl)
    (hs : ∀ x, foldedSetIterable iter env x = pure x := by intro _; rfl) :
    WE g k env (.ListComp (.Subscript (.Name "one" p1) (.Constant (.int 2) c1 p2) p3) [⟨.Name "one" px, iter, [], 0⟩] scope pos) ρ H Q := by
  refine WE.compE hE (fun rest acc H' => Ex2 fun bds dn => And3 (BdsAt H' rest bds) (acc = (Mine.spells dn).map .str) (Q (.loc H'.length) (H' ++ [.list ((Mine.spells (dn ++ bds)).map .str)]))) h0 (hit.mono fun p H1 ⟨B, ps, bds, e, hB, hBd, hl, q⟩ => ⟨B, .flist ps, ps, e, hB, rfl, by omega, bds, [], hBd, rfl, q⟩) ?_ ?_ hfree hcell hkind hn hx (by decide) hs
  · rintro y rest acc H2 ⟨bds, dn, hB, rfl, q⟩ cenv hC
    cases bds with
    | nil => exact hB.elim
    | cons b bds =>
    obtain ⟨⟨n, w, e, hn', hw⟩, hB⟩ := hB
    subst e
    exact WIfs.no (WE.sub (WE.l hC rfl (WE.int (WO2.itemL (p := .str b.2.2.1) (.inr hn') (by decide) (by decide) rfl ⟨bds, dn ++ [b], hB, by simp [Mine.spells], by simpa using q⟩)) hx))
  · rintro acc H2 ⟨bds, dn, hB, rfl, q⟩ -
    cases bds with
    | cons _ _ => exact hB.elim
    | nil => simpa using q
end
end Mine

namespace Mine

/-- a call, as the machine's own step -/
noncomputable def CC (g : Cfg) (k : Nat) (f : Value) (ps : List PV) (H : List Cell) (Q : PV → List Cell → Prop) : Prop :=
  ∀ A β s vs, Rm k A → SimG g β H s → Vls β ps vs → codeAny g.M A (.call f ⟨vs, []⟩) (fun r s' => match r with | .ok (.ret v) => PE g β H s Q v s' | .ok _ => False | .error e => noE e s') s

section
variable {g : Cfg} {k : Nat} {W β β' : List Addr} {env : Env} {ρ : Rho} {H H' : List Cell} {s s' : Shared}
theorem CC.fn (G : Gd g) {f : Addr} {o : Obj} {fd : FuncData} {body : List Stmt} {names : List Str} {ps : List PV} {Q : PV → List Cell → Prop}
    (hl : (KK g.w.params).lookup f = some o) (hd : o.data = .func fd) (hbody : fd.body = .stmts body) (hcode : codeIn (KK g.w.params) fd.code fd.qualname = true)
    (hbind : ∀ vs : List Value, vs.length = names.length → bindArgs fd ⟨vs, []⟩ = pure (names.zip vs)) (hlen : ps.length = names.length) (hnd : names.Nodup)
    (hclo : fd.closure = []) (hk : fd.scope.kind = .function) (hg : fd.globals = mainGlobals) (hb : fd.builtins = builtinsNs) (hco : fd.scope.isCoroutine = false) (hgen : fd.scope.isGenerator = false)
    (hp : (names.all fun x => decide (fd.scope.names.lookup x = some .local) || decide (fd.scope.names.lookup x = some .cell)) = true)
    (h : ∀ env, EnvOk fd.scope.names env → WSS g k (Wf env) env body (names.zip ps) H (retQ Q)) : CC g (k + 1) (.ref f) ps H Q := by
  intro A β s vs hA S V
  have hB : ∀ {ns : List Str} {ps : List PV} {vs : List Value}, Vls β ps vs → ps.length = ns.length → Binds β (ns.zip ps) (ns.zip vs) := by
    intro ns
    induction ns with
    | nil => intro ps vs _ _; simp [Binds]
    | cons n r ih =>
      intro ps vs V e
      cases ps with
      | nil => cases e
      | cons p ps =>
      cases vs with
      | nil => exact V.elim
      | cons v vs => exact ⟨rfl, V.1, ih V.2 (Nat.succ.inj e)⟩
  have hkeys : (names.zip ps).map (·.1) = names := by rw [List.map_fst_zip]; omega
  refine (codeAny_call_cells (o := o) (binds := names.zip vs) hA.depth (S.base _ _ (G.K _ _ hl)) hd (G.nolimit.keeps S.base) ((codeRec_of G.K hcode).keeps S.base) hbody (hbind vs (by rw [V.len, hlen])) hclo ?_ (fun s₁ x => ?_) hco hgen hk)
  · intro x hx
    have := List.all_eq_true.mp hp x.1 (List.of_mem_zip hx).1
    simp only [Bool.or_eq_true, decide_eq_true_eq] at this
    rcases this with e | e
    · exact .inl e
    · exact .inr ⟨e, cellsFrom_some _ _ _ (.inl (mem_of_lookup e))⟩
  · have hkp := x.toInCall.keep
    obtain ⟨h₁, tk₁, rfl⟩ := x.toInCall.same
    have S₁ : SimG g β H { s with heap := h₁, toks := tk₁ } := S.grow hkp
    refine wpAny_mono (h _ (EnvOk.of_call hk) _ β _ hA.deeper S₁ (Frm.enter S hk hg hb (by rw [hkeys]; exact hnd) (hB V hlen) x)) (fun fl s' hs => ?_) (fun _ _ x => x.elim)
    obtain ⟨β', H', ρ', af, T, F', R, q⟩ := hs
    have T' : StepG g [] β H s β' H' s' := T.fresh S (fun a ha => by
      rcases List.mem_cons.mp ha with rfl | ha
      · exact get_size_none _
      · obtain ⟨⟨n, kd⟩, _, hm⟩ := List.mem_filterMap.mp ha
        exact get_none_of_le (Nat.le_of_lt (x.above n a (mem_of_lookup hm)))) hkp
    cases af with
    | next => obtain rfl := R; exact ⟨β', H', .none, T', rfl, q⟩
    | brk => obtain rfl := R; exact ⟨β', H', .none, T', rfl, q⟩
    | cont => obtain rfl := R; exact ⟨β', H', .none, T', rfl, q⟩
    | ret p => obtain ⟨v, rfl, hv⟩ := R; exact ⟨β', H', p, T', hv, q⟩
theorem CC.def (G : Gd g) {f : Addr} {o : Obj} {fd : FuncData} {body : List Stmt} {xs : List Str} {ps : List PV} {Q : PV → List Cell → Prop}
    (hl : (KK g.w.params).lookup f = some o) (hd : o.data = .func fd) (hbody : fd.body = .stmts body) (hcode : codeIn (KK g.w.params) fd.code fd.qualname = true)
    (hbind : ∀ vs : List Value, vs.length = xs.length → bindArgs fd ⟨vs, []⟩ = pure (xs.zip vs)) (hlen : ps.length = xs.length) (hnd : xs.Nodup)
    (hclo : fd.closure = []) (hk : fd.scope.kind = .function) (hg : fd.globals = mainGlobals) (hb : fd.builtins = builtinsNs) (hco : fd.scope.isCoroutine = false) (hgen : fd.scope.isGenerator = false)
    (hp : (xs.all fun x => decide (fd.scope.names.lookup x = some .local) || decide (fd.scope.names.lookup x = some .cell)) = true) (hf : (fd.scope.names.all fun p => p.2 != .free) = true)
    (h : ∀ env, FOk fd.scope.names env → EOk fd.scope.names env → WSS g k (Wf env) env body (xs.zip ps) H (retQ Q)) : CC g (k + 1) (.ref f) ps H Q :=
  CC.fn G hl hd hbody hcode hbind hlen hnd hclo hk hg hb hco hgen hp fun env hE => h env (hE.fok hf) (hE.fok hf).eok
end
end Mine

namespace Mine

section
variable {g : Cfg} {k : Nat} {W β β' : List Addr} {env : Env} {ρ : Rho} {H H' : List Cell} {s s' : Shared} {names : List (Str × NameKind)}

theorem barred_mem {rows : List Rw} {way : Nat} {b : Bd} (h : b ∈ barredP rows way) : ∃ r ∈ rows, b.2.2.1 = r.2.2 := by
  obtain ⟨r, hr, e⟩ := List.mem_filterMap.mp h
  refine ⟨r, hr, ?_⟩
  unfold barHit at e
  split at e
  · cases e; rfl
  · cases e
theorem foldl_len (sep : Str) (M : Nat) : ∀ (xs : List Str) (acc : Nat), (∀ x ∈ xs, x.length ≤ M) → xs.foldl (· + ·.length + sep.length) acc ≤ acc + xs.length * (M + sep.length)
  | [], acc, _ => by simp
  | x :: xs, acc, h => by
    rw [List.foldl_cons]
    have h1 := foldl_len sep M xs (acc + x.length + sep.length) fun y hy => h y (List.mem_cons_of_mem _ hy)
    have h2 := h x List.mem_cons_self
    simp only [List.length_cons, Nat.add_mul, Nat.one_mul]
    omega
theorem joinOk_of {sep : Str} {xs : List Str} {M : Nat} (h : ∀ x ∈ xs, x.length ≤ M) (hl : xs.length * (M + sep.length) ≤ 1000000) : JoinOk sep xs = true := by
  unfold JoinOk PySem.Builtin.Str.tooLong
  have h1 := foldl_len sep M xs 0 h
  have e24 : sizeLine = 16777216 := sizeLine_eq
  simp only [Bool.not_eq_true', decide_eq_false_iff_not]
  rw [List.foldl_toArray]
  omega
theorem joinOk_ones {xs : List Str} (h : ∀ x ∈ xs, x.length ≤ 1) (hl : xs.length ≤ 100) : JoinOk "" xs = true :=
  joinOk_of h (by show _ * (1 + 0) ≤ _; omega)
theorem sum_le : ∀ {xs : List Str}, (∀ x ∈ xs, x.length ≤ 1) → (xs.map (·.length)).sum ≤ xs.length
  | [], _ => by simp
  | x :: xs, h => by
    have h1 := h x List.mem_cons_self
    have h2 := sum_le fun y hy => h y (List.mem_cons_of_mem _ hy)
    simp only [List.map_cons, List.sum_cons, List.length_cons]
    omega
theorem join_ones {xs : List Str} (h : ∀ x ∈ xs, x.length ≤ 1) : (Txt.join "" xs).length ≤ xs.length := by
  have h1 := StrLaws.join_length_le "" xs
  have h2 := sum_le h
  have e0 : ("" : Str).length = 0 := rfl
  rw [e0] at h1
  have e : Txt.join "" xs = Str.join "" xs := StrLaws.glued_eq_join _ _
  rw [e]
  omega
theorem clip4 (n : Nat) : clipAt n 4 = min 4 n := by
  have := clipAt_cast n 4
  split at this <;> omega
noncomputable def rho15_0 (vs : List Int) (R : Nat) (F : Nat) : Rho := [("base", .str (lwBase vs.length)), ("way", .int (lwWay vs)), ("rows", .loc R), ("files", .loc F)]
noncomputable def rho15_1 (vs : List Int) (R : Nat) (F : Nat) (B : Nat) (T : Nat) (L : Nat) : Rho := [("base", .str (lwBase vs.length)), ("way", .int (lwWay vs)), ("rows", .loc R), ("files", .loc F), ("barred", .loc B), ("tops", .loc T), ("listings", .loc L)]
noncomputable def rho15_2 (vs : List Int) (R : Nat) (F : Nat) (T : Nat) (L : Nat) (TR : Nat) : Rho := [("base", .str (lwBase vs.length)), ("way", .int (lwWay vs)), ("rows", .loc R), ("files", .loc F), ("tops", .loc T), ("listings", .loc L), ("tracers", .loc TR)]
noncomputable def rho15_3 (vs : List Int) (R : Nat) (F : Nat) (L : Nat) (TR : Nat) : Rho := [("base", .str (lwBase vs.length)), ("way", .int (lwWay vs)), ("rows", .loc R), ("files", .loc F), ("listings", .loc L), ("tracers", .loc TR)]
noncomputable def rho15_4 (vs : List Int) (R : Nat) (F : Nat) (L : Nat) (TR : Nat) (w : Nat) (f : Fl) : Rho := [("base", .str (lwBase vs.length)), ("way", .int (lwWay vs)), ("rows", .loc R), ("files", .loc F), ("listings", .loc L), ("tracers", .loc TR), ("words", .loc w), ("path", .str f.2.1), ("called", .str f.2.2.1), ("stem", .str f.2.2.2), ("name", .str f.2.2.2)]
noncomputable def rho15_5 (vs : List Int) (R : Nat) (F : Nat) (L : Nat) (TR : Nat) (f : Fl) (due : Str) : Rho := [("base", .str (lwBase vs.length)), ("way", .int (lwWay vs)), ("rows", .loc R), ("files", .loc F), ("listings", .loc L), ("tracers", .loc TR), ("path", .str f.2.1), ("name", .str f.2.2.2), ("due", .str due)]
noncomputable def rho15_6 (vs : List Int) (R : Nat) (F : Nat) (L : Nat) (TR : Nat) (f : Fl) (due : Str) : Rho := [("base", .str (lwBase vs.length)), ("way", .int (lwWay vs)), ("rows", .loc R), ("files", .loc F), ("listings", .loc L), ("tracers", .loc TR), ("path", .str f.2.1), ("name", .str f.2.2.2), ("wanted", .str (wantedP (lwLists vs) due))]
set_option maxHeartbeats 4000000 in
theorem c_law (G : Gd g) {l : Nat} {vs : List Int} {Q : PV → List Cell → Prop} (hl : H[l]? = some (.flist (vs.map .int))) (hv : vs.length ≤ 1000) (LO : LawOk vs) (h : ∀ H', Q (.bool true) H') : CC g (k + 9) (.ref 330) [.loc l] H Q := by
  refine CC.def (xs := ["script"]) G rfl rfl rfl (by kernel_rfl) ?_ rfl (by decide) rfl rfl rfl rfl rfl rfl rfl rfl ?_
  · exact vs1 fun _ => rfl
  intro env hF hE
  dsimp only at hF hE
  have elen : (((vs.map PV.int).length : Nat) : Int) = ((vs.length : Nat) : Int) := by simp
  -- base
  refine WSS.cons (WS.asg hF (WE.sub (WE.list (WLs.strs (ss := ["a", "/a"]) rfl ⟨by decide, WE.binop (WE.callB G hE (gn_len _) bb_len (WLs.one (WE.l hE rfl (WC.lenL (.inr (get_app hl _)) (by simp; omega) ?_))))⟩))))
  rw [elen]
  refine WE.int (WO2.modN (a := vs.length) (b := 2) (by decide) (WO2.base ?_))
  refine WO2.itemL (i := ((vs.length % 2 : Nat) : Int)) (p := .str (lwBase vs.length)) (xs := (["a", "/a"] : List Str).map .str) (.inl (by simp)) (Int.natCast_nonneg _) (by omega) (getD_map PV.str ["a", "/a"] "a" (by show vs.length % 2 < 2; omega)) (CS.next ?_)
  have hX1 : Ext H (H ++ [Cell.list ((["a", "/a"] : List Str).map PV.str)]) := (Ext.rfl' _).more _
  generalize H ++ [Cell.list ((["a", "/a"] : List Str).map PV.str)] = H1 at hX1 ⊢
  have hl1 := hX1.get hl
  -- way
  refine WSS.cons (WS.asg hF (WE.binop (WE.callB G hE (gn_len _) bb_len (WLs.one (WE.l hE rfl (WC.lenL (.inr hl1) (by simp; omega) ?_))))))
  rw [elen]
  refine WE.int (WO2.modN (a := vs.length) (b := 3) (by decide) (CS.next ?_))
  -- rows, files
  refine WSS.cons (WS.assign (WE.callK G hE (gl__law_world _) (kp_290 _) (WLs.two (WE.freezeNew (WE.binop (WE.list (WLs.cons (WE.int (WLs.cons (WE.int (WLs.cons (WE.int (WLs.cons (WE.int (WLs.nil ⟨by simp, ?_⟩)))))))))))))))
  have hX2 : Ext H1 (H1 ++ [Cell.list [.int 615, .int 22, .int 234, .int 689]]) := (Ext.rfl' _).more _
  have hnum : (H1 ++ [Cell.list [.int 615, .int 22, .int 234, .int 689]])[H1.length]? = some (.list [.int 615, .int 22, .int 234, .int 689]) := by simp
  generalize H1.length = z1 at hnum ⊢
  generalize H1 ++ [Cell.list [.int 615, .int 22, .int 234, .int 689]] = H2 at hX2 hnum ⊢
  refine WE.sliceL (WE.l hE rfl (WPt.no (WPt.so (WE.int ⟨4, rfl, l, vs.map .int, rfl, .inr (hX2.get hl1), by simp; omega, ?_⟩))))
  have eT : ((vs.map PV.int).drop 0).take ((clipAt (vs.map PV.int).length 4) - 0) = (vs.take 4).map .int := by
    rw [List.length_map, clip4, List.drop_zero, Nat.sub_zero, List.map_take]
    rcases Nat.le_total 4 vs.length with h4 | h4
    · rw [Nat.min_eq_left h4]
    · rw [Nat.min_eq_right h4, List.take_of_length_le (by simp), List.take_of_length_le (by simpa using h4)]
  simp only [Option.elim]
  rw [eT]
  refine WO2.addL (xs := [.int 615, .int 22, .int 234, .int 689]) (ys := (vs.take 4).map .int) (.inl (get_app hnum _)) (.inl (by simp)) (by simp; omega) ⟨_, _, rfl, rfl, ?_⟩
  have eN : [PV.int 615, .int 22, .int 234, .int 689] ++ (vs.take 4).map PV.int = (lwNums vs).map .int := by simp [lwNums]
  rw [eN]
  have hX3 : Ext H2 (H2 ++ [Cell.list ((vs.take 4).map PV.int)] ++ [Cell.flist ((lwNums vs).map PV.int)]) := ((Ext.rfl' _).more _).more _
  have hN3 : (H2 ++ [Cell.list ((vs.take 4).map PV.int)] ++ [Cell.flist ((lwNums vs).map PV.int)])[(H2 ++ [Cell.list ((vs.take 4).map PV.int)]).length]? = some (.flist ((lwNums vs).map .int)) := by simp
  generalize (H2 ++ [Cell.list ((vs.take 4).map PV.int)]).length = z2 at hN3 ⊢
  generalize H2 ++ [Cell.list ((vs.take 4).map PV.int)] ++ [Cell.flist ((lwNums vs).map PV.int)] = H3 at hX3 hN3 ⊢
  have hnl : (lwNums vs).length ≤ 8 := by simp [lwNums]; omega
  refine WE.l hE rfl (c_world G hN3 hnl LO.world fun H4 R F ps qs hX4 hR hRA hF4 hFA => ?_)
  have hR0 : RowsAt H4 ps (lwRows vs) := hRA
  have hF0 : FlsAt H4 qs (lwFiles vs) := hFA
  refine WA.unpack (ps := [.loc R, .loc F]) (.inl (by simp)) rfl (WA.nm hF (WA.nm hF (CS.next ?_)))
  have hX5 : Ext H4 (H4 ++ [Cell.tup [.loc R, .loc F]]) := (Ext.rfl' _).more _
  generalize H4 ++ [Cell.tup [.loc R, .loc F]] = H5 at hX5 ⊢
  have hR5 := hX5.get hR
  have hF5 := hX5.get hF4
  have hRA5 := hR0.ext hX5
  have hFA5 := hF0.fm hX5.fm
  clear hX1 hX2 hX3 hX4 hX5 hR hRA hF4 hFA hR0 hF0 hN3 hnum hl1 eN eT elen
  have hpl : ps.length ≤ 15 := by rw [hRA5.len]; exact LO.nrows
  have hql : qs.length ≤ 15 := by rw [hFA5.len]; exact LO.nfiles
  have hway : lwWay vs < 3 := Nat.mod_lt _ (by decide)
  refine WSS.weak (ρ' := (rho15_0 vs R F)) (SubL.sub ⟨rfl, rfl, rfl, rfl, trivial⟩) ?_
  -- barred
  refine WSS.cons (WS.asg hF (WE.callK G hE (gl__law_barred _) (kp_311 _) (WLs.two (WE.l hE rfl (WE.l hE rfl (c_barred G LO.fm hR5 hRA5 hway (by omega) (fun r hr => ⟨(LO.rows r hr).1, (LO.rows r hr).2.1⟩) fun H6 B bs hX6 hB6 hBA6 => ?_))))))
  have hBA : BdsAt H6 bs (lwBarred vs) := hBA6
  have hR6 := hX6.get hR5
  have hF6 := hX6.get hF5
  have hRA6 := hRA5.ext hX6
  have hFA6 := hFA5.fm hX6.fm
  clear hX6 hR5 hF5 hRA5 hFA5 hBA6
  have hbl : bs.length ≤ 15 := by
    rw [hBA.len]
    exact Nat.le_trans (List.length_filterMap_le _ _) LO.nrows
  -- tops
  refine CS.next (WSS.cons (WS.asg hF (WE.callK G hE (gl__law_tops _) (kp_325 _) (WLs.two (WE.l hE rfl (WE.l hE rfl (c_tops G hB6 hBA (by omega) LO.pairs fun H7 T ts hX7 hT7 hTA7 htl => ?_)))))))
  have hTA : BdsAt H7 ts (lwTops vs) := hTA7
  have hR7 := hX7.get hR6
  have hF7 := hX7.get hF6
  have hB7 := hX7.get hB6
  have hRA7 := hRA6.ext hX7
  have hFA7 := hFA6.fm hX7.fm
  have hBA7 := hBA.fm hX7.fm
  clear hX7 hR6 hF6 hB6 hRA6 hFA6 hBA hTA7
  have htl15 : ts.length ≤ 15 := by
    rw [hTA.len]
    refine Nat.le_trans (List.length_filter_le _ _) (Nat.le_trans (List.length_filterMap_le _ _) LO.nrows)
  refine CS.next (WSS.cons (WS.ite (WT.cmp (WE.l hE rfl (WE.nonec (WO2.isNone ⟨_, rfl, ?_⟩ (by simp)))))))
  refine WSS.nil (CS.next ?_)
  -- listings
  refine WSS.cons (WS.asg hF (WE.list (WLs.nil ⟨by simp, CS.next ?_⟩)))
  have hX8 : Ext H7 (H7 ++ [Cell.list []]) := (Ext.rfl' _).more _
  have hL8 : (H7 ++ [Cell.list []])[H7.length]? = some (.list (([] : List Str).map .str)) := by simp
  generalize H7.length = L at hL8 ⊢
  generalize H7 ++ [Cell.list []] = H8 at hX8 hL8 ⊢
  have hR8 := hX8.get hR7
  have hF8 := hX8.get hF7
  have hB8 := hX8.get hB7
  have hT8 := hX8.get hT7
  have hRA8 := hRA7.ext hX8
  have hFA8 := hFA7.fm hX8.fm
  have hBA8 := hBA7.fm hX8.fm
  have hTA8 := hTA.fm hX8.fm
  clear hX8 hR7 hF7 hB7 hT7 hRA7 hFA7 hBA7 hTA
  refine WSS.weak (ρ' := (rho15_1 vs R F B T L)) (SubL.sub ⟨rfl, rfl, rfl, rfl, rfl, rfl, rfl, trivial⟩) ?_
  refine WSS.cons (WS.forW (fun rest ρ' H' => Ex2 fun (rs : List Bd) (ls : List Str) => And8 (BdsAt H' rest rs) (listsP rs ls = lwLists vs) (H'[L]? = some (.list (ls.map .str))) (OkL ls = true) (ls.length + rs.length ≤ 15) (∀ b ∈ rs, OkS b.2.1 = true) (FM H8 H') (ρ' = (rho15_1 vs R F B T L))) ?_ ?_ ?_)
  · exact WE.l hE rfl ⟨T, .flist ts, ts, rfl, hT8, rfl, by omega, Up.mk ⟨lwTops vs, [], hTA8, rfl, hL8, rfl, by rw [← hTA8.len]; simpa using htl15, LO.lists, FM.refl _, rfl⟩ ⟨rfl, rfl, rfl, rfl, rfl, rfl, rfl, trivial⟩⟩
  · rintro x rest ρ' H' ⟨rs, ls, hRs, hls, hL, hok, hlen, hokr, hfm, rfl⟩
    cases rs with
    | nil => exact hRs.elim
    | cons b rs =>
    obtain ⟨⟨n, w, e, hn, hw⟩, hRs⟩ := hRs
    subst e
    simp only [List.length_cons] at hlen
    rw [listsP] at hls
    have hob := hokr b List.mem_cons_self
    refine WA.nm hF ?_
    refine WSS.cons (WS.ite (WT.cmp (WE.sub (WE.l hE rfl (WE.int (WO2.itemL (p := .str b.2.1) (.inr hn) (by decide) (by decide) rfl (WE.l hE rfl (WO2.notInS (.inl hL) hok hob ⟨_, rfl, ite_b (fun h1 => ?_) (fun h1 => ?_)⟩))))))))
    · rw [if_neg (by simpa using h1)] at hls
      refine WSS.cons (WS.ex (WE.meth (WE.l hE rfl ⟨GM.append hL, WLs.one (WE.sub (WE.l hE rfl (WE.int (WO2.itemL (p := .str b.2.1) (.inr hn) (by decide) (by decide) rfl (WC.append hL (by simp; omega) ⟨by simp, by simp, CS.next (WSS.nil (CS.next (WSS.nil (LQ.next ?_))))⟩)))))⟩)))
      have hf2 : FM H' (H'.set L (.list (ls.map .str ++ [.str b.2.1]))) := FM.set hL rfl
      refine Up.mk ⟨rs, ls ++ [b.2.1], hRs.fm hf2, hls, ?_, ?_, by simp; omega, fun b' h' => hokr b' (List.mem_cons_of_mem _ h'), hfm.trans hf2, rfl⟩ ⟨rfl, rfl, rfl, rfl, rfl, rfl, rfl, trivial⟩
      · rw [List.getElem?_set_self (List.getElem?_eq_some_iff.mp hL).1]; simp
      · simp only [OkL, List.all_append, List.all_cons, List.all_nil, Bool.and_true, Bool.and_eq_true]
        exact ⟨hok, hob⟩
    · rw [if_pos (by simpa using h1)] at hls
      exact WSS.nil (CS.next (WSS.nil (LQ.next (Up.mk ⟨rs, ls, hRs, hls, hL, hok, by omega, fun b' h' => hokr b' (List.mem_cons_of_mem _ h'), hfm, rfl⟩ ⟨rfl, rfl, rfl, rfl, rfl, rfl, rfl, trivial⟩))))
  rintro ρ' H' ⟨rs, ls, hRs, hls, hL, hok, hlen, hokr, hfm, rfl⟩
  cases rs with
  | cons _ _ => exact hRs.elim
  | nil =>
  rw [listsP] at hls
  subst hls
  refine WSS.nil (CS.next (WSS.freeze hL ?_))
  have hf2 : FM H' (H'.set L (.flist ((lwLists vs).map .str))) := FM.set hL rfl
  have hL9 : (H'.set L (.flist ((lwLists vs).map .str)))[L]? = some (.flist ((lwLists vs).map .str)) := List.getElem?_set_self (List.getElem?_eq_some_iff.mp hL).1
  have hf9 := hfm.trans hf2
  clear hf2 hfm hL hRs hokr
  generalize H'.set L (.flist ((lwLists vs).map .str)) = H9 at hL9 hf9 ⊢
  have hll : (lwLists vs).length ≤ 15 := by simp at hlen; omega
  have hR9 := hf9 _ _ hR8 rfl
  have hF9 := hf9 _ _ hF8 rfl
  have hB9 := hf9 _ _ hB8 rfl
  have hT9 := hf9 _ _ hT8 rfl
  have hRA9 := hRA8.fm hf9
  have hFA9 := hFA8.fm hf9
  have hBA9 := hBA8.fm hf9
  have hTA9 := hTA8.fm hf9
  clear hf9 hR8 hF8 hB8 hT8 hRA8 hFA8 hBA8 hTA8 hL8 hlen H' H8
  have hnoB : ∀ y ∈ spells (lwBarred vs), NormOk y := fun y hy => by
    obtain ⟨b, hb, rfl⟩ := List.mem_map.mp hy
    obtain ⟨r, hr, e⟩ := barred_mem hb
    rw [e]; exact (LO.rows r hr).2.1
  have hnoT : ∀ y ∈ spells (lwTops vs), NormOk y := fun y hy => by
    obtain ⟨b, hb, rfl⟩ := List.mem_map.mp hy
    exact hnoB _ (List.mem_map_of_mem (List.mem_filter.mp hb).1)
  have hnoF : ∀ y ∈ (lwFiles vs).map (·.2.1), NormOk y := fun y hy => by
    obtain ⟨f, hf, rfl⟩ := List.mem_map.mp hy
    exact (LO.files f hf).2.2.1
  -- tracers
  refine WSS.cons (WS.asg hF (WE.list ?_))
  refine WLs.cons (WE.callK G hE (gl__Ignore _) (kp_227 _) (WLs.two (WE.list (WLs.nil ⟨by simp, ?_⟩))))
  have hX10 : Ext H9 (H9 ++ [Cell.list []]) := (Ext.rfl' _).more _
  have hm10 : (H9 ++ [Cell.list []])[H9.length]? = some (.list []) := by simp
  generalize H9.length = m at hm10 ⊢
  generalize H9 ++ [Cell.list []] = H10 at hX10 hm10 ⊢
  refine WE.freezeNew (WE.binop (WE.spells hE rfl (WE.l hE rfl ⟨B, bs, lwBarred vs, rfl, hX10.get hB9, hBA9.fm hX10.fm, by omega, ?_⟩)))
  have hX11 : Ext H10 (H10 ++ [Cell.list ((spells (lwBarred vs)).map PV.str)]) := (Ext.rfl' _).more _
  have hs11 : (H10 ++ [Cell.list ((spells (lwBarred vs)).map PV.str)])[H10.length]? = some (.list ((spells (lwBarred vs)).map .str)) := by simp
  generalize H10.length = sb at hs11 ⊢
  generalize H10 ++ [Cell.list ((spells (lwBarred vs)).map PV.str)] = H11 at hX11 hs11 ⊢
  have hX911 := hX10.trans hX11
  refine WE.compE hE (fun rest acc H' => H' = H11 ∧ Ex2 fun dn fs => And3 (FlsAt H11 rest fs) (dn ++ fs = lwFiles vs) (acc = (dn.map (·.2.1)).map .str)) rfl (WE.l hE rfl ⟨F, .flist qs, qs, rfl, hX911.get hF9, rfl, by omega, rfl, [], lwFiles vs, hFA9.fm hX911.fm, rfl, rfl⟩) ?_ ?_
  · rintro y rest acc H' ⟨rfl, dn, fs, hfs, efs, rfl⟩ cenv hC
    cases fs with
    | nil => exact hfs.elim
    | cons f fs =>
    obtain ⟨⟨n, w, e, hn, hw⟩, hfs⟩ := hfs
    subst e
    exact WIfs.no (WE.sub (WE.l hC rfl (WE.int (WO2.itemL (p := .str f.2.1) (.inr hn) (by decide) (by decide) rfl ⟨rfl, dn ++ [f], fs, hfs, by simpa using efs, by simp⟩))))
  rintro acc H' ⟨rfl, dn, fs, hfs, efs, rfl⟩ -
  cases fs with
  | cons _ _ => exact hfs.elim
  | nil =>
  rw [List.append_nil] at efs
  subst efs
  refine WO2.addL (xs := (spells (lwBarred vs)).map .str) (ys := ((lwFiles vs).map (·.2.1)).map .str) (.inl (get_app hs11 _)) (.inl (by simp)) ?_ ⟨_, _, rfl, rfl, ?_⟩
  · have e1 : (spells (lwBarred vs)).length = bs.length := by rw [hBA9.len]; simp [spells]
    have e2 : (lwFiles vs).length = qs.length := hFA9.len.symm
    simp only [List.length_map]; omega
  have hX12 : Ext H' (H' ++ [Cell.list (((lwFiles vs).map (·.2.1)).map PV.str)] ++ [Cell.flist ((spells (lwBarred vs)).map PV.str ++ ((lwFiles vs).map (·.2.1)).map PV.str)]) := ((Ext.rfl' _).more _).more _
  have hd12 : (H' ++ [Cell.list (((lwFiles vs).map (·.2.1)).map PV.str)] ++ [Cell.flist ((spells (lwBarred vs)).map PV.str ++ ((lwFiles vs).map (·.2.1)).map PV.str)])[(H' ++ [Cell.list (((lwFiles vs).map (·.2.1)).map PV.str)]).length]? = some (.flist ((spells (lwBarred vs) ++ (lwFiles vs).map (·.2.1)).map .str)) := by simp
  generalize (H' ++ [Cell.list (((lwFiles vs).map (·.2.1)).map PV.str)]).length = z12 at hd12 ⊢
  generalize H' ++ [Cell.list (((lwFiles vs).map (·.2.1)).map PV.str)] ++ [Cell.flist ((spells (lwBarred vs)).map PV.str ++ ((lwFiles vs).map (·.2.1)).map PV.str)] = H12 at hX12 hd12 ⊢
  have hX912 := hX911.trans hX12
  refine c_newIg G ((hX11.trans hX12).get hm10) hd12 ?_ ?_ fun H13 n1 d1 c1 hX13 hn1 hd1 hc1 ht1 => ?_
  · have e1 : (spells (lwBarred vs)).length = bs.length := by rw [hBA9.len]; simp [spells]
    have e2 : (lwFiles vs).length = qs.length := hFA9.len.symm
    simp only [List.length_append, List.length_map]; omega
  · intro y hy
    rcases List.mem_append.mp hy with hy | hy
    · exact hnoB y hy
    · exact hnoF y hy
  have hX913 := hX912.trans hX13
  clear hX912 hX13 hX12 hX11 hX911 hX10 hd12 hs11 hm10 hfs hn1 hd1 hc1
  have ht1' : Trs H13 [.loc n1] [((spells (lwBarred vs) ++ (lwFiles vs).map (·.2.1)).map normP, [("<string>", 1)])] [c1] := ⟨⟨n1, d1, rfl, ht1⟩, trivial⟩
  clear ht1
  refine WLs.cons (WE.callK G hE (gl__Ignore _) (kp_227 _) (WLs.two (WE.list (WLs.nil ⟨by simp, ?_⟩))))
  have hX14 : Ext H13 (H13 ++ [Cell.list []]) := (Ext.rfl' _).more _
  have hm14 : (H13 ++ [Cell.list []])[H13.length]? = some (.list []) := by simp
  have hle14 := hX14.le
  generalize H13.length = m at hm14 ⊢
  generalize H13 ++ [Cell.list []] = H14 at hX14 hm14 hle14 ⊢
  have hX914 := hX913.trans hX14
  refine WE.freezeNew (WE.spells hE rfl (WE.l hE rfl ⟨T, ts, lwTops vs, rfl, hX914.get hT9, hTA9.fm hX914.fm, by omega, _, _, rfl, rfl, ?_⟩))
  have hX15 : Ext H14 (H14 ++ [Cell.flist ((spells (lwTops vs)).map PV.str)]) := (Ext.rfl' _).more _
  have hd15 : (H14 ++ [Cell.flist ((spells (lwTops vs)).map PV.str)])[H14.length]? = some (.flist ((spells (lwTops vs)).map .str)) := by simp
  have hle15 := hX15.le
  generalize H14.length = z15 at hd15 ⊢
  generalize H14 ++ [Cell.flist ((spells (lwTops vs)).map PV.str)] = H15 at hX15 hd15 hle15 ⊢
  refine c_newIg G (hX15.get hm14) hd15 ?_ hnoT fun H16 n2 d2 c2 hX16 hn2 hd2 hc2 ht2 => ?_
  · have e1 : (spells (lwTops vs)).length = ts.length := by rw [hTA9.len]; simp [spells]
    omega
  have hX1316 := (hX14.trans hX15).trans hX16
  have hX916 := hX913.trans hX1316
  have ht2' : Trs H16 [.loc n1, .loc n2] [((spells (lwBarred vs) ++ (lwFiles vs).map (·.2.1)).map normP, [("<string>", 1)]), ((spells (lwTops vs)).map normP, [("<string>", 1)])] [c1, c2] :=
    (ht1'.nl hX1316.nl).snoc (t := ((spells (lwTops vs)).map normP, [("<string>", 1)])) rfl ht2
  have hc12 : c1 ≠ c2 := by
    have h1 := ht1'.lt c1 (by simp)
    omega
  clear hX14 hX15 hX16 hX1316 hX914 hX913 hm14 hd15 ht1' ht2 hn2 hd2 hc2 hle14 hle15
  refine WLs.nil ⟨by simp, CS.next ?_⟩
  have hX17 : Ext H16 (H16 ++ [Cell.list [.loc n1, .loc n2]]) := (Ext.rfl' _).more _
  have hTR : (H16 ++ [Cell.list [.loc n1, .loc n2]])[H16.length]? = some (.list [.loc n1, .loc n2]) := by simp
  generalize H16.length = TR at hTR ⊢
  generalize H16 ++ [Cell.list [.loc n1, .loc n2]] = H17 at hX17 hTR ⊢
  have ht17 := ht2'.nl hX17.nl
  have hX917 := hX916.trans hX17
  clear hX17 hX916 ht2'
  have hR17 := hX917.get hR9
  have hF17 := hX917.get hF9
  have hT17 := hX917.get hT9
  have hL17 := hX917.get hL9
  have hRA17 := hRA9.ext hX917
  have hFA17 := hFA9.fm hX917.fm
  have hTA17 := hTA9.fm hX917.fm
  clear hX917 hR9 hF9 hB9 hT9 hL9 hRA9 hFA9 hBA9 hTA9
  refine WSS.weak (ρ' := (rho15_2 vs R F T L TR)) (SubL.sub ⟨rfl, rfl, rfl, rfl, rfl, rfl, rfl, trivial⟩) ?_
  refine WSS.cons (WS.forW (fun rest ρ' H' => Ex4 fun (dn td : List Str) (tps : List PV) (cs : List Nat) => And7 (rest = td.map .str) (dn ++ td = lwLists vs) (H'[TR]? = some (.list tps)) (Trs H' tps (((spells (lwBarred vs) ++ (lwFiles vs).map (·.2.1)).map normP, [("<string>", 1)]) :: ((spells (lwTops vs)).map normP, [("<string>", 1)]) :: dn.map fun l => (dirsOther (lwTops vs) l, [("<string>", 1)])) cs) (cs.Nodup) (FM H17 H') (ρ' = (rho15_2 vs R F T L TR))) ?_ ?_ ?_)
  · exact WE.l hE rfl ⟨L, .flist _, _, rfl, hL17, rfl, by simp; omega, Up.mk ⟨[], lwLists vs, _, [c1, c2], rfl, rfl, hTR, ht17, by simp; exact hc12, FM.refl _, rfl⟩ ⟨rfl, rfl, rfl, rfl, rfl, rfl, rfl, trivial⟩⟩
  · rintro x rest ρ' H' ⟨dn, td, tps, cs, e, etd, hTR', hTrs, hnd, hfm, rfl⟩
    cases td with
    | nil => cases e
    | cons li td =>
    simp only [List.map_cons, List.cons.injEq] at e
    obtain ⟨rfl, rfl⟩ := e
    refine WA.nm hF ?_
    refine WSS.cons (WS.ex (WE.meth (WE.l hE rfl ⟨GM.append hTR', WLs.one (WE.callK G hE (gl__Ignore _) (kp_227 _) (WLs.two (WE.list (WLs.nil ⟨by simp, ?_⟩))))⟩)))
    have hX1 : Ext H' (H' ++ [Cell.list []]) := (Ext.rfl' _).more _
    have hm1 : (H' ++ [Cell.list []])[H'.length]? = some (.list []) := by simp
    have hle1 := hX1.le
    generalize H'.length = m at hm1 ⊢
    generalize H' ++ [Cell.list []] = Ha at hX1 hm1 hle1 ⊢
    have hfa := hfm.trans hX1.fm
    have hoth : ∀ tl : List Str, tl.length ≤ 10 → True := fun _ _ => trivial
    refine WE.freezeNew (WE.compE hE (fun rest acc H2 => H2 = Ha ∧ Ex2 fun dnb tb => And3 (BdsAt Ha rest tb) (dnb ++ tb = lwTops vs) (acc = (spells (dnb.filter fun b => b.2.1 != li)).map .str)) rfl (WE.l hE rfl ⟨T, .flist ts, ts, rfl, hfa _ _ hT17 rfl, rfl, by omega, rfl, [], lwTops vs, hTA17.fm hfa, rfl, rfl⟩) ?_ ?_)
    · rintro y rest acc H2 ⟨rfl, dnb, tb, htb, etb, rfl⟩ cenv hC
      cases tb with
      | nil => exact htb.elim
      | cons b tb =>
      obtain ⟨⟨n, w, e, hn, hw⟩, htb⟩ := htb
      subst e
      refine WIfs.one (WT.cmp (WE.sub (WE.l hC rfl (WE.int (WO2.itemL (p := .str b.2.1) (.inr hn) (by decide) (by decide) rfl (WE.f hC rfl (WO2.neS ⟨_, rfl, ite_b (fun h1 => ?_) (fun h1 => ?_)⟩)))))))
      · refine WE.sub (WE.l hC rfl (WE.int (WO2.itemL (p := .str b.2.2.1) (.inr hn) (by decide) (by decide) rfl ⟨rfl, dnb ++ [b], tb, htb, by simpa using etb, ?_⟩)))
        rw [List.filter_append]; simp [spells, h1]
      · refine ⟨rfl, dnb ++ [b], tb, htb, by simpa using etb, ?_⟩
        rw [List.filter_append]; simp [spells, h1]
    rintro acc H2 ⟨rfl, dnb, tb, htb, etb, rfl⟩ -
    cases tb with
    | cons _ _ => exact htb.elim
    | nil =>
    rw [List.append_nil] at etb
    subst etb
    refine ⟨_, _, rfl, rfl, ?_⟩
    have hX2 : Ext H2 (H2 ++ [Cell.flist ((spells ((lwTops vs).filter fun b => b.2.1 != li)).map PV.str)]) := (Ext.rfl' _).more _
    have hd2 : (H2 ++ [Cell.flist ((spells ((lwTops vs).filter fun b => b.2.1 != li)).map PV.str)])[H2.length]? = some (.flist ((spells ((lwTops vs).filter fun b => b.2.1 != li)).map .str)) := by simp
    have hle2 := hX2.le
    generalize H2.length = z2 at hd2 ⊢
    generalize H2 ++ [Cell.flist ((spells ((lwTops vs).filter fun b => b.2.1 != li)).map PV.str)] = Hb at hX2 hd2 hle2 ⊢
    refine c_newIg G (hX2.get hm1) hd2 ?_ ?_ fun Hc n3 d3 c3 hX3 hn3 hd3 hc3 ht3 => ?_
    · have e1 : (lwTops vs).length = ts.length := hTA17.len.symm
      have e2 := List.length_filter_le (fun b : Bd => b.2.1 != li) (lwTops vs)
      simp only [spells, List.length_map]; omega
    · intro y hy
      obtain ⟨b, hb, rfl⟩ := List.mem_map.mp hy
      exact hnoT _ (List.mem_map_of_mem (List.mem_filter.mp hb).1)
    have hXc := (hX1.trans hX2).trans hX3
    have hTRc := hXc.get hTR'
    have hlt := hTrs.lt
    have hTl := hTrs.len
    have hTrs2 := (hTrs.nl hXc.nl).snoc (t := (dirsOther (lwTops vs) li, [("<string>", 1)])) rfl ht3
    have hnl := NL.set (c' := .list (tps ++ [.loc n3])) hTRc
    have hdl : dn.length ≤ 15 := by
      have := congrArg List.length etd
      simp at this; omega
    refine WC.append hTRc (by rw [hTl]; simp; omega) ⟨by simp, by simp, CS.next (WSS.nil (LQ.next (Up.mk ⟨dn ++ [li], td, tps ++ [.loc n3], cs ++ [c3], rfl, by simpa using etd, List.getElem?_set_self (List.getElem?_eq_some_iff.mp hTRc).1, ?_, ?_, (hfm.trans hXc.fm).trans (FM.set hTRc rfl), rfl⟩ ⟨rfl, rfl, rfl, rfl, rfl, rfl, rfl, trivial⟩)))⟩
    · simpa using hTrs2.nl hnl
    · rw [List.nodup_append]
      refine ⟨hnd, by simp, fun a ha b hb => ?_⟩
      simp at hb
      subst hb
      have := hlt a ha
      omega
  rintro ρ' H' ⟨dn, td, tps, cs, e, etd, hTR', hTrs, hnd, hfm, rfl⟩
  cases td with
  | cons _ _ => cases e
  | nil =>
  rw [List.append_nil] at etd
  subst etd
  refine WSS.nil (CS.next (WSS.freeze hTR' ?_))
  have hf18 := hfm.trans (FM.set (c' := .flist tps) hTR' rfl)
  have hTR18 : (H'.set TR (.flist tps))[TR]? = some (.flist tps) := List.getElem?_set_self (List.getElem?_eq_some_iff.mp hTR').1
  have ht18 := hTrs.nl (NL.set (c' := .flist tps) hTR')
  generalize H'.set TR (.flist tps) = H18 at hf18 hTR18 ht18 ⊢
  have hR18 := hf18 _ _ hR17 rfl
  have hF18 := hf18 _ _ hF17 rfl
  have hL18 := hf18 _ _ hL17 rfl
  have hRA18 := hRA17.fm hf18
  have hFA18 := hFA17.fm hf18
  have htpl : tps.length = (lwLists vs).length + 2 := by rw [hTrs.len]; simp
  clear hf18 hfm hTrs hTR' hR17 hF17 hT17 hL17 hRA17 hFA17 hTA17 hTR ht17 hc12
  have ht19 : Trs H18 tps ((lwDirs vs).map fun dirs => (dirs, igOf dirs [])) cs := by
    rw [lwDirs, List.map_cons, List.map_cons, List.map_map]; exact ht18
  clear ht18
  have hdl : (lwDirs vs).length = (lwLists vs).length + 2 := by simp [lwDirs]
  have hdirs : ∀ dirs ∈ lwDirs vs, dirs.length ≤ 1000 ∧ ∀ y ∈ dirs, y.length ≤ 90000 := fun dirs hd => by
    have hnb : (lwBarred vs).length ≤ 15 := Nat.le_trans (List.length_filterMap_le _ _) LO.nrows
    have hnt : (lwTops vs).length ≤ 15 := Nat.le_trans (List.length_filter_le _ _) hnb
    have hnf := LO.nfiles
    have htb : ∀ b ∈ lwTops vs, (normP b.2.2.1).length ≤ 90000 := fun b hb => LO.norms _ (.inl (List.mem_map_of_mem (List.mem_filter.mp hb).1))
    rcases List.mem_cons.mp hd with rfl | hd
    · refine ⟨by simp [spells]; omega, fun y hy => ?_⟩
      obtain ⟨x, hx, rfl⟩ := List.mem_map.mp hy
      rcases List.mem_append.mp hx with hx | hx
      · exact LO.norms x (.inl hx)
      · exact LO.norms x (.inr hx)
    · rcases List.mem_cons.mp hd with rfl | hd
      · refine ⟨by simp [spells]; omega, fun y hy => ?_⟩
        obtain ⟨x, hx, rfl⟩ := List.mem_map.mp hy
        obtain ⟨b, hb, rfl⟩ := List.mem_map.mp hx
        exact htb b hb
      · obtain ⟨l, _, rfl⟩ := List.mem_map.mp hd
        refine ⟨?_, fun y hy => ?_⟩
        · have := List.length_filter_le (fun b : Bd => b.2.1 != l) (lwTops vs)
          simp only [dirsOther, spells, List.length_map]; omega
        · obtain ⟨x, hx, rfl⟩ := List.mem_map.mp hy
          obtain ⟨b, hb, rfl⟩ := List.mem_map.mp hx
          exact htb b (List.mem_filter.mp hb).1
  refine WSS.cons (WS.forW (fun rest ρ' H' => Ex2 fun (pre post : List Fl) => And5 (lwFiles vs = pre ++ post) (FlsAt H' rest post) (Trs H' tps ((lwDirs vs).map fun dirs => (dirs, igOf dirs pre)) cs) (FM H18 H') (ρ' = (rho15_3 vs R F L TR))) ?_ ?_ ?_)
  · exact WE.l hE rfl ⟨F, .flist qs, qs, rfl, hF18, rfl, by omega, Up.mk ⟨[], lwFiles vs, rfl, hFA18, ht19, FM.refl _, rfl⟩ ⟨rfl, rfl, rfl, rfl, rfl, rfl, trivial⟩⟩
  · rintro x rest ρ' H' ⟨pre, post, epp, hfs, hTrs, hfm, rfl⟩
    cases post with
    | nil => exact hfs.elim
    | cons f post =>
    obtain ⟨⟨n, w, e, hn, hw⟩, hfs⟩ := hfs
    subst e
    have hfmem : f ∈ lwFiles vs := by rw [epp]; simp
    obtain ⟨fo1, fo2, fo3, fo4, fo5, fo6, fo7⟩ := LO.files f hfmem
    have hprel : pre.length ≤ 15 := by
      have h1 := congrArg List.length epp
      have h2 := LO.nfiles
      simp at h1; omega
    obtain ⟨ans1, ans2⟩ := LO.ans pre f post epp
    refine WA.unpack (ps := [.loc w, .str f.2.1, .str f.2.2.1, .str f.2.2.2]) (.inr (.inr hn)) rfl (WA.nm hF (WA.nm hF (WA.nm hF (WA.nm hF ?_))))
    refine WSS.cons (WS.asgC hF (WE.callK G hE (gl__modname _) (kp_238 _) (WLs.one (WE.f hE rfl (c_modname G (by omega) fun E => CS.next ?_)))))
    rw [fo2]
    have hX1 : Ext H' (H' ++ E) := (Ext.rfl' _).more _
    have hw1 := hX1.get hw
    have hfs1 := hfs.fm hX1.fm
    have hTrs1 := hTrs.nl hX1.nl
    have hfm1 := hfm.trans hX1.fm
    clear hX1 hw hfs hTrs hfm hn
    generalize H' ++ E = H1 at hw1 hfs1 hTrs1 hfm1 ⊢
    refine WSS.weak (ρ' := (rho15_4 vs R F L TR w f)) (SubL.sub ⟨rfl, rfl, rfl, rfl, rfl, rfl, rfl, rfl, rfl, rfl, rfl, trivial⟩) ?_
    -- the path is the names' own
    refine WSS.cons (WS.ite (WT.bool (WAll.consO (WT.cmp (WE.f hE rfl ?_)))))
    with_reducible apply WE.meth
    case he => rfl
    case hp => rfl
    refine WE.strc ⟨GM.str PySem.F.slot_str_join PySem.F.type_str_join, WLs.one (WE.binop (WE.binop (WE.list (WLs.one (WE.l hE rfl ⟨by simp, WE.l hE rfl ?_⟩)))))⟩
    refine WO2.addL (xs := [.str (lwBase vs.length)]) (ys := f.1.map .str) (.inl (by simp)) (.inr (get_app hw1 _)) (by simp; omega) (WE.list (WLs.one (WE.l hE rfl ⟨by simp, ?_⟩)))
    refine WO2.addL (xs := [.str (lwBase vs.length)] ++ f.1.map .str) (ys := [.str f.2.2.1]) (.inl (get_app (by simp) _)) (.inl (by simp)) (by simp; omega) ?_
    have hX2 : Ext H1 (H1 ++ [Cell.list [PV.str (lwBase vs.length)]] ++ [Cell.list ([PV.str (lwBase vs.length)] ++ f.1.map PV.str)] ++ [Cell.list [PV.str f.2.2.1]] ++ [Cell.list ([PV.str (lwBase vs.length)] ++ f.1.map PV.str ++ [PV.str f.2.2.1])]) := ((((Ext.rfl' _).more _).more _).more _).more _
    have hj2 : (H1 ++ [Cell.list [PV.str (lwBase vs.length)]] ++ [Cell.list ([PV.str (lwBase vs.length)] ++ f.1.map PV.str)] ++ [Cell.list [PV.str f.2.2.1]] ++ [Cell.list ([PV.str (lwBase vs.length)] ++ f.1.map PV.str ++ [PV.str f.2.2.1])])[(H1 ++ [Cell.list [PV.str (lwBase vs.length)]] ++ [Cell.list ([PV.str (lwBase vs.length)] ++ f.1.map PV.str)] ++ [Cell.list [PV.str f.2.2.1]]).length]? = some (.list ((([lwBase vs.length] ++ f.1) ++ [f.2.2.1]).map .str)) := by simp
    generalize (H1 ++ [Cell.list [PV.str (lwBase vs.length)]] ++ [Cell.list ([PV.str (lwBase vs.length)] ++ f.1.map PV.str)] ++ [Cell.list [PV.str f.2.2.1]]).length = zj at hj2 ⊢
    generalize H1 ++ [Cell.list [PV.str (lwBase vs.length)]] ++ [Cell.list ([PV.str (lwBase vs.length)] ++ f.1.map PV.str)] ++ [Cell.list [PV.str f.2.2.1]] ++ [Cell.list ([PV.str (lwBase vs.length)] ++ f.1.map PV.str ++ [PV.str f.2.2.1])] = H2 at hX2 hj2 ⊢
    refine WC.join (.inl hj2) fo7 (WO2.neS ⟨_, rfl, ite_b (fun h1 => ?_) (fun _ => ?_)⟩)
    · rw [← fo1] at h1; simp at h1
    refine WAll.consO (WT.cmp (WE.f hE rfl (WE.f hE rfl (WO2.neS ⟨_, rfl, ite_b (fun h1 => ?_) (fun _ => WAll.nilO ?_)⟩))))
    · simp at h1
    refine WSS.nil (CS.next ?_)
    have hfs2 := hfs1.fm hX2.fm
    have hTrs2 := hTrs1.nl hX2.nl
    have hfm2 := hfm1.trans hX2.fm
    clear hX2 hj2 hw1 hfs1 hTrs1 hfm1 H1
    have hF2 := hfm2 _ _ hF18 rfl
    have hFA2 := hFA18.fm hfm2
    -- earliest
    refine WSS.cons (WS.asg hF (WE.sub (WE.compE hE (fun rest acc Hx => Hx = H2 ∧ Ex2 fun dn fs => And3 (FlsAt H2 rest fs) (dn ++ fs = lwFiles vs) (FlsAt H2 acc (dn.filter fun x => x.2.2.2 == f.2.2.2))) rfl (WE.l hE rfl ⟨F, .flist qs, qs, rfl, hF2, rfl, by omega, rfl, [], lwFiles vs, hFA2, rfl, trivial⟩) ?_ ?_)))
    · rintro y rest acc Hx ⟨rfl, dn, fs, hfs', efs, hacc⟩ cenv hC
      cases fs with
      | nil => exact hfs'.elim
      | cons f' fs =>
      obtain ⟨⟨n', w', e, hn', hw'⟩, hfs'⟩ := hfs'
      subst e
      refine WIfs.one (WT.cmp (WE.sub (WE.l hC rfl (WE.int (WO2.itemL (p := .str f'.2.2.2) (.inr hn') (by decide) (by decide) rfl (WE.f hC rfl (WO2.eqS ⟨_, rfl, ite_b (fun h1 => ?_) (fun h1 => ?_)⟩)))))))
      · refine WE.l hC rfl ⟨rfl, dn ++ [f'], fs, hfs', by simpa using efs, ?_⟩
        rw [List.filter_append, List.filter_cons_of_pos (by simpa using h1), List.filter_nil]
        exact FlsAt.snoc ⟨n', w', rfl, hn', hw'⟩ hacc
      · refine ⟨rfl, dn ++ [f'], fs, hfs', by simpa using efs, ?_⟩
        rw [List.filter_append, List.filter_cons_of_neg (by simpa using h1), List.filter_nil, List.append_nil]
        exact hacc
    rintro acc Hx ⟨rfl, dn, fs, hfs', efs, hacc⟩ -
    cases fs with
    | cons _ _ => exact hfs'.elim
    | nil =>
    rw [List.append_nil] at efs
    subst efs
    obtain ⟨e0, er, ee⟩ : ∃ e0 er, (lwFiles vs).filter (fun x => x.2.2.2 == f.2.2.2) = e0 :: er := by
      cases hh : (lwFiles vs).filter (fun x => x.2.2.2 == f.2.2.2) with
      | nil =>
        have : f ∈ (lwFiles vs).filter (fun x => x.2.2.2 == f.2.2.2) := List.mem_filter.mpr ⟨hfmem, by simp⟩
        rw [hh] at this; cases this
      | cons a b => exact ⟨a, b, rfl⟩
    rw [ee] at hacc
    have hff : firstFile (lwFiles vs) f.2.2.2 = e0.1 := by simp [firstFile, ee]
    have he0 : e0 ∈ lwFiles vs := by
      have : e0 ∈ (lwFiles vs).filter (fun x => x.2.2.2 == f.2.2.2) := by rw [ee]; simp
      exact (List.mem_filter.mp this).1
    cases acc with
    | nil => exact hacc.elim
    | cons p0 acc =>
    obtain ⟨⟨n0, w0, ep0, hn0, hw0⟩, -⟩ := hacc
    subst ep0
    have hX3 : Ext Hx (Hx ++ [Cell.list (.loc n0 :: acc)]) := (Ext.rfl' _).more _
    have ha3 : (Hx ++ [Cell.list (.loc n0 :: acc)])[Hx.length]? = some (.list (.loc n0 :: acc)) := by simp
    generalize Hx.length = za at ha3 ⊢
    generalize Hx ++ [Cell.list (.loc n0 :: acc)] = H3 at hX3 ha3 ⊢
    refine WE.int (WO2.base (WO2.itemL (i := 0) (p := .loc n0) (.inl ha3) (by decide) (by decide) rfl (CS.next ?_)))
    have hn3 := hX3.get hn0
    have hw3 := hX3.get hw0
    have hfs3 := hfs2.fm hX3.fm
    have hTrs3 := hTrs2.nl hX3.nl
    have hfm3 := hfm2.trans hX3.fm
    clear hX3 ha3 hn0 hw0 hfs2 hTrs2 hfm2 hfs' ee
    -- due
    refine WSS.cons (WS.asgC hF (WE.callK G hE (gl__law_first_bar _) (kp_304 _) (WLs.cons (WE.l hE rfl (WLs.cons (WE.sub (WE.l hE rfl (WE.int (WO2.itemL (p := .loc w0) (.inr hn3) (by decide) (by decide) rfl (WLs.cons (WE.sub (WE.list (WLs.cons (WE.int (WLs.cons (WE.int (WLs.cons (WE.int (WLs.nil ⟨by simp, WE.l hE rfl (WO2.base ?_)⟩)))))))))))))))))))
    refine WO2.itemL (i := ((lwWay vs : Nat) : Int)) (p := .int (unitP (lwWay vs))) (xs := ([64, 8, 1] : List Nat).map fun (i : Nat) => PV.int (i : Int)) (.inl (by simp)) (Int.natCast_nonneg _) (by omega) (getD_map (fun (i : Nat) => PV.int (i : Int)) [64, 8, 1] 1 hway) (WLs.nil ?_)
    have hX4 : Ext H3 (H3 ++ [Cell.list [PV.int 64, .int 8, .int 1]]) := (Ext.rfl' _).more _
    generalize H3 ++ [Cell.list [PV.int 64, .int 8, .int 1]] = H4 at hX4 ⊢
    have hfm4 := hfm3.trans hX4.fm
    obtain ⟨eo1, eo2, eo3, eo4, eo5, eo6, eo7⟩ := LO.files e0 he0
    have hunit : 0 < unitP (lwWay vs) ∧ unitP (lwWay vs) < 1000 := by
      have : lwWay vs = 0 ∨ lwWay vs = 1 ∨ lwWay vs = 2 := by omega
      rcases this with h | h | h <;> rw [h] <;> decide
    refine c_first_bar G (hfm4 _ _ hR18 rfl) (hRA18.fm hfm4) (hX4.get hw3) hunit.1 hunit.2 eo5 (by omega) eo6 (fun r hr => ⟨(LO.rows r hr).2.2, (LO.rows r hr).1⟩) fun H5 hX5 => CS.next ?_
    have hdue : firstBarP (lwRows vs) e0.1 (unitP (lwWay vs)) = dueP vs f := by rw [dueP, hff]
    rw [hdue]
    have hfs5 := hfs3.fm (hX4.trans hX5).fm
    have hTrs5 := hTrs3.nl (hX4.trans hX5).nl
    have hfm5 := hfm4.trans hX5.fm
    clear hX4 hX5 hfm4 hfs3 hTrs3 hfm3 hn3 hw3
    have hL5 := hfm5 _ _ hL18 rfl
    generalize hdd : dueP vs f = due at ans2 ⊢
    refine WSS.weak (ρ' := (rho15_5 vs R F L TR f due)) (SubL.sub ⟨rfl, rfl, rfl, rfl, rfl, rfl, rfl, rfl, rfl, trivial⟩) ?_
    -- wanted
    refine WSS.cons (WS.asg hF (WE.binop (WE.strc (WE.binop (WE.strc (WE.callB G hE (gn_len _) bb_len (WLs.one (WE.l hE rfl (WC.lenL (.inr hL5) (by simp; omega) ?_)))))))))
    have eLl : ((((lwLists vs).map PV.str).length : Nat) : Int) = (((lwLists vs).length : Nat) : Int) := by simp
    rw [eLl]
    have hzl := zeros_small (lwLists vs).length (by omega)
    refine WO2.mulS0 (by omega) (WO2.addS (by rw [len_app]; show 2 + _ ≤ _; omega) (CS.next ?_))
    refine WSS.cons (WS.mono (Q := fun af ρ' H' => af = .next ∧ Ext H5 H' ∧ SubL (rho15_6 vs R F L TR f due) ρ') ?_ ?_)
    · refine WS.ite (WT.cmp (WE.f hE rfl (WE.strc (WO2.neS ⟨_, rfl, ite_b (fun h1 => ?_) (fun h1 => ?_)⟩))))
      · refine WSS.cons (WS.asg hF (WE.binop (WE.strc ?_)))
        with_reducible apply WE.meth
        case he => rfl
        case hp => rfl
        refine WE.strc ⟨GM.str PySem.F.slot_str_join PySem.F.type_str_join, WLs.one (WE.compE hE (fun rest acc Hx => Hx = H5 ∧ Ex2 fun dn td : List Str => And3 (rest = td.map .str) (dn ++ td = lwLists vs) (acc = (dn.map fun l => if l == due then ("0" : Str) else "1").map .str)) rfl (WE.l hE rfl ⟨L, .flist _, _, rfl, hL5, rfl, by simp; omega, rfl, [], lwLists vs, rfl, rfl, rfl⟩) ?_ ?_)⟩
        · rintro y rest acc Hx ⟨rfl, dn, td, e, etd, rfl⟩ cenv hC
          cases td with
          | nil => cases e
          | cons li td =>
          simp only [List.map_cons, List.cons.injEq] at e
          obtain ⟨rfl, rfl⟩ := e
          refine WIfs.no (WE.ifexp (WT.cmp (WE.l hC rfl (WE.f hC rfl (WO2.eqS ⟨_, rfl, ite_b (fun h2 => ?_) (fun h2 => ?_)⟩)))))
          · exact WE.strc ⟨rfl, dn ++ [li], td, rfl, by simpa using etd, by rw [List.map_append, List.map_append]; simp only [List.map_cons, List.map_nil, h2, if_true]⟩
          · exact WE.strc ⟨rfl, dn ++ [li], td, rfl, by simpa using etd, by rw [List.map_append, List.map_append]; simp only [List.map_cons, List.map_nil, h2, Bool.false_eq_true, if_false]⟩
        · rintro acc Hx ⟨rfl, dn, td, e, etd, rfl⟩ -
          cases td with
          | cons _ _ => cases e
          | nil =>
          rw [List.append_nil] at etd
          subst etd
          have hone : ∀ x ∈ (lwLists vs).map (fun l => if l == due then ("0" : Str) else "1"), x.length ≤ 1 := by
            intro x hx
            obtain ⟨l, _, rfl⟩ := List.mem_map.mp hx
            split <;> decide
          refine WC.join (.inl (by simp)) (joinOk_ones hone (by simp; omega)) (WO2.addS ?_ (CS.next (WSS.nil ⟨rfl, (Ext.rfl' _).more _, rfl, rfl, rfl, rfl, rfl, rfl, rfl, rfl, ?_, trivial⟩)))
          · have := join_ones hone
            rw [len_app]
            show 2 + _ ≤ _
            simp only [List.length_map] at this
            omega
          · show some _ = some _
            rw [wantedP, if_pos h1]
      · refine WSS.nil ⟨rfl, Ext.rfl' _, rfl, rfl, rfl, rfl, rfl, rfl, rfl, rfl, ?_, trivial⟩
        show some _ = some _
        rw [wantedP, if_neg (by rw [h1]; decide)]
    rintro af ρ' H6 ⟨rfl, hX6, hs⟩
    refine CS.next ?_
    with_reducible refine WSS.weak hs.sub ?_
    have hfs6 := hfs5.fm hX6.fm
    have hTrs6 := hTrs5.nl hX6.nl
    have hfm6 := hfm5.trans hX6.fm
    have hTR6 := hfm6 _ _ hTR18 rfl
    clear hX6 hfs5 hTrs5 hfm5 hL5 eLl hzl
    -- the answers
    refine WSS.cons (WS.ite (WT.cmp ?_))
    with_reducible apply WE.meth
    case he => rfl
    case hp => rfl
    refine WE.strc ⟨GM.str PySem.F.slot_str_join PySem.F.type_str_join, WLs.one (WE.compE hE (fun rest acc Hx => FM H6 Hx ∧ Ex5 fun (dps : List PV) (dds tds : List (List Str)) (dcs cs' : List Nat) => And6 (dps ++ rest = tps) (dds ++ tds = lwDirs vs) (dcs ++ cs' = cs) (Trs Hx dps (dds.map fun dirs => (dirs, igOf dirs (pre ++ [f]))) dcs) (Trs Hx rest (tds.map fun dirs => (dirs, igOf dirs pre)) cs') (acc = (dds.map fun dirs => ansS (answerP dirs pre f)).map .str)) rfl
        (WE.l hE rfl ⟨TR, .flist tps, tps, rfl, hTR6, rfl, by omega, FM.refl _, [], [], lwDirs vs, [], cs, rfl, rfl, rfl, trivial, hTrs6, rfl⟩) ?_ ?_)⟩
    · rintro y rest acc Hx ⟨hfx, dps, dds, tds, dcs, cs', e1, e2, e3, ht1, ht2, rfl⟩ cenv hC
      cases tds with
      | nil => cases cs' <;> exact ht2.elim
      | cons dirs tds =>
      cases cs' with
      | nil => exact ht2.elim
      | cons c cs' =>
      obtain ⟨⟨nt, dt, et, hta⟩, ht2⟩ := ht2
      subst et
      have hdm : dirs ∈ lwDirs vs := by rw [← e2]; simp
      have hans := ans1 dirs hdm
      obtain ⟨a_, b_, led_, t1, t2, t3, t4, t5⟩ := id hta
      have hil := igOf_len dirs pre
      obtain ⟨hd1, hd2⟩ := hdirs dirs hdm
      have hcn : c ∉ dcs ∧ c ∉ cs' := by
        rw [← e3] at hnd
        rw [List.nodup_append] at hnd
        obtain ⟨_, h2, h3⟩ := hnd
        rw [List.nodup_cons] at h2
        exact ⟨fun hm => h3 c hm c List.mem_cons_self rfl, h2.1⟩
      refine WIfs.no (WE.callB G hC (gn_repr _) bb_repr (WLs.one (WE.methI G (f := 224) (y := none) (by kernel_rfl) rfl rfl (by kernel_rfl) (by rw [typeLookup_type, builtinLookup_eq_fast]; kernel_rfl) (WE.l hC rfl ⟨nt, dt, _, rfl, t1, t2, rfl, WLs.two (WE.f hC rfl (WE.f hC rfl ?_))⟩))))
      refine c_names G hta (by rw [igCell_fst]; exact igOf_nodup dirs pre) (by simp [igCell]; omega) hd1 hd2 (fun p hp => ?_) (fun hno => ?_)
      · rw [igCell_lookup] at hp
        cases hlk : (igOf dirs pre).lookup f.2.2.2 with
        | none => rw [hlk] at hp; cases hp
        | some a =>
          rw [hlk] at hp
          cases hp
          have ea : answerP dirs pre f = a := by rw [answerP, hlk]; rfl
          have eg : igOf dirs (pre ++ [f]) = igOf dirs pre := by rw [igOf_snoc, igNext, hlk]
          rw [ea] at hans
          refine WC.reprI hans ⟨hfx, dps ++ [.loc nt], dds ++ [dirs], tds, dcs ++ [c], cs', by simpa using e1, by simpa using e2, by simpa using e3, ?_, ht2, by simp [ea]⟩
          rw [List.map_append]
          exact Trs.snoc (t := (dirs, igOf dirs (pre ++ [f]))) rfl (by rw [eg]; exact hta) ht1
      · rw [igCell_lookup] at hno
        have hlk : (igOf dirs pre).lookup f.2.2.2 = none := by
          cases hh : (igOf dirs pre).lookup f.2.2.2 with
          | none => rfl
          | some a => rw [hh] at hno; cases hno
        have ea : answerP dirs pre f = namesV dirs f.2.1 := by rw [answerP, hlk]; rfl
        have eg : igOf dirs (pre ++ [f]) = igOf dirs pre ++ [(f.2.2.2, namesV dirs f.2.1)] := by rw [igOf_snoc, igNext, hlk]
        have eg2 : igCell (igOf dirs (pre ++ [f])) = igCell (igOf dirs pre) ++ [(f.2.2.2, .int (namesV dirs f.2.1))] := by rw [eg, igCell, List.map_append]; rfl
        rw [ea] at hans
        refine WC.reprI hans ⟨hfx.trans (FM.set t5 rfl), dps ++ [.loc nt], dds ++ [dirs], tds, dcs ++ [c], cs', by simpa using e1, by simpa using e2, by simpa using e3, ?_, ht2.other t5 hcn.2, by simp [ea]⟩
        rw [List.map_append]
        exact Trs.snoc (t := (dirs, igOf dirs (pre ++ [f]))) rfl (by rw [eg2]; exact hta.own) (ht1.other t5 hcn.1)
    rintro acc Hx ⟨hfx, dps, dds, tds, dcs, cs', e1, e2, e3, ht1, ht2, rfl⟩ -
    cases tds with
    | cons _ _ => exact ht2.elim
    | nil =>
    cases cs' with
    | cons _ _ => exact ht2.elim
    | nil =>
    rw [List.append_nil] at e1 e2 e3
    subst e1 e2 e3
    have hone : ∀ x ∈ (lwDirs vs).map (fun dirs => ansS (answerP dirs pre f)), x.length ≤ 1 := by
      intro x hx
      obtain ⟨l, _, rfl⟩ := List.mem_map.mp hx
      unfold ansS
      split <;> decide
    refine WC.join (.inl (by simp)) (joinOk_ones hone (by simp; omega)) (WE.l hE rfl (WO2.neS ⟨_, rfl, ite_b (fun h1 => ?_) (fun _ => ?_)⟩))
    · rw [ans2] at h1; simp at h1
    have hX7 : Ext Hx (Hx ++ [Cell.list (((lwDirs vs).map fun dirs => ansS (answerP dirs pre f)).map PV.str)]) := (Ext.rfl' _).more _
    refine WSS.nil (CS.next (WSS.nil (LQ.next (Up.mk ⟨pre ++ [f], post, by rw [epp]; simp, hfs6.fm (hfx.trans hX7.fm), ht1.nl hX7.nl, hfm6.trans (hfx.trans hX7.fm), rfl⟩ ⟨rfl, rfl, rfl, rfl, rfl, rfl, trivial⟩))))
  · rintro ρ' H' -
    exact WSS.nil (CS.next (WSS.cons (WS.ret (WE.boolc (RQ (h _))))))
end
end Mine

namespace Mine

theorem ns_some_of {K : Frag} {h : Heap} {N : Addr} {mg : Str → Option Value} {n : Str} {v : Value} (X : K.In h) (G : h.Ns N mg) (e : nsIn K N n = some (some v)) : mg n = some v := by
  obtain ⟨o, es, ep, ho, hd, _, hf⟩ := G
  unfold nsIn at e
  split at e
  · rename_i c d es' n' sl q
    have := X _ _ q
    rw [ho] at this
    cases this
    cases hd
    split at e
    · rename_i he
      cases e
      rw [← hf]
      unfold nsFind findBy
      rw [← Array.find?_toList, he]
      rfl
    · split at e <;> cases e
  · cases e
theorem gl_law (P : Params) : nsIn (KK P) mainGlobals ("law" : Str) = some (some (.ref 330)) := by kernel_rfl
theorem vls_ints {β : List Addr} {vs : List Value} {ns : List Int} (h : IntsAre vs ns) : Vls β (ns.map .int) vs := by
  induction h with
  | nil => trivial
  | cons => rename_i ih; exact ⟨⟨_, rfl⟩, ih⟩
theorem rm_caller : Rm 9 callerA := ⟨rfl, by decide, by decide⟩

theorem law_end {prog : Program} {w : World} {s₁ : Shared} {l : Addr} {vs : List Value} {ns : List Int} (K : (KK w.params).In s₁.heap)
    (top : ∃ mg mb, s₁.heap.Ns mainGlobals mg ∧ s₁.heap.Ns builtinsNs mb ∧ ∀ x : Str, x ≠ "__name__" → mb x = bootBuiltins x) (nl : s₁.heap.NoLimit)
    (hL : s₁.heap.IsList l vs.toArray) (hI : IntsAre vs ns) (hn : ns.length ≤ 63) (hg : s₁.gens = #[]) (L : LawOk ns) :
    codeAny (model prog w) callerA (.call (.ref 330) ⟨[.ref l], []⟩) (fun r s' => r = .ok (.ret (.bool true)) ∧ (∀ b o, s₁.heap.get? b = some o → s'.heap.get? b = some o) ∧ s'.os = s₁.os ∧ s'.gens = #[]) s₁ := by
  have G : Gd ⟨prog, w, s₁⟩ := ⟨K, top, nl⟩
  have S : SimG ⟨prog, w, s₁⟩ [l] [.flist (ns.map .int)] s₁ := {
    len := rfl
    nodup := by simp
    cells := fun i a c e1 e2 => by
      match i, e1, e2 with
      | 0, e1, e2 =>
        simp at e1 e2
        subst e1 e2
        exact ⟨vs, hL, vls_ints hI⟩
      | i + 1, e1, _ => simp at e1
    base := fun _ _ e => e
    fresh := fun i a c e1 e2 hm => by
      match i, e1, e2 with
      | 0, _, e2 => simp at e2; subst e2; cases hm
      | i + 1, e1, _ => simp at e1
    same := ⟨s₁.heap, s₁.toks, rfl⟩ }
  refine codeAny_mono (c_law (k := 0) G (l := 0) (vs := ns) (Q := fun p _ => p = .bool true) rfl (by omega) L (fun _ => rfl) callerA [l] s₁ [.ref l] rm_caller S ⟨⟨l, rfl, rfl⟩, trivial⟩) fun r s' h => ?_
  match r, h with
  | .error e, h => exact h.elim
  | .ok .next, h => exact h.elim
  | .ok .brk, h => exact h.elim
  | .ok .cont, h => exact h.elim
  | .ok (.ret v), ⟨β', H', pv, T, hv, hp⟩ =>
    subst hp
    obtain rfl := hv
    obtain ⟨h', tk, e⟩ := T.sim.same
    refine ⟨rfl, T.sim.base, ?_, ?_⟩
    · rw [e]
    · rw [e]; exact hg
end Mine

namespace Mine

/-! texts as lists of signs -/
noncomputable abbrev L (x : Str) : List Nat := x.cps.toList
theorem L_app (x y : Str) : L (x ++ y) = L x ++ L y := by
  cases x with | mk a => cases y with | mk b => exact Array.toList_append
theorem L_inj {x y : Str} (h : L x = L y) : x = y := str_ext h
theorem L_len (x : Str) : (L x).length = x.length := rfl
theorem sw_iff (x y : Str) : Txt.startswith x y = true ↔ L y <+: L x := by
  unfold Txt.startswith
  rw [StrLaws.subAt_eq]
  simp only [Nat.zero_add, Bool.and_eq_true, decide_eq_true_eq, beq_iff_eq, List.drop_zero]
  constructor
  · rintro ⟨_, h⟩
    have h' : List.take y.length (L x) = L y := h
    rw [← h']; exact List.take_prefix _ _
  · intro h
    refine ⟨h.length_le, ?_⟩
    exact (List.prefix_iff_eq_take.mp h).symm
theorem ew_iff (x y : Str) : Txt.endswith x y = true ↔ L y <:+ L x := by
  unfold Txt.endswith
  rw [StrLaws.subAt_eq]
  simp only [Nat.zero_add, Bool.and_eq_true, decide_eq_true_eq, beq_iff_eq]
  constructor
  · rintro ⟨hl, h⟩
    have h' : List.take y.length (List.drop (x.length - y.length) (L x)) = L y := h
    rw [← h']
    have : (List.drop (x.length - y.length) (L x)).length = y.length := by
      rw [List.length_drop, L_len]; omega
    rw [List.take_of_length_le (by rw [this]; exact Nat.le_refl _)]
    exact List.drop_suffix _ _
  · intro h
    refine ⟨h.length_le, ?_⟩
    have e := List.suffix_iff_eq_drop.mp h
    have e2 : L y = List.drop (x.length - y.length) (L x) := e
    rw [← e2]
    exact List.take_of_length_le (Nat.le_refl _)
theorem slice_to (x : Str) {j : Nat} (h : j ≤ (L x).length) : L (Txt.slice x none (some (j : Int))) = (L x).take j := by
  have e : Txt.slice x none (some (j : Int)) = StrLaws.sliceText x none (some (j : Int)) := rfl
  have h' : j ≤ x.cps.toList.length := h
  rw [e, StrLaws.sliceText_to ⟨by omega, by omega⟩]
  simp
theorem slice_nat (x : Str) {i j : Nat} (hij : i ≤ j) (h : j ≤ (L x).length) : L (Txt.slice x (some (i : Int)) (some (j : Int))) = ((L x).drop i).take (j - i) := by
  have e : Txt.slice x (some (i : Int)) (some (j : Int)) = StrLaws.sliceText x (some (i : Int)) (some (j : Int)) := rfl
  rw [e, StrLaws.sliceText_nat x hij h]
theorem slice_from (x : Str) {i : Nat} (h : i ≤ (L x).length) : L (Txt.slice x (some (i : Int)) none) = (L x).drop i := by
  have e : Txt.slice x (some (i : Int)) none = StrLaws.sliceText x (some (i : Int)) none := rfl
  have h' : i ≤ x.cps.toList.length := h
  rw [e, StrLaws.sliceText_from ⟨by omega, by omega⟩]
  simp only [Int.toNat_natCast]
  rw [List.take_of_length_le (by rw [List.length_drop]; omega)]

theorem jfold (sep : Str) (M : Nat) : ∀ (xs : List Str) (acc : Nat), (∀ x ∈ xs, x.length ≤ M) → xs.foldl (· + ·.length + sep.length) acc ≤ acc + xs.length * (M + sep.length)
  | [], acc, _ => by simp
  | x :: xs, acc, h => by
    rw [List.foldl_cons]
    have h1 := jfold sep M xs (acc + x.length + sep.length) fun y hy => h y (List.mem_cons_of_mem _ hy)
    have h2 := h x List.mem_cons_self
    simp only [List.length_cons, Nat.add_mul, Nat.one_mul]
    omega
theorem jOk_of {sep : Str} {xs : List Str} {M : Nat} (h : ∀ x ∈ xs, x.length ≤ M) (hl : xs.length * (M + sep.length) ≤ 1000000) : JoinOk sep xs = true := by
  unfold JoinOk PySem.Builtin.Str.tooLong
  have h1 := jfold sep M xs 0 h
  have e24 : sizeLine = 16777216 := sizeLine_eq
  simp only [Bool.not_eq_true', decide_eq_false_iff_not]
  rw [List.foldl_toArray]
  omega

/-! joins -/
noncomputable abbrev SF (x : Str) : Prop := 47 ∉ L x
noncomputable def J (xs : List Str) : Str := Txt.join "/" xs
theorem J_nil : J [] = "" := rfl
theorem J_eq (xs : List Str) : J xs = Str.join "/" xs := StrLaws.glued_eq_join _ _
theorem J_one (x : Str) : J [x] = x := by rw [J_eq]; rfl
theorem J_cons (x y : Str) (r : List Str) : J (x :: y :: r) = x ++ "/" ++ J (y :: r) := by rw [J_eq, J_eq]; rfl
noncomputable def E (xs : List Str) : List Nat := xs.flatMap fun x => L x ++ [47]
theorem E_app (xs ys : List Str) : E (xs ++ ys) = E xs ++ E ys := by simp [E]
theorem E_cons (x : Str) (ys : List Str) : E (x :: ys) = L x ++ 47 :: E ys := by simp [E]
theorem L_slash : L ("/" : Str) = [47] := rfl
theorem J_snoc (z : Str) : ∀ xs : List Str, L (J (xs ++ [z])) = E xs ++ L z
  | [] => by rw [List.nil_append, J_one]; rfl
  | [x] => by
    show L (J [x, z]) = _
    rw [J_cons, J_one, L_app, L_app, L_slash, E_cons]; simp [E]
  | x :: y :: r => by
    show L (J (x :: y :: (r ++ [z]))) = _
    have ih := J_snoc z (y :: r)
    rw [J_cons, L_app, L_app, L_slash]
    have ih' : L (J (y :: (r ++ [z]))) = E (y :: r) ++ L z := ih
    rw [ih', E_cons x (y :: r)]
    simp

theorem seg_eq {a b r t : List Nat} (ha : 47 ∉ a) (hb : 47 ∉ b) (h : a ++ 47 :: r = b ++ 47 :: t) : a = b ∧ r = t := by
  induction a generalizing b with
  | nil =>
    cases b with
    | nil => simp at h; exact ⟨rfl, h⟩
    | cons c b => simp at h; exact absurd (by simp [← h.1]) hb
  | cons c a ih =>
    cases b with
    | nil => simp at h; exact absurd (by simp [h.1]) ha
    | cons d b =>
      simp at h
      obtain ⟨e1, e2⟩ := ih (b := b) (fun hm => ha (List.mem_cons_of_mem _ hm)) (fun hm => hb (List.mem_cons_of_mem _ hm)) h.2
      exact ⟨by rw [h.1, e1], e2⟩
theorem seg_no {a b r : List Nat} (ha : 47 ∉ a) (h : a = b ++ 47 :: r) : False := ha (by rw [h]; simp)
/-- the texts of a join are its own -/
theorem J_inj : ∀ {xs ys : List Str}, xs ≠ [] → ys ≠ [] → (∀ x ∈ xs, SF x) → (∀ y ∈ ys, SF y) → J xs = J ys → xs = ys
  | [], _, h, _, _, _, _ => absurd rfl h
  | _, [], _, h, _, _, _ => absurd rfl h
  | [x], [y], _, _, _, _, e => by rw [J_one, J_one] at e; rw [e]
  | [x], y :: y' :: r, _, _, hx, _, e => by
    exfalso
    rw [J_one, J_cons] at e
    have e' : L x = L y ++ 47 :: L (J (y' :: r)) := by rw [e, L_app, L_app, L_slash]; simp
    exact seg_no (hx x (by simp)) e'
  | x :: x' :: r, [y], _, _, _, hy, e => by
    exfalso
    rw [J_one, J_cons] at e
    have e' : L y = L x ++ 47 :: L (J (x' :: r)) := by rw [← e, L_app, L_app, L_slash]; simp
    exact seg_no (hy y (by simp)) e'
  | x :: x' :: r, y :: y' :: t, _, _, hx, hy, e => by
    rw [J_cons, J_cons] at e
    have e' : L x ++ 47 :: L (J (x' :: r)) = L y ++ 47 :: L (J (y' :: t)) := by
      have := congrArg L e
      rw [L_app, L_app, L_app, L_app, L_slash] at this
      simpa using this
    obtain ⟨e1, e2⟩ := seg_eq (hx x (by simp)) (hy y (by simp)) e'
    have := J_inj (xs := x' :: r) (ys := y' :: t) (by simp) (by simp) (fun z hz => hx z (List.mem_cons_of_mem _ hz)) (fun z hz => hy z (List.mem_cons_of_mem _ hz)) (L_inj e2)
    rw [L_inj e1, this]
theorem split_ne (x : Str) : Txt.split x "/" ≠ [] := by
  unfold Txt.split
  split
  · simp
  · split
    · simp
    · intro h
      have := congrArg List.length h
      rw [occ_parts] at this
      simp at this
theorem split_J {xs : List Str} (hne : xs ≠ []) (hs : ∀ x ∈ xs, SF x) : Txt.split (J xs) "/" = xs := by
  refine J_inj (split_ne _) hne (fun p hp => StrLaws.split_free (J xs) 47 p hp) hs ?_
  rw [J_eq]
  exact StrLaws.join_split (J xs) "/"
end Mine

namespace Mine

noncomputable def W1 : List Str := ["a", "b", "ab"]
noncomputable def WOK (ws : List Str) : Prop := ∀ x ∈ ws, x ∈ W1
noncomputable def BOK (base : Str) : Prop := base = "a" ∨ base = "/a"
noncomputable def i0 (base : Str) : Str := if base == "/a" then "/" else ""
theorem w1_cases {x : Str} (h : x ∈ W1) : x = "a" ∨ x = "b" ∨ x = "ab" := by simpa [W1] using h
theorem w1_sf {x : Str} (h : x ∈ W1) : SF x := by rcases w1_cases h with rfl | rfl | rfl <;> decide
theorem w1_len {x : Str} (h : x ∈ W1) : x.length ≤ 2 := by rcases w1_cases h with rfl | rfl | rfl <;> decide
theorem w1_ne {x : Str} (h : x ∈ W1) : x ≠ "" := by rcases w1_cases h with rfl | rfl | rfl <;> decide

theorem snoc_of {α : Type} {l : List α} (h : l ≠ []) : ∃ xs y, l = xs ++ [y] := by
  rcases List.eq_nil_or_concat l with rfl | ⟨xs, y, rfl⟩
  · exact absurd rfl h
  · exact ⟨xs, y, by rw [List.concat_eq_append]⟩
theorem mem_dropLast {α : Type} {x : α} {l : List α} (h : x ∈ l.dropLast) : x ∈ l := by
  rw [List.dropLast_eq_take] at h
  exact List.mem_of_mem_take h
theorem J_app {ps : List Str} (h : ps ≠ []) (xs : List Str) : L (J (xs ++ ps)) = E xs ++ L (J ps) := by
  obtain ⟨qs, z, rfl⟩ := snoc_of h
  rw [← List.append_assoc, J_snoc, J_snoc, E_app, List.append_assoc]
theorem J_a (cs : List Str) : ∃ t, L (J ("a" :: cs)) = 97 :: t := by
  cases cs with
  | nil => exact ⟨[], rfl⟩
  | cons c r => exact ⟨_, by rw [J_cons, L_app, L_app]; rfl⟩
theorem J_base_slash (cs : List Str) : L (J ("/a" :: cs)) = 47 :: L (J ("a" :: cs)) := by
  cases cs with
  | nil => rfl
  | cons c r => rw [J_cons, J_cons, L_app, L_app, L_app, L_app]; rfl
theorem J_base {base : Str} (hb : BOK base) (cs : List Str) : J (base :: cs) = i0 base ++ J ("a" :: cs) := by
  rcases hb with rfl | rfl
  · refine L_inj ?_
    rw [L_app]; rfl
  · refine L_inj ?_
    rw [L_app, J_base_slash]; rfl
theorem splitP_base {base : Str} (hb : BOK base) (cs : List Str) : splitP (J (base :: cs)) = ((("" : Str)), i0 base, J ("a" :: cs)) := by
  obtain ⟨t, ht⟩ := J_a cs
  rcases hb with rfl | rfl
  · have h1 : Txt.slice (J ("a" :: cs)) none (some 1) = "a" := L_inj (by
      have := slice_to (J ("a" :: cs)) (j := 1) (by rw [ht]; simp)
      rw [ht] at this
      exact this)
    unfold splitP
    rw [h1]; rfl
  · have hx : L (J ("/a" :: cs)) = 47 :: 97 :: t := by rw [J_base_slash, ht]
    have h1 : Txt.slice (J ("/a" :: cs)) none (some 1) = "/" := L_inj (by
      have := slice_to (J ("/a" :: cs)) (j := 1) (by rw [hx]; simp)
      rw [hx] at this
      exact this)
    have h2 : Txt.slice (J ("/a" :: cs)) (some 1) (some 2) = "a" := L_inj (by
      have := slice_nat (J ("/a" :: cs)) (i := 1) (j := 2) (by omega) (by rw [hx]; simp)
      rw [hx] at this
      exact this)
    have h3 : Txt.slice (J ("/a" :: cs)) (some 1) none = J ("a" :: cs) := L_inj (by
      have := slice_from (J ("/a" :: cs)) (i := 1) (by rw [hx]; simp)
      rw [hx] at this
      rw [ht]
      exact this)
    unfold splitP
    rw [h1, h2, h3]; rfl
theorem normComps_base {base : Str} (hb : BOK base) {cs : List Str} (hs : ∀ c ∈ cs, SF c) : normComps (J (base :: cs)) = cs.foldl (normStep (i0 base)) ["a"] := by
  unfold normComps
  rw [splitP_base hb]
  show (Txt.split (J ("a" :: cs)) "/").foldl (normStep (i0 base)) [] = _
  rw [split_J (by simp) (fun x hx => by
    rcases List.mem_cons.mp hx with rfl | hx
    · decide
    · exact hs x hx)]
  rfl
theorem normP_base {base : Str} (hb : BOK base) {cs ws : List Str} (hs : ∀ c ∈ cs, SF c) (hf : cs.foldl (normStep (i0 base)) ["a"] = ("a" : Str) :: ws) : normP (J (base :: cs)) = J (base :: ws) := by
  have h1 := normComps_base hb hs
  rw [hf] at h1
  have h2 := splitP_base hb cs
  have e : (splitP (J (base :: cs))).2.1 ++ Txt.join "/" (normComps (J (base :: cs))) = J (base :: ws) := by
    rw [h1, h2, J_base hb ws]; rfl
  have pos : ∀ zs : List Str, ¬ ((J (base :: zs)).length == 0) = true := fun zs h => by
    obtain ⟨t, ht⟩ := J_a zs
    have h0 : (J (base :: zs)).length = 0 := by simpa using h
    rw [J_base hb, len_app] at h0
    have : (L (J ("a" :: zs))).length = 0 := by rw [L_len]; omega
    rw [ht] at this; simp at this
  unfold normP
  rw [if_neg (pos cs), e, if_neg (pos ws)]

/-! lengths -/
theorem J_len {M : Nat} : ∀ {xs : List Str}, (∀ x ∈ xs, x.length ≤ M) → (J xs).length ≤ xs.length * (M + 1)
  | [], _ => by rw [J_nil]; simp; rfl
  | [x], h => by
    rw [J_one]
    have := h x (by simp)
    simp; omega
  | x :: y :: r, h => by
    have ih := J_len (xs := y :: r) fun z hz => h z (List.mem_cons_of_mem _ hz)
    have hx := h x (by simp)
    rw [J_cons, len_app, len_app]
    have e1 : ("/" : Str).length = 1 := rfl
    rw [e1]
    simp only [List.length_cons, Nat.add_mul, Nat.one_mul] at ih ⊢
    omega

/-! a way -/
noncomputable def pcs (d : Nat) : List Str := ([["."], ["a"], ["b"], ["ab"], ["a", "", ""], ["ab", "..", "b"], [".", "ab"], ["b", ".."]] : List (List Str)).getD d ["."]
theorem pcs_facts (d : Nat) : pieces.getD d "." = J (pcs d) ∧ pcs d ≠ [] ∧ (∀ c ∈ pcs d, SF c ∧ c.length ≤ 2) ∧ (pcs d).length ≤ 3 ∧ Txt.startswith (pieces.getD d ".") "/" = false := by
  by_cases h : d < 8
  · have := i8 h
    rcases this with rfl | rfl | rfl | rfl | rfl | rfl | rfl | rfl <;> decide +kernel
  · have e1 : pieces.getD d "." = "." := by rw [List.getD_eq_getElem?_getD, List.getElem?_eq_none (by show 8 ≤ d; omega)]; rfl
    have e2 : pcs d = [("." : Str)] := by unfold pcs; rw [List.getD_eq_getElem?_getD, List.getElem?_eq_none (by show 8 ≤ d; omega)]; rfl
    rw [e1, e2]; decide +kernel
theorem pwords_ok (d : Nat) : WOK (pwords.getD d []) := by
  by_cases h : d < 8
  · have := i8 h
    rcases this with rfl | rfl | rfl | rfl | rfl | rfl | rfl | rfl <;> (intro x hx; simp [pwords] at hx; try (subst hx; simp [W1]))
  · rw [List.getD_eq_getElem?_getD, List.getElem?_eq_none (by show 8 ≤ d; omega)]; intro x hx; cases hx
theorem norm_push {i : Str} {acc : List Str} {c : Str} (h0 : c.length ≠ 0) (h1 : c ≠ ".") (h2 : c ≠ "..") : normStep i acc c = acc ++ [c] := by
  unfold normStep
  rw [if_neg (by simp [h0, h1]), if_pos (by simp [h2])]
theorem norm_skip {i : Str} {acc : List Str} {c : Str} (h : c = "" ∨ c = ".") : normStep i acc c = acc := by
  unfold normStep
  rw [if_pos]
  rcases h with rfl | rfl <;> decide
theorem norm_pop {i : Str} {acc : List Str} {w : Str} (hw : w ≠ "..") : normStep i (acc ++ [w]) ".." = acc := by
  unfold normStep
  rw [if_neg (by decide), if_neg (by simp [hw])]
  simp
theorem fold_pcs (i : Str) (acc : List Str) (d : Nat) : (pcs d).foldl (normStep i) acc = acc ++ pwords.getD d [] := by
  by_cases h : d < 8
  · have := i8 h
    rcases this with rfl | rfl | rfl | rfl | rfl | rfl | rfl | rfl
    · show normStep i acc "." = acc ++ []
      rw [norm_skip (.inr rfl), List.append_nil]
    · exact norm_push (i := i) (c := "a") (by decide) (by decide) (by decide)
    · exact norm_push (i := i) (c := "b") (by decide) (by decide) (by decide)
    · exact norm_push (i := i) (c := "ab") (by decide) (by decide) (by decide)
    · show normStep i (normStep i (normStep i acc "a") "") "" = _
      rw [norm_skip (.inl rfl), norm_skip (.inl rfl)]
      exact norm_push (i := i) (c := "a") (by decide) (by decide) (by decide)
    · show normStep i (normStep i (normStep i acc "ab") "..") "b" = _
      rw [norm_push (c := "ab") (by decide) (by decide) (by decide), norm_pop (by decide)]
      exact norm_push (i := i) (c := "b") (by decide) (by decide) (by decide)
    · show normStep i (normStep i acc ".") "ab" = _
      rw [norm_skip (.inr rfl)]
      exact norm_push (i := i) (c := "ab") (by decide) (by decide) (by decide)
    · show normStep i (normStep i acc "b") ".." = acc ++ []
      rw [norm_push (c := "b") (by decide) (by decide) (by decide), norm_pop (by decide), List.append_nil]
  · have e1 : pwords.getD d [] = [] := by rw [List.getD_eq_getElem?_getD, List.getElem?_eq_none (by show 8 ≤ d; omega)]; rfl
    have e2 : pcs d = [("." : Str)] := by unfold pcs; rw [List.getD_eq_getElem?_getD, List.getElem?_eq_none (by show 8 ≤ d; omega)]; rfl
    rw [e1, e2, List.append_nil]
    exact norm_skip (i := i) (.inr rfl)

theorem E_last (xs : List Str) (y : Str) : E (xs ++ [y]) = (E xs ++ L y) ++ [47] := by rw [E_app, E_cons]; simp [E]
theorem last_ne {A l : List Nat} (h0 : l ≠ []) (h1 : l.getLast? ≠ some 47) : ¬ ([47] <:+ A ++ l) := by
  rintro ⟨t, ht⟩
  have : (A ++ l).getLast? = some 47 := by rw [← ht]; simp
  obtain ⟨xs, y, rfl⟩ := snoc_of h0
  rw [← List.append_assoc] at this
  simp at this
  simp [this] at h1
/-- a text set behind a path -/
theorem join_step {base : Str} (hb : BOK base) {cs ps : List Str} (hs : ∀ c ∈ cs, SF c) (hp : ps ≠ []) (hst : Txt.startswith (J ps) "/" = false) :
    joinP (J (base :: cs)) (J ps) = J (base :: ((if cs.getLast? = some ("" : Str) then cs.dropLast else cs) ++ ps)) := by
  have hpos : ((J (base :: cs)).length == 0) = false := by
    obtain ⟨t, ht⟩ := J_a cs
    rw [beq_eq_false_iff_ne]
    intro h0
    rw [J_base hb, len_app] at h0
    have : (L (J ("a" :: cs))).length = 0 := by rw [L_len]; omega
    rw [ht] at this; simp at this
  unfold joinP
  rw [hst, hpos]
  simp only [Bool.or_self, Bool.false_eq_true, if_false]
  by_cases hl : cs.getLast? = some ("" : Str)
  · rw [if_pos hl]
    obtain ⟨bs, rfl⟩ : ∃ bs, cs = bs ++ [("" : Str)] := by
      obtain ⟨h1, h2⟩ := List.getLast?_eq_some_iff.mp hl
      exact ⟨h1, h2⟩
    have eL : L (J (base :: (bs ++ [("" : Str)]))) = E (base :: bs) := by
      have := J_snoc "" (base :: bs)
      rw [show L ("" : Str) = [] from rfl, List.append_nil] at this
      exact this
    have hew : Txt.endswith (J (base :: (bs ++ [("" : Str)]))) "/" = true := by
      rw [ew_iff, eL, L_slash]
      obtain ⟨xs, y, e⟩ := snoc_of (l := base :: bs) (by simp)
      rw [e, E_last]
      exact List.suffix_append _ _
    rw [if_pos hew]
    refine L_inj ?_
    rw [L_app, eL, List.dropLast_concat]
    exact (J_app hp (base :: bs)).symm
  · rw [if_neg hl]
    have hew : Txt.endswith (J (base :: cs)) "/" = false := by
      rw [Bool.eq_false_iff]
      intro h
      rw [ew_iff, L_slash] at h
      rcases List.eq_nil_or_concat cs with rfl | ⟨bs, z, rfl⟩
      · rw [J_one] at h
        rcases hb with rfl | rfl <;> revert h <;> decide
      · have hz : SF z := hs z (by simp)
        have hz0 : z ≠ "" := fun e => hl (by rw [e]; simp)
        have := J_snoc z (base :: bs)
        rw [List.concat_eq_append] at h
        rw [show L (J (base :: (bs ++ [z]))) = E (base :: bs) ++ L z from this] at h
        refine last_ne (fun e => hz0 (L_inj (by rw [e]; rfl))) (fun e => hz ?_) h
        exact List.mem_of_getLast? e
    rw [hew]
    simp only [Bool.false_eq_true, if_false]
    refine L_inj ?_
    have h2 := J_app hp (base :: cs)
    rw [L_app, L_app, L_slash]
    show _ = L (J ((base :: cs) ++ ps))
    rw [h2]
    obtain ⟨xs, y, e⟩ := snoc_of (l := base :: cs) (by simp)
    rw [e, E_last, J_snoc]
    simp

structure Way (base : Str) (ws : List Str) (sp : Str) (m : Nat) : Prop where
  ex : ∃ cs, sp = J (base :: cs) ∧ (∀ c ∈ cs, SF c ∧ c.length ≤ 2) ∧ cs.length ≤ 3 * m ∧ cs.foldl (normStep (i0 base)) ["a"] = ("a" : Str) :: ws
  ok : WOK ws
  len : ws.length ≤ m
theorem Way.step {base : Str} (hb : BOK base) {ws : List Str} {sp : Str} {m : Nat} (w : Way base ws sp m) (d : Nat) : Way base (ws ++ pwords.getD d []) (joinP sp (pieces.getD d ".")) (m + 1) := by
  obtain ⟨⟨cs, rfl, hs, hl, hf⟩, hok, hlen⟩ := w
  obtain ⟨p1, p2, p3, p4, p5⟩ := pcs_facts d
  refine ⟨⟨(if cs.getLast? = some ("" : Str) then cs.dropLast else cs) ++ pcs d, ?_, ?_, ?_, ?_⟩, ?_, ?_⟩
  · rw [p1]
    exact join_step hb (fun c hc => (hs c hc).1) p2 (by rw [← p1]; exact p5)
  · intro c hc
    rcases List.mem_append.mp hc with hc | hc
    · split at hc
      · exact hs c (mem_dropLast hc)
      · exact hs c hc
    · exact p3 c hc
  · rw [List.length_append]
    split
    · rw [List.length_dropLast]; omega
    · omega
  · rw [List.foldl_append]
    have : (if cs.getLast? = some ("" : Str) then cs.dropLast else cs).foldl (normStep (i0 base)) ["a"] = ("a" : Str) :: ws := by
      split
      · rename_i h
        obtain ⟨bs, rfl⟩ : ∃ bs, cs = bs ++ [("" : Str)] := by
          obtain ⟨h1, h2⟩ := List.getLast?_eq_some_iff.mp h
          exact ⟨h1, h2⟩
        rw [List.dropLast_concat]
        rw [List.foldl_append] at hf
        rw [← hf]
        exact (norm_skip (i := i0 base) (.inl rfl)).symm
      · exact hf
    rw [this, fold_pcs]; rfl
  · intro x hx
    rcases List.mem_append.mp hx with hx | hx
    · exact hok x hx
    · exact pwords_ok d x hx
  · have := pwords_le d
    rw [List.length_append]; omega
theorem Way.all {base : Str} (hb : BOK base) : ∀ (f n : Nat) {ws : List Str} {sp : Str} {m : Nat}, Way base ws sp m → Way base (wayF f n ws sp).1 (wayF f n ws sp).2 (m + f)
  | 0, _, _, _, _, w => w
  | f + 1, n, ws, sp, m, w => by
    rw [wayF]
    split
    · exact ⟨(by obtain ⟨cs, a, b, c, d⟩ := w.ex; exact ⟨cs, a, b, by omega, d⟩), w.ok, (by have := w.len; show ws.length ≤ _; omega)⟩
    · have := Way.all hb f (n / 8) (w.step hb (n % 8))
      rw [show m + (f + 1) = m + 1 + f by omega]
      exact this
theorem way3 {base : Str} (hb : BOK base) (n : Nat) : Way base (wayF 3 n [] base).1 (wayF 3 n [] base).2 3 := by
  have := Way.all hb 3 n (m := 0) (ws := []) (sp := base) ⟨⟨[], (J_one base).symm, by simp, by simp, rfl⟩, (fun _ h => by cases h), by simp⟩
  simpa using this
end Mine

namespace Mine

theorem base_len {base : Str} (hb : BOK base) : base.length ≤ 2 := by rcases hb with rfl | rfl <;> decide
theorem okS_w1 {x : Str} (h : x ∈ W1) : OkS x = true := by rcases w1_cases h with rfl | rfl | rfl <;> decide +kernel
theorem okL_w {ws : List Str} (h : WOK ws) : OkL ws = true := by
  rw [OkL, List.all_eq_true]; exact fun x hx => okS_w1 (h x hx)
theorem i0_len (base : Str) : (i0 base).length ≤ 1 := by unfold i0; split <;> decide

/-- a path of this base: its normal form and what the machine needs of it -/
theorem normOk_base {base : Str} (hb : BOK base) {cs ws : List Str} {M : Nat} (hs : ∀ c ∈ cs, SF c ∧ c.length ≤ M) (hl : cs.length ≤ 100) (hM : M ≤ 100) (h2 : 2 ≤ M) (hw : ∀ c ∈ ws, c.length ≤ M) (hwl : ws.length ≤ 100)
    (hf : cs.foldl (normStep (i0 base)) ["a"] = ("a" : Str) :: ws) : NormOk (J (base :: cs)) ∧ normP (J (base :: cs)) = J (base :: ws) ∧ (J (base :: ws)).length ≤ 20000 := by
  have h1 := normComps_base hb (fun c hc => (hs c hc).1)
  rw [hf] at h1
  have hbl := base_len hb
  have l1 : (J (base :: cs)).length ≤ (base :: cs).length * (M + 1) := J_len fun x hx => by
    rcases List.mem_cons.mp hx with rfl | hx
    · omega
    · exact (hs x hx).2
  have m1 : (base :: cs).length * (M + 1) ≤ 101 * 101 := Nat.mul_le_mul (by simp; omega) (by omega)
  have l2 : (J (base :: ws)).length ≤ (base :: ws).length * (M + 1) := J_len fun x hx => by
    rcases List.mem_cons.mp hx with rfl | hx
    · omega
    · exact hw x hx
  have m2 : (base :: ws).length * (M + 1) ≤ 101 * 101 := Nat.mul_le_mul (by simp; omega) (by omega)
  have l3 : (J ("a" :: ws)).length ≤ (("a" : Str) :: ws).length * (M + 1) := J_len fun x hx => by
    rcases List.mem_cons.mp hx with rfl | hx
    · show 1 ≤ M; omega
    · exact hw x hx
  have m3 : (("a" : Str) :: ws).length * (M + 1) ≤ 101 * 101 := Nat.mul_le_mul (by simp; omega) (by omega)
  refine ⟨⟨by omega, ?_, ?_⟩, normP_base hb (fun c hc => (hs c hc).1) hf, by omega⟩
  · rw [h1]
    refine jOk_of (M := M) (fun x hx => ?_) ?_
    · rcases List.mem_cons.mp hx with rfl | hx
      · show 1 ≤ M; omega
      · exact hw x hx
    · have : ("/" : Str).length = 1 := rfl
      rw [this]; omega
  · rw [h1, splitP_base hb, len_app]
    have := i0_len base
    have e : Txt.join "/" (("a" : Str) :: ws) = J ("a" :: ws) := rfl
    rw [e]
    show (i0 base).length + _ ≤ _
    omega
theorem fold_words (i : Str) : ∀ {ws acc : List Str}, (∀ c ∈ ws, c.length ≠ 0 ∧ c ≠ "." ∧ c ≠ "..") → ws.foldl (normStep i) acc = acc ++ ws
  | [], acc, _ => by simp
  | c :: ws, acc, h => by
    obtain ⟨h0, h1, h2⟩ := h c List.mem_cons_self
    rw [List.foldl_cons, norm_push h0 h1 h2, fold_words i fun c hc => h c (List.mem_cons_of_mem _ hc)]
    simp
theorem w1_plain {x : Str} (h : x ∈ W1) : x.length ≠ 0 ∧ x ≠ "." ∧ x ≠ ".." := by rcases w1_cases h with rfl | rfl | rfl <;> decide

theorem way_norm {base : Str} (hb : BOK base) {ws : List Str} {sp : Str} (w : Way base ws sp 3) : NormOk sp ∧ normP sp = J (base :: ws) ∧ (J (base :: ws)).length ≤ 20000 := by
  obtain ⟨⟨cs, rfl, hs, hl, hf⟩, hok, hlen⟩ := w
  exact normOk_base hb (M := 6) (fun c hc => ⟨(hs c hc).1, by have := (hs c hc).2; omega⟩) (by omega) (by omega) (by omega) (fun c hc => by have := w1_len (hok c hc); omega) (by omega) hf
theorem world_ok {base : Str} (hb : BOK base) : WorldOk base where
  bl := by have := base_len hb; omega
  ok := fun n _ => by
    have w := way3 hb n
    obtain ⟨h1, h2, h3⟩ := way_norm hb w
    refine ⟨okL_w w.ok, h1, ?_⟩
    rw [h2]; omega

/-! two folders -/
theorem comps_base {base : Str} (hb : BOK base) {ws : List Str} (hw : WOK ws) : comps (J (base :: ws)) = ("a" : Str) :: ws := by
  have hf : ws.filter isComp = ws := List.filter_eq_self.mpr fun x hx => by
    rcases w1_cases (hw x hx) with rfl | rfl | rfl <;> decide
  have hs : ∀ x ∈ ("a" : Str) :: ws, SF x := fun x hx => by
    rcases List.mem_cons.mp hx with rfl | hx
    · decide
    · exact w1_sf (hw x hx)
  unfold comps
  rcases hb with rfl | rfl
  · rw [split_J (by simp) hs, List.filter_cons_of_pos (by decide), hf]
  · have e : J ("/a" :: ws) = J ("" :: "a" :: ws) := L_inj (by rw [J_base_slash, J_cons, L_app, L_app]; rfl)
    rw [e, split_J (by simp) (fun x hx => by
      rcases List.mem_cons.mp hx with rfl | hx
      · decide
      · exact hs x hx), List.filter_cons_of_neg (by decide), List.filter_cons_of_pos (by decide), hf]
theorem sw_base {base : Str} (hb : BOK base) (ws : List Str) : Txt.startswith (J (base :: ws)) "/" = (base == "/a") := by
  obtain ⟨t, ht⟩ := J_a ws
  rcases hb with rfl | rfl
  · rw [Bool.eq_iff_iff, sw_iff, ht, L_slash]
    constructor
    · intro h
      rw [List.cons_prefix_cons] at h
      exact absurd h.1 (by decide)
    · intro h; exact absurd h (by decide)
  · rw [Bool.eq_iff_iff, sw_iff, J_base_slash, L_slash]
    constructor
    · intro _; decide
    · intro _; exact ⟨_, rfl⟩
theorem sharedP_ok : ∀ {a b : List Str}, WOK a → WOK (sharedP a b)
  | [], _, _ => by intro x hx; simp [sharedP] at hx
  | _ :: _, [], _ => by intro x hx; simp [sharedP] at hx
  | x :: a, y :: b, h => by
    rw [sharedP]
    split
    · intro z hz
      rcases List.mem_cons.mp hz with rfl | hz
      · exact h _ List.mem_cons_self
      · exact sharedP_ok (fun x hx => h x (List.mem_cons_of_mem _ hx)) z hz
    · intro z hz; cases hz
theorem common_base {base : Str} (hb : BOK base) {w1 w2 : List Str} (h1 : WOK w1) (h2 : WOK w2) : commonP (J (base :: w1)) (J (base :: w2)) = J (base :: sharedP w1 w2) := by
  have hi : Str.ofString (if Txt.startswith (J (base :: w1)) "/" = true then "/" else "") = i0 base := by
    rw [sw_base hb]
    rcases hb with rfl | rfl <;> rfl
  unfold commonP
  rw [hi, comps_base hb h1, comps_base hb h2, J_base hb, sharedP, if_pos (by simp)]
  rfl
theorem pair_ok {base : Str} (hb : BOK base) {b c : Bd} (hb1 : b.1 = J (base :: b.2.2.2)) (hc1 : c.1 = J (base :: c.2.2.2)) (wb : WOK b.2.2.2) (wc : WOK c.2.2.2) (lb : b.2.2.2.length ≤ 3) (lc : c.2.2.2.length ≤ 3) : PairOk base b c := by
  have hbl := base_len hb
  have hsl := sharedP_len b.2.2.2 c.2.2.2
  have wsh := sharedP_ok (b := c.2.2.2) wb
  have jl : ∀ {ws : List Str}, WOK ws → ws.length ≤ 3 → (J (base :: ws)).length ≤ 12 := fun {ws} hw hl => by
    have := J_len (M := 2) (xs := base :: ws) fun x hx => by
      rcases List.mem_cons.mp hx with rfl | hx
      · omega
      · exact w1_len (hw x hx)
    simp only [List.length_cons] at this
    have h4 : (ws.length + 1) * (2 + 1) ≤ 12 := by omega
    omega
  have jok : ∀ {ws : List Str} {y : Str}, WOK ws → ws.length ≤ 3 → y.length ≤ 2 → JoinOk "/" (y :: ws) = true := fun {ws y} hw hl hy => by
    refine jOk_of (M := 2) (fun x hx => ?_) ?_
    · rcases List.mem_cons.mp hx with rfl | hx
      · omega
      · exact w1_len (hw x hx)
    · have : ("/" : Str).length = 1 := rfl
      rw [this]; simp only [List.length_cons]; omega
  refine ⟨?_, ?_, ?_, ?_, ?_, ?_, ?_, okL_w wb, okL_w wc, by omega⟩
  · rw [hb1]; have := jl wb lb; omega
  · rw [hc1]; have := jl wc lc; omega
  · rw [hb1, hc1, sw_base hb, sw_base hb]
  · rw [hb1, hc1, comps_base hb wb, comps_base hb wc, sharedP, if_pos (by simp)]
    exact jok wsh (by omega) (by decide)
  · rw [hb1, hc1, common_base hb wb wc]; have := jl wsh (by omega); omega
  · rw [hb1, hc1, common_base hb wb wc]; rfl
  · exact jok wsh (by omega) hbl

/-! a folder before a file -/
theorem E_prefix : ∀ {ys xs : List Str} {z : List Nat}, (∀ y ∈ ys, SF y) → (∀ x ∈ xs, SF x) → 47 ∉ z → (E ys <+: E xs ++ z ↔ ys <+: xs)
  | [], _, _, _, _, _ => ⟨fun _ => List.nil_prefix, fun _ => ⟨_, rfl⟩⟩
  | y :: ys, [], z, _, _, hz => by
    constructor
    · rintro ⟨t, ht⟩
      exfalso
      rw [E_cons] at ht
      refine hz ?_
      have : E ([] : List Str) ++ z = z := rfl
      rw [this] at ht
      rw [← ht]; simp
    · intro h; cases List.prefix_nil.mp h
  | y :: ys, x :: xs, z, hy, hx, hz => by
    have hy0 := hy y List.mem_cons_self
    have hx0 := hx x List.mem_cons_self
    have ih := E_prefix (ys := ys) (xs := xs) (z := z) (fun y h => hy y (List.mem_cons_of_mem _ h)) (fun x h => hx x (List.mem_cons_of_mem _ h)) hz
    rw [E_cons, E_cons, List.cons_prefix_cons]
    constructor
    · rintro ⟨t, ht⟩
      have : L y ++ 47 :: (E ys ++ t) = L x ++ 47 :: (E xs ++ z) := by simpa using ht
      obtain ⟨e1, e2⟩ := seg_eq hy0 hx0 this
      exact ⟨L_inj e1, ih.mp ⟨t, e2⟩⟩
    · rintro ⟨rfl, h⟩
      obtain ⟨t, ht⟩ := ih.mpr h
      exact ⟨t, by rw [List.append_assoc, List.cons_append, ht, List.append_assoc, List.cons_append]⟩
noncomputable def front (base : Str) : List Str := if base == "/a" then ["", "a"] else ["a"]
theorem front_sf {base : Str} : ∀ x ∈ front base, SF x := by
  unfold front
  split
  · intro x hx; simp at hx; rcases hx with rfl | rfl <;> decide
  · intro x hx; simp at hx; subst hx; decide
theorem E_base {base : Str} (hb : BOK base) (ws : List Str) : E (base :: ws) = E (front base ++ ws) := by
  rcases hb with rfl | rfl <;> (simp [front, E_cons, E]; try rfl)
theorem under_iff {base : Str} (hb : BOK base) {ys xs : List Str} {z : Str} (hy : ∀ y ∈ ys, SF y) (hx : ∀ x ∈ xs, SF x) (hz : SF z) :
    Txt.startswith (J (base :: (xs ++ [z]))) (J (base :: ys) ++ "/") = true ↔ ys <+: xs := by
  rw [sw_iff, L_app, L_slash]
  have e1 : L (J (base :: (xs ++ [z]))) = E (base :: xs) ++ L z := J_snoc z (base :: xs)
  have e2 : L (J (base :: ys)) ++ [47] = E (base :: ys) := by
    obtain ⟨as, b, e⟩ := snoc_of (l := base :: ys) (by simp)
    rw [e, J_snoc, E_last]
  rw [e1, e2, E_base hb, E_base hb, E_prefix (fun y h => ?_) (fun x h => ?_) hz, List.prefix_append_right_inj]
  · rcases List.mem_append.mp h with h | h
    · exact front_sf y h
    · exact hy y h
  · rcases List.mem_append.mp h with h | h
    · exact front_sf x h
    · exact hx x h
end Mine

namespace Mine

/-! bits -/
theorem and_bit (m i : Nat) : m &&& 2 ^ i = (m / 2 ^ i % 2) * 2 ^ i := by
  have h : m / 2 ^ i % 2 = 0 ∨ m / 2 ^ i % 2 = 1 := Nat.mod_two_eq_zero_or_one _
  have ht := Nat.testBit_eq_decide_div_mod_eq (x := m) (i := i)
  apply Nat.eq_of_testBit_eq
  intro j
  rw [Nat.testBit_and, Nat.testBit_two_pow]
  rcases h with h | h
  · rw [h] at ht ⊢
    by_cases hj : i = j
    · subst hj; simp [ht]
    · simp [hj]
  · rw [h] at ht ⊢
    by_cases hj : i = j
    · subst hj; simp [ht]
    · simp [hj, Nat.testBit_two_pow]
theorem int_beq (a b : Nat) : (((a : Nat) : Int) == ((b : Nat) : Int)) = (a == b) := by
  rw [Bool.eq_iff_iff, beq_iff_eq, beq_iff_eq]; omega
theorem mask1 (m i : Nat) : (Builtin.bitAnd (m : Int) ((2 ^ i : Nat) : Int) == ((2 ^ i : Nat) : Int)) = (m / 2 ^ i % 2 == 1) := by
  rw [bitAnd_pp (Int.natCast_nonneg _) (Int.natCast_nonneg _), Int.toNat_natCast, Int.toNat_natCast, and_bit, int_beq]
  have hp : 0 < 2 ^ i := Nat.two_pow_pos i
  have h : m / 2 ^ i % 2 = 0 ∨ m / 2 ^ i % 2 = 1 := Nat.mod_two_eq_zero_or_one _
  rcases h with h | h <;> rw [h]
  · rw [Bool.eq_iff_iff, beq_iff_eq, beq_iff_eq]; omega
  · simp
theorem mask2 (m i j : Nat) (hs : ((0 * 2 ^ i ||| 1 * 2 ^ j) == (2 ^ i ||| 2 ^ j)) = false ∧ ((1 * 2 ^ i ||| 0 * 2 ^ j) == (2 ^ i ||| 2 ^ j)) = false ∧ ((0 * 2 ^ i ||| 0 * 2 ^ j) == (2 ^ i ||| 2 ^ j)) = false) :
    (Builtin.bitAnd (m : Int) ((2 ^ i ||| 2 ^ j : Nat) : Int) == ((2 ^ i ||| 2 ^ j : Nat) : Int)) = (m / 2 ^ i % 2 == 1 && m / 2 ^ j % 2 == 1) := by
  rw [bitAnd_pp (Int.natCast_nonneg _) (Int.natCast_nonneg _), Int.toNat_natCast, Int.toNat_natCast, Nat.and_or_distrib_left, and_bit, and_bit, int_beq]
  have h1 : m / 2 ^ i % 2 = 0 ∨ m / 2 ^ i % 2 = 1 := Nat.mod_two_eq_zero_or_one _
  have h2 : m / 2 ^ j % 2 = 0 ∨ m / 2 ^ j % 2 = 1 := Nat.mod_two_eq_zero_or_one _
  rcases h1 with h1 | h1 <;> rcases h2 with h2 | h2 <;> rw [h1, h2]
  · rw [hs.2.2]; rfl
  · rw [hs.1]; rfl
  · rw [hs.2.1]; rfl
  · simp
theorem mask_top {m : Nat} (h : m < 65536) : Builtin.bitAnd (m : Int) 61440 = ((4096 * (m / 4096) : Nat) : Int) := by
  rw [bitAnd_pp (Int.natCast_nonneg _) (by decide), Int.toNat_natCast]
  have e : (61440 : Int).toNat = 61440 := rfl
  rw [e]
  have h1 : (m &&& 61440) / 2 ^ 12 = m / 2 ^ 12 &&& 61440 / 2 ^ 12 := Nat.and_div_two_pow
  have h2 : (m &&& 61440) % 2 ^ 12 = m % 2 ^ 12 &&& 61440 % 2 ^ 12 := Nat.and_mod_two_pow
  have h3 : m / 4096 &&& 15 = m / 4096 := by
    have : m / 4096 &&& (2 ^ 4 - 1) = m / 4096 % 2 ^ 4 := Nat.and_two_pow_sub_one_eq_mod _ _
    rw [show (2 ^ 4 - 1 : Nat) = 15 from rfl] at this
    rw [this]; omega
  have e1 : (61440 : Nat) / 2 ^ 12 = 15 := rfl
  have e2 : (61440 : Nat) % 2 ^ 12 = 0 := rfl
  have e3 : (2 : Nat) ^ 12 = 4096 := rfl
  rw [e1, e3, h3] at h1
  rw [e2, e3, Nat.and_zero] at h2
  have := Nat.div_add_mod (m &&& 61440) 4096
  rw [h1, h2] at this
  rw [← this]; rfl

noncomputable def rc (a : Nat) : Nat := if a = 1 then 114 else 45
noncomputable def wc (a : Nat) : Nat := if a = 1 then 119 else 45
noncomputable def xc (b a : Nat) : Nat := if b = 1 then (if a = 1 then 115 else 120) else (if a = 1 then 83 else 45)
noncomputable def xt (b a : Nat) : Nat := if b = 1 then (if a = 1 then 116 else 120) else (if a = 1 then 84 else 45)
noncomputable def tcode (t : Nat) : Nat := ([63, 112, 99, 63, 100, 63, 98, 63, 45, 63, 108, 63, 115, 63, 63, 63] : List Nat).getD t 0
noncomputable def cods (m : Nat) : List Nat := [tcode (m / 4096), rc (m / 256 % 2), wc (m / 128 % 2), xc (m / 64 % 2) (m / 2048 % 2), rc (m / 32 % 2), wc (m / 16 % 2), xc (m / 8 % 2) (m / 1024 % 2), rc (m / 4 % 2), wc (m / 2 % 2), xt (m / 1 % 2) (m / 512 % 2)]

theorem L_at1 (x : Str) (i : Nat) : L (at1 x i) = [x.cps.getD i 0] := rfl
theorem oct (x : Nat) : x % 8 / 2 = x / 2 % 2 + 2 * (x / 4 % 2) ∧ x % 8 % 2 = x % 2 := by omega
theorem tb (x : Nat) : ∃ b : Bool, x % 2 = b.toNat := by
  rcases Nat.mod_two_eq_zero_or_one x with h | h
  · exact ⟨false, h⟩
  · exact ⟨true, h⟩
theorem step_q {xs : Str} {f : Nat → Nat → Nat} (hf : ∀ p q r s : Bool, L (rwL.getD (p.toNat + 2 * q.toNat) "--") ++ [xs.cps.getD (r.toNat + s.toNat * 2) 0] = [rc q.toNat, wc p.toNat, f r.toNat s.toNat]) (t : Str) (m a b : Nat) :
    L (listStep m t (a, b, xs)) = L t ++ [rc (m / a / 4 % 2), wc (m / a / 2 % 2), f (m / a % 2) (m / b % 2)] := by
  unfold listStep
  simp only
  rw [(oct (m / a)).1, (oct (m / a)).2, L_app, L_app, L_at1, List.append_assoc]
  obtain ⟨p, hp⟩ := tb (m / a / 2)
  obtain ⟨q, hq⟩ := tb (m / a / 4)
  obtain ⟨r, hr⟩ := tb (m / a)
  obtain ⟨s, hs⟩ := tb (m / b)
  rw [hp, hq, hr, hs, hf p q r s]
theorem step_x (t : Str) (m : Nat) : L (listStep m t (64, 2048, "-xSs")) = L t ++ [rc (m / 256 % 2), wc (m / 128 % 2), xc (m / 64 % 2) (m / 2048 % 2)] := by
  have h := step_q (xs := "-xSs") (f := xc) (by decide +kernel) t m 64 2048
  rw [Nat.div_div_eq_div_mul, Nat.div_div_eq_div_mul] at h
  exact h
theorem step_g (t : Str) (m : Nat) : L (listStep m t (8, 1024, "-xSs")) = L t ++ [rc (m / 32 % 2), wc (m / 16 % 2), xc (m / 8 % 2) (m / 1024 % 2)] := by
  have h := step_q (xs := "-xSs") (f := xc) (by decide +kernel) t m 8 1024
  rw [Nat.div_div_eq_div_mul, Nat.div_div_eq_div_mul] at h
  exact h
theorem step_o (t : Str) (m : Nat) : L (listStep m t (1, 512, "-xTt")) = L t ++ [rc (m / 4 % 2), wc (m / 2 % 2), xt (m / 1 % 2) (m / 512 % 2)] := by
  have h := step_q (xs := "-xTt") (f := xt) (by decide +kernel) t m 1 512
  rw [Nat.div_div_eq_div_mul, Nat.div_div_eq_div_mul] at h
  exact h
theorem d16 {m : Nat} (h : m < 65536) : m / 4096 < 16 := Nat.div_lt_of_lt_mul h
theorem tcode_ok : ∀ t, t < 16 → ("?pc?d?b?-?l?s???" : Str).cps.getD t 0 = tcode t := by decide +kernel
theorem L_listP {m : Nat} (h : m < 65536) : L (listP m) = cods m := by
  unfold listP trips
  simp only [List.foldl_cons, List.foldl_nil]
  rw [step_o, step_g, step_x, L_at1]
  rw [tcode_ok _ (d16 h)]; rfl

/-! filemode -/
theorem L_join0 : ∀ xs : List Str, L (Txt.join "" xs) = xs.flatMap L
  | [] => rfl
  | [x] => by
    have e : Txt.join "" [x] = Str.join "" [x] := StrLaws.glued_eq_join _ _
    rw [e]; show L x = _; simp
  | x :: y :: r => by
    have e : Txt.join "" (x :: y :: r) = Str.join "" (x :: y :: r) := StrLaws.glued_eq_join _ _
    have e2 : Txt.join "" (y :: r) = Str.join "" (y :: r) := StrLaws.glued_eq_join _ _
    have ih := L_join0 (y :: r)
    rw [e2] at ih
    rw [e]
    show L (x ++ "" ++ Str.join "" (y :: r)) = _
    rw [L_app, L_app, ih, show L ("" : Str) = [] from rfl]
    simp
noncomputable def topOf (v : Int) : List Bit → Str
  | [] => "?"
  | (b, c) :: r => if v == b then c else topOf v r
theorem charOf_top (m : Int) : ∀ l, charOf m 0 l = topOf (Builtin.bitAnd m 61440) l
  | [] => rfl
  | (b, c) :: r => by
    show (if (Builtin.bitAnd m 61440 == b) = true then c else charOf m 0 r) = _
    rw [charOf_top m r]; rfl
theorem top_ok : ∀ t : Nat, t < 16 → L (topOf ((4096 * t : Nat) : Int) [(40960, "l"), (49152, "s"), (32768, "-"), (24576, "b"), (16384, "d"), (8192, "c"), (4096, "p")]) = [tcode t] := by decide +kernel
theorem c_top {m : Nat} (h : m < 65536) : L (charOf m 0 [(40960, "l"), (49152, "s"), (32768, "-"), (24576, "b"), (16384, "d"), (8192, "c"), (4096, "p")]) = [tcode (m / 4096)] := by
  rw [charOf_top, mask_top h]
  exact top_ok _ (d16 h)
theorem c_r (m k j : Nat) (hj : j ≠ 0) : L (charOf m j [(((2 ^ k : Nat) : Int), "r")]) = [rc (m / 2 ^ k % 2)] := by
  simp only [charOf, if_neg hj, mask1]
  have h1 : m / 2 ^ k % 2 = 0 ∨ m / 2 ^ k % 2 = 1 := Nat.mod_two_eq_zero_or_one _
  rcases h1 with h1 | h1 <;> rw [h1] <;> rfl
theorem c_w (m k j : Nat) (hj : j ≠ 0) : L (charOf m j [(((2 ^ k : Nat) : Int), "w")]) = [wc (m / 2 ^ k % 2)] := by
  simp only [charOf, if_neg hj, mask1]
  have h1 : m / 2 ^ k % 2 = 0 ∨ m / 2 ^ k % 2 = 1 := Nat.mod_two_eq_zero_or_one _
  rcases h1 with h1 | h1 <;> rw [h1] <;> rfl
theorem c_x (m a b j : Nat) (hj : j ≠ 0) (hs : ((0 * 2 ^ a ||| 1 * 2 ^ b) == (2 ^ a ||| 2 ^ b)) = false ∧ ((1 * 2 ^ a ||| 0 * 2 ^ b) == (2 ^ a ||| 2 ^ b)) = false ∧ ((0 * 2 ^ a ||| 0 * 2 ^ b) == (2 ^ a ||| 2 ^ b)) = false) :
    L (charOf m j [(((2 ^ a ||| 2 ^ b : Nat) : Int), "s"), (((2 ^ a : Nat) : Int), "S"), (((2 ^ b : Nat) : Int), "x")]) = [xc (m / 2 ^ b % 2) (m / 2 ^ a % 2)] := by
  simp only [charOf, if_neg hj, mask1, mask2 m a b hs]
  have h1 : m / 2 ^ a % 2 = 0 ∨ m / 2 ^ a % 2 = 1 := Nat.mod_two_eq_zero_or_one _
  have h2 : m / 2 ^ b % 2 = 0 ∨ m / 2 ^ b % 2 = 1 := Nat.mod_two_eq_zero_or_one _
  rcases h1 with h1 | h1 <;> rcases h2 with h2 | h2 <;> rw [h1, h2] <;> rfl
theorem c_t (m a b j : Nat) (hj : j ≠ 0) (hs : ((0 * 2 ^ a ||| 1 * 2 ^ b) == (2 ^ a ||| 2 ^ b)) = false ∧ ((1 * 2 ^ a ||| 0 * 2 ^ b) == (2 ^ a ||| 2 ^ b)) = false ∧ ((0 * 2 ^ a ||| 0 * 2 ^ b) == (2 ^ a ||| 2 ^ b)) = false) :
    L (charOf m j [(((2 ^ a ||| 2 ^ b : Nat) : Int), "t"), (((2 ^ a : Nat) : Int), "T"), (((2 ^ b : Nat) : Int), "x")]) = [xt (m / 2 ^ b % 2) (m / 2 ^ a % 2)] := by
  simp only [charOf, if_neg hj, mask1, mask2 m a b hs]
  have h1 : m / 2 ^ a % 2 = 0 ∨ m / 2 ^ a % 2 = 1 := Nat.mod_two_eq_zero_or_one _
  have h2 : m / 2 ^ b % 2 = 0 ∨ m / 2 ^ b % 2 = 1 := Nat.mod_two_eq_zero_or_one _
  rcases h1 with h1 | h1 <;> rcases h2 with h2 | h2 <;> rw [h1, h2] <;> rfl
theorem chars_L {m : Nat} (h : m < 65536) : (chars m 0 fmTable).map L = [[tcode (m / 4096)], [rc (m / 256 % 2)], [wc (m / 128 % 2)], [xc (m / 64 % 2) (m / 2048 % 2)], [rc (m / 32 % 2)], [wc (m / 16 % 2)], [xc (m / 8 % 2) (m / 1024 % 2)], [rc (m / 4 % 2)], [wc (m / 2 % 2)], [xt (m / 1 % 2) (m / 512 % 2)]] := by
  have e1 := c_r m 8 1 (by decide)
  have e2 := c_w m 7 2 (by decide)
  have e3 := c_x m 11 6 3 (by decide) (by decide)
  have e4 := c_r m 5 4 (by decide)
  have e5 := c_w m 4 5 (by decide)
  have e6 := c_x m 10 3 6 (by decide) (by decide)
  have e7 := c_r m 2 7 (by decide)
  have e8 := c_w m 1 8 (by decide)
  have e9 := c_t m 9 0 9 (by decide) (by decide)
  show [L (charOf m 0 [(40960, "l"), (49152, "s"), (32768, "-"), (24576, "b"), (16384, "d"), (8192, "c"), (4096, "p")]), L (charOf m 1 [(((2 ^ 8 : Nat) : Int), "r")]), L (charOf m 2 [(((2 ^ 7 : Nat) : Int), "w")]), L (charOf m 3 [(((2 ^ 11 ||| 2 ^ 6 : Nat) : Int), "s"), (((2 ^ 11 : Nat) : Int), "S"), (((2 ^ 6 : Nat) : Int), "x")]),
    L (charOf m 4 [(((2 ^ 5 : Nat) : Int), "r")]), L (charOf m 5 [(((2 ^ 4 : Nat) : Int), "w")]), L (charOf m 6 [(((2 ^ 10 ||| 2 ^ 3 : Nat) : Int), "s"), (((2 ^ 10 : Nat) : Int), "S"), (((2 ^ 3 : Nat) : Int), "x")]),
    L (charOf m 7 [(((2 ^ 2 : Nat) : Int), "r")]), L (charOf m 8 [(((2 ^ 1 : Nat) : Int), "w")]), L (charOf m 9 [(((2 ^ 9 ||| 2 ^ 0 : Nat) : Int), "t"), (((2 ^ 9 : Nat) : Int), "T"), (((2 ^ 0 : Nat) : Int), "x")])] = _
  rw [c_top h, e1, e2, e3, e4, e5, e6, e7, e8, e9]
theorem fm_ok : FmOk := fun m h => by
  have hc := chars_L h
  refine ⟨L_inj ?_, ?_⟩
  · rw [fmP, L_join0, L_listP h, List.flatMap_def, hc]; rfl
  · refine jOk_of (M := 1) (fun x hx => ?_) ?_
    · have hm : L x ∈ (chars m 0 fmTable).map L := List.mem_map_of_mem hx
      rw [hc] at hm
      have hl : (L x).length = 1 := by
        simp only [List.mem_cons, List.not_mem_nil, or_false] at hm
        rcases hm with e | e | e | e | e | e | e | e | e | e <;> rw [e] <;> rfl
      rw [← L_len, hl]; exact Nat.le_refl _
    · have : (chars m 0 fmTable).length = 10 := rfl
      rw [this]
      have : ("" : Str).length = 0 := rfl
      rw [this]; decide
end Mine

namespace Mine

theorem at1_L (x : Str) (i : Nat) : at1 x i = ⟨#[(L x).getD i 0]⟩ := by
  unfold at1
  have : x.cps.getD i 0 = (L x).getD i 0 := by
    cases x with | mk a => cases a with | mk l => simp [Array.getD, List.getD_eq_getElem?_getD]; split <;> simp_all
  rw [this]
theorem dir_ok : ∀ t, t < 16 → ((⟨#[tcode t]⟩ : Str) != "d") = (t != 4) := by decide +kernel
theorem bar_dir {m : Nat} (h : m < 65536) : (at1 (listP m) 0 != "d") = (m / 4096 != 4) := by
  rw [at1_L, L_listP h]
  exact dir_ok _ (d16 h)
theorem run_x : ∀ p q : Bool, (!(Txt.contains "xst" ⟨#[xc p.toNat q.toNat]⟩)) = (p.toNat == 0) := by decide +kernel
theorem run_t : ∀ p q : Bool, (!(Txt.contains "xst" ⟨#[xt p.toNat q.toNat]⟩)) = (p.toNat == 0) := by decide +kernel
theorem run_at {f : Nat → Nat → Nat} (hf : ∀ p q : Bool, (!(Txt.contains "xst" ⟨#[f p.toNat q.toNat]⟩)) = (p.toNat == 0)) (a b : Nat) : (!(Txt.contains "xst" ⟨#[f (a % 2) (b % 2)]⟩)) = (a % 2 == 0) := by
  obtain ⟨p, hp⟩ := tb a
  obtain ⟨q, hq⟩ := tb b
  rw [hp, hq, hf p q]
theorem i3 {i : Nat} (h : i < 3) : i = 0 ∨ i = 1 ∨ i = 2 := by revert i; decide
theorem bar_run {m way : Nat} (h : m < 65536) (hw : way < 3) : (!(Txt.contains "xst" (at1 (listP m) (3 + 3 * way)))) = (m / unitP way % 2 == 0) := by
  rw [at1_L, L_listP h]
  rcases i3 hw with rfl | rfl | rfl
  · exact run_at run_x (m / 64) (m / 2048)
  · exact run_at run_x (m / 8) (m / 1024)
  · exact run_at run_t (m / 1) (m / 512)
/-- barred, by the bits -/
noncomputable def isBar (way : Nat) (m : Nat) : Bool := m / 4096 != 4 || m / unitP way % 2 == 0
theorem barHit_eq {way : Nat} (hw : way < 3) {r : Rw} (h : r.2.1 < 65536) : barHit way r = if isBar way r.2.1 then some (normP r.2.2, listP r.2.1, r.2.2, r.1) else none := by
  unfold barHit isBar
  rw [bar_dir h, bar_run h hw]
theorem listP_ne (m : Nat) : listP m ≠ "" := fun h => by
  have := listP_len m
  rw [h] at this
  exact absurd this (by decide)
theorem tcode_lt : ∀ t, t < 16 → tcode t < 128 := by decide
theorem okS_list {m : Nat} (h : m < 65536) : OkS (listP m) = true := by
  have hL := L_listP h
  have hall : ∀ c ∈ L (listP m), c < 128 := by
    rw [hL]
    intro c hc
    have hr : ∀ a, rc a < 128 := fun a => by unfold rc; split <;> decide
    have hw : ∀ a, wc a < 128 := fun a => by unfold wc; split <;> decide
    have hx : ∀ a b, xc a b < 128 := fun a b => by unfold xc; (repeat' split) <;> decide
    have ht : ∀ a b, xt a b < 128 := fun a b => by unfold xt; (repeat' split) <;> decide
    have h0 : tcode (m / 4096) < 128 := tcode_lt _ (d16 h)
    simp only [cods, List.mem_cons, List.not_mem_nil, or_false] at hc
    rcases hc with rfl | rfl | rfl | rfl | rfl | rfl | rfl | rfl | rfl | rfl <;> first | exact h0 | exact hr _ | exact hw _ | exact hx _ _ | exact ht _ _
  show (listP m).cps.all (· < 0x110000) = true
  rw [← Array.all_toList, List.all_eq_true]
  intro c hc
  have := hall c hc
  simp only [decide_eq_true_eq]
  omega
end Mine

namespace Mine

theorem called_facts {i : Nat} (h : i < 8) : SF (calledP i) ∧ (calledP i).length ≤ 6 ∧ ((calledP i).length ≠ 0 ∧ calledP i ≠ "." ∧ calledP i ≠ "..") ∧ Txt.startswith (calledP i) "/" = false ∧ calledP i ∉ W1 := by
  rcases i8 h with rfl | rfl | rfl | rfl | rfl | rfl | rfl | rfl <;> decide +kernel
theorem called_stem {i : Nat} (h : i < 8) : (extP (calledP i)).1 = stemP i := by
  rcases i8 h with rfl | rfl | rfl | rfl | rfl | rfl | rfl | rfl <;> decide +kernel
theorem stem_ne {i : Nat} (h : i < 8) : stemP i ≠ "<string>" := by
  rcases i8 h with rfl | rfl | rfl | rfl | rfl | rfl | rfl | rfl <;> decide +kernel

theorem path_join {base : Str} (hb : BOK base) {ws : List Str} (hw : WOK ws) {i : Nat} (h : i < 8) : joinP (J (base :: ws)) (calledP i) = J (base :: (ws ++ [calledP i])) := by
  obtain ⟨c1, c2, c3, c4, c5⟩ := called_facts h
  have := join_step hb (cs := ws) (ps := [calledP i]) (fun c hc => w1_sf (hw c hc)) (by simp) (by rw [J_one]; exact c4)
  rw [J_one] at this
  rw [this, if_neg]
  intro hl
  exact w1_ne (hw _ (List.mem_of_getLast? hl)) rfl
theorem path_plain {ws : List Str} (hw : WOK ws) {i : Nat} (h : i < 8) : ∀ c ∈ ws ++ [calledP i], SF c ∧ c.length ≤ 6 ∧ (c.length ≠ 0 ∧ c ≠ "." ∧ c ≠ "..") := by
  obtain ⟨c1, c2, c3, c4, c5⟩ := called_facts h
  intro c hc
  rcases List.mem_append.mp hc with hc | hc
  · exact ⟨w1_sf (hw c hc), by have := w1_len (hw c hc); omega, w1_plain (hw c hc)⟩
  · rw [List.mem_singleton.mp hc]; exact ⟨c1, c2, c3⟩
theorem path_norm {base : Str} (hb : BOK base) {ws : List Str} (hw : WOK ws) (hl : ws.length ≤ 3) {i : Nat} (h : i < 8) :
    NormOk (J (base :: (ws ++ [calledP i]))) ∧ normP (J (base :: (ws ++ [calledP i]))) = J (base :: (ws ++ [calledP i])) ∧ (J (base :: (ws ++ [calledP i]))).length ≤ 100 := by
  have hp := path_plain hw h
  have h1 := normOk_base hb (cs := ws ++ [calledP i]) (ws := ws ++ [calledP i]) (M := 6) (fun c hc => ⟨(hp c hc).1, (hp c hc).2.1⟩) (by simp; omega) (by omega) (by omega) (fun c hc => (hp c hc).2.1) (by simp; omega)
    (by rw [fold_words _ fun c hc => (hp c hc).2.2]; rfl)
  refine ⟨h1.1, h1.2.1, ?_⟩
  have hbl := base_len hb
  have h2 := J_len (M := 6) (xs := base :: (ws ++ [calledP i])) fun x hx => by
    rcases List.mem_cons.mp hx with rfl | hx
    · omega
    · exact (hp x hx).2.1
  simp only [List.length_cons, List.length_append, List.length_nil] at h2
  omega
theorem at_slash (x : Str) (i : Nat) : StrLaws.At x "/" x.length i ↔ (L x)[i]? = some 47 := StrLaws.subAt_one x 47 i
theorem path_base {base : Str} {ws : List Str} {i : Nat} (h : i < 8) : baseP (J (base :: (ws ++ [calledP i]))) = calledP i := by
  obtain ⟨c1, c2, c3, c4, c5⟩ := called_facts h
  have hL : L (J (base :: (ws ++ [calledP i]))) = E (base :: ws) ++ L (calledP i) := J_snoc _ (base :: ws)
  obtain ⟨as, b, e⟩ := snoc_of (l := base :: ws) (by simp)
  have hE : E (base :: ws) = (E as ++ L b) ++ [47] := by rw [e, E_last]
  have hpos : (L (J (base :: (ws ++ [calledP i]))))[(E as ++ L b).length]? = some 47 := by
    rw [hL, hE, List.append_assoc (E as ++ L b), List.getElem?_append_right (Nat.le_refl _)]; simp
  have hlen : (E (base :: ws)).length = (E as ++ L b).length + 1 := by rw [hE, List.length_append]; rfl
  have hr : Txt.rfind (J (base :: (ws ++ [calledP i]))) "/" = (((E as ++ L b).length : Nat) : Int) := by
    rcases rfind_whole (J (base :: (ws ++ [calledP i]))) "/" with ⟨_, hn⟩ | ⟨k, hk, hat, hn⟩
    · exact absurd ((at_slash _ _).mpr hpos) (hn _)
    · rw [hk]
      rcases Nat.lt_trichotomy k (E as ++ L b).length with hlt | heq | hgt
      · exact absurd ((at_slash _ _).mpr hpos) (hn _ hlt)
      · rw [heq]
      · exfalso
        have hat' := (at_slash _ _).mp hat
        rw [hL, List.getElem?_append_right (by omega)] at hat'
        exact c1 (List.mem_of_getElem? hat')
  refine L_inj ?_
  unfold baseP
  rw [hr]
  have hcast : ((((E as ++ L b).length : Nat) : Int) + 1) = (((E (base :: ws)).length : Nat) : Int) := by rw [hlen]; push_cast; rfl
  rw [hcast, slice_from _ (by rw [hL]; simp), hL, List.drop_left]
theorem path_mod {base : Str} {ws : List Str} {i : Nat} (h : i < 8) : modP (J (base :: (ws ++ [calledP i]))) = stemP i := by
  unfold modP
  rw [path_base h, called_stem h]

/-! the world -/
noncomputable def FileOk (base : Str) (f : Fl) : Prop := ∃ i ws, i < 8 ∧ WOK ws ∧ ws.length ≤ 3 ∧ f = (ws, J (base :: (ws ++ [calledP i])), calledP i, stemP i)
structure RowOk (base : Str) (r : Rw) : Prop where
  way : Way base r.1 r.2.2 3
  mode : r.2.1 < 65536
theorem toggle_lt {j m : Nat} (hj : j < 16) (hm : m < 65536) : toggle (2 ^ j) m < 65536 := by
  unfold toggle
  obtain ⟨c, hc⟩ : ∃ c, 2 ^ j * (2 * c) = 65536 := ⟨2 ^ (15 - j), by
    rw [Nat.mul_comm 2, ← Nat.pow_succ, ← Nat.pow_add, show j + (15 - j + 1) = 16 by omega]⟩
  have hp : 0 < 2 ^ j := Nat.two_pow_pos j
  generalize 2 ^ j = p at hc hp
  split
  · rename_i hb
    have hb' : m / p % 2 = 0 := by simpa using hb
    have h1 : m / p < 2 * c := Nat.div_lt_of_lt_mul (by rw [hc]; exact hm)
    have h2 : m / p + 2 ≤ 2 * c := by omega
    have h3 : p * (m / p + 2) ≤ p * (2 * c) := Nat.mul_le_mul_left p h2
    have h4 := Nat.div_add_mod m p
    have h5 := Nat.mod_lt m hp
    rw [Nat.mul_add, hc] at h3
    generalize p * (m / p) = q at h3 h4
    omega
  · exact Nat.lt_of_le_of_lt (Nat.sub_le _ _) hm
theorem updR_ok {base : Str} {ws : List Str} {f : Nat → Nat} {sp : Str} (hf : ∀ m, m < 65536 → f m < 65536) (hw : Way base ws sp 3) : ∀ {rows : List Rw}, (∀ r ∈ rows, RowOk base r) → ∀ r ∈ updR ws f sp rows, RowOk base r
  | [], _, r, hr => by simp [updR] at hr
  | q :: rows, h, r, hr => by
    rw [updR] at hr
    have hq := h q List.mem_cons_self
    split at hr
    · rename_i he
      rcases List.mem_cons.mp hr with rfl | hr
      · refine ⟨?_, hf _ hq.mode⟩
        have : q.1 = ws := by simpa using he
        show Way base q.1 sp 3
        rw [this]; exact hw
      · exact h r (List.mem_cons_of_mem _ hr)
    · rcases List.mem_cons.mp hr with rfl | hr
      · exact hq
      · exact updR_ok hf hw (fun r hr => h r (List.mem_cons_of_mem _ hr)) r hr
theorem updR_len (ws : List Str) (f : Nat → Nat) (sp : Str) (rows : List Rw) : (updR ws f sp rows).length = rows.length := by
  have := congrArg List.length (updR_words ws f sp rows)
  simpa using this
structure WInv (base : Str) (n : Nat) (st : List Rw × List Fl) : Prop where
  rows : ∀ r ∈ st.1, RowOk base r
  nd : (st.1.map (·.1)).Nodup
  rl : st.1.length ≤ n
  files : ∀ f ∈ st.2, FileOk base f
  fl : st.2.length ≤ n
theorem wstep_inv {base : Str} (hb : BOK base) {i v : Nat} {st : List Rw × List Fl} (hi : i < 8) (h : WInv base i st) : WInv base (i + 1) (wstep base i v st) := by
  have hw := way3 hb (v % 8 + v / 128 % 64 * 8)
  have hw' : Way base (wayN base v).1 (wayN base v).2 3 := hw
  obtain ⟨_, hnp, _⟩ := way_norm hb hw'
  have hadd : ∀ r ∈ addR st.1 (wayN base v), RowOk base r := fun r hr => by
    unfold addR at hr
    split at hr
    · exact h.rows r hr
    · rcases List.mem_append.mp hr with hr | hr
      · exact h.rows r hr
      · rw [List.mem_singleton.mp hr]; exact ⟨hw', (by show 16895 < 65536; decide)⟩
  have haddl : (addR st.1 (wayN base v)).length ≤ i + 1 := by
    have := h.rl
    unfold addR
    split
    · omega
    · simp; omega
  have haddn : ((addR st.1 (wayN base v)).map (·.1)).Nodup := by
    unfold addR
    split
    · exact h.nd
    · rename_i hn
      rw [List.map_append, List.nodup_append]
      refine ⟨h.nd, by simp, fun a ha b hb => ?_⟩
      simp at hb
      subst hb
      rintro rfl
      exact hn (by simpa using ha)
  refine ⟨updR_ok (fun m hm => toggle_lt (Nat.mod_lt _ (by decide)) hm) hw' hadd, by rw [wstep, updR_words]; exact haddn, by rw [wstep, updR_len]; exact haddl, fun f hf => ?_, ?_⟩
  · rcases List.mem_append.mp hf with hf | hf
    · exact h.files f hf
    · rw [List.mem_singleton.mp hf, hnp, path_join hb hw'.ok hi]
      exact ⟨i, _, hi, hw'.ok, hw'.len, rfl⟩
  · show (st.2 ++ [_]).length ≤ _
    have := h.fl
    simp; omega
theorem world_inv {base : Str} (hb : BOK base) : ∀ (vs : List Int) (i : Nat) (st : List Rw × List Fl), i + vs.length ≤ 8 → WInv base i st → WInv base (i + vs.length) (worldP base i vs st)
  | [], i, st, _, h => h
  | v :: vs, i, st, hl, h => by
    simp only [List.length_cons] at hl ⊢
    rw [worldP, show i + (vs.length + 1) = i + 1 + vs.length by omega]
    exact world_inv hb vs (i + 1) _ (by omega) (wstep_inv hb (by omega) h)
end Mine

namespace Mine

theorem sharedP_prefix : ∀ {a b : List Str}, sharedP a b = b ↔ b <+: a
  | [], [] => by simp [sharedP]
  | [], y :: b => by simp [sharedP]
  | x :: a, [] => by simp [sharedP]
  | x :: a, y :: b => by
    rw [sharedP, List.cons_prefix_cons]
    by_cases h : x = y
    · subst h
      rw [if_pos (by simp), ← sharedP_prefix]
      simp
    · rw [if_neg (by simpa using h)]
      simp [Ne.symm h]
theorem base_inj {base : Str} (hb : BOK base) {a b : List Str} (ha : ∀ x ∈ a, SF x) (hb' : ∀ x ∈ b, SF x) (h : J (base :: a) = J (base :: b)) : a = b := by
  rw [J_base hb, J_base hb] at h
  have h1 : L (J ("a" :: a)) = L (J ("a" :: b)) := by
    have := congrArg L h
    rw [L_app, L_app] at this
    exact List.append_cancel_left this
  have h2 := J_inj (xs := ("a" : Str) :: a) (ys := ("a" : Str) :: b) (by simp) (by simp) (fun x hx => by
    rcases List.mem_cons.mp hx with rfl | hx
    · decide
    · exact ha x hx) (fun x hx => by
    rcases List.mem_cons.mp hx with rfl | hx
    · decide
    · exact hb' x hx) (L_inj h1)
  simpa using h2
theorem wok_sf {w : List Str} (h : WOK w) : ∀ x ∈ w, SF x := fun x hx => w1_sf (h x hx)

/-- what is known of a world -/
structure Wd (base : Str) (rows : List Rw) (files : List Fl) (way : Nat) : Prop where
  hb : BOK base
  rok : ∀ r ∈ rows, RowOk base r
  nd : (rows.map (·.1)).Nodup
  fok : ∀ f ∈ files, FileOk base f
  wlt : way < 3

section
variable {base : Str} {rows : List Rw} {files : List Fl} {way : Nat}
noncomputable def Bo (base : Str) (r : Rw) : Bd := (J (base :: r.1), listP r.2.1, r.2.2, r.1)
theorem Wd.norm (D : Wd base rows files way) {r : Rw} (h : r ∈ rows) : NormOk r.2.2 ∧ normP r.2.2 = J (base :: r.1) ∧ (J (base :: r.1)).length ≤ 20000 := way_norm D.hb (D.rok r h).way
theorem Wd.barred (D : Wd base rows files way) (b : Bd) : b ∈ barredP rows way ↔ ∃ r ∈ rows, isBar way r.2.1 = true ∧ b = Bo base r := by
  unfold barredP
  rw [List.mem_filterMap]
  constructor
  · rintro ⟨r, hr, h⟩
    rw [barHit_eq D.wlt (D.rok r hr).mode] at h
    split at h
    · cases h
      exact ⟨r, hr, by assumption, by rw [Bo, (D.norm hr).2.1]⟩
    · cases h
  · rintro ⟨r, hr, h1, rfl⟩
    refine ⟨r, hr, ?_⟩
    rw [barHit_eq D.wlt (D.rok r hr).mode, if_pos h1, (D.norm hr).2.1]; rfl
theorem Wd.bd (D : Wd base rows files way) {b : Bd} (h : b ∈ barredP rows way) : b.1 = J (base :: b.2.2.2) ∧ WOK b.2.2.2 ∧ b.2.2.2.length ≤ 3 ∧ normP b.2.2.1 = J (base :: b.2.2.2) := by
  obtain ⟨r, hr, _, rfl⟩ := (D.barred b).mp h
  exact ⟨rfl, (D.rok r hr).way.ok, (D.rok r hr).way.len, (D.norm hr).2.1⟩
theorem Wd.low (D : Wd base rows files way) {b c : Bd} (hb : b ∈ barredP rows way) (hc : c ∈ barredP rows way) : lowHit b c = true ↔ c.2.2.2 <+: b.2.2.2 ∧ c.2.2.2 ≠ b.2.2.2 := by
  obtain ⟨b1, b2, b3, _⟩ := D.bd hb
  obtain ⟨c1, c2, c3, _⟩ := D.bd hc
  unfold lowHit
  rw [b1, c1, common_base D.hb b2 c2, Bool.and_eq_true, beq_iff_eq, bne_iff_ne, ← sharedP_prefix]
  constructor
  · rintro ⟨h1, h2⟩
    exact ⟨base_inj D.hb (wok_sf (sharedP_ok b2)) (wok_sf c2) h1, h2⟩
  · rintro ⟨h1, h2⟩
    exact ⟨by rw [h1], h2⟩
theorem Wd.tops (D : Wd base rows files way) {t : Bd} : t ∈ topsP (barredP rows way) ↔ t ∈ barredP rows way ∧ ∀ c ∈ barredP rows way, c.2.2.2 <+: t.2.2.2 → c.2.2.2 = t.2.2.2 := by
  unfold topsP
  rw [List.mem_filter]
  constructor
  · rintro ⟨h1, h2⟩
    refine ⟨h1, fun c hc hp => ?_⟩
    by_cases he : c.2.2.2 = t.2.2.2
    · exact he
    · exfalso
      have : (barredP rows way).any (lowHit t) = true := List.any_eq_true.mpr ⟨c, hc, (D.low h1 hc).mpr ⟨hp, he⟩⟩
      rw [this] at h2; cases h2
  · rintro ⟨h1, h2⟩
    refine ⟨h1, ?_⟩
    rw [Bool.not_eq_true', Bool.eq_false_iff]
    intro h
    obtain ⟨c, hc, hl⟩ := List.any_eq_true.mp h
    obtain ⟨h3, h4⟩ := (D.low h1 hc).mp hl
    exact h4 (h2 c hc h3)
theorem Wd.same (D : Wd base rows files way) {b c : Bd} (hb : b ∈ barredP rows way) (hc : c ∈ barredP rows way) (h : b.2.2.2 = c.2.2.2) : b = c := by
  obtain ⟨r, hr, _, rfl⟩ := (D.barred b).mp hb
  obtain ⟨q, hq, _, rfl⟩ := (D.barred c).mp hc
  have h' : r.1 = q.1 := h
  have : r = q := by
    obtain ⟨i, hi, rfl⟩ := List.getElem_of_mem hr
    obtain ⟨j, hj, rfl⟩ := List.getElem_of_mem hq
    have e : (rows.map (·.1))[i]? = (rows.map (·.1))[j]? := by
      rw [List.getElem?_map, List.getElem?_map, List.getElem?_eq_getElem hi, List.getElem?_eq_getElem hj]
      simp [h']
    have := (List.getElem?_inj (by simpa using hi) D.nd).mp e
    subst this; rfl
  rw [this]

/-! the first bar -/
theorem range_split {n k : Nat} {l₁ l₂ : List Nat} (h : List.range n = l₁ ++ k :: l₂) : k < n ∧ ∀ j, j < k → j ∈ l₁ := by
  have hl := congrArg List.length h
  simp at hl
  have hk : (List.range n)[l₁.length]? = some k := by rw [h]; simp
  have hlt : l₁.length < n := by omega
  rw [List.getElem?_eq_getElem (by simpa using hlt), List.getElem_range] at hk
  have hk' : l₁.length = k := by simpa using hk
  refine ⟨by omega, fun j hj => ?_⟩
  have hj' : (List.range n)[j]? = some j := by rw [List.getElem?_eq_getElem (by simp; omega), List.getElem_range]
  rw [h, List.getElem?_append_left (by omega)] at hj'
  exact List.mem_of_getElem? hj'
theorem rowHit_some {words : List Str} {far : Nat} {r : Rw} {x : Str} : rowHit words (unitP way) far r = some x ↔ r.1 = words.take far ∧ isBar way r.2.1 = true ∧ x = listP r.2.1 := by
  unfold rowHit
  constructor
  · intro h
    split at h
    · rename_i hc
      rw [Bool.and_eq_true, beq_iff_eq] at hc
      cases h
      exact ⟨hc.1, hc.2, rfl⟩
    · cases h
  · rintro ⟨h1, h2, rfl⟩
    have h2' : (r.2.1 / 4096 != 4 || r.2.1 / unitP way % 2 == 0) = true := h2
    rw [if_pos]
    rw [Bool.and_eq_true, beq_iff_eq]
    exact ⟨h1, h2'⟩
theorem Wd.due (D : Wd base rows files way) (words : List Str) :
    (firstBarP rows words (unitP way) = "" ∧ ∀ b ∈ barredP rows way, ¬ b.2.2.2 <+: words) ∨
    (∃ b ∈ barredP rows way, b.2.2.2 <+: words ∧ firstBarP rows words (unitP way) = b.2.1 ∧ b.2.1 ≠ "" ∧ ∀ c ∈ barredP rows way, c.2.2.2 <+: b.2.2.2 → c.2.2.2 = b.2.2.2) := by
  unfold firstBarP
  cases hf : (List.range (words.length + 1)).findSome? (farHit rows words (unitP way)) with
  | none =>
    left
    refine ⟨rfl, fun b hb hp => ?_⟩
    obtain ⟨r, hr, hbar, rfl⟩ := (D.barred b).mp hb
    have hp' : r.1 <+: words := hp
    have hle : r.1.length ≤ words.length := hp'.length_le
    have h1 := List.findSome?_eq_none_iff.mp hf r.1.length (List.mem_range.mpr (by omega))
    have h2 := List.findSome?_eq_none_iff.mp h1 r hr
    have h3 := (rowHit_some (way := way) (words := words) (far := r.1.length) (r := r)).mpr ⟨List.prefix_iff_eq_take.mp hp', hbar, rfl⟩
    rw [h2] at h3; cases h3
  | some x =>
    right
    obtain ⟨l₁, far, l₂, hl, hx, hno⟩ := List.findSome?_eq_some_iff.mp hf
    obtain ⟨hfar, hlow⟩ := range_split hl
    obtain ⟨q₁, r, q₂, hq, hx2, _⟩ := List.findSome?_eq_some_iff.mp hx
    have hr : r ∈ rows := by rw [hq]; simp
    obtain ⟨e1, e2, e3⟩ := rowHit_some.mp hx2
    refine ⟨Bo base r, (D.barred _).mpr ⟨r, hr, e2, rfl⟩, ?_, by rw [e3]; rfl, listP_ne _, fun c hc hp => ?_⟩
    · show r.1 <+: words
      rw [e1]; exact List.take_prefix _ _
    · obtain ⟨q, hq', hbar, rfl⟩ := (D.barred c).mp hc
      have hp' : q.1 <+: r.1 := hp
      show q.1 = r.1
      rcases Nat.lt_or_ge q.1.length far with hlt | hge
      · exfalso
        have h1 := hno q.1.length (hlow _ hlt)
        have h2 := List.findSome?_eq_none_iff.mp h1 q hq'
        have hpw : q.1 <+: words := hp'.trans (by rw [e1]; exact List.take_prefix _ _)
        have h3 := (rowHit_some (way := way) (words := words) (far := q.1.length) (r := q)).mpr ⟨List.prefix_iff_eq_take.mp hpw, hbar, rfl⟩
        rw [h2] at h3; cases h3
      · refine hp'.eq_of_length_le ?_
        rw [e1, List.length_take]; omega
end
end Mine

namespace Mine

theorem ig_lookup (dirs : List Str) {stem : Str} (hs : stem ≠ "<string>") : ∀ (n : Nat) (pre : List Fl), pre.length = n → (igOf dirs pre).lookup stem = ((pre.filter fun x => x.2.2.2 == stem).head?).map fun e => namesV dirs e.2.1
  | 0, pre, h => by
    have : pre = [] := List.length_eq_zero_iff.mp h
    subst this
    show ([(("<string>" : Str), (1 : Int))] : List (Str × Int)).lookup stem = none
    rw [List.lookup_cons, beq_eq_false_iff_ne.mpr hs]; rfl
  | n + 1, pre, h => by
    obtain ⟨pre', g, rfl⟩ := snoc_of (l := pre) (by rintro rfl; cases h)
    have ih := ig_lookup dirs hs n pre' (by simpa using h)
    rw [igOf_snoc, List.filter_append]
    unfold igNext
    by_cases hg : g.2.2.2 = stem
    · subst hg
      rw [List.filter_cons_of_pos (by simp), List.filter_nil]
      cases hl : (igOf dirs pre').lookup g.2.2.2 with
      | some a =>
        simp only
        rw [hl] at ih ⊢
        cases hf : pre'.filter (fun x => x.2.2.2 == g.2.2.2) with
        | nil => rw [hf] at ih; cases ih
        | cons e r => rw [hf] at ih; simpa using ih
      | none =>
        simp only
        rw [hl] at ih
        rw [lookup_snoc hl, if_pos rfl]
        cases hf : pre'.filter (fun x => x.2.2.2 == g.2.2.2) with
        | nil => rfl
        | cons e r => rw [hf] at ih; cases ih
    · rw [List.filter_cons_of_neg (by simpa using hg), List.filter_nil, List.append_nil, ← ih]
      cases hl : (igOf dirs pre').lookup g.2.2.2 with
      | some a => rfl
      | none =>
        simp only
        rw [lookup_snoc hl, if_neg (Ne.symm hg)]
theorem answer_eq (dirs : List Str) {files pre post : List Fl} {f : Fl} (hs : f.2.2.2 ≠ "<string>") (h : files = pre ++ f :: post) {e : Fl} (he : (files.filter fun x => x.2.2.2 == f.2.2.2).head? = some e) : answerP dirs pre f = namesV dirs e.2.1 := by
  unfold answerP
  rw [ig_lookup dirs hs _ pre rfl]
  rw [h, List.filter_append, List.filter_cons_of_pos (by simp)] at he
  cases hf : pre.filter (fun x => x.2.2.2 == f.2.2.2) with
  | nil =>
    rw [hf] at he
    simp at he
    subst he
    rfl
  | cons a r =>
    rw [hf] at he
    simp at he
    subst he
    rfl

section
variable {base : Str} {rows : List Rw} {files : List Fl} {way : Nat}
theorem Wd.under (D : Wd base rows files way) {e : Fl} (he : e ∈ files) {w : List Str} (hw : ∀ x ∈ w, SF x) : Txt.startswith e.2.1 (J (base :: w) ++ "/") = true ↔ w <+: e.1 := by
  obtain ⟨i, ws, hi, hok, hl, rfl⟩ := D.fok e he
  exact under_iff D.hb hw (wok_sf hok) (called_facts hi).1
theorem Wd.file_norm (D : Wd base rows files way) {f : Fl} (hf : f ∈ files) : normP f.2.1 = f.2.1 ∧ NormOk f.2.1 ∧ f.2.1.length ≤ 100 := by
  obtain ⟨i, ws, hi, hok, hl, rfl⟩ := D.fok f hf
  have := path_norm D.hb hok hl hi
  exact ⟨this.2.1, this.1, this.2.2⟩
theorem Wd.no_file (D : Wd base rows files way) {e f : Fl} (he : e ∈ files) (hf : f ∈ files) : Txt.startswith e.2.1 (normP f.2.1 ++ "/") = false := by
  rw [(D.file_norm hf).1, Bool.eq_false_iff]
  intro h
  obtain ⟨i, ws, hi, hok, hl, rfl⟩ := D.fok f hf
  have h' : Txt.startswith e.2.1 (J (base :: (ws ++ [calledP i])) ++ "/") = true := h
  rw [D.under he fun x hx => ((path_plain hok hi) x hx).1] at h'
  obtain ⟨j, us, hj, hok', hl', rfl⟩ := D.fok e he
  have hm : calledP i ∈ us := h'.subset (by simp)
  exact (called_facts hi).2.2.2.2 (hok' _ hm)
theorem Wd.bars (D : Wd base rows files way) {e : Fl} (he : e ∈ files) {bs : List Bd} (hb : ∀ b ∈ bs, b ∈ barredP rows way) : underP ((spells bs).map normP) e.2.1 = true ↔ ∃ b ∈ bs, b.2.2.2 <+: e.1 := by
  unfold underP spells
  rw [List.map_map, List.any_map, List.any_eq_true]
  constructor
  · rintro ⟨b, hm, h⟩
    obtain ⟨_, b2, _, b4⟩ := D.bd (hb b hm)
    have h' : Txt.startswith e.2.1 (normP b.2.2.1 ++ "/") = true := h
    rw [b4, D.under he (wok_sf b2)] at h'
    exact ⟨b, hm, h'⟩
  · rintro ⟨b, hm, h⟩
    obtain ⟨_, b2, _, b4⟩ := D.bd (hb b hm)
    refine ⟨b, hm, ?_⟩
    show Txt.startswith e.2.1 (normP b.2.2.1 ++ "/") = true
    rw [b4, D.under he (wok_sf b2)]
    exact h
theorem Wd.bars0 (D : Wd base rows files way) {e : Fl} (he : e ∈ files) : underP ((spells (barredP rows way) ++ files.map (·.2.1)).map normP) e.2.1 = true ↔ ∃ b ∈ barredP rows way, b.2.2.2 <+: e.1 := by
  rw [← D.bars he (bs := barredP rows way) fun b h => h]
  unfold underP
  rw [List.map_append, List.any_append, Bool.or_eq_true]
  constructor
  · rintro (h | h)
    · exact h
    · exfalso
      rw [List.map_map, List.any_map, List.any_eq_true] at h
      obtain ⟨f, hf, h⟩ := h
      have h' : Txt.startswith e.2.1 (normP f.2.1 ++ "/") = true := h
      rw [D.no_file he hf] at h'; cases h'
  · exact fun h => .inl h

theorem namesV_t {dirs : List Str} {p : Str} (h : underP dirs p = true) : namesV dirs p = 1 := by unfold namesV; rw [if_pos h]
theorem namesV_f {dirs : List Str} {p : Str} (h : ¬ underP dirs p = true) : namesV dirs p = 0 := by unfold namesV; rw [if_neg h]

theorem Wd.answers (D : Wd base rows files way) {e : Fl} (he : e ∈ files) :
    (firstBarP rows e.1 (unitP way) = "" ∧ namesV ((spells (barredP rows way) ++ files.map (·.2.1)).map normP) e.2.1 = 0 ∧ namesV ((spells (topsP (barredP rows way))).map normP) e.2.1 = 0 ∧ ∀ l, namesV (dirsOther (topsP (barredP rows way)) l) e.2.1 = 0) ∨
    (firstBarP rows e.1 (unitP way) ≠ "" ∧ namesV ((spells (barredP rows way) ++ files.map (·.2.1)).map normP) e.2.1 = 1 ∧ namesV ((spells (topsP (barredP rows way))).map normP) e.2.1 = 1 ∧
      ∀ l, namesV (dirsOther (topsP (barredP rows way)) l) e.2.1 = if l = firstBarP rows e.1 (unitP way) then 0 else 1) := by
  have htop : ∀ b ∈ topsP (barredP rows way), b ∈ barredP rows way := fun b h => (D.tops.mp h).1
  have hoth : ∀ l, ∀ b ∈ (topsP (barredP rows way)).filter (fun b => b.2.1 != l), b ∈ barredP rows way := fun l b h => htop b (List.mem_filter.mp h).1
  rcases D.due e.1 with ⟨h1, h2⟩ | ⟨b, hb, hp, hd, hne, hmin⟩
  · left
    refine ⟨h1, namesV_f fun h => ?_, namesV_f fun h => ?_, fun l => namesV_f fun h => ?_⟩
    · obtain ⟨b, hb, hp⟩ := (D.bars0 he).mp h
      exact h2 b hb hp
    · obtain ⟨b, hb, hp⟩ := (D.bars he htop).mp h
      exact h2 b (htop b hb) hp
    · obtain ⟨b, hb, hp⟩ := (D.bars he (hoth l)).mp h
      exact h2 b (hoth l b hb) hp
  · right
    have hbt : b ∈ topsP (barredP rows way) := D.tops.mpr ⟨hb, hmin⟩
    have honly : ∀ t ∈ topsP (barredP rows way), t.2.2.2 <+: e.1 → t = b := fun t ht htp => by
      obtain ⟨t1, t2⟩ := D.tops.mp ht
      rcases Nat.le_total t.2.2.2.length b.2.2.2.length with hle | hle
      · exact D.same t1 hb (hmin t t1 (List.prefix_of_prefix_length_le htp hp hle))
      · exact (D.same hb t1 (t2 b hb (List.prefix_of_prefix_length_le hp htp hle))).symm
    refine ⟨by rw [hd]; exact hne, namesV_t ((D.bars0 he).mpr ⟨b, hb, hp⟩), namesV_t ((D.bars he htop).mpr ⟨b, hbt, hp⟩), fun l => ?_⟩
    rw [hd]
    by_cases hl : l = b.2.1
    · rw [if_pos hl]
      refine namesV_f fun h => ?_
      obtain ⟨t, ht, htp⟩ := (D.bars he (hoth l)).mp h
      obtain ⟨t1, t2⟩ := List.mem_filter.mp ht
      have := honly t t1 htp
      subst this
      rw [hl] at t2
      simp at t2
    · rw [if_neg hl]
      refine namesV_t ((D.bars he (hoth l)).mpr ⟨b, List.mem_filter.mpr ⟨hbt, ?_⟩, hp⟩)
      rw [bne_iff_ne]; exact Ne.symm hl
end

theorem L_zeros : ∀ n : Nat, n ≤ 20 → L (zerosP n) = List.replicate n 48 := by
  intro n hn
  have : ((List.range 21).all fun n => decide (L (zerosP n) = List.replicate n 48)) = true := by decide +kernel
  have := List.all_eq_true.mp this n (List.mem_range.mpr (by omega))
  simpa using this

/-- the law, in plain words -/
theorem law_ok (vs : List Int) (_hv : vs.length ≤ 63) : LawOk vs := by
  have hb : BOK (lwBase vs.length) := by
    unfold lwBase
    have : vs.length % 2 = 0 ∨ vs.length % 2 = 1 := by omega
    rcases this with h | h <;> rw [h]
    · exact .inl rfl
    · exact .inr rfl
  have hn : (lwNums vs).length ≤ 8 := by simp [lwNums]; omega
  have inv := world_inv hb (lwNums vs) 0 ([], []) (by omega) ⟨by simp, by simp, by simp, by simp, by simp⟩
  have D : Wd (lwBase vs.length) (lwRows vs) (lwFiles vs) (lwWay vs) := ⟨hb, inv.rows, inv.nd, inv.files, Nat.mod_lt _ (by decide)⟩
  have hrl : (lwRows vs).length ≤ 8 := by have := inv.rl; show (worldP (lwBase vs.length) 0 (lwNums vs) ([], [])).1.length ≤ 8; omega
  have hfl : (lwFiles vs).length ≤ 8 := by have := inv.fl; show (worldP (lwBase vs.length) 0 (lwNums vs) ([], [])).2.length ≤ 8; omega
  have hnb : (lwBarred vs).length ≤ 8 := Nat.le_trans (List.length_filterMap_le _ _) hrl
  have hnt : (lwTops vs).length ≤ 8 := Nat.le_trans (List.length_filter_le _ _) hnb
  have hlists : ∀ (bs : List Bd) (acc : List Str), (listsP bs acc).length ≤ bs.length + acc.length := by
    intro bs
    induction bs with
    | nil => intro acc; simp [listsP]
    | cons b bs ih =>
      intro acc
      rw [listsP]
      have := ih (if acc.contains b.2.1 then acc else acc ++ [b.2.1])
      have h2 : (if acc.contains b.2.1 = true then acc else acc ++ [b.2.1]).length ≤ acc.length + 1 := by
        split
        · omega
        · simp
      simp only [List.length_cons]; omega
  have hll : (lwLists vs).length ≤ 8 := by
    have := hlists (lwTops vs) []
    simp at this
    show (listsP (lwTops vs) []).length ≤ 8
    omega
  refine {
    world := world_ok hb
    fm := fm_ok
    rows := fun r hr => ⟨(D.rok r hr).mode, (D.norm hr).1, okL_w (D.rok r hr).way.ok⟩
    nrows := by omega
    pairs := fun b hb' c hc => by
      obtain ⟨b1, b2, b3, _⟩ := D.bd hb'
      obtain ⟨c1, c2, c3, _⟩ := D.bd hc
      exact pair_ok hb b1 c1 b2 c2 b3 c3
    nfiles := by omega
    files := fun f hf => ?_
    norms := fun y hy => ?_
    lists := fun b hb' => ?_
    ans := fun pre f post hpp => ?_ }
  · obtain ⟨i, ws, hi, hok, hl, rfl⟩ := D.fok f hf
    obtain ⟨n1, n2, n3⟩ := path_norm hb hok hl hi
    refine ⟨rfl, path_mod hi, n1, by show (J _).length ≤ _; omega, by show ws.length ≤ _; omega, okL_w hok, ?_⟩
    have hbl := base_len hb
    refine jOk_of (M := 6) (fun x hx => ?_) ?_
    · have hx' : x ∈ lwBase vs.length :: (ws ++ [calledP i]) := by simpa using hx
      rcases List.mem_cons.mp hx' with rfl | hx'
      · omega
      · exact (path_plain hok hi x hx').2.1
    · have e1 : ("/" : Str).length = 1 := rfl
      rw [e1]
      simp only [List.length_append, List.length_cons, List.length_nil]
      omega
  · rcases hy with hy | hy
    · obtain ⟨b, hb', rfl⟩ := List.mem_map.mp hy
      obtain ⟨r, hr, _, rfl⟩ := (D.barred b).mp hb'
      obtain ⟨_, n2, n3⟩ := D.norm hr
      show (normP r.2.2).length ≤ _
      rw [n2]; omega
    · obtain ⟨f, hf, rfl⟩ := List.mem_map.mp hy
      obtain ⟨n1, _, n3⟩ := D.file_norm hf
      rw [n1]; omega
  · have hm : b ∈ lwBarred vs := (D.tops.mp hb').1
    obtain ⟨r, hr, _, rfl⟩ := (D.barred b).mp hm
    exact okS_list (D.rok r hr).mode
  · have hfm : f ∈ lwFiles vs := by rw [hpp]; simp
    have hstem : f.2.2.2 ≠ "<string>" := by
      obtain ⟨i, ws, hi, _, _, rfl⟩ := D.fok f hfm
      exact stem_ne hi
    obtain ⟨e, he⟩ : ∃ e, ((lwFiles vs).filter fun x => x.2.2.2 == f.2.2.2).head? = some e := by
      cases hh : (lwFiles vs).filter (fun x => x.2.2.2 == f.2.2.2) with
      | nil =>
        have : f ∈ (lwFiles vs).filter (fun x => x.2.2.2 == f.2.2.2) := List.mem_filter.mpr ⟨hfm, by simp⟩
        rw [hh] at this; cases this
      | cons a b => exact ⟨a, rfl⟩
    have hem : e ∈ lwFiles vs := (List.mem_filter.mp (List.mem_of_head? he)).1
    have hans : ∀ dirs, answerP dirs pre f = namesV dirs e.2.1 := fun dirs => answer_eq dirs hstem hpp he
    have hdue : dueP vs f = firstBarP (lwRows vs) e.1 (unitP (lwWay vs)) := by
      unfold dueP firstFile
      rw [List.head?_map, he]; rfl
    refine ⟨fun dirs _ => by rw [hans]; unfold namesV; split <;> simp, ?_⟩
    have hA := D.answers hem
    have e1 : (lwDirs vs).map (fun dirs => ansS (answerP dirs pre f)) = (lwDirs vs).map (fun dirs => ansS (namesV dirs e.2.1)) := by
      apply List.map_congr_left; intro d _; rw [hans]
    rw [e1, hdue]
    unfold lwDirs
    rw [List.map_cons, List.map_cons, List.map_map]
    rcases hA with ⟨h1, h2, h3, h4⟩ | ⟨h1, h2, h3, h4⟩
    · have h2' : namesV ((spells (lwBarred vs) ++ (lwFiles vs).map (·.2.1)).map normP) e.2.1 = 0 := h2
      have h3' : namesV ((spells (lwTops vs)).map normP) e.2.1 = 0 := h3
      have h4' : ∀ l, namesV (dirsOther (lwTops vs) l) e.2.1 = 0 := h4
      rw [h1, wantedP, if_neg (by decide), h2', h3']
      have e2 : (lwLists vs).map ((fun dirs => ansS (namesV dirs e.2.1)) ∘ dirsOther (lwTops vs)) = (lwLists vs).map fun _ => ("0" : Str) := by
        apply List.map_congr_left; intro l _; show ansS (namesV (dirsOther (lwTops vs) l) e.2.1) = _; rw [h4']; rfl
      rw [e2]
      refine L_inj ?_
      rw [L_join0, L_app, L_zeros _ (by omega)]
      show L (ansS 0) ++ (L (ansS 0) ++ ((lwLists vs).map fun _ => ("0" : Str)).flatMap L) = _
      have e3 : ∀ ls : List Str, (ls.map fun _ => ("0" : Str)).flatMap L = List.replicate ls.length 48 := by
        intro ls
        induction ls with
        | nil => rfl
        | cons a ls ih =>
          rw [List.map_cons, List.flatMap_cons, ih, List.length_cons, List.replicate_succ]; rfl
      rw [e3]; rfl
    · have h2' : namesV ((spells (lwBarred vs) ++ (lwFiles vs).map (·.2.1)).map normP) e.2.1 = 1 := h2
      have h3' : namesV ((spells (lwTops vs)).map normP) e.2.1 = 1 := h3
      have h4' : ∀ l, namesV (dirsOther (lwTops vs) l) e.2.1 = if l = firstBarP (lwRows vs) e.1 (unitP (lwWay vs)) then 0 else 1 := h4
      generalize firstBarP (lwRows vs) e.1 (unitP (lwWay vs)) = due at h1 h4' ⊢
      rw [wantedP, if_pos (by simpa using h1), h2', h3']
      have e2 : (lwLists vs).map ((fun dirs => ansS (namesV dirs e.2.1)) ∘ dirsOther (lwTops vs)) = (lwLists vs).map fun l => if l == due then ("0" : Str) else "1" := by
        apply List.map_congr_left; intro l _; show ansS (namesV (dirsOther (lwTops vs) l) e.2.1) = _; rw [h4']
        by_cases h : l = due
        · subst h; simp [ansS]
        · simp [h, ansS]
      rw [e2]
      refine L_inj ?_
      rw [L_join0, L_app, L_join0]
      rfl
end Mine

end
namespace Mine

theorem top_as (P : Params) : [2,3,15,17,18,20,21,22,24,25,27,28,29,30,31,32,33,34,35,36,37,38,39,40,41,42,43,44,45,46,47,48,49,50,51,52,53,54,55,56,57,58,59,60,61,62,64,65,67,68,69,71,72,74,75,76,83,85,86,88,89,90,91,92,95,102,104,105,107,108,109,111,112,114,115,116,118,119,121,122,123,124,125,128,130,131,133,134,135,137,138,140,141,142,144,145,147,148,149,151,152,154,155,156,158,159,161,162,163,165,166,168,169,170,172,173,175,176,177,179,180,182,183,184,186,187,189,190,191,193,194,196,197,198,200,201,203,204,212,213,216,217,218,220,221,223,224,225,226,227,228,229,232,234,235,237,238,239,241,242,244,245,246,248,249,251,252,253,255,256,258,259,260,262,263,265,266,267,269,270,272,273,274,277,278,279,281,282,284,285,286,289,290,291,293,294,296,297,298,300,301,303,304,305,307,308,310,311,312,314,315,317,318,319,321,322,324,325,326,329,330] = (Mine.top.heap_1 P).map (·.1) := by kernel_rfl
theorem law_true : ∀ vs : List Int, vs.length ≤ 63 → LawOk vs := law_ok
noncomputable def head.tw11389604556438737324 : Unit := ()
noncomputable def head.tw3313396315762190772 : Unit := ()
noncomputable def head.tw6973584914630602586 : Unit := ()
noncomputable def head.tw15332749578473424207 : Unit := ()
noncomputable def head.tw3649914351005859508 : Unit := ()
noncomputable def head.tw12822406616225883016 : Unit := ()
noncomputable def head.tw11848355426577573062 : Unit := ()
noncomputable def head.tw8442580359016245169 : Unit := ()
noncomputable def head.tw7837257655245606889 : Unit := ()
noncomputable def head.tw7664027393026209669 : Unit := ()
noncomputable def head.tw16984083398119652359 : Unit := ()
noncomputable def head.tw7119846925741900413 : Unit := ()
noncomputable def head.tw5906749814970224870 : Unit := ()
noncomputable def head.tw13207290145799261777 : Unit := ()
noncomputable def head.tw16922147877168347812 : Unit := ()
noncomputable def head.tw2406741308666905522 : Unit := ()
noncomputable def head.tw9196398404247428943 : Unit := ()
noncomputable def head.tw16406983249328947883 : Unit := ()
noncomputable def head.tw9407594320385231609 : Unit := ()
noncomputable def head.tw1832916270232011604 : Unit := ()
noncomputable def head.tw14956133685725647455 : Unit := ()
noncomputable def head.tw7417405269818204032 : Unit := ()
noncomputable def head.tw16212550141715871497 : Unit := ()
noncomputable def head.tw2518057956044344595 : Unit := ()
noncomputable def head.tw13954853420313727417 : Unit := ()
noncomputable def head.tw7090939061502383884 : Unit := ()
noncomputable def head.tw17525636777796739105 : Unit := ()
noncomputable def head.tw8382746154173761051 : Unit := ()
noncomputable def head.tw16172356507618199906 : Unit := ()
noncomputable def head.tw15149402430504572791 : Unit := ()
noncomputable def head.tw16172288393029767808 : Unit := ()
noncomputable def head.tw2260579728952749127 : Unit := ()
noncomputable def head.tw587121490752477604 : Unit := ()
noncomputable def head.tw10015159338476511836 : Unit := ()
noncomputable def head.tw14699528089545365996 : Unit := ()
noncomputable def head.tw10812213935944405949 : Unit := ()
noncomputable def head.tw3973953319845086491 : Unit := ()
noncomputable def head.tw10865165270600546614 : Unit := ()
noncomputable def head.tw14982685227137828758 : Unit := ()
noncomputable def head.tw16847831306532103052 : Unit := ()
noncomputable def head.tw6298033893332097587 : Unit := ()
noncomputable def head.tw10356212845559719233 : Unit := ()
noncomputable def head.tw12398312691204496596 : Unit := ()
noncomputable def head.tw17015032458148788900 : Unit := ()
noncomputable def head.tw5629256929840616583 : Unit := ()
noncomputable def head.tw4709128311485490483 : Unit := ()
noncomputable def head.tw1852205218256702202 : Unit := ()
noncomputable def head.tw930087139818521243 : Unit := ()
noncomputable def head.tw7833285031277912329 : Unit := ()
noncomputable def head.tw8895791426145780158 : Unit := ()
noncomputable def head.tw9101448428047585222 : Unit := ()
noncomputable def head.tw48543519692965452 : Unit := ()
noncomputable def head.tw17508272824862286709 : Unit := ()
noncomputable def head.tw15894371620910866019 : Unit := ()
noncomputable def head.tw14842460003800876886 : Unit := ()
noncomputable def head.tw4277651752456152607 : Unit := ()
noncomputable def head.tw5973763720392745831 : Unit := ()
noncomputable def head.tw10510622979536455646 : Unit := ()
noncomputable def head.tw8773370040425892893 : Unit := ()
noncomputable def head.tw4160124254940468481 : Unit := ()
noncomputable def head.tw1620002657737552111 : Unit := ()
noncomputable def head.tw2994366008111725845 : Unit := ()
noncomputable def head.tw3453547403478019728 : Unit := ()
noncomputable def head.tw15735840784391694233 : Unit := ()
noncomputable def head.tw7661765248129044261 : Unit := ()
noncomputable def head.tw7658410731251134818 : Unit := ()
noncomputable def head.tw14877080517539528568 : Unit := ()
noncomputable def head.tw4691952243595246448 : Unit := ()
noncomputable def head.tw12032222614953749359 : Unit := ()
noncomputable def head.tw12858780395421280599 : Unit := ()
noncomputable def head.tw12740806245664736207 : Unit := ()
noncomputable def head.tw1463646239528298992 : Unit := ()
noncomputable def head.tw13743032657059413451 : Unit := ()
noncomputable def head.tw12775505166333009402 : Unit := ()
noncomputable def head.tw14643560169476415855 : Unit := ()
noncomputable def head.tw14999265807660949796 : Unit := ()
noncomputable def head.tw13906610036690215845 : Unit := ()
noncomputable def head.tw10018764681926925449 : Unit := ()
noncomputable def head.tw13199516396595161752 : Unit := ()
noncomputable def head.tw14139502460874162764 : Unit := ()
noncomputable def head.tw17014734716931888790 : Unit := ()
noncomputable def head.tw13942192884097748152 : Unit := ()
noncomputable def head.tw4415685298772064003 : Unit := ()
noncomputable def head.tw262713603470380999 : Unit := ()
noncomputable def head.tw3496171461512900480 : Unit := ()
noncomputable def head.tw11308087075614649832 : Unit := ()
noncomputable def head.tw9325057278558614444 : Unit := ()
noncomputable def head.tw16997897962222511 : Unit := ()
noncomputable def head.tw9984397402777080727 : Unit := ()
noncomputable def head.tw9978949632667528635 : Unit := ()
noncomputable def head.tw9702098958229961203 : Unit := ()
noncomputable def head.tw17093656651364094606 : Unit := ()
noncomputable def head.tw17789423225533864492 : Unit := ()
noncomputable def head.tw649443455394278489 : Unit := ()
noncomputable def head.tw11005904730967762025 : Unit := ()
noncomputable def head.tw1499353310998574721 : Unit := ()
noncomputable def head.tw5986637957666399235 : Unit := ()
noncomputable def head.tw7013799640231393816 : Unit := ()
noncomputable def head.tw8101760021730824546 : Unit := ()
noncomputable def head.tw2581250870941146908 : Unit := ()
noncomputable def head.tw12359489953124434286 : Unit := ()
noncomputable def head.tw4693820183103290663 : Unit := ()
noncomputable def head.tw16111715859725283846 : Unit := ()
noncomputable def head.tw16714887947964762639 : Unit := ()
noncomputable def head.tw4063747431996464497 : Unit := ()
noncomputable def head.tw3103639331685909893 : Unit := ()
noncomputable def head.tw18433677622606106133 : Unit := ()
noncomputable def head.tw5508695066786827253 : Unit := ()
noncomputable def head.tw7313386461004707312 : Unit := ()
noncomputable def head.tw315434073420411817 : Unit := ()
noncomputable def head.tw12998212659555988865 : Unit := ()
noncomputable def head.tw11427066125472700054 : Unit := ()
noncomputable def head.tw44622916816846810 : Unit := ()
noncomputable def head.tw15841401105113185080 : Unit := ()
noncomputable def head.tw5487235932777146282 : Unit := ()
noncomputable def head.tw2154566216772986472 : Unit := ()
noncomputable def head.tw14843749296085226474 : Unit := ()
noncomputable def head.tw1909714482019496454 : Unit := ()
noncomputable def head.tw497287684792784471 : Unit := ()
noncomputable def head.tw8715499118904818895 : Unit := ()
noncomputable def head.tw17577399041416155939 : Unit := ()
noncomputable def head.tw11434997419882176723 : Unit := ()
noncomputable def head.tw532055438628499158 : Unit := ()
noncomputable def head.tw2529948359932261575 : Unit := ()
noncomputable def head.tw3089916443595474862 : Unit := ()
noncomputable def head.tw5506250874072839755 : Unit := ()
noncomputable def head.tw4857777746444614323 : Unit := ()
noncomputable def head.tw11124748197601291601 : Unit := ()
noncomputable def head.tw3688799982635324794 : Unit := ()
noncomputable def head.tw4976181008148175253 : Unit := ()
noncomputable def head.tw10010264046613662565 : Unit := ()
noncomputable def head.tw9820158181544301314 : Unit := ()
noncomputable def head.tw1495726902847802894 : Unit := ()
noncomputable def head.tw8535708456716222715 : Unit := ()
noncomputable def head.tw9515422150858430662 : Unit := ()
noncomputable def head.tw11194998557105285118 : Unit := ()
noncomputable def head.tw9162278640276766204 : Unit := ()
noncomputable def head.tw17725469503822016867 : Unit := ()
noncomputable def head.tw12207028300977255130 : Unit := ()
noncomputable def head.tw4965378191221513410 : Unit := ()
noncomputable def head.tw10059252607514160932 : Unit := ()
noncomputable def head.tw976808484645153763 : Unit := ()
noncomputable def head.tw2879759524354350568 : Unit := ()
noncomputable def head.tw4196546014268931301 : Unit := ()
noncomputable def head.tw6507506987150044280 : Unit := ()
noncomputable def head.tw17826015225549371706 : Unit := ()
noncomputable def head.tw3715584954343283195 : Unit := ()
noncomputable def head.tw1315816938146588887 : Unit := ()
noncomputable def head.tw9186546921256032858 : Unit := ()
noncomputable def head.tw2491421050496283774 : Unit := ()
noncomputable def head.tw10786079294511566085 : Unit := ()
noncomputable def head.tw7512725033676591148 : Unit := ()
noncomputable def head.tw16817119741492734445 : Unit := ()
noncomputable def head.tw10898857373019930491 : Unit := ()
noncomputable def head.tw4307260679431091991 : Unit := ()
noncomputable def head.tw14699756766385990792 : Unit := ()
noncomputable def head.tw9114333099845857663 : Unit := ()
noncomputable def head.tw10079960370226730655 : Unit := ()
noncomputable def head.tw4311042196063409733 : Unit := ()
noncomputable def head.tw8874674299285249911 : Unit := ()
noncomputable def head.tw15520248196984853422 : Unit := ()
noncomputable def head.tw14788773977795034992 : Unit := ()
noncomputable def head.tw1276956409769668328 : Unit := ()
noncomputable def head.tw66618190712790079 : Unit := ()
noncomputable def head.tw16782820856776367440 : Unit := ()
noncomputable def head.tw6857060684267632606 : Unit := ()
noncomputable def head.tw5944575059761466720 : Unit := ()
noncomputable def head.tw8812732774380208333 : Unit := ()
noncomputable def head.tw7450023128482652576 : Unit := ()
noncomputable def head.tw3986194592780655508 : Unit := ()
noncomputable def head.tw13585267454733459922 : Unit := ()
noncomputable def head.tw16128420640991077102 : Unit := ()
noncomputable def head.tw12475708393154427166 : Unit := ()
noncomputable def head.tw467416434755642258 : Unit := ()
noncomputable def head.tw13294958713779813728 : Unit := ()
noncomputable def head.tw16746781735925622038 : Unit := ()
noncomputable def head.tw4964814941381164201 : Unit := ()
noncomputable def head.tw13988103294471073821 : Unit := ()
noncomputable def head.tw4433315090154635215 : Unit := ()
noncomputable def head.tw4483413254912295219 : Unit := ()
noncomputable def head.tw11484358847640170188 : Unit := ()
noncomputable def head.tw4746297304354101679 : Unit := ()
noncomputable def head.tw13689084217373910675 : Unit := ()
noncomputable def head.tw11770459041652445329 : Unit := ()
noncomputable def head.tw15510365090734361527 : Unit := ()
noncomputable def head.tw15798066900824788120 : Unit := ()
noncomputable def head.tw16874305072444578374 : Unit := ()
noncomputable def head.tw8185714761375850791 : Unit := ()
noncomputable def head.tw3556061257289618393 : Unit := ()
noncomputable def head.tw14527164170590304321 : Unit := ()
noncomputable def head.tw9746458257258439470 : Unit := ()
noncomputable def head.tw4023466491090337370 : Unit := ()
noncomputable def head.tw5092371620264689978 : Unit := ()
noncomputable def head.tw10261356005730403935 : Unit := ()
noncomputable def head.tw6100774026682323163 : Unit := ()
noncomputable def head.tw5638995163158488052 : Unit := ()
noncomputable def head.tw5651425540991249520 : Unit := ()
noncomputable def head.tw4972248218790579157 : Unit := ()
noncomputable def head.tw3615648651819825313 : Unit := ()
noncomputable def head.tw14393718171448925343 : Unit := ()
noncomputable def head.tw12310735299239354703 : Unit := ()
noncomputable def head.tw15436542981012472205 : Unit := ()
noncomputable def head.tw9062998866958442273 : Unit := ()
noncomputable def head.tw3547030090768783262 : Unit := ()
noncomputable def head.tw10533634037010066435 : Unit := ()
noncomputable def head.tw10668533816033670360 : Unit := ()
noncomputable def head.tw2249667046024356820 : Unit := ()
noncomputable def head.tw17243387458012846398 : Unit := ()
noncomputable def head.tw18051680202136193954 : Unit := ()
noncomputable def head.tw8159583801465064534 : Unit := ()
noncomputable def head.tw15037083628117588352 : Unit := ()
noncomputable def head.tw2400818531096893172 : Unit := ()
noncomputable def head.tw7526775705450560304 : Unit := ()
noncomputable def head.tw3991279037241028524 : Unit := ()
noncomputable def head.tw7712916153251135833 : Unit := ()
noncomputable def head.tw17212568112599259466 : Unit := ()
noncomputable def head.tw15506723302920939300 : Unit := ()
noncomputable def head.tw4009957668330374740 : Unit := ()
noncomputable def head.tw13896987355042952010 : Unit := ()
noncomputable def head.tw17700853532424174462 : Unit := ()
noncomputable def head.tw9074772780463953568 : Unit := ()
noncomputable def head.tw17142359554024780413 : Unit := ()
noncomputable def head.tw13078646160514809887 : Unit := ()
noncomputable def head.tw15895748673760503845 : Unit := ()
noncomputable def head.tw17552560543380974038 : Unit := ()
noncomputable def head.tw6211381574409162282 : Unit := ()
noncomputable def head.tw5797013207949663412 : Unit := ()
noncomputable def head.tw8912104118211102971 : Unit := ()
noncomputable def head.tw3665506230870052707 : Unit := ()
noncomputable def head.tw15895551434495452948 : Unit := ()
noncomputable def head.tw14205479233844494046 : Unit := ()
noncomputable def head.tw4975070653579243887 : Unit := ()
noncomputable def head.tw3368030927266983236 : Unit := ()
noncomputable def head.tw8866670633112419022 : Unit := ()
noncomputable def head.tw8758324158161630591 : Unit := ()
noncomputable def head.tw6121141971511671821 : Unit := ()
noncomputable def head.tw7994106446794305319 : Unit := ()
noncomputable def head.tw9082462177598256812 : Unit := ()
noncomputable def head.tw3160712208675142370 : Unit := ()
noncomputable def head.tw15204471325056678010 : Unit := ()
noncomputable def head.tw3581614266968435656 : Unit := ()
noncomputable def head.tw10504981510240967646 : Unit := ()
noncomputable def head.tw6846866878297920324 : Unit := ()
noncomputable def head.tw15782939476341012554 : Unit := ()
noncomputable def head.tw16894197260953374720 : Unit := ()
noncomputable def head.tw15410735652082386980 : Unit := ()
noncomputable def head.tw17782148633632673465 : Unit := ()
noncomputable def head.tw11544532188706048022 : Unit := ()
noncomputable def head.tw9280153536138602973 : Unit := ()
noncomputable def head.tw9145527808636388435 : Unit := ()
noncomputable def head.tw1748456618969930982 : Unit := ()
noncomputable def head.tw18384547517478447814 : Unit := ()
noncomputable def head.tw15064752311394979489 : Unit := ()
noncomputable def head.tw10366927770000222440 : Unit := ()
noncomputable def head.tw3501597964444990463 : Unit := ()
noncomputable def head.tw1212124681294104184 : Unit := ()
noncomputable def head.tw6880043348581005364 : Unit := ()
noncomputable def head.tw5346772772824661884 : Unit := ()
noncomputable def head.tw17905491414393134947 : Unit := ()
noncomputable def head.tw17348764703882912863 : Unit := ()
noncomputable def head.tw16031315777459398524 : Unit := ()
noncomputable def head.tw5104563664521345299 : Unit := ()
noncomputable def head.tw5764021196749891206 : Unit := ()
noncomputable def head.tw15035418422258542911 : Unit := ()
noncomputable def head.tw1211024037004892549 : Unit := ()
noncomputable def head.tw12865059321931465230 : Unit := ()
noncomputable def head.tw13510609219080548989 : Unit := ()
noncomputable def head.tw13086575352542018947 : Unit := ()
noncomputable def head.tw12773685731770592110 : Unit := ()
noncomputable def head.tw18332285231265401824 : Unit := ()
noncomputable def head.tw9716329373054682134 : Unit := ()
noncomputable def head.tw17698105195316432488 : Unit := ()
noncomputable def head.tw8997269238129315039 : Unit := ()
noncomputable def head.tw11714945338242495837 : Unit := ()
noncomputable def head.tw5599997604879368025 : Unit := ()
noncomputable def head.tw13412022041919118725 : Unit := ()
noncomputable def head.tw3980653432952411973 : Unit := ()
noncomputable def head.tw3794523003379204399 : Unit := ()
noncomputable def head.tw11296743742662292762 : Unit := ()
noncomputable def head.tw17411354535832351560 : Unit := ()
noncomputable def head.tw10258521583956687137 : Unit := ()
noncomputable def head.tw5438144065070405397 : Unit := ()
noncomputable def head.tw11862927689305589065 : Unit := ()
noncomputable def head.tw6846597200999610202 : Unit := ()
noncomputable def head.tw7494366503370351645 : Unit := ()
noncomputable def head.tw17332727794074296334 : Unit := ()
noncomputable def head.tw733406405333840765 : Unit := ()
noncomputable def head.tw12352672977532951062 : Unit := ()
noncomputable def head.tw14512941343882779238 : Unit := ()
noncomputable def head.tw12822298378996975857 : Unit := ()
noncomputable def head.tw9658139154387788515 : Unit := ()
noncomputable def head.tw11821203517306503961 : Unit := ()
noncomputable def head.tw2694075680205673411 : Unit := ()
noncomputable def head.tw6889739017440866108 : Unit := ()
noncomputable def head.tw3088210815446039105 : Unit := ()
noncomputable def head.tw8097174177036852075 : Unit := ()
noncomputable def head.tw8603420104599213669 : Unit := ()
noncomputable def head.tw6388477656530123435 : Unit := ()
noncomputable def head.tw17197444120159719569 : Unit := ()
noncomputable def head.tw13955511503576765797 : Unit := ()
noncomputable def head.tw4839655697589452165 : Unit := ()
noncomputable def head.tw3083302935323014018 : Unit := ()
noncomputable def head.tw13295774097974887486 : Unit := ()
noncomputable def head.tw1506576300011279404 : Unit := ()
noncomputable def head.tw13605870324054321959 : Unit := ()
noncomputable def head.tw16640130746408290383 : Unit := ()
noncomputable def head.tw6587087628758450585 : Unit := ()
set_option Elab.async true in
set_option maxHeartbeats 8000000 in
theorem head : PySem.Challenge.rw_in0293_01.Holds := by
  w_on; o_law; o_head (kHook Mine.top.heap_1 [2,3,15,17,18,20,21,22,24,25,27,28,29,30,31,32,33,34,35,36,37,38,39,40,41,42,43,44,45,46,47,48,49,50,51,52,53,54,55,56,57,58,59,60,61,62,64,65,67,68,69,71,72,74,75,76,83,85,86,88,89,90,91,92,95,102,104,105,107,108,109,111,112,114,115,116,118,119,121,122,123,124,125,128,130,131,133,134,135,137,138,140,141,142,144,145,147,148,149,151,152,154,155,156,158,159,161,162,163,165,166,168,169,170,172,173,175,176,177,179,180,182,183,184,186,187,189,190,191,193,194,196,197,198,200,201,203,204,212,213,216,217,218,220,221,223,224,225,226,227,228,229,232,234,235,237,238,239,241,242,244,245,246,248,249,251,252,253,255,256,258,259,260,262,263,265,266,267,269,270,272,273,274,277,278,279,281,282,284,285,286,289,290,291,293,294,296,297,298,300,301,303,304,305,307,308,310,311,312,314,315,317,318,319,321,322,324,325,326,329,330] top_as); (case hw => w_witness2)
  w_strict
    (k_fill
     intro w s₀ s₁ mg mb G Y fa o pm cd doc dV kV ho hd hcd hD hmg hg args vals as hpre hlay hrd hwl hlo
     have KX := kIn_of Y
     have X := (Ground.X G).1
     have V := (Ground.X G).2
     refine Ground.open G ?_
     intro T B D TE TW
     try (refine guard_noD D (by decide +kernel) ?_; clear D)
     wrow_args hpre hlay hrd hwl hlo
     all_goals (
       first | refine callC_kw (enter_call ?_) | refine enter_call ?_
       w_top on
       try refine codeAny_mono ?_ (fun _ _ g => GoodW.toG g)
       clear hcd hd
       rename_i ns hs hlay0 hL1 hr1 hl2 wA wB l vs wC hL ra w1 r0 hI hr hc1 hc2
       have hfa : fa = 330 := by
         have h1 := ns_some_of KX (Top.g T) (gl_law w.params)
         have h2 := hmg.symm.trans h1
         cases h2
         rfl
       subst hfa
       have hlen : ns.length ≤ 63 := by omega
       refine codeAny_mono (law_end KX ⟨mg, mb, T.g, T.b, T.builtins⟩ T.nolimit hL hI hlen hg (law_true ns hlen)) ?_
       rintro r s' ⟨rfl, hk, hos, hgens⟩
       refine ⟨.inl ⟨_, .bool true, [], rfl, raisesW_false ?_, .bool true, ?_, unshared_nil⟩, hk, hos, hgens⟩
       · wrow_none_raised
       · wrow_post))
end Mine

theorem PySem.Challenge.cw_in0293_01_holds : PySem.Challenge.rw_in0293_01.Holds := by
  exact Mine.head
