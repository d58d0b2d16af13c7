import PyProof.Rows.All
import Wide.All
import OpenK.AllK
import Wide.FinOn
import PySem.Challenge.RW_op0107_01
set_option Elab.async false
section
open PySem PySem.W PyProof.Rows PySem.Calls
section
open PySem PySem.W PyProof.Rows
set_option maxRecDepth 100000
namespace Mine

/- the top, looked at once -/
noncomputable def isDef : Stmt → Bool
  | .FunctionDef .. => true
  | _ => false
noncomputable def view : Program := { PySem.Challenge.pw_op0107_01 with main := { PySem.Challenge.pw_op0107_01.main with body := PySem.Challenge.pw_op0107_01.main.body.filter isDef } }
abbrev lawRow : OpenRow := PySem.Challenge.rw_op0107_01.row
theorem said : PySem.Challenge.rw_op0107_01.wellSaid = true := by kernel_rfl
theorem left : LeftO lawRow.prog view [] (fun s => xlAt view [] s && recOk (RowW.records lawRow.toRowW) s) (Hook.obs Hook.none) (Hook.val Hook.none) 1488 := fun w => by kernel_rfl

/- the defs of the text, by the number of the line -/
noncomputable def noD : DefRec := ⟨Str.ofString "", { posonlyargs := [], args := [], vararg := none, kwonlyargs := [], kw_defaults := [], kwarg := none, defaults := [] }, [], { kind := .function, names := [], isGenerator := false, isCoroutine := false }, { line := 0, col := 0, endLine := 0, endCol := 0 }⟩
noncomputable def toD : Stmt → DefRec
  | .FunctionDef n p b _ _ _ sc _ _ pos => ⟨n, p, b, sc, pos⟩
  | _ => noD
noncomputable def nthD : List Stmt → Nat → DefRec
  | [], _ => noD
  | s :: _, 0 => toD s
  | _ :: r, n + 1 => nthD r n
noncomputable def fnD (j : Nat) : DefRec := nthD PySem.Challenge.pw_op0107_01.main.body j
noncomputable def fnJ : List Nat := [1, 2, 4, 5, 6, 8, 9, 10, 11, 12, 13, 14, 15, 17, 18, 19, 20, 21, 22, 23]
theorem recs_eq : recsOf view = fnJ.map fnD := by kernel_rfl
abbrev noNames : List Str := [Str.ofString "len", Str.ofString "sorted", Str.ofString "range", Str.ofString "list", Str.ofString "enumerate", Str.ofString "reversed", Str.ofString "IndexError"]
theorem names_free : (noNames.all fun x => !(startupNames.contains x || (looseW view []).contains x || ((recsOf view).map (·.name)).contains x || ((litsOf view).map (·.1)).contains x || ((clssOf view (looseW view [])).map (·.name)).contains x)) = true := by kernel_rfl

theorem head (call : WalkO view [] (XL view []) (Hook.says Hook.none) lawRow.toRowW (fnD 23) [] fun f vs => PySem.call f vs) : PySem.Challenge.rw_op0107_01.Holds := by
  refine holds_law said fun _ => ?_
  refine holds_open (r := lawRow) (q := view) (loose := []) (Xt := fun s => xlAt view [] s && recOk (RowW.records lawRow.toRowW) s) (XP := XL view []) (Yf := Hook.obs Hook.none) (Ya := Hook.val Hook.none) (YP := Hook.says Hook.none) (N := 1488) left (Hook.of Hook.none) (Hook.keeps Hook.none)
    (fun s e => xl_of s (Bool.and_eq_true_iff.mp e).1) XL.keeps (by kernel_rfl) (by kernel_rfl) (by kernel_rfl) (fun s e => recFacts_of (Bool.and_eq_true_iff.mp e).2) (by kernel_rfl) (by assumption) (by kernel_rfl) ⟨rfl, rfl, rfl, rfl, rfl, by decide +kernel⟩ ?hw call
  case hw => w_witness2
end Mine
end
section
open PySem PySem.W PyProof.Rows
set_option maxRecDepth 100000
namespace Mine

inductive AV where
  | none | bool (b : Bool) | int (i : Int) | str (s : Str) | ref (k : Nat) | con (v : Value)

inductive AO where
  | list (xs : List AV)
  | tup (xs : List AV)
  | rng (a b c : Int)
  | dict (es : List ((Int × Int) × Int))

noncomputable def VR (ρ : List Addr) : AV → Value → Prop
  | .none, v => v = .none
  | .bool b, v => v = .bool b
  | .int i, v => ∃ t, v = .int i t
  | .str x, v => ∃ t, v = .str x t
  | .ref k, v => ∃ a, ρ[k]? = some a ∧ v = .ref a
  | .con c, v => v = c

inductive VRs (ρ : List Addr) : List AV → List Value → Prop where
  | nil : VRs ρ [] []
  | cons {x v xs vs} : VR ρ x v → VRs ρ xs vs → VRs ρ (x :: xs) (v :: vs)

theorem getElem?_ext {α : Type} {l l' : List α} {k : Nat} {a : α} (h : l[k]? = some a) : (l ++ l')[k]? = some a := by
  rw [List.getElem?_append_left (List.getElem?_eq_some_iff.mp h).1]; exact h

theorem VR.mono {ρ l : List Addr} {x : AV} {v : Value} (h : VR ρ x v) : VR (ρ ++ l) x v := by
  cases x with
  | ref k => obtain ⟨a, ha, hv⟩ := h; exact ⟨a, getElem?_ext ha, hv⟩
  | _ => exact h
theorem VRs.mono {ρ l : List Addr} {xs : List AV} {vs : List Value} (h : VRs ρ xs vs) : VRs (ρ ++ l) xs vs := by
  induction h with
  | nil => exact .nil
  | cons h _ ih => exact .cons h.mono ih
theorem VRs.length {ρ : List Addr} {xs : List AV} {vs : List Value} (h : VRs ρ xs vs) : vs.length = xs.length := by
  induction h with
  | nil => rfl
  | cons _ _ ih => simp [ih]
theorem VRs.get {ρ : List Addr} {xs : List AV} {vs : List Value} (h : VRs ρ xs vs) : ∀ {i : Nat} {x : AV}, xs[i]? = some x → ∃ v, vs[i]? = some v ∧ VR ρ x v := by
  induction h with
  | nil => intro i x e; simp at e
  | cons h _ ih =>
    intro i x e
    cases i with
    | zero => simp at e; subst e; exact ⟨_, by simp, h⟩
    | succ i => simp at e; obtain ⟨v, h1, h2⟩ := ih e; exact ⟨v, by simpa using h1, h2⟩
theorem VRs.append {ρ : List Addr} {xs ys : List AV} {vs us : List Value} (h : VRs ρ xs vs) (h' : VRs ρ ys us) : VRs ρ (xs ++ ys) (vs ++ us) := by
  induction h with
  | nil => exact h'
  | cons h _ ih => exact .cons h ih
theorem VRs.set {ρ : List Addr} {xs : List AV} {vs : List Value} (h : VRs ρ xs vs) {x : AV} {v : Value} (hx : VR ρ x v) : ∀ i, VRs ρ (xs.set i x) (vs.set i v) := by
  induction h with
  | nil => intro i; exact .nil
  | cons h t ih =>
    intro i
    cases i with
    | zero => exact .cons hx t
    | succ i => exact .cons h (ih i)
theorem VRs.take {ρ : List Addr} {xs : List AV} {vs : List Value} (h : VRs ρ xs vs) : ∀ i, VRs ρ (xs.take i) (vs.take i) := by
  induction h with
  | nil => intro i; simp; exact .nil
  | cons h _ ih =>
    intro i
    cases i with
    | zero => exact .nil
    | succ i => exact .cons h (ih i)
theorem VRs.drop {ρ : List Addr} {xs : List AV} {vs : List Value} (h : VRs ρ xs vs) : ∀ i, VRs ρ (xs.drop i) (vs.drop i) := by
  induction h with
  | nil => intro i; simp; exact .nil
  | cons h t ih =>
    intro i
    cases i with
    | zero => exact .cons h t
    | succ i => exact ih i
theorem VRs.ofInts {ρ : List Addr} {vs : List Value} {ns : List Int} (h : IntsAre vs ns) : VRs ρ (ns.map .int) vs := by
  induction h with
  | nil => exact .nil
  | cons n t _ ih => exact .cons ⟨t, rfl⟩ ih
theorem VRs.ints {ρ : List Addr} : ∀ {ns : List Int} {vs : List Value}, VRs ρ (ns.map .int) vs → IntsAre vs ns
  | [], _, .nil => .nil
  | _ :: _, _, .cons h hs => by obtain ⟨t, rfl⟩ := h; exact .cons _ t (VRs.ints hs)

noncomputable abbrev tupOf (its : Array Value) (n : Nat) : Obj := { cls := .type "tuple", data := .seq its n }

structure Gl where
  prog : Program
  w : World
  h₀ : Heap
  mg : Str → Option Value
  mb : Str → Option Value
  g : h₀.Ns mainGlobals mg
  b : h₀.Ns builtinsNs mb
  bb : ∀ x : Str, x ≠ "__name__" → mb x = bootBuiltins x
  nl : h₀.NoLimit
noncomputable abbrev Gl.M (G : Gl) : Model := model G.prog G.w
noncomputable abbrev Gl.knd (G : Gl) : HeapKind G.prog G.w (List Int) := tupleKind (intKind G.prog G.w)

inductive DRel : List ((Int × Int) × Int) → List (List Int × Addr × Value) → Prop where
  | nil : DRel [] []
  | cons {p q v : Int} {a : Addr} {t : Tok} {es xs} : DRel es xs → DRel (((p, q), v) :: es) (([p, q], a, .int v t) :: xs)

noncomputable def DictAt (G : Gl) (ρ : List Addr) (h : Heap) (a : Addr) (es : List ((Int × Int) × Int)) : Prop :=
  ∃ xs, h.DictOfH G.knd a xs ∧ (∀ x ∈ xs, x.2.1 ∉ ρ) ∧ DRel es xs ∧ (a == sysModules) = false

noncomputable def OR (G : Gl) (ρ : List Addr) (h : Heap) (a : Addr) : AO → Prop
  | .list xs => ∃ vs n, h.get? a = some (listOf vs.toArray n) ∧ VRs ρ xs vs
  | .tup xs => ∃ vs n, h.get? a = some (tupOf vs.toArray n) ∧ VRs ρ xs vs
  | .rng x y z => ∃ t u v, IsRange h a x y z t u v
  | .dict es => DictAt G ρ h a es

theorem OR.alive {G : Gl} {ρ : List Addr} {h : Heap} {a : Addr} {ao : AO} (x : OR G ρ h a ao) : ∃ o, h.get? a = some o := by
  cases ao with
  | list xs => obtain ⟨vs, n, h1, h2⟩ := x; exact ⟨_, h1⟩
  | tup xs => obtain ⟨vs, n, h1, h2⟩ := x; exact ⟨_, h1⟩
  | rng => obtain ⟨t, u, v, e⟩ := x; exact ⟨_, e⟩
  | dict => obtain ⟨xs, ⟨o, _, _, ho, _⟩, _⟩ := x; exact ⟨o, ho⟩

theorem OR.step {G : Gl} {ρ l : List Addr} {h h' : Heap} {a : Addr} {ao : AO} (x : OR G ρ h a ao) (hl : ∀ b ∈ l, h.get? b = none)
    (ha : ∀ o, h.get? a = some o → h'.get? a = some o) (hk : ∀ b o, h.get? b = some o → b ∉ ρ → h'.get? b = some o) : OR G (ρ ++ l) h' a ao := by
  cases ao with
  | list xs => obtain ⟨vs, n, h1, h2⟩ := x; exact ⟨vs, n, ha _ h1, h2.mono⟩
  | tup xs => obtain ⟨vs, n, h1, h2⟩ := x; exact ⟨vs, n, ha _ h1, h2.mono⟩
  | rng => obtain ⟨t, u, v, e⟩ := x; exact ⟨t, u, v, ha _ e⟩
  | dict es =>
    obtain ⟨xs, ⟨o, es', ep, ho, h1, h2, h3, h4, h5⟩, hn, hd⟩ := x
    refine ⟨xs, ⟨o, es', ep, ha _ ho, h1, h2, h3, fun y hy => ?_, h5⟩, fun y hy hm => ?_, hd⟩
    · obtain ⟨o', items, n, q1, q2, q3, q4⟩ := h4 y hy
      exact ⟨o', items, n, hk _ _ q1 (hn y hy), q2, q3, q4⟩
    · rcases List.mem_append.mp hm with q | q
      · exact hn y hy q
      · obtain ⟨o', items, n, q1, _⟩ := h4 y hy
        rw [hl _ q] at q1; cases q1

structure Wd (G : Gl) (ρ : List Addr) (H : List AO) (s : Shared) : Prop where
  base : ∀ b o, G.h₀.get? b = some o → s.heap.get? b = some o
  len : ρ.length = H.length
  nodup : ρ.Nodup
  fresh : ∀ a ∈ ρ, G.h₀.get? a = none
  obj : ∀ (k : Nat) (ao : AO) (a : Addr), H[k]? = some ao → ρ[k]? = some a → OR G ρ s.heap a ao

structure Stp (W : List Addr) (ρ : List Addr) (s : Shared) (ρ' : List Addr) (s' : Shared) : Prop where
  ext : ∃ l, ρ' = ρ ++ l ∧ ∀ a ∈ l, s.heap.get? a = none
  keep : ∀ b o, s.heap.get? b = some o → b ∉ ρ → b ∉ W → s'.heap.get? b = some o
  alive : ∀ b o, s.heap.get? b = some o → ∃ o', s'.heap.get? b = some o'
  gens : ∃ ex : List GenState, s'.gens.toList = s.gens.toList ++ ex ∧ ∀ g ∈ ex, g = .finished
  os : s'.os = s.os

theorem Stp.refl {W ρ : List Addr} {s : Shared} : Stp W ρ s ρ s :=
  ⟨⟨[], by simp⟩, fun _ _ e _ _ => e, fun _ o e => ⟨o, e⟩, ⟨[], by simp⟩, rfl⟩
theorem Stp.toks {W ρ : List Addr} {s : Shared} (tk : Nat) : Stp W ρ s ρ { s with toks := tk } :=
  ⟨⟨[], by simp⟩, fun _ _ e _ _ => e, fun _ o e => ⟨o, e⟩, ⟨[], by simp⟩, rfl⟩
theorem Stp.trans {W ρ ρ₁ ρ₂ : List Addr} {s s₁ s₂ : Shared} (x : Stp W ρ s ρ₁ s₁) (y : Stp W ρ₁ s₁ ρ₂ s₂) : Stp W ρ s ρ₂ s₂ := by
  obtain ⟨l, rfl, hl⟩ := x.ext
  obtain ⟨l', rfl, hl'⟩ := y.ext
  obtain ⟨g, hg, hgf⟩ := x.gens
  obtain ⟨g', hg', hgf'⟩ := y.gens
  refine ⟨⟨l ++ l', by simp, fun a ha => ?_⟩, fun b o e h1 h2 => ?_, fun b o e => ?_, ⟨g ++ g', by rw [hg', hg]; simp, fun a ha => ?_⟩, y.os.trans x.os⟩
  · rcases List.mem_append.mp ha with h | h
    · exact hl a h
    · cases q : s.heap.get? a with
      | none => rfl
      | some o => obtain ⟨o', e'⟩ := x.alive a o q; rw [hl' a h] at e'; cases e'
  · refine y.keep b o (x.keep b o e h1 h2) (fun hb => ?_) h2
    rcases List.mem_append.mp hb with h | h
    · exact h1 h
    · rw [hl b h] at e; cases e
  · obtain ⟨o', e'⟩ := x.alive b o e; exact y.alive b o' e'
  · rcases List.mem_append.mp ha with h | h
    · exact hgf a h
    · exact hgf' a h
theorem Stp.mono {W W' ρ ρ' : List Addr} {s s' : Shared} (x : Stp W ρ s ρ' s') (h : ∀ a ∈ W, a ∈ W') : Stp W' ρ s ρ' s' :=
  ⟨x.ext, fun b o e h1 h2 => x.keep b o e h1 fun hb => h2 (h b hb), x.alive, x.gens, x.os⟩
theorem Stp.wide {W ρ ρ' : List Addr} {s s' : Shared} (x : Stp [] ρ s ρ' s') : Stp W ρ s ρ' s' := x.mono (by simp)
theorem Stp.keeps {W ρ : List Addr} {s : Shared} {h' : Heap} {tk : Nat} (hk : ∀ b o, s.heap.get? b = some o → h'.get? b = some o) : Stp W ρ s ρ { s with heap := h', toks := tk } :=
  ⟨⟨[], by simp⟩, fun b o e _ _ => hk b o e, fun b o e => ⟨o, hk b o e⟩, ⟨[], by simp⟩, rfl⟩
theorem Stp.sameBut {W ρ : List Addr} {s : Shared} {h' : Heap} {tk : Nat} {a : Addr} {o' : Obj} (hs : Heap.SameBut a s.heap h') (ha : a ∈ ρ ∨ a ∈ W) (ho : h'.get? a = some o') : Stp W ρ s ρ { s with heap := h', toks := tk } := by
  refine ⟨⟨[], by simp⟩, fun b o e h1 h2 => (hs.2 b fun q => ?_).trans e, fun b o e => ?_, ⟨[], by simp⟩, rfl⟩
  · subst q; exact ha.elim h1 h2
  · by_cases q : b = a
    · subst q; exact ⟨o', ho⟩
    · exact ⟨o, (hs.2 b q).trans e⟩
theorem Stp.vr {W ρ ρ' : List Addr} {s s' : Shared} (x : Stp W ρ s ρ' s') {av : AV} {v : Value} (h : VR ρ av v) : VR ρ' av v := by
  obtain ⟨l, rfl, _⟩ := x.ext; exact h.mono
theorem Stp.vrs {W ρ ρ' : List Addr} {s s' : Shared} (x : Stp W ρ s ρ' s') {av : List AV} {v : List Value} (h : VRs ρ av v) : VRs ρ' av v := by
  obtain ⟨l, rfl, _⟩ := x.ext; exact h.mono
theorem Stp.notin {W ρ ρ' : List Addr} {s s' : Shared} (x : Stp W ρ s ρ' s') {a : Addr} {o : Obj} (h : a ∉ ρ) (e : s.heap.get? a = some o) : a ∉ ρ' := by
  obtain ⟨l, rfl, hl⟩ := x.ext
  intro hm
  rcases List.mem_append.mp hm with q | q
  · exact h q
  · rw [hl a q] at e; cases e

theorem Wd.keeps {G : Gl} {ρ : List Addr} {H : List AO} {s : Shared} (d : Wd G ρ H s) {s' : Shared} (hk : ∀ b o, s.heap.get? b = some o → s'.heap.get? b = some o) : Wd G ρ H s' := by
  refine ⟨fun b o e => hk b o (d.base b o e), d.len, d.nodup, d.fresh, fun k ao a h1 h2 => ?_⟩
  have z := (d.obj k ao a h1 h2).step (l := []) (h' := s'.heap) (by simp) (fun o e => hk a o e) fun b o e _ => hk b o e
  simpa using z
theorem Wd.toks {G : Gl} {ρ : List Addr} {H : List AO} {s : Shared} (d : Wd G ρ H s) (tk : Nat) : Wd G ρ H { s with toks := tk } := d.keeps fun _ _ e => e

theorem Wd.at {G : Gl} {ρ : List Addr} {H : List AO} {s : Shared} (d : Wd G ρ H s) {k : Nat} {ao : AO} (h : H[k]? = some ao) : ∃ a, ρ[k]? = some a ∧ OR G ρ s.heap a ao := by
  have hk : k < ρ.length := by rw [d.len]; exact (List.getElem?_eq_some_iff.mp h).1
  exact ⟨ρ[k], List.getElem?_eq_getElem hk, d.obj k ao _ h (List.getElem?_eq_getElem hk)⟩

theorem Wd.alive {G : Gl} {ρ : List Addr} {H : List AO} {s : Shared} (d : Wd G ρ H s) {a : Addr} (h : a ∈ ρ) : ∃ o, s.heap.get? a = some o := by
  obtain ⟨k, hk, rfl⟩ := List.getElem_of_mem h
  obtain ⟨a', e, x⟩ := d.at (List.getElem?_eq_getElem (l := H) (by rw [← d.len]; exact hk))
  rw [List.getElem?_eq_getElem hk] at e; cases e
  exact x.alive

theorem Wd.push {G : Gl} {ρ : List Addr} {H : List AO} {s : Shared} (d : Wd G ρ H s) {s' : Shared} {a : Addr} {ao : AO} (ha : s.heap.get? a = none)
    (hk : ∀ b o, s.heap.get? b = some o → s'.heap.get? b = some o) (ho : OR G (ρ ++ [a]) s'.heap a ao) : Wd G (ρ ++ [a]) (H ++ [ao]) s' := by
  have nin : a ∉ ρ := fun h => by obtain ⟨o, e⟩ := d.alive h; rw [ha] at e; cases e
  refine ⟨fun b o e => hk b o (d.base b o e), by simp [d.len], ?_, fun b hb => ?_, fun k ao' a' h1 h2 => ?_⟩
  · refine List.nodup_append.mpr ⟨d.nodup, by simp, fun x hx y hy => ?_⟩
    simp at hy; subst hy; exact fun e => nin (e ▸ hx)
  · rcases List.mem_append.mp hb with q | q
    · exact d.fresh b q
    · simp at q; subst q
      cases e : G.h₀.get? b with
      | none => rfl
      | some o => rw [d.base b o e] at ha; cases ha
  · rcases Nat.lt_trichotomy k H.length with q | q | q
    · rw [List.getElem?_append_left q] at h1
      rw [List.getElem?_append_left (by rw [d.len]; exact q)] at h2
      exact (d.obj k ao' a' h1 h2).step (by simpa using ha) (fun o e => hk a' o e) fun b o e _ => hk b o e
    · subst q
      simp at h1; subst h1
      rw [← d.len] at h2; simp at h2; subst h2
      exact ho
    · rw [List.getElem?_append_right (by lia)] at h1
      have : k - H.length ≠ 0 := by lia
      obtain ⟨j, hj⟩ := Nat.exists_eq_succ_of_ne_zero this
      rw [hj] at h1; simp at h1
theorem Stp.push {W ρ : List Addr} {s : Shared} {h' : Heap} {tk : Nat} {a : Addr} (ha : s.heap.get? a = none) (hk : ∀ b o, s.heap.get? b = some o → h'.get? b = some o) : Stp W ρ s (ρ ++ [a]) { s with heap := h', toks := tk } :=
  ⟨⟨[a], rfl, by simpa using ha⟩, fun b o e _ _ => hk b o e, fun b o e => ⟨o, hk b o e⟩, ⟨[], by simp⟩, rfl⟩

theorem Wd.set {G : Gl} {ρ : List Addr} {H : List AO} {s : Shared} (d : Wd G ρ H s) {s' : Shared} {k : Nat} {a : Addr} {ao : AO} (hk : ρ[k]? = some a) (hs : Heap.SameBut a s.heap s'.heap)
    (ho : OR G ρ s'.heap a ao) : Wd G ρ (H.set k ao) s' := by
  have ain : a ∈ ρ := List.mem_of_getElem? hk
  have old : ∀ b o, s.heap.get? b = some o → b ≠ a → s'.heap.get? b = some o := fun b o e q => (hs.2 b q).trans e
  refine ⟨fun b o e => old b o (d.base b o e) fun q => ?_, by simp [d.len], d.nodup, d.fresh, fun j ao' a' h1 h2 => ?_⟩
  · rw [q, d.fresh a ain] at e; cases e
  · by_cases q : k = j
    · subst q
      rw [hk] at h2; cases h2
      have hlt : k < H.length := by
        have := (List.getElem?_eq_some_iff.mp h1).1; simpa using this
      rw [List.getElem?_set_self hlt] at h1; cases h1
      exact ho
    · rw [List.getElem?_set_ne q] at h1
      have ne : a' ≠ a := fun e => by
        subst e
        exact q ((List.getElem?_inj (List.getElem?_eq_some_iff.mp hk).1 d.nodup).mp (hk.trans h2.symm))
      have z := (d.obj j ao' a' h1 h2).step (l := []) (h' := s'.heap) (by simp) (fun o e => old a' o e ne) fun b o e hb => old b o e fun q => hb (q ▸ ain)
      simpa using z

theorem Wd.sameBut {G : Gl} {ρ : List Addr} {H : List AO} {s : Shared} (d : Wd G ρ H s) {s' : Shared} {a : Addr} (hs : Heap.SameBut a s.heap s'.heap) (ha : G.h₀.get? a = none) (hin : a ∉ ρ)
    (hq : ∀ o items n, s.heap.get? a = some o → o.data ≠ .seq items n) : Wd G ρ H s' := by
  have old : ∀ b o, s.heap.get? b = some o → b ≠ a → s'.heap.get? b = some o := fun b o e q => (hs.2 b q).trans e
  refine ⟨fun b o e => old b o (d.base b o e) fun q => ?_, d.len, d.nodup, d.fresh, fun j ao a' h1 h2 => ?_⟩
  · rw [q, ha] at e; cases e
  · have ne : a' ≠ a := fun e => hin (e ▸ List.mem_of_getElem? h2)
    have z := d.obj j ao a' h1 h2
    cases ao with
    | dict es =>
      obtain ⟨xs, ⟨o, es', ep, ho, h1, h2, h3, h4, h5⟩, hn, hd⟩ := z
      refine ⟨xs, ⟨o, es', ep, old _ _ ho ne, h1, h2, h3, fun y hy => ?_, h5⟩, hn, hd⟩
      obtain ⟨o', items, n, q1, q2, q3, q4⟩ := h4 y hy
      exact ⟨o', items, n, old _ _ q1 (fun e => hq o' items n (e ▸ q1) q3), q2, q3, q4⟩
    | list xs => obtain ⟨vs, n, h1, h2⟩ := z; exact ⟨vs, n, old _ _ h1 ne, h2⟩
    | tup xs => obtain ⟨vs, n, h1, h2⟩ := z; exact ⟨vs, n, old _ _ h1 ne, h2⟩
    | rng => obtain ⟨t, u, v, e⟩ := z; exact ⟨t, u, v, old _ _ e ne⟩

end Mine
end
section
open PySem PySem.W PyProof.Rows
set_option maxRecDepth 100000
namespace Mine

noncomputable abbrev Vars := List (Str × AV)

theorem VR.int' {ρ : List Addr} {i : Int} {t : Tok} : VR ρ (.int i) (.int i t) := ⟨t, rfl⟩
theorem VR.str' {ρ : List Addr} {x : Str} {t : Tok} : VR ρ (.str x) (.str x t) := ⟨t, rfl⟩
theorem VR.bool' {ρ : List Addr} {b : Bool} : VR ρ (.bool b) (.bool b) := rfl
theorem VR.none' {ρ : List Addr} : VR ρ .none .none := rfl
theorem VR.con' {ρ : List Addr} {v : Value} : VR ρ (.con v) v := rfl

noncomputable abbrev NameOk (x : Str) : Prop := (x == ("__debug__" : Str)) = false ∧ (x == ("__classdict__" : Str)) = false

inductive CellAt (G : Gl) (ρ : List Addr) (env : Env) (m : Vars) (s : Shared) (x : Str) (c : Addr) : Prop
  | mk (n1 : c ∉ ρ) (n2 : c ≠ env.locals) (n3 : G.h₀.get? c = none) (o : Obj) (cv : Option Value) (ho : s.heap.get? c = some o) (hd : o.data = .cell cv)
      (hv : ∀ v, m.lookup x = some v → env.kindOf x ≠ some .local → ∃ v', cv = some v' ∧ VR ρ v v')
structure Vr (G : Gl) (ρ : List Addr) (env : Env) (m : Vars) (s : Shared) : Prop where
  lfresh : G.h₀.get? env.locals = none
  lnin : env.locals ∉ ρ
  ns : ∃ mc, s.heap.Ns env.locals mc ∧ ∀ x v, m.lookup x = some v → env.kindOf x = some .local → ∃ cv, mc x = some cv ∧ VR ρ v cv
  cells : ∀ x c, env.cells.lookup x = some c → CellAt G ρ env m s x c
  has : ∀ x v, m.lookup x = some v → NameOk x ∧ (env.kindOf x = some .local ∨ ((env.kindOf x = some .cell ∨ env.kindOf x = some .free) ∧ ∃ c, env.cells.lookup x = some c))
  inj : ∀ x y c, env.cells.lookup x = some c → env.cells.lookup y = some c → x = y
  keys : ∀ p ∈ env.cells, env.cells.lookup p.1 = some p.2

theorem CellAt.ne {G : Gl} {ρ : List Addr} {env : Env} {m : Vars} {s : Shared} {x : Str} {c : Addr} (h : CellAt G ρ env m s x c) : c ≠ env.locals := by cases h; assumption
noncomputable def alls (env : Env) : List Addr := env.locals :: env.cells.map (·.2)
noncomputable def own (env : Env) : List Addr := env.locals :: (match env.func with | some _ => env.cells.map (·.2) | none => [])
theorem own_sub {env : Env} {a : Addr} (h : a ∈ own env) : a ∈ alls env := by
  rcases List.mem_cons.mp h with q | q
  · rw [q]; exact .head _
  · cases e : env.func with
    | none => rw [e] at q; cases q
    | some f => rw [e] at q; exact .tail _ q

theorem lookup_mem {α : Type} : ∀ {l : List (Str × α)} {x : Str} {c : α}, l.lookup x = some c → (x, c) ∈ l
  | [], _, _, h => by cases h
  | (y, d) :: l, x, c, h => by
    rw [List.lookup_cons] at h
    cases q : x == y with
    | true => rw [q] at h; cases h; rw [eq_of_beq q]; exact .head _
    | false => rw [q] at h; exact .tail _ (lookup_mem h)
theorem cell_own {env : Env} {x : Str} {c : Addr} (h : env.cells.lookup x = some c) : c ∈ alls env :=
  .tail _ (List.mem_map.mpr ⟨(x, c), lookup_mem h, rfl⟩)
theorem cell_own' {env : Env} {x : Str} {c : Addr} (hf : env.func.isSome = true) (h : env.cells.lookup x = some c) : c ∈ own env := by
  refine .tail _ ?_
  cases e : env.func with
  | none => rw [e] at hf; cases hf
  | some f => exact List.mem_map.mpr ⟨(x, c), lookup_mem h, rfl⟩

theorem Vr.step {G : Gl} {ρ ρ' W : List Addr} {env : Env} {m : Vars} {s s' : Shared} (V : Vr G ρ env m s) (x : Stp W ρ s ρ' s') (hw : ∀ a ∈ alls env, a ∉ W) : Vr G ρ' env m s' := by
  obtain ⟨mc, ⟨o, es, ep, ho, hd, hk, hf⟩, hv⟩ := V.ns
  refine ⟨V.lfresh, x.notin V.lnin ho, ⟨mc, ⟨o, es, ep, x.keep _ _ ho V.lnin (hw _ (.head _)), hd, hk, hf⟩, fun y v h1 h2 => ?_⟩, fun y c hc => ?_, V.has, V.inj, V.keys⟩
  · obtain ⟨cv, q1, q2⟩ := hv y v h1 h2
    exact ⟨cv, q1, x.vr q2⟩
  · obtain ⟨q1, q2, q3, oc, cv, q4, q5, q6⟩ := V.cells y c hc
    refine ⟨x.notin q1 q4, q2, q3, oc, cv, x.keep _ _ q4 q1 (hw _ (cell_own hc)), q5, fun v h1 h2 => ?_⟩
    obtain ⟨v', r1, r2⟩ := q6 v h1 h2
    exact ⟨v', r1, x.vr r2⟩
theorem Vr.stepE {G : Gl} {ρ ρ' : List Addr} {env : Env} {m : Vars} {s s' : Shared} (V : Vr G ρ env m s) (x : Stp [] ρ s ρ' s') : Vr G ρ' env m s' := V.step x (by simp)

theorem Vr.less {G : Gl} {ρ : List Addr} {env : Env} {m m' : Vars} {s : Shared} (V : Vr G ρ env m s) (h : ∀ x v, m'.lookup x = some v → m.lookup x = some v) : Vr G ρ env m' s := by
  obtain ⟨mc, hn, hv⟩ := V.ns
  refine ⟨V.lfresh, V.lnin, ⟨mc, hn, fun x v h1 h2 => hv x v (h x v h1) h2⟩, fun x c hc => ?_, fun x v h1 => V.has x v (h x v h1), V.inj, V.keys⟩
  obtain ⟨q1, q2, q3, oc, cv, q4, q5, q6⟩ := V.cells x c hc
  exact ⟨q1, q2, q3, oc, cv, q4, q5, fun v h1 h2 => q6 v (h x v h1) h2⟩

theorem Vr.own_alive {G : Gl} {ρ : List Addr} {env : Env} {m : Vars} {s : Shared} (V : Vr G ρ env m s) {a : Addr} (h : a ∈ alls env) : ∃ o, s.heap.get? a = some o := by
  rcases List.mem_cons.mp h with q | q
  · subst q
    obtain ⟨mc, ⟨o, _, _, ho, _⟩, _⟩ := V.ns
    exact ⟨o, ho⟩
  · obtain ⟨c, hcm, rfl⟩ := List.mem_map.mp q
    obtain ⟨_, _, _, oc, _, q4, _⟩ := V.cells c.1 c.2 (V.keys c hcm)
    exact ⟨oc, q4⟩
theorem Vr.own_none {G : Gl} {ρ : List Addr} {env : Env} {m : Vars} {s : Shared} (V : Vr G ρ env m s) {a : Addr} (h : s.heap.get? a = none) : a ∉ alls env := fun hm => by
  obtain ⟨o, e⟩ := V.own_alive hm; rw [h] at e; cases e

structure EnvOK (sc : Scope) (env : Env) : Prop where
  scope : env.scope = sc
  kind : sc.kind = .function
  globals : env.globals = mainGlobals
  builtins : env.builtins = builtinsNs
  frame : env.frame.isSome = true
  cells : sc.names.lookup (".0" : Str) = none → env.func.isSome = true ∧ ∀ x, sc.names.lookup x = some .cell → ∃ c, env.cells.lookup x = some c

structure Rm (k : Nat) (A : Around) : Prop where
  handled : A.handled = none
  depth : A.depth + k < 800
  units : A.units + 100 * k + 100 < 9000

theorem Rm.units' {k : Nat} {A : Around} (h : Rm k A) : A.units < cLine := by
  have := h.units; show A.units < 9900; lia
theorem Rm.units64 {k : Nat} {A : Around} (h : Rm k A) : A.units + 64 < cLine := by
  have := h.units; show A.units + 64 < 9900; lia
theorem Rm.room {k : Nat} {A : Around} (h : Rm k A) : A.depth < recursionLimit := by
  have := h.depth; show A.depth < 1000; lia
theorem Rm.deeper {k : Nat} {A : Around} {env : Env} (h : Rm (k + 1) A) : Rm k (A.deeper env) :=
  ⟨h.handled, by have := h.depth; show A.depth + 1 + k < 800; lia, by have := h.units; show A.units + 3 + 100 * k + 100 < 9000; lia⟩

noncomputable def NoE : Value → Shared → Prop := fun _ _ => False

inductive PE (G : Gl) (ρ : List Addr) (s : Shared) (Q : AV → List AO → Prop) (v : Value) (s' : Shared) : Prop
  | mk (ρ' : List Addr) (H' : List AO) (av : AV) (x : Stp [] ρ s ρ' s') (d : Wd G ρ' H' s') (r : VR ρ' av v) (q : Q av H')

noncomputable def Ev (G : Gl) (k : Nat) (sc : Scope) (e : Expr) (m : Vars) (H : List AO) (Q : AV → List AO → Prop) : Prop :=
  ∀ A env ρ s, EnvOK sc env → Rm k A → Wd G ρ H s → Vr G ρ env m s → wpAny G.M A (eval e env) (PE G ρ s Q) NoE s

inductive PB (G : Gl) (ρ : List Addr) (s : Shared) (Q : Bool → List AO → Prop) (b : Bool) (s' : Shared) : Prop
  | mk (ρ' : List Addr) (H' : List AO) (x : Stp [] ρ s ρ' s') (d : Wd G ρ' H' s') (q : Q b H')
noncomputable def Ts (G : Gl) (k : Nat) (sc : Scope) (e : Expr) (m : Vars) (H : List AO) (Q : Bool → List AO → Prop) : Prop :=
  ∀ A env ρ s, EnvOK sc env → Rm k A → Wd G ρ H s → Vr G ρ env m s → wpAny G.M A (isTrue e env (eval e env)) (PB G ρ s Q) NoE s
noncomputable def TsAll (G : Gl) (k : Nat) (sc : Scope) (op : BoolOp) (es : List Expr) (m : Vars) (H : List AO) (Q : Bool → List AO → Prop) : Prop :=
  ∀ A env ρ s, EnvOK sc env → Rm k A → Wd G ρ H s → Vr G ρ env m s → wpAny G.M A (allTrue op es env) (PB G ρ s Q) NoE s

inductive PEs (G : Gl) (ρ : List Addr) (s : Shared) (Q : List AV → List AO → Prop) (v : List Value) (s' : Shared) : Prop
  | mk (ρ' : List Addr) (H' : List AO) (av : List AV) (x : Stp [] ρ s ρ' s') (d : Wd G ρ' H' s') (r : VRs ρ' av v) (q : Q av H')
noncomputable def Evs (G : Gl) (k : Nat) (sc : Scope) (es : List Expr) (m : Vars) (H : List AO) (Q : List AV → List AO → Prop) : Prop :=
  ∀ A env ρ s pos, EnvOK sc env → Rm k A → Wd G ρ H s → Vr G ρ env m s → wpAny G.M A (spliced (backTo pos (starEach es env))) (PEs G ρ s Q) NoE s

noncomputable def Op (G : Gl) (k : Nat) (t : List Value → Sem Value) (vs : List AV) (H : List AO) (Q : AV → List AO → Prop) : Prop :=
  ∀ A ρ s cvs, Rm k A → Wd G ρ H s → VRs ρ vs cvs → wpAny G.M A (t cvs) (PE G ρ s Q) NoE s

inductive AF where
  | next | brk | cont | ret (v : AV)
noncomputable def FR (ρ : List Addr) : AF → Flow → Prop
  | .next, f => f = .next
  | .brk, f => f = .brk
  | .cont, f => f = .cont
  | .ret v, f => ∃ cv, f = .ret cv ∧ VR ρ v cv

inductive PX (G : Gl) (env : Env) (ρ : List Addr) (s : Shared) (Q : AF → Vars → List AO → Prop) (f : Flow) (s' : Shared) : Prop
  | mk (ρ' : List Addr) (H' : List AO) (m' : Vars) (af : AF) (x : Stp (own env) ρ s ρ' s') (d : Wd G ρ' H' s') (v : Vr G ρ' env m' s') (r : FR ρ' af f) (q : Q af m' H')
noncomputable def Ex (G : Gl) (k : Nat) (sc : Scope) (st : Stmt) (m : Vars) (H : List AO) (Q : AF → Vars → List AO → Prop) : Prop :=
  ∀ A env ρ s, EnvOK sc env → Rm k A → Wd G ρ H s → Vr G ρ env m s → wpAny G.M A (exec st env) (PX G env ρ s Q) NoE s
noncomputable def Exs (G : Gl) (k : Nat) (sc : Scope) (st : List Stmt) (m : Vars) (H : List AO) (Q : AF → Vars → List AO → Prop) : Prop :=
  ∀ A env ρ s, EnvOK sc env → Rm k A → Wd G ρ H s → Vr G ρ env m s → wpAny G.M A (execs st env) (PX G env ρ s Q) NoE s

inductive PU (G : Gl) (env : Env) (ρ : List Addr) (s : Shared) (Q : Vars → List AO → Prop) (u : Unit) (s' : Shared) : Prop
  | mk (ρ' : List Addr) (H' : List AO) (m' : Vars) (x : Stp (own env) ρ s ρ' s') (d : Wd G ρ' H' s') (v : Vr G ρ' env m' s') (q : Q m' H')
structure If2 (P Q : Prop) : Prop where
  one : P
  two : Q
noncomputable def As (G : Gl) (k : Nat) (sc : Scope) (t : Expr) (v : AV) (m : Vars) (H : List AO) (Q : Vars → List AO → Prop) : Prop :=
  ∀ A env ρ s cv, EnvOK sc env → Rm k A → Wd G ρ H s → Vr G ρ env m s → VR ρ v cv → wpAny G.M A (assign t env cv) (PU G env ρ s Q) NoE s

variable {G : Gl} {k : Nat} {sc : Scope} {m : Vars} {H : List AO}

theorem PE.map {A : Around} {t : Sem Value} {s : Shared} {ρ : List Addr} {Q : AV → List AO → Prop} {Q' : Value → Shared → Prop} {E : Value → Shared → Prop}
    (h : wpAny G.M A t (PE G ρ s Q) NoE s) (hk : ∀ v s' ρ' H' av, Stp [] ρ s ρ' s' → Wd G ρ' H' s' → VR ρ' av v → Q av H' → Q' v s') :
    wpAny G.M A t Q' E s :=
  wpAny_mono h (fun v s' ⟨ρ', H', av, h1, h2, h3, h4⟩ => hk v s' ρ' H' av h1 h2 h3 h4) fun _ _ x => x.elim
theorem PE.from {s s₁ : Shared} {ρ ρ₁ : List Addr} {Q : AV → List AO → Prop} (x : Stp [] ρ s ρ₁ s₁) {v : Value} {s' : Shared} (h : PE G ρ₁ s₁ Q v s') : PE G ρ s Q v s' :=
  let ⟨ρ', H', av, h1, h2, h3, h4⟩ := h; ⟨ρ', H', av, x.trans h1, h2, h3, h4⟩
theorem wp_from {A : Around} {t : Sem Value} {s s₁ : Shared} {ρ ρ₁ : List Addr} {Q : AV → List AO → Prop} (x : Stp [] ρ s ρ₁ s₁) (h : wpAny G.M A t (PE G ρ₁ s₁ Q) NoE s₁) : wpAny G.M A t (PE G ρ s Q) NoE s₁ :=
  wpAny_mono h (fun _ _ q => q.from x) fun _ _ e => e
theorem wp_fromB {A : Around} {t : Sem Bool} {s s₁ : Shared} {ρ ρ₁ : List Addr} {Q : Bool → List AO → Prop} (x : Stp [] ρ s ρ₁ s₁) (h : wpAny G.M A t (PB G ρ₁ s₁ Q) NoE s₁) : wpAny G.M A t (PB G ρ s Q) NoE s₁ :=
  wpAny_mono h (fun _ _ ⟨ρ', H', h1, h2, h3⟩ => ⟨ρ', H', x.trans h1, h2, h3⟩) fun _ _ e => e
theorem wp_fromX {A : Around} {env : Env} {t : Sem Flow} {s s₁ : Shared} {ρ ρ₁ : List Addr} {Q : AF → Vars → List AO → Prop} (x : Stp (own env) ρ s ρ₁ s₁) (h : wpAny G.M A t (PX G env ρ₁ s₁ Q) NoE s₁) : wpAny G.M A t (PX G env ρ s Q) NoE s₁ :=
  wpAny_mono h (fun _ _ ⟨ρ', H', m', af, h1, h2, h3, h4, h5⟩ => ⟨ρ', H', m', af, x.trans h1, h2, h3, h4, h5⟩) fun _ _ e => e
theorem wp_fromU {A : Around} {env : Env} {t : Sem Unit} {s s₁ : Shared} {ρ ρ₁ : List Addr} {Q : Vars → List AO → Prop} (x : Stp (own env) ρ s ρ₁ s₁) (h : wpAny G.M A t (PU G env ρ₁ s₁ Q) NoE s₁) : wpAny G.M A t (PU G env ρ s Q) NoE s₁ :=
  wpAny_mono h (fun _ _ ⟨ρ', H', m', h1, h2, h3, h4⟩ => ⟨ρ', H', m', x.trans h1, h2, h3, h4⟩) fun _ _ e => e
theorem PE.now {ρ : List Addr} {s : Shared} {tk : Nat} {Q : AV → List AO → Prop} {av : AV} {v : Value} (d : Wd G ρ H s) (hv : VR ρ av v) (h : Q av H) : PE G ρ s Q v { s with toks := tk } :=
  ⟨ρ, H, av, Stp.toks tk, d.toks tk, hv, h⟩
theorem PE.here {ρ : List Addr} {s : Shared} {Q : AV → List AO → Prop} {av : AV} {v : Value} (d : Wd G ρ H s) (hv : VR ρ av v) (h : Q av H) : PE G ρ s Q v s :=
  ⟨ρ, H, av, Stp.refl, d, hv, h⟩

theorem Ev.mono {e : Expr} {Q Q' : AV → List AO → Prop} (h : Ev G k sc e m H Q) (hq : ∀ v H', Q v H' → Q' v H') : Ev G k sc e m H Q' :=
  fun A env ρ s h1 h2 h3 h4 => wpAny_mono (h A env ρ s h1 h2 h3 h4) (fun _ _ ⟨ρ', H', av, q1, q2, q3, q4⟩ => ⟨ρ', H', av, q1, q2, q3, hq _ _ q4⟩) fun _ _ x => x
theorem Exs.mono {e : List Stmt} {Q Q' : AF → Vars → List AO → Prop} (h : Exs G k sc e m H Q) (hq : ∀ f m' H', Q f m' H' → Q' f m' H') : Exs G k sc e m H Q' :=
  fun A env ρ s h1 h2 h3 h4 => wpAny_mono (h A env ρ s h1 h2 h3 h4) (fun _ _ ⟨ρ', H', m', af, q1, q2, q3, q4, q5⟩ => ⟨ρ', H', m', af, q1, q2, q3, q4, hq _ _ _ q5⟩) fun _ _ x => x
theorem Exs.less {e : List Stmt} {Q : AF → Vars → List AO → Prop} {m' : Vars} (h : Exs G k sc e m' H Q) (hm : ∀ x v, m'.lookup x = some v → m.lookup x = some v) : Exs G k sc e m H Q :=
  fun A env ρ s h1 h2 h3 h4 => h A env ρ s h1 h2 h3 (h4.less hm)

/- names -/
theorem Ev.var {x : Str} {pos : Pos} {v : AV} {Q : AV → List AO → Prop} (hm : m.lookup x = some v) (h : Q v H) : Ev G k sc (.Name x pos) m H Q := by
  intro A env ρ s he hr d V
  have hk : env.scope.kind = .function := by rw [he.scope]; exact he.kind
  obtain ⟨⟨hd, hd'⟩, hl | ⟨hl, c, hc⟩⟩ := V.has x v hm
  · obtain ⟨mc, hn, hv⟩ := V.ns
    obtain ⟨cv, q1, q2⟩ := hv x v hm hl
    exact wpAny_Name (wpAny_loadName_local hk hl hn q1 (PE.here d q2 h)) hd
  · obtain ⟨_, _, _, o, cv, q4, q5, q6⟩ := V.cells x c hc
    obtain ⟨v', rfl, q7⟩ := q6 v hm (by rcases hl with e | e <;> rw [e] <;> decide)
    rcases hl with hl | hl
    · exact wpAny_Name (wpAny_loadName_cell hk hl hc ⟨o, q4, q5⟩ (PE.here d q7 h)) hd
    · exact wpAny_Name (wpAny_loadName_free hk hl hc ⟨o, q4, q5⟩ (PE.here d q7 h) hd') hd
theorem Ev.global {x : Str} {pos : Pos} {v : Value} {Q : AV → List AO → Prop} (hm : G.mg x = some v) (hl : sc.names.lookup x = some .globalImplicit) (h : Q (.con v) H)
    (hd : (x == ("__debug__" : Str)) = false := by decide) : Ev G k sc (.Name x pos) m H Q := by
  intro A env ρ s he hr d V
  have hl' : env.kindOf x = some .globalImplicit := by unfold Env.kindOf; rw [he.scope]; exact hl
  exact Calls.Name_function_global (by rw [he.scope]; exact he.kind) hl' (Calls.loadGlobal_global (by rw [he.globals]; exact G.g.keeps d.base) hm (PE.here d VR.con' h)) hd
theorem Ev.builtin {x : Str} {pos : Pos} {v : Value} {Q : AV → List AO → Prop} (hm : G.mg x = none) (hb : bootBuiltins x = some v) (hl : sc.names.lookup x = some .globalImplicit) (h : Q (.con v) H)
    (hx : x ≠ "__name__" := by decide) (hd : (x == ("__debug__" : Str)) = false := by decide) : Ev G k sc (.Name x pos) m H Q := by
  intro A env ρ s he hr d V
  have hl' : env.kindOf x = some .globalImplicit := by unfold Env.kindOf; rw [he.scope]; exact hl
  exact Calls.Name_function_global (by rw [he.scope]; exact he.kind) hl' (Calls.loadGlobal_builtin (by rw [he.globals]; exact G.g.keeps d.base) hm (by rw [he.builtins]; exact G.b.keeps d.base) ((G.bb x hx).trans hb) (PE.here d VR.con' h)) hd

/- constants -/
theorem Ev.cint {i : Int} {kk : Nat} {pos : Pos} {Q : AV → List AO → Prop} (h : Q (.int i) H) : Ev G k sc (.Constant (.int i) kk pos) m H Q :=
  fun _ _ _ _ _ _ d _ => wpAny_Constant_int (PE.now d VR.int' h)
theorem Ev.cstr {x : Str} {kk : Nat} {pos : Pos} {Q : AV → List AO → Prop} (h : Q (.str x) H) : Ev G k sc (.Constant (.str x) kk pos) m H Q :=
  fun _ _ _ _ _ _ d _ => wpAny_Constant_str (PE.now d VR.str' h)
theorem Ev.cbool {b : Bool} {kk : Nat} {pos : Pos} {Q : AV → List AO → Prop} (h : Q (.bool b) H) : Ev G k sc (.Constant (.bool b) kk pos) m H Q :=
  fun _ _ _ _ _ _ d _ => wpAny_Constant_bool (PE.here d VR.bool' h)
theorem Ev.cnone {kk : Nat} {pos : Pos} {Q : AV → List AO → Prop} (h : Q .none H) : Ev G k sc (.Constant .none kk pos) m H Q :=
  fun _ _ _ _ _ _ d _ => wpAny_Constant_none (PE.here d VR.none' h)

/- operators -/
noncomputable def op2 (t : Value → Value → Sem Value) : List Value → Sem Value
  | [a, b] => t a b
  | _ => unsupported ""
noncomputable def op1 (t : Value → Sem Value) : List Value → Sem Value
  | [a] => t a
  | _ => unsupported ""
theorem Ev.bin {l r : Expr} {op : Operator} {pos : Pos} {Q : AV → List AO → Prop}
    (h : Ev G k sc l m H fun a H₁ => Ev G k sc r m H₁ fun b H₂ => Op G k (op2 (binaryOp op)) [a, b] H₂ Q) : Ev G k sc (.BinOp l op r pos) m H Q := by
  intro A env ρ s he hr d V
  refine wpAny_BinOp (PE.map (h A env ρ s he hr d V) fun va s₁ ρ₁ H₁ a x₁ d₁ ra h₁ => ?_)
  refine PE.map (h₁ A env ρ₁ s₁ he hr d₁ (V.stepE x₁)) fun vb s₂ ρ₂ H₂ b x₂ d₂ rb h₂ => ?_
  exact wp_from (x₁.trans x₂) (h₂ A ρ₂ s₂ [va, vb] hr d₂ (.cons (x₂.vr ra) (.cons rb .nil)))
theorem Ev.cmp {l r : Expr} {op : CmpOp} {pos : Pos} {Q : AV → List AO → Prop}
    (h : Ev G k sc l m H fun a H₁ => Ev G k sc r m H₁ fun b H₂ => Op G k (op2 (compareOp op)) [a, b] H₂ Q) (hm : behindInMarks op r = false := by with_unfolding_all rfl) :
    Ev G k sc (.Compare l [op] [r] pos) m H Q := by
  intro A env ρ s he hr d V
  refine wpAny_Compare1 (PE.map (h A env ρ s he hr d V) fun va s₁ ρ₁ H₁ a x₁ d₁ ra h₁ => ?_) hm
  refine PE.map (h₁ A env ρ₁ s₁ he hr d₁ (V.stepE x₁)) fun vb s₂ ρ₂ H₂ b x₂ d₂ rb h₂ => ?_
  exact wp_from (x₁.trans x₂) (h₂ A ρ₂ s₂ [va, vb] hr d₂ (.cons (x₂.vr ra) (.cons rb .nil)))
theorem Ev.una {e : Expr} {op : UnaryOp} {pos : Pos} {Q : AV → List AO → Prop}
    (h : Ev G k sc e m H fun a H₁ => Op G k (op1 (unaryOp op)) [a] H₁ Q) : Ev G k sc (.UnaryOp op e pos) m H Q := by
  intro A env ρ s he hr d V
  refine wpAny_UnaryOp (PE.map (h A env ρ s he hr d V) fun va s₁ ρ₁ H₁ a x₁ d₁ ra h₁ => ?_)
  exact wp_from x₁ (h₁ A ρ₁ s₁ [va] hr d₁ (.cons ra .nil))

/- tests -/
noncomputable def Tr (G : Gl) (k : Nat) (v : AV) (H : List AO) (Q : Bool → List AO → Prop) : Prop :=
  ∀ A ρ s cv, Rm k A → Wd G ρ H s → VR ρ v cv → wpAny G.M A (truthy cv) (PB G ρ s Q) NoE s
theorem Tr.bool {b : Bool} {Q : Bool → List AO → Prop} (h : Q b H) : Tr G k (.bool b) H Q := by
  rintro A ρ s cv hr d rfl
  exact wpAny_truthy_bool ⟨ρ, H, Stp.refl, d, h⟩
theorem Ts.cmp {l r : Expr} {op : CmpOp} {pos : Pos} {Q : Bool → List AO → Prop}
    (h : Ev G k sc l m H fun a H₁ => Ev G k sc r m H₁ fun b H₂ => Op G k (op2 (compareOp op)) [a, b] H₂ fun c H₃ => Tr G k c H₃ Q) (hm : behindInMarks op r = false := by with_unfolding_all rfl) :
    Ts G k sc (.Compare l [op] [r] pos) m H Q := by
  intro A env ρ s he hr d V
  refine wpAny_isTrue_Compare1 (PE.map (h A env ρ s he hr d V) fun va s₁ ρ₁ H₁ a x₁ d₁ ra h₁ => ?_) hm
  refine PE.map (h₁ A env ρ₁ s₁ he hr d₁ (V.stepE x₁)) fun vb s₂ ρ₂ H₂ b x₂ d₂ rb h₂ => ?_
  refine PE.map (h₂ A ρ₂ s₂ [va, vb] hr d₂ (.cons (x₂.vr ra) (.cons rb .nil))) fun vc s₃ ρ₃ H₃ c x₃ d₃ rc h₃ => ?_
  exact wp_fromB ((x₁.trans x₂).trans x₃) (h₃ A ρ₃ s₃ vc hr d₃ rc)
theorem Ts.not {e : Expr} {pos : Pos} {Q : Bool → List AO → Prop} (h : Ts G k sc e m H fun b H' => Q (!b) H') : Ts G k sc (.UnaryOp .Not e pos) m H Q :=
  fun A env ρ s he hr d V => wpAny_isTrue_Not (wpAny_mono (h A env ρ s he hr d V) (fun _ _ ⟨ρ', H', h1, h2, h3⟩ => ⟨ρ', H', h1, h2, h3⟩) fun _ _ q => q)
theorem Ts.bools {op : BoolOp} {es : List Expr} {pos : Pos} {Q : Bool → List AO → Prop} (h : TsAll G k sc op es m H Q) : Ts G k sc (.BoolOp op es pos) m H Q :=
  fun A env ρ s he hr d V => wpAny_isTrue_BoolOp (h A env ρ s he hr d V)
theorem TsAll.andNil {Q : Bool → List AO → Prop} (h : Q true H) : TsAll G k sc .And [] m H Q :=
  fun _ _ ρ _ _ _ d _ => wpAny_allTrue_And_nil ⟨ρ, H, Stp.refl, d, h⟩
theorem TsAll.orNil {Q : Bool → List AO → Prop} (h : Q false H) : TsAll G k sc .Or [] m H Q :=
  fun _ _ ρ _ _ _ d _ => wpAny_allTrue_Or_nil ⟨ρ, H, Stp.refl, d, h⟩
theorem TsAll.and {e : Expr} {es : List Expr} {Q : Bool → List AO → Prop} (h : Ts G k sc e m H fun b H₁ => If2 (b = false → Q false H₁) (b = true → TsAll G k sc .And es m H₁ Q)) : TsAll G k sc .And (e :: es) m H Q := by
  intro A env ρ s he hr d V
  refine wpAny_allTrue_And_cons (wpAny_mono (h A env ρ s he hr d V) (fun b s₁ hP => ?_) fun _ _ q => q)
  obtain ⟨ρ₁, H₁, x₁, d₁, h₁⟩ := hP
  cases b with
  | false => exact ⟨ρ₁, H₁, x₁, d₁, h₁.1 rfl⟩
  | true => exact wp_fromB x₁ (h₁.2 rfl A env ρ₁ s₁ he hr d₁ (V.stepE x₁))
theorem TsAll.or {e : Expr} {es : List Expr} {Q : Bool → List AO → Prop} (h : Ts G k sc e m H fun b H₁ => If2 (b = true → Q true H₁) (b = false → TsAll G k sc .Or es m H₁ Q)) : TsAll G k sc .Or (e :: es) m H Q := by
  intro A env ρ s he hr d V
  refine wpAny_allTrue_Or_cons (wpAny_mono (h A env ρ s he hr d V) (fun b s₁ hP => ?_) fun _ _ q => q)
  obtain ⟨ρ₁, H₁, x₁, d₁, h₁⟩ := hP
  cases b with
  | true => exact ⟨ρ₁, H₁, x₁, d₁, h₁.1 rfl⟩
  | false => exact wp_fromB x₁ (h₁.2 rfl A env ρ₁ s₁ he hr d₁ (V.stepE x₁))
theorem Ts.val {e : Expr} {Q : Bool → List AO → Prop} (h : Ev G k sc e m H fun v H₁ => Tr G k v H₁ Q)
    (he' : ∀ env whole, isTrue e env whole = (do let v ← whole; standAt e.pos; holding [v] (truthy v)) := by intro _ _; rfl) : Ts G k sc e m H Q := by
  intro A env ρ s he hr d V
  rw [he']
  refine wpAny_bind (PE.map (h A env ρ s he hr d V) fun v s₁ ρ₁ H₁ av x₁ d₁ r₁ h₁ => ?_)
  exact wpAny_bind (wpAny_standAt (wpAny_holding (wp_fromB x₁ (h₁ A ρ₁ s₁ v hr d₁ r₁))))
theorem Ev.ifx {t a b : Expr} {pos : Pos} {Q : AV → List AO → Prop} (h : Ts G k sc t m H fun c H₁ => If2 (c = true → Ev G k sc a m H₁ Q) (c = false → Ev G k sc b m H₁ Q)) : Ev G k sc (.IfExp t a b pos) m H Q := by
  intro A env ρ s he hr d V
  refine wpAny_IfExp (wpAny_mono (h A env ρ s he hr d V) (fun c s₁ hP => ?_) fun _ _ q => q.elim)
  obtain ⟨ρ₁, H₁, x₁, d₁, h₁⟩ := hP
  cases c with
  | true => exact wp_from x₁ (h₁.1 rfl A env ρ₁ s₁ he hr d₁ (V.stepE x₁))
  | false => exact wp_from x₁ (h₁.2 rfl A env ρ₁ s₁ he hr d₁ (V.stepE x₁))

/- items -/
theorem Evs.nil {Q : List AV → List AO → Prop} (h : Q [] H) : Evs G k sc [] m H Q :=
  fun _ _ ρ _ _ _ _ d _ => args_nil ⟨ρ, H, [], Stp.refl, d, .nil, h⟩
theorem Evs.cons {e : Expr} {es : List Expr} {Q : List AV → List AO → Prop} (h : Ev G k sc e m H fun v H₁ => Evs G k sc es m H₁ fun vs H₂ => Q (v :: vs) H₂)
    (he' : ∀ env, starEach (e :: es) env = (false, eval e env) :: starEach es env := by intro _; rfl) : Evs G k sc (e :: es) m H Q := by
  intro A env ρ s pos he hr d V
  refine args_cons (PE.map (h A env ρ s he hr d V) fun v s₁ ρ₁ H₁ av x₁ d₁ r₁ h₁ => ?_) (he' env)
  refine wpAny_mono (h₁ A env ρ₁ s₁ pos he hr d₁ (V.stepE x₁)) (fun vs s₂ hP => ?_) fun _ _ q => q
  obtain ⟨ρ₂, H₂, avs, x₂, d₂, r₂, h₂⟩ := hP
  exact ⟨ρ₂, H₂, av :: avs, x₁.trans x₂, d₂, .cons (x₂.vr r₁) r₂, h₂⟩

theorem fresh_none {h : Heap} : h.get? h.objs.size = none := by
  cases e : h.get? h.objs.size with
  | none => rfl
  | some o => exact absurd (Heap.lt_size e) (Nat.lt_irrefl _)

theorem PE.newList {ρ : List Addr} {s : Shared} {vs : List Value} {xs : List AV} {tk : Nat} {Q : AV → List AO → Prop} (d : Wd G ρ H s) (hv : VRs ρ xs vs) (h : Q (.ref H.length) (H ++ [.list xs])) :
    PE G ρ s Q (.ref s.heap.objs.size) { s with heap := s.heap.push { cls := .type "list", data := .seq vs.toArray }, toks := tk } := by
  have kp : ∀ b o, s.heap.get? b = some o → (s.heap.push { cls := .type "list", data := .seq vs.toArray }).get? b = some o := fun b o e => Heap.get?_push_of_some _ e
  refine ⟨ρ ++ [s.heap.objs.size], _, .ref H.length, Stp.push fresh_none kp, d.push (ao := .list xs) fresh_none kp ⟨vs, 0, Heap.get?_push_size _ rfl, hv.mono⟩, ⟨_, ?_, rfl⟩, h⟩
  rw [← d.len]; simp
theorem PE.newTuple {ρ : List Addr} {s : Shared} {vs : List Value} {xs : List AV} {tk : Nat} {Q : AV → List AO → Prop} (d : Wd G ρ H s) (hv : VRs ρ xs vs) (h : Q (.ref H.length) (H ++ [.tup xs])) :
    PE G ρ s Q (.ref s.heap.objs.size) { s with heap := s.heap.push { cls := .type "tuple", data := .seq vs.toArray }, toks := tk } := by
  have kp : ∀ b o, s.heap.get? b = some o → (s.heap.push { cls := .type "tuple", data := .seq vs.toArray }).get? b = some o := fun b o e => Heap.get?_push_of_some _ e
  refine ⟨ρ ++ [s.heap.objs.size], _, .ref H.length, Stp.push fresh_none kp, d.push (ao := .tup xs) fresh_none kp ⟨vs, 0, Heap.get?_push_size _ rfl, hv.mono⟩, ⟨_, ?_, rfl⟩, h⟩
  rw [← d.len]; simp
theorem Ev.list {es : List Expr} {pos : Pos} {Q : AV → List AO → Prop} (h : Evs G k sc es m H fun vs H₁ => If2 (vs.length ≤ 100) (Q (.ref H₁.length) (H₁ ++ [.list vs]))) : Ev G k sc (.List es pos) m H Q := by
  intro A env ρ s he hr d V
  refine List_ (wpAny_mono (h A env ρ s pos he hr d V) (fun vs s₁ hP => ?_) fun _ _ q => q)
  obtain ⟨ρ₁, H₁, avs, x₁, d₁, r₁, h₁, h₂⟩ := hP
  refine wpAny_newObj_type ?_ (by show vs.toArray.size ≤ sizeLine; rw [List.size_toArray, r₁.length, sizeLine_eq]; lia)
  exact (PE.newList d₁ r₁ h₂).from x₁
theorem Ev.tup {es : List Expr} {kk : Nat} {pos : Pos} {Q : AV → List AO → Prop} (h : Evs G k sc es m H fun vs H₁ => If2 (vs.length ≤ 100) (Q (.ref H₁.length) (H₁ ++ [.tup vs]))) : Ev G k sc (.Tuple es kk pos) m H Q := by
  intro A env ρ s he hr d V
  refine Tuple_ (wpAny_mono (h A env ρ s pos he hr d V) (fun vs s₁ hP => ?_) fun _ _ q => q)
  obtain ⟨ρ₁, H₁, avs, x₁, d₁, r₁, h₁, h₂⟩ := hP
  refine wpAny_newObj_type ?_ (by show vs.toArray.size ≤ sizeLine; rw [List.size_toArray, r₁.length, sizeLine_eq]; lia)
  exact (PE.newTuple d₁ r₁ h₂).from x₁

/- statements -/
theorem Exs.nil {Q : AF → Vars → List AO → Prop} (h : Q .next m H) : Exs G k sc [] m H Q :=
  fun _ _ ρ _ _ _ d V => wpAny_execs_nil ⟨ρ, H, m, .next, Stp.refl, d, V, rfl, h⟩
theorem Exs.cons {st : Stmt} {rest : List Stmt} {Q : AF → Vars → List AO → Prop}
    (h : Ex G k sc st m H fun f m₁ H₁ => match f with | .next => Exs G k sc rest m₁ H₁ Q | f => Q f m₁ H₁) : Exs G k sc (st :: rest) m H Q := by
  intro A env ρ s he hr d V
  refine wpAny_execs_cons (wpAny_mono (h A env ρ s he hr d V) (fun f s₁ hP => ?_) fun _ _ q => q)
  obtain ⟨ρ₁, H₁, m₁, af, x₁, d₁, V₁, hf, h₁⟩ := hP
  cases af with
  | next => cases hf; exact wp_fromX x₁ (h₁ A env ρ₁ s₁ he hr d₁ V₁)
  | brk => cases hf; exact ⟨ρ₁, H₁, m₁, .brk, x₁, d₁, V₁, rfl, h₁⟩
  | cont => cases hf; exact ⟨ρ₁, H₁, m₁, .cont, x₁, d₁, V₁, rfl, h₁⟩
  | ret v => obtain ⟨cv, rfl, hv⟩ := hf; exact ⟨ρ₁, H₁, m₁, .ret v, x₁, d₁, V₁, ⟨cv, rfl, hv⟩, h₁⟩
theorem Ex.if {t : Expr} {a b : List Stmt} {pos : Pos} {Q : AF → Vars → List AO → Prop}
    (h : Ts G k sc t m H fun c H₁ => If2 (c = true → Exs G k sc a m H₁ Q) (c = false → Exs G k sc b m H₁ Q)) : Ex G k sc (.If t a b pos) m H Q := by
  intro A env ρ s he hr d V
  refine wpAny_If (wpAny_mono (h A env ρ s he hr d V) (fun c s₁ hP => ?_) fun _ _ q => q)
  obtain ⟨ρ₁, H₁, x₁, d₁, h₁⟩ := hP
  cases c with
  | true => exact wp_fromX x₁.wide (h₁.1 rfl A env ρ₁ s₁ he hr d₁ (V.stepE x₁))
  | false => exact wp_fromX x₁.wide (h₁.2 rfl A env ρ₁ s₁ he hr d₁ (V.stepE x₁))
theorem Ex.ret {e : Expr} {pos : Pos} {Q : AF → Vars → List AO → Prop} (h : Ev G k sc e m H fun v H₁ => Q (.ret v) m H₁) : Ex G k sc (.Return (some e) pos) m H Q := by
  intro A env ρ s he hr d V
  refine wpAny_Return_some (PE.map (h A env ρ s he hr d V) fun v s₁ ρ₁ H₁ av x₁ d₁ r₁ h₁ => ?_)
  exact ⟨ρ₁, H₁, m, .ret av, x₁.wide, d₁, V.stepE x₁, ⟨v, rfl, r₁⟩, h₁⟩
theorem Ex.brk {pos : Pos} {Q : AF → Vars → List AO → Prop} (h : Q .brk m H) : Ex G k sc (.Break pos) m H Q :=
  fun _ _ ρ _ _ _ d V => wpAny_Break ⟨ρ, H, m, .brk, Stp.refl, d, V, rfl, h⟩
theorem Ex.cont {pos : Pos} {Q : AF → Vars → List AO → Prop} (h : Q .cont m H) : Ex G k sc (.Continue pos) m H Q :=
  fun _ _ ρ _ _ _ d V => wpAny_Continue ⟨ρ, H, m, .cont, Stp.refl, d, V, rfl, h⟩

end Mine
end
section
open PySem PySem.W PyProof.Rows
set_option maxRecDepth 100000
namespace Mine
variable {G : Gl} {k : Nat} {sc : Scope} {m : Vars} {H : List AO}

theorem Stp.locals {ρ : List Addr} {env : Env} {s : Shared} {h' : Heap} {tk : Nat} {mc : Str → Option Value} (hs : Heap.SameBut env.locals s.heap h') (hn : h'.Ns env.locals mc) :
    Stp (own env) ρ s ρ { s with heap := h', toks := tk } := by
  obtain ⟨o, _, _, ho, _⟩ := hn
  exact Stp.sameBut hs (.inr (.head _)) ho

noncomputable def Sn (G : Gl) (k : Nat) (sc : Scope) (x : Str) (v : AV) (m : Vars) (H : List AO) (Q : Vars → List AO → Prop) : Prop :=
  ∀ A env ρ s cv, EnvOK sc env → Rm k A → Wd G ρ H s → Vr G ρ env m s → VR ρ v cv → wpAny G.M A (storeName env x cv) (PU G env ρ s Q) NoE s

theorem lookup_put {x y : Str} {v : AV} : ((x, v) :: m : Vars).lookup y = if y = x then some v else m.lookup y := by
  rw [List.lookup_cons]
  by_cases h : y = x
  · subst h; simp
  · simp [h, beq_eq_false_iff_ne.mpr h]

theorem Sn.local {x : Str} {v : AV} {Q : Vars → List AO → Prop} (hl : sc.names.lookup x = some .local) (h : Q ((x, v) :: m) H) (hok : NameOk x := by decide) : Sn G k sc x v m H Q := by
  intro A env ρ s cv he hr d V hv
  have hl' : env.kindOf x = some .local := by unfold Env.kindOf; rw [he.scope]; exact hl
  obtain ⟨mc, hn, hm⟩ := V.ns
  refine wpAny_storeName_local hl' hn (fun h' hn' hs => ?_) (by rw [he.scope, he.kind]; rfl)
  obtain ⟨o, es, ep, ho, hd, _⟩ := hn
  refine ⟨ρ, H, _, Stp.locals hs hn', d.sameBut hs V.lfresh V.lnin (fun o' items n e q => ?_), ⟨V.lfresh, V.lnin, ⟨_, hn', fun y w h1 h2 => ?_⟩, fun y c hc => ?_, fun y w h1 => ?_, V.inj, V.keys⟩, h⟩
  · rw [ho] at e; cases e; rw [hd] at q; cases q
  · rw [lookup_put] at h1
    by_cases q : y = x
    · rw [if_pos q] at h1; cases h1; exact ⟨cv, if_pos q, hv⟩
    · rw [if_neg q] at h1
      obtain ⟨w', r1, r2⟩ := hm y w h1 h2
      exact ⟨w', (if_neg q).trans r1, r2⟩
  · obtain ⟨q1, q2, q3, oc, cv', q4, q5, q6⟩ := V.cells y c hc
    refine ⟨q1, q2, q3, oc, cv', (hs.2 _ q2).trans q4, q5, fun w h1 h2 => ?_⟩
    rw [lookup_put] at h1
    by_cases q : y = x
    · subst q; exact absurd hl' h2
    · rw [if_neg q] at h1; exact q6 w h1 h2
  · rw [lookup_put] at h1
    by_cases q : y = x
    · subst q; exact ⟨hok, .inl hl'⟩
    · rw [if_neg q] at h1; exact V.has y w h1

theorem Sn.cell {x : Str} {v : AV} {Q : Vars → List AO → Prop} (hl : sc.names.lookup x = some .cell) (h0 : sc.names.lookup (".0" : Str) = none) (h : Q ((x, v) :: m) H) (hok : NameOk x := by decide) : Sn G k sc x v m H Q := by
  intro A env ρ s cv he hr d V hv
  have hl' : env.kindOf x = some .cell := by unfold Env.kindOf; rw [he.scope]; exact hl
  obtain ⟨hfn, hcs⟩ := he.cells h0
  obtain ⟨c, hc⟩ := hcs x hl
  obtain ⟨c1, c2, c3, oc, cv', c4, c5, c6⟩ := V.cells x c hc
  refine wpAny_storeName_cell (by rw [he.scope]; exact he.kind) hl' hc ⟨oc, c4, c5⟩ fun h' hv' hs => ?_
  obtain ⟨o', ho', hd'⟩ := hv'
  obtain ⟨mc, ⟨o, es, ep, ho, hd, hk, hf⟩, hm⟩ := V.ns
  refine ⟨ρ, H, _, Stp.sameBut hs (.inr (cell_own' hfn hc)) ho', d.sameBut hs c3 c1 (fun o2 items n e q => ?_), ⟨V.lfresh, V.lnin, ⟨mc, ⟨o, es, ep, (hs.2 _ (Ne.symm c2)).trans ho, hd, hk, hf⟩, fun y w h1 h2 => ?_⟩, fun y c' hc' => ?_, fun y w h1 => ?_, V.inj, V.keys⟩, h⟩
  · rw [c4] at e; cases e; rw [c5] at q; cases q
  · rw [lookup_put] at h1
    by_cases q : y = x
    · subst q; rw [hl'] at h2; cases h2
    · rw [if_neg q] at h1; exact hm y w h1 h2
  · by_cases q : y = x
    · subst q
      rw [hc] at hc'; cases hc'
      refine ⟨c1, c2, c3, o', some cv, ho', hd', fun w h1 h2 => ?_⟩
      rw [lookup_put, if_pos rfl] at h1; cases h1
      exact ⟨cv, rfl, hv⟩
    · obtain ⟨q1, q2, q3, oc', cv'', q4, q5, q6⟩ := V.cells y c' hc'
      have ne : c' ≠ c := fun e => by subst e; exact q (V.inj y x _ hc' hc)
      refine ⟨q1, q2, q3, oc', cv'', (hs.2 _ ne).trans q4, q5, fun w h1 h2 => ?_⟩
      rw [lookup_put, if_neg q] at h1; exact q6 w h1 h2
  · rw [lookup_put] at h1
    by_cases q : y = x
    · subst q; exact ⟨hok, .inr ⟨.inl hl', c, hc⟩⟩
    · rw [if_neg q] at h1; exact V.has y w h1

theorem As.name {x : Str} {pos : Pos} {v : AV} {Q : Vars → List AO → Prop} (h : Sn G k sc x v m H Q) : As G k sc (.Name x pos) v m H Q :=
  fun A env ρ s cv he hr d V hv => wpAny_assign_Name (h A env ρ s cv he hr d V hv)

inductive PH (G : Gl) (ρ : List Addr) (s : Shared) (Q : List AO → Prop) (u : Unit) (s' : Shared) : Prop
  | mk (ρ' : List Addr) (H' : List AO) (x : Stp [] ρ s ρ' s') (d : Wd G ρ' H' s') (q : Q H')
noncomputable def OpU (G : Gl) (k : Nat) (t : List Value → Sem Unit) (vs : List AV) (H : List AO) (Q : List AO → Prop) : Prop :=
  ∀ A ρ s cvs, Rm k A → Wd G ρ H s → VRs ρ vs cvs → wpAny G.M A (t cvs) (PH G ρ s Q) NoE s
noncomputable def op3 (t : Value → Value → Value → Sem Unit) : List Value → Sem Unit
  | [a, b, c] => t a b c
  | _ => unsupported ""
theorem As.sub {o i : Expr} {pos : Pos} {v : AV} {Q : Vars → List AO → Prop}
    (h : Ev G k sc o m H fun ov H₁ => Ev G k sc i m H₁ fun iv H₂ => OpU G k (op3 setItem) [ov, iv, v] H₂ fun H₃ => Q m H₃) : As G k sc (.Subscript o i pos) v m H Q := by
  intro A env ρ s cv he hr d V hv
  rw [assign_Subscript]
  refine wpAny_bind (wpAny_holding (PE.map (h A env ρ s he hr d V) fun vo s₁ ρ₁ H₁ ov x₁ d₁ r₁ h₁ => ?_))
  refine wpAny_bind (wpAny_holding (PE.map (h₁ A env ρ₁ s₁ he hr d₁ (V.stepE x₁)) fun vi s₂ ρ₂ H₂ iv x₂ d₂ r₂ h₂ => ?_))
  refine wpAny_bind (wpAny_standAt (wpAny_bind (wpAny_holding (wpAny_mono (h₂ A ρ₂ s₂ [vo, vi, cv] hr d₂ (.cons (x₂.vr r₁) (.cons r₂ (.cons (x₂.vr (x₁.vr hv)) .nil)))) (fun _ s₃ hP => ?_) fun _ _ q => q))))
  obtain ⟨ρ₃, H₃, x₃, d₃, h₃⟩ := hP
  exact wpAny_release ⟨ρ₃, H₃, m, ((x₁.trans x₂).trans x₃).wide, d₃, V.stepE ((x₁.trans x₂).trans x₃), h₃⟩

noncomputable def AsIn (G : Gl) (k : Nat) (sc : Scope) : List Expr → List AV → Vars → List AO → (Vars → List AO → Prop) → Prop
  | [], _, m, H, Q => Q m H
  | t :: ts, v :: vs, m, H, Q => As G k sc t v m H fun m₁ H₁ => AsIn G k sc ts vs m₁ H₁ Q
  | _ :: _, [], _, _, _ => False
theorem AsIn.sound {ts : List Expr} : ∀ {vs : List AV} {m : Vars} {H : List AO} {Q : Vars → List AO → Prop}, AsIn G k sc ts vs m H Q → (∀ t ∈ ts, ∀ (e : Expr) (p : Pos), t ≠ .Starred e p) →
    ∀ A env ρ s cvs, EnvOK sc env → Rm k A → Wd G ρ H s → Vr G ρ env m s → VRs ρ vs cvs → wpAny G.M A (assignInOrder ((assignEach ts env).map (·.2)) cvs) (PU G env ρ s Q) NoE s := by
  induction ts with
  | nil => intro vs m H Q h _ A env ρ s cvs he hr d V hv; exact wpAny_pure ⟨ρ, H, m, Stp.refl, d, V, h⟩
  | cons t ts ih =>
    intro vs m H Q h hst A env ρ s cvs he hr d V hv
    cases vs with
    | nil => exact h.elim
    | cons v vs =>
      cases hv with
      | @cons _ cv _ cvs hv hvs =>
      have e : assignEach (t :: ts) env = (false, assign t env) :: assignEach ts env := by
        cases t with
        | Starred e p => exact absurd rfl (hst _ (.head _) e p)
        | _ => rfl
      rw [e]
      show wpAny G.M A (do holding cvs (assign t env cv); assignInOrder ((assignEach ts env).map (·.2)) cvs) _ _ _
      refine wpAny_bind (wpAny_holding (wpAny_mono (h A env ρ s cv he hr d V hv) (fun _ s₁ hP => ?_) fun _ _ q => q))
      obtain ⟨ρ₁, H₁, m₁, x₁, d₁, V₁, h₁⟩ := hP
      exact wp_fromU x₁ (ih h₁ (fun t ht => hst t (.tail _ ht)) A env ρ₁ s₁ cvs he hr d₁ V₁ (x₁.vrs hvs))

theorem OR.isTuple {ρ : List Addr} {s : Shared} {a : Addr} {xs : List AV} (x : OR G ρ s.heap a (.tup xs)) : ∃ vs : List Value, s.heap.IsTuple a vs.toArray ∧ VRs ρ xs vs := by
  obtain ⟨vs, n, h1, h2⟩ := x
  exact ⟨vs, ⟨_, h1, rfl, n, rfl⟩, h2⟩
theorem OR.isList {ρ : List Addr} {s : Shared} {a : Addr} {xs : List AV} (x : OR G ρ s.heap a (.list xs)) : ∃ vs : List Value, s.heap.IsList a vs.toArray ∧ VRs ρ xs vs := by
  obtain ⟨vs, n, h1, h2⟩ := x
  exact ⟨vs, ⟨_, h1, rfl, n, rfl⟩, h2⟩
theorem ext_keeps {h h' : Heap} (x : Heap.ExtBut h.objs.size h h') : ∀ b o, h.get? b = some o → h'.get? b = some o :=
  fun b o e => x b o (Nat.ne_of_lt (Heap.lt_size e)) e

theorem assignEach_length {env : Env} : ∀ ts : List Expr, (assignEach ts env).length = ts.length
  | [] => rfl
  | t :: ts => by
    cases t <;> simp [assignEach, assignEach_length ts]
theorem assignEach_star {env : Env} : ∀ {ts : List Expr}, (∀ t ∈ ts, ∀ (e : Expr) (p : Pos), t ≠ .Starred e p) → (assignEach ts env).findIdx? (·.1) = none
  | [], _ => rfl
  | t :: ts, h => by
    have z := assignEach_star (env := env) (ts := ts) fun t ht => h t (.tail _ ht)
    have e : assignEach (t :: ts) env = (false, assign t env) :: assignEach ts env := by
      cases t with
      | Starred e p => exact absurd rfl (h _ (.head _) e p)
      | _ => rfl
    rw [e, List.findIdx?_cons, z]; rfl

theorem As.tupT {ts : List Expr} {kk : Nat} {pos : Pos} {j : Nat} {xs : List AV} {Q : Vars → List AO → Prop} (hj : H[j]? = some (.tup xs)) (hn : xs.length = ts.length) (hst : ∀ t ∈ ts, ∀ (e : Expr) (p : Pos), t ≠ .Starred e p)
    (h : AsIn G k sc ts xs m H Q) : As G k sc (.Tuple ts kk pos) (.ref j) m H Q := by
  intro A env ρ s cv he hr d V hv
  obtain ⟨a, ha, rfl⟩ := hv
  obtain ⟨a', ha', x⟩ := d.at hj
  rw [ha] at ha'; cases ha'
  obtain ⟨vs, ht, hvs⟩ := x.isTuple
  refine wpAny_assign_Tuple hr.handled ht (by rw [assignEach_length, List.size_toArray, hvs.length, hn]) (assignEach_star hst) fun h' hx => ?_
  have st : Stp (own env) ρ s ρ { s with heap := h' } := Stp.keeps (tk := s.toks) (ext_keeps hx)
  have st' : Stp [] ρ s ρ { s with heap := h' } := Stp.keeps (tk := s.toks) (ext_keeps hx)
  exact wp_fromU st (h.sound hst A env ρ _ _ he hr (d.keeps (ext_keeps hx)) (V.stepE st') hvs)
theorem As.tupL {ts : List Expr} {kk : Nat} {pos : Pos} {j : Nat} {xs : List AV} {Q : Vars → List AO → Prop} (hj : H[j]? = some (.list xs)) (hn : xs.length = ts.length) (hst : ∀ t ∈ ts, ∀ (e : Expr) (p : Pos), t ≠ .Starred e p)
    (h : AsIn G k sc ts xs m H Q) : As G k sc (.Tuple ts kk pos) (.ref j) m H Q := by
  intro A env ρ s cv he hr d V hv
  obtain ⟨a, ha, rfl⟩ := hv
  obtain ⟨a', ha', x⟩ := d.at hj
  rw [ha] at ha'; cases ha'
  obtain ⟨vs, ht, hvs⟩ := x.isList
  show wpAny G.M A (do standAt pos; unpack (.ref a) (assignEach ts env)) _ _ _
  refine wpAny_bind (wpAny_standAt ?_)
  unfold unpack
  rw [assignEach_star hst, assignEach_length, ← hn, ← hvs.length, ← List.size_toArray]
  refine wpAny_bind (wpAny_holding (kun_itemsOf hr.handled ht fun h' hx => ?_))
  have st : Stp (own env) ρ s ρ { s with heap := h' } := Stp.keeps (tk := s.toks) (ext_keeps hx)
  have st' : Stp [] ρ s ρ { s with heap := h' } := Stp.keeps (tk := s.toks) (ext_keeps hx)
  exact wp_fromU st (h.sound hst A env ρ _ _ he hr (d.keeps (ext_keeps hx)) (V.stepE st') hvs)

/- assignments -/
theorem Ex.assign {t value : Expr} {pos : Pos} {Q : AF → Vars → List AO → Prop} (h : Ev G k sc value m H fun v H₁ => As G k sc t v m H₁ fun m' H' => Q .next m' H')
    (he' : ∀ env, (assignEach [t] env).map (·.2) = [PySem.assign t env] := by intro _; rfl)
    (hs : ∀ env, EnvOK sc env → swapsWithSole [t] value pos.line env = pure false := by intro _ _; rfl) (hw : ∀ env, EnvOK sc env → swappedStores [t] value env = pure none := by intro _ _; rfl) :
    Ex G k sc (.Assign [t] value pos) m H Q := by
  intro A env ρ s he hr d V
  refine wpAny_Assign_stores (PE.map (h A env ρ s he hr d V) fun v s₁ ρ₁ H₁ av x₁ d₁ r₁ h₁ => ?_) (hs env he) (hw env he)
  rw [he']
  refine wpAny_mono (h₁ A env ρ₁ s₁ v he hr d₁ (V.stepE x₁) r₁) (fun _ s₂ hP => ?_) fun _ _ q => q.elim
  obtain ⟨ρ₂, H₂, m₂, x₂, d₂, V₂, h₂⟩ := hP
  exact ⟨ρ₂, H₂, m₂, .next, x₁.wide.trans x₂, d₂, V₂, rfl, h₂⟩
theorem Ex.assign2 {t₁ t₂ value : Expr} {pos : Pos} {Q : AF → Vars → List AO → Prop} (h : Ev G k sc value m H fun v H₁ => As G k sc t₁ v m H₁ fun m₁ H₂ => As G k sc t₂ v m₁ H₂ fun m' H' => Q .next m' H')
    (he' : ∀ env, (assignEach [t₁, t₂] env).map (·.2) = [PySem.assign t₁ env, PySem.assign t₂ env] := by intro _; rfl)
    (hw : ∀ env, EnvOK sc env → swappedStores [t₁, t₂] value env = pure none := by intro _ _; rfl) :
    Ex G k sc (.Assign [t₁, t₂] value pos) m H Q := by
  intro A env ρ s he hr d V
  refine wpAny_Assign_two (PE.map (h A env ρ s he hr d V) fun v s₁ ρ₁ H₁ av x₁ d₁ r₁ h₁ => ?_) (he' env) (hw env he)
  refine wpAny_mono (h₁ A env ρ₁ s₁ v he hr d₁ (V.stepE x₁) r₁) (fun _ s₂ hP => ?_) fun _ _ q => q.elim
  obtain ⟨ρ₂, H₂, m₂, x₂, d₂, V₂, h₂⟩ := hP
  refine wpAny_mono (h₂ A env ρ₂ s₂ v he hr d₂ V₂ (x₂.vr r₁)) (fun _ s₃ hP => ?_) fun _ _ q => q.elim
  obtain ⟨ρ₃, H₃, m₃, x₃, d₃, V₃, h₃⟩ := hP
  exact ⟨ρ₃, H₃, m₃, .next, (x₁.wide.trans x₂).trans x₃, d₃, V₃, rfl, h₃⟩
theorem Ex.swap2 {a b : Str} {pa pb p1 p2 pos : Pos} {k1 k2 : Nat} {e₁ e₂ : Expr} {Q : AF → Vars → List AO → Prop}
    (h : Ev G k sc (.Tuple [e₁, e₂] k2 p2) m H fun v H₁ => ∃ j x y, v = .ref j ∧ H₁[j]? = some (.tup [x, y]) ∧ Sn G k sc b y m H₁ fun m₁ H₂ => Sn G k sc a x m₁ H₂ fun m' H' => Q .next m' H')
    (hs : ∀ env, EnvOK sc env → swapsWithSole [.Tuple [.Name a pa, .Name b pb] k1 p1] (.Tuple [e₁, e₂] k2 p2) pos.line env = pure false := by intro _ _; rfl)
    (hw : ∀ env, EnvOK sc env → swappedStores [.Tuple [.Name a pa, .Name b pb] k1 p1] (.Tuple [e₁, e₂] k2 p2) env = pure (some [a, b])) :
    Ex G k sc (.Assign [.Tuple [.Name a pa, .Name b pb] k1 p1] (.Tuple [e₁, e₂] k2 p2) pos) m H Q := by
  intro A env ρ s he hr d V
  rw [exec_Assign_arm]
  refine wpAny_bind (wpAny_standAt ?_)
  rw [hs env he]
  refine wpAny_bind (wpAny_pure ?_)
  rw [if_neg (by decide)]
  refine wpAny_bind (PE.map (h A env ρ s he hr d V) fun v s₁ ρ₁ H₁ av x₁ d₁ r₁ h₁ => ?_)
  rw [hw env he]
  refine wpAny_bind (wpAny_pure ?_)
  obtain ⟨j, x, y, rfl, hj, h₁⟩ := h₁
  obtain ⟨ad, ha, rfl⟩ := r₁
  obtain ⟨a', ha', xo⟩ := d₁.at hj
  rw [ha] at ha'; cases ha'
  obtain ⟨vs, ht, hvs⟩ := xo.isTuple
  have hlen := hvs.length
  cases hvs with
  | @cons _ vx _ _ hx hvs =>
  cases hvs with
  | @cons _ vy _ _ hy hvs =>
  cases hvs
  show wpAny G.M A (do rule "assign.swapped-stores"; let items ← unpackItems (.ref ad) [a, b].length none; assignInOrder ([a, b].reverse.map fun n => bindName env n) items.reverse; pure Flow.next) _ _ _
  refine wpAny_bind (wpAny_rule (wpAny_bind ?_))
  have z := wpAny_unpackItems_tuple (prog := G.prog) (w := G.w) (A := A) (E := NoE) (Q := fun items s' => wpAny G.M A (do assignInOrder ([a, b].reverse.map fun n => bindName env n) items.reverse; pure Flow.next) (PX G env ρ s Q) NoE s') hr.handled ht
  refine z fun h' hx' => ?_
  have st : Stp [] ρ₁ s₁ ρ₁ { s₁ with heap := h' } := Stp.keeps (tk := s₁.toks) (ext_keeps hx')
  show wpAny G.M A ((holding [vx] (bindName env b vy) >>= fun _ => (holding [] (bindName env a vx) >>= fun _ => pure ())) >>= fun _ => pure Flow.next) _ _ _
  refine wpAny_bind (wpAny_bind (wpAny_holding (wpAny_bindName (wpAny_mono (h₁ A env ρ₁ _ vy he hr (d₁.keeps (ext_keeps hx')) (V.stepE (x₁.trans st)) hy) (fun _ s₂ hP => ?_) fun _ _ q => q))))
  obtain ⟨ρ₂, H₂, m₂, x₂, d₂, V₂, h₂⟩ := hP
  refine wpAny_bind (wpAny_holding (wpAny_bindName (wpAny_mono (h₂ A env ρ₂ s₂ vx he hr d₂ V₂ (x₂.vr hx)) (fun _ s₃ hP => ?_) fun _ _ q => q)))
  obtain ⟨ρ₃, H₃, m₃, x₃, d₃, V₃, h₃⟩ := hP
  exact wpAny_pure (wpAny_pure ⟨ρ₃, H₃, m₃, .next, (((x₁.trans st).wide).trans x₂).trans x₃, d₃, V₃, rfl, h₃⟩)

theorem Ex.aug {x : Str} {v₀ : AV} {p pos : Pos} {op : Operator} {value : Expr} {Q : AF → Vars → List AO → Prop} (hm : m.lookup x = some v₀) (hl : sc.names.lookup x = some .local)
    (h : Ev G k sc value m H fun v H₁ => Op G k (op2 (inplaceOp op)) [v₀, v] H₁ fun r H₂ => Q .next ((x, r) :: m) H₂) (hok : NameOk x := by decide) : Ex G k sc (.AugAssign (.Name x p) op value pos) m H Q := by
  intro A env ρ s he hr d V
  obtain ⟨mc, hn, hv⟩ := V.ns
  have hl' : env.kindOf x = some .local := by unfold Env.kindOf; rw [he.scope]; exact hl
  obtain ⟨cv, q1, q2⟩ := hv x v₀ hm hl'
  refine wpAny_AugAssign_Name (wpAny_loadName_local (by rw [he.scope]; exact he.kind) hl' hn q1 ?_)
  refine PE.map (h A env ρ s he hr d V) fun v s₁ ρ₁ H₁ av x₁ d₁ r₁ h₁ => ?_
  refine PE.map (h₁ A ρ₁ s₁ [cv, v] hr d₁ (.cons (x₁.vr q2) (.cons r₁ .nil))) fun r s₂ ρ₂ H₂ ar x₂ d₂ r₂ h₂ => ?_
  have z := Sn.local (G := G) (k := k) (H := H₂) (m := m) (v := ar) (Q := fun m' H' => Q .next m' H') hl h₂ hok A env ρ₂ s₂ r he hr d₂ (V.stepE (x₁.trans x₂)) r₂
  refine wpAny_mono z (fun _ s₃ hP => ?_) fun _ _ q => q.elim
  obtain ⟨ρ₃, H₃, m₃, x₃, d₃, V₃, h₃⟩ := hP
  exact ⟨ρ₃, H₃, m₃, .next, ((x₁.trans x₂).wide).trans x₃, d₃, V₃, rfl, h₃⟩
theorem Ex.augSub {o i value : Expr} {tpos pos : Pos} {op : Operator} {Q : AF → Vars → List AO → Prop}
    (h : Ev G k sc o m H fun ov H₁ => Ev G k sc i m H₁ fun iv H₂ => Op G k (op2 getItem) [ov, iv] H₂ fun old H₃ => Ev G k sc value m H₃ fun v H₄ => Op G k (op2 (inplaceOp op)) [old, v] H₄ fun new H₅ =>
      OpU G k (op3 setItem) [ov, iv, new] H₅ fun H₆ => Q .next m H₆)
    (hi : ∀ ov iv new, augStore i ov iv new = (do holding [new, ov, iv] (setItem ov iv new); release [new, ov, iv] []; pure .next) := by intros; rfl) :
    Ex G k sc (.AugAssign (.Subscript o i tpos) op value pos) m H Q := by
  intro A env ρ s he hr d V
  refine wpAny_AugAssign_SubscriptAny ?_ hi
  refine PE.map (h A env ρ s he hr d V) fun vo s₁ ρ₁ H₁ ov x₁ d₁ r₁ h₁ => ?_
  refine PE.map (h₁ A env ρ₁ s₁ he hr d₁ (V.stepE x₁)) fun vi s₂ ρ₂ H₂ iv x₂ d₂ r₂ h₂ => ?_
  refine PE.map (h₂ A ρ₂ s₂ [vo, vi] hr d₂ (.cons (x₂.vr r₁) (.cons r₂ .nil))) fun vold s₃ ρ₃ H₃ old x₃ d₃ r₃ h₃ => ?_
  have x13 := (x₁.trans x₂).trans x₃
  refine PE.map (h₃ A env ρ₃ s₃ he hr d₃ (V.stepE x13)) fun vv s₄ ρ₄ H₄ v x₄ d₄ r₄ h₄ => ?_
  refine PE.map (h₄ A ρ₄ s₄ [vold, vv] hr d₄ (.cons (x₄.vr r₃) (.cons r₄ .nil))) fun vn s₅ ρ₅ H₅ new x₅ d₅ r₅ h₅ => ?_
  have x35 := (x₃.trans x₄).trans x₅
  refine wpAny_mono (h₅ A ρ₅ s₅ [vo, vi, vn] hr d₅ (.cons (x35.vr (x₂.vr r₁)) (.cons (x35.vr r₂) (.cons r₅ .nil)))) (fun _ s₆ hP => ?_) fun _ _ q => q.elim
  obtain ⟨ρ₆, H₆, x₆, d₆, h₆⟩ := hP
  have x16 := (((x13.trans x₄).trans x₅).trans x₆)
  exact ⟨ρ₆, H₆, m, .next, x16.wide, d₆, V.stepE x16, rfl, h₆⟩

theorem interactive_no {env : Env} (he : EnvOK sc env) : interactive env = false := by unfold interactive; rw [he.scope, he.kind]; rfl
theorem Ex.expr {e : Expr} {pos : Pos} {Q : AF → Vars → List AO → Prop} (h : Ev G k sc e m H fun _ H₁ => Q .next m H₁)
    (hs : ∀ env, swapsWith e none pos.line env = pure false := by intro _; rfl) :
    Ex G k sc (.Expr e pos) m H Q := by
  intro A env ρ s he hr d V
  refine wpAny_Expr_any (PE.map (h A env ρ s he hr d V) fun v s₁ ρ₁ H₁ av x₁ d₁ r₁ h₁ => ?_) (interactive_no he) (hs env)
  exact ⟨ρ₁, H₁, m, .next, x₁.wide, d₁, V.stepE x₁, rfl, h₁⟩

theorem tup_names {a b : Str} {pa pb : Pos} : ∀ t ∈ [Expr.Name a pa, Expr.Name b pb], ∀ (e : Expr) (p : Pos), t ≠ .Starred e p := by
  rintro _ ht e p rfl; simp at ht
theorem tup_names3 {a b c : Str} {pa pb pc : Pos} : ∀ t ∈ [Expr.Name a pa, Expr.Name b pb, Expr.Name c pc], ∀ (e : Expr) (p : Pos), t ≠ .Starred e p := by
  rintro _ ht e p rfl; simp at ht
end Mine
end
section
open PySem PySem.W PyProof.Rows
set_option maxRecDepth 100000
namespace Mine
variable {G : Gl} {k : Nat} {sc : Scope} {m : Vars} {H : List AO}

/- while -/
noncomputable def Wh (G : Gl) (k : Nat) (sc : Scope) (test : Expr) (body : List Stmt) (m : Vars) (H : List AO) (Q : AF → Vars → List AO → Prop) : Prop :=
  ∀ A env ρ s, EnvOK sc env → Rm k A → Wd G ρ H s → Vr G ρ env m s → codeAny G.M A (.whileLoop test body [] env) (fun r s' => ∃ f, r = .ok f ∧ PX G env ρ s Q f s') s
theorem Ex.while {test : Expr} {body : List Stmt} {pos : Pos} {Q : AF → Vars → List AO → Prop} (h : Wh G k sc test body m H Q) : Ex G k sc (.While test body [] pos) m H Q :=
  fun A env ρ s he hr d V => wpAny_While (codeAny_mono (h A env ρ s he hr d V) fun r s' ⟨f, e, x⟩ => by subst e; exact x)

theorem noted_no {A : Around} {env : Env} {e : Value} {s : Shared} {E : Value → Shared → Prop} (h : NoE e s) : notedBy G.M A env E e s := h.elim

theorem Wh.less {test : Expr} {body : List Stmt} {Q : AF → Vars → List AO → Prop} {m' : Vars} (h : Wh G k sc test body m' H Q) (hm : ∀ x v, m'.lookup x = some v → m.lookup x = some v) : Wh G k sc test body m H Q :=
  fun A env ρ s he hr d V => h A env ρ s he hr d (V.less hm)

theorem Wh.step {test : Expr} {body : List Stmt} {Q : AF → Vars → List AO → Prop}
    (h : Ts G k sc test m H fun b H₁ => (b = true → Exs G k sc body m H₁ fun f m₂ H₂ => match f with
        | .next => Wh G k sc test body m₂ H₂ Q
        | .cont => Wh G k sc test body m₂ H₂ Q
        | .brk => Q .next m₂ H₂
        | .ret v => Q (.ret v) m₂ H₂) ∧ (b = false → Q .next m H₁)) : Wh G k sc test body m H Q := by
  intro A env ρ s he hr d V
  refine codeAny_of_tree ?_
  rw [Around.under_of_weight (c := .whileLoop test body [] env) rfl rfl]
  show wpAny G.M A ((whileTurn test body [] env).onRaise (fun x => do noteFrame x env; theTreesLotGoes x)) _ _ s
  refine wpAny_noted ?_
  simp only [whileTurn]
  refine wpAny_bind (wpAny_mono (h A env ρ s he hr d V) (fun b s₁ hP => ?_) fun _ _ q => noted_no q)
  obtain ⟨ρ₁, H₁, x₁, d₁, h₁⟩ := hP
  cases b with
  | false =>
    simp only [Bool.false_eq_true, if_false]
    exact wpAny_bind (wpAny_execs_nil (wpAny_pure ⟨.next, rfl, ρ₁, H₁, m, .next, x₁.wide, d₁, V.stepE x₁, rfl, h₁.2 rfl⟩))
  | true =>
    simp only [if_true]
    refine wpAny_bind (wpAny_mono (h₁.1 rfl A env ρ₁ s₁ he hr d₁ (V.stepE x₁)) (fun f s₂ hP => ?_) fun _ _ q => noted_no q)
    obtain ⟨ρ₂, H₂, m₂, af, x₂, d₂, V₂, hf, h₂⟩ := hP
    have x12 : Stp (own env) ρ s ρ₂ s₂ := x₁.wide.trans x₂
    have on : Wh G k sc test body m₂ H₂ Q → codeAny G.M A (.whileLoop test body [] env) (fun r s' => ∃ f, r = .ok f ∧ PX G env ρ s Q f s') s₂ := fun w =>
      codeAny_mono (w A env ρ₂ s₂ he hr d₂ V₂) fun r s' ⟨f, e, ρ', H', m', af', y1, y2, y3, y4, y5⟩ => ⟨f, e, ρ', H', m', af', x12.trans y1, y2, y3, y4, y5⟩
    cases af with
    | next => cases hf; exact wpAny_pure ⟨rfl, on h₂⟩
    | cont => cases hf; exact wpAny_pure ⟨rfl, on h₂⟩
    | brk => cases hf; exact wpAny_pure ⟨.next, rfl, ρ₂, H₂, m₂, .next, x12, d₂, V₂, rfl, h₂⟩
    | ret v => obtain ⟨cv, rfl, hv⟩ := hf; exact wpAny_pure ⟨.ret cv, rfl, ρ₂, H₂, m₂, .ret v, x12, d₂, V₂, ⟨cv, rfl, hv⟩, h₂⟩

theorem Stp.none_back {W ρ₀ ρ : List Addr} {s₀ s : Shared} (x : Stp W ρ₀ s₀ ρ s) {a : Addr} (h : s.heap.get? a = none) : s₀.heap.get? a = none := by
  cases e : s₀.heap.get? a with
  | none => rfl
  | some o => obtain ⟨o', e'⟩ := x.alive _ o e; rw [h] at e'; cases e'

theorem for_turn {A : Around} {target : Expr} {I : Addr} {body : List Stmt} {env : Env} {R : Result → Shared → Prop} {s : Shared}
    (h : wpAny G.M A (pyNext (.ref I)) (fun r s₁ => match r with
      | none => R (.ok .next) s₁
      | some v => wpAny G.M A (letOwnedTupleGo target (.ref I) v) (fun _ s₁' => wpAny G.M A (assign target env v) (fun _ s₂ => wpAny G.M A (execs body env) (fun f s₃ => match f with
          | .next => codeAny G.M A (.forLoop target (.ref I) body [] env) R s₃
          | .cont => codeAny G.M A (.forLoop target (.ref I) body [] env) R s₃
          | .brk => R (.ok .next) s₃
          | .ret v => R (.ok (.ret v)) s₃) NoE s₂) NoE s₁') NoE s₁) NoE s) : codeAny G.M A (.forLoop target (.ref I) body [] env) R s := by
  refine codeAny_of_tree ?_
  rw [Around.under_of_weight (c := .forLoop target (.ref I) body [] env) rfl rfl]
  show wpAny G.M A ((forTurn target (.ref I) body [] env).onRaise (fun x => do noteFrame x env; theTreesLotGoes x)) _ _ s
  refine wpAny_noted ?_
  simp only [forTurn]
  refine wpAny_bind (wpAny_standAt (wpAny_bind (wpAny_onRaise (wpAny_mono h (fun r s₁ h₁ => ?_) fun _ _ q => q.elim))))
  cases r with
  | none => exact wpAny_pure ⟨rfl, codeAny_block (wpAny_execs_nil h₁)⟩
  | some v =>
    refine wpAny_bind (wpAny_mono h₁ (fun _ s₁' h₁' => ?_) fun _ _ q => q.elim)
    refine wpAny_bind (wpAny_mono h₁' (fun _ s₂ h₂ => ?_) fun _ _ q => q.elim)
    refine wpAny_bind (wpAny_mono h₂ (fun f s₃ h₃ => ?_) fun _ _ q => q.elim)
    cases f with
    | next => exact wpAny_pure ⟨rfl, h₃⟩
    | cont => exact wpAny_pure ⟨rfl, h₃⟩
    | brk => exact wpAny_pure h₃
    | ret v => exact wpAny_pure h₃

inductive AtL (H : List AO) (v : AV) (Q : Nat → Prop) : Prop
  | mk (kl : Nat) (ys : List AV) (e : v = .ref kl) (h : H[kl]? = some (.list ys)) (q : Q kl)
inductive AtR (H : List AO) (v : AV) (Q : Int → Int → Int → Prop) : Prop
  | mk (kr : Nat) (a b c : Int) (e : v = .ref kr) (h : H[kr]? = some (.rng a b c)) (q : Q a b c)
@[reducible] noncomputable def TurnEnd (Q : AF → Vars → List AO → Prop) (on : Vars → List AO → Prop) : AF → Vars → List AO → Prop
  | .next, m, H => on m H
  | .cont, m, H => on m H
  | .brk, m, H => Q .next m H
  | .ret v, m, H => Q (.ret v) m H

theorem Wd.base_none {ρ : List Addr} {s : Shared} (d : Wd G ρ H s) {a : Addr} (h : s.heap.get? a = none) : G.h₀.get? a = none := by
  cases e : G.h₀.get? a with
  | none => rfl
  | some o => rw [d.base a o e] at h; cases h
theorem Wd.nin_none {ρ : List Addr} {s : Shared} (d : Wd G ρ H s) {a : Addr} (h : s.heap.get? a = none) : a ∉ ρ := fun hm => by
  obtain ⟨o, e⟩ := d.alive hm; rw [h] at e; cases e


/- hidden addresses turn -/
theorem Wd.hids {ρ : List Addr} {s : Shared} (d : Wd G ρ H s) {s' : Shared} {hs : List Addr} (hk : ∀ b o, s.heap.get? b = some o → b ∉ hs → s'.heap.get? b = some o) (ha : ∀ a ∈ hs, G.h₀.get? a = none) (hin : ∀ a ∈ hs, a ∉ ρ)
    (hq : ∀ a ∈ hs, ∀ o items n, s.heap.get? a = some o → o.data ≠ .seq items n) : Wd G ρ H s' := by
  refine ⟨fun b o e => hk b o (d.base b o e) fun q => ?_, d.len, d.nodup, d.fresh, fun j ao a' h1 h2 => ?_⟩
  · rw [ha b q] at e; cases e
  · have ne : a' ∉ hs := fun e => hin a' e (List.mem_of_getElem? h2)
    have z := d.obj j ao a' h1 h2
    cases ao with
    | dict es =>
      obtain ⟨xs, ⟨o, es', ep, ho, h1, h2, h3, h4, h5⟩, hn, hd⟩ := z
      refine ⟨xs, ⟨o, es', ep, hk _ _ ho ne, h1, h2, h3, fun y hy => ?_, h5⟩, hn, hd⟩
      obtain ⟨o', items, n, q1, q2, q3, q4⟩ := h4 y hy
      exact ⟨o', items, n, hk _ _ q1 (fun e => hq _ e o' items n q1 q3), q2, q3, q4⟩
    | list xs => obtain ⟨vs, n, h1, h2⟩ := z; exact ⟨vs, n, hk _ _ h1 ne, h2⟩
    | tup xs => obtain ⟨vs, n, h1, h2⟩ := z; exact ⟨vs, n, hk _ _ h1 ne, h2⟩
    | rng => obtain ⟨t, u, v, e⟩ := z; exact ⟨t, u, v, hk _ _ e ne⟩

theorem Wd.hidPush {ρ : List Addr} {s : Shared} (d : Wd G ρ H s) {s' : Shared} {hs : List Addr} {T : Addr} {ao : AO} (keep : ∀ b o, s.heap.get? b = some o → b ∉ hs → s'.heap.get? b = some o) (hb : ∀ a ∈ hs, G.h₀.get? a = none) (hn : ∀ a ∈ hs, a ∉ ρ)
    (hq : ∀ a ∈ hs, ∀ o items n, s.heap.get? a = some o → o.data ≠ .seq items n) (hnew : s.heap.get? T = none) (hT : OR G (ρ ++ [T]) s'.heap T ao) : Wd G (ρ ++ [T]) (H ++ [ao]) s' := by
  have nin := d.nin_none hnew
  have d1 := d.hids keep hb hn hq
  refine ⟨d1.base, by simp [d.len], ?_, fun b hb' => ?_, fun k' ao' a' e1 e2 => ?_⟩
  · refine List.nodup_append.mpr ⟨d.nodup, by simp, fun x hx y hy => ?_⟩
    simp at hy; subst hy; exact fun e => nin (e ▸ hx)
  · rcases List.mem_append.mp hb' with q | q
    · exact d.fresh b q
    · simp at q; subst q; exact d.base_none hnew
  · rcases Nat.lt_trichotomy k' H.length with q | q | q
    · rw [List.getElem?_append_left q] at e1
      rw [List.getElem?_append_left (by rw [d.len]; exact q)] at e2
      have old := (d.obj k' ao' a' e1 e2).step (l := [T]) (h' := s.heap) (by simpa using hnew) (fun o e => e) (fun b o e _ => e)
      have aalive : a' ∉ hs := fun hm => hn a' hm (List.mem_of_getElem? e2)
      cases ao' with
      | dict es =>
        obtain ⟨xs, ⟨o, es', ep, ho, g1, g2, g3, g4, g5⟩, hn', hd⟩ := old
        refine ⟨xs, ⟨o, es', ep, keep _ _ ho aalive, g1, g2, g3, fun y hy => ?_, g5⟩, hn', hd⟩
        obtain ⟨o', items, n, p1, p2, p3, p4⟩ := g4 y hy
        exact ⟨o', items, n, keep _ _ p1 (fun e => hq _ e o' items n p1 p3), p2, p3, p4⟩
      | list xs => obtain ⟨vs, n, g1, g2⟩ := old; exact ⟨vs, n, keep _ _ g1 aalive, g2⟩
      | tup xs => obtain ⟨vs, n, g1, g2⟩ := old; exact ⟨vs, n, keep _ _ g1 aalive, g2⟩
      | rng => obtain ⟨t, u, v, g1⟩ := old; exact ⟨t, u, v, keep _ _ g1 aalive⟩
    · subst q
      simp at e1; subst e1
      rw [← d.len] at e2; simp at e2; subst e2
      exact hT
    · rw [List.getElem?_append_right (by lia)] at e1
      have : k' - H.length ≠ 0 := by lia
      obtain ⟨j', hj'⟩ := Nat.exists_eq_succ_of_ne_zero this
      rw [hj'] at e1; simp at e1
/- iterators: a hidden state; g: the one generator that is alive -/
noncomputable abbrev ItP := Around → List Addr → Shared → Addr → List Addr → Option Nat → Prop
noncomputable def GX (g : Option Nat) (a b : Array GenState) : Prop := ∃ ex : List GenState, b.toList = a.toList ++ ex ∧ ∀ i x, ex[i]? = some x → some (a.size + i) ≠ g → x = .finished
structure StpX (g : Option Nat) (W : List Addr) (ρ : List Addr) (s : Shared) (ρ' : List Addr) (s' : Shared) : Prop where
  ext : ∃ l, ρ' = ρ ++ l ∧ ∀ a ∈ l, s.heap.get? a = none
  keep : ∀ b o, s.heap.get? b = some o → b ∉ ρ → b ∉ W → s'.heap.get? b = some o
  alive : ∀ b o, s.heap.get? b = some o → ∃ o', s'.heap.get? b = some o'
  gens : GX g s.gens s'.gens
  os : s'.os = s.os
structure HSt (g : Option Nat) (hs : List Addr) (ρ : List Addr) (s : Shared) (ρ' : List Addr) (s' : Shared) : Prop where
  ext : ∃ l, ρ' = ρ ++ l ∧ ∀ a ∈ l, s.heap.get? a = none
  keep : ∀ b o, s.heap.get? b = some o → b ∉ hs → s'.heap.get? b = some o
  gens : s.gens.size ≤ s'.gens.size ∧ ∀ i x, s'.gens[i]? = some x → some i ≠ g → s.gens[i]? = some x ∨ (s.gens.size ≤ i ∧ x = .finished)
  os : s'.os = s.os
structure HidS (G : Gl) (s₀ : Shared) (ρ : List Addr) (W : List Addr) (hs : List Addr) (g : Option Nat) : Prop where
  new : ∀ a ∈ hs, s₀.heap.get? a = none
  nin : ∀ a ∈ hs, a ∉ ρ
  own : ∀ a ∈ hs, a ∉ W
  base : ∀ a ∈ hs, G.h₀.get? a = none
  gnew : ∀ n, g = some n → s₀.gens.size ≤ n

theorem Stp.x {g : Option Nat} {W ρ ρ' : List Addr} {s s' : Shared} (x : Stp W ρ s ρ' s') : StpX g W ρ s ρ' s' := by
  obtain ⟨ex, h1, h2⟩ := x.gens
  exact ⟨x.ext, x.keep, x.alive, ⟨ex, h1, fun i y hy _ => h2 y (List.mem_of_getElem? hy)⟩, x.os⟩
theorem StpX.mono {g : Option Nat} {W W' ρ ρ' : List Addr} {s s' : Shared} (x : StpX g W ρ s ρ' s') (h : ∀ a ∈ W, a ∈ W') : StpX g W' ρ s ρ' s' :=
  ⟨x.ext, fun b o e h1 h2 => x.keep b o e h1 fun hb => h2 (h b hb), x.alive, x.gens, x.os⟩
theorem ext_trans {ρ ρ₁ ρ₂ : List Addr} {s s₁ : Shared} (x : ∃ l, ρ₁ = ρ ++ l ∧ ∀ a ∈ l, s.heap.get? a = none) (ha : ∀ b o, s.heap.get? b = some o → ∃ o', s₁.heap.get? b = some o')
    (y : ∃ l, ρ₂ = ρ₁ ++ l ∧ ∀ a ∈ l, s₁.heap.get? a = none) : ∃ l, ρ₂ = ρ ++ l ∧ ∀ a ∈ l, s.heap.get? a = none := by
  obtain ⟨l, rfl, hl⟩ := x
  obtain ⟨l', rfl, hl'⟩ := y
  refine ⟨l ++ l', by simp, fun a h => ?_⟩
  rcases List.mem_append.mp h with h | h
  · exact hl a h
  · cases q : s.heap.get? a with
    | none => rfl
    | some o => obtain ⟨o', e'⟩ := ha a o q; rw [hl' a h] at e'; cases e'
theorem ext_notin {ρ ρ' : List Addr} {s : Shared} (x : ∃ l, ρ' = ρ ++ l ∧ ∀ a ∈ l, s.heap.get? a = none) {a : Addr} {o : Obj} (h : a ∉ ρ) (e : s.heap.get? a = some o) : a ∉ ρ' := by
  obtain ⟨l, rfl, hl⟩ := x
  intro hm
  rcases List.mem_append.mp hm with q | q
  · exact h q
  · rw [hl a q] at e; cases e
theorem StpX.step {g : Option Nat} {W ρ ρ₁ ρ₂ : List Addr} {s s₁ s₂ : Shared} (x : StpX g W ρ s ρ₁ s₁) (y : Stp W ρ₁ s₁ ρ₂ s₂) : StpX g W ρ s ρ₂ s₂ := by
  refine ⟨ext_trans x.ext x.alive y.ext, fun b o e h1 h2 => y.keep b o (x.keep b o e h1 h2) (ext_notin x.ext h1 e) h2, fun b o e => ?_, ?_, y.os.trans x.os⟩
  · obtain ⟨o', e'⟩ := x.alive b o e; exact y.alive b o' e'
  · obtain ⟨ex, h1, h2⟩ := x.gens
    obtain ⟨ex', h3, h4⟩ := y.gens
    refine ⟨ex ++ ex', by rw [h3, h1]; simp, fun i z hz hg => ?_⟩
    by_cases q : i < ex.length
    · rw [List.getElem?_append_left q] at hz; exact h2 i z hz hg
    · rw [List.getElem?_append_right (by lia)] at hz; exact h4 z (List.mem_of_getElem? hz)
theorem StpX.hid {g : Option Nat} {W ρ ρ₁ ρ₂ hs : List Addr} {s s₁ s₂ : Shared} (x : StpX g W ρ s ρ₁ s₁) (y : HSt g hs ρ₁ s₁ ρ₂ s₂) (hn : ∀ a ∈ hs, s.heap.get? a = none) (hg : ∀ n, g = some n → s.gens.size ≤ n) : StpX g W ρ s ρ₂ s₂ := by
  refine ⟨ext_trans x.ext x.alive y.ext, fun b o e h1 h2 => y.keep b o (x.keep b o e h1 h2) fun q => ?_, fun b o e => ?_, ?_, y.os.trans x.os⟩
  · rw [hn b q] at e; cases e
  · obtain ⟨o', e'⟩ := x.alive b o e; exact ⟨o', y.keep b o' e' fun q => by rw [hn b q] at e; cases e⟩
  · obtain ⟨ex, h1, h2⟩ := x.gens
    obtain ⟨h3, h4⟩ := y.gens
    have hsz : s₁.gens.size = s.gens.size + ex.length := by rw [← Array.length_toList, h1]; simp
    refine ⟨s₂.gens.toList.drop s.gens.size, ?_, fun i z hz hgi => ?_⟩
    · apply List.ext_getElem?
      intro i
      have h5 : s.gens.toList.length = s.gens.size := by simp
      by_cases q : i < s.gens.size
      · have e2 : s₁.gens.toList[i]? = s.gens.toList[i]? := by rw [h1, List.getElem?_append_left (by simpa using q)]
        have e1 : s₂.gens[i]? = s₁.gens[i]? := by
          have hlt : i < s₂.gens.size := by lia
          rcases h4 i _ (Array.getElem?_eq_getElem hlt) (fun e => by have := hg i e.symm; lia) with r | r
          · rw [Array.getElem?_eq_getElem hlt, r]
          · lia
        rw [List.getElem?_append_left (by lia), ← e2]
        simpa using e1
      · rw [List.getElem?_append_right (by lia), List.getElem?_drop, h5, Nat.add_sub_cancel' (by lia)]
    · rw [List.getElem?_drop] at hz
      rcases h4 (s.gens.size + i) z (by simpa using hz) hgi with r | r
      · have e2 : s₁.gens.toList[s.gens.size + i]? = some z := by simpa using r
        rw [h1, List.getElem?_append_right (by simp)] at e2
        exact h2 i z (by simpa using e2) hgi
      · exact r.2
theorem StpX.fin {g : Option Nat} {W ρ ρ' : List Addr} {s s' : Shared} (x : StpX g W ρ s ρ' s') (h : ∀ n, g = some n → s'.gens[n]? = some .finished) : Stp W ρ s ρ' s' := by
  obtain ⟨ex, h1, h2⟩ := x.gens
  refine ⟨x.ext, x.keep, x.alive, ⟨ex, h1, fun y hy => ?_⟩, x.os⟩
  obtain ⟨i, hi, rfl⟩ := List.getElem_of_mem hy
  by_cases q : some (s.gens.size + i) = g
  · have e := h _ q.symm
    have e2 : s'.gens.toList[s.gens.size + i]? = some .finished := by simpa using e
    rw [h1, List.getElem?_append_right (by simp)] at e2
    have e3 : ex[i]? = some .finished := by simpa using e2
    rw [List.getElem?_eq_getElem hi] at e3; exact Option.some.inj e3
  · exact h2 i _ (List.getElem?_eq_getElem hi) q

structure Pers (G : Gl) (P : ItP) : Prop where
  step : ∀ A W ρ s ρ' s' I hs g, Stp W ρ s ρ' s' → (∀ a ∈ hs, a ∉ ρ ∧ a ∉ W) → P A ρ s I hs g → P A ρ' s' I hs g
  live : ∀ A ρ s I hs g, P A ρ s I hs g → ∀ a ∈ hs, ∃ o, s.heap.get? a = some o
  self : ∀ A ρ s I hs g (Q : Value → Shared → Prop), P A ρ s I hs g → Q (.ref I) s → wpAny G.M A (pyIter (.ref I)) Q NoE s

inductive NxE (G : Gl) (H : List AO) (ρ : List Addr) (s : Shared) (hs : List Addr) (g : Option Nat) (r : Option Value) (s' : Shared) : Prop
  | mk (e : r = none) (x : HSt g hs ρ s ρ s') (d : Wd G ρ H s') (f : ∀ n, g = some n → s'.gens[n]? = some .finished)
inductive NxT (G : Gl) (P' : ItP) (H' : List AO) (v : AV) (A : Around) (ρ : List Addr) (s : Shared) (I : Addr) (hs : List Addr) (g : Option Nat) (cv : Value) (u : Unit) (s' : Shared) : Prop
  | mk (ρ' : List Addr) (hs' : List Addr) (x : HSt g hs ρ s ρ' s') (d : Wd G ρ' H' s') (r : VR ρ' v cv) (p : P' A ρ' s' I hs' g) (n : ∀ a ∈ hs', a ∉ ρ' ∧ (a ∈ hs ∨ s.heap.get? a = none))
inductive NxI (G : Gl) (target : Expr) (P' : ItP) (H' : List AO) (v : AV) (A : Around) (ρ : List Addr) (s : Shared) (I : Addr) (hs : List Addr) (g : Option Nat) (r : Option Value) (s₁ : Shared) : Prop
  | mk (cv : Value) (e : r = some cv) (w : wpAny G.M A (letOwnedTupleGo target (.ref I) cv) (NxT G P' H' v A ρ s I hs g cv) NoE s₁)
inductive ItNP (G : Gl) (A : Around) (ρ : List Addr) (s : Shared) (K : ItP → List AO → Prop) (it : Value) (s₂ : Shared) : Prop
  | mk (ρ' : List Addr) (H' : List AO) (I : Addr) (hs : List Addr) (g : Option Nat) (P : ItP) (e : it = .ref I) (x : StpX g [] ρ s ρ' s₂) (d : Wd G ρ' H' s₂) (n : ∀ a ∈ hs, s.heap.get? a = none ∧ a ∉ ρ' ∧ G.h₀.get? a = none) (gn : ∀ n, g = some n → s.gens.size ≤ n) (p : P A ρ' s₂ I hs g) (ps : Pers G P) (k : K P H')
noncomputable def NxEnd (G : Gl) (k : Nat) (P : ItP) (H : List AO) : Prop := ∀ A ρ s I hs g, Rm k A → Wd G ρ H s → P A ρ s I hs g → (∀ a ∈ hs, a ∉ ρ) → (∀ a ∈ hs, G.h₀.get? a = none) →
  wpAny G.M A (pyNext (.ref I)) (NxE G H ρ s hs g) NoE s
noncomputable def NxItem (G : Gl) (k : Nat) (target : Expr) (P P' : ItP) (H H' : List AO) (v : AV) : Prop := ∀ A ρ s I hs g, Rm k A → Wd G ρ H s → P A ρ s I hs g → (∀ a ∈ hs, a ∉ ρ) → (∀ a ∈ hs, G.h₀.get? a = none) →
  wpAny G.M A (pyNext (.ref I)) (NxI G target P' H' v A ρ s I hs g) NoE s
theorem Vr.hid {ρ ρ' hs : List Addr} {g : Option Nat} {env : Env} {s s' : Shared} (V : Vr G ρ env m s) (x : HSt g hs ρ s ρ' s') (hI : ∀ a ∈ hs, a ∉ alls env) : Vr G ρ' env m s' := by
  obtain ⟨mc, ⟨o, es, ep, ho, hd, hk, hf⟩, hv⟩ := V.ns
  have up : ∀ {av : AV} {v : Value}, VR ρ av v → VR ρ' av v := fun h => by obtain ⟨l, rfl, _⟩ := x.ext; exact h.mono
  refine ⟨V.lfresh, ext_notin x.ext V.lnin ho, ⟨mc, ⟨o, es, ep, x.keep _ _ ho (fun q => hI _ q (.head _)), hd, hk, hf⟩, fun y v h1 h2 => ?_⟩, fun y c hc => ?_, V.has, V.inj, V.keys⟩
  · obtain ⟨cv, q1, q2⟩ := hv y v h1 h2
    exact ⟨cv, q1, up q2⟩
  · obtain ⟨q1, q2, q3, oc, cv, q4, q5, q6⟩ := V.cells y c hc
    refine ⟨ext_notin x.ext q1 q4, q2, q3, oc, cv, x.keep _ _ q4 (fun q => hI _ q (cell_own hc)), q5, fun v h1 h2 => ?_⟩
    obtain ⟨v', r1, r2⟩ := q6 v h1 h2
    exact ⟨v', r1, up r2⟩
theorem Stp.gen {W ρ ρ' : List Addr} {s s' : Shared} (x : Stp W ρ s ρ' s') {n : Nat} {st : GenState} (h : s.gens[n]? = some st) : s'.gens[n]? = some st := by
  obtain ⟨ex, h1, _⟩ := x.gens
  have : s'.gens.toList[n]? = some st := by rw [h1]; exact getElem?_ext (by simpa using h)
  simpa using this

theorem hid_grow {s₀ s : Shared} {ρ ρ₀ ρ' hs hs' : List Addr} {g : Option Nat} {env : Env} (hid : HidS G s₀ ρ (alls env) hs g) (V : Vr G ρ env m s) (d : Wd G ρ H s) (x : StpX g (own env) ρ₀ s₀ ρ s)
    (h : ∀ a ∈ hs', a ∉ ρ' ∧ (a ∈ hs ∨ s.heap.get? a = none)) : HidS G s₀ ρ' (alls env) hs' g := by
  refine ⟨fun a ha => ?_, fun a ha => (h a ha).1, fun a ha => ?_, fun a ha => ?_, hid.gnew⟩
  · rcases (h a ha).2 with q | q
    · exact hid.new a q
    · cases e : s₀.heap.get? a with
      | none => rfl
      | some o => obtain ⟨o', e'⟩ := x.alive _ o e; rw [q] at e'; cases e'
  · rcases (h a ha).2 with q | q
    · exact hid.own a q
    · exact V.own_none q
  · rcases (h a ha).2 with q | q
    · exact hid.base a q
    · exact d.base_none q
/- for -/
noncomputable def FoI (G : Gl) (k : Nat) (sc : Scope) (target : Expr) (body : List Stmt) (P : ItP) (m : Vars) (H : List AO) (Q : AF → Vars → List AO → Prop) : Prop :=
  ∀ A env ρ s I hs g ρ₀ s₀, EnvOK sc env → Rm k A → Wd G ρ H s → Vr G ρ env m s → StpX g (own env) ρ₀ s₀ ρ s → HidS G s₀ ρ (alls env) hs g → P A ρ s I hs g →
    codeAny G.M A (.forLoop target (.ref I) body [] env) (fun r s' => ∃ f, r = .ok f ∧ PX G env ρ₀ s₀ Q f s') s
theorem FoI.less {target : Expr} {body : List Stmt} {P : ItP} {Q : AF → Vars → List AO → Prop} {m' : Vars} (h : FoI G k sc target body P m' H Q) (hm : ∀ x v, m'.lookup x = some v → m.lookup x = some v) : FoI G k sc target body P m H Q :=
  fun A env ρ s I hs g ρ₀ s₀ he hr d V x hid hi => h A env ρ s I hs g ρ₀ s₀ he hr d (V.less hm) x hid hi
theorem FoI.end {target : Expr} {body : List Stmt} {P : ItP} {Q : AF → Vars → List AO → Prop} (hn : NxEnd G k P H) (h : Q .next m H) : FoI G k sc target body P m H Q := by
  intro A env ρ s I hs g ρ₀ s₀ he hr d V x hid hi
  refine for_turn (wpAny_mono (hn A ρ s I hs g hr d hi hid.nin hid.base) (fun r s' hP => ?_) fun _ _ q => q)
  obtain ⟨e, y, d', hf⟩ := hP
  subst e
  exact ⟨.next, rfl, ρ, H, m, .next, (x.hid y hid.new hid.gnew).fin hf, d', V.hid y hid.own, rfl, h⟩
theorem FoI.item {target : Expr} {body : List Stmt} {P P' : ItP} {H' : List AO} {v : AV} {Q : AF → Vars → List AO → Prop} (hn : NxItem G k target P P' H H' v) (hp : Pers G P')
    (h : As G k sc target v m H' fun m₁ H₁ => Exs G k sc body m₁ H₁ fun f m₂ H₂ => match f with
      | .next => FoI G k sc target body P' m₂ H₂ Q
      | .cont => FoI G k sc target body P' m₂ H₂ Q
      | _ => False) : FoI G k sc target body P m H Q := by
  intro A env ρ s I hs g ρ₀ s₀ he hr d V x hid hi
  refine for_turn (wpAny_mono (hn A ρ s I hs g hr d hi hid.nin hid.base) (fun r s₁ hP => ?_) fun _ _ q => q)
  obtain ⟨cv, e, h₁⟩ := hP
  subst e
  refine wpAny_mono h₁ (fun _ s₁ hP => ?_) fun _ _ q => q
  obtain ⟨ρ₁, hs', y, d₁, hv, hi₁, hn₁⟩ := hP
  have hid' := hid_grow hid V d x hn₁
  have V₁ := V.hid y hid.own
  have x₁ := x.hid y hid.new hid.gnew
  refine wpAny_mono (h A env ρ₁ s₁ cv he hr d₁ V₁ hv) (fun _ s₂ hP => ?_) fun _ _ q => q
  obtain ⟨ρ₂, H₂, m₂, x₂, d₂, V₂, h₂⟩ := hP
  refine wpAny_mono (h₂ A env ρ₂ s₂ he hr d₂ V₂) (fun f s₃ hP => ?_) fun _ _ q => q
  obtain ⟨ρ₃, H₃, m₃, af, x₃, d₃, V₃, hf, h₃⟩ := hP
  have x13 := x₂.trans x₃
  have on : FoI G k sc target body P' m₃ H₃ Q → codeAny G.M A (.forLoop target (.ref I) body [] env) (fun r s' => ∃ f, r = .ok f ∧ PX G env ρ₀ s₀ Q f s') s₃ := fun w =>
    w A env ρ₃ s₃ I hs' g ρ₀ s₀ he hr d₃ V₃ (x₁.step x13) ⟨hid'.new, fun a ha => by
      obtain ⟨o, ho⟩ := hp.live _ _ _ _ _ _ hi₁ a ha
      exact x13.notin (hid'.nin a ha) ho, hid'.own, hid'.base, hid'.gnew⟩ (hp.step _ _ _ _ _ _ _ _ _ x13 (fun a ha => ⟨hid'.nin a ha, fun q => hid'.own a ha (own_sub q)⟩) hi₁)
  cases af with
  | next => cases hf; exact on h₃
  | cont => cases hf; exact on h₃
  | brk => exact h₃.elim
  | ret w => exact h₃.elim

noncomputable def ItNew (G : Gl) (k : Nat) (sc : Scope) (iter : Expr) (m : Vars) (H : List AO) (K : ItP → List AO → Prop) : Prop :=
  ∀ A env ρ s, EnvOK sc env → Rm k A → Wd G ρ H s → Vr G ρ env m s → wpAny G.M A (eval iter env) (fun xv s₁ => wpAny G.M A (pyIter xv) (ItNP G A ρ s K) NoE s₁) NoE s

theorem StpX.vr {g : Option Nat} {W ρ ρ' : List Addr} {env : Env} {s s' : Shared} (V : Vr G ρ env m s) (x : StpX g W ρ s ρ' s') (hw : ∀ a ∈ alls env, a ∉ W) : Vr G ρ' env m s' := by
  have key : Stp W ρ s ρ' { s' with gens := s.gens } := ⟨x.ext, x.keep, x.alive, ⟨[], by simp⟩, x.os⟩
  have z := V.step key hw
  exact ⟨z.lfresh, z.lnin, z.ns, fun x c hc => (let ⟨a1, a2, a3, o, cv, a4, a5, a6⟩ := z.cells x c hc; ⟨a1, a2, a3, o, cv, a4, a5, a6⟩), z.has, z.inj, z.keys⟩

theorem Ex.for {target iter : Expr} {body : List Stmt} {pos : Pos} {Q : AF → Vars → List AO → Prop} (h : ItNew G k sc iter m H fun P H₁ => FoI G k sc target body P m H₁ Q)
    (hs : ∀ env x, foldedSetIterable iter env x = pure x := by intro _ _; rfl) : Ex G k sc (.For target iter body [] pos) m H Q := by
  intro A env ρ s he hr d V
  refine wpAny_For (wpAny_mono (h A env ρ s he hr d V) (fun v s₁ h₁ => ?_) fun _ _ q => q.elim) (hs env)
  refine wpAny_mono h₁ (fun it s₂ hP => ?_) fun _ _ q => q.elim
  obtain ⟨ρ₂, H₂, I, hs, g, P, e, x, d₂, hn, hg, hi, _, h₂⟩ := hP
  subst e
  exact codeAny_mono (h₂ A env ρ₂ s₂ I hs g ρ s he hr d₂ (x.vr V (by simp)) (x.mono (by simp)) ⟨fun a ha => (hn a ha).1, fun a ha => (hn a ha).2.1, fun a ha => V.own_none (hn a ha).1, fun a ha => (hn a ha).2.2, hg⟩ hi) fun r s' ⟨f, e, x⟩ => by subst e; exact x

/- a list's items -/
noncomputable def ItL (kl j : Nat) : ItP := fun _ ρ s I hs g => hs = [I] ∧ g = none ∧ ∃ a, ρ[kl]? = some a ∧ s.heap.IsListIter I a j
theorem ItL.pers {kl j : Nat} : Pers G (ItL kl j) where
  step := fun A W ρ s ρ' s' I hs g x hn hP => by
    obtain ⟨e1, e2, a, ha, o, ho, r⟩ := hP
    subst e1
    obtain ⟨l, e, _⟩ := x.ext
    exact ⟨rfl, e2, a, by rw [e]; exact getElem?_ext ha, o, x.keep _ _ ho (hn I (.head _)).1 (hn I (.head _)).2, r⟩
  live := fun A ρ s I hs g hP b hb => by
    obtain ⟨e1, _, a, _, o, ho, _⟩ := hP
    subst e1; simp at hb; subst hb; exact ⟨o, ho⟩
  self := fun A ρ s I hs g Q hP hq => by
    obtain ⟨_, _, a, _, h⟩ := hP
    exact wpAny_pyIter_listiter h hq
theorem HSt.of {hs : List Addr} {ρ : List Addr} {s : Shared} {h' : Heap} {tk : Nat} (hx : ∀ b o, s.heap.get? b = some o → b ∉ hs → h'.get? b = some o) : HSt none hs ρ s ρ { s with heap := h', toks := tk } :=
  ⟨⟨[], by simp⟩, hx, ⟨Nat.le_refl _, fun _ _ e _ => .inl e⟩, rfl⟩
theorem hx1 {I : Addr} {h h' : Heap} (hx : Heap.ExtBut I h h') : ∀ b o, h.get? b = some o → b ∉ [I] → h'.get? b = some o := fun b o e q => hx b o (fun q' => q (by simp [q'])) e
theorem li_seq {I a : Addr} {j : Nat} {s : Shared} (hi : s.heap.IsListIter I a j) : ∀ a' ∈ [I], ∀ o items n, s.heap.get? a' = some o → o.data ≠ .seq items n := fun a' ha' o items n e q => by
  simp at ha'; subst ha'
  obtain ⟨o', ho', _, hd'⟩ := hi; rw [ho'] at e; cases e; rw [hd'] at q; cases q
theorem NxEnd.list {kl j : Nat} {ys : List AV} (hl : H[kl]? = some (.list ys)) (hj : ys.length ≤ j) : NxEnd G k (ItL kl j) H := by
  rintro A ρ s I hs g hr d ⟨rfl, rfl, a, ha, hi⟩ hn hb
  obtain ⟨a', ha', xo⟩ := d.at hl
  rw [ha] at ha'; cases ha'
  obtain ⟨vs, hvl, hvs⟩ := xo.isList
  refine wpAny_pyNext_list_end hr.handled hi hvl (by rw [List.getElem?_toArray]; exact List.getElem?_eq_none (by rw [hvs.length]; exact hj)) fun h' hx => ?_
  exact ⟨rfl, HSt.of (tk := s.toks) (hx1 hx), d.hids (s' := { s with heap := h' }) (hx1 hx) hb hn (li_seq hi), fun n e => by cases e⟩
theorem NxItem.list {target : Expr} {kl j : Nat} {ys : List AV} {y : AV} (hl : H[kl]? = some (.list ys)) (hj : ys[j]? = some y)
    (ht : ∀ I v s Q' E A, (∃ a, s.heap.IsListIter I a (j + 1)) → Q' () s → wpAny G.M A (letOwnedTupleGo target (.ref I) v) Q' E s := by intro _ _ _ _ _ _ _ h; exact wpAny_pure h) :
    NxItem G k target (ItL kl j) (ItL kl (j + 1)) H H y := by
  rintro A ρ s I hs g hr d ⟨rfl, rfl, a, ha, hi⟩ hn hb
  obtain ⟨a', ha', xo⟩ := d.at hl
  rw [ha] at ha'; cases ha'
  obtain ⟨vs, hvl, hvs⟩ := xo.isList
  obtain ⟨v, hv1, hv2⟩ := hvs.get hj
  refine wpAny_pyNext_list_item hi hvl (x := v) (by rw [List.getElem?_toArray]; exact hv1) fun h' hi' hs => ?_
  have hx : Heap.ExtBut I s.heap h' := hs.extBut
  exact ⟨v, rfl, ht I v _ _ _ _ ⟨a, hi'⟩ ⟨ρ, [I], HSt.of (tk := s.toks) (hx1 hx), d.hids (s' := { s with heap := h' }) (hx1 hx) hb hn (li_seq hi), hv2, ⟨rfl, rfl, a, ha, hi'⟩, fun a ha => ⟨hn a ha, .inl ha⟩⟩⟩

theorem StpX.push {g : Option Nat} {ρ ρ' : List Addr} {s s' : Shared} (x : Stp [] ρ s ρ' s') {h' : Heap} {tk : Nat} (hk : ∀ b o, s'.heap.get? b = some o → h'.get? b = some o) : StpX g [] ρ s ρ' { s' with heap := h', toks := tk } :=
  (x.trans (Stp.keeps hk)).x
theorem ItNew.list {iter : Expr} {K : ItP → List AO → Prop} (h : Ev G k sc iter m H fun v H₁ => AtL H₁ v fun kl => K (ItL kl 0) H₁) : ItNew G k sc iter m H K := by
  intro A env ρ s he hr d V
  refine PE.map (h A env ρ s he hr d V) fun v s₁ ρ₁ H₁ av x₁ d₁ r₁ h₁ => ?_
  obtain ⟨kl, ys, rfl, hl, h₁⟩ := h₁
  obtain ⟨a, ha, rfl⟩ := r₁
  obtain ⟨a', ha', xo⟩ := d₁.at hl
  rw [ha] at ha'; cases ha'
  obtain ⟨vs, hvl, hvs⟩ := xo.isList
  refine wpAny_pyIter_list hvl ?_
  have kp : ∀ b o, s₁.heap.get? b = some o → (s₁.heap.push { cls := .type "list_iterator", data := .fields #[.ref a, .int 0 0] }).get? b = some o := fun b o e => Heap.get?_push_of_some _ e
  have hI := fresh_none (h := s₁.heap)
  refine ⟨ρ₁, H₁, s₁.heap.objs.size, [s₁.heap.objs.size], none, ItL kl 0, rfl, StpX.push (tk := s₁.toks) x₁ kp, d₁.keeps kp, fun b hb => ?_, fun n e => (by cases e), ⟨rfl, rfl, a, ha, _, Heap.get?_push_size _ rfl, rfl, rfl⟩, ItL.pers, h₁⟩
  simp at hb; subst hb
  exact ⟨x₁.none_back hI, d₁.nin_none hI, d₁.base_none hI⟩

/- a range's items -/
noncomputable def ItR (x left step : Int) : ItP := fun _ _ s I hs g => hs = [I] ∧ g = none ∧ IsRangeIter s.heap I x left step
theorem ItR.pers {x left step : Int} : Pers G (ItR x left step) where
  step := fun A W ρ s ρ' s' I hs g x hn ⟨e1, e2, h⟩ => by
    subst e1
    exact ⟨rfl, e2, x.keep _ _ h (hn I (.head _)).1 (hn I (.head _)).2⟩
  live := fun A ρ s I hs g ⟨e1, _, h⟩ b hb => by subst e1; simp at hb; subst hb; exact ⟨_, h⟩
  self := fun A ρ s I hs g Q ⟨_, _, h⟩ hq => wpAny_pyIter_rangeiter h hq
theorem ri_seq {I : Addr} {x left step : Int} {s : Shared} (hi : IsRangeIter s.heap I x left step) : ∀ a' ∈ [I], ∀ o items n, s.heap.get? a' = some o → o.data ≠ .seq items n := fun a' ha' o items n e q => by
  simp at ha'; subst ha'
  rw [hi] at e; cases e; cases q
theorem NxEnd.rng {x left step : Int} (hj : left ≤ 0) : NxEnd G k (ItR x left step) H := by
  rintro A ρ s I hs g hr d ⟨rfl, rfl, hi⟩ hn hb
  refine wpAny_pyNext_range_end hr.handled hi hj fun h' hx => ?_
  exact ⟨rfl, HSt.of (tk := s.toks) (hx1 hx), d.hids (s' := { s with heap := h' }) (hx1 hx) hb hn (ri_seq hi), fun n e => by cases e⟩
theorem NxItem.rng {target : Expr} {x left step : Int} (hj : 0 < left) (ht : ∀ I v, letOwnedTupleGo target (.ref I) v = pure () := by intro _ _; rfl) :
    NxItem G k target (ItR x left step) (ItR (x + step) (left - 1) step) H H (.int x) := by
  rintro A ρ s I hs g hr d ⟨rfl, rfl, hi⟩ hn hb
  refine wpAny_pyNext_range_item hi hj fun h' hi' hs => ?_
  have hx : Heap.ExtBut I s.heap h' := hs.extBut
  exact ⟨_, rfl, wpAny_of_eq (ht I _) ⟨ρ, [I], HSt.of (hx1 hx), d.hids (s' := { s with heap := h', toks := s.toks + 1 }) (hx1 hx) hb hn (ri_seq hi), VR.int', ⟨rfl, rfl, hi'⟩, fun a ha => ⟨hn a ha, .inl ha⟩⟩⟩
theorem ItNew.rng {iter : Expr} {K : ItP → List AO → Prop}
    (h : Ev G k sc iter m H fun v H₁ => AtR H₁ v fun a b c => If2 (Builtin.Range.small a b c = true) (K (ItR a (Builtin.Range.rangeSize a b c) c) H₁)) : ItNew G k sc iter m H K := by
  intro A env ρ s he hr d V
  refine PE.map (h A env ρ s he hr d V) fun v s₁ ρ₁ H₁ av x₁ d₁ r₁ h₁ => ?_
  obtain ⟨kr, a, b, c, rfl, hl, hsm, h₁⟩ := h₁
  obtain ⟨ad, ha, rfl⟩ := r₁
  obtain ⟨a', ha', xo⟩ := d₁.at hl
  rw [ha] at ha'; cases ha'
  obtain ⟨t, u, v, hrg⟩ := xo
  refine wpAny_pyIter_range hrg hsm ?_
  have kp : ∀ b' o, s₁.heap.get? b' = some o → (s₁.heap.push { cls := .type "range_iterator", data := .fields #[rawInt a, rawInt (Builtin.Range.rangeSize a b c), rawInt c] }).get? b' = some o := fun b o e => Heap.get?_push_of_some _ e
  have hI := fresh_none (h := s₁.heap)
  refine ⟨ρ₁, H₁, s₁.heap.objs.size, [s₁.heap.objs.size], none, ItR a (Builtin.Range.rangeSize a b c) c, rfl, StpX.push (tk := s₁.toks) x₁ kp, d₁.keeps kp, fun b hb => ?_, fun n e => (by cases e), ⟨rfl, rfl, Heap.get?_push_size _ rfl⟩, ItR.pers, h₁⟩
  simp at hb; subst hb
  exact ⟨x₁.none_back hI, d₁.nin_none hI, d₁.base_none hI⟩
end Mine
end
section
open PySem PySem.W PyProof.Rows PySem.Calls
set_option maxRecDepth 100000
namespace Mine
variable {G : Gl} {k : Nat} {sc : Scope} {m : Vars} {H : List AO}

/- calls -/
noncomputable abbrev callOf (f : Value) : List Value → Sem Value := fun vs => call f vs

theorem Ev.callF {func e : Expr} {es : List Expr} {pos : Pos} {Q : AV → List AO → Prop} {a : Addr} {o : Obj} {fd : FuncData} (ho : G.h₀.get? a = some o) (hd : o.data = .func fd)
    (h : Ev G k sc func m H fun fv H₁ => If2 (fv = .con (.ref a)) (Evs G k sc (e :: es) m H₁ fun vs H₂ => Op G k (callOf (.ref a)) vs H₂ Q))
    (he' : ∀ env, starEach (e :: es) env = (false, eval e env) :: starEach es env := by intro _; rfl)
    (hc : ∀ env, eval (.Call func (e :: es) [] pos) env = (do callWith pos (← eval func env) [] (backTo pos (starEach (e :: es) env)) (backToKw pos (keywordEach [] env))) := by intro _; rfl) :
    Ev G k sc (.Call func (e :: es) [] pos) m H Q := by
  intro A env ρ s he hr d V
  refine Call_ (PE.map (h A env ρ s he hr d V) fun v s₁ ρ₁ H₁ av x₁ d₁ r₁ h₁ => ?_) (hc env)
  obtain ⟨rfl, h₁⟩ := h₁
  cases r₁
  refine callWith_def hd (wpAny_mono (h₁ A env ρ₁ s₁ pos he hr d₁ (V.stepE x₁)) (fun vs s₂ hP => ?_) fun _ _ q => q) (he' env)
  obtain ⟨ρ₂, H₂, avs, x₂, d₂, r₂, h₂⟩ := hP
  exact ⟨d₂.base _ _ ho, wp_from (x₁.trans x₂) (h₂ A ρ₂ s₂ vs hr d₂ r₂)⟩
theorem Ev.callB {func e : Expr} {es : List Expr} {pos : Pos} {Q : AV → List AO → Prop} {id : String}
    (h : Ev G k sc func m H fun fv H₁ => If2 (fv = .con (.builtin id)) (Evs G k sc (e :: es) m H₁ fun vs H₂ => Op G k (callOf (.builtin id)) vs H₂ Q))
    (he' : ∀ env, starEach (e :: es) env = (false, eval e env) :: starEach es env := by intro _; rfl)
    (hp : ∀ env, (backTo pos (starEach es env)).any (·.1) = false := by intro _; rfl)
    (hc : ∀ env, eval (.Call func (e :: es) [] pos) env = (do callWith pos (← eval func env) [] (backTo pos (starEach (e :: es) env)) (backToKw pos (keywordEach [] env))) := by intro _; rfl) :
    Ev G k sc (.Call func (e :: es) [] pos) m H Q := by
  intro A env ρ s he hr d V
  refine Call_ (PE.map (h A env ρ s he hr d V) fun v s₁ ρ₁ H₁ av x₁ d₁ r₁ h₁ => ?_) (hc env)
  obtain ⟨rfl, h₁⟩ := h₁
  cases r₁
  refine callWith_builtin1 (wpAny_mono (h₁ A env ρ₁ s₁ pos he hr d₁ (V.stepE x₁)) (fun vs s₂ hP => ?_) fun _ _ q => q) (he' env) (hp env)
  obtain ⟨ρ₂, H₂, avs, x₂, d₂, r₂, h₂⟩ := hP
  exact wp_from (x₁.trans x₂) (h₂ A ρ₂ s₂ vs hr d₂ r₂)
theorem Ev.callT {func e : Expr} {es : List Expr} {pos : Pos} {Q : AV → List AO → Prop} {T : String}
    (h : Ev G k sc func m H fun fv H₁ => If2 (fv = .con (.type T)) (Evs G k sc (e :: es) m H₁ fun vs H₂ => Op G k (callOf (.type T)) vs H₂ Q))
    (he' : ∀ env, starEach (e :: es) env = (false, eval e env) :: starEach es env := by intro _; rfl)
    (hp : ∀ env, (backTo pos (starEach (e :: es) env)).any (·.1) = false := by intro _; rfl)
    (hc : ∀ env, eval (.Call func (e :: es) [] pos) env = (do callWith pos (← eval func env) [] (backTo pos (starEach (e :: es) env)) (backToKw pos (keywordEach [] env))) := by intro _; rfl) :
    Ev G k sc (.Call func (e :: es) [] pos) m H Q := by
  intro A env ρ s he hr d V
  refine Call_ (PE.map (h A env ρ s he hr d V) fun v s₁ ρ₁ H₁ av x₁ d₁ r₁ h₁ => ?_) (hc env)
  obtain ⟨rfl, h₁⟩ := h₁
  cases r₁
  refine PySem.callWith_type (hp env) ?_
  have z := wpAny_mono (h₁ A env ρ₁ s₁ pos he hr d₁ (V.stepE x₁)) (Q' := fun vs s₂ => wpAny G.M A (call (.type T) vs []) (PE G ρ s Q) NoE s₂) (E' := NoE) (fun vs s₂ ⟨ρ₂, H₂, avs, x₂, d₂, r₂, h₂⟩ => wp_from (x₁.trans x₂) (h₂ A ρ₂ s₂ vs hr d₂ r₂)) fun _ _ q => q
  rw [he'] at z ⊢
  exact Calls.evalArgs_plain z

noncomputable def KindIs (H : List AO) (T : String) : AV → Prop
  | .ref j => match H[j]? with
    | some (.list _) => T = "list"
    | some (.tup _) => T = "tuple"
    | some (.rng ..) => T = "range"
    | some (.dict _) => T = "dict"
    | none => False
  | .str _ => T = "str"
  | _ => False
theorem KindIs.sound {ρ : List Addr} {s : Shared} {T : String} {av : AV} {v : Value} (h : KindIs H T av) (d : Wd G ρ H s) (r : VR ρ av v) : s.TypeIs v T ∧ ∀ a, v = .ref a → ∃ ob, s.heap.get? a = some ob ∧ ob.dict = none := by
  cases av with
  | ref j =>
    obtain ⟨a, ha, rfl⟩ := r
    simp only [KindIs] at h
    cases q : H[j]? with
    | none => rw [q] at h; exact h.elim
    | some ao =>
      rw [q] at h
      obtain ⟨a', ha', xo⟩ := d.at q
      rw [ha] at ha'; cases ha'
      cases ao with
      | list xs => obtain ⟨vs, n, h1, h2⟩ := xo; subst h; exact ⟨⟨_, h1, rfl⟩, fun b e => by cases e; exact ⟨_, h1, rfl⟩⟩
      | tup xs => obtain ⟨vs, n, h1, h2⟩ := xo; subst h; exact ⟨⟨_, h1, rfl⟩, fun b e => by cases e; exact ⟨_, h1, rfl⟩⟩
      | rng => obtain ⟨t, u, v, h1⟩ := xo; subst h; exact ⟨⟨_, h1, rfl⟩, fun b e => by cases e; exact ⟨_, h1, rfl⟩⟩
      | dict es => obtain ⟨xs, ⟨o, es', ep, ho, h1, _⟩, _⟩ := xo; subst h; exact ⟨⟨_, ho, h1.1⟩, fun b e => by cases e; exact ⟨_, ho, h1.2.1⟩⟩
  | str x => obtain ⟨t, rfl⟩ := r; subst h; exact ⟨typeIs_str s x t, fun a e => by cases e⟩
  | _ => exact h.elim

theorem Ev.meth1 {o e : Expr} {es : List Expr} {name : Str} {apos pos : Pos} {T id : String} {Q : AV → List AO → Prop} (pa : PlainAttrs T) (slot : Slot T name id) (hty : typeOf (.builtin id) = pure (.type "method_descriptor"))
    (h : Ev G k sc o m H fun ov H₁ => If2 (KindIs H₁ T ov) (Evs G k sc (e :: es) m H₁ fun vs H₂ => Op G k (callOf (.builtin id)) (ov :: vs) H₂ Q))
    (hbase : ∀ env, attributeBase o name env (eval o env) = eval o env := by intro _; rfl)
    (hfew : ∀ env, ((backTo pos (starEach (e :: es) env)).all (fun x => !x.1) && (backToKw pos (keywordEach [] env)).all (fun x => x.1.isSome)
      && decide ((e :: es).length + ([] : List Keyword).length + (if ([] : List Keyword).isEmpty then 0 else 1) < 30)) = true := by intro _; rfl)
    (hline : (apos.endLine == pos.line) = true := by decide)
    (he' : ∀ env, starEach (e :: es) env = (false, eval e env) :: starEach es env := by intro _; rfl)
    (hp : ∀ env, (backTo pos (starEach (e :: es) env)).any (·.1) = false := by intro _; rfl) :
    Ev G k sc (.Call (.Attribute o name apos) (e :: es) [] pos) m H Q := by
  intro A env ρ s he hr d V
  refine wpAny_Call_method (hbase env) (hfew env) hline pa slot hty (PE.map (h A env ρ s he hr d V) fun v s₁ ρ₁ H₁ av x₁ d₁ r₁ h₁ => ?_)
  obtain ⟨hk, h₁⟩ := h₁
  obtain ⟨k1, k2⟩ := hk.sound d₁ r₁
  refine ⟨k1, k2, Calls.callWith_builtin (hp env) ?_⟩
  have z := wpAny_mono (h₁ A env ρ₁ s₁ pos he hr d₁ (V.stepE x₁)) (Q' := fun vs s₂ => wpAny G.M A (call (.builtin id) ([v] ++ vs) []) (PE G ρ s Q) NoE s₂) (E' := NoE) (fun vs s₂ ⟨ρ₂, H₂, avs, x₂, d₂, r₂, h₂⟩ => wp_from (x₁.trans x₂) (h₂ A ρ₂ s₂ (v :: vs) hr d₂ (.cons (x₂.vr r₁) r₂))) fun _ _ q => q
  rw [he'] at z ⊢
  exact Calls.evalArgs_plain z
theorem Ev.meth0 {o : Expr} {name : Str} {apos pos : Pos} {T id : String} {Q : AV → List AO → Prop} (pa : PlainAttrs T) (slot : Slot T name id) (hty : typeOf (.builtin id) = pure (.type "method_descriptor"))
    (h : Ev G k sc o m H fun ov H₁ => If2 (KindIs H₁ T ov) (Op G k (callOf (.builtin id)) [ov] H₁ Q))
    (hbase : ∀ env, attributeBase o name env (eval o env) = eval o env := by intro _; rfl)
    (hline : (apos.endLine == pos.line) = true := by decide) :
    Ev G k sc (.Call (.Attribute o name apos) [] [] pos) m H Q := by
  intro A env ρ s he hr d V
  refine wpAny_Call_method (hbase env) rfl hline pa slot hty (PE.map (h A env ρ s he hr d V) fun v s₁ ρ₁ H₁ av x₁ d₁ r₁ h₁ => ?_)
  obtain ⟨hk, h₁⟩ := h₁
  obtain ⟨k1, k2⟩ := hk.sound d₁ r₁
  refine ⟨k1, k2, Calls.callWith_builtin rfl (PyProof.Rows.evalArgs_none ?_)⟩
  exact wp_from x₁ (h₁ A ρ₁ s₁ [v] hr d₁ (.cons r₁ .nil))

/- a def of the text -/
@[reducible] noncomputable def retv : AF → AV
  | .ret v => v
  | _ => .none

theorem zip_lookup {ρ : List Addr} : ∀ {ns : List Str} {vs : List AV} {cvs : List Value}, VRs ρ vs cvs → ∀ {x : Str} {v : AV}, (ns.zip vs).lookup x = some v → ∃ cv, (ns.zip cvs).lookup x = some cv ∧ VR ρ v cv
  | [], _, _, _, x, v, h => by simp at h
  | n :: ns, _, _, .nil, x, v, h => by simp at h
  | n :: ns, _, _, .cons h1 h2, x, v, h => by
    rw [List.zip_cons_cons, List.lookup_cons] at h ⊢
    cases q : x == n with
    | true => rw [q] at h; cases h; exact ⟨_, rfl, h1⟩
    | false => rw [q] at h; exact zip_lookup h2 h
theorem lookup_reverse {α : Type} : ∀ {l : List (Str × α)}, (l.map (·.1)).Nodup → ∀ x, l.reverse.lookup x = l.lookup x
  | [], _, _ => rfl
  | (n, a) :: l, hn, x => by
    rw [List.map_cons, List.nodup_cons] at hn
    rw [List.reverse_cons, List.lookup_append, lookup_reverse hn.2]
    cases q : x == n with
    | true =>
      have : l.lookup x = none := by
        cases e : l.lookup x with
        | none => rfl
        | some b => exact absurd (List.mem_map.mpr ⟨_, lookup_mem e, eq_of_beq q⟩) hn.1
      rw [this, List.lookup_cons, List.lookup_cons, q]; rfl
    | false =>
      rw [List.lookup_cons, List.lookup_cons, q]
      cases e : l.lookup x <;> rfl

theorem Op.def {a : Addr} {o : Obj} {fd : FuncData} {body : List Stmt} {vs : List AV} {Q : AV → List AO → Prop} (ho : G.h₀.get? a = some o) (hd : o.data = .func fd) (hcd : G.h₀.CodeRec fd.code fd.qualname)
    (hbody : fd.body = .stmts body) (hbind : ∀ cvs : List Value, cvs.length = vs.length → bindArgs fd ⟨cvs, []⟩ = pure ((fd.params.args.map (·.arg)).zip cvs))
    (hnd : (fd.params.args.map (·.arg)).Nodup) (hlen : (fd.params.args.map (·.arg)).length = vs.length)
    (hcell : ∀ x ∈ fd.scope.names, x.2 ≠ .cell) (hloc : ∀ n ∈ fd.params.args.map (·.arg), fd.scope.names.lookup n = some .local)
    (hok : ∀ n ∈ fd.params.args.map (·.arg), NameOk n) (hg : fd.globals = mainGlobals) (hb : fd.builtins = builtinsNs) (hcl : fd.closure = [])
    (h : Exs G k fd.scope body ((fd.params.args.map (·.arg)).zip vs) H fun f _ H' => Q (retv f) H')
    (hco : fd.scope.isCoroutine = false := by rfl) (hgen : fd.scope.isGenerator = false := by rfl) (hk : fd.scope.kind = .function := by rfl) : Op G (k + 1) (callOf (.ref a)) vs H Q := by
  intro A ρ s cvs hr d hv
  have hn2 : (((fd.params.args.map (·.arg)).zip cvs).map (·.1)).Nodup := by
    rw [List.map_fst_zip (by rw [hv.length, hlen]; exact Nat.le_refl _)]; exact hnd
  refine wpAny_call (codeAny_call_def hr.room (d.base _ _ ho) hd (G.nl.keeps d.base) (hcd.keeps d.base) hbody (BindsTo.of_eq (hbind cvs hv.length)) hcell (fun x hx => hloc _ (List.of_mem_zip hx).1) (fun h₁ hns hk₁ => ?_) hco hgen hk)
  have hL := fresh_none (h := s.heap)
  have he : EnvOK fd.scope (callEnv fd s.heap.objs.size a) := ⟨rfl, hk, hg, hb, rfl, fun _ => ⟨rfl, fun x hx => absurd rfl (hcell _ (lookup_mem hx))⟩⟩
  have st : ∀ W, Stp W ρ s ρ { s with heap := h₁, toks := s.toks + ((fd.params.args.map (·.arg)).zip cvs).length } := fun W => Stp.keeps hk₁
  have V : Vr G ρ (callEnv fd s.heap.objs.size a) ((fd.params.args.map (·.arg)).zip vs) { s with heap := h₁, toks := s.toks + ((fd.params.args.map (·.arg)).zip cvs).length } := by
    have hc0 : (callEnv fd s.heap.objs.size a).cells = [] := hcl
    refine ⟨d.base_none hL, d.nin_none hL, ⟨_, hns, fun x v h1 _ => ?_⟩, fun x c hc => ?_, fun x v h1 => ?_, fun x y c hc => ?_, fun p hp => ?_⟩
    · obtain ⟨cv, q1, q2⟩ := zip_lookup hv h1
      exact ⟨cv, by rw [lookup_reverse hn2]; exact q1, q2⟩
    · rw [hc0] at hc; cases hc
    · have hin := (List.of_mem_zip (lookup_mem h1)).1
      exact ⟨hok x hin, .inl (hloc x hin)⟩
    · rw [hc0] at hc; cases hc
    · rw [hc0] at hp; cases hp
  refine wpAny_mono (h _ _ ρ _ he hr.deeper (d.keeps hk₁) V) (fun f s' hP => ?_) fun _ _ q => q.elim
  obtain ⟨ρ', H', m', af, x', d', _, hf, hq⟩ := hP
  have ow : own (callEnv fd s.heap.objs.size a) = [s.heap.objs.size] := by
    show s.heap.objs.size :: fd.closure.map (·.2) = _
    rw [hcl]; rfl
  have x'' : Stp [] ρ s ρ' s' := by
    have z := (st (own (callEnv fd s.heap.objs.size a))).trans x'
    refine ⟨z.ext, fun b o e h1 _ => z.keep b o e h1 fun q => ?_, z.alive, z.gens, z.os⟩
    rw [ow] at q
    simp at q; subst q; rw [hL] at e; cases e
  refine ⟨ρ', H', retv af, x'', d', ?_, hq⟩
  cases af with
  | next => cases hf; exact rfl
  | brk => cases hf; exact rfl
  | cont => cases hf; exact rfl
  | ret v => obtain ⟨cv, rfl, hv⟩ := hf; exact hv

theorem one_of {cvs : List Value} (h : cvs.length = 1) : ∃ a, cvs = [a] := List.length_eq_one_iff.mp h
theorem two_of {cvs : List Value} (h : cvs.length = 2) : ∃ a b, cvs = [a, b] := by
  cases cvs with
  | nil => cases h
  | cons a r => obtain ⟨b, rfl⟩ := one_of (Nat.succ.inj h); exact ⟨a, b, rfl⟩
theorem three_of {cvs : List Value} (h : cvs.length = 3) : ∃ a b c, cvs = [a, b, c] := by
  cases cvs with
  | nil => cases h
  | cons a r => obtain ⟨b, c, rfl⟩ := two_of (Nat.succ.inj h); exact ⟨a, b, c, rfl⟩
theorem Op.doc {a : Addr} {o : Obj} {name : Str} {params : Arguments} {body : List Stmt} {scope : Scope} {pm cd doc : Value} {vs : List AV} {Q : AV → List AO → Prop} (ho : G.h₀.get? a = some o) (hd : o.data = .func (docDef name params body scope pm cd doc)) (hcd : G.h₀.CodeRec cd name)
    (hbind : ∀ cvs : List Value, cvs.length = vs.length → bindArgs (docDef name params body scope pm cd doc) ⟨cvs, []⟩ = pure ((params.args.map (·.arg)).zip cvs))
    (hnd : (params.args.map (·.arg)).Nodup) (hlen : (params.args.map (·.arg)).length = vs.length) (hcell : ∀ x ∈ scope.names, x.2 ≠ .cell) (hloc : ∀ n ∈ params.args.map (·.arg), scope.names.lookup n = some .local) (hok : ∀ n ∈ params.args.map (·.arg), NameOk n)
    (h : Exs G k scope body ((params.args.map (·.arg)).zip vs) H fun f _ H' => Q (retv f) H')
    (hco : scope.isCoroutine = false := by rfl) (hgen : scope.isGenerator = false := by rfl) (hk : scope.kind = .function := by rfl) : Op G (k + 1) (callOf (.ref a)) vs H Q :=
  Op.def ho hd hcd rfl hbind hnd hlen hcell hloc hok rfl rfl rfl h hco hgen hk
end Mine
end
section
open PySem PySem.W PyProof.Rows
set_option maxRecDepth 100000
namespace Mine
variable {G : Gl} {k : Nat} {sc : Scope} {m : Vars} {H : List AO}

theorem Op.of2 {t : Value → Value → Sem Value} {x y : AV} {Q : AV → List AO → Prop} (h : ∀ A ρ s a b, Rm k A → Wd G ρ H s → VR ρ x a → VR ρ y b → wpAny G.M A (t a b) (PE G ρ s Q) NoE s) : Op G k (op2 t) [x, y] H Q := by
  intro A ρ s cvs hr d hv
  cases hv with
  | cons h1 hv => cases hv with
    | cons h2 hv => cases hv; exact h A ρ s _ _ hr d h1 h2
theorem Op.of1 {t : Value → Sem Value} {x : AV} {Q : AV → List AO → Prop} (h : ∀ A ρ s a, Rm k A → Wd G ρ H s → VR ρ x a → wpAny G.M A (t a) (PE G ρ s Q) NoE s) : Op G k (op1 t) [x] H Q := by
  intro A ρ s cvs hr d hv
  cases hv with
  | cons h1 hv => cases hv; exact h A ρ s _ hr d h1
theorem Op.call1 {f : Value} {x : AV} {Q : AV → List AO → Prop} (h : ∀ A ρ s a, Rm k A → Wd G ρ H s → VR ρ x a → wpAny G.M A (call f [a]) (PE G ρ s Q) NoE s) : Op G k (callOf f) [x] H Q := by
  intro A ρ s cvs hr d hv
  cases hv with
  | cons h1 hv => cases hv; exact h A ρ s _ hr d h1
theorem Op.call2 {f : Value} {x y : AV} {Q : AV → List AO → Prop} (h : ∀ A ρ s a b, Rm k A → Wd G ρ H s → VR ρ x a → VR ρ y b → wpAny G.M A (call f [a, b]) (PE G ρ s Q) NoE s) : Op G k (callOf f) [x, y] H Q := by
  intro A ρ s cvs hr d hv
  cases hv with
  | cons h1 hv => cases hv with
    | cons h2 hv => cases hv; exact h A ρ s _ _ hr d h1 h2
theorem OpU.of3 {t : Value → Value → Value → Sem Unit} {x y z : AV} {Q : List AO → Prop} (h : ∀ A ρ s a b c, Rm k A → Wd G ρ H s → VR ρ x a → VR ρ y b → VR ρ z c → wpAny G.M A (t a b c) (PH G ρ s Q) NoE s) : OpU G k (op3 t) [x, y, z] H Q := by
  intro A ρ s cvs hr d hv
  cases hv with
  | cons h1 hv => cases hv with
    | cons h2 hv => cases hv with
      | cons h3 hv => cases hv; exact h A ρ s _ _ _ hr d h1 h2 h3

section
variable {i j : Int} {Q : AV → List AO → Prop}
theorem Op.add (h : Q (.int (i + j)) H) : Op G k (op2 (binaryOp .Add)) [.int i, .int j] H Q := .of2 fun A ρ s a b hr d ⟨t, e1⟩ ⟨u, e2⟩ => by subst e1 e2; exact add_int (PE.now d VR.int' h)
theorem Op.sub (h : Q (.int (i - j)) H) : Op G k (op2 (binaryOp .Sub)) [.int i, .int j] H Q := .of2 fun A ρ s a b hr d ⟨t, e1⟩ ⟨u, e2⟩ => by subst e1 e2; exact sub_int (PE.now d VR.int' h)
theorem Op.iadd (h : Q (.int (i + j)) H) : Op G k (op2 (inplaceOp .Add)) [.int i, .int j] H Q := .of2 fun A ρ s a b hr d ⟨t, e1⟩ ⟨u, e2⟩ => by subst e1 e2; exact iadd_int (PE.now d VR.int' h)
theorem Op.isub (h : Q (.int (i - j)) H) : Op G k (op2 (inplaceOp .Sub)) [.int i, .int j] H Q := .of2 fun A ρ s a b hr d ⟨t, e1⟩ ⟨u, e2⟩ => by subst e1 e2; exact P.isub_int (PE.now d VR.int' h)
theorem Op.mod (hj : j ≠ 0) (h : Q (.int (i.fmod j)) H) : Op G k (op2 (binaryOp .Mod)) [.int i, .int j] H Q := .of2 fun A ρ s a b hr d ⟨t, e1⟩ ⟨u, e2⟩ => by subst e1 e2; exact mod_int hj (PE.now d VR.int' h)
theorem Op.mul2 (h : Q (.int (2 * j)) H) : Op G k (op2 (binaryOp .Mult)) [.int 2, .int j] H Q := .of2 fun A ρ s a b hr d ⟨t, e1⟩ ⟨u, e2⟩ => by subst e1 e2; exact P.mul_int (PE.now d VR.int' h)
theorem Op.shr1 (hi : 0 ≤ i) (h : Q (.int (i / 2)) H) : Op G k (op2 (binaryOp .RShift)) [.int i, .int 1] H Q := .of2 fun A ρ s a b hr d ⟨t, e1⟩ ⟨u, e2⟩ => by subst e1 e2; exact wpAny_rshift1_int hi (PE.now d VR.int' h)
theorem Op.lt (h : Q (.bool (decide (i < j))) H) : Op G k (op2 (compareOp .Lt)) [.int i, .int j] H Q := .of2 fun A ρ s a b hr d ⟨t, e1⟩ ⟨u, e2⟩ => by subst e1 e2; exact lt_int (PE.here d VR.bool' h)
theorem Op.gt (h : Q (.bool (decide (j < i))) H) : Op G k (op2 (compareOp .Gt)) [.int i, .int j] H Q := .of2 fun A ρ s a b hr d ⟨t, e1⟩ ⟨u, e2⟩ => by subst e1 e2; exact gt_int (PE.here d VR.bool' h)
theorem Op.eq (h : Q (.bool (i == j)) H) : Op G k (op2 (compareOp .Eq)) [.int i, .int j] H Q := .of2 fun A ρ s a b hr d ⟨t, e1⟩ ⟨u, e2⟩ => by subst e1 e2; exact eq_int (PE.here d VR.bool' h)
theorem Op.ne (h : Q (.bool (i != j)) H) : Op G k (op2 (compareOp .NotEq)) [.int i, .int j] H Q := .of2 fun A ρ s a b hr d ⟨t, e1⟩ ⟨u, e2⟩ => by subst e1 e2; exact ne_int (PE.here d VR.bool' h)
theorem Op.neg (h : Q (.int (-i)) H) : Op G k (op1 (unaryOp .USub)) [.int i] H Q := .of1 fun A ρ s a hr d ⟨t, e1⟩ => by subst e1; exact P.neg_int (PE.now d VR.int' h)
end
section
variable {x y : Str} {Q : AV → List AO → Prop}
theorem Op.eqS (h : Q (.bool (x == y)) H) : Op G k (op2 (compareOp .Eq)) [.str x, .str y] H Q := .of2 fun A ρ s a b hr d ⟨t, e1⟩ ⟨u, e2⟩ => by subst e1 e2; exact eq_str (PE.here d VR.bool' h)
theorem Op.neS (h : Q (.bool (x != y)) H) : Op G k (op2 (compareOp .NotEq)) [.str x, .str y] H Q := .of2 fun A ρ s a b hr d ⟨t, e1⟩ ⟨u, e2⟩ => by subst e1 e2; exact ne_str (PE.here d VR.bool' h)
end
end Mine
end
section
open PySem PySem.W PyProof.Rows
set_option maxRecDepth 100000
namespace Mine
variable {G : Gl} {k : Nat} {sc : Scope} {m : Vars} {H : List AO}

theorem Wd.listAt {ρ : List Addr} {s : Shared} (d : Wd G ρ H s) {j : Nat} {xs : List AV} {v : Value} (hj : H[j]? = some (.list xs)) (r : VR ρ (.ref j) v) :
    ∃ a vs n, v = .ref a ∧ ρ[j]? = some a ∧ s.heap.get? a = some (listOf vs.toArray n) ∧ VRs ρ xs vs := by
  obtain ⟨a, ha, rfl⟩ := r
  obtain ⟨a', ha', vs, n, h1, h2⟩ := d.at hj
  rw [ha] at ha'; cases ha'
  exact ⟨a, vs, n, rfl, ha, h1, h2⟩
theorem isList_of {h : Heap} {a : Addr} {vs : List Value} {n : Nat} (e : h.get? a = some (listOf vs.toArray n)) : h.IsList a vs.toArray := ⟨_, e, rfl, n, rfl⟩

theorem Wd.turn {ρ : List Addr} {s : Shared} (d : Wd G ρ H s) {j : Nat} {a : Addr} {vs vs' : List Value} {n : Nat} {xs' : List AV} {f : Array Value → Array Value} (ha : ρ[j]? = some a)
    (e : s.heap.get? a = some (listOf vs.toArray n)) (hf : f vs.toArray = vs'.toArray) (hv : VRs ρ xs' vs') (tk : Nat) :
    Wd G ρ (H.set j (.list xs')) { s with heap := s.heap.update a (Obj.mapSeq f), toks := tk } ∧ Stp [] ρ s ρ { s with heap := s.heap.update a (Obj.mapSeq f), toks := tk } := by
  have q := PySem.IsL.update (n := n) e f
  rw [hf] at q
  have hs : Heap.SameBut a s.heap (s.heap.update a (Obj.mapSeq f)) := Heap.SameBut.update ..
  exact ⟨d.set ha hs ⟨vs', _, q, hv⟩, Stp.sameBut hs (.inl (List.mem_of_getElem? ha)) q⟩

/- subscripts -/
inductive SubQ (H₂ : List AO) (Q : AV → List AO → Prop) (o i : AV) : Prop
  | mk (j : Nat) (xs : List AV) (ix : Int) (x : AV) (eo : o = .ref j) (ei : i = .int ix) (hj : H₂[j]? = some (.list xs)) (hl : xs.length ≤ 1000)
      (hx : (0 ≤ ix ∧ xs[ix.toNat]? = some x) ∨ (ix < 0 ∧ 0 ≤ ix + xs.length ∧ xs[(ix + xs.length).toNat]? = some x)) (q : Q x H₂)
theorem Ev.subL {value slice : Expr} {pos : Pos} {Q : AV → List AO → Prop}
    (h : Ev G k sc value m H fun o H₁ => Ev G k sc slice m H₁ fun i H₂ => SubQ H₂ Q o i)
    (hs : ∀ o i, subscripted slice false o i = operate [o, i] (getItem o i) := by intro _ _; rfl) : Ev G k sc (.Subscript value slice pos) m H Q := by
  intro A env ρ s he hr d V
  refine Subscript_ (PE.map (h A env ρ s he hr d V) fun vo s₁ ρ₁ H₁ o x₁ d₁ r₁ h₁ => ?_)
  refine PE.map (h₁ A env ρ₁ s₁ he hr d₁ (V.stepE x₁)) fun vi s₂ ρ₂ H₂ i x₂ d₂ r₂ h₂ => ?_
  obtain ⟨j, xs, ix, x, rfl, rfl, hj, hlen, hx, hq⟩ := h₂
  obtain ⟨t, rfl⟩ := r₂
  obtain ⟨a, vs, n, rfl, ha, e, hv⟩ := d₂.listAt hj (x₂.vr r₁)
  have hl := isList_of e
  have hlv := hv.length
  refine tail_any hl.typeIs slot_list_getitem.lookup ?_ (hs _ _)
  rcases hx with ⟨h0, hx⟩ | ⟨h0, h0', hx⟩
  · obtain ⟨v, hv1, hv2⟩ := hv.get hx
    have hlt := (List.getElem?_eq_some_iff.mp hx).1
    exact wpAny_getItem_list hl h0 (by lia) (by rw [List.getElem?_toArray]; exact hv1) ((PE.here d₂ hv2 hq).from (x₁.trans x₂))
  · obtain ⟨v, hv1, hv2⟩ := hv.get hx
    have sz : vs.toArray.size = xs.length := by rw [List.size_toArray, hlv]
    refine wpAny_getItem_list_neg hl h0 (by rw [sz]; lia) (by lia) (by rw [sz, List.getElem?_toArray]; exact hv1) ((PE.here d₂ hv2 hq).from (x₁.trans x₂))
theorem Op.getL {j : Nat} {ix : Int} {xs : List AV} {x : AV} {Q : AV → List AO → Prop} (hj : H[j]? = some (.list xs)) (hlen : xs.length ≤ 1000)
    (hx : (0 ≤ ix ∧ xs[ix.toNat]? = some x) ∨ (ix < 0 ∧ 0 ≤ ix + xs.length ∧ xs[(ix + xs.length).toNat]? = some x)) (h : Q x H) : Op G k (op2 getItem) [.ref j, .int ix] H Q := .of2 fun A ρ s a b hr d r1 ⟨t, e2⟩ => by
  subst e2
  obtain ⟨a, vs, n, rfl, ha, e, hv⟩ := d.listAt hj r1
  have hl := isList_of e
  have hlv := hv.length
  rcases hx with ⟨h0, hx⟩ | ⟨h0, h0', hx⟩
  · obtain ⟨v, hv1, hv2⟩ := hv.get hx
    have hlt := (List.getElem?_eq_some_iff.mp hx).1
    exact wpAny_getItem_list hl h0 (by lia) (by rw [List.getElem?_toArray]; exact hv1) (PE.here d hv2 h)
  · obtain ⟨v, hv1, hv2⟩ := hv.get hx
    have sz : vs.toArray.size = xs.length := by rw [List.size_toArray, hlv]
    exact wpAny_getItem_list_neg hl h0 (by rw [sz]; lia) (by lia) (by rw [sz, List.getElem?_toArray]; exact hv1) (PE.here d hv2 h)

theorem setArr (vs : List Value) (i : Nat) (v : Value) : vs.toArray.setIfInBounds i v = (vs.set i v).toArray := by
  apply Array.toList_inj.mp; simp
theorem OpU.setL {j : Nat} {ix : Int} {xs : List AV} {x : AV} {Q : List AO → Prop} (hj : H[j]? = some (.list xs)) (hlen : xs.length ≤ 1000) (h0 : 0 ≤ ix) (hx : ix < xs.length)
    (h : Q (H.set j (.list (xs.set ix.toNat x)))) : OpU G k (op3 setItem) [.ref j, .int ix, x] H Q := .of3 fun A ρ s a b c hr d r1 ⟨t, e2⟩ r3 => by
  subst e2
  obtain ⟨a, vs, n, rfl, ha, e, hv⟩ := d.listAt hj r1
  have hlv := hv.length
  have z := d.turn (f := (·.setIfInBounds ix.toNat c)) ha e (setArr vs ix.toNat c) (hv.set r3 ix.toNat) s.toks
  exact ki_setAt e h0 (by lia) (by rw [List.size_toArray, hlv]; exact hx) ⟨ρ, _, z.2, z.1, h⟩
theorem OpU.setLneg {j : Nat} {ix : Int} {xs : List AV} {x : AV} {Q : List AO → Prop} (hj : H[j]? = some (.list xs)) (hlen : xs.length ≤ 1000) (h0 : ix < 0) (hx : 0 ≤ ix + xs.length)
    (h : Q (H.set j (.list (xs.set (ix + xs.length).toNat x)))) : OpU G k (op3 setItem) [.ref j, .int ix, x] H Q := .of3 fun A ρ s a b c hr d r1 ⟨t, e2⟩ r3 => by
  subst e2
  obtain ⟨a, vs, n, rfl, ha, e, hv⟩ := d.listAt hj r1
  have hlv := hv.length
  have sz : (vs.toArray.size : Int) = xs.length := by rw [List.size_toArray, hlv]
  have z := d.turn (f := (·.setIfInBounds (ix + vs.toArray.size).toNat c)) ha e (setArr vs _ c) (hv.set r3 _) s.toks
  refine ki_setBack e h0 (by rw [sz]; lia) (by lia) ⟨ρ, _, z.2, z.1, ?_⟩
  rw [sz]; exact h

/- truth, len -/
theorem Tr.list {j : Nat} {xs : List AV} {Q : Bool → List AO → Prop} (hj : H[j]? = some (.list xs)) (hlen : xs.length ≤ 1000) (h : Q (!xs.isEmpty) H) : Tr G k (.ref j) H Q := by
  intro A ρ s cv hr d r
  obtain ⟨a, vs, n, rfl, ha, e, hv⟩ := d.listAt hj r
  have hlv := hv.length
  refine wpAny_truthy_list (isList_of e) (by rw [List.size_toArray, hlv]; lia) ⟨ρ, H, Stp.toks _, d.toks _, ?_⟩
  have : vs.toArray.isEmpty = xs.isEmpty := by
    cases xs with
    | nil => cases hv; rfl
    | cons x xs => cases hv; simp
  rw [this]; exact h

/- methods of lists -/
theorem pushArr (vs : List Value) (v : Value) : vs.toArray.push v = (vs ++ [v]).toArray := by
  apply Array.toList_inj.mp; simp
theorem Op.append {j : Nat} {xs : List AV} {x : AV} {Q : AV → List AO → Prop} (hj : H[j]? = some (.list xs)) (hlen : xs.length ≤ 1000)
    (h : Q .none (H.set j (.list (xs ++ [x])))) : Op G k (callOf (.builtin "list.append")) [.ref j, x] H Q := .call2 fun A ρ s a b hr d r1 r2 => by
  obtain ⟨a, vs, n, rfl, ha, e, hv⟩ := d.listAt hj r1
  have hlv := hv.length
  refine append_at e (fun h' hs ho' => ?_) (by rw [List.size_toArray, hlv, sizeLine_eq]; lia)
  rw [pushArr] at ho'
  exact ⟨ρ, _, .none, Stp.sameBut (tk := s.toks) hs (.inl (List.mem_of_getElem? ha)) ho', d.set (ao := .list (xs ++ [x])) ha hs ⟨_, _, ho', hv.append (.cons r2 .nil)⟩, rfl, h⟩
theorem popArr (vs : List Value) : vs.toArray.eraseIdxIfInBounds (vs.toArray.size - 1) = vs.dropLast.toArray := by
  apply Array.toList_inj.mp
  rw [Array.toList_eraseIdxIfInBounds]
  simp
theorem VRs.dropLast {ρ : List Addr} {xs : List AV} {vs : List Value} (h : VRs ρ xs vs) : VRs ρ xs.dropLast vs.dropLast := by
  rw [List.dropLast_eq_take, List.dropLast_eq_take, h.length]; exact h.take _
theorem Op.pop {j : Nat} {xs : List AV} {x : AV} {Q : AV → List AO → Prop} (hj : H[j]? = some (.list xs)) (hlen : xs.length ≤ 1000) (hx : xs.getLast? = some x)
    (h : Q x (H.set j (.list xs.dropLast))) : Op G k (callOf (.builtin "list.pop")) [.ref j] H Q := .call1 fun A ρ s a hr d r1 => by
  obtain ⟨a, vs, n, rfl, ha, e, hv⟩ := d.listAt hj r1
  have hlv := hv.length
  rw [List.getLast?_eq_getElem?] at hx
  obtain ⟨v, hv1, hv2⟩ := hv.get hx
  have hy : vs.toArray[vs.toArray.size - 1]? = some v := by rw [List.getElem?_toArray, List.size_toArray, hlv]; exact hv1
  have z := d.turn (f := (·.eraseIdxIfInBounds (vs.toArray.size - 1))) ha e (popArr vs) hv.dropLast s.toks
  exact call_meets PySem.F.slot_list_pop ⟨_, e, rfl⟩ PySem.F.entry_list_pop (PySem.F.args_list_pop_1 _) (PySem.MeetsSeq.list_pop_last a _ n v hy (by rw [List.size_toArray, hlv, sizeLine_eq]; lia)) ⟨e, ρ, _, x, z.2, z.1, hv2, h⟩
theorem catArr (vs us : List Value) : vs.toArray ++ us.toArray = (vs ++ us).toArray := by
  apply Array.toList_inj.mp; simp
theorem Op.catL {j l : Nat} {xs ys : List AV} {Q : AV → List AO → Prop} (hj : H[j]? = some (.list xs)) (hl : H[l]? = some (.list ys)) (hlen : xs.length ≤ 1000) (hlen' : ys.length ≤ 1000)
    (h : Q (.ref H.length) (H ++ [.list (xs ++ ys)])) : Op G k (op2 (binaryOp .Add)) [.ref j, .ref l] H Q := .of2 fun A ρ s a b hr d r1 r2 => by
  obtain ⟨a, vs, n, rfl, ha, e, hv⟩ := d.listAt hj r1
  obtain ⟨b, us, n', rfl, hb, e', hu⟩ := d.listAt hl r2
  have hlv := hv.length
  have hlu := hu.length
  refine wpAny_binaryOp_concat (T := "list") ⟨_, e, rfl⟩ ⟨_, e', rfl⟩ noFill_list_add seq_list_add ?_
  refine call_meets PySem.F.slot_list_add ⟨_, e, rfl⟩ PySem.F.entry_list_add (PySem.F.args_list_add_2 _ _) (PySem.AutoSeq1.list___add___list_list_0 a vs.toArray n b us.toArray n' (by rw [List.size_toArray, List.size_toArray, hlv, hlu, sizeLine_eq]; lia)) ⟨e, e', ?_⟩
  have z := PE.newList (tk := s.toks) (Q := Q) d (hv.append hu) h
  rw [← catArr] at z
  exact z
end Mine
end
section
open PySem PySem.W PyProof.Rows
set_option maxRecDepth 100000
namespace Mine
variable {G : Gl} {k : Nat} {sc : Scope} {m : Vars} {H : List AO}

theorem fresh_none1 {h : Heap} : h.get? (h.objs.size + 1) = none := by
  cases e : h.get? (h.objs.size + 1) with
  | none => rfl
  | some o => exact absurd (Heap.lt_size e) (by exact Nat.not_lt.mpr (Nat.le_succ _))
section
variable {i j : Int} {Q : AV → List AO → Prop}
theorem Op.fdiv (hj : j ≠ 0) (hs : -1000 < j ∧ j < 1000) (h : Q (.int (i.fdiv j)) H) : Op G k (op2 (binaryOp .FloorDiv)) [.int i, .int j] H Q := .of2 fun A ρ s a b hr d ⟨t, e1⟩ ⟨u, e2⟩ => by
  subst e1 e2; exact floordiv_int hj (PE.now d VR.int' h) (Or.inl (PyProof.noPylong_small (by lia)))
theorem Op.subB {p q : Bool} (h : Q (.int (b2i p - b2i q)) H) : Op G k (op2 (binaryOp .Sub)) [.bool p, .bool q] H Q := .of2 fun A ρ s a b hr d e1 e2 => by
  cases e1; cases e2; exact PyProof.Rows.sub_bool (PE.now d VR.int' h)
theorem Op.catS {x y : Str} (hl : x.length + y.length ≤ 100000) (h : Q (.str (x ++ y)) H) : Op G k (op2 (binaryOp .Add)) [.str x, .str y] H Q := .of2 fun A ρ s a b hr d ⟨t, e1⟩ ⟨u, e2⟩ => by
  subst e1 e2; exact PyProof.Rows.add_str (fun t' tk => PE.now d VR.str' h) (by rw [sizeLine_eq]; lia)
theorem Op.notInS {x y : Str} (h : Q (.bool (!Txt.contains y x)) H) : Op G k (op2 (compareOp .NotIn)) [.str x, .str y] H Q := .of2 fun A ρ s a b hr d ⟨t, e1⟩ ⟨u, e2⟩ => by
  subst e1 e2; exact SB.notContains (PE.here d VR.bool' h)
theorem Op.isNoneInt (h : Q (.bool false) H) : Op G k (op2 (compareOp .Is)) [.int i, .none] H Q := .of2 fun A ρ s a b hr d ⟨t, e1⟩ e2 => by
  subst e1; cases e2; exact wpAny_is_other rfl (by intro e; cases e) (PE.here d VR.bool' h)
theorem Op.isNone (h : Q (.bool true) H) : Op G k (op2 (compareOp .Is)) [.none, .none] H Q := .of2 fun A ρ s a b hr d e1 e2 => by
  cases e1; cases e2; exact wpAny_is_self rfl (PE.here d VR.bool' h)
theorem Op.isNotTrue (h : Q (.bool false) H) : Op G k (op2 (compareOp .IsNot)) [.bool true, .bool true] H Q := .of2 fun A ρ s a b hr d e1 e2 => by
  cases e1; cases e2; exact wpAny_isNot_self rfl (PE.here d VR.bool' h)
end

section
variable {Q : AV → List AO → Prop}
theorem Op.lenL {j : Nat} {xs : List AV} (hj : H[j]? = some (.list xs)) (hlen : xs.length ≤ 1000) (h : Q (.int xs.length) H) : Op G k (callOf (.builtin "len")) [.ref j] H Q := .call1 fun A ρ s a hr d r1 => by
  obtain ⟨a, vs, n, rfl, ha, e, hv⟩ := d.listAt hj r1
  have hlv := hv.length
  refine PySem.Calls.call_len_list (isList_of e) (by rw [List.size_toArray, hlv]; lia) ?_
  rw [List.size_toArray, hlv]
  exact PE.now d VR.int' h
theorem Op.lenS {x : Str} (hlen : x.length ≤ 100000) (h : Q (.int x.length) H) : Op G k (callOf (.builtin "len")) [.str x] H Q := .call1 fun A ρ s a hr d ⟨t, e⟩ => by
  subst e
  exact P.len_str (by lia) (PE.now d VR.int' h)
theorem PE.newObj {ρ : List Addr} {s : Shared} {h' : Heap} {tk : Nat} {ao : AO} {a : Addr} (d : Wd G ρ H s) (ha : s.heap.get? a = none) (hk : ∀ b o, s.heap.get? b = some o → h'.get? b = some o) (ho : OR G (ρ ++ [a]) h' a ao)
    (h : Q (.ref H.length) (H ++ [ao])) : PE G ρ s Q (.ref a) { s with heap := h', toks := tk } := by
  refine ⟨ρ ++ [a], _, .ref H.length, Stp.push ha hk, d.push ha hk ho, ⟨_, ?_, rfl⟩, h⟩
  rw [← d.len]; simp
theorem Op.range1 {n : Int} (h : Q (.ref H.length) (H ++ [.rng 0 n 1])) : Op G k (callOf (.type "range")) [.int n] H Q := .call1 fun A ρ s a hr d ⟨t, e⟩ => by
  subst e
  exact call_range_1 (PE.newObj (ao := .rng 0 _ 1) d fresh_none (fun b o e => Heap.get?_push_of_some _ e) ⟨_, _, _, Heap.get?_push_size _ rfl⟩ h)
theorem Op.range2 {a b : Int} (h : Q (.ref H.length) (H ++ [.rng a b 1])) : Op G k (callOf (.type "range")) [.int a, .int b] H Q := .call2 fun A ρ s a b hr d ⟨t, e⟩ ⟨u, e'⟩ => by
  subst e e'
  exact call_range_2 (PE.newObj (ao := .rng _ _ 1) d fresh_none (fun b o e => Heap.get?_push_of_some _ e) ⟨_, _, _, Heap.get?_push_size _ rfl⟩ h)
theorem Op.range3 {a b c : Int} (hc : c ≠ 0) (hs : -1000 < c ∧ c < 1000) (h : Q (.ref H.length) (H ++ [.rng a b c])) : Op G k (callOf (.type "range")) [.int a, .int b, .int c] H Q := by
  intro A ρ s cvs hr d hv
  cases hv with
  | cons h1 hv => cases hv with
    | cons h2 hv => cases hv with
      | cons h3 hv =>
        cases hv
        obtain ⟨t, rfl⟩ := h1
        obtain ⟨u, rfl⟩ := h2
        obtain ⟨v, rfl⟩ := h3
        exact call_range_3 hc (PE.newObj (ao := .rng _ _ _) d fresh_none (fun b o e => Heap.get?_push_of_some _ e) ⟨_, _, _, Heap.get?_push_size _ rfl⟩ h) (Or.inl (PyProof.noPylong_small (by lia)))
theorem Op.listL {j : Nat} {xs : List AV} (hj : H[j]? = some (.list xs)) (hlen : xs.length ≤ 1000) (h : Q (.ref H.length) (H ++ [.list xs])) : Op G k (callOf (.type "list")) [.ref j] H Q := .call1 fun A ρ s a hr d r1 => by
  obtain ⟨a, vs, n, rfl, ha, e, hv⟩ := d.listAt hj r1
  have hlv := hv.length
  refine call_list_seq a (.inl rfl) e rfl rfl (fun h' c' hk hD => ?_) (by rw [List.size_toArray, hlv, sizeLine_eq]; lia)
  exact PE.newObj (tk := s.toks) (ao := .list xs) d fresh_none hk ⟨vs, c', hD, hv.mono⟩ h
theorem Op.sorted {j : Nat} {ns : List Int} (hj : H[j]? = some (.list (ns.map .int))) (hlen : ns.length < 64)
    (h : ∀ ns' : List Int, ns'.Perm ns → ns'.Pairwise (· ≤ ·) → Q (.ref H.length) (H ++ [.list (ns'.map .int)])) : Op G k (callOf (.builtin "sorted")) [.ref j] H Q := .call1 fun A ρ s a hr d r1 => by
  obtain ⟨a, vs, n, rfl, ha, e, hv⟩ := d.listAt hj r1
  have hlv := hv.length
  rw [List.length_map] at hlv
  refine sorted_ints (isList_of e) hv.ints (by lia) fun out ns' a1 a2 a3 => ?_
  obtain ⟨c, hc⟩ := sortedAll_at s.heap vs out
  have hn := fresh_none1 (h := s.heap)
  refine PE.newObj (tk := s.toks) (ao := .list (ns'.map .int)) d hn (fun b o e => sortedAll_old e) ⟨out.toList, c, ?_, VRs.ofInts a1⟩ (h ns' a2 a3)
  exact hc
theorem foldRep (v : Value) : ∀ n, (List.foldl (fun x1 x2 => x1 ++ x2) #[] (List.replicate n #[v])) = (List.replicate n v).toArray := by
  have key : ∀ (n : Nat) (acc : Array Value), (List.foldl (fun x1 x2 => x1 ++ x2) acc (List.replicate n #[v])) = acc ++ (List.replicate n v).toArray := by
    intro n
    induction n with
    | zero => intro acc; simp
    | succ n ih => intro acc; rw [List.replicate_succ, List.foldl_cons, ih, List.replicate_succ]; apply Array.toList_inj.mp; simp
  intro n; rw [key]; simp
theorem VRs.replicate {ρ : List Addr} {x : AV} {v : Value} (h : VR ρ x v) : ∀ n, VRs ρ (List.replicate n x) (List.replicate n v)
  | 0 => .nil
  | n + 1 => .cons h (VRs.replicate h n)
theorem Op.rep1 {j : Nat} {x : AV} {n : Int} (hj : H[j]? = some (.list [x])) (h0 : 0 ≤ n) (hn : n ≤ 1000) (h : Q (.ref H.length) (H ++ [.list (List.replicate n.toNat x)])) : Op G k (op2 (binaryOp .Mult)) [.ref j, .int n] H Q := .of2 fun A ρ s a b hr d r1 ⟨u, e2⟩ => by
  subst e2
  obtain ⟨a, vs, c, rfl, ha, e, hv⟩ := d.listAt hj r1
  cases hv with
  | @cons _ v _ _ hx hv =>
  cases hv
  refine wpAny_binaryOp_repeat_ref (T := "list") (U := "int") (by decide) ⟨_, e, rfl⟩ (fun s' => typeIs_int s' n u) noFill_list_mul F.fills_int_mul F.slot_int_rmul repeat_list F.slot_int_index.lookup
    (call_meets F.slot_int_rmul (typeIs_int s n u) F.entry_int_rmul (F.args_int_rmul_2 _ _) (int___rmul___int_list n u a #[v] c)
      ⟨e, rfl, ⟨_, e, rfl⟩, call_meets F.slot_list_mul ⟨_, e, rfl⟩ F.entry_list_mul (F.args_list_mul_2 _ _)
        (AutoListH.list___mul___list_int_3 a #[v] c n u (by simp [Builtin.List.listFitsIndex]; lia) (by simp; lia) (by simp [Builtin.List.listTooLong, sizeLine]; lia))
        ⟨e, ?_⟩⟩)
  have e' : (List.foldl (fun x1 x2 => x1 ++ x2) #[] (List.replicate (if (#[v] : Array Value).isEmpty = true then 0 else n.toNat) #[v])) = (List.replicate n.toNat v).toArray := by
    rw [if_neg (by simp)]; exact foldRep v _
  rw [e']
  exact PE.newList (tk := s.toks) d (VRs.replicate hx _) h
theorem VRs.strs {ρ : List Addr} : ∀ {ys : List Str} {vs : List Value}, VRs ρ (ys.map .str) vs → StrsAre vs ys
  | [], _, .nil => .nil
  | _ :: _, _, .cons h hs => by obtain ⟨t, rfl⟩ := h; exact .cons _ t (VRs.strs hs)
theorem Op.join {x : Str} {j : Nat} {ys : List Str} (hj : H[j]? = some (.list (ys.map .str))) (hok : (ys.map (·.length)).sum + ys.length * x.length ≤ 100000) (h : Q (.str (Txt.join x ys)) H) :
    Op G k (callOf (.builtin "str.join")) [.str x, .ref j] H Q := .call2 fun A ρ s a b hr d ⟨t, e1⟩ r2 => by
  subst e1
  obtain ⟨a, vs, n, rfl, ha, e, hv⟩ := d.listAt hj r2
  exact join_list (isList_of e) (by simpa using hv.strs) (by lia) fun t' k => PE.now d VR.str' h
end

/- slices -/
noncomputable def EvO (G : Gl) (k : Nat) (sc : Scope) : Option Expr → Vars → List AO → (Option Int → List AO → Prop) → Prop
  | none, _, H, Q => Q none H
  | some e, m, H, Q => Ev G k sc e m H fun v H' => ∃ i, v = .int i ∧ Q (some i) H'
inductive PO (G : Gl) (ρ : List Addr) (s : Shared) (Q : Option Int → List AO → Prop) (v : Value) (s' : Shared) : Prop
  | mk (ρ' : List Addr) (H' : List AO) (i : Option Int) (x : Stp [] ρ s ρ' s') (d : Wd G ρ' H' s') (p : IsPart v i) (q : Q i H')
theorem EvO.sound {e : Option Expr} {Q : Option Int → List AO → Prop} (h : EvO G k sc e m H Q) : ∀ A env ρ s, EnvOK sc env → Rm k A → Wd G ρ H s → Vr G ρ env m s →
    wpAny G.M A (evalPart e env) (PO G ρ s Q) NoE s := by
  intro A env ρ s he hr d V
  cases e with
  | none => exact wpAny_pure ⟨ρ, H, none, Stp.refl, d, .none, h⟩
  | some e =>
    refine PE.map (h A env ρ s he hr d V) fun v s₁ ρ₁ H₁ av x₁ d₁ r₁ h₁ => ?_
    obtain ⟨i, rfl, h₁⟩ := h₁
    obtain ⟨t, rfl⟩ := r₁
    exact ⟨ρ₁, H₁, some i, x₁, d₁, .int i t, h₁⟩

noncomputable def cutL {α : Type} (xs : List α) (lo hi : Option Int) : List α :=
  let b := sliceBounds lo hi none xs.length
  (xs.drop b.1.toNat).take (b.2.1.toNat - b.1.toNat)
theorem sliceBounds_pos (lo hi : Option Int) (n : Nat) : 0 ≤ (sliceBounds lo hi none n).1 ∧ 0 ≤ (sliceBounds lo hi none n).2.1 ∧ (sliceBounds lo hi none n).2.2 = 1 := by
  unfold sliceBounds
  refine ⟨?_, ?_, rfl⟩
  · cases lo <;> simp <;> lia
  · cases hi <;> simp <;> lia
theorem pick_eq (items : Array Value) (lo hi : Option Int) : slicePick items lo hi none = (cutL items.toList lo hi).toArray := by
  obtain ⟨h1, h2, h3⟩ := sliceBounds_pos lo hi items.size
  have e : sliceBounds lo hi none items.size = (((sliceBounds lo hi none items.size).1.toNat : Int), ((sliceBounds lo hi none items.size).2.1.toNat : Int), 1) := by
    rw [Int.toNat_of_nonneg h1, Int.toNat_of_nonneg h2, ← h3]
  rw [kmk_pick_nat items e]
  unfold cutL
  simp
theorem VRs.cut {ρ : List Addr} {xs : List AV} {vs : List Value} (h : VRs ρ xs vs) (lo hi : Option Int) : VRs ρ (cutL xs lo hi) (cutL vs lo hi) := by
  unfold cutL; rw [h.length]; exact (h.drop _).take _

theorem Ev.sliceL {value : Expr} {lower upper : Option Expr} {p pos : Pos} {Q : AV → List AO → Prop}
    (h : Ev G k sc value m H fun o H₁ => EvO G k sc lower m H₁ fun lo H₂ => EvO G k sc upper m H₂ fun hi H₃ => ∃ j xs, o = .ref j ∧ H₃[j]? = some (.list xs) ∧ xs.length ≤ 1000 ∧
      Q (.ref H₃.length) (H₃ ++ [.list (cutL xs lo hi)]))
    (ht : ∀ o r, letTemporaryGo value o r = pure () := by intro _ _; rfl) : Ev G k sc (.Subscript value (.Slice lower upper none p) pos) m H Q := by
  intro A env ρ s he hr d V
  refine wpAny_Subscript_list_slice ?_ ht
  refine PE.map (h A env ρ s he hr d V) fun vo s₁ ρ₁ H₁ o x₁ d₁ r₁ h₁ => ?_
  refine wpAny_mono (h₁.sound A env ρ₁ s₁ he hr d₁ (V.stepE x₁)) (fun vl s₂ hP => ?_) fun _ _ q => q
  obtain ⟨ρ₂, H₂, lo, x₂, d₂, pl, h₂⟩ := hP
  refine wpAny_mono (h₂.sound A env ρ₂ s₂ he hr d₂ (V.stepE (x₁.trans x₂))) (fun vu s₃ hP => ?_) fun _ _ q => q
  obtain ⟨ρ₃, H₃, hi, x₃, d₃, pu, h₃⟩ := hP
  obtain ⟨j, xs, rfl, hj, hlen, hq⟩ := h₃
  have x23 := x₂.trans x₃
  obtain ⟨a, vs, n, rfl, ha, e, hv⟩ := d₃.listAt hj (x23.vr r₁)
  have hlv := hv.length
  refine ⟨a, vs.toArray, lo, hi, rfl, isList_of e, by rw [List.size_toArray, hlv, sizeLine_eq]; lia, pl, pu, ?_⟩
  rw [pick_eq]
  have hn := fresh_none1 (h := s₃.heap)
  have z := PE.newObj (tk := s₃.toks) (Q := Q) (ao := .list (cutL xs lo hi)) (a := s₃.heap.objs.size + 1)
    (h' := (s₃.heap.push { cls := .type "slice", data := .fields #[vl, vu, .none] }).push { cls := .type "list", data := .seq (cutL vs lo hi).toArray }) d₃ hn
    (fun b o e => Heap.get?_push_of_some _ (Heap.get?_push_of_some _ e)) ⟨cutL vs lo hi, 0, by
      have := Heap.get?_push_size (s₃.heap.push { cls := .type "slice", data := .fields #[vl, vu, .none] }) (o := { cls := .type "list", data := .seq (cutL vs lo hi).toArray }) rfl
      rw [Heap.size_push] at this; exact this, (hv.cut lo hi).mono⟩ hq
  exact z.from (x₁.trans x23)

theorem Ev.sliceC {value : Expr} {lower upper : Option Expr} {p pos : Pos} {Q : AV → List AO → Prop} {a : Addr} {ns : List Int} {vs : List Value} (hl : G.h₀.IsList a vs.toArray) (hi : IntsAre vs ns) (hlen : ns.length ≤ 1000)
    (h : Ev G k sc value m H fun o H₁ => EvO G k sc lower m H₁ fun lo H₂ => EvO G k sc upper m H₂ fun hi H₃ => o = .con (.ref a) ∧ Q (.ref H₃.length) (H₃ ++ [.list ((cutL ns lo hi).map .int)]))
    (ht : ∀ o r, letTemporaryGo value o r = pure () := by intro _ _; rfl) : Ev G k sc (.Subscript value (.Slice lower upper none p) pos) m H Q := by
  intro A env ρ s he hr d V
  refine wpAny_Subscript_list_slice ?_ ht
  refine PE.map (h A env ρ s he hr d V) fun vo s₁ ρ₁ H₁ o x₁ d₁ r₁ h₁ => ?_
  refine wpAny_mono (h₁.sound A env ρ₁ s₁ he hr d₁ (V.stepE x₁)) (fun vl s₂ hP => ?_) fun _ _ q => q
  obtain ⟨ρ₂, H₂, lo, x₂, d₂, pl, h₂⟩ := hP
  refine wpAny_mono (h₂.sound A env ρ₂ s₂ he hr d₂ (V.stepE (x₁.trans x₂))) (fun vu s₃ hP => ?_) fun _ _ q => q
  obtain ⟨ρ₃, H₃, hi', x₃, d₃, pu, h₃⟩ := hP
  obtain ⟨rfl, hq⟩ := h₃
  cases r₁
  have x23 := x₂.trans x₃
  have hlv := hi.length
  have hl₃ : s₃.heap.IsList a vs.toArray := let ⟨o, ho, r⟩ := hl; ⟨o, d₃.base _ _ ho, r⟩
  refine ⟨a, vs.toArray, lo, hi', rfl, hl₃, by rw [List.size_toArray, hlv, sizeLine_eq]; lia, pl, pu, ?_⟩
  rw [pick_eq]
  have hn := fresh_none1 (h := s₃.heap)
  have hcut : VRs (ρ₃ ++ [s₃.heap.objs.size + 1]) ((cutL ns lo hi').map .int) (cutL vs lo hi') := by
    have := (VRs.ofInts (ρ := ρ₃ ++ [s₃.heap.objs.size + 1]) hi).cut lo hi'
    have e : cutL (ns.map AV.int) lo hi' = (cutL ns lo hi').map .int := by unfold cutL; simp [List.map_take, List.map_drop]
    rwa [e] at this
  have z := PE.newObj (tk := s₃.toks) (Q := Q) (ao := .list ((cutL ns lo hi').map .int)) (a := s₃.heap.objs.size + 1)
    (h' := (s₃.heap.push { cls := .type "slice", data := .fields #[vl, vu, .none] }).push { cls := .type "list", data := .seq (cutL vs lo hi').toArray }) d₃ hn
    (fun b o e => Heap.get?_push_of_some _ (Heap.get?_push_of_some _ e)) ⟨cutL vs lo hi', 0, by
      have := Heap.get?_push_size (s₃.heap.push { cls := .type "slice", data := .fields #[vl, vu, .none] }) (o := { cls := .type "list", data := .seq (cutL vs lo hi').toArray }) rfl
      rw [Heap.size_push] at this; exact this, hcut⟩ hq
  exact z.from (x₁.trans x23)

theorem partValue_of {v : Value} {i : Option Int} (h : IsPart v i) : ∃ l : Option (Int × Tok), v = partValue l ∧ l.map (·.1) = i := by
  cases h with
  | none => exact ⟨none, rfl, rfl⟩
  | int i t => exact ⟨some (i, t), rfl, rfl⟩
theorem Ev.sliceS {value : Expr} {lower upper : Option Expr} {p pos : Pos} {Q : AV → List AO → Prop}
    (h : Ev G k sc value m H fun o H₁ => EvO G k sc lower m H₁ fun lo H₂ => EvO G k sc upper m H₂ fun hi H₃ => ∃ x, o = .str x ∧ x.length ≤ 100000 ∧ Q (.str (Txt.slice x lo hi)) H₃)
    (ht : ∀ o r, letTemporaryGo value o r = pure () := by intro _ _; rfl) : Ev G k sc (.Subscript value (.Slice lower upper none p) pos) m H Q := by
  intro A env ρ s he hr d V
  refine wpAny_Subscript_str_slice ?_ ht
  refine PE.map (h A env ρ s he hr d V) fun vo s₁ ρ₁ H₁ o x₁ d₁ r₁ h₁ => ?_
  refine wpAny_mono (h₁.sound A env ρ₁ s₁ he hr d₁ (V.stepE x₁)) (fun vl s₂ hP => ?_) fun _ _ q => q
  obtain ⟨ρ₂, H₂, lo, x₂, d₂, pl, h₂⟩ := hP
  refine wpAny_mono (h₂.sound A env ρ₂ s₂ he hr d₂ (V.stepE (x₁.trans x₂))) (fun vu s₃ hP => ?_) fun _ _ q => q
  obtain ⟨ρ₃, H₃, hi, x₃, d₃, pu, h₃⟩ := hP
  obtain ⟨x, rfl, hlen, hq⟩ := h₃
  obtain ⟨t, rfl⟩ := r₁
  obtain ⟨l, e1, e2⟩ := partValue_of pl
  obtain ⟨u, e3, e4⟩ := partValue_of pu
  refine ⟨x, t, l, u, rfl, e1, e3, ?_⟩
  have kp : ∀ b o, s₃.heap.get? b = some o → (s₃.heap.push { cls := .type "slice", data := .fields #[vl, vu, .none] }).get? b = some o := fun b o e => Heap.get?_push_of_some _ e
  have fin : ∀ t' tk, PE G ρ s Q (.str (Txt.slice x lo hi) t') { s₃ with heap := s₃.heap.push { cls := .type "slice", data := .fields #[vl, vu, .none] }, toks := tk } := fun t' tk =>
    ⟨ρ₃, H₃, .str (Txt.slice x lo hi), ((x₁.trans x₂).trans x₃).trans (Stp.keeps kp), d₃.keeps kp, VR.str', hq⟩
  unfold sliceMade slicePicked
  have hsl : Txt.slice x lo hi = if ((1 : Int) == 1 && (PySem.Builtin.Str.strSliceIndices lo hi 1 x.length).length == x.length) = true then x else ⟨((PySem.Builtin.Str.strSliceIndices lo hi 1 x.length).filterMap (x.cps[·]?)).toArray⟩ := rfl
  rw [e2, e4]
  show ((if ((1 : Int) == 1 && (PySem.Builtin.Str.strSliceIndices lo hi 1 x.length).length == x.length) = true then Made.val (.str x t) else Made.str ⟨((PySem.Builtin.Str.strSliceIndices lo hi 1 x.length).filterMap (x.cps[·]?)).toArray⟩).post _ _)
  by_cases hc : ((1 : Int) == 1 && (PySem.Builtin.Str.strSliceIndices lo hi 1 x.length).length == x.length) = true
  · rw [if_pos hc]
    rw [if_pos hc] at hsl
    have := fin t s₃.toks
    rw [hsl] at this
    exact this
  · rw [if_neg hc]
    rw [if_neg hc] at hsl
    have := fin
    rw [hsl] at this
    refine ⟨?_, this _ _⟩
    have h1 := sliceIndices_le lo hi x.length
    have h2 : ((PySem.Builtin.Str.strSliceIndices lo hi 1 x.length).filterMap (x.cps[·]?)).length ≤ (PySem.Builtin.Str.strSliceIndices lo hi 1 x.length).length := List.length_filterMap_le _ _
    show ((PySem.Builtin.Str.strSliceIndices lo hi 1 x.length).filterMap (x.cps[·]?)).toArray.size ≤ sizeLine
    rw [List.size_toArray, sizeLine_eq]; lia
end Mine
end
section
open PySem PySem.W PyProof.Rows
set_option maxRecDepth 100000
namespace Mine
variable {G : Gl} {k : Nat} {sc : Scope} {m : Vars} {H : List AO}
open PySem.AutoSeq1 (wpAny_loadPart')

/- two lists of two ints, the lesser -/
section
variable {a b c e : Int} {t1 t2 t3 t4 : Tok}
noncomputable def ltSpec (l r : Addr) (n n' : Nat) (xs ys : Array Value) (res : Bool) : PySem.Spec := fun _ R s =>
  s.heap.get? l = some { cls := .type "list", dict := none, data := .seq xs n, slots := #[] } ∧ s.heap.get? r = some { cls := .type "list", dict := none, data := .seq ys n', slots := #[] } ∧ R (.ok (.ret (.bool res))) s
theorem ltLoop2 (l r : Addr) (n n' : Nat) {xs ys : Array Value} (h2 : xs.size = 2) (h2' : ys.size = 2) : Meets (Builtin.«list.__eq__.loop» ⟨[.ref l, .ref r, rawInt 2, rawInt 0], []⟩) (ltSpec l r n n' xs ys false) := by
  intro prog w A R s h
  obtain ⟨hp, g, d, tk, os⟩ := s; obtain ⟨hl, hb, h⟩ := h
  wp_walk using wpAny_loadPart' hl, wpAny_loadPart' hb
  have hi1 : xs[(2 : Int).toNat]? = none := by simp; lia
  have hi2 : ys[(2 : Int).toNat]? = none := by simp; lia
  rw [hi1, hi2]
  wp_walk using wpAny_loadPart' hl, wpAny_loadPart' hb
  show R (.ok (.ret (.bool (decide (xs.size < ys.size))))) _
  rw [h2, h2']
  exact h
theorem ltLoop (l r : Addr) (n n' : Nat) {xs ys : Array Value} (i : Nat) (nxt : Bool) (hx : xs[i]? = some (.int b t2)) (hy : ys[i]? = some (.int e t4))
    (hn : Meets (Builtin.«list.__eq__.loop» ⟨[.ref l, .ref r, rawInt (i + 1), rawInt 0], []⟩) (ltSpec l r n n' xs ys nxt)) :
    Meets (Builtin.«list.__eq__.loop» ⟨[.ref l, .ref r, rawInt i, rawInt 0], []⟩) (ltSpec l r n n' xs ys (if b == e then nxt else decide (b < e))) := by
  intro prog w A R s h
  obtain ⟨hp, g, d, tk, os⟩ := s; obtain ⟨hl, hb, h⟩ := h
  wp_walk using wpAny_loadPart' hl, wpAny_loadPart' hb
  have hi1 : xs[((i : Nat) : Int).toNat]? = some (.int b t2) := by rw [Int.toNat_natCast]; exact hx
  have hi2 : ys[((i : Nat) : Int).toNat]? = some (.int e t4) := by rw [Int.toNat_natCast]; exact hy
  rw [hi1, hi2]
  refine wpAny_bind (MeetsSeq.EqGives.int b e t2 t4 prog w _ _ _ _ ?_)
  cases hbe : b == e with
  | true =>
    rw [hbe] at h
    wp_walk
    exact ⟨plainId_quiet MeetsSeq3.plain_eq_loop _, codeAny_builtin MeetsSeq3.entry_eq_loop (by
      rw [Around.under_plainId MeetsSeq3.plain_eq_loop _]
      exact hn prog w A R _ ⟨hl, hb, h⟩)⟩
  | false =>
    rw [hbe] at h
    wp_walk using wpAny_loadPart' hl, wpAny_loadPart' hb
    rw [hi1, hi2]
    refine wpAny_bind ?_
    exact wpAny_lt_int (wpAny_pure h)
theorem ltMeets (l r : Addr) (n n' : Nat) : Meets (Builtin.«list.__lt__» ⟨[.ref l, .ref r], []⟩) (ltSpec l r n n' #[.int a t1, .int b t2] #[.int c t3, .int e t4] (decide (a < c ∨ (a = c ∧ b < e)))) := by
  intro prog w A R s h
  obtain ⟨hp, g, d, tk, os⟩ := s; obtain ⟨hl, hb, h⟩ := h
  have f3 := AutoSeq1.sub_list_list
  wp_walk using wpAny_loadPart' hl, wpAny_loadPart' hb
  refine ⟨plainId_quiet MeetsSeq3.plain_eq_loop _, codeAny_builtin MeetsSeq3.entry_eq_loop ?_⟩
  rw [Around.under_plainId MeetsSeq3.plain_eq_loop _]
  have z := ltLoop l r n n' (xs := #[.int a t1, .int b t2]) (ys := #[.int c t3, .int e t4]) 0 _ rfl rfl (ltLoop l r n n' 1 _ rfl rfl (ltLoop2 l r n n' rfl rfl))
  refine z prog w A R _ ⟨hl, hb, ?_⟩
  have e : (if (a == c) = true then (if (b == e) = true then false else decide (b < e)) else decide (a < c)) = decide (a < c ∨ (a = c ∧ b < e)) := by
    by_cases h1 : a = c
    · subst h1
      by_cases h2 : b = e
      · subst h2; simp
      · simp [h2]
    · simp [h1]
  rw [e]; exact h
end
theorem Op.ltL {j l : Nat} {a b c e : Int} {Q : AV → List AO → Prop} (hj : H[j]? = some (.list [.int a, .int b])) (hl : H[l]? = some (.list [.int c, .int e]))
    (h : Q (.bool (decide (a < c ∨ (a = c ∧ b < e)))) H) : Op G k (op2 (compareOp .Lt)) [.ref j, .ref l] H Q := .of2 fun A ρ s x y hr d r1 r2 => by
  obtain ⟨ad, vs, n, rfl, ha, e1, hv⟩ := d.listAt hj r1
  obtain ⟨bd, us, n', rfl, hb, e2, hu⟩ := d.listAt hl r2
  cases hv with
  | cons q1 hv => cases hv with
  | cons q2 hv =>
  cases hv
  cases hu with
  | cons q3 hu => cases hu with
  | cons q4 hu =>
  cases hu
  obtain ⟨t1, rfl⟩ := q1
  obtain ⟨t2, rfl⟩ := q2
  obtain ⟨t3, rfl⟩ := q3
  obtain ⟨t4, rfl⟩ := q4
  show wpAny _ _ (richCompare .Lt (.ref ad) (.ref bd)) _ _ _
  exact richCompare_meets_room (op := .Lt) (T := "list") ⟨_, e1, rfl⟩ ⟨_, e2, rfl⟩ PySem.F.slot_list_lt PySem.F.entry_list_lt (PySem.F.args_list_lt_2 _ _) (ltMeets ad bd n n') ⟨e1, e2, (show _ ∧ _ from ⟨(by intro q; cases q), PE.here d VR.bool' h⟩)⟩ hr.units'
end Mine
end
section
open PySem PySem.W PyProof.Rows PySem.Calls
set_option maxRecDepth 100000
namespace Mine
variable {G : Gl} {k : Nat} {sc : Scope} {m : Vars} {H : List AO}

/- the top as it lies: its defs, and what is not bound -/
noncomputable def Gl.adr (G : Gl) (f : Str) : Addr := match G.mg f with | some (.ref a) => a | _ => 0
structure TopIs (G : Gl) : Prop where
  fn : ∀ d ∈ recsOf view, ∃ a o pm code doc, G.mg d.name = some (.ref a) ∧ G.h₀.get? a = some o ∧ o.data = .func (docDef d.name d.params d.body d.scope pm code doc) ∧ G.h₀.CodeRec code d.name
  free : ∀ x, x ∉ startupNames → x ∉ looseW view [] → x ∉ (recsOf view).map (·.name) → x ∉ (litsOf view).map (·.1) → x ∉ (clssOf view (looseW view [])).map (·.name) → G.mg x = none
theorem TopIs.at (hK : TopIs G) {j : Nat} {d : DefRec} (hj : fnJ.contains j = true) (e : fnD j = d) : ∃ o pm code doc, G.mg d.name = some (.ref (G.adr d.name)) ∧ G.h₀.get? (G.adr d.name) = some o ∧ o.data = .func (docDef d.name d.params d.body d.scope pm code doc) ∧ G.h₀.CodeRec code d.name := by
  have hm : d ∈ recsOf view := by
    rw [recs_eq, ← e]
    exact List.mem_map.mpr ⟨j, List.contains_iff_mem.mp hj, rfl⟩
  obtain ⟨a, o, pm, code, doc, h1, h2, h3, h4⟩ := hK.fn d hm
  have ea : G.adr d.name = a := by unfold Gl.adr; rw [h1]
  rw [ea]
  exact ⟨o, pm, code, doc, h1, h2, h3, h4⟩
noncomputable def isFn (f : Str) : Bool := (fnJ.map fun j => (fnD j).name).contains f
theorem TopIs.by (hK : TopIs G) {f : Str} (hf : isFn f = true) : G.mg f = some (.ref (G.adr f)) ∧ ∃ o fd, G.h₀.get? (G.adr f) = some o ∧ o.data = .func fd := by
  obtain ⟨j, hj, e⟩ := List.mem_map.mp (List.contains_iff_mem.mp hf)
  obtain ⟨o, pm, code, doc, h1, h2, h3, _⟩ := hK.at (List.contains_iff_mem.mpr hj) rfl
  rw [e] at h1 h2
  exact ⟨h1, o, _, h2, h3⟩
theorem TopIs.fm (hK : TopIs G) {f : Str} (hf : isFn f = true) : G.mg f = some (.ref (G.adr f)) := (hK.by hf).1
theorem TopIs.no (hK : TopIs G) {x : Str} (h : noNames.contains x = true) : G.mg x = none := by
  have z := List.all_eq_true.mp names_free x (List.contains_iff_mem.mp h)
  simp only [Bool.not_eq_true', Bool.or_eq_false_iff] at z
  obtain ⟨⟨⟨⟨z1, z2⟩, z3⟩, z4⟩, z5⟩ := z
  have no : ∀ {l : List Str}, l.contains x = false → x ∉ l := fun e hm => by rw [List.contains_iff_mem.mpr hm] at e; cases e
  exact hK.free x (no z1) (no z2) (no z3) (no z4) (no z5)

noncomputable def SubL : Vars → Vars → Prop
  | [], _ => True
  | (x, v) :: r, m => m.lookup x = some v ∧ SubL r m
theorem SubL.sub : ∀ {m' m : Vars}, SubL m' m → ∀ x v, m'.lookup x = some v → m.lookup x = some v
  | [], _, _, x, v, h => by cases h
  | (y, w) :: r, m, h, x, v, e => by
    rw [List.lookup_cons] at e
    cases q : x == y with
    | true => rw [q] at e; cases e; rw [eq_of_beq q]; exact h.1
    | false => rw [q] at e; exact SubL.sub h.2 x v e

inductive TurnLess (I : Nat → Vars → List AO → Prop) (n : Nat) (m₂ : Vars) (H₂ : List AO) : Prop
  | mk (j : Nat) (m' : Vars) (hj : j < n) (hs : SubL m' m₂) (i : I j m' H₂)
theorem Wh.inv {test : Expr} {body : List Stmt} {Q : AF → Vars → List AO → Prop} (I : Nat → Vars → List AO → Prop)
    (step : ∀ n m H, I n m H → Ts G k sc test m H fun b H₁ => (b = true → Exs G k sc body m H₁ (TurnEnd Q (TurnLess I n))) ∧ (b = false → Q .next m H₁)) :
    ∀ n m H, I n m H → Wh G k sc test body m H Q := by
  intro n
  induction n using Nat.strongRecOn with
  | ind n ih =>
    intro m H hI
    refine Wh.step ?_
    intro A env ρ s he hr d V
    refine wpAny_mono (step n m H hI A env ρ s he hr d V) (fun b s₁ ⟨ρ₁, H₁, x₁, d₁, h₁⟩ => ⟨ρ₁, H₁, x₁, d₁, fun hb => (h₁.1 hb).mono fun f m₂ H₂ q => ?_, h₁.2⟩) fun _ _ q => q
    cases f with
    | next => obtain ⟨j, m', hj, hs, hI'⟩ := q; exact (ih j hj m' H₂ hI').less hs.sub
    | cont => obtain ⟨j, m', hj, hs, hI'⟩ := q; exact (ih j hj m' H₂ hI').less hs.sub
    | brk => exact q
    | ret v => exact q

theorem Exs.cut {st : Stmt} {rest : List Stmt} {Q : AF → Vars → List AO → Prop} (R : Vars → List AO → Prop) (h1 : Ex G k sc st m H fun f m₁ H₁ => f = .next ∧ ∃ m', SubL m' m₁ ∧ R m' H₁)
    (h2 : ∀ m' H₁, R m' H₁ → Exs G k sc rest m' H₁ Q) : Exs G k sc (st :: rest) m H Q := by
  refine Exs.cons ?_
  intro A env ρ s he hr d V
  refine wpAny_mono (h1 A env ρ s he hr d V) (fun f s₁ ⟨ρ₁, H₁, m₁, af, x₁, d₁, V₁, hf, e, m', hs, hR⟩ => ⟨ρ₁, H₁, m₁, af, x₁, d₁, V₁, hf, ?_⟩) fun _ _ q => q
  subst e
  exact (h2 m' H₁ hR).less hs.sub

theorem boot_len' : bootBuiltins (Str.ofString "len") = some (.builtin "len") := by decide +kernel
theorem boot_sorted' : bootBuiltins (Str.ofString "sorted") = some (.builtin "sorted") := by decide +kernel
theorem boot_range' : bootBuiltins (Str.ofString "range") = some (.type "range") := by decide +kernel
theorem boot_list' : bootBuiltins (Str.ofString "list") = some (.type "list") := by decide +kernel
theorem boot_enumerate' : bootBuiltins (Str.ofString "enumerate") = some (.type "enumerate") := by decide +kernel
theorem boot_reversed' : bootBuiltins (Str.ofString "reversed") = some (.type "reversed") := by decide +kernel
theorem boot_IndexError' : bootBuiltins (Str.ofString "IndexError") = some (.type "IndexError") := by decide +kernel

theorem callTop (hK : TopIs G) {f : Str} {np : Pos} {e : Expr} {es : List Expr} {pos : Pos} {Q : AV → List AO → Prop} (hf : isFn f = true) (hl : sc.names.lookup f = some .globalImplicit)
    (h : Evs G k sc (e :: es) m H fun vs H₂ => Op G k (callOf (.ref (G.adr f))) vs H₂ Q)
    (he' : ∀ env, starEach (e :: es) env = (false, eval e env) :: starEach es env := by intro _; rfl)
    (hc : ∀ env, eval (.Call (.Name f np) (e :: es) [] pos) env = (do callWith pos (← eval (.Name f np) env) [] (backTo pos (starEach (e :: es) env)) (backToKw pos (keywordEach [] env))) := by intro _; rfl)
    (hd' : (f == ("__debug__" : Str)) = false := by decide) :
    Ev G k sc (.Call (.Name f np) (e :: es) [] pos) m H Q := by
  obtain ⟨hm, o, fd, ho, hd⟩ := hK.by hf
  exact Ev.callF ho hd (Ev.global hm hl ⟨rfl, h⟩ hd') he' hc
theorem callBi {f : Str} {np : Pos} {e : Expr} {es : List Expr} {pos : Pos} {Q : AV → List AO → Prop} {id : String} (hm : G.mg f = none) (hb : bootBuiltins f = some (.builtin id)) (hl : sc.names.lookup f = some .globalImplicit)
    (h : Evs G k sc (e :: es) m H fun vs H₂ => Op G k (callOf (.builtin id)) vs H₂ Q)
    (he' : ∀ env, starEach (e :: es) env = (false, eval e env) :: starEach es env := by intro _; rfl)
    (hp : ∀ env, (backTo pos (starEach es env)).any (·.1) = false := by intro _; rfl)
    (hc : ∀ env, eval (.Call (.Name f np) (e :: es) [] pos) env = (do callWith pos (← eval (.Name f np) env) [] (backTo pos (starEach (e :: es) env)) (backToKw pos (keywordEach [] env))) := by intro _; rfl)
    (hx : f ≠ "__name__" := by decide) (hd' : (f == ("__debug__" : Str)) = false := by decide) :
    Ev G k sc (.Call (.Name f np) (e :: es) [] pos) m H Q := Ev.callB (Ev.builtin hm hb hl ⟨rfl, h⟩ hx hd') he' hp hc
theorem callTy {f : Str} {np : Pos} {e : Expr} {es : List Expr} {pos : Pos} {Q : AV → List AO → Prop} {T : String} (hm : G.mg f = none) (hb : bootBuiltins f = some (.type T)) (hl : sc.names.lookup f = some .globalImplicit)
    (h : Evs G k sc (e :: es) m H fun vs H₂ => Op G k (callOf (.type T)) vs H₂ Q)
    (he' : ∀ env, starEach (e :: es) env = (false, eval e env) :: starEach es env := by intro _; rfl)
    (hp : ∀ env, (backTo pos (starEach (e :: es) env)).any (·.1) = false := by intro _; rfl)
    (hc : ∀ env, eval (.Call (.Name f np) (e :: es) [] pos) env = (do callWith pos (← eval (.Name f np) env) [] (backTo pos (starEach (e :: es) env)) (backToKw pos (keywordEach [] env))) := by intro _; rfl)
    (hx : f ≠ "__name__" := by decide) (hd' : (f == ("__debug__" : Str)) = false := by decide) :
    Ev G k sc (.Call (.Name f np) (e :: es) [] pos) m H Q := Ev.callT (Ev.builtin hm hb hl ⟨rfl, h⟩ hx hd') he' hp hc
end Mine
end
section
open PySem PySem.W PyProof.Rows
set_option maxRecDepth 100000
namespace Mine
variable {G : Gl} {k : Nat} {sc : Scope} {m : Vars} {H : List AO}

/- a call whose value stays hidden -/
theorem callT_raw {f : Str} {np : Pos} {e : Expr} {pos : Pos} {T : String} {R : AV → List AO → Prop} {A : Around} {env : Env} {ρ : List Addr} {s : Shared} {Q : Value → Shared → Prop}
    (he : EnvOK sc env) (hr : Rm k A) (d : Wd G ρ H s) (V : Vr G ρ env m s) (hm : G.mg f = none) (hb : bootBuiltins f = some (.type T)) (hl : sc.names.lookup f = some .globalImplicit)
    (h : Ev G k sc e m H R) (hq : ∀ cv s₁ ρ₁ H₁ v, Stp [] ρ s ρ₁ s₁ → Wd G ρ₁ H₁ s₁ → VR ρ₁ v cv → R v H₁ → wpAny G.M A (call (.type T) [cv] []) Q NoE s₁)
    (he' : ∀ env, starEach [e] env = [(false, eval e env)] := by intro _; rfl)
    (hp : ∀ env, (backTo pos (starEach [e] env)).any (·.1) = false := by intro _; rfl)
    (hc : ∀ env, eval (.Call (.Name f np) [e] [] pos) env = (do callWith pos (← eval (.Name f np) env) [] (backTo pos (starEach [e] env)) (backToKw pos (keywordEach [] env))) := by intro _; rfl)
    (hx : f ≠ "__name__" := by decide) (hd' : (f == ("__debug__" : Str)) = false := by decide) :
    wpAny G.M A (eval (.Call (.Name f np) [e] [] pos) env) Q NoE s := by
  refine Call_ (PE.map ((Ev.builtin (pos := np) hm hb hl (Q := fun fv H₁ => fv = .con (.type T) ∧ H₁ = H) ⟨rfl, rfl⟩ hx hd') A env ρ s he hr d V) fun v s₁ ρ₁ H₁ av x₁ d₁ r₁ h₁ => ?_) (hc env)
  obtain ⟨rfl, rfl⟩ := h₁
  cases r₁
  refine PySem.callWith_type (hp env) ?_
  have hev : Evs G k sc [e] m H₁ fun vs H₂ => ∃ v, vs = [v] ∧ R v H₂ := Evs.cons (Ev.mono h fun v H₂ hv => Evs.nil ⟨v, rfl, hv⟩) he'
  have z := wpAny_mono (hev A env ρ₁ s₁ pos he hr d₁ (V.stepE x₁)) (Q' := fun vs s₂ => wpAny G.M A (call (.type T) vs []) Q NoE s₂) (E' := NoE) (fun vs s₂ ⟨ρ₂, H₂, avs, x₂, d₂, r₂, v, e2, h₂⟩ => by
    subst e2
    cases r₂ with
    | cons r r' => cases r'; exact hq _ s₂ ρ₂ H₂ v (x₁.trans x₂) d₂ r h₂) fun _ _ q => q
  rw [he'] at z ⊢
  exact Calls.evalArgs_plain z

/- reversed(range) -/
section
variable {prog : Program} {w : World} {A : Around} {E : Value → Shared → Prop} {s : Shared}
noncomputable def revRange (a b c : Int) : Obj := { cls := .type "range_iterator", data := .fields #[rawInt (a + (Builtin.Range.rangeSize a b c - 1) * c), rawInt (Builtin.Range.rangeSize a b c), rawInt (-c)] }
noncomputable def revSmall (a b c : Int) : Bool := Builtin.Range.rangeFitsLong a && Builtin.Range.rangeFitsLong b && Builtin.Range.rangeFitsLong c && Builtin.Range.rangeFitsLong (-c) && Builtin.Range.rangeFitsLong (a - c) && Builtin.Range.rangeFitsLong (Builtin.Range.rangeSize a b c)
theorem sub_ri_reversed : isSubtype (.type "range_iterator") (.type "reversed") = pure false := by rw [isSubtype_type]; kernel_rfl
theorem meets_range_reversed (r : Addr) (a b c : Int) (t u v : Tok) (hs : revSmall a b c = true) :
    Meets (Builtin.«range.__reversed__» ⟨[.ref r], []⟩) (fun _ R s => s.heap.get? r = some { cls := .type "range", dict := none, data := .fields #[.int a t, .int b u, .int c v], slots := #[] } ∧ R (.ok (.ret (Value.ref s.heap.objs.size))) { s with heap := s.heap.push (revRange a b c) }) :=
  .of_wp fun prog w A R s h => by
    obtain ⟨hp, g, d, tk, os⟩ := s; obtain ⟨hl, h⟩ := h
    unfold revSmall at hs
    have hs' : ¬ ((!(Builtin.Range.rangeFitsLong a && Builtin.Range.rangeFitsLong b && Builtin.Range.rangeFitsLong c && Builtin.Range.rangeFitsLong (-c) && Builtin.Range.rangeFitsLong (a - c) && Builtin.Range.rangeFitsLong (Builtin.Range.rangeSize a b c))) = true) := by rw [hs]; decide
    wp_walk
    rw [hs]
    exact ⟨_, rfl, h⟩
theorem call_range_reversed {r : Addr} {a b c : Int} {t u v : Tok} {Q : Value → Shared → Prop} (hr : IsRange s.heap r a b c t u v) (hs : revSmall a b c = true)
    (h : Q (.ref s.heap.objs.size) { s with heap := s.heap.push (revRange a b c) }) : wpAny (model prog w) A (call (.builtin "range.__reversed__") [.ref r]) Q E s :=
  call_meets PySem.F.slot_range_reversed ⟨_, hr, rfl⟩ PySem.F.entry_range_reversed (PySem.F.args_range_reversed_1 _) (meets_range_reversed r a b c t u v hs) ⟨hr, h⟩
theorem code_reversed_range {r : Addr} {a b c : Int} {t u v : Tok} {Q₁ : Value → Shared → Prop} (hr : IsRange s.heap r a b c t u v) (hs : revSmall a b c = true)
    (h : Q₁ (.ref s.heap.objs.size) { s with heap := s.heap.push (revRange a b c) }) :
    codeAny (model prog w) A (.call (.builtin "reversed.__new__") ⟨[.type "reversed", .ref r], []⟩) (wants Q₁ E) s := by
  have hT : s.TypeIs (.ref r) "range" := ⟨_, hr, rfl⟩
  refine codeAny_of_tree ?_
  show wpAny _ A.in1 (do checkBuiltinCall "reversed.__new__" ⟨[.type "reversed", .ref r], []⟩; again (.builtin "reversed.__new__" ⟨[.type "reversed", .ref r], []⟩)) _ _ s
  refine wpAny_bind (wpAny_of_eq (PySem.F.newCall_reversed_1 _) (wpAny_pure ⟨plainId_quiet PySem.F.plain_reversed_new _, codeAny_builtin PySem.F.entry_reversed_new ?_⟩))
  rw [Around.under_plainId PySem.F.plain_reversed_new _]
  unfold Builtin.«reversed.__new__»
  refine wpAny_bind (wpAny_of_eq (newClass_reversed _) ?_)
  dsimp only
  refine wpAny_bind (wpAny_of_eq (a := ()) (by first | rfl | kernel_rfl) ?_)
  refine wpAny_bind (wpAny_of_eq (a := ()) (by first | rfl | kernel_rfl) ?_)
  refine wpAny_bind (wpAny_specialOf hT PySem.F.slot_range_reversed.lookup ?_)
  dsimp only
  refine wpAny_bind (wpAny_of_eq (PySem.F.slot_range_reversed.bind _) ?_)
  dsimp only
  first
  | rw [if_neg (show ¬ ((Value.builtin "range.__reversed__" == Value.none) = true) from Bool.false_ne_true)]
  | (show wpAny _ _ (if (Value.builtin "range.__reversed__" == Value.none) = true then _ else _) _ _ _; rw [if_neg (show ¬ ((Value.builtin "range.__reversed__" == Value.none) = true) from Bool.false_ne_true)])
  refine wpAny_bind (wpAny_rule ?_)
  refine wpAny_bind (m := runValue (.call (.builtin "range.__reversed__") ⟨[.ref r], []⟩)) (show wpAny _ _ (call (.builtin "range.__reversed__") [.ref r]) _ _ _ from call_range_reversed hr hs ?_)
  first
  | exact wpAny_pure h
  | exact wpAny_bind (wpAny_pure (wpAny_pure h))
theorem call_reversed_range {r : Addr} {a b c : Int} {t u v : Tok} {Q : Value → Shared → Prop} (hr : IsRange s.heap r a b c t u v) (hs : revSmall a b c = true)
    (h : Q (.ref s.heap.objs.size) { s with heap := s.heap.push (revRange a b c) }) : wpAny (model prog w) A (call (.type "reversed") [.ref r]) Q E s := by
  refine callType_other (U := "range_iterator") (Q₁ := fun obj s₁ => obj = .ref s.heap.objs.size ∧ s₁ = { s with heap := s.heap.push (revRange a b c) }) (by decide +kernel) PySem.F.create_reversed ⟨_, _, PySem.F.mro_reversed⟩ PySem.F.made_reversed sub_ri_reversed (PySem.F.typeCall_reversed_1 _) (code_reversed_range hr hs ⟨rfl, rfl⟩) ?_
  rintro obj s₁ ⟨rfl, rfl⟩
  exact ⟨⟨_, Heap.get?_push_size _ rfl, rfl⟩, h⟩
end
theorem ItNew.rev {np : Pos} {e : Expr} {pos : Pos} {K : ItP → List AO → Prop} (hm : G.mg (Str.ofString "reversed") = none) (hl : sc.names.lookup (Str.ofString "reversed") = some .globalImplicit)
    (h : Ev G k sc e m H fun v H₁ => ∃ kr a b c, v = .ref kr ∧ H₁[kr]? = some (.rng a b c) ∧ revSmall a b c = true ∧ K (ItR (a + (Builtin.Range.rangeSize a b c - 1) * c) (Builtin.Range.rangeSize a b c) (-c)) H₁)
    (he' : ∀ env, starEach [e] env = [(false, eval e env)] := by intro _; rfl)
    (hp : ∀ env, (backTo pos (starEach [e] env)).any (·.1) = false := by intro _; rfl)
    (hc : ∀ env, eval (.Call (.Name (Str.ofString "reversed") np) [e] [] pos) env = (do callWith pos (← eval (.Name (Str.ofString "reversed") np) env) [] (backTo pos (starEach [e] env)) (backToKw pos (keywordEach [] env))) := by intro _; rfl) :
    ItNew G k sc (.Call (.Name (Str.ofString "reversed") np) [e] [] pos) m H K := by
  intro A env ρ s he hr d V
  refine callT_raw he hr d V hm boot_reversed' hl h (fun cv s₁ ρ₁ H₁ v x₁ d₁ r₁ h₁ => ?_) he' hp hc
  obtain ⟨kr, a, b, c, rfl, hl, hsm, h₁⟩ := h₁
  obtain ⟨ad, ha, rfl⟩ := r₁
  obtain ⟨a', ha', xo⟩ := d₁.at hl
  rw [ha] at ha'; cases ha'
  obtain ⟨t, u, v, hrg⟩ := xo
  refine call_reversed_range hrg hsm ?_
  have hit : IsRangeIter (s₁.heap.push (revRange a b c)) s₁.heap.objs.size (a + (Builtin.Range.rangeSize a b c - 1) * c) (Builtin.Range.rangeSize a b c) (-c) := Heap.get?_push_size _ rfl
  refine wpAny_pyIter_rangeiter hit ?_
  have kp : ∀ b' o, s₁.heap.get? b' = some o → (s₁.heap.push (revRange a b c)).get? b' = some o := fun b o e => Heap.get?_push_of_some _ e
  have hI := fresh_none (h := s₁.heap)
  refine ⟨ρ₁, H₁, s₁.heap.objs.size, [s₁.heap.objs.size], none, ItR _ _ _, rfl, StpX.push (tk := s₁.toks) x₁ kp, d₁.keeps kp, fun b hb => ?_, fun n e => (by cases e), ⟨rfl, rfl, hit⟩, ItR.pers, h₁⟩
  simp at hb; subst hb
  exact ⟨x₁.none_back hI, d₁.nin_none hI, d₁.base_none hI⟩

/- enumerate(list) -/
inductive ItE (kl j : Nat) (A : Around) (ρ : List Addr) (s : Shared) (I : Addr) (hs : List Addr) (g : Option Nat) : Prop
  | mk (J : Addr) (old : Value) (a : Addr) (e1 : hs = [I, J]) (e2 : g = none) (ne : I ≠ J) (h1 : IsEnum s.heap I J j old) (ha : ρ[kl]? = some a) (h2 : s.heap.IsListIter J a j)
theorem ItE.pers {kl j : Nat} : Pers G (ItE kl j) where
  step := fun A W ρ s ρ' s' I hs g x hn hP => by
    obtain ⟨J, old, a, e1, e2, ne, h1, ha, o, ho, r⟩ := hP
    subst e1
    obtain ⟨l, e, _⟩ := x.ext
    exact ⟨J, old, a, rfl, e2, ne, x.keep _ _ h1 (hn I (.head _)).1 (hn I (.head _)).2, by rw [e]; exact getElem?_ext ha, o, x.keep _ _ ho (hn J (.tail _ (.head _))).1 (hn J (.tail _ (.head _))).2, r⟩
  live := fun A ρ s I hs g hP b hb => by
    obtain ⟨J, old, a, e1, e2, ne, h1, ha, o, ho, r⟩ := hP
    subst e1; simp at hb
    rcases hb with q | q
    · subst q; exact ⟨_, h1⟩
    · subst q; exact ⟨_, ho⟩
  self := fun A ρ s I hs g Q hP hq => by
    obtain ⟨J, old, a, e1, e2, ne, h1, ha, h2⟩ := hP
    exact wpAny_pyIter_enum h1 hq
theorem en_seq {I J a : Addr} {j : Nat} {old : Value} {i : Int} {s : Shared} (h1 : IsEnum s.heap I J i old) (h2 : s.heap.IsListIter J a j) : ∀ a' ∈ [I, J], ∀ o items n, s.heap.get? a' = some o → o.data ≠ .seq items n := fun a' ha' o items n e q => by
  simp at ha'
  rcases ha' with q' | q'
  · subst q'; rw [h1] at e; cases e; cases q
  · subst q'
    obtain ⟨o', ho', _, hd'⟩ := h2; rw [ho'] at e; cases e; rw [hd'] at q; cases q
theorem NxEnd.enum {kl j : Nat} {ys : List AV} (hl : H[kl]? = some (.list ys)) (hj : ys.length ≤ j) : NxEnd G k (ItE kl j) H := by
  rintro A ρ s I hs g hr d ⟨J, old, a, rfl, rfl, ne, h1, ha, h2⟩ hn hb
  obtain ⟨a', ha', xo⟩ := d.at hl
  rw [ha] at ha'; cases ha'
  obtain ⟨vs, hvl, hvs⟩ := xo.isList
  refine wpAny_pyNext_enum_end hr.handled h1 h2 hvl (by rw [List.getElem?_toArray]; exact List.getElem?_eq_none (by rw [hvs.length]; exact hj)) fun h' hx => ?_
  have hx' : ∀ b o, s.heap.get? b = some o → b ∉ [I, J] → h'.get? b = some o := fun b o e q => hx b o (fun q' => q (by simp [q'])) e
  exact ⟨rfl, HSt.of (tk := s.toks) hx', d.hids (s' := { s with heap := h' }) hx' hb hn (en_seq h1 h2), fun n e => by cases e⟩
theorem NxItem.enum {elts : List Expr} {x1 : Nat} {pos : Pos} {kl j : Nat} {ys : List AV} {y : AV} (hl : H[kl]? = some (.list ys)) (hj : ys[j]? = some y) :
    NxItem G k (.Tuple elts x1 pos) (ItE kl j) (ItE kl (j + 1)) H (H ++ [.tup [.int j, y]]) (.ref H.length) := by
  rintro A ρ s I hs g hr d ⟨J, old, a, rfl, rfl, ne, h1, ha, h2⟩ hn hb
  obtain ⟨a', ha', xo⟩ := d.at hl
  rw [ha] at ha'; cases ha'
  obtain ⟨vs, hvl, hvs⟩ := xo.isList
  obtain ⟨v, hv1, hv2⟩ := hvs.get hj
  refine wpAny_pyNext_enum_item h1 h2 hvl (x := v) (by rw [List.getElem?_toArray]; exact hv1) ne fun h' q1 q2 q3 q4 q5 => ?_
  refine ⟨_, rfl, wpAny_letOwnedTupleGo_enum q1 fun h'' r1 r2 => ?_⟩
  have hI : I < s.heap.objs.size := Heap.lt_size h1
  have hJ : J < s.heap.objs.size := by obtain ⟨o, ho, _⟩ := h2; exact Heap.lt_size ho
  have keep : ∀ b o, s.heap.get? b = some o → b ∉ [I, J] → h''.get? b = some o := fun b o e q => by
    simp at q
    exact (r2.2 b q.1).trans (q5 b o q.1 q.2 e)
  have hT : h''.get? s.heap.objs.size = some { cls := .type "tuple", data := .seq #[.int j s.toks, v] } := (r2.2 _ (Nat.ne_of_gt hI)).trans q3
  have hnew := fresh_none (h := s.heap)
  have hW : Wd G (ρ ++ [s.heap.objs.size]) (H ++ [.tup [.int j, y]]) { s with heap := h'', toks := s.toks + 1 } :=
    d.hidPush keep hb hn (en_seq h1 h2) hnew ⟨[.int j s.toks, v], 0, hT, .cons ⟨_, rfl⟩ (.cons hv2.mono .nil)⟩
  refine ⟨ρ ++ [s.heap.objs.size], [I, J], ⟨⟨_, rfl, by simpa using hnew⟩, keep, ⟨Nat.le_refl _, fun _ _ e _ => .inl e⟩, rfl⟩, hW, ⟨_, by rw [← d.len]; simp, rfl⟩, ?_, fun b hb' => ⟨fun hm => ?_, .inl hb'⟩⟩
  · refine ⟨J, v, a, rfl, rfl, ne, ?_, getElem?_ext ha, ?_⟩
    · have : ((j : Int) + 1) = ((j + 1 : Nat) : Int) := by lia
      rw [← this]; exact r1
    · obtain ⟨o, ho, r⟩ := q2
      exact ⟨o, (r2.2 _ (Ne.symm ne)).trans ho, r⟩
  · rcases List.mem_append.mp hm with q' | q'
    · exact hn b hb' q'
    · simp at q'; simp at hb'
      rcases hb' with e | e
      · rw [e] at q'; exact absurd q' (Nat.ne_of_lt hI)
      · rw [e] at q'; exact absurd q' (Nat.ne_of_lt hJ)
theorem ItNew.enum {np : Pos} {e : Expr} {pos : Pos} {K : ItP → List AO → Prop} (hm : G.mg (Str.ofString "enumerate") = none) (hl : sc.names.lookup (Str.ofString "enumerate") = some .globalImplicit)
    (h : Ev G k sc e m H fun v H₁ => AtL H₁ v fun kl => K (ItE kl 0) H₁)
    (he' : ∀ env, starEach [e] env = [(false, eval e env)] := by intro _; rfl)
    (hp : ∀ env, (backTo pos (starEach [e] env)).any (·.1) = false := by intro _; rfl)
    (hc : ∀ env, eval (.Call (.Name (Str.ofString "enumerate") np) [e] [] pos) env = (do callWith pos (← eval (.Name (Str.ofString "enumerate") np) env) [] (backTo pos (starEach [e] env)) (backToKw pos (keywordEach [] env))) := by intro _; rfl) :
    ItNew G k sc (.Call (.Name (Str.ofString "enumerate") np) [e] [] pos) m H K := by
  intro A env ρ s he hr d V
  refine callT_raw he hr d V hm boot_enumerate' hl h (fun cv s₁ ρ₁ H₁ v x₁ d₁ r₁ h₁ => ?_) he' hp hc
  obtain ⟨kl, ys, rfl, hl, h₁⟩ := h₁
  obtain ⟨a, ha, rfl⟩ := r₁
  obtain ⟨a', ha', xo⟩ := d₁.at hl
  rw [ha] at ha'; cases ha'
  obtain ⟨vs, hvl, hvs⟩ := xo.isList
  refine call_enumerate_list hvl fun h' q1 q2 q3 q4 => ?_
  refine wpAny_pyIter_enum q1 ?_
  have hI := fresh_none (h := s₁.heap)
  have hI1 := fresh_none1 (h := s₁.heap)
  refine ⟨ρ₁, H₁, s₁.heap.objs.size + 1, [s₁.heap.objs.size + 1, s₁.heap.objs.size], none, ItE kl 0, rfl, StpX.push (tk := s₁.toks) x₁ q4, d₁.keeps q4, fun b hb => ?_, fun n e => (by cases e), ⟨_, _, a, rfl, rfl, Nat.succ_ne_self _, q1, ha, q2⟩, ItE.pers, h₁⟩
  simp at hb
  rcases hb with q | q
  · subst q; exact ⟨x₁.none_back hI1, d₁.nin_none hI1, d₁.base_none hI1⟩
  · subst q; exact ⟨x₁.none_back hI, d₁.nin_none hI, d₁.base_none hI⟩
end Mine
end
section
open PySem PySem.W PyProof.Rows
set_option maxRecDepth 100000
namespace Mine
variable {G : Gl} {k : Nat} {sc : Scope} {m : Vars} {H : List AO}

/- list comprehensions -/
noncomputable def relS (scope sc : Scope) : Scope :=
  { scope with names := scope.names.map fun (n, k) => if (k == .free && sc.kind == .function && sc.names.lookup n == some .cell) then (n, .cell) else (n, k) }
theorem relabel_eq {scope sc : Scope} {env : Env} (h : env.scope = sc) : relabel scope env = relS scope sc := by
  subst h; rfl

theorem closure_ok {env : Env} : ∀ (names : List (Str × NameKind)) (cs : List (Str × Addr)), (∀ n, (n, NameKind.free) ∈ names → ∃ c, env.cells.lookup n = some c) → (∀ p ∈ cs, env.cells.lookup p.1 = some p.2) →
    ∃ cl, (forIn names cs fun (x : Str × NameKind) (r : List (Str × Addr)) => (match x with
      | (name, kind) => if (kind == NameKind.free) = true then (do let c ← cellOf env name; pure (ForInStep.yield ((name, c) :: r)) : Sem _) else pure (ForInStep.yield r))) = (pure cl : Sem _) ∧
      (∀ p ∈ cl, env.cells.lookup p.1 = some p.2) ∧ (∀ n, (n, NameKind.free) ∈ names → ∃ c, (n, c) ∈ cl) ∧ ∀ p ∈ cs, p ∈ cl
  | [], cs, _, hc => ⟨cs, rfl, hc, (fun _ h => by cases h), fun _ h => h⟩
  | (n, kd) :: r, cs, hf, hc => by
    by_cases q : kd = .free
    · subst q
      obtain ⟨c, hc'⟩ := hf n (.head _)
      obtain ⟨cl, h1, h2, h3, h4⟩ := closure_ok r ((n, c) :: cs) (fun n' h => hf n' (.tail _ h)) fun p hp => by
        rcases List.mem_cons.mp hp with e | e
        · subst e; exact hc'
        · exact hc p e
      refine ⟨cl, ?_, h2, fun n' h => ?_, fun p hp => h4 p (.tail _ hp)⟩
      · rw [List.forIn_cons]
        simp only [beq_self_eq_true, if_true, cellOf, hc', pure_bind]
        exact h1
      · rcases List.mem_cons.mp h with e | e
        · cases e; exact ⟨c, h4 _ (.head _)⟩
        · exact h3 n' e
    · obtain ⟨cl, h1, h2, h3, h4⟩ := closure_ok r cs (fun n' h => hf n' (.tail _ h)) hc
      refine ⟨cl, ?_, h2, fun n' h => ?_, h4⟩
      · rw [List.forIn_cons]
        have : (kd == NameKind.free) = false := by simpa using q
        simp only [this, Bool.false_eq_true, if_false, pure_bind]
        exact h1
      · rcases List.mem_cons.mp h with e | e
        · cases e; exact absurd rfl q
        · exact h3 n' e

theorem closureFor_ok {scope : Scope} {env : Env} (hf : ∀ n, (n, NameKind.free) ∈ scope.names → ∃ c, env.cells.lookup n = some c) :
    ∃ cl, closureFor scope env = pure cl ∧ (∀ p ∈ cl, env.cells.lookup p.1 = some p.2) ∧ (∀ n, (n, NameKind.free) ∈ scope.names → ∃ c, (n, c) ∈ cl) := by
  obtain ⟨cl, h1, h2, h3, _⟩ := closure_ok scope.names [] hf (by simp)
  refine ⟨cl, ?_, h2, h3⟩
  simp only [closureFor]
  rw [h1]; rfl

theorem lookup_of_mem {env : Env} {cl : List (Str × Addr)} (h : ∀ p ∈ cl, env.cells.lookup p.1 = some p.2) : ∀ {x : Str} {c : Addr}, (x, c) ∈ cl → cl.lookup x = some c := by
  intro x c hm
  cases e : cl.lookup x with
  | none =>
    have := List.lookup_eq_none_iff.mp e _ hm
    simp at this
  | some d =>
    have h1 := h _ (lookup_mem e)
    have h2 := h _ hm
    rw [h1] at h2; exact h2

noncomputable def TsIfs (G : Gl) (k : Nat) (sc : Scope) : List Expr → Vars → List AO → (Bool → List AO → Prop) → Prop
  | [], _, H, Q => Q true H
  | [c], m, H, Q => Ts G k sc c m H Q
  | _, _, _, _ => False
theorem TsIfs.mono {ifs : List Expr} {Q Q' : Bool → List AO → Prop} (h : TsIfs G k sc ifs m H Q) (hq : ∀ b H', Q b H' → Q' b H') : TsIfs G k sc ifs m H Q' := by
  rcases ifs with _ | ⟨c, _ | ⟨c', t⟩⟩
  · exact hq _ _ h
  · refine fun A env ρ s he hr d V => wpAny_mono (h A env ρ s he hr d V) (fun b _ hP => ?_) fun _ _ q => q
    obtain ⟨ρ', H', r1, r2, r3⟩ := hP
    exact ⟨ρ', H', r1, r2, hq _ _ r3⟩
  · exact h.elim
theorem TsIfs.sound {ifs : List Expr} {Q : Bool → List AO → Prop} (h : TsIfs G k sc ifs m H Q) : ∀ A env ρ s, EnvOK sc env → Rm k A → Wd G ρ H s → Vr G ρ env m s →
    wpAny G.M A (forIn ifs true fun c r => if r = true then do let ok ← isTrue c env (eval c env); pure (ForInStep.yield ok) else pure (ForInStep.yield r)) (PB G ρ s Q) NoE s := by
  intro A env ρ s he hr d V
  match ifs, h with
  | [], h => exact wpAny_tests_nil ⟨ρ, H, Stp.refl, d, h⟩
  | [c], h => exact wpAny_tests_one (h A env ρ s he hr d V)

inductive CoPost (G : Gl) (env : Env) (ρ₀ : List Addr) (s₀ : Shared) (kacc : Nat) (acc : Value) (Q : Vars → List AO → Prop) (r : Result) (s' : Shared) : Prop
  | mk (e : r = .ok .next) (ρ' : List Addr) (H' : List AO) (m' : Vars) (x : Stp (own env) ρ₀ s₀ ρ' s') (d : Wd G ρ' H' s') (v : Vr G ρ' env m' s') (r' : VR ρ' (.ref kacc) acc) (q : Q m' H')
noncomputable def Co (G : Gl) (k : Nat) (sc : Scope) (elt target iter : Expr) (ifs : List Expr) (scope : Scope) (pos : Pos) (P : ItP) (kacc : Nat) (m : Vars) (H : List AO) (Q : Vars → List AO → Prop) : Prop :=
  ∀ A env ρ s I hs g ρ₀ s₀ acc, EnvOK sc env → Rm k A → Wd G ρ H s → Vr G ρ env m s → StpX g (own env) ρ₀ s₀ ρ s → HidS G s₀ ρ (alls env) hs g → P A ρ s I hs g → VR ρ (.ref kacc) acc →
    codeAny G.M A (.compLoop (.ListComp elt [⟨target, iter, ifs, 0⟩] scope pos) 0 (.ref I) acc env) (CoPost G env ρ₀ s₀ kacc acc Q) s

theorem comp_turn {A : Around} {elt target iter : Expr} {ifs : List Expr} {scope : Scope} {pos : Pos} {I : Addr} {acc : Value} {env : Env} {R : Result → Shared → Prop} {s : Shared}
    (h : wpAny G.M A (pyNext (.ref I)) (fun r s₁ => match r with
      | none => R (.ok .next) s₁
      | some v => wpAny G.M A (letOwnedTupleGo target (.ref I) v) (fun _ s₁' => wpAny G.M A (assign target env v) (fun _ s₂ =>
          wpAny G.M A (forIn ifs true fun c r => if r = true then do let ok ← isTrue c env (eval c env); pure (ForInStep.yield ok) else pure (ForInStep.yield r)) (fun ok s₃ =>
            if ok = true then wpAny G.M A (eval elt env) (fun x s₄ => wpAny G.M A (call (.builtin "list.append") [acc, x]) (fun _ s₅ => codeAny G.M A (.compLoop (.ListComp elt [⟨target, iter, ifs, 0⟩] scope pos) 0 (.ref I) acc env) R s₅) NoE s₄) NoE s₃
            else codeAny G.M A (.compLoop (.ListComp elt [⟨target, iter, ifs, 0⟩] scope pos) 0 (.ref I) acc env) R s₃) NoE s₂) NoE s₁') NoE s₁) NoE s) :
    codeAny G.M A (.compLoop (.ListComp elt [⟨target, iter, ifs, 0⟩] scope pos) 0 (.ref I) acc env) R s := by
  refine codeAny_of_tree ?_
  rw [Around.under_of_weight (c := .compLoop (.ListComp elt [⟨target, iter, ifs, 0⟩] scope pos) 0 (.ref I) acc env) rfl rfl]
  show wpAny G.M A ((compTurn (.ListComp elt [⟨target, iter, ifs, 0⟩] scope pos) 0 (.ref I) acc env).onRaise (fun x => do noteFrame x env; theTreesLotGoes x)) _ _ s
  refine wpAny_noted ?_
  rw [compTurn_list]
  refine wpAny_bind (wpAny_standAt (wpAny_bind (wpAny_mono h (fun r s₁ h₁ => ?_) fun _ _ q => q.elim)))
  cases r with
  | none => exact wpAny_pure h₁
  | some v =>
    refine wpAny_bind (wpAny_mono h₁ (fun _ s₁' h₁' => ?_) fun _ _ q => q.elim)
    refine wpAny_bind (wpAny_mono h₁' (fun _ s₂ h₂ => wpAny_bind (wpAny_mono h₂ (fun ok s₃ h₃ => ?_) fun _ _ q => q.elim)) fun _ _ q => q.elim)
    cases ok with
    | false => exact wpAny_pure ⟨rfl, h₃⟩
    | true => exact wpAny_bind (wpAny_bind (wpAny_mono h₃ (fun x s₄ h₄ => wpAny_bind (wpAny_mono h₄ (fun _ s₅ h₅ => wpAny_pure (wpAny_pure ⟨rfl, h₅⟩)) fun _ _ q => q.elim)) fun _ _ q => q.elim))

section
variable {elt target iter : Expr} {ifs : List Expr} {scope : Scope} {pos : Pos} {P P' : ItP} {kacc : Nat} {Q : Vars → List AO → Prop}
theorem Co.less {m' : Vars} (h : Co G k sc elt target iter ifs scope pos P kacc m' H Q) (hm : ∀ x v, m'.lookup x = some v → m.lookup x = some v) : Co G k sc elt target iter ifs scope pos P kacc m H Q :=
  fun A env ρ s I hs g ρ₀ s₀ acc he hr d V x hid hi ha => h A env ρ s I hs g ρ₀ s₀ acc he hr d (V.less hm) x hid hi ha
theorem Co.end (hn : NxEnd G k P H) (h : Q m H) : Co G k sc elt target iter ifs scope pos P kacc m H Q := by
  intro A env ρ s I hs g ρ₀ s₀ acc he hr d V x hid hi ha
  refine comp_turn (wpAny_mono (hn A ρ s I hs g hr d hi hid.nin hid.base) (fun r s' hP => ?_) fun _ _ q => q)
  obtain ⟨e, y, d', hf⟩ := hP
  subst e
  exact ⟨rfl, ρ, H, m, (x.hid y hid.new hid.gnew).fin hf, d', V.hid y hid.own, ha, h⟩
theorem Co.item {H' : List AO} {v : AV} (hn : NxItem G k target P P' H H' v) (hp : Pers G P')
    (h : As G k sc target v m H' fun m₁ H₁ => TsIfs G k sc ifs m₁ H₁ fun b H₂ => (b = false → Co G k sc elt target iter ifs scope pos P' kacc m₁ H₂ Q) ∧
      (b = true → Ev G k sc elt m₁ H₂ fun y H₃ => ∃ xs, H₃[kacc]? = some (.list xs) ∧ xs.length ≤ 1000 ∧ Co G k sc elt target iter ifs scope pos P' kacc m₁ (H₃.set kacc (.list (xs ++ [y]))) Q)) :
    Co G k sc elt target iter ifs scope pos P kacc m H Q := by
  intro A env ρ s I hs g ρ₀ s₀ acc he hr d V x hid hi hacc
  refine comp_turn (wpAny_mono (hn A ρ s I hs g hr d hi hid.nin hid.base) (fun r s₁ hP => ?_) fun _ _ q => q)
  obtain ⟨cv, e, h₁⟩ := hP
  subst e
  refine wpAny_mono h₁ (fun _ s₁ hP => ?_) fun _ _ q => q
  obtain ⟨ρ₁, hs', y, d₁, hv, hi₁, hn₁⟩ := hP
  have hid' := hid_grow hid V d x hn₁
  have V₁ := V.hid y hid.own
  have x₁ := x.hid y hid.new hid.gnew
  have hacc₁ : VR ρ₁ (.ref kacc) acc := by obtain ⟨l, e, _⟩ := y.ext; rw [e]; exact hacc.mono
  refine wpAny_mono (h A env ρ₁ s₁ cv he hr d₁ V₁ hv) (fun _ s₂ hP => ?_) fun _ _ q => q
  obtain ⟨ρ₂, H₂, m₂, x₂, d₂, V₂, h₂⟩ := hP
  refine wpAny_mono (h₂.sound A env ρ₂ s₂ he hr d₂ V₂) (fun ok s₃ hP => ?_) fun _ _ q => q
  obtain ⟨ρ₃, H₃, x₃, d₃, h₃⟩ := hP
  have on : ∀ {ρ₄ s₄ H₄}, Stp (own env) ρ₁ s₁ ρ₄ s₄ → Wd G ρ₄ H₄ s₄ → Vr G ρ₄ env m₂ s₄ → Co G k sc elt target iter ifs scope pos P' kacc m₂ H₄ Q →
      codeAny G.M A (.compLoop (.ListComp elt [⟨target, iter, ifs, 0⟩] scope pos) 0 (.ref I) acc env) (CoPost G env ρ₀ s₀ kacc acc Q) s₄ := fun x14 d₄ V₄ w =>
    w A env _ _ I hs' g ρ₀ s₀ acc he hr d₄ V₄ (x₁.step x14) ⟨hid'.new, fun a ha => by
      obtain ⟨o, ho⟩ := hp.live _ _ _ _ _ _ hi₁ a ha
      exact x14.notin (hid'.nin a ha) ho, hid'.own, hid'.base, hid'.gnew⟩ (hp.step _ _ _ _ _ _ _ _ _ x14 (fun a ha => ⟨hid'.nin a ha, fun q => hid'.own a ha (own_sub q)⟩) hi₁) (x14.vr hacc₁)
  cases ok with
  | false => exact on (x₂.trans x₃.wide) d₃ (V₂.stepE x₃) (h₃.1 rfl)
  | true =>
    refine PE.map (h₃.2 rfl A env ρ₃ s₃ he hr d₃ (V₂.stepE x₃)) fun vy s₄ ρ₄ H₄ y' x₄ d₄ r₄ h₄ => ?_
    obtain ⟨xs, hxs, hlen, w⟩ := h₄
    have x24 := x₃.trans x₄
    have x14 : Stp (own env) ρ₁ s₁ ρ₄ s₄ := x₂.trans x24.wide
    refine PE.map ((Op.append (k := k) (x := y') hxs hlen (Q := fun _ H' => H' = H₄.set kacc (.list (xs ++ [y']))) rfl) A ρ₄ s₄ [acc, vy] hr d₄ (.cons (x14.vr hacc₁) (.cons r₄ .nil))) fun _ s₅ ρ₅ H₅ _ x₅ d₅ _ e₅ => ?_
    subst e₅
    exact on (x14.trans x₅.wide) d₅ (V₂.stepE (x24.trans x₅)) w
end

theorem lookup_map_rel {sc : Scope} (hk : sc.kind = .function) : ∀ {names : List (Str × NameKind)} {x : Str}, names.lookup x = some .free → sc.names.lookup x = some .cell →
    (names.map fun (n, k) => if (k == NameKind.free && sc.kind == .function && sc.names.lookup n == some .cell) then (n, NameKind.cell) else (n, k)).lookup x = some .cell
  | [], _, h, _ => by simp at h
  | (n, kd) :: r, x, h, hc => by
    cases hx : x == n with
    | true =>
      simp only [List.lookup_cons, hx] at h
      cases h
      have e : x = n := eq_of_beq hx
      subst e
      simp [List.lookup_cons, hk, hc]
    | false =>
      simp only [List.lookup_cons, hx] at h
      have ih := lookup_map_rel (sc := sc) hk h hc
      show List.lookup x ((if (kd == NameKind.free && sc.kind == .function && sc.names.lookup n == some .cell) = true then (n, NameKind.cell) else (n, kd)) :: _) = _
      by_cases q : (kd == NameKind.free && sc.kind == .function && sc.names.lookup n == some .cell) = true
      · rw [if_pos q, List.lookup_cons, hx]; exact ih
      · rw [if_neg q, List.lookup_cons, hx]; exact ih

theorem comp_core {elt target iter : Expr} {ifs : List Expr} {scope : Scope} {pos : Pos} {mC : Vars} {Q : AV → List AO → Prop} {use : Option (Value → Sem Unit)} {QQ : Value → Shared → Prop} {A : Around} {env : Env} {ρ : List Addr} {s : Shared}
    (he : EnvOK sc env) (hr : Rm k A) (d : Wd G ρ H s) (V : Vr G ρ env m s)
    (hcell : ∀ y ∈ scope.names, y.2 ≠ .cell) (hkind : scope.kind = .function) (hnames : ∀ x ∈ scope.names, x.2 = .local → scope.names.lookup x.1 = some .local)
    (h0 : scope.names.lookup (".0" : Str) = some .local) (hmC : ∀ x v, mC.lookup x = some v → m.lookup x = some v ∧ scope.names.lookup x = some .free ∧ sc.names.lookup x = some .cell)
    (hfree : ∀ n, (n, NameKind.free) ∈ scope.names → ∃ v, mC.lookup n = some v)
    (h : ItNew G k sc iter m H fun P H₁ => Co G k (relS scope sc) elt target iter ifs scope pos P H₁.length mC (H₁ ++ [.list []]) fun _ H' => Q (.ref H₁.length) H')
    (hs : ∀ env x, foldedSetIterable iter env x = pure x)
    (fin : ∀ acc ρ' H' av s' C mc, Stp [] ρ s ρ' s' → Wd G ρ' H' s' → VR ρ' av acc → Q av H' → s'.heap.Ns C mc → s.heap.get? C = none → C ∉ ρ' → G.h₀.get? C = none → compPost G.M A NoE use QQ acc C (.ok .next) s') :
    wpAny G.M A (comprehension (.ListComp elt [⟨target, iter, ifs, 0⟩] scope pos) scope env (firstIterPos [⟨target, iter, ifs, 0⟩] pos) (newList []) false (eval iter env) use) QQ NoE s := by
  have hcells : ∀ n, (n, NameKind.free) ∈ scope.names → ∃ c, env.cells.lookup n = some c := fun n hn => by
    obtain ⟨v, hv⟩ := hfree n hn
    obtain ⟨h1, h2, h3⟩ := hmC n v hv
    obtain ⟨_, q | ⟨_, c, hc⟩⟩ := V.has n v h1
    · have : env.kindOf n = some .cell := by unfold Env.kindOf; rw [he.scope]; exact h3
      rw [this] at q; cases q
    · exact ⟨c, hc⟩
  obtain ⟨cl, hclos, hcl1, hcl2⟩ := closureFor_ok hcells
  refine wpAny_comprehension_free (cl := cl) rfl (hs env) hclos hkind hnames (wpAny_mono (h A env ρ s he hr d V) (fun xv s₁ h₁ => wpAny_mono h₁ (fun it s₂ hP => ?_) fun _ _ q => q) fun _ _ q => q)
  obtain ⟨ρ₂, H₂, I, hs, g, P, e, x, d₂, hn, hg, hi, hp, h₂⟩ := hP
  subst e
  refine wpAny_newObj_type ?_ (by size_fits)
  refine wpAny_newFunctionEnv hcell (by intro y hy; simp at hy) (fun h₁ hns₁ hsb₁ => ?_) hkind
  -- the new list, the new names
  have kpD : ∀ b o, s₂.heap.get? b = some o → (s₂.heap.push { cls := .type "list", data := .seq ([] : List Value).toArray }).get? b = some o := fun b o e => Heap.get?_push_of_some _ e
  have hD := fresh_none (h := s₂.heap)
  have dD : Wd G (ρ₂ ++ [s₂.heap.objs.size]) (H₂ ++ [.list []]) { s₂ with heap := s₂.heap.push { cls := .type "list", data := .seq ([] : List Value).toArray } } := d₂.push (ao := .list []) hD kpD ⟨[], 0, Heap.get?_push_size _ rfl, .nil⟩
  have xD : Stp [] ρ₂ s₂ (ρ₂ ++ [s₂.heap.objs.size]) { s₂ with heap := s₂.heap.push { cls := .type "list", data := .seq ([] : List Value).toArray } } := Stp.push (tk := s₂.toks) hD kpD
  generalize hsD : ({ s₂ with heap := s₂.heap.push { cls := .type "list", data := .seq ([] : List Value).toArray } } : Shared) = sD at dD xD
  have hsD' : sD.heap = s₂.heap.push { cls := .type "list", data := .seq ([] : List Value).toArray } := by rw [← hsD]
  have hC := fresh_none (h := sD.heap)
  have kpC : ∀ b o, sD.heap.get? b = some o → h₁.get? b = some o := fun b o e => hsb₁.extBut b o (by rw [← hsD']; exact Nat.ne_of_lt (Heap.lt_size e)) (Heap.get?_push_of_some _ (by rw [← hsD']; exact e))
  have hns₂ : h₁.Ns sD.heap.objs.size (fun x => ([] : List (Str × Value)).reverse.lookup x) := by rw [hsD']; exact hns₁
  have hcenv : (newEnv scope s₂.heap.objs.size.succ env.globals cl env.qual none .none (some env) env.builtins : Env) = newEnv scope s₂.heap.objs.size.succ env.globals cl env.qual none .none (some env) env.builtins := rfl
  clear hcenv
  have hCs : sD.heap.objs.size = (s₂.heap.push { cls := .type "list", data := .seq ([] : List Value).toArray }).objs.size := by rw [hsD']
  have x2D : StpX g [] ρ s (ρ₂ ++ [s₂.heap.objs.size]) sD := x.step xD
  have hCn : s.heap.get? sD.heap.objs.size = none := by
    cases e : s.heap.get? sD.heap.objs.size with
    | none => rfl
    | some o => obtain ⟨o', e'⟩ := x2D.alive _ o e; rw [hC] at e'; cases e'
  have V₂ : Vr G ρ₂ env m s₂ := x.vr V (by simp)
  have VD : Vr G (ρ₂ ++ [s₂.heap.objs.size]) env m sD := V₂.stepE xD
  have hsE : ({ s₂ with heap := h₁, toks := s₂.toks + ([] : List (Str × Value)).length } : Shared) = { sD with heap := h₁, toks := sD.toks } := by rw [← hsD]; rfl
  have xC : ∀ W, Stp W (ρ₂ ++ [s₂.heap.objs.size]) sD (ρ₂ ++ [s₂.heap.objs.size]) { sD with heap := h₁, toks := sD.toks } := fun W => Stp.keeps kpC
  have heC : EnvOK (relS scope sc) { newEnv scope sD.heap.objs.size env.globals cl env.qual none .none (some env) env.builtins with scope := relabel scope env } :=
    ⟨relabel_eq he.scope, hkind, he.globals, he.builtins, he.frame, fun q => by
      have z := lookup_relabel_local (env := env) h0
      have z' : (relS scope sc).names.lookup (".0" : Str) = some .local := by rw [← relabel_eq he.scope]; exact z
      rw [z'] at q; cases q⟩
  have VC : Vr G (ρ₂ ++ [s₂.heap.objs.size]) { newEnv scope sD.heap.objs.size env.globals cl env.qual none .none (some env) env.builtins with scope := relabel scope env } mC { sD with heap := h₁, toks := sD.toks } := by
    have kd : ∀ y v, mC.lookup y = some v → Env.kindOf { newEnv scope sD.heap.objs.size env.globals cl env.qual none .none (some env) env.builtins with scope := relabel scope env } y = some .cell := fun y v hy => by
      obtain ⟨q1, q2, q3⟩ := hmC y v hy
      show (relabel scope env).names.lookup y = _
      rw [relabel_eq he.scope]
      exact lookup_map_rel he.kind q2 q3
    refine ⟨dD.base_none hC, dD.nin_none hC, ⟨_, hns₂, fun y v hy hk => ?_⟩, fun y c hc => ?_, fun y v hy => ?_, fun y z c h1 h2 => ?_, fun p hp => lookup_of_mem hcl1 (x := p.1) (c := p.2) hp⟩
    · rw [kd y v hy] at hk; cases hk
    · have hc' := hcl1 _ (lookup_mem (show cl.lookup y = some c from hc))
      obtain ⟨q1, q2, q3, oc, cv, q4, q5, q6⟩ := VD.cells y c hc'
      refine ⟨q1, fun e => ?_, q3, oc, cv, kpC _ _ q4, q5, fun v hy _ => ?_⟩
      · have e' : c = sD.heap.objs.size := e
        rw [e', hC] at q4; cases q4
      · obtain ⟨r1, r2, r3⟩ := hmC y v hy
        refine q6 v r1 fun hk => ?_
        have : env.kindOf y = some .cell := by unfold Env.kindOf; rw [he.scope]; exact r3
        rw [this] at hk; cases hk
    · obtain ⟨r1, r2, r3⟩ := hmC y v hy
      refine ⟨(V.has y v r1).1, .inr ⟨.inl (kd y v hy), ?_⟩⟩
      obtain ⟨c, hc⟩ := hcl2 y (lookup_mem r2)
      exact ⟨c, lookup_of_mem hcl1 hc⟩
    · exact V.inj y z c (hcl1 _ (lookup_mem (show cl.lookup y = some c from h1))) (hcl1 _ (lookup_mem (show cl.lookup z = some c from h2)))
  have ownC : ∀ a ∈ own { newEnv scope sD.heap.objs.size env.globals cl env.qual none .none (some env) env.builtins with scope := relabel scope env }, a = sD.heap.objs.size := fun a ha => by
    rcases List.mem_cons.mp ha with q | q
    · exact q
    · cases q
  have allC : ∀ a ∈ alls { newEnv scope sD.heap.objs.size env.globals cl env.qual none .none (some env) env.builtins with scope := relabel scope env }, a = sD.heap.objs.size ∨ a ∈ alls env := fun a ha => by
    rcases List.mem_cons.mp ha with q | q
    · exact .inl q
    · obtain ⟨p, hp, rfl⟩ := List.mem_map.mp q
      exact .inr (cell_own (hcl1 p hp))
  have hnI : ∀ a ∈ hs, a ≠ sD.heap.objs.size ∧ a ≠ s₂.heap.objs.size := fun a ha => by
    obtain ⟨o, ho⟩ := hp.live _ _ _ _ _ _ hi a ha
    refine ⟨fun e => ?_, fun e => ?_⟩
    · obtain ⟨o', e'⟩ := xD.alive _ _ ho; rw [e, hC] at e'; cases e'
    · rw [e, hD] at ho; cases ho
  have hacc : VR (ρ₂ ++ [s₂.heap.objs.size]) (.ref H₂.length) (.ref s₂.heap.objs.size) := ⟨_, by rw [← d₂.len]; simp, rfl⟩
  have xall : StpX g (own { newEnv scope sD.heap.objs.size env.globals cl env.qual none .none (some env) env.builtins with scope := relabel scope env }) ρ s (ρ₂ ++ [s₂.heap.objs.size]) { sD with heap := h₁, toks := sD.toks } :=
    (x2D.mono (by simp)).step (xC _)
  have dC := dD.keeps (s' := { sD with heap := h₁, toks := sD.toks }) kpC
  have hidC : HidS G s (ρ₂ ++ [s₂.heap.objs.size]) (alls { newEnv scope sD.heap.objs.size env.globals cl env.qual none .none (some env) env.builtins with scope := relabel scope env }) hs g := by
    refine ⟨fun a ha => (hn a ha).1, fun a ha hm => ?_, fun a ha hm => ?_, fun a ha => (hn a ha).2.2, hg⟩
    · rcases List.mem_append.mp hm with q | q
      · exact (hn a ha).2.1 q
      · simp at q; exact (hnI a ha).2 q
    · rcases allC a hm with q | q
      · exact (hnI a ha).1 q
      · exact V.own_none (hn a ha).1 q
  have hiC : P A (ρ₂ ++ [s₂.heap.objs.size]) { sD with heap := h₁, toks := sD.toks } I hs g := by
    have z1 := hp.step _ [] _ _ _ _ _ _ _ xD (fun a ha => ⟨(hn a ha).2.1, by simp⟩) hi
    exact hp.step _ [] _ _ _ _ _ _ _ (xC []) (fun a ha => ⟨hidC.nin a ha, by simp⟩) z1
  have post : ∀ r s', CoPost G { newEnv scope sD.heap.objs.size env.globals cl env.qual none .none (some env) env.builtins with scope := relabel scope env } ρ s H₂.length (.ref s₂.heap.objs.size) (fun _ H' => Q (.ref H₂.length) H') r s' →
      compPost G.M A NoE use QQ (.ref s₂.heap.objs.size) sD.heap.objs.size r s' := by
    rintro r s' ⟨rfl, ρ', H', m', x', d', V', hacc', hq⟩
    have x'' : Stp [] ρ s ρ' s' := by
      refine ⟨x'.ext, fun b o e h1 _ => ?_, x'.alive, x'.gens, x'.os⟩
      exact x'.keep b o e h1 fun hm => by rw [ownC b hm, hCn] at e; cases e
    obtain ⟨mc, hnsC, _⟩ := V'.ns
    refine fin _ ρ' H' (.ref H₂.length) s' _ mc x'' d' hacc' hq hnsC hCn V'.lnin V'.lfresh
  refine codeAny_compStart_list (codeAny_mono (h₂ A _ _ _ I hs g ρ s _ heC hr dC VC xall hidC hiC hacc) post) (wpAny_mono (hp.self A _ _ _ _ _ (fun it' s' => it' = .ref I ∧ s' = { sD with heap := h₁, toks := sD.toks }) hiC ⟨rfl, rfl⟩) (fun it' s' e => ?_) fun _ _ q => q.elim)
  obtain ⟨rfl, rfl⟩ := e
  exact codeAny_mono (h₂ A _ _ _ I hs g ρ s _ heC hr dC VC xall hidC hiC hacc) post

theorem ns_seq {h : Heap} {C : Addr} {mc : Str → Option Value} (hn : h.Ns C mc) : ∀ o items n, h.get? C = some o → o.data ≠ .seq items n := fun o' items n e q => by
  obtain ⟨o, es, ep, ho, hd, _⟩ := hn
  rw [ho] at e; cases e; rw [hd] at q; cases q
theorem Stp.apart {W ρ ρ' : List Addr} {s s' : Shared} (x : Stp W ρ s ρ' s') {C : Addr} (hC : s.heap.get? C = none) {h' : Heap} (hs : Heap.SameBut C s'.heap h') : Stp W ρ s ρ' { s' with heap := h' } := by
  refine ⟨x.ext, fun b o e h1 h2 => (hs.2 b fun q => ?_).trans (x.keep b o e h1 h2), fun b o e => ?_, x.gens, x.os⟩
  · rw [q, hC] at e; cases e
  · obtain ⟨o', e'⟩ := x.alive b o e
    exact ⟨o', (hs.2 b fun q => by rw [q, hC] at e; cases e).trans e'⟩

theorem Ev.comp {elt target iter : Expr} {ifs : List Expr} {scope : Scope} {pos : Pos} (mC : Vars) {Q : AV → List AO → Prop}
    (hcell : ∀ y ∈ scope.names, y.2 ≠ .cell) (hkind : scope.kind = .function) (hnames : ∀ x ∈ scope.names, x.2 = .local → scope.names.lookup x.1 = some .local)
    (h0 : scope.names.lookup (".0" : Str) = some .local) (hmC : ∀ x v, mC.lookup x = some v → m.lookup x = some v ∧ scope.names.lookup x = some .free ∧ sc.names.lookup x = some .cell)
    (hfree : ∀ n, (n, NameKind.free) ∈ scope.names → ∃ v, mC.lookup n = some v)
    (h : ItNew G k sc iter m H fun P H₁ => Co G k (relS scope sc) elt target iter ifs scope pos P H₁.length mC (H₁ ++ [.list []]) fun _ H' => Q (.ref H₁.length) H')
    (hs : ∀ env x, foldedSetIterable iter env x = pure x := by intro _ _; rfl) : Ev G k sc (.ListComp elt [⟨target, iter, ifs, 0⟩] scope pos) m H Q := by
  intro A env ρ s he hr d V
  rw [eval_ListComp]
  refine comp_core (use := none) he hr d V hcell hkind hnames h0 hmC hfree h hs ?_
  intro acc ρ' H' av s' C mc x' d' hv hq hn hC hCn hCb
  exact ⟨mc, hn, fun h' hs' => ⟨ρ', H', av, x'.apart hC hs', d'.sameBut hs' hCb hCn (ns_seq hn), hv, hq⟩⟩

theorem Ex.comp {elt target iter : Expr} {ifs : List Expr} {scope : Scope} {pos spos py : Pos} {y : Str} (mC : Vars) {Q : AF → Vars → List AO → Prop}
    (hsw : ∀ env, EnvOK sc env → swapsWith (.ListComp elt [⟨target, iter, ifs, 0⟩] scope pos) (some (.Name y py)) spos.line env = pure true)
    (hcell : ∀ y ∈ scope.names, y.2 ≠ .cell) (hkind : scope.kind = .function) (hnames : ∀ x ∈ scope.names, x.2 = .local → scope.names.lookup x.1 = some .local)
    (h0 : scope.names.lookup (".0" : Str) = some .local) (hmC : ∀ x v, mC.lookup x = some v → m.lookup x = some v ∧ scope.names.lookup x = some .free ∧ sc.names.lookup x = some .cell)
    (hfree : ∀ n, (n, NameKind.free) ∈ scope.names → ∃ v, mC.lookup n = some v)
    (h : ItNew G k sc iter m H fun P H₁ => Co G k (relS scope sc) elt target iter ifs scope pos P H₁.length mC (H₁ ++ [.list []]) fun _ H' => As G k sc (.Name y py) (.ref H₁.length) m H' fun m' H'' => Q .next m' H'')
    (hs : ∀ env x, foldedSetIterable iter env x = pure x := by intro _ _; rfl) : Ex G k sc (.Assign [.Name y py] (.ListComp elt [⟨target, iter, ifs, 0⟩] scope pos) spos) m H Q := by
  intro A env ρ s he hr d V
  rw [exec_Assign_Name_used _ _ _ _ (hsw env he)]
  refine wpAny_bind (wpAny_standAt (wpAny_bind ?_))
  show wpAny _ A (do let _ ← comprehension (.ListComp elt [⟨target, iter, ifs, 0⟩] scope pos) scope env _ (newList []) false (eval iter env) (some (PySem.assign (.Name y py) env))) _ _ s
  refine wpAny_bind (wpAny_mono (comp_core (use := some (PySem.assign (.Name y py) env)) (Q := fun v H' => As G k sc (.Name y py) v m H' fun m' H'' => Q .next m' H'') (QQ := fun _ s' => PX G env ρ s Q .next s') he hr d V hcell hkind hnames h0 hmC hfree h hs ?_) (fun _ s' hq => wpAny_pure (wpAny_pure hq)) fun _ _ e => e)
  intro acc ρ' H' av s' C mc x' d' hv hq hn hC hCn hCb
  refine wpAny_mono (hq A env ρ' s' acc he hr d' (V.stepE x') hv) (fun _ s₂ hP => ?_) fun _ _ q => q
  obtain ⟨ρ₂, H₂, m₂, x₂, d₂, V₂, h₂⟩ := hP
  have hCo : C ∉ alls env := V.own_none hC
  obtain ⟨o, es, ep, ho, hd, hk, hf⟩ := hn
  have hn₂ : s₂.heap.Ns C mc := ⟨o, es, ep, x₂.keep _ _ ho hCn (fun q => hCo (own_sub q)), hd, hk, hf⟩
  refine ⟨mc, hn₂, fun h' hs' => ⟨ρ₂, H₂, m₂, .next, (x'.wide.trans x₂).apart hC hs', d₂.sameBut hs' hCb (x₂.notin hCn ho) (ns_seq hn₂), ?_, rfl, h₂⟩⟩
  have z : HSt none [C] ρ₂ s₂ ρ₂ { s₂ with heap := h' } := ⟨⟨[], by simp⟩, fun b o e q => (hs'.2 b fun q' => q (by simp [q'])).trans e, ⟨Nat.le_refl _, fun _ _ e _ => .inl e⟩, rfl⟩
  exact V₂.hid z (by simpa using hCo)
end Mine
end
section
open PySem PySem.W PyProof.Rows
set_option maxRecDepth 100000
namespace Mine
variable {G : Gl} {k : Nat} {sc : Scope} {m : Vars} {H : List AO}

/- a generator's own run -/
theorem Wd.triv {s : Shared} (h : ∀ b o, G.h₀.get? b = some o → s.heap.get? b = some o) : Wd G [] [] s := ⟨h, rfl, .nil, by simp, by simp⟩
noncomputable abbrev Un := List (Nat × Str)
structure GSince (hs : List Addr) (s₀ s : Shared) : Prop where
  keep : ∀ b o, s₀.heap.get? b = some o → b ∉ hs → s.heap.get? b = some o
  gens : ∃ ex : List GenState, s.gens.toList = s₀.gens.toList ++ ex ∧ ∀ g ∈ ex, g = .finished
  os : s.os = s₀.os
theorem GSince.refl {hs : List Addr} {s : Shared} : GSince hs s s := ⟨fun _ _ e _ => e, ⟨[], by simp⟩, rfl⟩
theorem GSince.step {hs : List Addr} {s₀ s : Shared} (x : GSince hs s₀ s) {h' : Heap} {tk : Nat} (hk : ∀ b o, s.heap.get? b = some o → b ∉ hs → h'.get? b = some o) : GSince hs s₀ { s with heap := h', toks := tk } :=
  ⟨fun b o e q => hk b o (x.keep b o e q) q, x.gens, x.os⟩
theorem GSince.stp {hs ρ' W : List Addr} {s₀ s s' : Shared} (x : GSince hs s₀ s) (y : Stp W [] s ρ' s') (hw : ∀ a ∈ W, a ∈ hs) : GSince hs s₀ s' := by
  refine ⟨fun b o e q => y.keep b o (x.keep b o e q) (by simp) fun h => q (hw b h), ?_, y.os.trans x.os⟩
  obtain ⟨ex, h1, h2⟩ := x.gens
  obtain ⟨ex', h3, h4⟩ := y.gens
  exact ⟨ex ++ ex', by rw [h3, h1]; simp, fun g hg => (List.mem_append.mp hg).elim (h2 g) (h4 g)⟩
noncomputable def gR (hs : List Addr) : GenEnd := fun n s₀ r s₁ => r = .ok (.ret .none) ∧ (n = 0 ∧ GSince hs s₀ s₁)
noncomputable def gY (G : Gl) (hs : List Addr) (all : Un) : Protocol := fun m s₀ v s kap => ∃ (T : Addr) (p : Nat) (u : Str) (t1 t2 : Tok) (n : Nat), all[all.length - 1 - m]? = some (p, u) ∧ v = .ref T ∧ s₀.heap.get? T = none ∧
  s.heap.get? T = some (tupOf #[.int p t1, .str u t2] n) ∧ GSince hs s₀ s ∧ (∀ b ∈ hs, ∃ o, s.heap.get? b = some o ∧ ∀ items n, o.data ≠ .seq items n) ∧
  ∀ s'' : Shared, (∀ b ∈ hs, ∀ o, s.heap.get? b = some o → s''.heap.get? b = some o) → (∀ b o, G.h₀.get? b = some o → s''.heap.get? b = some o) → kap (.send .none) s''
structure GOk (G : Gl) (env : Env) (m : Vars) (ks : List (Addr × Obj)) (s : Shared) : Prop where
  base : ∀ b o, G.h₀.get? b = some o → s.heap.get? b = some o
  vr : Vr G [] env m s
  ks : ∀ p ∈ ks, s.heap.get? p.1 = some p.2
structure GC (k : Nat) (A : Around) (c : Code) (fs : List Frame) (gd : Bool → Bool) : Prop where
  rm : Rm k (A.over c fs)
  sp : splitAtGen fs = none
  ng : fs.any Frame.guarded = false
  gd : gd false = false
structure GFix (sc : Scope) (hs : List Addr) (env : Env) (ks : List (Addr × Obj)) : Prop where
  he : EnvOK sc env
  cells : env.cells = []
  kin : ∀ p ∈ ks, p.1 ≠ env.locals
  cov : ∀ b ∈ hs, b = env.locals ∨ ∃ p ∈ ks, p.1 = b
  loc : env.locals ∈ hs
  kins : ∀ p ∈ ks, p.1 ∈ hs ∧ ∀ items n, p.2.data ≠ .seq items n
  co : sc.isCoroutine = false

theorem own_one {env : Env} (h : env.cells = []) : ∀ a ∈ alls env, a = env.locals := fun a ha => by
  rcases List.mem_cons.mp ha with q | q
  · exact q
  · rw [h] at q; cases q

noncomputable def GT (G : Gl) (k : Nat) (sc : Scope) (hs : List Addr) (all : Un) (t : Env → Sem Flow) (m : Vars) (ks : List (Addr × Obj)) (us : Un) (Q : AF → Vars → Un → Prop) : Prop :=
  ∀ A env c fs (K : Flow → Sem Fin) (Hh : Value → Sem Fin) (gd : Bool → Bool) (lv : List Value → List Value) s₀ s, GC k A c fs gd → GFix sc hs env ks → GOk G env m ks s → GSince hs s₀ s → (∃ pre, all = pre ++ us) →
    (∀ f fl m' us' s₀' s', Q f m' us' → FR [] f fl → GOk G env m' ks s' → GSince hs s₀' s' → (∃ pre, all = pre ++ us') → Seg G.M A (gR hs) (gY G hs all) us'.length s₀' c (K fl) fs s') →
    Seg G.M A (gR hs) (gY G hs all) us.length s₀ c ((t env).wrap K Hh gd lv) fs s

section
variable {hs : List Addr} {all us : Un} {ks : List (Addr × Obj)} {Q : AF → Vars → Un → Prop}
theorem GT.nil (h : Q .next m us) : GT G k sc hs all (execs []) m ks us Q :=
  fun _ _ _ _ _ _ _ _ _ _ _ _ ok x pr K => seg_execs_nil (K .next .next m us _ _ h rfl ok x pr)
theorem GT.cons {st : Stmt} {rest : List Stmt} (h : GT G k sc hs all (exec st) m ks us fun f m' us' => match f with | .next => GT G k sc hs all (execs rest) m' ks us' Q | f => Q f m' us') : GT G k sc hs all (execs (st :: rest)) m ks us Q := by
  intro A env c fs K Hh gd lv s₀ s hc hf ok x pr hK
  refine seg_execs_cons (h A env c fs _ Hh gd lv s₀ s hc hf ok x pr fun f fl m' us' s₀' s' hq hfl ok' x' pr' => ?_)
  cases f with
  | next => cases hfl; exact hq A env c fs K Hh gd lv s₀' s' hc hf ok' x' pr' hK
  | brk => cases hfl; exact hK .brk .brk m' us' s₀' s' hq rfl ok' x' pr'
  | cont => cases hfl; exact hK .cont .cont m' us' s₀' s' hq rfl ok' x' pr'
  | ret v => obtain ⟨cv, rfl, hv⟩ := hfl; exact hK (.ret v) (.ret cv) m' us' s₀' s' hq ⟨cv, rfl, hv⟩ ok' x' pr'

theorem ks_stp {env : Env} {ρ' W : List Addr} {s s' : Shared} (ok : GOk G env m ks s) (y : Stp W [] s ρ' s') (hw : ∀ a ∈ W, a = env.locals) (hk : ∀ p ∈ ks, p.1 ≠ env.locals) : ∀ p ∈ ks, s'.heap.get? p.1 = some p.2 :=
  fun p hp => y.keep _ _ (ok.ks p hp) (by simp) fun h => hk p hp (hw _ h)
theorem nil_of_len {ρ' : List Addr} {s' : Shared} (d : Wd G ρ' [] s') : ρ' = [] := List.length_eq_zero_iff.mp d.len

theorem GT.plain {st : Stmt} (h : Ex G k sc st m [] fun f m' H' => H' = [] ∧ Q f m' us) : GT G k sc hs all (exec st) m ks us Q := by
  intro A env c fs K Hh gd lv s₀ s hc hf ok x pr hK
  refine seg_wrap (wpAny_mono (h _ env [] s hf.he hc.rm (Wd.triv ok.base) ok.vr) (fun fl s' hP => ?_) fun _ _ q => q.elim)
  obtain ⟨ρ', H', m', af, y, d', V', hfl, e, hq⟩ := hP
  subst e
  have e := nil_of_len d'
  subst e
  have hw : ∀ a ∈ own env, a = env.locals := fun a ha => own_one hf.cells a (own_sub ha)
  exact hK af fl m' us s₀ s' hq hfl ⟨d'.base, V', ks_stp ok y hw hf.kin⟩ (x.stp y fun a ha => hw a ha ▸ hf.loc) pr
theorem GT.if {t : Expr} {a b : List Stmt} {pos : Pos} (h : Ts G k sc t m [] fun bb H' => H' = [] ∧ (bb = true → GT G k sc hs all (execs a) m ks us Q) ∧ (bb = false → GT G k sc hs all (execs b) m ks us Q)) : GT G k sc hs all (exec (.If t a b pos)) m ks us Q := by
  intro A env c fs K Hh gd lv s₀ s hc hf ok x pr hK
  rw [exec_If]
  refine seg_bind_wrap (wpAny_standAt ?_)
  refine seg_bind_wrap (wpAny_mono (h _ env [] s hf.he hc.rm (Wd.triv ok.base) ok.vr) (fun bb s' hP => ?_) fun _ _ q => q.elim)
  obtain ⟨ρ', H', y, d', e, h1, h2⟩ := hP
  subst e
  have e := nil_of_len d'
  subst e
  have ok' : GOk G env m ks s' := ⟨d'.base, ok.vr.stepE y, ks_stp ok y (by simp) hf.kin⟩
  have x' : GSince hs s₀ s' := x.stp y (by simp)
  cases bb with
  | true => exact h1 rfl A env c fs K Hh gd lv s₀ s' hc hf ok' x' pr hK
  | false => exact h2 rfl A env c fs K Hh gd lv s₀ s' hc hf ok' x' pr hK
theorem GT.yield {e : Expr} {yp pos : Pos} {p : Nat} {u : Str} (h : Ev G k sc e m [] fun v H' => v = .ref 0 ∧ H' = [.tup [.int p, .str u]]) (hq : Q .next m us) : GT G k sc hs all (exec (.Expr (.Yield (some e) yp) pos)) m ks ((p, u) :: us) Q := by
  intro A env c fs K Hh gd lv s₀ s hc hf ok x pr hK
  refine seg_Expr_Yield hc.sp hc.gd hc.ng (wpAny_mono (h _ env [] s hf.he hc.rm (Wd.triv ok.base) ok.vr) (fun v s' ⟨ρ', H', av, y, d', r, e1, e2⟩ kap hkap => ?_) fun _ _ q => q.elim) (by rw [hf.he.scope]; exact hf.co) (by unfold interactive; rw [hf.he.scope, hf.he.kind]; rfl)
  subst e1 e2
  obtain ⟨T, hT, rfl⟩ := r
  obtain ⟨T', hT', vs, n, hget, hvs⟩ := d'.at (k := 0) rfl
  rw [hT] at hT'; cases hT'
  cases hvs with
  | cons q1 hvs => cases hvs with
  | cons q2 hvs =>
  cases hvs
  obtain ⟨t1, rfl⟩ := q1
  obtain ⟨t2, rfl⟩ := q2
  have hloc : ∃ o, s'.heap.get? env.locals = some o ∧ ∀ items n, o.data ≠ .seq items n := by
    obtain ⟨mc, ⟨o, es, ep, ho, hd, _⟩, _⟩ := ok.vr.ns
    exact ⟨o, y.keep _ _ ho (by simp) (by simp), fun items n q => by rw [hd] at q; cases q⟩
  have hks := ks_stp ok y (by simp) hf.kin
  obtain ⟨pre, hpre⟩ := pr
  have hTs : s₀.heap.get? T = none := by
    obtain ⟨l, e, hl⟩ := y.ext
    have hTl : T ∈ l := by rw [List.nil_append] at e; rw [← e]; exact List.mem_of_getElem? hT
    have hsn := hl T hTl
    by_cases hh : T ∈ hs
    · rcases hf.cov T hh with q | ⟨pp, hp1, hp2⟩
      · obtain ⟨mc, ⟨o, _, _, ho, _⟩, _⟩ := ok.vr.ns
        rw [← q, hsn] at ho; cases ho
      · have := ok.ks pp hp1
        rw [hp2, hsn] at this; cases this
    · cases e : s₀.heap.get? T with
      | none => rfl
      | some o => have := x.keep T o e hh; rw [hsn] at this; cases this
  refine ⟨T, p, u, t1, t2, n, ?_, rfl, hTs, hget, x.stp y (by simp), fun b hb => ?_, fun s'' hk hb => ?_⟩
  · rw [hpre]
    have : (pre ++ (p, u) :: us).length - 1 - us.length = pre.length := by simp
    rw [this]; simp
  · rcases hf.cov b hb with q | ⟨pp, hp1, hp2⟩
    · rw [q]; exact hloc
    · exact ⟨pp.2, by rw [← hp2]; exact hks pp hp1, (hf.kins pp hp1).2⟩
  · refine hkap .none s'' ?_
    show Seg _ _ _ _ _ s'' _ _ _ s''
    have hl : ∀ o, s.heap.get? env.locals = some o → s''.heap.get? env.locals = some o := fun o ho => hk _ hf.loc o (y.keep _ _ ho (by simp) (by simp))
    have V'' : Vr G [] env m s'' := by
      obtain ⟨mc, ⟨o, es, ep, ho, r1, r2, r3⟩, hv⟩ := ok.vr.ns
      refine ⟨ok.vr.lfresh, ok.vr.lnin, ⟨mc, ⟨o, es, ep, hl o ho, r1, r2, r3⟩, hv⟩, fun z cc hz => ?_, ok.vr.has, ok.vr.inj, ok.vr.keys⟩
      rw [hf.cells] at hz; cases hz
    exact hK .next .next m us s'' s'' hq rfl ⟨hb, V'', fun pp hp => hk _ (hf.kins pp hp).1 _ (hks pp hp)⟩ GSince.refl ⟨pre ++ [(p, u)], by rw [hpre]; simp⟩
end

/- the for over enumerate(str), in a generator -/
theorem Draws.str {prog : Program} {w : World} {A : Around} (hh : A.handled = none) (it : Addr) (x : Str) (t : Tok) :
    Draws prog w A it [it] x.cps.size (fun i v => ∃ c u, x.cps[i]? = some c ∧ v = .str ⟨#[c]⟩ u) (fun i h => h.IsStrIter it (strIterType x) x t i) := by
  unfold strIterType
  by_cases q : (x.cps.all (· < 128)) = true
  · rw [if_pos q]; exact Draws.strAscii hh it x t
  · rw [if_neg q]; exact Draws.strWide hh it x t

structure GLF (G : Gl) (sc : Scope) (hs : List Addr) (env : Env) (E J : Addr) : Prop where
  he : EnvOK sc env
  cells : env.cells = []
  hse : hs = [env.locals, E, J]
  co : sc.isCoroutine = false
  EL : E ≠ env.locals
  JL : J ≠ env.locals
  EJ : E ≠ J
  hb : ∀ b ∈ hs, G.h₀.get? b = none
noncomputable def GL (G : Gl) (k : Nat) (sc : Scope) (hs : List Addr) (all : Un) (target : Expr) (body : List Stmt) (E J : Addr) (x : Str) (t : Tok) (i : Nat) (m : Vars) (us : Un) (Q : Vars → Un → Prop) : Prop :=
  ∀ A env fs kF gF lF cF pF kpF s₀ s old, GC k A (.forLoop target (.ref E) body [] env) (.ret kF none gF lF cF pF kpF :: fs) id → GLF G sc hs env E J →
    IsEnum s.heap E J i old → s.heap.IsStrIter J (strIterType x) x t i → GOk G env m [] s → GSince hs s₀ s → (∃ pre, all = pre ++ us) →
    (∀ m' us' s₀' s', Q m' us' → GOk G env m' [] s' → GSince hs s₀' s' → (∃ pre, all = pre ++ us') → Seg G.M A (gR hs) (gY G hs all) us'.length s₀' cF (kF (.ok .next)) fs s') →
    Seg G.M A (gR hs) (gY G hs all) us.length s₀ (.forLoop target (.ref E) body [] env) (G.M.den (.forLoop target (.ref E) body [] env)) (.ret kF none gF lF cF pF kpF :: fs) s

theorem vr_keep {env : Env} {s s' : Shared} (V : Vr G [] env m s) (hc : env.cells = []) (h : ∀ o, s.heap.get? env.locals = some o → s'.heap.get? env.locals = some o) : Vr G [] env m s' := by
  obtain ⟨mc, ⟨o, es, ep, ho, r1, r2, r3⟩, hv⟩ := V.ns
  refine ⟨V.lfresh, V.lnin, ⟨mc, ⟨o, es, ep, h o ho, r1, r2, r3⟩, hv⟩, fun z cc hz => ?_, V.has, V.inj, V.keys⟩
  rw [hc] at hz; cases hz

section
variable {hs : List Addr} {all us : Un} {E J : Addr} {x : Str} {t : Tok} {i : Nat} {Q : Vars → Un → Prop} {target : Expr} {body : List Stmt}
theorem den_for {env : Env} : G.M.den (.forLoop target (.ref E) body [] env) = (forTurn target (.ref E) body [] env).onRaise (fun x => do noteFrame x env; theTreesLotGoes x) := rfl

theorem GL.end (hi : i = x.cps.size) (h : Q m us) : GL G k sc hs all target body E J x t i m us Q := by
  intro A env fs kF gF lF cF pF kpF s₀ s old hc F hE hJ ok xs pr hK
  rw [den_for, Sem.onRaise_eq_wrap]
  unfold forTurn
  refine seg_bind_wrap (wpAny_standAt ?_)
  refine seg_bind_wrap (wpAny_onRaise ?_)
  subst hi
  have D := Draws.str (prog := G.prog) (w := G.w) (A := (A.over (.forLoop target (.ref E) body [] env) (.ret kF none gF lF cF pF kpF :: fs)).in1) hc.rm.handled J x t
  refine wpAny_pyNext_enum_endD D hE hJ fun h' hx => ?_
  refine seg_again rfl ?_
  show Seg _ _ _ _ _ _ _ (leafOf (.ok .next)) _ _
  refine seg_leaf (.ok .next) ?_
  have hJm : J ∈ hs := by rw [F.hse]; simp
  have hJb := F.hb J hJm
  refine hK m us s₀ _ h ⟨fun b o e => hx b o (fun q => by rw [q, hJb] at e; cases e) (ok.base b o e), vr_keep ok.vr F.cells fun o ho => hx _ _ (Ne.symm F.JL) ho, by simp⟩ (xs.step (tk := s.toks) fun b o e q => hx b o (fun q' => q (q' ▸ hJm)) e) pr

theorem GL.item {ts : List Expr} {kk : Nat} {tp : Pos} {c : Nat} (hx : x.cps[i]? = some c) (hn : ts.length = 2) (hst : ∀ t ∈ ts, ∀ (e : Expr) (p : Pos), t ≠ .Starred e p)
    (h : AsIn G k sc ts [.int i, .str ⟨#[c]⟩] m [] fun m₁ H₁ => H₁ = [] ∧ ∀ ks, GT G k sc hs all (execs body) m₁ ks us fun f m₂ us₂ => (f = .next ∨ f = .cont) ∧ GL G k sc hs all (.Tuple ts kk tp) body E J x t (i + 1) m₂ us₂ Q) :
    GL G k sc hs all (.Tuple ts kk tp) body E J x t i m us Q := by
  intro A env fs kF gF lF cF pF kpF s₀ s old hc F hE hJ ok xs pr hK
  rw [den_for, Sem.onRaise_eq_wrap]
  unfold forTurn
  refine seg_bind_wrap (wpAny_standAt ?_)
  refine seg_bind_wrap (wpAny_onRaise ?_)
  have hlt : i < x.cps.size := (Array.getElem?_eq_some_iff.mp hx).1
  have D := Draws.str (prog := G.prog) (w := G.w) (A := (A.over (.forLoop (.Tuple ts kk tp) (.ref E) body [] env) (.ret kF none gF lF cF pF kpF :: fs)).in1) hc.rm.handled J x t
  have hEm : E ∈ hs := by rw [F.hse]; simp
  have hJm : J ∈ hs := by rw [F.hse]; simp
  refine wpAny_pyNext_enum_itemD D hE hJ hlt F.EJ (by simpa using F.EJ) fun y h' tk hP q1 q2 q3 q4 q5 => ?_
  obtain ⟨c', u, hc', rfl⟩ := hP
  rw [hx] at hc'; cases hc'
  refine seg_bind_wrap (wpAny_letOwnedTupleGo_enum q1 fun h'' r1 r2 => ?_)
  have hEl : E < s.heap.objs.size := Heap.lt_size hE
  have hT : h''.get? s.heap.objs.size = some { cls := .type "tuple", data := .seq #[.int i tk, .str ⟨#[c]⟩ u] } := (r2.2 _ (Nat.ne_of_gt hEl)).trans q3
  have keep : ∀ b o, s.heap.get? b = some o → b ≠ E → b ≠ J → h''.get? b = some o := fun b o e n1 n2 => (r2.2 b n1).trans (q5 b o n1 n2 e)
  have base₁ : ∀ b o, G.h₀.get? b = some o → h''.get? b = some o := fun b o e => keep b o (ok.base b o e) (fun q => by rw [q, F.hb E hEm] at e; cases e) fun q => by rw [q, F.hb J hJm] at e; cases e
  have V₁ : Vr G [] env m { s with heap := h'', toks := tk + 1 } := vr_keep ok.vr F.cells fun o ho => keep _ o ho (Ne.symm F.EL) (Ne.symm F.JL)
  have hst₁ : h''.IsStrIter J (strIterType x) x t (i + 1) := by obtain ⟨o, ho, r⟩ := q2; exact ⟨o, (r2.2 _ (Ne.symm F.EJ)).trans ho, r⟩
  refine seg_bind_wrap (wpAny_assign_Tuple hc.rm.handled (t := s.heap.objs.size) (items := #[.int i tk, .str ⟨#[c]⟩ u]) ⟨_, hT, rfl, _, rfl⟩ (by rw [assignEach_length, hn]; rfl) (assignEach_star hst) fun h₃ hx₃ => ?_)
  have kp₃ := ext_keeps hx₃
  have st₃ : Stp [] [] { s with heap := h'', toks := tk + 1 } [] { s with heap := h₃, toks := tk + 1 } := Stp.keeps (s := { s with heap := h'', toks := tk + 1 }) (tk := tk + 1) kp₃
  refine wpAny_mono (h.sound hst _ env [] { s with heap := h₃, toks := tk + 1 } [.int i tk, .str ⟨#[c]⟩ u] F.he hc.rm (Wd.triv fun b o e => kp₃ b o (base₁ b o e)) (V₁.stepE st₃) (.cons ⟨_, rfl⟩ (.cons ⟨_, rfl⟩ .nil))) (fun _ s₄ hP => ?_) fun _ _ q => q.elim
  obtain ⟨ρ₄, H₄, m₄, x₄, d₄, V₄, e₄, h₄⟩ := hP
  subst e₄
  have e := nil_of_len d₄
  subst e
  have hw : ∀ a ∈ own env, a = env.locals := fun a ha => own_one F.cells a (own_sub ha)
  have hE₄ : s₄.heap.get? E = h''.get? E := by
    have : h''.get? E = some { cls := .type "enumerate", dict := none, data := .fields #[.none, .bool false, .ref J, rawInt ((i : Int) + 1), .none, .str ⟨#[c]⟩ u], slots := #[] } := r1
    rw [this]; exact x₄.keep _ _ (kp₃ _ _ this) (by simp) fun q => F.EL (hw _ q)
  obtain ⟨oJ, hoJ, rJ⟩ := hst₁
  have hJ₄ : s₄.heap.get? J = some oJ := x₄.keep _ _ (kp₃ _ _ hoJ) (by simp) fun q => F.JL (hw _ q)
  have xs₃ : GSince hs s₀ { s with heap := h₃, toks := tk + 1 } := xs.step fun b o e q => kp₃ _ _ (keep b o e (fun q' => q (q' ▸ hEm)) fun q' => q (q' ▸ hJm))
  have xs₄ : GSince hs s₀ s₄ := xs₃.stp x₄ fun a ha => by rw [hw a ha, F.hse]; simp
  rw [Sem.bind_eq_wrap', Sem.wrap_wrap]
  have oE : s₄.heap.get? E = some { cls := .type "enumerate", dict := none, data := .fields #[.none, .bool false, .ref J, rawInt ((i : Int) + 1), .none, .str ⟨#[c]⟩ u], slots := #[] } := hE₄.trans r1
  obtain ⟨o1, ho1, e1⟩ : ∃ o : Obj, s₄.heap.get? E = some o ∧ o = { cls := .type "enumerate", dict := none, data := .fields #[.none, .bool false, .ref J, rawInt ((i : Int) + 1), .none, .str ⟨#[c]⟩ u], slots := #[] } := ⟨_, oE, rfl⟩
  refine h₄ [(E, o1), (J, oJ)] A env _ _ _ _ _ _ s₀ s₄ ⟨hc.rm, hc.sp, hc.ng, rfl⟩ ⟨F.he, F.cells, ?_, ?_, by rw [F.hse]; simp, ?_, F.co⟩ ⟨d₄.base, V₄, ?_⟩ xs₄ pr fun f fl m₅ us₅ s₀' s₅ ⟨hf, h₅⟩ hfl ok₅ x₅ pr₅ => ?_
  · intro p hp
    simp at hp
    rcases hp with q | q
    · rw [q]; exact F.EL
    · rw [q]; exact F.JL
  · intro b hb
    rw [F.hse] at hb; simp at hb
    rcases hb with q | q | q
    · exact .inl q
    · exact .inr ⟨_, .head _, q.symm⟩
    · exact .inr ⟨_, .tail _ (.head _), q.symm⟩
  · intro p hp
    simp at hp
    rcases hp with q | q
    · rw [q]; exact ⟨hEm, fun items n e => by rw [e1] at e; cases e⟩
    · rw [q]; exact ⟨hJm, fun items n e => by rw [rJ.2] at e; cases e⟩
  · intro p hp
    simp at hp
    rcases hp with q | q
    · rw [q]; exact ho1
    · rw [q]; exact hJ₄
  · have hE₅ : IsEnum s₅.heap E J ((i + 1 : Nat) : Int) (.str ⟨#[c]⟩ u) := by
      have := ok₅.ks _ (.head _)
      rw [e1] at this
      have e : ((i : Int) + 1) = ((i + 1 : Nat) : Int) := by lia
      rw [← e]; exact this
    have hJ₅ : s₅.heap.IsStrIter J (strIterType x) x t (i + 1) := ⟨oJ, ok₅.ks _ (.tail _ (.head _)), rJ⟩
    have fl' : fl = .next ∨ fl = .cont := by
      rcases hf with q | q
      · subst q; cases hfl; exact .inl rfl
      · subst q; cases hfl; exact .inr rfl
    have ok' : GOk G env m₅ [] s₅ := ⟨ok₅.base, ok₅.vr, by simp⟩
    rcases fl' with q | q
    · subst q; exact seg_again rfl (h₅ A env fs kF gF lF cF pF kpF s₀' s₅ _ hc F hE₅ hJ₅ ok' x₅ pr₅ hK)
    · subst q; exact seg_again rfl (h₅ A env fs kF gF lF cF pF kpF s₀' s₅ _ hc F hE₅ hJ₅ ok' x₅ pr₅ hK)
end
end Mine
end
section
open PySem PySem.W PyProof.Rows
set_option maxRecDepth 100000
namespace Mine
variable {G : Gl} {k : Nat} {sc : Scope} {m : Vars} {H : List AO}

noncomputable def LiveNS (h : Heap) (b : Addr) : Prop := ∃ o, h.get? b = some o ∧ ∀ items n, o.data ≠ .seq items n
inductive ItG (G : Gl) (all : Un) (j : Nat) (A : Around) (ρ : List Addr) (s : Shared) (I : Addr) (hs : List Addr) (g : Option Nat) : Prop
  | mk (n : Nat) (L E J : Addr) (gs : GenState) (e1 : g = some n) (e2 : hs = [I, L, E, J]) (ne : I ∉ [L, E, J]) (hg : s.heap.IsGen I n) (hgs : s.gens[n]? = some gs) (hl : ∀ b ∈ [L, E, J], LiveNS s.heap b)
    (go : ∀ s'' : Shared, (∀ b ∈ [L, E, J], ∀ o, s.heap.get? b = some o → s''.heap.get? b = some o) → (∀ b o, G.h₀.get? b = some o → s''.heap.get? b = some o) →
      gs.Goes G.M A.in1 (gR [L, E, J]) (gY G [L, E, J] all) (all.length - j) (.send .none) s'')
inductive ItG0 (G : Gl) (all : Un) (A : Around) (ρ : List Addr) (s : Shared) (I : Addr) (hs : List Addr) (g : Option Nat) : Prop
  | mk (n : Nat) (L : Addr) (gs : GenState) (e1 : g = some n) (e2 : hs = [I, L]) (ne : I ≠ L) (hg : s.heap.IsGen I n) (hgs : s.gens[n]? = some gs) (hl : LiveNS s.heap L)
    (go : ∀ s'' : Shared, (∀ o, s.heap.get? L = some o → s''.heap.get? L = some o) → (∀ b o, G.h₀.get? b = some o → s''.heap.get? b = some o) →
      gs.Goes G.M A.in1 (gR [L, s''.heap.objs.size + 1, s''.heap.objs.size]) (gY G [L, s''.heap.objs.size + 1, s''.heap.objs.size] all) all.length (.send .none) s'')
theorem gen_live {h : Heap} {I : Addr} {n : Nat} (x : h.IsGen I n) : LiveNS h I := by
  obtain ⟨o, nm, qn, ho, hc, hd, _⟩ := x
  exact ⟨o, ho, fun items n q => by rw [hd] at q; cases q⟩
theorem ItG.pers {all : Un} {j : Nat} : Pers G (ItG G all j) where
  step := fun A W ρ s ρ' s' I hs g x hn hP => by
    obtain ⟨n, L, E, J, gs, e1, e2, ne, hg, hgs, hl, go⟩ := hP
    subst e2
    have kp : ∀ b ∈ [I, L, E, J], ∀ o, s.heap.get? b = some o → s'.heap.get? b = some o := fun b hb o ho => x.keep _ _ ho (hn b hb).1 (hn b hb).2
    refine ⟨n, L, E, J, gs, e1, rfl, ne, ?_, x.gen hgs, fun b hb => ?_, fun s'' h1 h2 => go s'' (fun b hb o ho => h1 b hb o (kp b (.tail _ hb) o ho)) h2⟩
    · obtain ⟨o, nm, qn, ho, r⟩ := hg
      exact ⟨o, nm, qn, kp I (.head _) o ho, r⟩
    · obtain ⟨o, ho, r⟩ := hl b hb
      exact ⟨o, kp b (.tail _ hb) o ho, r⟩
  live := fun A ρ s I hs g hP b hb => by
    obtain ⟨n, L, E, J, gs, e1, e2, ne, hg, hgs, hl, go⟩ := hP
    subst e2
    rcases List.mem_cons.mp hb with q | q
    · subst q; obtain ⟨o, ho, _⟩ := gen_live hg; exact ⟨o, ho⟩
    · obtain ⟨o, ho, _⟩ := hl b q; exact ⟨o, ho⟩
  self := fun A ρ s I hs g Q hP hq => by
    obtain ⟨n, L, E, J, gs, e1, e2, ne, hg, hgs, hl, go⟩ := hP
    exact wpAny_pyIter_gen hg hq
theorem ItG0.pers {all : Un} : Pers G (ItG0 G all) where
  step := fun A W ρ s ρ' s' I hs g x hn hP => by
    obtain ⟨n, L, gs, e1, e2, ne, hg, hgs, hl, go⟩ := hP
    subst e2
    have kp : ∀ b ∈ [I, L], ∀ o, s.heap.get? b = some o → s'.heap.get? b = some o := fun b hb o ho => x.keep _ _ ho (hn b hb).1 (hn b hb).2
    refine ⟨n, L, gs, e1, rfl, ne, ?_, x.gen hgs, ?_, fun s'' h1 h2 => go s'' (fun o ho => h1 o (kp L (.tail _ (.head _)) o ho)) h2⟩
    · obtain ⟨o, nm, qn, ho, r⟩ := hg
      exact ⟨o, nm, qn, kp I (.head _) o ho, r⟩
    · obtain ⟨o, ho, r⟩ := hl
      exact ⟨o, kp L (.tail _ (.head _)) o ho, r⟩
  live := fun A ρ s I hs g hP b hb => by
    obtain ⟨n, L, gs, e1, e2, ne, hg, hgs, hl, go⟩ := hP
    subst e2
    simp at hb
    rcases hb with q | q
    · subst q; obtain ⟨o, ho, _⟩ := gen_live hg; exact ⟨o, ho⟩
    · subst q; obtain ⟨o, ho, _⟩ := hl; exact ⟨o, ho⟩
  self := fun A ρ s I hs g Q hP hq => by
    obtain ⟨n, L, gs, e1, e2, ne, hg, hgs, hl, go⟩ := hP
    exact wpAny_pyIter_gen hg hq
theorem ne_z {a z : Addr} (h : a < z) : a ≠ z := Nat.ne_of_lt h
theorem ne_z1 {a z : Addr} (h : a < z) : a ≠ z + 1 := Nat.ne_of_lt (Nat.lt_succ_of_lt h)
theorem lotg_gen {A : Around} {s : Shared} {I T : Addr} {n : Nat} {elts : List Expr} {x1 : Nat} {pos : Pos} {Q : Unit → Shared → Prop} {E : Value → Shared → Prop} (hg : s.heap.IsGen I n) (h : Q () s) :
    wpAny G.M A (letOwnedTupleGo (.Tuple elts x1 pos) (.ref I) (.ref T)) Q E s := by
  obtain ⟨o, nm, qn, ho, hc, hd, _⟩ := hg
  unfold letOwnedTupleGo
  refine wpAny_bind (wpAny_load ho ?_)
  rw [hc, hd]
  dsimp only
  rw [if_neg (by simp)]
  exact wpAny_pure h

theorem size_setGen (s : Shared) (n : Nat) (x : GenState) : (s.setGen n x).gens.size = s.gens.size := by simp [Shared.setGen]
theorem ne_setGen (s : Shared) {n i : Nat} (x : GenState) (h : i ≠ n) : (s.setGen n x).gens[i]? = s.gens[i]? := by simp [Shared.setGen, Ne.symm h]
theorem self_setGen {s : Shared} {g : Nat} {x : GenState} (h : g < s.gens.size) : (s.setGen g x).gens[g]? = some x := by simp [Shared.setGen, h]

theorem gens_step {s s₁ : Shared} {n : Nat} {gs x : GenState} {hs : List Addr} (hgs : s.gens[n]? = some gs) (xs : GSince hs (s.setGen n .running) s₁) :
    (s.gens.size ≤ (s₁.setGen n x).gens.size ∧ ∀ i y, (s₁.setGen n x).gens[i]? = some y → some i ≠ some n → s.gens[i]? = some y ∨ (s.gens.size ≤ i ∧ y = .finished)) ∧ (s₁.setGen n x).gens[n]? = some x := by
  obtain ⟨ex, h1, h2⟩ := xs.gens
  have hlt : n < s.gens.size := by
    rcases Nat.lt_or_ge n s.gens.size with h' | h'
    · exact h'
    · rw [Array.getElem?_eq_none h'] at hgs; cases hgs
  have hsz : s₁.gens.size = s.gens.size + ex.length := by
    have := congrArg List.length h1
    rw [List.length_append, Array.length_toList, Array.length_toList, size_setGen] at this
    exact this
  refine ⟨⟨by rw [size_setGen]; lia, fun i y hy hne => ?_⟩, self_setGen (by lia)⟩
  have hne' : i ≠ n := fun e => hne (by rw [e])
  rw [ne_setGen _ _ hne'] at hy
  have hy' : s₁.gens.toList[i]? = some y := by simpa using hy
  rw [h1] at hy'
  by_cases q : i < s.gens.size
  · rw [List.getElem?_append_left (by simpa [size_setGen] using q)] at hy'
    have : (s.setGen n .running).gens[i]? = some y := by simpa using hy'
    rw [ne_setGen _ _ hne'] at this
    exact .inl this
  · rw [List.getElem?_append_right (by simpa [size_setGen] using q)] at hy'
    exact .inr ⟨by lia, h2 y (List.mem_of_getElem? hy')⟩

theorem nolim {s : Shared} {ρ : List Addr} (d : Wd G ρ H s) : s.heap.NoLimit := G.nl.keeps d.base

theorem NxEnd.gen {all : Un} {j : Nat} (hj : all.length ≤ j) : NxEnd G k (ItG G all j) H := by
  rintro A ρ s I hs g hr d ⟨n, L, E, J, gs, rfl, rfl, ne, hg, hgs, hl, go⟩ hn hb
  have e0 : all.length - j = 0 := Nat.sub_eq_zero_of_le hj
  rw [e0] at go
  refine wpAny_pyNext_gen (n := 0) (P := fun n s₀ s₁ => n = 0 ∧ GSince [L, E, J] s₀ s₁) (Y := gY G [L, E, J] all) hr.handled (nolim d) hr.room hg hgs (go (s.setGen n .running) (fun _ _ _ e => e) d.base) (fun v s₁ gs' hv => ?_) (fun s₁ hp h' hk => ?_)
  · obtain ⟨T, p, u, t1, t2, c, _, _, _, _, xs, _, hkap⟩ := hv
    refine (hkap s₁ (fun _ _ _ e => e) fun b o e => xs.keep b o (d.base b o e) fun q => ?_).elim
    rw [hb b (.tail _ q)] at e; cases e
  · obtain ⟨_, xs⟩ := hp
    obtain ⟨z1, z2⟩ := gens_step (x := .finished) hgs xs
    have keep : ∀ b o, s.heap.get? b = some o → b ∉ [I, L, E, J] → h'.get? b = some o := fun b o e q => hk _ _ (xs.keep b o e fun q' => q (.tail _ q'))
    refine ⟨rfl, ⟨⟨[], by simp⟩, keep, z1, xs.os⟩, d.hids keep hb hn fun a ha o items c e q => ?_, fun n' e => by cases e; exact z2⟩
    rcases List.mem_cons.mp ha with q' | q'
    · subst q'; obtain ⟨o', ho', r⟩ := gen_live hg; rw [ho'] at e; cases e; exact r items c q
    · obtain ⟨o', ho', r⟩ := hl a q'; rw [ho'] at e; cases e; exact r items c q

theorem sub_mm {n j : Nat} (h : j < n) : ∃ mm, n - j = mm + 1 ∧ n - 1 - (mm + 1 - 1) = j ∧ n - (j + 1) = mm := ⟨n - j - 1, by lia, by lia, by lia⟩
theorem NxItem.gen {target : Expr} {all : Un} {j : Nat} {p : Nat} {u : Str} (hj : all[j]? = some (p, u))
    (ht : ∀ A I T n s (Q : Unit → Shared → Prop), s.heap.IsGen I n → Q () s → wpAny G.M A (letOwnedTupleGo target (.ref I) (.ref T)) Q NoE s := by intro _ _ _ _ _ _ h1 h2; exact lotg_gen h1 h2) :
    NxItem G k target (ItG G all j) (ItG G all (j + 1)) H (H ++ [.tup [.int p, .str u]]) (.ref H.length) := by
  rintro A ρ s I hs g hr d ⟨n, L, E, J, gs, rfl, rfl, ne, hg, hgs, hl, go⟩ hn hb
  have hlt : j < all.length := (List.getElem?_eq_some_iff.mp hj).1
  obtain ⟨mm, hmm, hm1, hm2⟩ := sub_mm (List.getElem?_eq_some_iff.mp hj).1
  rw [hmm] at go
  refine wpAny_pyNext_gen (n := mm + 1) (P := fun n s₀ s₁ => n = 0 ∧ GSince [L, E, J] s₀ s₁) (Y := gY G [L, E, J] all) hr.handled (nolim d) hr.room hg hgs (go (s.setGen n .running) (fun _ _ _ e => e) d.base) (fun v s₁ gs' hv => ?_) (fun s₁ hp h' hk => ?_)
  · obtain ⟨T, p', u', t1, t2, c, hidx, rfl, hT0, hT, xs, hl₁, hkap⟩ := hv
    have e1 : all.length - 1 - (mm + 1 - 1) = j := hm1
    rw [e1, hj] at hidx
    cases hidx
    obtain ⟨z1, z2⟩ := gens_step (x := gs') hgs xs
    have keep : ∀ b o, s.heap.get? b = some o → b ∉ [I, L, E, J] → s₁.heap.get? b = some o := fun b o e q => xs.keep b o e fun q' => q (.tail _ q')
    have hg₁ : s₁.heap.IsGen I n := by obtain ⟨o, nm, qn, ho, r⟩ := hg; exact ⟨o, nm, qn, xs.keep I o ho ne, r⟩
    have hT0' : s.heap.get? T = none := hT0
    refine ⟨.ref T, rfl, ht A I T n (s₁.setGen n gs') _ hg₁ ⟨ρ ++ [T], [I, L, E, J], ⟨⟨_, rfl, by simpa using hT0'⟩, keep, z1, xs.os⟩, ?_, ⟨_, by rw [← d.len]; simp, rfl⟩, ?_, fun a ha => ⟨fun hm => ?_, .inl ha⟩⟩⟩
    · refine d.hidPush keep hb hn (fun a ha o items c e q => ?_) hT0' ⟨[.int p t1, .str u t2], c, hT, .cons ⟨_, rfl⟩ (.cons ⟨_, rfl⟩ .nil)⟩
      rcases List.mem_cons.mp ha with q' | q'
      · subst q'; obtain ⟨o', ho', r⟩ := gen_live hg; rw [ho'] at e; cases e; exact r items c q
      · obtain ⟨o', ho', r⟩ := hl a q'; rw [ho'] at e; cases e; exact r items c q
    · refine ⟨n, L, E, J, gs', rfl, rfl, ne, hg₁, z2, hl₁, fun s'' h1 h2 => ?_⟩
      have e2 : all.length - (j + 1) = mm := hm2
      rw [e2]
      exact hkap s'' h1 h2
    · rcases List.mem_append.mp hm with q | q
      · exact hn a ha q
      · simp at q; subst q
        rcases List.mem_cons.mp ha with q' | q'
        · subst q'; obtain ⟨o', ho', r⟩ := gen_live hg; rw [hT0'] at ho'; cases ho'
        · obtain ⟨o', ho', r⟩ := hl _ q'; rw [hT0'] at ho'; cases ho'
  · exact absurd hp.1 (Nat.succ_ne_zero mm)

theorem NxItem.gen0 {target : Expr} {all : Un} {p : Nat} {u : Str} (hj : all[0]? = some (p, u))
    (ht : ∀ A I T n s (Q : Unit → Shared → Prop), s.heap.IsGen I n → Q () s → wpAny G.M A (letOwnedTupleGo target (.ref I) (.ref T)) Q NoE s := by intro _ _ _ _ _ _ h1 h2; exact lotg_gen h1 h2) :
    NxItem G k target (ItG0 G all) (ItG G all 1) H (H ++ [.tup [.int p, .str u]]) (.ref H.length) := by
  rintro A ρ s I hs g hr d ⟨n, L, gs, rfl, rfl, ne, hg, hgs, hl, go⟩ hn hb
  have hlt : 0 < all.length := (List.getElem?_eq_some_iff.mp hj).1
  obtain ⟨mm, hmm, hm1, hm2⟩ := sub_mm (List.getElem?_eq_some_iff.mp hj).1
  rw [Nat.sub_zero] at hmm
  have go' := go (s.setGen n .running) (fun _ e => e) d.base
  have hz : (s.setGen n .running).heap.objs.size = s.heap.objs.size := rfl
  rw [hz, hmm] at go'
  have lI : I < s.heap.objs.size := by obtain ⟨o', ho', _⟩ := gen_live hg; exact Heap.lt_size ho'
  have lL : L < s.heap.objs.size := by obtain ⟨o', ho', _⟩ := hl; exact Heap.lt_size ho'
  have zI : I ∉ [L, s.heap.objs.size + 1, s.heap.objs.size] := by
    simp; exact ⟨ne, ne_z1 lI, ne_z lI⟩
  refine wpAny_pyNext_gen (n := mm + 1) (P := fun n s₀ s₁ => n = 0 ∧ GSince [L, s.heap.objs.size + 1, s.heap.objs.size] s₀ s₁) (Y := gY G [L, s.heap.objs.size + 1, s.heap.objs.size] all) hr.handled (nolim d) hr.room hg hgs go' (fun v s₁ gs' hv => ?_) (fun s₁ hp h' hk => ?_)
  · obtain ⟨T, p', u', t1, t2, c, hidx, rfl, hT0, hT, xs, hl₁, hkap⟩ := hv
    have e1 : all.length - 1 - (mm + 1 - 1) = 0 := hm1
    rw [e1, hj] at hidx
    cases hidx
    obtain ⟨z1, z2⟩ := gens_step (x := gs') hgs xs
    have keep : ∀ b o, s.heap.get? b = some o → b ∉ [I, L] → s₁.heap.get? b = some o := fun b o e q => xs.keep b o e fun q' => by
      have := Heap.lt_size e
      simp at q' q
      rcases q' with q' | q' | q'
      · exact q.2 q'
      · exact ne_z1 this q'
      · exact ne_z this q'
    have hg₁ : s₁.heap.IsGen I n := by obtain ⟨o, nm, qn, ho, r⟩ := hg; exact ⟨o, nm, qn, xs.keep I o ho zI, r⟩
    have hT0' : s.heap.get? T = none := hT0
    have old : ∀ a ∈ [I, L], LiveNS s.heap a := fun a ha => by
      simp at ha
      rcases ha with q' | q'
      · rw [q']; exact gen_live hg
      · rw [q']; exact hl
    have hTI : T ∉ [I, L, s.heap.objs.size + 1, s.heap.objs.size] := fun hm => by
      rcases List.mem_cons.mp hm with q | q
      · obtain ⟨o', ho', _⟩ := gen_live hg; rw [← q, hT0'] at ho'; cases ho'
      · obtain ⟨o', ho', r⟩ := hl₁ T q
        rw [hT] at ho'; cases ho'
        exact r _ _ rfl
    refine ⟨.ref T, rfl, ht A I T n (s₁.setGen n gs') _ hg₁ ⟨ρ ++ [T], [I, L, s.heap.objs.size + 1, s.heap.objs.size], ⟨⟨_, rfl, by simpa using hT0'⟩, keep, z1, xs.os⟩, ?_, ⟨_, by rw [← d.len]; simp, rfl⟩, ?_, fun a ha => ⟨fun hm => ?_, ?_⟩⟩⟩
    · refine d.hidPush keep hb hn (fun a ha o items c e q => ?_) hT0' ⟨[.int p t1, .str u t2], c, hT, .cons ⟨_, rfl⟩ (.cons ⟨_, rfl⟩ .nil)⟩
      obtain ⟨o', ho', r⟩ := old a ha; rw [ho'] at e; cases e; exact r items c q
    · refine ⟨n, L, _, _, gs', rfl, rfl, zI, hg₁, z2, hl₁, fun s'' h1 h2 => ?_⟩
      have e2 : all.length - 1 = mm := hm2
      rw [e2]
      exact hkap s'' h1 h2
    · rcases List.mem_append.mp hm with q | q
      · simp at ha
        rcases ha with q' | q' | q' | q'
        · exact hn a (by simp [q']) q
        · exact hn a (by simp [q']) q
        · obtain ⟨o', ho'⟩ := d.alive q; exact ne_z1 (Heap.lt_size ho') q'
        · obtain ⟨o', ho'⟩ := d.alive q; exact ne_z (Heap.lt_size ho') q'
      · simp at q; subst q; exact hTI ha
    · simp at ha
      rcases ha with q' | q' | q' | q'
      · exact .inl (by simp [q'])
      · exact .inl (by simp [q'])
      · rw [q']; exact .inr fresh_none1
      · rw [q']; exact .inr fresh_none
  · exact absurd hp.1 (Nat.succ_ne_zero mm)
end Mine
end
section
open PySem PySem.W PyProof.Rows
set_option maxRecDepth 100000
namespace Mine
variable {G : Gl} {k : Nat} {sc : Scope} {m : Vars} {H : List AO}

noncomputable abbrev hsAt (env : Env) (s : Shared) : List Addr := [env.locals, s.heap.objs.size + 1, s.heap.objs.size]
noncomputable def GenOk (G : Gl) (k : Nat) (sc : Scope) (body : List Stmt) (px : Str) (x : Str) (all : Un) : Prop :=
  ∀ A env s, EnvOK sc env → env.cells = [] → Rm k (A.over (.func body env) []) → Vr G [] env [(px, .str x)] s → (∀ b o, G.h₀.get? b = some o → s.heap.get? b = some o) →
    Seg G.M A (gR (hsAt env s)) (gY G (hsAt env s) all) all.length s (.func body env) (G.M.den (.func body env)) [] s

theorem Rm.gen {A : Around} {body : List Stmt} {env : Env} (h : Rm (k + 1) A) : Rm k (A.in1.over (.func body env) []) :=
  ⟨h.handled, by have := h.depth; show A.depth + 0 + 1 + k < 800; lia, by have := h.units; show A.units + 1 + 0 + 3 + 100 * k + 100 < 9000; lia⟩

theorem ItNew.gen {f px : Str} {np : Pos} {e : Expr} {pos : Pos} {K : ItP → List AO → Prop} {a : Addr} {o : Obj} {fd : FuncData} {body : List Stmt} {all : Str → Un} (hm : G.mg f = some (.ref a)) (ho : G.h₀.get? a = some o) (hd : o.data = .func fd)
    (hl : sc.names.lookup f = some .globalImplicit) (hcd : G.h₀.CodeRec fd.code fd.qualname) (hbody : fd.body = .stmts body) (hbind : ∀ v : Value, bindArgs fd ⟨[v], []⟩ = pure [(px, v)])
    (hcell : ∀ x ∈ fd.scope.names, x.2 ≠ .cell) (hloc : fd.scope.names.lookup px = some .local) (hok : NameOk px) (hg : fd.globals = mainGlobals) (hb : fd.builtins = builtinsNs) (hcl : fd.closure = [])
    (hco : fd.scope.isCoroutine = false) (hgen : fd.scope.isGenerator = true) (hk : fd.scope.kind = .function)
    (h : Ev G (k + 1) sc e m H fun v H₁ => ∃ x, v = .str x ∧ GenOk G k fd.scope body px x (all x) ∧ K (ItG0 G (all x)) H₁)
    (he' : ∀ env, starEach [e] env = [(false, eval e env)] := by intro _; rfl)
    (hc : ∀ env, eval (.Call (.Name f np) [e] [] pos) env = (do callWith pos (← eval (.Name f np) env) [] (backTo pos (starEach [e] env)) (backToKw pos (keywordEach [] env))) := by intro _; rfl)
    (hd' : (f == ("__debug__" : Str)) = false := by decide) :
    ItNew G (k + 1) sc (.Call (.Name f np) [e] [] pos) m H K := by
  intro A env ρ s he hr d V
  refine Call_ (PE.map ((Ev.global (pos := np) hm hl (Q := fun fv H₁ => fv = .con (.ref a) ∧ H₁ = H) ⟨rfl, rfl⟩ hd') A env ρ s he hr d V) fun v s₁ ρ₁ H₁ av x₁ d₁ r₁ h₁ => ?_) (hc env)
  obtain ⟨rfl, rfl⟩ := h₁
  cases r₁
  have hev : Evs G (k + 1) sc [e] m H₁ fun vs H₂ => ∃ x, vs = [.str x] ∧ GenOk G k fd.scope body px x (all x) ∧ K (ItG0 G (all x)) H₂ := Evs.cons (Ev.mono h fun v H₂ ⟨x, hx, r⟩ => Evs.nil ⟨x, by rw [hx], r⟩) he'
  refine callWith_def hd (wpAny_mono (hev A env ρ₁ s₁ pos he hr d₁ (V.stepE x₁)) (fun vs s₂ hP => ?_) fun _ _ q => q) (he' env)
  obtain ⟨ρ₂, H₂, avs, x₂, d₂, r₂, x, e2, gok, hK⟩ := hP
  subst e2
  cases r₂ with
  | cons r r' =>
  cases r'
  obtain ⟨t, rfl⟩ := r
  refine ⟨d₂.base _ _ ho, wpAny_call (codeAny_call_generator hr.room (d₂.base _ _ ho) hd hco hgen hbody (hcd.keeps d₂.base) ?_)⟩
  rw [hbind, hcl]
  refine wpAny_pure (wpAny_newFunctionEnv hcell (by intro y hy; simp at hy; subst hy; exact hloc) (fun h' hn' hs' => ?_) hk)
  have x12 := x₁.trans x₂
  have kp' : ∀ b o, s₂.heap.get? b = some o → h'.get? b = some o := fun b o e => hs'.extBut b o (ne_z (Heap.lt_size e)) (Heap.get?_push_of_some _ e)
  refine ⟨G.nl.keeps fun b o e => kp' b o (d₂.base b o e), ?_⟩
  dsimp only
  have hsz : h'.objs.size = s₂.heap.objs.size + 1 := by rw [hs'.1, Heap.size_push]
  generalize henv : newEnv fd.scope s₂.heap.objs.size fd.globals [] (fd.qualname ++ Str.ofString ".<locals>.") (some a) fd.code none fd.builtins = genv
  have heG : EnvOK fd.scope genv := by rw [← henv]; exact ⟨rfl, hk, hg, hb, rfl, fun _ => ⟨rfl, fun y hy => absurd rfl (hcell _ (lookup_mem hy))⟩⟩
  have hcG : genv.cells = [] := by rw [← henv]; rfl
  have hlG : genv.locals = s₂.heap.objs.size := by rw [← henv]; rfl
  have hkG : genv.kindOf px = some .local := by rw [← henv]; exact hloc
  have hgenI := Heap.get?_push_size h' (o := { cls := .type "generator", data := .fields #[.int s₂.gens.size 0, .str fd.name (s₂.toks + [(px, Value.str x t)].length), .str fd.qualname (s₂.toks + [(px, Value.str x t)].length + 1)] }) rfl
  generalize hob : ({ cls := .type "generator", data := .fields #[.int s₂.gens.size 0, .str fd.name (s₂.toks + [(px, Value.str x t)].length), .str fd.qualname (s₂.toks + [(px, Value.str x t)].length + 1)] } : Obj) = ob at hgenI ⊢
  have kp2 : ∀ b o, s₂.heap.get? b = some o → (h'.push ob).get? b = some o := fun b o e => Heap.get?_push_of_some _ (kp' b o e)
  have hL := fresh_none (h := s₂.heap)
  have hI : s₂.heap.get? h'.objs.size = none := by rw [hsz]; exact fresh_none1
  have isg : (h'.push ob).IsGen h'.objs.size s₂.gens.size := ⟨ob, _, _, hgenI, by rw [← hob], by rw [← hob], by rw [← hob]⟩
  have hne : h'.objs.size ≠ s₂.heap.objs.size := by rw [hsz]; exact Nat.succ_ne_self _
  refine wpAny_pyIter_gen isg ⟨ρ₂, H₂, h'.objs.size, [h'.objs.size, s₂.heap.objs.size], some s₂.gens.size, ItG0 G (all x), rfl, ?_, d₂.keeps kp2, fun b hb' => ?_, fun n e => ?_, ?_, ItG0.pers, hK⟩
  · obtain ⟨ex, g1, g2⟩ := x12.gens
    refine ⟨x12.ext, fun b o e h1 h2 => kp2 b o (x12.keep b o e h1 h2), fun b o e => ?_, ⟨ex ++ [.fresh (.func body genv)], by simp [g1], fun i z hz hne => ?_⟩, x12.os⟩
    · obtain ⟨o', e'⟩ := x12.alive b o e; exact ⟨o', kp2 b o' e'⟩
    · have hs2 : s₂.gens.size = s.gens.size + ex.length := by rw [← Array.length_toList, g1]; simp
      rcases Nat.lt_trichotomy i ex.length with q | q | q
      · rw [List.getElem?_append_left q] at hz; exact g2 z (List.mem_of_getElem? hz)
      · exact absurd (by rw [hs2, q]) hne
      · rw [List.getElem?_append_right (by lia)] at hz
        obtain ⟨j', hj'⟩ := Nat.exists_eq_succ_of_ne_zero (show i - ex.length ≠ 0 by lia)
        rw [hj'] at hz; simp at hz
  · simp at hb'
    rcases hb' with q | q
    · rw [q]; exact ⟨x12.none_back hI, d₂.nin_none hI, d₂.base_none hI⟩
    · rw [q]; exact ⟨x12.none_back hL, d₂.nin_none hL, d₂.base_none hL⟩
  · cases e
    obtain ⟨ex, g1, g2⟩ := x12.gens
    rw [← Array.length_toList (xs := s₂.gens), g1]; simp
  · obtain ⟨oL, esL, epL, hoL, hdL, hkL, hfL⟩ := hn'
    have hoL2 : (h'.push ob).get? s₂.heap.objs.size = some oL := Heap.get?_push_of_some _ hoL
    refine ⟨s₂.gens.size, s₂.heap.objs.size, .fresh (.func body genv), rfl, rfl, hne, isg, by simp, ⟨oL, hoL2, fun items n q => by rw [hdL] at q; cases q⟩, fun s'' h1 h2 => ⟨rfl, ?_⟩⟩
    have z := gok A.in1 genv s'' heG hcG hr.gen ?_ h2
    · unfold hsAt at z
      rw [hlG] at z
      exact z
    · refine ⟨by rw [hlG]; exact d₂.base_none hL, by simp, ⟨_, ⟨oL, esL, epL, by rw [hlG]; exact h1 _ hoL2, hdL, hkL, hfL⟩, fun y v hy _ => ?_⟩, fun y c hc' => ?_, fun y v hy => ?_, fun y z c hc' => ?_, fun p hp => ?_⟩
      · rw [lookup_put] at hy
        by_cases q : y = px
        · rw [if_pos q] at hy; cases hy
          refine ⟨.str x t, ?_, t, rfl⟩
          rw [q]; simp
        · rw [if_neg q] at hy; cases hy
      · rw [hcG] at hc'; cases hc'
      · rw [lookup_put] at hy
        by_cases q : y = px
        · rw [q]; exact ⟨hok, .inl hkG⟩
        · rw [if_neg q] at hy; cases hy
      · rw [hcG] at hc'; cases hc'
      · rw [hcG] at hp; cases hp
end Mine
end
section
open PySem PySem.W PyProof.Rows
set_option maxRecDepth 100000
namespace Mine
variable {G : Gl} {k : Nat} {sc : Scope} {m : Vars} {H : List AO}

theorem vr_stored {env : Env} {s s' : Shared} {x : Str} {v : AV} {cv : Value} {h' : Heap} {mc : Str → Option Value} (V : Vr G [] env m s) (hc : env.cells = []) (hl : env.kindOf x = some .local) (hok : NameOk x)
    (hm : ∀ y w, m.lookup y = some w → env.kindOf y = some .local → ∃ cw, mc y = some cw ∧ VR [] w cw) (hn : h'.Ns env.locals (fun y => if y = x then some cv else mc y)) (hs : s'.heap = h') (hv : VR [] v cv) : Vr G [] env ((x, v) :: m) s' := by
  subst hs
  refine ⟨V.lfresh, V.lnin, ⟨_, hn, fun y w h1 h2 => ?_⟩, fun y c hc' => ?_, fun y w h1 => ?_, V.inj, V.keys⟩
  · rw [lookup_put] at h1
    by_cases q : y = x
    · rw [if_pos q] at h1; cases h1; exact ⟨cv, if_pos q, hv⟩
    · rw [if_neg q] at h1
      obtain ⟨w', r1, r2⟩ := hm y w h1 h2
      exact ⟨w', (if_neg q).trans r1, r2⟩
  · rw [hc] at hc'; cases hc'
  · rw [lookup_put] at h1
    by_cases q : y = x
    · subst q; exact ⟨hok, .inl hl⟩
    · rw [if_neg q] at h1; exact V.has y w h1

theorem raw_assign {A : Around} {env : Env} {s : Shared} {x : Str} {p' pos : Pos} {value : Expr} {v : AV} (he : EnvOK sc env) (V : Vr G [] env m s) (hc : env.cells = []) (hl : sc.names.lookup x = some .local)
    (hev : ∀ (Q : Value → Shared → Prop), (∀ cv tk, VR [] v cv → Q cv { s with toks := tk }) → wpAny G.M A (eval value env) Q NoE s)
    (hs : swapsWith value (some (.Name x p')) pos.line env = pure false) (hok : NameOk x := by decide) :
    wpAny G.M A (exec (.Assign [.Name x p'] value pos) env) (fun f s' => f = .next ∧ Heap.SameBut env.locals s.heap s'.heap ∧ s'.gens = s.gens ∧ s'.os = s.os ∧ Vr G [] env ((x, v) :: m) s') NoE s := by
  have hl' : env.kindOf x = some .local := by unfold Env.kindOf; rw [he.scope]; exact hl
  obtain ⟨mc, hn, hm⟩ := V.ns
  refine wpAny_Assign_Name (hev _ fun cv tk hv => ?_) hs
  refine wpAny_storeName_local hl' hn (fun h' hn' hs' => ⟨rfl, hs', rfl, rfl, vr_stored V hc hl' hok hm hn' rfl hv⟩) (by rw [he.scope, he.kind]; rfl)

theorem d_none {env : Env} {ks : List (Addr × Obj)} {s : Shared} (ok : GOk G env m ks s) {a : Addr} (h : s.heap.get? a = none) : G.h₀.get? a = none := (Wd.triv ok.base).base_none h
theorem seg_forEnum {A : Around} {env : Env} {c : Code} {K : Flow → Sem Fin} {Hh : Value → Sem Fin} {s₀ s : Shared} {target : Expr} {body : List Stmt} {np ap ip pos : Pos} {ax x : Str} {all : Un} {Q : Vars → Un → Prop}
    (he : EnvOK sc env) (hcells : env.cells = []) (hco : sc.isCoroutine = false) (hc : Rm k (A.over c [])) (ok : GOk G env m [] s) (xs : GSince (hsAt env s) s₀ s) (hm : G.mg (Str.ofString "enumerate") = none) (hl : sc.names.lookup (Str.ofString "enumerate") = some .globalImplicit)
    (ha : m.lookup ax = some (.str x)) (hal : sc.names.lookup ax = some .local)
    (hL : ∀ t, GL G k sc (hsAt env s) all target body (s.heap.objs.size + 1) s.heap.objs.size x t 0 m all Q)
    (hK : ∀ m' us' s₀' s', Q m' us' → GOk G env m' [] s' → GSince (hsAt env s) s₀' s' → (∃ pre, all = pre ++ us') → Seg G.M A (gR (hsAt env s)) (gY G (hsAt env s) all) us'.length s₀' c (K .next) [] s') :
    Seg G.M A (gR (hsAt env s)) (gY G (hsAt env s) all) all.length s₀ c ((exec (.For target (.Call (.Name (Str.ofString "enumerate") np) [.Name ax ap] [] ip) body [] pos) env).wrap K Hh id id) [] s := by
  have hk : env.scope.kind = .function := by rw [he.scope]; exact he.kind
  have hl' : env.kindOf (Str.ofString "enumerate") = some .globalImplicit := by unfold Env.kindOf; rw [he.scope]; exact hl
  have hal' : env.kindOf ax = some .local := by unfold Env.kindOf; rw [he.scope]; exact hal
  obtain ⟨⟨hd1, hd2⟩, _⟩ := ok.vr.has ax _ ha
  obtain ⟨mc, hn, hmc⟩ := ok.vr.ns
  obtain ⟨cv, q1, t, rfl⟩ := hmc ax _ ha hal'
  rw [exec_For]
  refine seg_bind_wrap (wpAny_standAt ?_)
  refine seg_bind_wrap ?_
  refine Call_ (Calls.Name_function_global hk hl' (Calls.loadGlobal_builtin (by rw [he.globals]; exact G.g.keeps ok.base) hm (by rw [he.builtins]; exact G.b.keeps ok.base) ((G.bb _ (by decide)).trans boot_enumerate') ?_) (by decide)) rfl
  refine PySem.callWith_type rfl (Calls.evalArgs_plain (show wpAny _ _ (spliced (backTo ip (starEach [.Name ax ap] env))) _ _ _ from args_cons (wpAny_Name (wpAny_loadName_local hk hal' hn q1 (args_nil ?_)) hd1) rfl))
  refine call_enumerate_str fun h' e1 e2 e3 e4 => ?_
  refine seg_bind_wrap (wpAny_of_eq (a := Value.ref (s.heap.objs.size + 1)) rfl ?_)
  refine seg_bind_wrap (wpAny_standAt ?_)
  refine seg_bind_wrap (wpAny_holding (wpAny_pyIter_enum e1 ?_))
  have hEn := d_none ok (a := s.heap.objs.size + 1) fresh_none1
  have hJn := d_none ok (a := s.heap.objs.size) fresh_none
  obtain ⟨oL, _, _, hoL, _⟩ := hn
  have hLl := Heap.lt_size hoL
  have F : GLF G sc (hsAt env s) env (s.heap.objs.size + 1) s.heap.objs.size := ⟨he, hcells, rfl, hco, Ne.symm (ne_z1 hLl), Ne.symm (ne_z hLl), Nat.succ_ne_self _, fun b hb => by
    simp [hsAt] at hb
    rcases hb with q | q | q
    · rw [q]; exact ok.vr.lfresh
    · rw [q]; exact hEn
    · rw [q]; exact hJn⟩
  refine seg_call fun p => ?_
  refine hL t A env [] _ _ _ _ _ _ s₀ _ .none ⟨?_, ?_, ?_, rfl⟩ F e1 e2 ⟨fun b o e => e4 b o (ok.base b o e), vr_keep ok.vr hcells fun o ho => e4 _ o ho, by simp⟩ (xs.step (tk := s.toks) fun b o e _ => e4 b o e) ⟨[], rfl⟩ fun m' us' s₀' s' hq ok' x' pr' => ?_
  · refine ⟨hc.handled, ?_, ?_⟩
    · have h1 := hc.depth
      have h2 : (A.over c []).depth = A.depth + 0 + c.weight := rfl
      rw [h2] at h1
      show A.depth + frameCount [(c, p)] + 0 + k < 800
      rw [frameCount_cons]
      have h3 : frameCount [] = 0 := rfl
      lia
    · have h1 := hc.units
      have h2 : (A.over c []).units = A.units + 0 + c.cUnits := rfl
      rw [h2] at h1
      show A.units + unitsOf [(c, p)] + 0 + 100 * k + 100 < 9000
      rw [unitsOf_cons]
      have h3 : unitsOf [] = 0 := rfl
      lia
  · rfl
  · rfl
  · exact hK m' us' s₀' s' hq ok' x' pr'

theorem gok_less {env : Env} {ks : List (Addr × Obj)} {s : Shared} {m' : Vars} (ok : GOk G env m ks s) (hm : ∀ x v, m'.lookup x = some v → m.lookup x = some v) : GOk G env m' ks s := ⟨ok.base, ok.vr.less hm, ok.ks⟩
section
variable {hs : List Addr} {all us : Un} {E J : Addr} {x : Str} {t : Tok} {i : Nat} {Q : Vars → Un → Prop} {target : Expr} {body : List Stmt}
theorem GL.less {m' : Vars} (h : GL G k sc hs all target body E J x t i m' us Q) (hm : ∀ x v, m'.lookup x = some v → m.lookup x = some v) : GL G k sc hs all target body E J x t i m us Q :=
  fun A env fs kF gF lF cF pF kpF s₀ s old hc F hE hJ ok xs pr hK => h A env fs kF gF lF cF pF kpF s₀ s old hc F hE hJ (gok_less ok hm) xs pr hK
theorem GT.mono {t : Env → Sem Flow} {ks : List (Addr × Obj)} {Q Q' : AF → Vars → Un → Prop} (h : GT G k sc hs all t m ks us Q) (hq : ∀ f m' us', Q f m' us' → Q' f m' us') : GT G k sc hs all t m ks us Q' :=
  fun A env c fs K Hh gd lv s₀ s hc hf ok x pr hK => h A env c fs K Hh gd lv s₀ s hc hf ok x pr fun f fl m' us' s₀' s' q => hK f fl m' us' s₀' s' (hq f m' us' q)
theorem AsIn.mono {ts : List Expr} : ∀ {vs : List AV} {m : Vars} {H : List AO} {Q Q' : Vars → List AO → Prop}, AsIn G k sc ts vs m H Q → (∀ m' H', Q m' H' → Q' m' H') → AsIn G k sc ts vs m H Q' := by
  induction ts with
  | nil => intro vs m H Q Q' h hq; exact hq _ _ h
  | cons t ts ih =>
    intro vs m H Q Q' h hq
    cases vs with
    | nil => exact h
    | cons v vs => exact fun A env ρ s cv he hr d V hv => wpAny_mono (h A env ρ s cv he hr d V hv) (fun _ _ ⟨ρ', H', m', q1, q2, q3, q4⟩ => ⟨ρ', H', m', q1, q2, q3, ih q4 hq⟩) fun _ _ q => q
theorem GL.ind {ts : List Expr} {kk : Nat} {tp : Pos} (I : Nat → Vars → Un → Prop) (hn : ts.length = 2) (hst : ∀ t ∈ ts, ∀ (e : Expr) (p : Pos), t ≠ .Starred e p)
    (hend : ∀ m us, I x.cps.size m us → Q m us)
    (step : ∀ i c m us, x.cps[i]? = some c → I i m us → AsIn G k sc ts [.int i, .str ⟨#[c]⟩] m [] fun m₁ H₁ => H₁ = [] ∧ ∀ ks, GT G k sc hs all (execs body) m₁ ks us fun f m₂ us₂ => (f = .next ∨ f = .cont) ∧ ∃ m', SubL m' m₂ ∧ I (i + 1) m' us₂) :
    ∀ n i m us, n = x.cps.size - i → i ≤ x.cps.size → I i m us → GL G k sc hs all (.Tuple ts kk tp) body E J x t i m us Q := by
  intro n
  induction n with
  | zero =>
    intro i m us hn' hi hI
    have e : i = x.cps.size := by lia
    exact GL.end e (hend m us (e ▸ hI))
  | succ n ih =>
    intro i m us hn' hi hI
    have hlt : i < x.cps.size := by lia
    refine GL.item (c := x.cps[i]) (Array.getElem?_eq_getElem hlt) hn hst (AsIn.mono (step i _ m us (Array.getElem?_eq_getElem hlt) hI) fun m₁ H₁ ⟨e, h⟩ => ⟨e, fun ks => GT.mono (h ks) fun f m₂ us₂ ⟨hf, m', hs', hI'⟩ => ⟨hf, (ih (i + 1) m' us₂ (by lia) (by lia) hI').less hs'.sub⟩⟩)
end
end Mine
end
section
open PySem PySem.W PyProof.Rows
set_option maxRecDepth 100000
namespace Mine
variable {G : Gl} {k : Nat} {sc : Scope} {m : Vars} {H : List AO}

theorem step_n {n N i : Nat} (h : n + 1 = N - i) : n = N - (i + 1) ∧ i < N := by lia
theorem end_n {N i : Nat} (h : 0 = N - i) (hi : i ≤ N) : i = N := by lia
inductive TurnOk (I : Vars → List AO → Prop) (f : AF) (m₂ : Vars) (H₂ : List AO) : Prop
  | mk (hf : f = .next ∨ f = .cont) (m' : Vars) (hs : SubL m' m₂) (i : I m' H₂)
inductive CoOk (I : Vars → List AO → Prop) (kacc : Nat) (m₁ : Vars) (y : AV) (H₃ : List AO) : Prop
  | mk (xs : List AV) (m' : Vars) (h : H₃[kacc]? = some (.list xs)) (l : xs.length ≤ 1000) (hs : SubL m' m₁) (i : I m' (H₃.set kacc (.list (xs ++ [y]))))
theorem FoI.inv {target : Expr} {body : List Stmt} {Q : AF → Vars → List AO → Prop} (P : Nat → ItP) (I : Nat → Vars → List AO → Prop) (N : Nat) (pers : ∀ i, Pers G (P i))
    (hend : ∀ m H, I N m H → NxEnd G k (P N) H ∧ Q .next m H)
    (step : ∀ i m H, i < N → I i m H → ∃ H' v, NxItem G k target (P i) (P (i + 1)) H H' v ∧ As G k sc target v m H' fun m₁ H₁ => Exs G k sc body m₁ H₁ (TurnOk (I (i + 1)))) :
    ∀ n i m H, n = N - i → i ≤ N → I i m H → FoI G k sc target body (P i) m H Q := by
  intro n
  induction n with
  | zero =>
    intro i m H hn hi hI
    have e : i = N := end_n hn hi
    subst e
    exact FoI.end (hend m H hI).1 (hend m H hI).2
  | succ n ih =>
    intro i m H hn hi hI
    obtain ⟨H', v, hx, h⟩ := step i m H (step_n hn).2 hI
    refine FoI.item hx (pers (i + 1)) ?_
    refine fun A env ρ s cv he hr d V hv => wpAny_mono (h A env ρ s cv he hr d V hv) (fun _ _ ⟨ρ', H'', m', q1, q2, q3, q4⟩ => ⟨ρ', H'', m', q1, q2, q3, Exs.mono q4 fun f m₂ H₂ ⟨hf, m'', hs, hI'⟩ => ?_⟩) fun _ _ q => q
    have z := (ih (i + 1) m'' H₂ (step_n hn).1 (step_n hn).2 hI').less hs.sub
    rcases hf with q | q
    · subst q; exact z
    · subst q; exact z
theorem Co.inv {elt target iter : Expr} {ifs : List Expr} {scope : Scope} {pos : Pos} {kacc : Nat} {Q : Vars → List AO → Prop} (P : Nat → ItP) (I : Nat → Vars → List AO → Prop) (N : Nat) (pers : ∀ i, Pers G (P i))
    (hend : ∀ m H, I N m H → NxEnd G k (P N) H ∧ Q m H)
    (step : ∀ i m H, i < N → I i m H → ∃ H' v, NxItem G k target (P i) (P (i + 1)) H H' v ∧ As G k sc target v m H' fun m₁ H₁ => TsIfs G k sc ifs m₁ H₁ fun b H₂ => If2 (b = false → ∃ m', SubL m' m₁ ∧ I (i + 1) m' H₂)
      (b = true → Ev G k sc elt m₁ H₂ (CoOk (I (i + 1)) kacc m₁))) :
    ∀ n i m H, n = N - i → i ≤ N → I i m H → Co G k sc elt target iter ifs scope pos (P i) kacc m H Q := by
  intro n
  induction n with
  | zero =>
    intro i m H hn hi hI
    have e : i = N := end_n hn hi
    subst e
    exact Co.end (hend m H hI).1 (hend m H hI).2
  | succ n ih =>
    intro i m H hn hi hI
    obtain ⟨H', v, hx, h⟩ := step i m H (step_n hn).2 hI
    refine Co.item hx (pers (i + 1)) ?_
    refine fun A env ρ s cv he hr d V hv => wpAny_mono (h A env ρ s cv he hr d V hv) (fun _ _ hP => ?_) fun _ _ q => q
    obtain ⟨ρ', H'', m', q1, q2, q3, q4⟩ := hP
    refine ⟨ρ', H'', m', q1, q2, q3, ?_⟩
    have conv : ∀ b H₂, (If2 (b = false → ∃ m'', SubL m'' m' ∧ I (i + 1) m'' H₂) (b = true → Ev G k sc elt m' H₂ (CoOk (I (i + 1)) kacc m'))) →
        ((b = false → Co G k sc elt target iter ifs scope pos (P (i + 1)) kacc m' H₂ Q) ∧ (b = true → Ev G k sc elt m' H₂ fun y H₃ => ∃ xs, H₃[kacc]? = some (.list xs) ∧ xs.length ≤ 1000 ∧ Co G k sc elt target iter ifs scope pos (P (i + 1)) kacc m' (H₃.set kacc (.list (xs ++ [y]))) Q)) := fun b H₂ ⟨c1, c2⟩ =>
      ⟨fun hb => by
        obtain ⟨m'', hs, hI'⟩ := c1 hb
        exact (ih (i + 1) m'' H₂ (step_n hn).1 (step_n hn).2 hI').less hs.sub, fun hb => (c2 hb).mono fun y H₃ ⟨xs, m'', r1, r2, hs, hI'⟩ => ⟨xs, r1, r2, (ih (i + 1) m'' _ (step_n hn).1 (step_n hn).2 hI').less hs.sub⟩⟩
    exact TsIfs.mono q4 conv

noncomputable def ItRI (a c : Int) (N i : Nat) : ItP := ItR (a + i * c) ((N : Int) - i) c
theorem ItRI.pers {a c : Int} {N i : Nat} : Pers G (ItRI a c N i) := ItR.pers
theorem NxItem.rngI {target : Expr} {a c : Int} {N i : Nat} (hi : i < N) (ht : ∀ I v, letOwnedTupleGo target (.ref I) v = pure () := by intro _ _; rfl) : NxItem G k target (ItRI a c N i) (ItRI a c N (i + 1)) H H (.int (a + i * c)) := by
  have z := NxItem.rng (G := G) (k := k) (H := H) (target := target) (x := a + i * c) (left := (N : Int) - i) (step := c) (by lia) ht
  have e1 : a + ((i + 1 : Nat) : Int) * c = a + i * c + c := by rw [Int.natCast_add, Int.add_mul]; lia
  have e2 : (N : Int) - ((i + 1 : Nat) : Int) = (N : Int) - i - 1 := by lia
  unfold ItRI
  rw [e1, e2]; exact z
theorem NxEnd.rngI {a c : Int} {N : Nat} : NxEnd G k (ItRI a c N N) H := NxEnd.rng (by lia)
theorem ItRI.start {a c : Int} {N : Nat} : ItRI a c N 0 = ItR a N c := by unfold ItRI; simp
end Mine
end
section
open PySem PySem.W PyProof.Rows
set_option maxRecDepth 100000
namespace Mine
variable {G : Gl} {k : Nat} {sc : Scope} {m : Vars} {H : List AO}

section
variable {prog : Program} {w : World} {K : Type} [DecidableEq K] {knd : HeapKind prog w K} {A : Around} {E : Value → Shared → Prop} {s : Shared}
theorem setDefaultH {d a : Addr} {xs : List (K × Addr × Value)} {kk : K} {dflt : Value} {Q : Value → Shared → Prop} (hu : knd.room A) (hkey : knd.is s.heap kk a) (hm : s.heap.DictOfH knd d xs) (hsz : xs.length ≤ sizeLine)
    (h1 : ∀ (j : Nat) (p : Addr × Value) (tk : Nat), xs[j]? = some (kk, p) → Q p.2 { s with toks := tk })
    (h2 : kk ∉ xs.map (·.1) → ∀ h' tk, h'.DictOfH knd d (xs ++ [(kk, a, dflt)]) → Heap.SameBut d s.heap h' → Q dflt { s with heap := h', toks := tk }) :
    wpAny (model prog w) A (dictSetDefault d (.ref a) dflt) Q E s := by
  obtain ⟨o, es, ep, ho, hc, hd, he, his, hn⟩ := id hm
  have hes : es.size ≤ sizeLine := by rw [size_of_entries he]; exact hsz
  unfold dictSetDefault
  refine wpAny_holding ?_
  refine wpAny_bind (knd.pyHash hu hkey ?_)
  refine wpAny_bind (wpAny_dictFind_heap (s := { s with toks := s.toks + knd.draws kk }) hu hkey ho hd he his hn (fun hnone => ?_) fun j p hj => ?_)
  · have hnot := not_mem_keys_of_get hnone
    refine wpAny_bind (wpAny_rule (wpAny_bind (wpAny_updateDictKeys (hz := hes) (s := { s with toks := s.toks + knd.draws kk }) ho hd (wpAny_pure ?_))))
    have hsb : Heap.SameBut d s.heap (s.heap.update d (fun o => Obj.mapDictKeys (·.push ⟨knd.hash kk, .ref a, dflt⟩) o)) := Heap.SameBut.update ..
    refine h2 hnot _ _ ⟨_, _, ep + 1, Heap.get?_update_self _ ho (Obj.isFreed_of_dict (Obj.data_mapDictKeys hd _)), hc.mapDictKeys _, Obj.data_mapDictKeys hd _, ?_, fun x hx => ?_, ?_⟩ hsb
    · rw [List.map_append, ← he]; simp [entryOfKey]
    · rcases List.mem_append.mp hx with q | q
      · exact knd.keeps (his x q) ho hd hsb
      · simp at q; subst q; exact knd.keeps hkey ho hd hsb
    · rw [List.map_append, List.nodup_append]
      refine ⟨hn, by simp, ?_⟩
      intro x hx y hy
      simp at hy
      exact fun e => hnot (hy ▸ e ▸ hx)
  · refine wpAny_bind (wpAny_dictEntries (s := { s with toks := s.toks + knd.draws kk }) ho hd ?_)
    rw [entry_at he j, hj]
    exact wpAny_bind (wpAny_rule (wpAny_pure (h1 j p _ hj)))
theorem callSetDefault {d a : Addr} {xs : List (K × Addr × Value)} {kk : K} {dflt : Value} {Q : Value → Shared → Prop} (hu : knd.room A.in1) (hds : (d == sysModules) = false) (hkey : knd.is s.heap kk a) (hm : s.heap.DictOfH knd d xs) (hsz : xs.length ≤ sizeLine)
    (h1 : ∀ (j : Nat) (p : Addr × Value) (tk : Nat), xs[j]? = some (kk, p) → Q p.2 { s with toks := tk })
    (h2 : kk ∉ xs.map (·.1) → ∀ h' tk, h'.DictOfH knd d (xs ++ [(kk, a, dflt)]) → Heap.SameBut d s.heap h' → Q dflt { s with heap := h', toks := tk }) :
    wpAny (model prog w) A (call (.builtin "dict.setdefault") [.ref d, .ref a, dflt]) Q E s := by
  refine wpAny_call_entry PySem.F.slot_dict_setdefault hm.typeIs PySem.F.entry_dict_setdefault ?_ (PySem.F.args_dict_setdefault_3 _ _ _)
  unfold Builtin.«dict.setdefault»
  refine wpAny_bind ?_
  unfold Builtin.Dict.keyAndDefault
  refine wpAny_bind (wpAny_notOrdered_dict hm.typeIs ?_)
  show wpAny _ _ (pure (d, Value.ref a, some dflt)) _ _ s
  refine wpAny_pure ?_
  show wpAny _ _ (if (d == sysModules) = true then _ else (dictSetDefault d (.ref a) dflt >>= _)) _ _ s
  rw [if_neg (by rw [hds]; exact Bool.false_ne_true)]
  exact wpAny_bind (setDefaultH hu hkey hm hsz (fun j p tk hj => wpAny_pure ⟨_, rfl, h1 j p tk hj⟩) fun hn h' tk hm' hs' => wpAny_pure ⟨_, rfl, h2 hn h' tk hm' hs'⟩)
end
end Mine
end
section
open PySem PySem.W PyProof.Rows
set_option maxRecDepth 100000
namespace Mine
variable {G : Gl} {k : Nat} {sc : Scope} {m : Vars} {H : List AO}

theorem Ev.dict0 {pos : Pos} {Q : AV → List AO → Prop} (h : Q (.ref H.length) (H ++ [.dict []])) : Ev G k sc (.Dict [] [] pos) m H Q := by
  intro A env ρ s he hr d V
  rw [eval_Dict_empty]
  refine wpAny_bind (wpAny_standAt ?_)
  refine wpAny_newObj_type ?_ (by size_fits)
  refine PE.newObj (tk := s.toks) (ao := .dict []) d fresh_none (fun b o e => Heap.get?_push_of_some _ e) ⟨[], Heap.DictOfH.new _, by simp, .nil, beq_eq_false_iff_ne.mpr fun e => ?_⟩ h
  obtain ⟨o, _, _, ho, _⟩ := G.g
  have h3 : mainGlobals < s.heap.objs.size := Heap.lt_size (d.base _ _ ho)
  rw [e] at h3
  exact absurd h3 (by decide)

noncomputable def dfind (es : List ((Int × Int) × Int)) (p q : Int) : Option Int := (es.find? fun e => decide (e.1 = (p, q))).map (·.2)
theorem DRel.get {es : List ((Int × Int) × Int)} {xs : List (List Int × Addr × Value)} (r : DRel es xs) : ∀ {j : Nat} {p q : Int} {pv : Addr × Value}, (xs.map (·.1)).Nodup → xs[j]? = some ([p, q], pv) → ∃ x t, dfind es p q = some x ∧ pv.2 = .int x t := by
  induction r with
  | nil => intro j p q pv _ h; simp at h
  | @cons p' q' v a t es xs r ih =>
    intro j p q pv hn h
    rw [List.map_cons, List.nodup_cons] at hn
    cases j with
    | zero =>
      simp at h
      obtain ⟨⟨rfl, rfl⟩, rfl⟩ := h
      exact ⟨v, t, by simp [dfind], rfl⟩
    | succ j =>
      simp at h
      obtain ⟨x, t', h1, h2⟩ := ih hn.2 h
      have hne : ¬ (p', q') = (p, q) := fun e => by
        cases e
        exact hn.1 (List.mem_map.mpr ⟨_, List.mem_of_getElem? h, rfl⟩)
      refine ⟨x, t', ?_, h2⟩
      unfold dfind at h1 ⊢
      rw [List.find?_cons_of_neg (by simpa using hne)]; exact h1
theorem DRel.none {es : List ((Int × Int) × Int)} {xs : List (List Int × Addr × Value)} (r : DRel es xs) {p q : Int} (h : [p, q] ∉ xs.map (·.1)) : dfind es p q = none := by
  induction r with
  | nil => rfl
  | @cons p' q' v a t es xs r ih =>
    rw [List.map_cons, List.mem_cons, not_or] at h
    have hne : ¬ (p', q') = (p, q) := fun e => by cases e; exact h.1 rfl
    have := ih h.2
    unfold dfind at this ⊢
    rw [List.find?_cons_of_neg (by simpa using hne)]; exact this
theorem DRel.snoc {es : List ((Int × Int) × Int)} {xs : List (List Int × Addr × Value)} (r : DRel es xs) {p q v : Int} {a : Addr} {t : Tok} : DRel (es ++ [((p, q), v)]) (xs ++ [([p, q], a, .int v t)]) := by
  induction r with
  | nil => exact .cons .nil
  | cons r ih => exact .cons ih
theorem DRel.len {es : List ((Int × Int) × Int)} {xs : List (List Int × Addr × Value)} (r : DRel es xs) : xs.length = es.length := by
  induction r with
  | nil => rfl
  | cons r ih => simp [ih]

theorem isInt_self {prog : Program} {w : World} (i : Int) (t : Tok) : (intKind prog w).is i (.int i t) = true := by
  show Value.isInt i (.int i t) = true
  simp [Value.isInt]
theorem Ev.setdef {o e1 e2 e3 : Expr} {kk : Nat} {tp apos pos : Pos} {Q : AV → List AO → Prop}
    (h : Ev G k sc o m H fun ov H₁ => ∃ kd es₁, ov = .ref kd ∧ H₁[kd]? = some (.dict es₁) ∧ Evs G k sc [e1, e2] m H₁ fun vs H₂ => ∃ p q, vs = [.int p, .int q] ∧ Ev G k sc e3 m H₂ fun v3 H₃ => ∃ w es, v3 = .int w ∧ H₃[kd]? = some (.dict es) ∧ es.length ≤ 1000 ∧
      (∀ x, dfind es p q = some x → Q (.int x) H₃) ∧ (dfind es p q = none → Q (.int w) (H₃.set kd (.dict (es ++ [((p, q), w)])))))
    (hbase : ∀ env, attributeBase o (Str.ofString "setdefault") env (eval o env) = eval o env := by intro _; rfl)
    (hfew : ∀ env, ((backTo pos (starEach [.Tuple [e1, e2] kk tp, e3] env)).all (fun x => !x.1) && (backToKw pos (keywordEach [] env)).all (fun x => x.1.isSome)
      && decide (([.Tuple [e1, e2] kk tp, e3] : List Expr).length + ([] : List Keyword).length + (if ([] : List Keyword).isEmpty then 0 else 1) < 30)) = true := by intro _; rfl)
    (hline : (apos.endLine == pos.line) = true := by decide)
    (he' : ∀ env, starEach [.Tuple [e1, e2] kk tp, e3] env = [(false, eval (.Tuple [e1, e2] kk tp) env), (false, eval e3 env)] := by intro _; rfl)
    (he3 : ∀ env, starEach [e3] env = (false, eval e3 env) :: starEach [] env := by intro _; rfl)
    (hp : ∀ env, (backTo pos (starEach [.Tuple [e1, e2] kk tp, e3] env)).any (·.1) = false := by intro _; rfl) :
    Ev G k sc (.Call (.Attribute o (Str.ofString "setdefault") apos) [.Tuple [e1, e2] kk tp, e3] [] pos) m H Q := by
  intro A env ρ s he hr d V
  refine wpAny_Call_method (hbase env) (hfew env) hline PySem.F.plainAttrs_dict PySem.F.slot_dict_setdefault PySem.F.type_dict_setdefault (PE.map (h A env ρ s he hr d V) fun v s₁ ρ₁ H₁ av x₁ d₁ r₁ h₁ => ?_)
  obtain ⟨kd, es₁, rfl, hkd, h₁⟩ := h₁
  have hkind : KindIs H₁ "dict" (.ref kd) := by simp only [KindIs, hkd]
  obtain ⟨k1, k2⟩ := hkind.sound d₁ r₁
  refine ⟨k1, k2, Calls.callWith_builtin (hp env) ?_⟩
  have z : wpAny G.M A (spliced (backTo pos (starEach [.Tuple [e1, e2] kk tp, e3] env))) (fun vs s' => wpAny G.M A (call (.builtin "dict.setdefault") ([v] ++ vs) []) (PE G ρ s Q) NoE s') NoE s₁ := by
    refine args_cons ?_ rfl
    refine Tuple_ (wpAny_mono (h₁ A env ρ₁ s₁ tp he hr d₁ (V.stepE x₁)) (fun vs s₂ hP => ?_) fun _ _ q => q)
    obtain ⟨ρ₂, H₂, avs, x₂, d₂, r₂, p, q, e2, h₂⟩ := hP
    subst e2
    cases r₂ with
    | cons a1 r₂ => cases r₂ with
    | cons a2 r₂ =>
    cases r₂
    obtain ⟨t1, rfl⟩ := a1
    obtain ⟨t2, rfl⟩ := a2
    refine wpAny_newObj_type ?_ (by size_fits)
    have kp : ∀ b o, s₂.heap.get? b = some o → (s₂.heap.push { cls := .type "tuple", data := .seq #[.int p t1, .int q t2] }).get? b = some o := fun b o e => Heap.get?_push_of_some _ e
    have hT := Heap.get?_push_size s₂.heap (o := { cls := .type "tuple", data := .seq #[.int p t1, .int q t2] }) rfl
    have hTn := fresh_none (h := s₂.heap)
    have stT : Stp [] ρ₂ s₂ ρ₂ { s₂ with heap := s₂.heap.push { cls := .type "tuple", data := .seq #[.int p t1, .int q t2] } } := Stp.keeps (tk := s₂.toks) kp
    refine args_cons ?_ (he3 env)
    refine PE.map (h₂ A env ρ₂ _ he hr (d₂.keeps (s' := { s₂ with heap := s₂.heap.push { cls := .type "tuple", data := .seq #[.int p t1, .int q t2] } }) kp) (V.stepE ((x₁.trans x₂).trans stT))) fun v3 s₃ ρ₃ H₃ av3 x₃ d₃ r₃ h₃ => ?_
    obtain ⟨w, es, rfl, hes, hel, hf, hn⟩ := h₃
    obtain ⟨t3, rfl⟩ := r₃
    refine args_nil ?_
    have hT3 := x₃.keep _ _ hT (d₂.nin_none hTn) (by simp)
    have hTr : s₂.heap.objs.size ∉ ρ₃ := x₃.notin (d₂.nin_none hTn) hT
    have x23 := (x₂.trans stT).trans x₃
    obtain ⟨da, hda, rfl⟩ := x23.vr r₁
    obtain ⟨da', hda', xs, hD, hnin, hrel, hds⟩ := d₃.at hes
    rw [hda] at hda'; cases hda'
    have hkey : G.knd.is s₃.heap [p, q] s₂.heap.objs.size := ⟨_, _, _, hT3, rfl, rfl, .cons (isInt_self p t1) (.cons (isInt_self q t2) .nil)⟩
    have hnd : (xs.map (·.1)).Nodup := by obtain ⟨_, _, _, _, _, _, _, _, hnd⟩ := hD; exact hnd
    show wpAny G.M A (call (.builtin "dict.setdefault") [.ref da, .ref s₂.heap.objs.size, .int w t3] []) _ _ _
    refine callSetDefault (knd := G.knd) (show A.units + 1 < cLine from by have := hr.units; show A.units + 1 < 9900; lia) hds hkey hD (by rw [hrel.len, sizeLine_eq]; lia) (fun j pv tk hj => ?_) fun hnot h' tk hD' hs' => ?_
    · obtain ⟨x, t, g1, g2⟩ := hrel.get hnd hj
      rw [g2]
      exact ⟨ρ₃, H₃, .int x, ((x₁.trans x23)).trans (Stp.toks tk), d₃.toks tk, ⟨t, rfl⟩, hf x g1⟩
    · have g1 := hrel.none hnot
      obtain ⟨od, _, _, hod, _⟩ := id hD'
      refine ⟨ρ₃, _, .int w, (x₁.trans x23).trans (Stp.sameBut (tk := tk) hs' (.inl (List.mem_of_getElem? hda)) hod), d₃.set (ao := .dict (es ++ [((p, q), w)])) hda hs' ⟨_, hD', fun y hy => ?_, hrel.snoc, hds⟩, ⟨t3, rfl⟩, hn g1⟩
      rcases List.mem_append.mp hy with q' | q'
      · exact hnin y q'
      · simp at q'; subst q'; exact hTr
  rw [he'] at z ⊢
  exact Calls.evalArgs_plain z
end Mine
end
section
open PySem PySem.W PyProof.Rows PySem.Calls
set_option maxRecDepth 100000
namespace Mine
variable {G : Gl} {k : Nat} {sc : Scope} {m : Vars} {H : List AO}

/- the heap's pure twins; bf a b: a goes ahead of b -/
noncomputable def sdGo (bf : Nat → Nat → Bool) (new start : Nat) : Nat → Nat → List Nat → List Nat
  | 0, pos, xs => xs.set pos new
  | f + 1, pos, xs => if start < pos then (if bf new (xs.getD ((pos - 1) / 2) 0) then sdGo bf new start f ((pos - 1) / 2) (xs.set pos (xs.getD ((pos - 1) / 2) 0)) else xs.set pos new) else xs.set pos new
noncomputable def sd (bf : Nat → Nat → Bool) (xs : List Nat) (start pos : Nat) : List Nat := sdGo bf (xs.getD pos 0) start pos pos xs

noncomputable def Things (H : List AO) (val : Nat → Int × Int) (xs : List Nat) : Prop := ∀ t ∈ xs, H[t]? = some (.list [.int (val t).1, .int (val t).2])
noncomputable def ltv (val : Nat → Int × Int) (a b : Nat) : Bool := decide ((val a).1 < (val b).1 ∨ ((val a).1 = (val b).1 ∧ (val a).2 < (val b).2))

theorem lt2 {val : Nat → Int × Int} {a b : Nat} {Q : AV → List AO → Prop} (ha : H[a]? = some (.list [.int (val a).1, .int (val a).2])) (hb : H[b]? = some (.list [.int (val b).1, .int (val b).2]))
    (h : Q (.bool (ltv val a b)) H) : Op G k (op2 (compareOp .Lt)) [.ref a, .ref b] H Q := Op.ltL ha hb h

theorem getElem?_map_ref {xs : List Nat} {i : Nat} (h : i < xs.length) : (xs.map AV.ref)[i]? = some (.ref (xs.getD i 0)) := by
  rw [List.getElem?_map, List.getElem?_eq_getElem h, List.getD_eq_getElem?_getD, List.getElem?_eq_getElem h]; rfl
theorem set_map_ref (xs : List Nat) (i t : Nat) : (xs.map AV.ref).set i (.ref t) = (xs.set i t).map AV.ref := by
  rw [List.map_set]
theorem getD_mem {xs : List Nat} {i : Nat} (h : i < xs.length) : xs.getD i 0 ∈ xs := by
  rw [List.getD_eq_getElem?_getD, List.getElem?_eq_getElem h]; exact List.getElem_mem h
theorem set_same_heap {h : Nat} {a b : AO} : (H.set h a).set h b = H.set h b := List.set_set ..
theorem get_set_heap {h : Nat} {a : AO} (hh : h < H.length) : (H.set h a)[h]? = some a := List.getElem?_set_self hh
theorem set_self {h : Nat} {a : AO} (hh : H[h]? = some a) : H.set h a = H := by
  obtain ⟨h1, h2⟩ := List.getElem?_eq_some_iff.mp hh
  rw [← h2]; exact List.set_getElem_self ..
theorem Things.set {val : Nat → Int × Int} {xs : List Nat} (T : Things H val xs) {h : Nat} (hn : ∀ t ∈ xs, t ≠ h) (a : AO) : Things (H.set h a) val xs := fun t ht => by
  rw [List.getElem?_set_ne (Ne.symm (hn t ht))]; exact T t ht



theorem half_lt {n m : Nat} (h : n < m) : (n - 1) / 2 < m := by lia
theorem half_int {n : Nat} (h : 0 < n) : (((n : Int) - 1) / 2) = (((n - 1) / 2 : Nat) : Int) := by lia
set_option maxHeartbeats 1000000 in
theorem siftdown_max (hK : TopIs G) {h start pos : Nat} {xs : List Nat} {val : Nat → Int × Int} {Q : AV → List AO → Prop} (hh : H[h]? = some (.list (xs.map .ref))) (hp : pos < xs.length) (hlen : xs.length ≤ 1000)
    (T : Things H val xs) (hn : ∀ t ∈ xs, t ≠ h) (hq : Q .none (H.set h (.list ((sd (fun a b => ltv val b a) xs start pos).map .ref)))) : Op G (k + 1) (callOf (.ref (G.adr (Str.ofString "_siftdown_max")))) [.ref h, .int start, .int pos] H Q := by
  have hhl : h < H.length := (List.getElem?_eq_some_iff.mp hh).1
  have eF := Eq.refl (fnD 14)
  conv at eF => rhs; whnf
  obtain ⟨oF, pmF, cdF, docF, hmF, hoF, hdF, hcdF⟩ := hK.at (by kernel_rfl) eF
  dsimp only at hdF
  refine Op.doc hoF hdF hcdF (fun cvs h => ?_) (by decide) (by rfl) (by decide) (by decide) (by decide) ?_
  · obtain ⟨a, b, c, rfl⟩ := three_of h; rfl
  dsimp only
  repeat (first | (with_reducible first | refine Ev.cint ?_ | refine Ev.cstr ?_ | refine Ev.cbool ?_ | refine Ev.cnone ?_ | refine Ev.bin ?_ | refine Ev.una ?_ | refine Ts.not ?_ | refine Ts.bools ?_ | refine TsAll.and ?_ | refine TsAll.or ?_ | refine TsAll.andNil ?_ | refine TsAll.orNil ?_ | refine Tr.bool ?_ | refine As.sub ?_ | refine Evs.nil ?_ | refine Op.add ?_ | refine Op.sub ?_ | refine Op.iadd ?_ | refine Op.isub ?_ | refine Op.mul2 ?_ | refine Op.lt ?_ | refine Op.gt ?_ | refine Op.eq ?_ | refine Op.ne ?_ | refine Op.neg ?_ | refine Op.eqS ?_ | refine Op.neS ?_ | refine Ex.if ?_ | refine Ex.ret ?_ | refine Ex.brk ?_ | refine Ex.cont ?_ | refine Ev.ifx ?_ | refine Exs.cons ?_ | refine Exs.nil ?_) | refine Ev.var rfl ?_ | refine Ev.cmp ?_ | refine Ev.subL ?_ | refine Ts.cmp ?_ | refine As.name (Sn.local rfl ?_) | refine Evs.cons ?_ | refine Ex.assign ?_ | refine Ex.assign2 ?_ | refine Ex.expr ?_ | refine Ex.aug rfl rfl ?_)
  refine ⟨h, _, _, _, rfl, rfl, hh, by simpa using hlen, .inl ⟨Int.natCast_nonneg _, by rw [Int.toNat_natCast]; exact getElem?_map_ref hp⟩, ?_⟩
  repeat (first | (with_reducible first | refine Ev.cint ?_ | refine Ev.cstr ?_ | refine Ev.cbool ?_ | refine Ev.cnone ?_ | refine Ev.bin ?_ | refine Ev.una ?_ | refine Ts.not ?_ | refine Ts.bools ?_ | refine TsAll.and ?_ | refine TsAll.or ?_ | refine TsAll.andNil ?_ | refine TsAll.orNil ?_ | refine Tr.bool ?_ | refine As.sub ?_ | refine Evs.nil ?_ | refine Op.add ?_ | refine Op.sub ?_ | refine Op.iadd ?_ | refine Op.isub ?_ | refine Op.mul2 ?_ | refine Op.lt ?_ | refine Op.gt ?_ | refine Op.eq ?_ | refine Op.ne ?_ | refine Op.neg ?_ | refine Op.eqS ?_ | refine Op.neS ?_ | refine Ex.if ?_ | refine Ex.ret ?_ | refine Ex.brk ?_ | refine Ex.cont ?_ | refine Ev.ifx ?_ | refine Exs.cons ?_ | refine Exs.nil ?_) | refine Ev.var rfl ?_ | refine Ev.cmp ?_ | refine Ev.subL ?_ | refine Ts.cmp ?_ | refine As.name (Sn.local rfl ?_) | refine Evs.cons ?_ | refine Ex.assign ?_ | refine Ex.assign2 ?_ | refine Ex.expr ?_ | refine Ex.aug rfl rfl ?_)
  refine Ex.while (Wh.less (Wh.inv (fun n m H' => ∃ (ys : List Nat) (f : Nat), n ≤ f ∧ n < ys.length ∧ ys.length = xs.length ∧ (∀ t ∈ ys, t ∈ xs) ∧ H' = H.set h (.list (ys.map .ref)) ∧
      m = [(Str.ofString "heap", .ref h), (Str.ofString "startpos", .int start), (Str.ofString "pos", .int (n : Int)), (Str.ofString "newitem", .ref (xs.getD pos 0))] ∧
      sdGo (fun a b => ltv val b a) (xs.getD pos 0) start f n ys = sd (fun a b => ltv val b a) xs start pos) ?_ pos _ _ ⟨xs, pos, Nat.le_refl _, hp, rfl, fun _ ht => ht, ?_, rfl, rfl⟩) (SubL.sub ⟨rfl, rfl, rfl, rfl, trivial⟩))
  · rintro n m H' ⟨ys, f, hf, hny, hyl, hys, rfl, rfl, hgo⟩
    have hhs : (H.set h (.list (ys.map .ref)))[h]? = some (.list (ys.map .ref)) := get_set_heap hhl
    have T' : Things (H.set h (.list (ys.map .ref))) val xs := T.set hn _
    repeat (first | (with_reducible first | refine Ev.cint ?_ | refine Ev.cstr ?_ | refine Ev.cbool ?_ | refine Ev.cnone ?_ | refine Ev.bin ?_ | refine Ev.una ?_ | refine Ts.not ?_ | refine Ts.bools ?_ | refine TsAll.and ?_ | refine TsAll.or ?_ | refine TsAll.andNil ?_ | refine TsAll.orNil ?_ | refine Tr.bool ?_ | refine As.sub ?_ | refine Evs.nil ?_ | refine Op.add ?_ | refine Op.sub ?_ | refine Op.iadd ?_ | refine Op.isub ?_ | refine Op.mul2 ?_ | refine Op.lt ?_ | refine Op.gt ?_ | refine Op.eq ?_ | refine Op.ne ?_ | refine Op.neg ?_ | refine Op.eqS ?_ | refine Op.neS ?_ | refine Ex.if ?_ | refine Ex.ret ?_ | refine Ex.brk ?_ | refine Ex.cont ?_ | refine Ev.ifx ?_ | refine Exs.cons ?_ | refine Exs.nil ?_) | refine Ev.var rfl ?_ | refine Ev.cmp ?_ | refine Ev.subL ?_ | refine Ts.cmp ?_ | refine As.name (Sn.local rfl ?_) | refine Evs.cons ?_ | refine Ex.assign ?_ | refine Ex.assign2 ?_ | refine Ex.expr ?_ | refine Ex.aug rfl rfl ?_)
    refine ⟨fun hb => ?_, fun hb => ?_⟩
    · have hlt : start < n := by simpa using hb
      have hpp : (n - 1) / 2 < ys.length := half_lt hny
      have hpe : (((n : Int) - 1) / 2) = (((n - 1) / 2 : Nat) : Int) := half_int (by lia)
      repeat (first | (with_reducible first | refine Ev.cint ?_ | refine Ev.cstr ?_ | refine Ev.cbool ?_ | refine Ev.cnone ?_ | refine Ev.bin ?_ | refine Ev.una ?_ | refine Ts.not ?_ | refine Ts.bools ?_ | refine TsAll.and ?_ | refine TsAll.or ?_ | refine TsAll.andNil ?_ | refine TsAll.orNil ?_ | refine Tr.bool ?_ | refine As.sub ?_ | refine Evs.nil ?_ | refine Op.add ?_ | refine Op.sub ?_ | refine Op.iadd ?_ | refine Op.isub ?_ | refine Op.mul2 ?_ | refine Op.lt ?_ | refine Op.gt ?_ | refine Op.eq ?_ | refine Op.ne ?_ | refine Op.neg ?_ | refine Op.eqS ?_ | refine Op.neS ?_ | refine Ex.if ?_ | refine Ex.ret ?_ | refine Ex.brk ?_ | refine Ex.cont ?_ | refine Ev.ifx ?_ | refine Exs.cons ?_ | refine Exs.nil ?_) | refine Ev.var rfl ?_ | refine Ev.cmp ?_ | refine Ev.subL ?_ | refine Ts.cmp ?_ | refine As.name (Sn.local rfl ?_) | refine Evs.cons ?_ | refine Ex.assign ?_ | refine Ex.assign2 ?_ | refine Ex.expr ?_ | refine Ex.aug rfl rfl ?_)
      refine Op.shr1 (by lia) ?_
      rw [hpe]
      repeat (first | (with_reducible first | refine Ev.cint ?_ | refine Ev.cstr ?_ | refine Ev.cbool ?_ | refine Ev.cnone ?_ | refine Ev.bin ?_ | refine Ev.una ?_ | refine Ts.not ?_ | refine Ts.bools ?_ | refine TsAll.and ?_ | refine TsAll.or ?_ | refine TsAll.andNil ?_ | refine TsAll.orNil ?_ | refine Tr.bool ?_ | refine As.sub ?_ | refine Evs.nil ?_ | refine Op.add ?_ | refine Op.sub ?_ | refine Op.iadd ?_ | refine Op.isub ?_ | refine Op.mul2 ?_ | refine Op.lt ?_ | refine Op.gt ?_ | refine Op.eq ?_ | refine Op.ne ?_ | refine Op.neg ?_ | refine Op.eqS ?_ | refine Op.neS ?_ | refine Ex.if ?_ | refine Ex.ret ?_ | refine Ex.brk ?_ | refine Ex.cont ?_ | refine Ev.ifx ?_ | refine Exs.cons ?_ | refine Exs.nil ?_) | refine Ev.var rfl ?_ | refine Ev.cmp ?_ | refine Ev.subL ?_ | refine Ts.cmp ?_ | refine As.name (Sn.local rfl ?_) | refine Evs.cons ?_ | refine Ex.assign ?_ | refine Ex.assign2 ?_ | refine Ex.expr ?_ | refine Ex.aug rfl rfl ?_)
      refine ⟨h, _, _, _, rfl, rfl, hhs, by simpa [hyl] using hlen, .inl ⟨Int.natCast_nonneg _, by rw [Int.toNat_natCast]; exact getElem?_map_ref hpp⟩, ?_⟩
      repeat (first | (with_reducible first | refine Ev.cint ?_ | refine Ev.cstr ?_ | refine Ev.cbool ?_ | refine Ev.cnone ?_ | refine Ev.bin ?_ | refine Ev.una ?_ | refine Ts.not ?_ | refine Ts.bools ?_ | refine TsAll.and ?_ | refine TsAll.or ?_ | refine TsAll.andNil ?_ | refine TsAll.orNil ?_ | refine Tr.bool ?_ | refine As.sub ?_ | refine Evs.nil ?_ | refine Op.add ?_ | refine Op.sub ?_ | refine Op.iadd ?_ | refine Op.isub ?_ | refine Op.mul2 ?_ | refine Op.lt ?_ | refine Op.gt ?_ | refine Op.eq ?_ | refine Op.ne ?_ | refine Op.neg ?_ | refine Op.eqS ?_ | refine Op.neS ?_ | refine Ex.if ?_ | refine Ex.ret ?_ | refine Ex.brk ?_ | refine Ex.cont ?_ | refine Ev.ifx ?_ | refine Exs.cons ?_ | refine Exs.nil ?_) | refine Ev.var rfl ?_ | refine Ev.cmp ?_ | refine Ev.subL ?_ | refine Ts.cmp ?_ | refine As.name (Sn.local rfl ?_) | refine Evs.cons ?_ | refine Ex.assign ?_ | refine Ex.assign2 ?_ | refine Ex.expr ?_ | refine Ex.aug rfl rfl ?_)
      refine lt2 (T' _ (hys _ (getD_mem hpp))) (T' _ (getD_mem hp)) ?_
      repeat (first | (with_reducible first | refine Ev.cint ?_ | refine Ev.cstr ?_ | refine Ev.cbool ?_ | refine Ev.cnone ?_ | refine Ev.bin ?_ | refine Ev.una ?_ | refine Ts.not ?_ | refine Ts.bools ?_ | refine TsAll.and ?_ | refine TsAll.or ?_ | refine TsAll.andNil ?_ | refine TsAll.orNil ?_ | refine Tr.bool ?_ | refine As.sub ?_ | refine Evs.nil ?_ | refine Op.add ?_ | refine Op.sub ?_ | refine Op.iadd ?_ | refine Op.isub ?_ | refine Op.mul2 ?_ | refine Op.lt ?_ | refine Op.gt ?_ | refine Op.eq ?_ | refine Op.ne ?_ | refine Op.neg ?_ | refine Op.eqS ?_ | refine Op.neS ?_ | refine Ex.if ?_ | refine Ex.ret ?_ | refine Ex.brk ?_ | refine Ex.cont ?_ | refine Ev.ifx ?_ | refine Exs.cons ?_ | refine Exs.nil ?_) | refine Ev.var rfl ?_ | refine Ev.cmp ?_ | refine Ev.subL ?_ | refine Ts.cmp ?_ | refine As.name (Sn.local rfl ?_) | refine Evs.cons ?_ | refine Ex.assign ?_ | refine Ex.assign2 ?_ | refine Ex.expr ?_ | refine Ex.aug rfl rfl ?_)
      refine ⟨fun hb2 => ?_, fun hb2 => ?_⟩
      · repeat (first | (with_reducible first | refine Ev.cint ?_ | refine Ev.cstr ?_ | refine Ev.cbool ?_ | refine Ev.cnone ?_ | refine Ev.bin ?_ | refine Ev.una ?_ | refine Ts.not ?_ | refine Ts.bools ?_ | refine TsAll.and ?_ | refine TsAll.or ?_ | refine TsAll.andNil ?_ | refine TsAll.orNil ?_ | refine Tr.bool ?_ | refine As.sub ?_ | refine Evs.nil ?_ | refine Op.add ?_ | refine Op.sub ?_ | refine Op.iadd ?_ | refine Op.isub ?_ | refine Op.mul2 ?_ | refine Op.lt ?_ | refine Op.gt ?_ | refine Op.eq ?_ | refine Op.ne ?_ | refine Op.neg ?_ | refine Op.eqS ?_ | refine Op.neS ?_ | refine Ex.if ?_ | refine Ex.ret ?_ | refine Ex.brk ?_ | refine Ex.cont ?_ | refine Ev.ifx ?_ | refine Exs.cons ?_ | refine Exs.nil ?_) | refine Ev.var rfl ?_ | refine Ev.cmp ?_ | refine Ev.subL ?_ | refine Ts.cmp ?_ | refine As.name (Sn.local rfl ?_) | refine Evs.cons ?_ | refine Ex.assign ?_ | refine Ex.assign2 ?_ | refine Ex.expr ?_ | refine Ex.aug rfl rfl ?_)
        refine OpU.setL hhs (by simpa [hyl] using hlen) (Int.natCast_nonneg _) (by simpa using hny) ?_
        rw [Int.toNat_natCast, set_map_ref, set_same_heap]
        repeat (first | (with_reducible first | refine Ev.cint ?_ | refine Ev.cstr ?_ | refine Ev.cbool ?_ | refine Ev.cnone ?_ | refine Ev.bin ?_ | refine Ev.una ?_ | refine Ts.not ?_ | refine Ts.bools ?_ | refine TsAll.and ?_ | refine TsAll.or ?_ | refine TsAll.andNil ?_ | refine TsAll.orNil ?_ | refine Tr.bool ?_ | refine As.sub ?_ | refine Evs.nil ?_ | refine Op.add ?_ | refine Op.sub ?_ | refine Op.iadd ?_ | refine Op.isub ?_ | refine Op.mul2 ?_ | refine Op.lt ?_ | refine Op.gt ?_ | refine Op.eq ?_ | refine Op.ne ?_ | refine Op.neg ?_ | refine Op.eqS ?_ | refine Op.neS ?_ | refine Ex.if ?_ | refine Ex.ret ?_ | refine Ex.brk ?_ | refine Ex.cont ?_ | refine Ev.ifx ?_ | refine Exs.cons ?_ | refine Exs.nil ?_) | refine Ev.var rfl ?_ | refine Ev.cmp ?_ | refine Ev.subL ?_ | refine Ts.cmp ?_ | refine As.name (Sn.local rfl ?_) | refine Evs.cons ?_ | refine Ex.assign ?_ | refine Ex.assign2 ?_ | refine Ex.expr ?_ | refine Ex.aug rfl rfl ?_)
        obtain ⟨f, rfl⟩ : ∃ g, f = g + 1 := ⟨f - 1, by lia⟩
        refine ⟨(n - 1) / 2, _, by lia, ?sub, ys.set n (ys.getD ((n - 1) / 2) 0), f, by lia, by rw [List.length_set]; exact hpp, by rw [List.length_set, hyl], fun t ht => ?_, rfl, rfl, ?_⟩
        case sub => exact ⟨rfl, rfl, rfl, rfl, trivial⟩
        · rcases List.mem_or_eq_of_mem_set ht with q | q
          · exact hys t q
          · rw [q]; exact hys _ (getD_mem hpp)
        · rw [← hgo, sdGo, if_pos hlt, if_pos hb2]
      · repeat (first | (with_reducible first | refine Ev.cint ?_ | refine Ev.cstr ?_ | refine Ev.cbool ?_ | refine Ev.cnone ?_ | refine Ev.bin ?_ | refine Ev.una ?_ | refine Ts.not ?_ | refine Ts.bools ?_ | refine TsAll.and ?_ | refine TsAll.or ?_ | refine TsAll.andNil ?_ | refine TsAll.orNil ?_ | refine Tr.bool ?_ | refine As.sub ?_ | refine Evs.nil ?_ | refine Op.add ?_ | refine Op.sub ?_ | refine Op.iadd ?_ | refine Op.isub ?_ | refine Op.mul2 ?_ | refine Op.lt ?_ | refine Op.gt ?_ | refine Op.eq ?_ | refine Op.ne ?_ | refine Op.neg ?_ | refine Op.eqS ?_ | refine Op.neS ?_ | refine Ex.if ?_ | refine Ex.ret ?_ | refine Ex.brk ?_ | refine Ex.cont ?_ | refine Ev.ifx ?_ | refine Exs.cons ?_ | refine Exs.nil ?_) | refine Ev.var rfl ?_ | refine Ev.cmp ?_ | refine Ev.subL ?_ | refine Ts.cmp ?_ | refine As.name (Sn.local rfl ?_) | refine Evs.cons ?_ | refine Ex.assign ?_ | refine Ex.assign2 ?_ | refine Ex.expr ?_ | refine Ex.aug rfl rfl ?_)
        refine OpU.setL hhs (by simpa [hyl] using hlen) (Int.natCast_nonneg _) (by simpa using hny) ?_
        rw [Int.toNat_natCast, set_map_ref, set_same_heap]
        repeat (first | (with_reducible first | refine Ev.cint ?_ | refine Ev.cstr ?_ | refine Ev.cbool ?_ | refine Ev.cnone ?_ | refine Ev.bin ?_ | refine Ev.una ?_ | refine Ts.not ?_ | refine Ts.bools ?_ | refine TsAll.and ?_ | refine TsAll.or ?_ | refine TsAll.andNil ?_ | refine TsAll.orNil ?_ | refine Tr.bool ?_ | refine As.sub ?_ | refine Evs.nil ?_ | refine Op.add ?_ | refine Op.sub ?_ | refine Op.iadd ?_ | refine Op.isub ?_ | refine Op.mul2 ?_ | refine Op.lt ?_ | refine Op.gt ?_ | refine Op.eq ?_ | refine Op.ne ?_ | refine Op.neg ?_ | refine Op.eqS ?_ | refine Op.neS ?_ | refine Ex.if ?_ | refine Ex.ret ?_ | refine Ex.brk ?_ | refine Ex.cont ?_ | refine Ev.ifx ?_ | refine Exs.cons ?_ | refine Exs.nil ?_) | refine Ev.var rfl ?_ | refine Ev.cmp ?_ | refine Ev.subL ?_ | refine Ts.cmp ?_ | refine As.name (Sn.local rfl ?_) | refine Evs.cons ?_ | refine Ex.assign ?_ | refine Ex.assign2 ?_ | refine Ex.expr ?_ | refine Ex.aug rfl rfl ?_)
        have : ys.set n (xs.getD pos 0) = sd (fun a b => ltv val b a) xs start pos := by
          rw [← hgo]
          cases f with
          | zero => rfl
          | succ f => rw [sdGo, if_pos hlt, if_neg (by rw [hb2]; exact Bool.false_ne_true)]
        rw [this]; exact hq
    · repeat (first | (with_reducible first | refine Ev.cint ?_ | refine Ev.cstr ?_ | refine Ev.cbool ?_ | refine Ev.cnone ?_ | refine Ev.bin ?_ | refine Ev.una ?_ | refine Ts.not ?_ | refine Ts.bools ?_ | refine TsAll.and ?_ | refine TsAll.or ?_ | refine TsAll.andNil ?_ | refine TsAll.orNil ?_ | refine Tr.bool ?_ | refine As.sub ?_ | refine Evs.nil ?_ | refine Op.add ?_ | refine Op.sub ?_ | refine Op.iadd ?_ | refine Op.isub ?_ | refine Op.mul2 ?_ | refine Op.lt ?_ | refine Op.gt ?_ | refine Op.eq ?_ | refine Op.ne ?_ | refine Op.neg ?_ | refine Op.eqS ?_ | refine Op.neS ?_ | refine Ex.if ?_ | refine Ex.ret ?_ | refine Ex.brk ?_ | refine Ex.cont ?_ | refine Ev.ifx ?_ | refine Exs.cons ?_ | refine Exs.nil ?_) | refine Ev.var rfl ?_ | refine Ev.cmp ?_ | refine Ev.subL ?_ | refine Ts.cmp ?_ | refine As.name (Sn.local rfl ?_) | refine Evs.cons ?_ | refine Ex.assign ?_ | refine Ex.assign2 ?_ | refine Ex.expr ?_ | refine Ex.aug rfl rfl ?_)
      refine OpU.setL hhs (by simpa [hyl] using hlen) (Int.natCast_nonneg _) (by simpa using hny) ?_
      rw [Int.toNat_natCast, set_map_ref, set_same_heap]
      repeat (first | (with_reducible first | refine Ev.cint ?_ | refine Ev.cstr ?_ | refine Ev.cbool ?_ | refine Ev.cnone ?_ | refine Ev.bin ?_ | refine Ev.una ?_ | refine Ts.not ?_ | refine Ts.bools ?_ | refine TsAll.and ?_ | refine TsAll.or ?_ | refine TsAll.andNil ?_ | refine TsAll.orNil ?_ | refine Tr.bool ?_ | refine As.sub ?_ | refine Evs.nil ?_ | refine Op.add ?_ | refine Op.sub ?_ | refine Op.iadd ?_ | refine Op.isub ?_ | refine Op.mul2 ?_ | refine Op.lt ?_ | refine Op.gt ?_ | refine Op.eq ?_ | refine Op.ne ?_ | refine Op.neg ?_ | refine Op.eqS ?_ | refine Op.neS ?_ | refine Ex.if ?_ | refine Ex.ret ?_ | refine Ex.brk ?_ | refine Ex.cont ?_ | refine Ev.ifx ?_ | refine Exs.cons ?_ | refine Exs.nil ?_) | refine Ev.var rfl ?_ | refine Ev.cmp ?_ | refine Ev.subL ?_ | refine Ts.cmp ?_ | refine As.name (Sn.local rfl ?_) | refine Evs.cons ?_ | refine Ex.assign ?_ | refine Ex.assign2 ?_ | refine Ex.expr ?_ | refine Ex.aug rfl rfl ?_)
      have : ys.set n (xs.getD pos 0) = sd (fun a b => ltv val b a) xs start pos := by
        have hlt : ¬ start < n := by simpa using hb
        rw [← hgo]
        cases f with
        | zero => rfl
        | succ f => rw [sdGo, if_neg hlt]
      rw [this]; exact hq
  · exact (set_self hh).symm
end Mine
end
section
open PySem PySem.W PyProof.Rows PySem.Calls
set_option maxRecDepth 100000
namespace Mine
variable {G : Gl} {k : Nat} {sc : Scope} {m : Vars} {H : List AO}

noncomputable def suC (bf : Nat → Nat → Bool) (pos : Nat) (xs : List Nat) : Nat :=
  if 2 * pos + 2 < xs.length ∧ bf (xs.getD (2 * pos + 1) 0) (xs.getD (2 * pos + 2) 0) = false then 2 * pos + 2 else 2 * pos + 1
noncomputable def suGo (bf : Nat → Nat → Bool) : Nat → Nat → List Nat → Nat × List Nat
  | 0, pos, xs => (pos, xs)
  | f + 1, pos, xs => if 2 * pos + 1 < xs.length then suGo bf f (suC bf pos xs) (xs.set pos (xs.getD (suC bf pos xs) 0)) else (pos, xs)
noncomputable def su (bf : Nat → Nat → Bool) (xs : List Nat) (pos : Nat) : List Nat :=
  let r := suGo bf xs.length pos xs
  sd bf (r.2.set r.1 (xs.getD pos 0)) pos r.1

theorem suC_lt {bf : Nat → Nat → Bool} {pos : Nat} {xs : List Nat} (h : 2 * pos + 1 < xs.length) : suC bf pos xs < xs.length := by
  unfold suC; split
  · rename_i q; exact q.1
  · exact h
theorem suC_gt {bf : Nat → Nat → Bool} {pos : Nat} {xs : List Nat} : pos < suC bf pos xs := by
  unfold suC; split <;> lia

set_option maxHeartbeats 1000000 in
theorem siftup_max (hK : TopIs G) {h pos : Nat} {xs : List Nat} {val : Nat → Int × Int} {Q : AV → List AO → Prop} (hh : H[h]? = some (.list (xs.map .ref))) (hp : pos < xs.length) (hlen : xs.length ≤ 400)
    (T : Things H val xs) (hn : ∀ t ∈ xs, t ≠ h) (hq : Q .none (H.set h (.list ((su (fun a b => ltv val b a) xs pos).map .ref)))) : Op G (k + 2) (callOf (.ref (G.adr (Str.ofString "_siftup_max")))) [.ref h, .int pos] H Q := by
  have hhl : h < H.length := (List.getElem?_eq_some_iff.mp hh).1
  have eF := Eq.refl (fnD 15)
  conv at eF => rhs; whnf
  obtain ⟨oF, pmF, cdF, docF, hmF, hoF, hdF, hcdF⟩ := hK.at (by kernel_rfl) eF
  dsimp only at hdF
  refine Op.doc hoF hdF hcdF (fun cvs h => ?_) (by decide) (by rfl) (by decide) (by decide) (by decide) ?_
  · obtain ⟨a, b, rfl⟩ := two_of h; rfl
  dsimp only
  repeat (first | (with_reducible first | refine Ev.cint ?_ | refine Ev.cstr ?_ | refine Ev.cbool ?_ | refine Ev.cnone ?_ | refine Ev.bin ?_ | refine Ev.una ?_ | refine Ts.not ?_ | refine Ts.bools ?_ | refine TsAll.and ?_ | refine TsAll.or ?_ | refine TsAll.andNil ?_ | refine TsAll.orNil ?_ | refine Tr.bool ?_ | refine As.sub ?_ | refine Evs.nil ?_ | refine Op.add ?_ | refine Op.sub ?_ | refine Op.iadd ?_ | refine Op.isub ?_ | refine Op.mul2 ?_ | refine Op.lt ?_ | refine Op.gt ?_ | refine Op.eq ?_ | refine Op.ne ?_ | refine Op.neg ?_ | refine Op.eqS ?_ | refine Op.neS ?_ | refine Ex.if ?_ | refine Ex.ret ?_ | refine Ex.brk ?_ | refine Ex.cont ?_ | refine Ev.ifx ?_ | refine Exs.cons ?_ | refine Exs.nil ?_) | refine Ev.var rfl ?_ | refine Ev.cmp ?_ | refine Ev.subL ?_ | refine Ts.cmp ?_ | refine As.name (Sn.local rfl ?_) | refine Evs.cons ?_ | refine Ex.assign ?_ | refine Ex.assign2 ?_ | refine Ex.expr ?_ | refine Ex.aug rfl rfl ?_)
  refine callBi (hK.no (by kernel_rfl)) boot_len' rfl ?_
  repeat (first | (with_reducible first | refine Ev.cint ?_ | refine Ev.cstr ?_ | refine Ev.cbool ?_ | refine Ev.cnone ?_ | refine Ev.bin ?_ | refine Ev.una ?_ | refine Ts.not ?_ | refine Ts.bools ?_ | refine TsAll.and ?_ | refine TsAll.or ?_ | refine TsAll.andNil ?_ | refine TsAll.orNil ?_ | refine Tr.bool ?_ | refine As.sub ?_ | refine Evs.nil ?_ | refine Op.add ?_ | refine Op.sub ?_ | refine Op.iadd ?_ | refine Op.isub ?_ | refine Op.mul2 ?_ | refine Op.lt ?_ | refine Op.gt ?_ | refine Op.eq ?_ | refine Op.ne ?_ | refine Op.neg ?_ | refine Op.eqS ?_ | refine Op.neS ?_ | refine Ex.if ?_ | refine Ex.ret ?_ | refine Ex.brk ?_ | refine Ex.cont ?_ | refine Ev.ifx ?_ | refine Exs.cons ?_ | refine Exs.nil ?_) | refine Ev.var rfl ?_ | refine Ev.cmp ?_ | refine Ev.subL ?_ | refine Ts.cmp ?_ | refine As.name (Sn.local rfl ?_) | refine Evs.cons ?_ | refine Ex.assign ?_ | refine Ex.assign2 ?_ | refine Ex.expr ?_ | refine Ex.aug rfl rfl ?_)
  refine Op.lenL hh (by simp; lia) ?_
  rw [List.length_map]
  repeat (first | (with_reducible first | refine Ev.cint ?_ | refine Ev.cstr ?_ | refine Ev.cbool ?_ | refine Ev.cnone ?_ | refine Ev.bin ?_ | refine Ev.una ?_ | refine Ts.not ?_ | refine Ts.bools ?_ | refine TsAll.and ?_ | refine TsAll.or ?_ | refine TsAll.andNil ?_ | refine TsAll.orNil ?_ | refine Tr.bool ?_ | refine As.sub ?_ | refine Evs.nil ?_ | refine Op.add ?_ | refine Op.sub ?_ | refine Op.iadd ?_ | refine Op.isub ?_ | refine Op.mul2 ?_ | refine Op.lt ?_ | refine Op.gt ?_ | refine Op.eq ?_ | refine Op.ne ?_ | refine Op.neg ?_ | refine Op.eqS ?_ | refine Op.neS ?_ | refine Ex.if ?_ | refine Ex.ret ?_ | refine Ex.brk ?_ | refine Ex.cont ?_ | refine Ev.ifx ?_ | refine Exs.cons ?_ | refine Exs.nil ?_) | refine Ev.var rfl ?_ | refine Ev.cmp ?_ | refine Ev.subL ?_ | refine Ts.cmp ?_ | refine As.name (Sn.local rfl ?_) | refine Evs.cons ?_ | refine Ex.assign ?_ | refine Ex.assign2 ?_ | refine Ex.expr ?_ | refine Ex.aug rfl rfl ?_)
  refine ⟨h, _, _, _, rfl, rfl, hh, by simp; lia, .inl ⟨Int.natCast_nonneg _, by rw [Int.toNat_natCast]; exact getElem?_map_ref hp⟩, ?_⟩
  repeat (first | (with_reducible first | refine Ev.cint ?_ | refine Ev.cstr ?_ | refine Ev.cbool ?_ | refine Ev.cnone ?_ | refine Ev.bin ?_ | refine Ev.una ?_ | refine Ts.not ?_ | refine Ts.bools ?_ | refine TsAll.and ?_ | refine TsAll.or ?_ | refine TsAll.andNil ?_ | refine TsAll.orNil ?_ | refine Tr.bool ?_ | refine As.sub ?_ | refine Evs.nil ?_ | refine Op.add ?_ | refine Op.sub ?_ | refine Op.iadd ?_ | refine Op.isub ?_ | refine Op.mul2 ?_ | refine Op.lt ?_ | refine Op.gt ?_ | refine Op.eq ?_ | refine Op.ne ?_ | refine Op.neg ?_ | refine Op.eqS ?_ | refine Op.neS ?_ | refine Ex.if ?_ | refine Ex.ret ?_ | refine Ex.brk ?_ | refine Ex.cont ?_ | refine Ev.ifx ?_ | refine Exs.cons ?_ | refine Exs.nil ?_) | refine Ev.var rfl ?_ | refine Ev.cmp ?_ | refine Ev.subL ?_ | refine Ts.cmp ?_ | refine As.name (Sn.local rfl ?_) | refine Evs.cons ?_ | refine Ex.assign ?_ | refine Ex.assign2 ?_ | refine Ex.expr ?_ | refine Ex.aug rfl rfl ?_)
  refine Ex.while (Wh.less (Wh.inv (fun n m H' => ∃ (ys : List Nat) (p f : Nat), n = xs.length - p ∧ n ≤ f ∧ p < ys.length ∧ ys.length = xs.length ∧ (∀ t ∈ ys, t ∈ xs) ∧ H' = H.set h (.list (ys.map .ref)) ∧
      m = [(Str.ofString "heap", .ref h), (Str.ofString "startpos", .int pos), (Str.ofString "endpos", .int (xs.length : Int)), (Str.ofString "pos", .int (p : Int)), (Str.ofString "newitem", .ref (xs.getD pos 0)), (Str.ofString "childpos", .int (2 * (p : Int) + 1))] ∧
      suGo (fun a b => ltv val b a) f p ys = suGo (fun a b => ltv val b a) xs.length pos xs) ?_ (xs.length - pos) _ _ ⟨xs, pos, xs.length, rfl, by lia, hp, rfl, fun _ ht => ht, ?_, rfl, rfl⟩) (SubL.sub ⟨rfl, rfl, rfl, rfl, rfl, rfl, trivial⟩))
  · rintro n m H' ⟨ys, p, f, hnp, hf, hpy, hyl, hys, rfl, rfl, hgo⟩
    have hhs : (H.set h (.list (ys.map .ref)))[h]? = some (.list (ys.map .ref)) := get_set_heap hhl
    have T' : Things (H.set h (.list (ys.map .ref))) val xs := T.set hn _
    repeat (first | (with_reducible first | refine Ev.cint ?_ | refine Ev.cstr ?_ | refine Ev.cbool ?_ | refine Ev.cnone ?_ | refine Ev.bin ?_ | refine Ev.una ?_ | refine Ts.not ?_ | refine Ts.bools ?_ | refine TsAll.and ?_ | refine TsAll.or ?_ | refine TsAll.andNil ?_ | refine TsAll.orNil ?_ | refine Tr.bool ?_ | refine As.sub ?_ | refine Evs.nil ?_ | refine Op.add ?_ | refine Op.sub ?_ | refine Op.iadd ?_ | refine Op.isub ?_ | refine Op.mul2 ?_ | refine Op.lt ?_ | refine Op.gt ?_ | refine Op.eq ?_ | refine Op.ne ?_ | refine Op.neg ?_ | refine Op.eqS ?_ | refine Op.neS ?_ | refine Ex.if ?_ | refine Ex.ret ?_ | refine Ex.brk ?_ | refine Ex.cont ?_ | refine Ev.ifx ?_ | refine Exs.cons ?_ | refine Exs.nil ?_) | refine Ev.var rfl ?_ | refine Ev.cmp ?_ | refine Ev.subL ?_ | refine Ts.cmp ?_ | refine As.name (Sn.local rfl ?_) | refine Evs.cons ?_ | refine Ex.assign ?_ | refine Ex.assign2 ?_ | refine Ex.expr ?_ | refine Ex.aug rfl rfl ?_)
    refine ⟨fun hb => ?_, fun hb => ?_⟩
    · have hlt : 2 * p + 1 < ys.length := by have : (2 * (p : Int) + 1) < xs.length := by simpa using hb
                                             lia
      obtain ⟨f, rfl⟩ : ∃ g, f = g + 1 := ⟨f - 1, by lia⟩
      rw [suGo, if_pos hlt] at hgo
      refine Exs.cons ?_
      repeat (first | (with_reducible first | refine Ev.cint ?_ | refine Ev.cstr ?_ | refine Ev.cbool ?_ | refine Ev.cnone ?_ | refine Ev.bin ?_ | refine Ev.una ?_ | refine Ts.not ?_ | refine Ts.bools ?_ | refine TsAll.and ?_ | refine TsAll.or ?_ | refine TsAll.andNil ?_ | refine TsAll.orNil ?_ | refine Tr.bool ?_ | refine As.sub ?_ | refine Evs.nil ?_ | refine Op.add ?_ | refine Op.sub ?_ | refine Op.iadd ?_ | refine Op.isub ?_ | refine Op.mul2 ?_ | refine Op.lt ?_ | refine Op.gt ?_ | refine Op.eq ?_ | refine Op.ne ?_ | refine Op.neg ?_ | refine Op.eqS ?_ | refine Op.neS ?_ | refine Ex.if ?_ | refine Ex.ret ?_ | refine Ex.brk ?_ | refine Ex.cont ?_ | refine Ev.ifx ?_) | refine Ev.var rfl ?_ | refine Ev.cmp ?_ | refine Ev.subL ?_ | refine Ts.cmp ?_ | refine As.name (Sn.local rfl ?_) | refine Evs.cons ?_ | refine Ex.assign ?_ | refine Ex.assign2 ?_ | refine Ex.expr ?_ | refine Ex.aug rfl rfl ?_)
      -- the child is chosen
      refine Exs.cut (fun m' H' => m' = [(Str.ofString "heap", .ref h), (Str.ofString "startpos", .int pos), (Str.ofString "endpos", .int (xs.length : Int)), (Str.ofString "pos", .int (p : Int)), (Str.ofString "newitem", .ref (xs.getD pos 0)), (Str.ofString "childpos", .int ((suC (fun a b => ltv val b a) p ys : Nat) : Int))] ∧ H' = H.set h (.list (ys.map .ref))) ?_ ?_
      · repeat (first | (with_reducible first | refine Ev.cint ?_ | refine Ev.cstr ?_ | refine Ev.cbool ?_ | refine Ev.cnone ?_ | refine Ev.bin ?_ | refine Ev.una ?_ | refine Ts.not ?_ | refine Ts.bools ?_ | refine TsAll.and ?_ | refine TsAll.or ?_ | refine TsAll.andNil ?_ | refine TsAll.orNil ?_ | refine Tr.bool ?_ | refine As.sub ?_ | refine Evs.nil ?_ | refine Op.add ?_ | refine Op.sub ?_ | refine Op.iadd ?_ | refine Op.isub ?_ | refine Op.mul2 ?_ | refine Op.lt ?_ | refine Op.gt ?_ | refine Op.eq ?_ | refine Op.ne ?_ | refine Op.neg ?_ | refine Op.eqS ?_ | refine Op.neS ?_ | refine Ex.if ?_ | refine Ex.ret ?_ | refine Ex.brk ?_ | refine Ex.cont ?_ | refine Ev.ifx ?_ | refine Exs.cons ?_ | refine Exs.nil ?_) | refine Ev.var rfl ?_ | refine Ev.cmp ?_ | refine Ev.subL ?_ | refine Ts.cmp ?_ | refine As.name (Sn.local rfl ?_) | refine Evs.cons ?_ | refine Ex.assign ?_ | refine Ex.assign2 ?_ | refine Ex.expr ?_ | refine Ex.aug rfl rfl ?_)
        refine ⟨fun hb1 => ⟨fun q => (Bool.false_ne_true q).elim, fun _ => ?_⟩, fun hb1 => ?_⟩
        · have hr : ¬ 2 * p + 2 < ys.length := by have : ¬ (2 * (p : Int) + 1 + 1) < xs.length := by simpa using hb1
                                                  lia
          have e : suC (fun a b => ltv val b a) p ys = 2 * p + 1 := by unfold suC; rw [if_neg (fun q => hr q.1)]
          repeat (first | (with_reducible first | refine Ev.cint ?_ | refine Ev.cstr ?_ | refine Ev.cbool ?_ | refine Ev.cnone ?_ | refine Ev.bin ?_ | refine Ev.una ?_ | refine Ts.not ?_ | refine Ts.bools ?_ | refine TsAll.and ?_ | refine TsAll.or ?_ | refine TsAll.andNil ?_ | refine TsAll.orNil ?_ | refine Tr.bool ?_ | refine As.sub ?_ | refine Evs.nil ?_ | refine Op.add ?_ | refine Op.sub ?_ | refine Op.iadd ?_ | refine Op.isub ?_ | refine Op.mul2 ?_ | refine Op.lt ?_ | refine Op.gt ?_ | refine Op.eq ?_ | refine Op.ne ?_ | refine Op.neg ?_ | refine Op.eqS ?_ | refine Op.neS ?_ | refine Ex.if ?_ | refine Ex.ret ?_ | refine Ex.brk ?_ | refine Ex.cont ?_ | refine Ev.ifx ?_ | refine Exs.cons ?_ | refine Exs.nil ?_) | refine Ev.var rfl ?_ | refine Ev.cmp ?_ | refine Ev.subL ?_ | refine Ts.cmp ?_ | refine As.name (Sn.local rfl ?_) | refine Evs.cons ?_ | refine Ex.assign ?_ | refine Ex.assign2 ?_ | refine Ex.expr ?_ | refine Ex.aug rfl rfl ?_)
          refine ⟨rfl, _, ?sub, rfl, rfl⟩
          case sub => rw [e]; exact ⟨rfl, rfl, rfl, rfl, rfl, by push_cast; rfl, trivial⟩
        · have hr : 2 * p + 2 < ys.length := by have : (2 * (p : Int) + 1 + 1) < xs.length := by simpa using hb1
                                                lia
          repeat (first | (with_reducible first | refine Ev.cint ?_ | refine Ev.cstr ?_ | refine Ev.cbool ?_ | refine Ev.cnone ?_ | refine Ev.bin ?_ | refine Ev.una ?_ | refine Ts.not ?_ | refine Ts.bools ?_ | refine TsAll.and ?_ | refine TsAll.or ?_ | refine TsAll.andNil ?_ | refine TsAll.orNil ?_ | refine Tr.bool ?_ | refine As.sub ?_ | refine Evs.nil ?_ | refine Op.add ?_ | refine Op.sub ?_ | refine Op.iadd ?_ | refine Op.isub ?_ | refine Op.mul2 ?_ | refine Op.lt ?_ | refine Op.gt ?_ | refine Op.eq ?_ | refine Op.ne ?_ | refine Op.neg ?_ | refine Op.eqS ?_ | refine Op.neS ?_ | refine Ex.if ?_ | refine Ex.ret ?_ | refine Ex.brk ?_ | refine Ex.cont ?_ | refine Ev.ifx ?_ | refine Exs.cons ?_ | refine Exs.nil ?_) | refine Ev.var rfl ?_ | refine Ev.cmp ?_ | refine Ev.subL ?_ | refine Ts.cmp ?_ | refine As.name (Sn.local rfl ?_) | refine Evs.cons ?_ | refine Ex.assign ?_ | refine Ex.assign2 ?_ | refine Ex.expr ?_ | refine Ex.aug rfl rfl ?_)
          refine ⟨h, _, _, _, rfl, rfl, hhs, by simp; lia, .inl ⟨by lia, by rw [show (2 * (p : Int) + 1 + 1).toNat = 2 * p + 2 by lia]; exact getElem?_map_ref hr⟩, ?_⟩
          repeat (first | (with_reducible first | refine Ev.cint ?_ | refine Ev.cstr ?_ | refine Ev.cbool ?_ | refine Ev.cnone ?_ | refine Ev.bin ?_ | refine Ev.una ?_ | refine Ts.not ?_ | refine Ts.bools ?_ | refine TsAll.and ?_ | refine TsAll.or ?_ | refine TsAll.andNil ?_ | refine TsAll.orNil ?_ | refine Tr.bool ?_ | refine As.sub ?_ | refine Evs.nil ?_ | refine Op.add ?_ | refine Op.sub ?_ | refine Op.iadd ?_ | refine Op.isub ?_ | refine Op.mul2 ?_ | refine Op.lt ?_ | refine Op.gt ?_ | refine Op.eq ?_ | refine Op.ne ?_ | refine Op.neg ?_ | refine Op.eqS ?_ | refine Op.neS ?_ | refine Ex.if ?_ | refine Ex.ret ?_ | refine Ex.brk ?_ | refine Ex.cont ?_ | refine Ev.ifx ?_ | refine Exs.cons ?_ | refine Exs.nil ?_) | refine Ev.var rfl ?_ | refine Ev.cmp ?_ | refine Ev.subL ?_ | refine Ts.cmp ?_ | refine As.name (Sn.local rfl ?_) | refine Evs.cons ?_ | refine Ex.assign ?_ | refine Ex.assign2 ?_ | refine Ex.expr ?_ | refine Ex.aug rfl rfl ?_)
          refine ⟨h, _, _, _, rfl, rfl, hhs, by simp; lia, .inl ⟨by lia, by rw [show (2 * (p : Int) + 1).toNat = 2 * p + 1 by lia]; exact getElem?_map_ref hlt⟩, ?_⟩
          refine lt2 (T' _ (hys _ (getD_mem hr))) (T' _ (hys _ (getD_mem hlt))) ?_
          repeat (first | (with_reducible first | refine Ev.cint ?_ | refine Ev.cstr ?_ | refine Ev.cbool ?_ | refine Ev.cnone ?_ | refine Ev.bin ?_ | refine Ev.una ?_ | refine Ts.not ?_ | refine Ts.bools ?_ | refine TsAll.and ?_ | refine TsAll.or ?_ | refine TsAll.andNil ?_ | refine TsAll.orNil ?_ | refine Tr.bool ?_ | refine As.sub ?_ | refine Evs.nil ?_ | refine Op.add ?_ | refine Op.sub ?_ | refine Op.iadd ?_ | refine Op.isub ?_ | refine Op.mul2 ?_ | refine Op.lt ?_ | refine Op.gt ?_ | refine Op.eq ?_ | refine Op.ne ?_ | refine Op.neg ?_ | refine Op.eqS ?_ | refine Op.neS ?_ | refine Ex.if ?_ | refine Ex.ret ?_ | refine Ex.brk ?_ | refine Ex.cont ?_ | refine Ev.ifx ?_ | refine Exs.cons ?_ | refine Exs.nil ?_) | refine Ev.var rfl ?_ | refine Ev.cmp ?_ | refine Ev.subL ?_ | refine Ts.cmp ?_ | refine As.name (Sn.local rfl ?_) | refine Evs.cons ?_ | refine Ex.assign ?_ | refine Ex.assign2 ?_ | refine Ex.expr ?_ | refine Ex.aug rfl rfl ?_)
          refine ⟨fun hb2 => ?_, fun hb2 => ?_⟩
          · have hb3 : ltv val (ys.getD (2 * p + 2) 0) (ys.getD (2 * p + 1) 0) = true := by simpa using hb2
            have e : suC (fun a b => ltv val b a) p ys = 2 * p + 1 := by unfold suC; rw [if_neg (fun q => absurd (hb3.symm.trans q.2) (by decide))]
            refine ⟨fun q => (Bool.false_ne_true q).elim, fun _ => ?_⟩
            repeat (first | (with_reducible first | refine Ev.cint ?_ | refine Ev.cstr ?_ | refine Ev.cbool ?_ | refine Ev.cnone ?_ | refine Ev.bin ?_ | refine Ev.una ?_ | refine Ts.not ?_ | refine Ts.bools ?_ | refine TsAll.and ?_ | refine TsAll.or ?_ | refine TsAll.andNil ?_ | refine TsAll.orNil ?_ | refine Tr.bool ?_ | refine As.sub ?_ | refine Evs.nil ?_ | refine Op.add ?_ | refine Op.sub ?_ | refine Op.iadd ?_ | refine Op.isub ?_ | refine Op.mul2 ?_ | refine Op.lt ?_ | refine Op.gt ?_ | refine Op.eq ?_ | refine Op.ne ?_ | refine Op.neg ?_ | refine Op.eqS ?_ | refine Op.neS ?_ | refine Ex.if ?_ | refine Ex.ret ?_ | refine Ex.brk ?_ | refine Ex.cont ?_ | refine Ev.ifx ?_ | refine Exs.cons ?_ | refine Exs.nil ?_) | refine Ev.var rfl ?_ | refine Ev.cmp ?_ | refine Ev.subL ?_ | refine Ts.cmp ?_ | refine As.name (Sn.local rfl ?_) | refine Evs.cons ?_ | refine Ex.assign ?_ | refine Ex.assign2 ?_ | refine Ex.expr ?_ | refine Ex.aug rfl rfl ?_)
            refine ⟨rfl, _, ?sub, rfl, rfl⟩
            case sub => rw [e]; exact ⟨rfl, rfl, rfl, rfl, rfl, by push_cast; rfl, trivial⟩
          · have hb3 : ltv val (ys.getD (2 * p + 2) 0) (ys.getD (2 * p + 1) 0) = false := by simpa using hb2
            have e : suC (fun a b => ltv val b a) p ys = 2 * p + 2 := by unfold suC; rw [if_pos ⟨hr, hb3⟩]
            repeat (first | (with_reducible first | refine Ev.cint ?_ | refine Ev.cstr ?_ | refine Ev.cbool ?_ | refine Ev.cnone ?_ | refine Ev.bin ?_ | refine Ev.una ?_ | refine Ts.not ?_ | refine Ts.bools ?_ | refine TsAll.and ?_ | refine TsAll.or ?_ | refine TsAll.andNil ?_ | refine TsAll.orNil ?_ | refine Tr.bool ?_ | refine As.sub ?_ | refine Evs.nil ?_ | refine Op.add ?_ | refine Op.sub ?_ | refine Op.iadd ?_ | refine Op.isub ?_ | refine Op.mul2 ?_ | refine Op.lt ?_ | refine Op.gt ?_ | refine Op.eq ?_ | refine Op.ne ?_ | refine Op.neg ?_ | refine Op.eqS ?_ | refine Op.neS ?_ | refine Ex.if ?_ | refine Ex.ret ?_ | refine Ex.brk ?_ | refine Ex.cont ?_ | refine Ev.ifx ?_ | refine Exs.cons ?_ | refine Exs.nil ?_) | refine Ev.var rfl ?_ | refine Ev.cmp ?_ | refine Ev.subL ?_ | refine Ts.cmp ?_ | refine As.name (Sn.local rfl ?_) | refine Evs.cons ?_ | refine Ex.assign ?_ | refine Ex.assign2 ?_ | refine Ex.expr ?_ | refine Ex.aug rfl rfl ?_)
            refine ⟨fun _ => ?_, fun q => (Bool.false_ne_true q.symm).elim⟩
            repeat (first | (with_reducible first | refine Ev.cint ?_ | refine Ev.cstr ?_ | refine Ev.cbool ?_ | refine Ev.cnone ?_ | refine Ev.bin ?_ | refine Ev.una ?_ | refine Ts.not ?_ | refine Ts.bools ?_ | refine TsAll.and ?_ | refine TsAll.or ?_ | refine TsAll.andNil ?_ | refine TsAll.orNil ?_ | refine Tr.bool ?_ | refine As.sub ?_ | refine Evs.nil ?_ | refine Op.add ?_ | refine Op.sub ?_ | refine Op.iadd ?_ | refine Op.isub ?_ | refine Op.mul2 ?_ | refine Op.lt ?_ | refine Op.gt ?_ | refine Op.eq ?_ | refine Op.ne ?_ | refine Op.neg ?_ | refine Op.eqS ?_ | refine Op.neS ?_ | refine Ex.if ?_ | refine Ex.ret ?_ | refine Ex.brk ?_ | refine Ex.cont ?_ | refine Ev.ifx ?_ | refine Exs.cons ?_ | refine Exs.nil ?_) | refine Ev.var rfl ?_ | refine Ev.cmp ?_ | refine Ev.subL ?_ | refine Ts.cmp ?_ | refine As.name (Sn.local rfl ?_) | refine Evs.cons ?_ | refine Ex.assign ?_ | refine Ex.assign2 ?_ | refine Ex.expr ?_ | refine Ex.aug rfl rfl ?_)
            refine ⟨rfl, _, ?sub, rfl, rfl⟩
            case sub => rw [e]; exact ⟨rfl, rfl, rfl, rfl, rfl, by push_cast; rfl, trivial⟩
      · rintro m' H' ⟨rfl, rfl⟩
        have hc := suC_lt (bf := fun a b => ltv val b a) hlt
        have hc2 := suC_gt (bf := fun a b => ltv val b a) (pos := p) (xs := ys)
        repeat (first | (with_reducible first | refine Ev.cint ?_ | refine Ev.cstr ?_ | refine Ev.cbool ?_ | refine Ev.cnone ?_ | refine Ev.bin ?_ | refine Ev.una ?_ | refine Ts.not ?_ | refine Ts.bools ?_ | refine TsAll.and ?_ | refine TsAll.or ?_ | refine TsAll.andNil ?_ | refine TsAll.orNil ?_ | refine Tr.bool ?_ | refine As.sub ?_ | refine Evs.nil ?_ | refine Op.add ?_ | refine Op.sub ?_ | refine Op.iadd ?_ | refine Op.isub ?_ | refine Op.mul2 ?_ | refine Op.lt ?_ | refine Op.gt ?_ | refine Op.eq ?_ | refine Op.ne ?_ | refine Op.neg ?_ | refine Op.eqS ?_ | refine Op.neS ?_ | refine Ex.if ?_ | refine Ex.ret ?_ | refine Ex.brk ?_ | refine Ex.cont ?_ | refine Ev.ifx ?_ | refine Exs.cons ?_ | refine Exs.nil ?_) | refine Ev.var rfl ?_ | refine Ev.cmp ?_ | refine Ev.subL ?_ | refine Ts.cmp ?_ | refine As.name (Sn.local rfl ?_) | refine Evs.cons ?_ | refine Ex.assign ?_ | refine Ex.assign2 ?_ | refine Ex.expr ?_ | refine Ex.aug rfl rfl ?_)
        refine ⟨h, _, _, _, rfl, rfl, hhs, by simp; lia, .inl ⟨Int.natCast_nonneg _, by rw [Int.toNat_natCast]; exact getElem?_map_ref hc⟩, ?_⟩
        repeat (first | (with_reducible first | refine Ev.cint ?_ | refine Ev.cstr ?_ | refine Ev.cbool ?_ | refine Ev.cnone ?_ | refine Ev.bin ?_ | refine Ev.una ?_ | refine Ts.not ?_ | refine Ts.bools ?_ | refine TsAll.and ?_ | refine TsAll.or ?_ | refine TsAll.andNil ?_ | refine TsAll.orNil ?_ | refine Tr.bool ?_ | refine As.sub ?_ | refine Evs.nil ?_ | refine Op.add ?_ | refine Op.sub ?_ | refine Op.iadd ?_ | refine Op.isub ?_ | refine Op.mul2 ?_ | refine Op.lt ?_ | refine Op.gt ?_ | refine Op.eq ?_ | refine Op.ne ?_ | refine Op.neg ?_ | refine Op.eqS ?_ | refine Op.neS ?_ | refine Ex.if ?_ | refine Ex.ret ?_ | refine Ex.brk ?_ | refine Ex.cont ?_ | refine Ev.ifx ?_ | refine Exs.cons ?_ | refine Exs.nil ?_) | refine Ev.var rfl ?_ | refine Ev.cmp ?_ | refine Ev.subL ?_ | refine Ts.cmp ?_ | refine As.name (Sn.local rfl ?_) | refine Evs.cons ?_ | refine Ex.assign ?_ | refine Ex.assign2 ?_ | refine Ex.expr ?_ | refine Ex.aug rfl rfl ?_)
        refine OpU.setL hhs (by simp; lia) (Int.natCast_nonneg _) (by simpa using hpy) ?_
        rw [Int.toNat_natCast, set_map_ref, set_same_heap]
        repeat (first | (with_reducible first | refine Ev.cint ?_ | refine Ev.cstr ?_ | refine Ev.cbool ?_ | refine Ev.cnone ?_ | refine Ev.bin ?_ | refine Ev.una ?_ | refine Ts.not ?_ | refine Ts.bools ?_ | refine TsAll.and ?_ | refine TsAll.or ?_ | refine TsAll.andNil ?_ | refine TsAll.orNil ?_ | refine Tr.bool ?_ | refine As.sub ?_ | refine Evs.nil ?_ | refine Op.add ?_ | refine Op.sub ?_ | refine Op.iadd ?_ | refine Op.isub ?_ | refine Op.mul2 ?_ | refine Op.lt ?_ | refine Op.gt ?_ | refine Op.eq ?_ | refine Op.ne ?_ | refine Op.neg ?_ | refine Op.eqS ?_ | refine Op.neS ?_ | refine Ex.if ?_ | refine Ex.ret ?_ | refine Ex.brk ?_ | refine Ex.cont ?_ | refine Ev.ifx ?_ | refine Exs.cons ?_ | refine Exs.nil ?_) | refine Ev.var rfl ?_ | refine Ev.cmp ?_ | refine Ev.subL ?_ | refine Ts.cmp ?_ | refine As.name (Sn.local rfl ?_) | refine Evs.cons ?_ | refine Ex.assign ?_ | refine Ex.assign2 ?_ | refine Ex.expr ?_ | refine Ex.aug rfl rfl ?_)
        refine ⟨xs.length - suC (fun a b => ltv val b a) p ys, _, by lia, ?sub, ys.set p (ys.getD (suC (fun a b => ltv val b a) p ys) 0), suC (fun a b => ltv val b a) p ys, f, rfl, by lia, by rw [List.length_set]; exact hc, by rw [List.length_set, hyl], fun t ht => ?_, rfl, rfl, hgo⟩
        case sub => exact ⟨rfl, rfl, rfl, rfl, rfl, rfl, trivial⟩
        rcases List.mem_or_eq_of_mem_set ht with q | q
        · exact hys t q
        · rw [q]; exact hys _ (getD_mem hc)
    · have hge : ¬ 2 * p + 1 < ys.length := by have : ¬ (2 * (p : Int) + 1) < xs.length := by simpa using hb
                                               lia
      have hr : suGo (fun a b => ltv val b a) xs.length pos xs = (p, ys) := by
        rw [← hgo]
        cases f with
        | zero => rfl
        | succ f => rw [suGo, if_neg hge]
      repeat (first | (with_reducible first | refine Ev.cint ?_ | refine Ev.cstr ?_ | refine Ev.cbool ?_ | refine Ev.cnone ?_ | refine Ev.bin ?_ | refine Ev.una ?_ | refine Ts.not ?_ | refine Ts.bools ?_ | refine TsAll.and ?_ | refine TsAll.or ?_ | refine TsAll.andNil ?_ | refine TsAll.orNil ?_ | refine Tr.bool ?_ | refine As.sub ?_ | refine Evs.nil ?_ | refine Op.add ?_ | refine Op.sub ?_ | refine Op.iadd ?_ | refine Op.isub ?_ | refine Op.mul2 ?_ | refine Op.lt ?_ | refine Op.gt ?_ | refine Op.eq ?_ | refine Op.ne ?_ | refine Op.neg ?_ | refine Op.eqS ?_ | refine Op.neS ?_ | refine Ex.if ?_ | refine Ex.ret ?_ | refine Ex.brk ?_ | refine Ex.cont ?_ | refine Ev.ifx ?_ | refine Exs.cons ?_ | refine Exs.nil ?_) | refine Ev.var rfl ?_ | refine Ev.cmp ?_ | refine Ev.subL ?_ | refine Ts.cmp ?_ | refine As.name (Sn.local rfl ?_) | refine Evs.cons ?_ | refine Ex.assign ?_ | refine Ex.assign2 ?_ | refine Ex.expr ?_ | refine Ex.aug rfl rfl ?_)
      refine OpU.setL hhs (by simp; lia) (Int.natCast_nonneg _) (by simpa using hpy) ?_
      rw [Int.toNat_natCast, set_map_ref, set_same_heap]
      repeat (first | (with_reducible first | refine Ev.cint ?_ | refine Ev.cstr ?_ | refine Ev.cbool ?_ | refine Ev.cnone ?_ | refine Ev.bin ?_ | refine Ev.una ?_ | refine Ts.not ?_ | refine Ts.bools ?_ | refine TsAll.and ?_ | refine TsAll.or ?_ | refine TsAll.andNil ?_ | refine TsAll.orNil ?_ | refine Tr.bool ?_ | refine As.sub ?_ | refine Evs.nil ?_ | refine Op.add ?_ | refine Op.sub ?_ | refine Op.iadd ?_ | refine Op.isub ?_ | refine Op.mul2 ?_ | refine Op.lt ?_ | refine Op.gt ?_ | refine Op.eq ?_ | refine Op.ne ?_ | refine Op.neg ?_ | refine Op.eqS ?_ | refine Op.neS ?_ | refine Ex.if ?_ | refine Ex.ret ?_ | refine Ex.brk ?_ | refine Ex.cont ?_ | refine Ev.ifx ?_ | refine Exs.cons ?_ | refine Exs.nil ?_) | refine Ev.var rfl ?_ | refine Ev.cmp ?_ | refine Ev.subL ?_ | refine Ts.cmp ?_ | refine As.name (Sn.local rfl ?_) | refine Evs.cons ?_ | refine Ex.assign ?_ | refine Ex.assign2 ?_ | refine Ex.expr ?_ | refine Ex.aug rfl rfl ?_)
      refine callTop hK (by kernel_rfl) rfl ?_
      repeat (first | (with_reducible first | refine Ev.cint ?_ | refine Ev.cstr ?_ | refine Ev.cbool ?_ | refine Ev.cnone ?_ | refine Ev.bin ?_ | refine Ev.una ?_ | refine Ts.not ?_ | refine Ts.bools ?_ | refine TsAll.and ?_ | refine TsAll.or ?_ | refine TsAll.andNil ?_ | refine TsAll.orNil ?_ | refine Tr.bool ?_ | refine As.sub ?_ | refine Evs.nil ?_ | refine Op.add ?_ | refine Op.sub ?_ | refine Op.iadd ?_ | refine Op.isub ?_ | refine Op.mul2 ?_ | refine Op.lt ?_ | refine Op.gt ?_ | refine Op.eq ?_ | refine Op.ne ?_ | refine Op.neg ?_ | refine Op.eqS ?_ | refine Op.neS ?_ | refine Ex.if ?_ | refine Ex.ret ?_ | refine Ex.brk ?_ | refine Ex.cont ?_ | refine Ev.ifx ?_ | refine Exs.cons ?_ | refine Exs.nil ?_) | refine Ev.var rfl ?_ | refine Ev.cmp ?_ | refine Ev.subL ?_ | refine Ts.cmp ?_ | refine As.name (Sn.local rfl ?_) | refine Evs.cons ?_ | refine Ex.assign ?_ | refine Ex.assign2 ?_ | refine Ex.expr ?_ | refine Ex.aug rfl rfl ?_)
      have hmem : ∀ t ∈ ys.set p (xs.getD pos 0), t ∈ xs := fun t ht => by
        rcases List.mem_or_eq_of_mem_set ht with q | q
        · exact hys t q
        · rw [q]; exact getD_mem hp
      refine siftdown_max (val := val) hK (xs := ys.set p (xs.getD pos 0)) (get_set_heap hhl) (by rw [List.length_set]; exact hpy) (by rw [List.length_set]; lia) (fun t ht => T.set hn _ t (hmem t ht)) (fun t ht => hn t (hmem t ht)) ?_
      rw [set_same_heap]
      repeat (first | (with_reducible first | refine Ev.cint ?_ | refine Ev.cstr ?_ | refine Ev.cbool ?_ | refine Ev.cnone ?_ | refine Ev.bin ?_ | refine Ev.una ?_ | refine Ts.not ?_ | refine Ts.bools ?_ | refine TsAll.and ?_ | refine TsAll.or ?_ | refine TsAll.andNil ?_ | refine TsAll.orNil ?_ | refine Tr.bool ?_ | refine As.sub ?_ | refine Evs.nil ?_ | refine Op.add ?_ | refine Op.sub ?_ | refine Op.iadd ?_ | refine Op.isub ?_ | refine Op.mul2 ?_ | refine Op.lt ?_ | refine Op.gt ?_ | refine Op.eq ?_ | refine Op.ne ?_ | refine Op.neg ?_ | refine Op.eqS ?_ | refine Op.neS ?_ | refine Ex.if ?_ | refine Ex.ret ?_ | refine Ex.brk ?_ | refine Ex.cont ?_ | refine Ev.ifx ?_ | refine Exs.cons ?_ | refine Exs.nil ?_) | refine Ev.var rfl ?_ | refine Ev.cmp ?_ | refine Ev.subL ?_ | refine Ts.cmp ?_ | refine As.name (Sn.local rfl ?_) | refine Evs.cons ?_ | refine Ex.assign ?_ | refine Ex.assign2 ?_ | refine Ex.expr ?_ | refine Ex.aug rfl rfl ?_)
      have e : sd (fun a b => ltv val b a) (ys.set p (xs.getD pos 0)) pos p = su (fun a b => ltv val b a) xs pos := by unfold su; rw [hr]
      rw [e]; exact hq
  · exact (set_self hh).symm
end Mine
end
section
open PySem PySem.W PyProof.Rows PySem.Calls
set_option maxRecDepth 100000
namespace Mine
variable {G : Gl} {k : Nat} {sc : Scope} {m : Vars} {H : List AO}

set_option maxHeartbeats 1000000 in
theorem siftdown_min (hK : TopIs G) {h start pos : Nat} {xs : List Nat} {val : Nat → Int × Int} {Q : AV → List AO → Prop} (hh : H[h]? = some (.list (xs.map .ref))) (hp : pos < xs.length) (hlen : xs.length ≤ 1000)
    (T : Things H val xs) (hn : ∀ t ∈ xs, t ≠ h) (hq : Q .none (H.set h (.list ((sd (fun a b => ltv val a b) xs start pos).map .ref)))) : Op G (k + 1) (callOf (.ref (G.adr (Str.ofString "_siftdown")))) [.ref h, .int start, .int pos] H Q := by
  have hhl : h < H.length := (List.getElem?_eq_some_iff.mp hh).1
  have eF := Eq.refl (fnD 12)
  conv at eF => rhs; whnf
  obtain ⟨oF, pmF, cdF, docF, hmF, hoF, hdF, hcdF⟩ := hK.at (by kernel_rfl) eF
  dsimp only at hdF
  refine Op.doc hoF hdF hcdF (fun cvs h => ?_) (by decide) (by rfl) (by decide) (by decide) (by decide) ?_
  · obtain ⟨a, b, c, rfl⟩ := three_of h; rfl
  dsimp only
  repeat (first | (with_reducible first | refine Ev.cint ?_ | refine Ev.cstr ?_ | refine Ev.cbool ?_ | refine Ev.cnone ?_ | refine Ev.bin ?_ | refine Ev.una ?_ | refine Ts.not ?_ | refine Ts.bools ?_ | refine TsAll.and ?_ | refine TsAll.or ?_ | refine TsAll.andNil ?_ | refine TsAll.orNil ?_ | refine Tr.bool ?_ | refine As.sub ?_ | refine Evs.nil ?_ | refine Op.add ?_ | refine Op.sub ?_ | refine Op.iadd ?_ | refine Op.isub ?_ | refine Op.mul2 ?_ | refine Op.lt ?_ | refine Op.gt ?_ | refine Op.eq ?_ | refine Op.ne ?_ | refine Op.neg ?_ | refine Op.eqS ?_ | refine Op.neS ?_ | refine Ex.if ?_ | refine Ex.ret ?_ | refine Ex.brk ?_ | refine Ex.cont ?_ | refine Ev.ifx ?_ | refine Exs.cons ?_ | refine Exs.nil ?_) | refine Ev.var rfl ?_ | refine Ev.cmp ?_ | refine Ev.subL ?_ | refine Ts.cmp ?_ | refine As.name (Sn.local rfl ?_) | refine Evs.cons ?_ | refine Ex.assign ?_ | refine Ex.assign2 ?_ | refine Ex.expr ?_ | refine Ex.aug rfl rfl ?_)
  refine ⟨h, _, _, _, rfl, rfl, hh, by simpa using hlen, .inl ⟨Int.natCast_nonneg _, by rw [Int.toNat_natCast]; exact getElem?_map_ref hp⟩, ?_⟩
  repeat (first | (with_reducible first | refine Ev.cint ?_ | refine Ev.cstr ?_ | refine Ev.cbool ?_ | refine Ev.cnone ?_ | refine Ev.bin ?_ | refine Ev.una ?_ | refine Ts.not ?_ | refine Ts.bools ?_ | refine TsAll.and ?_ | refine TsAll.or ?_ | refine TsAll.andNil ?_ | refine TsAll.orNil ?_ | refine Tr.bool ?_ | refine As.sub ?_ | refine Evs.nil ?_ | refine Op.add ?_ | refine Op.sub ?_ | refine Op.iadd ?_ | refine Op.isub ?_ | refine Op.mul2 ?_ | refine Op.lt ?_ | refine Op.gt ?_ | refine Op.eq ?_ | refine Op.ne ?_ | refine Op.neg ?_ | refine Op.eqS ?_ | refine Op.neS ?_ | refine Ex.if ?_ | refine Ex.ret ?_ | refine Ex.brk ?_ | refine Ex.cont ?_ | refine Ev.ifx ?_ | refine Exs.cons ?_ | refine Exs.nil ?_) | refine Ev.var rfl ?_ | refine Ev.cmp ?_ | refine Ev.subL ?_ | refine Ts.cmp ?_ | refine As.name (Sn.local rfl ?_) | refine Evs.cons ?_ | refine Ex.assign ?_ | refine Ex.assign2 ?_ | refine Ex.expr ?_ | refine Ex.aug rfl rfl ?_)
  refine Ex.while (Wh.less (Wh.inv (fun n m H' => ∃ (ys : List Nat) (f : Nat), n ≤ f ∧ n < ys.length ∧ ys.length = xs.length ∧ (∀ t ∈ ys, t ∈ xs) ∧ H' = H.set h (.list (ys.map .ref)) ∧
      m = [(Str.ofString "heap", .ref h), (Str.ofString "startpos", .int start), (Str.ofString "pos", .int (n : Int)), (Str.ofString "newitem", .ref (xs.getD pos 0))] ∧
      sdGo (fun a b => ltv val a b) (xs.getD pos 0) start f n ys = sd (fun a b => ltv val a b) xs start pos) ?_ pos _ _ ⟨xs, pos, Nat.le_refl _, hp, rfl, fun _ ht => ht, ?_, rfl, rfl⟩) (SubL.sub ⟨rfl, rfl, rfl, rfl, trivial⟩))
  · rintro n m H' ⟨ys, f, hf, hny, hyl, hys, rfl, rfl, hgo⟩
    have hhs : (H.set h (.list (ys.map .ref)))[h]? = some (.list (ys.map .ref)) := get_set_heap hhl
    have T' : Things (H.set h (.list (ys.map .ref))) val xs := T.set hn _
    repeat (first | (with_reducible first | refine Ev.cint ?_ | refine Ev.cstr ?_ | refine Ev.cbool ?_ | refine Ev.cnone ?_ | refine Ev.bin ?_ | refine Ev.una ?_ | refine Ts.not ?_ | refine Ts.bools ?_ | refine TsAll.and ?_ | refine TsAll.or ?_ | refine TsAll.andNil ?_ | refine TsAll.orNil ?_ | refine Tr.bool ?_ | refine As.sub ?_ | refine Evs.nil ?_ | refine Op.add ?_ | refine Op.sub ?_ | refine Op.iadd ?_ | refine Op.isub ?_ | refine Op.mul2 ?_ | refine Op.lt ?_ | refine Op.gt ?_ | refine Op.eq ?_ | refine Op.ne ?_ | refine Op.neg ?_ | refine Op.eqS ?_ | refine Op.neS ?_ | refine Ex.if ?_ | refine Ex.ret ?_ | refine Ex.brk ?_ | refine Ex.cont ?_ | refine Ev.ifx ?_ | refine Exs.cons ?_ | refine Exs.nil ?_) | refine Ev.var rfl ?_ | refine Ev.cmp ?_ | refine Ev.subL ?_ | refine Ts.cmp ?_ | refine As.name (Sn.local rfl ?_) | refine Evs.cons ?_ | refine Ex.assign ?_ | refine Ex.assign2 ?_ | refine Ex.expr ?_ | refine Ex.aug rfl rfl ?_)
    refine ⟨fun hb => ?_, fun hb => ?_⟩
    · have hlt : start < n := by simpa using hb
      have hpp : (n - 1) / 2 < ys.length := half_lt hny
      have hpe : (((n : Int) - 1) / 2) = (((n - 1) / 2 : Nat) : Int) := half_int (by lia)
      repeat (first | (with_reducible first | refine Ev.cint ?_ | refine Ev.cstr ?_ | refine Ev.cbool ?_ | refine Ev.cnone ?_ | refine Ev.bin ?_ | refine Ev.una ?_ | refine Ts.not ?_ | refine Ts.bools ?_ | refine TsAll.and ?_ | refine TsAll.or ?_ | refine TsAll.andNil ?_ | refine TsAll.orNil ?_ | refine Tr.bool ?_ | refine As.sub ?_ | refine Evs.nil ?_ | refine Op.add ?_ | refine Op.sub ?_ | refine Op.iadd ?_ | refine Op.isub ?_ | refine Op.mul2 ?_ | refine Op.lt ?_ | refine Op.gt ?_ | refine Op.eq ?_ | refine Op.ne ?_ | refine Op.neg ?_ | refine Op.eqS ?_ | refine Op.neS ?_ | refine Ex.if ?_ | refine Ex.ret ?_ | refine Ex.brk ?_ | refine Ex.cont ?_ | refine Ev.ifx ?_ | refine Exs.cons ?_ | refine Exs.nil ?_) | refine Ev.var rfl ?_ | refine Ev.cmp ?_ | refine Ev.subL ?_ | refine Ts.cmp ?_ | refine As.name (Sn.local rfl ?_) | refine Evs.cons ?_ | refine Ex.assign ?_ | refine Ex.assign2 ?_ | refine Ex.expr ?_ | refine Ex.aug rfl rfl ?_)
      refine Op.shr1 (by lia) ?_
      rw [hpe]
      repeat (first | (with_reducible first | refine Ev.cint ?_ | refine Ev.cstr ?_ | refine Ev.cbool ?_ | refine Ev.cnone ?_ | refine Ev.bin ?_ | refine Ev.una ?_ | refine Ts.not ?_ | refine Ts.bools ?_ | refine TsAll.and ?_ | refine TsAll.or ?_ | refine TsAll.andNil ?_ | refine TsAll.orNil ?_ | refine Tr.bool ?_ | refine As.sub ?_ | refine Evs.nil ?_ | refine Op.add ?_ | refine Op.sub ?_ | refine Op.iadd ?_ | refine Op.isub ?_ | refine Op.mul2 ?_ | refine Op.lt ?_ | refine Op.gt ?_ | refine Op.eq ?_ | refine Op.ne ?_ | refine Op.neg ?_ | refine Op.eqS ?_ | refine Op.neS ?_ | refine Ex.if ?_ | refine Ex.ret ?_ | refine Ex.brk ?_ | refine Ex.cont ?_ | refine Ev.ifx ?_ | refine Exs.cons ?_ | refine Exs.nil ?_) | refine Ev.var rfl ?_ | refine Ev.cmp ?_ | refine Ev.subL ?_ | refine Ts.cmp ?_ | refine As.name (Sn.local rfl ?_) | refine Evs.cons ?_ | refine Ex.assign ?_ | refine Ex.assign2 ?_ | refine Ex.expr ?_ | refine Ex.aug rfl rfl ?_)
      refine ⟨h, _, _, _, rfl, rfl, hhs, by simpa [hyl] using hlen, .inl ⟨Int.natCast_nonneg _, by rw [Int.toNat_natCast]; exact getElem?_map_ref hpp⟩, ?_⟩
      repeat (first | (with_reducible first | refine Ev.cint ?_ | refine Ev.cstr ?_ | refine Ev.cbool ?_ | refine Ev.cnone ?_ | refine Ev.bin ?_ | refine Ev.una ?_ | refine Ts.not ?_ | refine Ts.bools ?_ | refine TsAll.and ?_ | refine TsAll.or ?_ | refine TsAll.andNil ?_ | refine TsAll.orNil ?_ | refine Tr.bool ?_ | refine As.sub ?_ | refine Evs.nil ?_ | refine Op.add ?_ | refine Op.sub ?_ | refine Op.iadd ?_ | refine Op.isub ?_ | refine Op.mul2 ?_ | refine Op.lt ?_ | refine Op.gt ?_ | refine Op.eq ?_ | refine Op.ne ?_ | refine Op.neg ?_ | refine Op.eqS ?_ | refine Op.neS ?_ | refine Ex.if ?_ | refine Ex.ret ?_ | refine Ex.brk ?_ | refine Ex.cont ?_ | refine Ev.ifx ?_ | refine Exs.cons ?_ | refine Exs.nil ?_) | refine Ev.var rfl ?_ | refine Ev.cmp ?_ | refine Ev.subL ?_ | refine Ts.cmp ?_ | refine As.name (Sn.local rfl ?_) | refine Evs.cons ?_ | refine Ex.assign ?_ | refine Ex.assign2 ?_ | refine Ex.expr ?_ | refine Ex.aug rfl rfl ?_)
      refine lt2 (T' _ (getD_mem hp)) (T' _ (hys _ (getD_mem hpp))) ?_
      repeat (first | (with_reducible first | refine Ev.cint ?_ | refine Ev.cstr ?_ | refine Ev.cbool ?_ | refine Ev.cnone ?_ | refine Ev.bin ?_ | refine Ev.una ?_ | refine Ts.not ?_ | refine Ts.bools ?_ | refine TsAll.and ?_ | refine TsAll.or ?_ | refine TsAll.andNil ?_ | refine TsAll.orNil ?_ | refine Tr.bool ?_ | refine As.sub ?_ | refine Evs.nil ?_ | refine Op.add ?_ | refine Op.sub ?_ | refine Op.iadd ?_ | refine Op.isub ?_ | refine Op.mul2 ?_ | refine Op.lt ?_ | refine Op.gt ?_ | refine Op.eq ?_ | refine Op.ne ?_ | refine Op.neg ?_ | refine Op.eqS ?_ | refine Op.neS ?_ | refine Ex.if ?_ | refine Ex.ret ?_ | refine Ex.brk ?_ | refine Ex.cont ?_ | refine Ev.ifx ?_ | refine Exs.cons ?_ | refine Exs.nil ?_) | refine Ev.var rfl ?_ | refine Ev.cmp ?_ | refine Ev.subL ?_ | refine Ts.cmp ?_ | refine As.name (Sn.local rfl ?_) | refine Evs.cons ?_ | refine Ex.assign ?_ | refine Ex.assign2 ?_ | refine Ex.expr ?_ | refine Ex.aug rfl rfl ?_)
      refine ⟨fun hb2 => ?_, fun hb2 => ?_⟩
      · repeat (first | (with_reducible first | refine Ev.cint ?_ | refine Ev.cstr ?_ | refine Ev.cbool ?_ | refine Ev.cnone ?_ | refine Ev.bin ?_ | refine Ev.una ?_ | refine Ts.not ?_ | refine Ts.bools ?_ | refine TsAll.and ?_ | refine TsAll.or ?_ | refine TsAll.andNil ?_ | refine TsAll.orNil ?_ | refine Tr.bool ?_ | refine As.sub ?_ | refine Evs.nil ?_ | refine Op.add ?_ | refine Op.sub ?_ | refine Op.iadd ?_ | refine Op.isub ?_ | refine Op.mul2 ?_ | refine Op.lt ?_ | refine Op.gt ?_ | refine Op.eq ?_ | refine Op.ne ?_ | refine Op.neg ?_ | refine Op.eqS ?_ | refine Op.neS ?_ | refine Ex.if ?_ | refine Ex.ret ?_ | refine Ex.brk ?_ | refine Ex.cont ?_ | refine Ev.ifx ?_ | refine Exs.cons ?_ | refine Exs.nil ?_) | refine Ev.var rfl ?_ | refine Ev.cmp ?_ | refine Ev.subL ?_ | refine Ts.cmp ?_ | refine As.name (Sn.local rfl ?_) | refine Evs.cons ?_ | refine Ex.assign ?_ | refine Ex.assign2 ?_ | refine Ex.expr ?_ | refine Ex.aug rfl rfl ?_)
        refine OpU.setL hhs (by simpa [hyl] using hlen) (Int.natCast_nonneg _) (by simpa using hny) ?_
        rw [Int.toNat_natCast, set_map_ref, set_same_heap]
        repeat (first | (with_reducible first | refine Ev.cint ?_ | refine Ev.cstr ?_ | refine Ev.cbool ?_ | refine Ev.cnone ?_ | refine Ev.bin ?_ | refine Ev.una ?_ | refine Ts.not ?_ | refine Ts.bools ?_ | refine TsAll.and ?_ | refine TsAll.or ?_ | refine TsAll.andNil ?_ | refine TsAll.orNil ?_ | refine Tr.bool ?_ | refine As.sub ?_ | refine Evs.nil ?_ | refine Op.add ?_ | refine Op.sub ?_ | refine Op.iadd ?_ | refine Op.isub ?_ | refine Op.mul2 ?_ | refine Op.lt ?_ | refine Op.gt ?_ | refine Op.eq ?_ | refine Op.ne ?_ | refine Op.neg ?_ | refine Op.eqS ?_ | refine Op.neS ?_ | refine Ex.if ?_ | refine Ex.ret ?_ | refine Ex.brk ?_ | refine Ex.cont ?_ | refine Ev.ifx ?_ | refine Exs.cons ?_ | refine Exs.nil ?_) | refine Ev.var rfl ?_ | refine Ev.cmp ?_ | refine Ev.subL ?_ | refine Ts.cmp ?_ | refine As.name (Sn.local rfl ?_) | refine Evs.cons ?_ | refine Ex.assign ?_ | refine Ex.assign2 ?_ | refine Ex.expr ?_ | refine Ex.aug rfl rfl ?_)
        obtain ⟨f, rfl⟩ : ∃ g, f = g + 1 := ⟨f - 1, by lia⟩
        refine ⟨(n - 1) / 2, _, by lia, ?sub, ys.set n (ys.getD ((n - 1) / 2) 0), f, by lia, by rw [List.length_set]; exact hpp, by rw [List.length_set, hyl], fun t ht => ?_, rfl, rfl, ?_⟩
        case sub => exact ⟨rfl, rfl, rfl, rfl, trivial⟩
        · rcases List.mem_or_eq_of_mem_set ht with q | q
          · exact hys t q
          · rw [q]; exact hys _ (getD_mem hpp)
        · rw [← hgo, sdGo, if_pos hlt, if_pos hb2]
      · repeat (first | (with_reducible first | refine Ev.cint ?_ | refine Ev.cstr ?_ | refine Ev.cbool ?_ | refine Ev.cnone ?_ | refine Ev.bin ?_ | refine Ev.una ?_ | refine Ts.not ?_ | refine Ts.bools ?_ | refine TsAll.and ?_ | refine TsAll.or ?_ | refine TsAll.andNil ?_ | refine TsAll.orNil ?_ | refine Tr.bool ?_ | refine As.sub ?_ | refine Evs.nil ?_ | refine Op.add ?_ | refine Op.sub ?_ | refine Op.iadd ?_ | refine Op.isub ?_ | refine Op.mul2 ?_ | refine Op.lt ?_ | refine Op.gt ?_ | refine Op.eq ?_ | refine Op.ne ?_ | refine Op.neg ?_ | refine Op.eqS ?_ | refine Op.neS ?_ | refine Ex.if ?_ | refine Ex.ret ?_ | refine Ex.brk ?_ | refine Ex.cont ?_ | refine Ev.ifx ?_ | refine Exs.cons ?_ | refine Exs.nil ?_) | refine Ev.var rfl ?_ | refine Ev.cmp ?_ | refine Ev.subL ?_ | refine Ts.cmp ?_ | refine As.name (Sn.local rfl ?_) | refine Evs.cons ?_ | refine Ex.assign ?_ | refine Ex.assign2 ?_ | refine Ex.expr ?_ | refine Ex.aug rfl rfl ?_)
        refine OpU.setL hhs (by simpa [hyl] using hlen) (Int.natCast_nonneg _) (by simpa using hny) ?_
        rw [Int.toNat_natCast, set_map_ref, set_same_heap]
        repeat (first | (with_reducible first | refine Ev.cint ?_ | refine Ev.cstr ?_ | refine Ev.cbool ?_ | refine Ev.cnone ?_ | refine Ev.bin ?_ | refine Ev.una ?_ | refine Ts.not ?_ | refine Ts.bools ?_ | refine TsAll.and ?_ | refine TsAll.or ?_ | refine TsAll.andNil ?_ | refine TsAll.orNil ?_ | refine Tr.bool ?_ | refine As.sub ?_ | refine Evs.nil ?_ | refine Op.add ?_ | refine Op.sub ?_ | refine Op.iadd ?_ | refine Op.isub ?_ | refine Op.mul2 ?_ | refine Op.lt ?_ | refine Op.gt ?_ | refine Op.eq ?_ | refine Op.ne ?_ | refine Op.neg ?_ | refine Op.eqS ?_ | refine Op.neS ?_ | refine Ex.if ?_ | refine Ex.ret ?_ | refine Ex.brk ?_ | refine Ex.cont ?_ | refine Ev.ifx ?_ | refine Exs.cons ?_ | refine Exs.nil ?_) | refine Ev.var rfl ?_ | refine Ev.cmp ?_ | refine Ev.subL ?_ | refine Ts.cmp ?_ | refine As.name (Sn.local rfl ?_) | refine Evs.cons ?_ | refine Ex.assign ?_ | refine Ex.assign2 ?_ | refine Ex.expr ?_ | refine Ex.aug rfl rfl ?_)
        have : ys.set n (xs.getD pos 0) = sd (fun a b => ltv val a b) xs start pos := by
          rw [← hgo]
          cases f with
          | zero => rfl
          | succ f => rw [sdGo, if_pos hlt, if_neg (by rw [hb2]; exact Bool.false_ne_true)]
        rw [this]; exact hq
    · repeat (first | (with_reducible first | refine Ev.cint ?_ | refine Ev.cstr ?_ | refine Ev.cbool ?_ | refine Ev.cnone ?_ | refine Ev.bin ?_ | refine Ev.una ?_ | refine Ts.not ?_ | refine Ts.bools ?_ | refine TsAll.and ?_ | refine TsAll.or ?_ | refine TsAll.andNil ?_ | refine TsAll.orNil ?_ | refine Tr.bool ?_ | refine As.sub ?_ | refine Evs.nil ?_ | refine Op.add ?_ | refine Op.sub ?_ | refine Op.iadd ?_ | refine Op.isub ?_ | refine Op.mul2 ?_ | refine Op.lt ?_ | refine Op.gt ?_ | refine Op.eq ?_ | refine Op.ne ?_ | refine Op.neg ?_ | refine Op.eqS ?_ | refine Op.neS ?_ | refine Ex.if ?_ | refine Ex.ret ?_ | refine Ex.brk ?_ | refine Ex.cont ?_ | refine Ev.ifx ?_ | refine Exs.cons ?_ | refine Exs.nil ?_) | refine Ev.var rfl ?_ | refine Ev.cmp ?_ | refine Ev.subL ?_ | refine Ts.cmp ?_ | refine As.name (Sn.local rfl ?_) | refine Evs.cons ?_ | refine Ex.assign ?_ | refine Ex.assign2 ?_ | refine Ex.expr ?_ | refine Ex.aug rfl rfl ?_)
      refine OpU.setL hhs (by simpa [hyl] using hlen) (Int.natCast_nonneg _) (by simpa using hny) ?_
      rw [Int.toNat_natCast, set_map_ref, set_same_heap]
      repeat (first | (with_reducible first | refine Ev.cint ?_ | refine Ev.cstr ?_ | refine Ev.cbool ?_ | refine Ev.cnone ?_ | refine Ev.bin ?_ | refine Ev.una ?_ | refine Ts.not ?_ | refine Ts.bools ?_ | refine TsAll.and ?_ | refine TsAll.or ?_ | refine TsAll.andNil ?_ | refine TsAll.orNil ?_ | refine Tr.bool ?_ | refine As.sub ?_ | refine Evs.nil ?_ | refine Op.add ?_ | refine Op.sub ?_ | refine Op.iadd ?_ | refine Op.isub ?_ | refine Op.mul2 ?_ | refine Op.lt ?_ | refine Op.gt ?_ | refine Op.eq ?_ | refine Op.ne ?_ | refine Op.neg ?_ | refine Op.eqS ?_ | refine Op.neS ?_ | refine Ex.if ?_ | refine Ex.ret ?_ | refine Ex.brk ?_ | refine Ex.cont ?_ | refine Ev.ifx ?_ | refine Exs.cons ?_ | refine Exs.nil ?_) | refine Ev.var rfl ?_ | refine Ev.cmp ?_ | refine Ev.subL ?_ | refine Ts.cmp ?_ | refine As.name (Sn.local rfl ?_) | refine Evs.cons ?_ | refine Ex.assign ?_ | refine Ex.assign2 ?_ | refine Ex.expr ?_ | refine Ex.aug rfl rfl ?_)
      have : ys.set n (xs.getD pos 0) = sd (fun a b => ltv val a b) xs start pos := by
        have hlt : ¬ start < n := by simpa using hb
        rw [← hgo]
        cases f with
        | zero => rfl
        | succ f => rw [sdGo, if_neg hlt]
      rw [this]; exact hq
  · exact (set_self hh).symm

set_option maxHeartbeats 1000000 in
theorem siftup_min (hK : TopIs G) {h pos : Nat} {xs : List Nat} {val : Nat → Int × Int} {Q : AV → List AO → Prop} (hh : H[h]? = some (.list (xs.map .ref))) (hp : pos < xs.length) (hlen : xs.length ≤ 400)
    (T : Things H val xs) (hn : ∀ t ∈ xs, t ≠ h) (hq : Q .none (H.set h (.list ((su (fun a b => ltv val a b) xs pos).map .ref)))) : Op G (k + 2) (callOf (.ref (G.adr (Str.ofString "_siftup")))) [.ref h, .int pos] H Q := by
  have hhl : h < H.length := (List.getElem?_eq_some_iff.mp hh).1
  have eF := Eq.refl (fnD 13)
  conv at eF => rhs; whnf
  obtain ⟨oF, pmF, cdF, docF, hmF, hoF, hdF, hcdF⟩ := hK.at (by kernel_rfl) eF
  dsimp only at hdF
  refine Op.doc hoF hdF hcdF (fun cvs h => ?_) (by decide) (by rfl) (by decide) (by decide) (by decide) ?_
  · obtain ⟨a, b, rfl⟩ := two_of h; rfl
  dsimp only
  repeat (first | (with_reducible first | refine Ev.cint ?_ | refine Ev.cstr ?_ | refine Ev.cbool ?_ | refine Ev.cnone ?_ | refine Ev.bin ?_ | refine Ev.una ?_ | refine Ts.not ?_ | refine Ts.bools ?_ | refine TsAll.and ?_ | refine TsAll.or ?_ | refine TsAll.andNil ?_ | refine TsAll.orNil ?_ | refine Tr.bool ?_ | refine As.sub ?_ | refine Evs.nil ?_ | refine Op.add ?_ | refine Op.sub ?_ | refine Op.iadd ?_ | refine Op.isub ?_ | refine Op.mul2 ?_ | refine Op.lt ?_ | refine Op.gt ?_ | refine Op.eq ?_ | refine Op.ne ?_ | refine Op.neg ?_ | refine Op.eqS ?_ | refine Op.neS ?_ | refine Ex.if ?_ | refine Ex.ret ?_ | refine Ex.brk ?_ | refine Ex.cont ?_ | refine Ev.ifx ?_ | refine Exs.cons ?_ | refine Exs.nil ?_) | refine Ev.var rfl ?_ | refine Ev.cmp ?_ | refine Ev.subL ?_ | refine Ts.cmp ?_ | refine As.name (Sn.local rfl ?_) | refine Evs.cons ?_ | refine Ex.assign ?_ | refine Ex.assign2 ?_ | refine Ex.expr ?_ | refine Ex.aug rfl rfl ?_)
  refine callBi (hK.no (by kernel_rfl)) boot_len' rfl ?_
  repeat (first | (with_reducible first | refine Ev.cint ?_ | refine Ev.cstr ?_ | refine Ev.cbool ?_ | refine Ev.cnone ?_ | refine Ev.bin ?_ | refine Ev.una ?_ | refine Ts.not ?_ | refine Ts.bools ?_ | refine TsAll.and ?_ | refine TsAll.or ?_ | refine TsAll.andNil ?_ | refine TsAll.orNil ?_ | refine Tr.bool ?_ | refine As.sub ?_ | refine Evs.nil ?_ | refine Op.add ?_ | refine Op.sub ?_ | refine Op.iadd ?_ | refine Op.isub ?_ | refine Op.mul2 ?_ | refine Op.lt ?_ | refine Op.gt ?_ | refine Op.eq ?_ | refine Op.ne ?_ | refine Op.neg ?_ | refine Op.eqS ?_ | refine Op.neS ?_ | refine Ex.if ?_ | refine Ex.ret ?_ | refine Ex.brk ?_ | refine Ex.cont ?_ | refine Ev.ifx ?_ | refine Exs.cons ?_ | refine Exs.nil ?_) | refine Ev.var rfl ?_ | refine Ev.cmp ?_ | refine Ev.subL ?_ | refine Ts.cmp ?_ | refine As.name (Sn.local rfl ?_) | refine Evs.cons ?_ | refine Ex.assign ?_ | refine Ex.assign2 ?_ | refine Ex.expr ?_ | refine Ex.aug rfl rfl ?_)
  refine Op.lenL hh (by simp; lia) ?_
  rw [List.length_map]
  repeat (first | (with_reducible first | refine Ev.cint ?_ | refine Ev.cstr ?_ | refine Ev.cbool ?_ | refine Ev.cnone ?_ | refine Ev.bin ?_ | refine Ev.una ?_ | refine Ts.not ?_ | refine Ts.bools ?_ | refine TsAll.and ?_ | refine TsAll.or ?_ | refine TsAll.andNil ?_ | refine TsAll.orNil ?_ | refine Tr.bool ?_ | refine As.sub ?_ | refine Evs.nil ?_ | refine Op.add ?_ | refine Op.sub ?_ | refine Op.iadd ?_ | refine Op.isub ?_ | refine Op.mul2 ?_ | refine Op.lt ?_ | refine Op.gt ?_ | refine Op.eq ?_ | refine Op.ne ?_ | refine Op.neg ?_ | refine Op.eqS ?_ | refine Op.neS ?_ | refine Ex.if ?_ | refine Ex.ret ?_ | refine Ex.brk ?_ | refine Ex.cont ?_ | refine Ev.ifx ?_ | refine Exs.cons ?_ | refine Exs.nil ?_) | refine Ev.var rfl ?_ | refine Ev.cmp ?_ | refine Ev.subL ?_ | refine Ts.cmp ?_ | refine As.name (Sn.local rfl ?_) | refine Evs.cons ?_ | refine Ex.assign ?_ | refine Ex.assign2 ?_ | refine Ex.expr ?_ | refine Ex.aug rfl rfl ?_)
  refine ⟨h, _, _, _, rfl, rfl, hh, by simp; lia, .inl ⟨Int.natCast_nonneg _, by rw [Int.toNat_natCast]; exact getElem?_map_ref hp⟩, ?_⟩
  repeat (first | (with_reducible first | refine Ev.cint ?_ | refine Ev.cstr ?_ | refine Ev.cbool ?_ | refine Ev.cnone ?_ | refine Ev.bin ?_ | refine Ev.una ?_ | refine Ts.not ?_ | refine Ts.bools ?_ | refine TsAll.and ?_ | refine TsAll.or ?_ | refine TsAll.andNil ?_ | refine TsAll.orNil ?_ | refine Tr.bool ?_ | refine As.sub ?_ | refine Evs.nil ?_ | refine Op.add ?_ | refine Op.sub ?_ | refine Op.iadd ?_ | refine Op.isub ?_ | refine Op.mul2 ?_ | refine Op.lt ?_ | refine Op.gt ?_ | refine Op.eq ?_ | refine Op.ne ?_ | refine Op.neg ?_ | refine Op.eqS ?_ | refine Op.neS ?_ | refine Ex.if ?_ | refine Ex.ret ?_ | refine Ex.brk ?_ | refine Ex.cont ?_ | refine Ev.ifx ?_ | refine Exs.cons ?_ | refine Exs.nil ?_) | refine Ev.var rfl ?_ | refine Ev.cmp ?_ | refine Ev.subL ?_ | refine Ts.cmp ?_ | refine As.name (Sn.local rfl ?_) | refine Evs.cons ?_ | refine Ex.assign ?_ | refine Ex.assign2 ?_ | refine Ex.expr ?_ | refine Ex.aug rfl rfl ?_)
  refine Ex.while (Wh.less (Wh.inv (fun n m H' => ∃ (ys : List Nat) (p f : Nat), n = xs.length - p ∧ n ≤ f ∧ p < ys.length ∧ ys.length = xs.length ∧ (∀ t ∈ ys, t ∈ xs) ∧ H' = H.set h (.list (ys.map .ref)) ∧
      m = [(Str.ofString "heap", .ref h), (Str.ofString "startpos", .int pos), (Str.ofString "endpos", .int (xs.length : Int)), (Str.ofString "pos", .int (p : Int)), (Str.ofString "newitem", .ref (xs.getD pos 0)), (Str.ofString "childpos", .int (2 * (p : Int) + 1))] ∧
      suGo (fun a b => ltv val a b) f p ys = suGo (fun a b => ltv val a b) xs.length pos xs) ?_ (xs.length - pos) _ _ ⟨xs, pos, xs.length, rfl, by lia, hp, rfl, fun _ ht => ht, ?_, rfl, rfl⟩) (SubL.sub ⟨rfl, rfl, rfl, rfl, rfl, rfl, trivial⟩))
  · rintro n m H' ⟨ys, p, f, hnp, hf, hpy, hyl, hys, rfl, rfl, hgo⟩
    have hhs : (H.set h (.list (ys.map .ref)))[h]? = some (.list (ys.map .ref)) := get_set_heap hhl
    have T' : Things (H.set h (.list (ys.map .ref))) val xs := T.set hn _
    repeat (first | (with_reducible first | refine Ev.cint ?_ | refine Ev.cstr ?_ | refine Ev.cbool ?_ | refine Ev.cnone ?_ | refine Ev.bin ?_ | refine Ev.una ?_ | refine Ts.not ?_ | refine Ts.bools ?_ | refine TsAll.and ?_ | refine TsAll.or ?_ | refine TsAll.andNil ?_ | refine TsAll.orNil ?_ | refine Tr.bool ?_ | refine As.sub ?_ | refine Evs.nil ?_ | refine Op.add ?_ | refine Op.sub ?_ | refine Op.iadd ?_ | refine Op.isub ?_ | refine Op.mul2 ?_ | refine Op.lt ?_ | refine Op.gt ?_ | refine Op.eq ?_ | refine Op.ne ?_ | refine Op.neg ?_ | refine Op.eqS ?_ | refine Op.neS ?_ | refine Ex.if ?_ | refine Ex.ret ?_ | refine Ex.brk ?_ | refine Ex.cont ?_ | refine Ev.ifx ?_ | refine Exs.cons ?_ | refine Exs.nil ?_) | refine Ev.var rfl ?_ | refine Ev.cmp ?_ | refine Ev.subL ?_ | refine Ts.cmp ?_ | refine As.name (Sn.local rfl ?_) | refine Evs.cons ?_ | refine Ex.assign ?_ | refine Ex.assign2 ?_ | refine Ex.expr ?_ | refine Ex.aug rfl rfl ?_)
    refine ⟨fun hb => ?_, fun hb => ?_⟩
    · have hlt : 2 * p + 1 < ys.length := by have : (2 * (p : Int) + 1) < xs.length := by simpa using hb
                                             lia
      obtain ⟨f, rfl⟩ : ∃ g, f = g + 1 := ⟨f - 1, by lia⟩
      rw [suGo, if_pos hlt] at hgo
      refine Exs.cons ?_
      repeat (first | (with_reducible first | refine Ev.cint ?_ | refine Ev.cstr ?_ | refine Ev.cbool ?_ | refine Ev.cnone ?_ | refine Ev.bin ?_ | refine Ev.una ?_ | refine Ts.not ?_ | refine Ts.bools ?_ | refine TsAll.and ?_ | refine TsAll.or ?_ | refine TsAll.andNil ?_ | refine TsAll.orNil ?_ | refine Tr.bool ?_ | refine As.sub ?_ | refine Evs.nil ?_ | refine Op.add ?_ | refine Op.sub ?_ | refine Op.iadd ?_ | refine Op.isub ?_ | refine Op.mul2 ?_ | refine Op.lt ?_ | refine Op.gt ?_ | refine Op.eq ?_ | refine Op.ne ?_ | refine Op.neg ?_ | refine Op.eqS ?_ | refine Op.neS ?_ | refine Ex.if ?_ | refine Ex.ret ?_ | refine Ex.brk ?_ | refine Ex.cont ?_ | refine Ev.ifx ?_) | refine Ev.var rfl ?_ | refine Ev.cmp ?_ | refine Ev.subL ?_ | refine Ts.cmp ?_ | refine As.name (Sn.local rfl ?_) | refine Evs.cons ?_ | refine Ex.assign ?_ | refine Ex.assign2 ?_ | refine Ex.expr ?_ | refine Ex.aug rfl rfl ?_)
      -- the child is chosen
      refine Exs.cut (fun m' H' => m' = [(Str.ofString "heap", .ref h), (Str.ofString "startpos", .int pos), (Str.ofString "endpos", .int (xs.length : Int)), (Str.ofString "pos", .int (p : Int)), (Str.ofString "newitem", .ref (xs.getD pos 0)), (Str.ofString "childpos", .int ((suC (fun a b => ltv val a b) p ys : Nat) : Int))] ∧ H' = H.set h (.list (ys.map .ref))) ?_ ?_
      · repeat (first | (with_reducible first | refine Ev.cint ?_ | refine Ev.cstr ?_ | refine Ev.cbool ?_ | refine Ev.cnone ?_ | refine Ev.bin ?_ | refine Ev.una ?_ | refine Ts.not ?_ | refine Ts.bools ?_ | refine TsAll.and ?_ | refine TsAll.or ?_ | refine TsAll.andNil ?_ | refine TsAll.orNil ?_ | refine Tr.bool ?_ | refine As.sub ?_ | refine Evs.nil ?_ | refine Op.add ?_ | refine Op.sub ?_ | refine Op.iadd ?_ | refine Op.isub ?_ | refine Op.mul2 ?_ | refine Op.lt ?_ | refine Op.gt ?_ | refine Op.eq ?_ | refine Op.ne ?_ | refine Op.neg ?_ | refine Op.eqS ?_ | refine Op.neS ?_ | refine Ex.if ?_ | refine Ex.ret ?_ | refine Ex.brk ?_ | refine Ex.cont ?_ | refine Ev.ifx ?_ | refine Exs.cons ?_ | refine Exs.nil ?_) | refine Ev.var rfl ?_ | refine Ev.cmp ?_ | refine Ev.subL ?_ | refine Ts.cmp ?_ | refine As.name (Sn.local rfl ?_) | refine Evs.cons ?_ | refine Ex.assign ?_ | refine Ex.assign2 ?_ | refine Ex.expr ?_ | refine Ex.aug rfl rfl ?_)
        refine ⟨fun hb1 => ⟨fun q => (Bool.false_ne_true q).elim, fun _ => ?_⟩, fun hb1 => ?_⟩
        · have hr : ¬ 2 * p + 2 < ys.length := by have : ¬ (2 * (p : Int) + 1 + 1) < xs.length := by simpa using hb1
                                                  lia
          have e : suC (fun a b => ltv val a b) p ys = 2 * p + 1 := by unfold suC; rw [if_neg (fun q => hr q.1)]
          repeat (first | (with_reducible first | refine Ev.cint ?_ | refine Ev.cstr ?_ | refine Ev.cbool ?_ | refine Ev.cnone ?_ | refine Ev.bin ?_ | refine Ev.una ?_ | refine Ts.not ?_ | refine Ts.bools ?_ | refine TsAll.and ?_ | refine TsAll.or ?_ | refine TsAll.andNil ?_ | refine TsAll.orNil ?_ | refine Tr.bool ?_ | refine As.sub ?_ | refine Evs.nil ?_ | refine Op.add ?_ | refine Op.sub ?_ | refine Op.iadd ?_ | refine Op.isub ?_ | refine Op.mul2 ?_ | refine Op.lt ?_ | refine Op.gt ?_ | refine Op.eq ?_ | refine Op.ne ?_ | refine Op.neg ?_ | refine Op.eqS ?_ | refine Op.neS ?_ | refine Ex.if ?_ | refine Ex.ret ?_ | refine Ex.brk ?_ | refine Ex.cont ?_ | refine Ev.ifx ?_ | refine Exs.cons ?_ | refine Exs.nil ?_) | refine Ev.var rfl ?_ | refine Ev.cmp ?_ | refine Ev.subL ?_ | refine Ts.cmp ?_ | refine As.name (Sn.local rfl ?_) | refine Evs.cons ?_ | refine Ex.assign ?_ | refine Ex.assign2 ?_ | refine Ex.expr ?_ | refine Ex.aug rfl rfl ?_)
          refine ⟨rfl, _, ?sub, rfl, rfl⟩
          case sub => rw [e]; exact ⟨rfl, rfl, rfl, rfl, rfl, by push_cast; rfl, trivial⟩
        · have hr : 2 * p + 2 < ys.length := by have : (2 * (p : Int) + 1 + 1) < xs.length := by simpa using hb1
                                                lia
          repeat (first | (with_reducible first | refine Ev.cint ?_ | refine Ev.cstr ?_ | refine Ev.cbool ?_ | refine Ev.cnone ?_ | refine Ev.bin ?_ | refine Ev.una ?_ | refine Ts.not ?_ | refine Ts.bools ?_ | refine TsAll.and ?_ | refine TsAll.or ?_ | refine TsAll.andNil ?_ | refine TsAll.orNil ?_ | refine Tr.bool ?_ | refine As.sub ?_ | refine Evs.nil ?_ | refine Op.add ?_ | refine Op.sub ?_ | refine Op.iadd ?_ | refine Op.isub ?_ | refine Op.mul2 ?_ | refine Op.lt ?_ | refine Op.gt ?_ | refine Op.eq ?_ | refine Op.ne ?_ | refine Op.neg ?_ | refine Op.eqS ?_ | refine Op.neS ?_ | refine Ex.if ?_ | refine Ex.ret ?_ | refine Ex.brk ?_ | refine Ex.cont ?_ | refine Ev.ifx ?_ | refine Exs.cons ?_ | refine Exs.nil ?_) | refine Ev.var rfl ?_ | refine Ev.cmp ?_ | refine Ev.subL ?_ | refine Ts.cmp ?_ | refine As.name (Sn.local rfl ?_) | refine Evs.cons ?_ | refine Ex.assign ?_ | refine Ex.assign2 ?_ | refine Ex.expr ?_ | refine Ex.aug rfl rfl ?_)
          refine ⟨h, _, _, _, rfl, rfl, hhs, by simp; lia, .inl ⟨by lia, by rw [show (2 * (p : Int) + 1).toNat = 2 * p + 1 by lia]; exact getElem?_map_ref hlt⟩, ?_⟩
          repeat (first | (with_reducible first | refine Ev.cint ?_ | refine Ev.cstr ?_ | refine Ev.cbool ?_ | refine Ev.cnone ?_ | refine Ev.bin ?_ | refine Ev.una ?_ | refine Ts.not ?_ | refine Ts.bools ?_ | refine TsAll.and ?_ | refine TsAll.or ?_ | refine TsAll.andNil ?_ | refine TsAll.orNil ?_ | refine Tr.bool ?_ | refine As.sub ?_ | refine Evs.nil ?_ | refine Op.add ?_ | refine Op.sub ?_ | refine Op.iadd ?_ | refine Op.isub ?_ | refine Op.mul2 ?_ | refine Op.lt ?_ | refine Op.gt ?_ | refine Op.eq ?_ | refine Op.ne ?_ | refine Op.neg ?_ | refine Op.eqS ?_ | refine Op.neS ?_ | refine Ex.if ?_ | refine Ex.ret ?_ | refine Ex.brk ?_ | refine Ex.cont ?_ | refine Ev.ifx ?_ | refine Exs.cons ?_ | refine Exs.nil ?_) | refine Ev.var rfl ?_ | refine Ev.cmp ?_ | refine Ev.subL ?_ | refine Ts.cmp ?_ | refine As.name (Sn.local rfl ?_) | refine Evs.cons ?_ | refine Ex.assign ?_ | refine Ex.assign2 ?_ | refine Ex.expr ?_ | refine Ex.aug rfl rfl ?_)
          refine ⟨h, _, _, _, rfl, rfl, hhs, by simp; lia, .inl ⟨by lia, by rw [show (2 * (p : Int) + 1 + 1).toNat = 2 * p + 2 by lia]; exact getElem?_map_ref hr⟩, ?_⟩
          refine lt2 (T' _ (hys _ (getD_mem hlt))) (T' _ (hys _ (getD_mem hr))) ?_
          repeat (first | (with_reducible first | refine Ev.cint ?_ | refine Ev.cstr ?_ | refine Ev.cbool ?_ | refine Ev.cnone ?_ | refine Ev.bin ?_ | refine Ev.una ?_ | refine Ts.not ?_ | refine Ts.bools ?_ | refine TsAll.and ?_ | refine TsAll.or ?_ | refine TsAll.andNil ?_ | refine TsAll.orNil ?_ | refine Tr.bool ?_ | refine As.sub ?_ | refine Evs.nil ?_ | refine Op.add ?_ | refine Op.sub ?_ | refine Op.iadd ?_ | refine Op.isub ?_ | refine Op.mul2 ?_ | refine Op.lt ?_ | refine Op.gt ?_ | refine Op.eq ?_ | refine Op.ne ?_ | refine Op.neg ?_ | refine Op.eqS ?_ | refine Op.neS ?_ | refine Ex.if ?_ | refine Ex.ret ?_ | refine Ex.brk ?_ | refine Ex.cont ?_ | refine Ev.ifx ?_ | refine Exs.cons ?_ | refine Exs.nil ?_) | refine Ev.var rfl ?_ | refine Ev.cmp ?_ | refine Ev.subL ?_ | refine Ts.cmp ?_ | refine As.name (Sn.local rfl ?_) | refine Evs.cons ?_ | refine Ex.assign ?_ | refine Ex.assign2 ?_ | refine Ex.expr ?_ | refine Ex.aug rfl rfl ?_)
          refine ⟨fun hb2 => ?_, fun hb2 => ?_⟩
          · have hb3 : ltv val (ys.getD (2 * p + 1) 0) (ys.getD (2 * p + 2) 0) = true := by simpa using hb2
            have e : suC (fun a b => ltv val a b) p ys = 2 * p + 1 := by unfold suC; rw [if_neg (fun q => absurd (hb3.symm.trans q.2) (by decide))]
            refine ⟨fun q => (Bool.false_ne_true q).elim, fun _ => ?_⟩
            repeat (first | (with_reducible first | refine Ev.cint ?_ | refine Ev.cstr ?_ | refine Ev.cbool ?_ | refine Ev.cnone ?_ | refine Ev.bin ?_ | refine Ev.una ?_ | refine Ts.not ?_ | refine Ts.bools ?_ | refine TsAll.and ?_ | refine TsAll.or ?_ | refine TsAll.andNil ?_ | refine TsAll.orNil ?_ | refine Tr.bool ?_ | refine As.sub ?_ | refine Evs.nil ?_ | refine Op.add ?_ | refine Op.sub ?_ | refine Op.iadd ?_ | refine Op.isub ?_ | refine Op.mul2 ?_ | refine Op.lt ?_ | refine Op.gt ?_ | refine Op.eq ?_ | refine Op.ne ?_ | refine Op.neg ?_ | refine Op.eqS ?_ | refine Op.neS ?_ | refine Ex.if ?_ | refine Ex.ret ?_ | refine Ex.brk ?_ | refine Ex.cont ?_ | refine Ev.ifx ?_ | refine Exs.cons ?_ | refine Exs.nil ?_) | refine Ev.var rfl ?_ | refine Ev.cmp ?_ | refine Ev.subL ?_ | refine Ts.cmp ?_ | refine As.name (Sn.local rfl ?_) | refine Evs.cons ?_ | refine Ex.assign ?_ | refine Ex.assign2 ?_ | refine Ex.expr ?_ | refine Ex.aug rfl rfl ?_)
            refine ⟨rfl, _, ?sub, rfl, rfl⟩
            case sub => rw [e]; exact ⟨rfl, rfl, rfl, rfl, rfl, by push_cast; rfl, trivial⟩
          · have hb3 : ltv val (ys.getD (2 * p + 1) 0) (ys.getD (2 * p + 2) 0) = false := by simpa using hb2
            have e : suC (fun a b => ltv val a b) p ys = 2 * p + 2 := by unfold suC; rw [if_pos ⟨hr, hb3⟩]
            repeat (first | (with_reducible first | refine Ev.cint ?_ | refine Ev.cstr ?_ | refine Ev.cbool ?_ | refine Ev.cnone ?_ | refine Ev.bin ?_ | refine Ev.una ?_ | refine Ts.not ?_ | refine Ts.bools ?_ | refine TsAll.and ?_ | refine TsAll.or ?_ | refine TsAll.andNil ?_ | refine TsAll.orNil ?_ | refine Tr.bool ?_ | refine As.sub ?_ | refine Evs.nil ?_ | refine Op.add ?_ | refine Op.sub ?_ | refine Op.iadd ?_ | refine Op.isub ?_ | refine Op.mul2 ?_ | refine Op.lt ?_ | refine Op.gt ?_ | refine Op.eq ?_ | refine Op.ne ?_ | refine Op.neg ?_ | refine Op.eqS ?_ | refine Op.neS ?_ | refine Ex.if ?_ | refine Ex.ret ?_ | refine Ex.brk ?_ | refine Ex.cont ?_ | refine Ev.ifx ?_ | refine Exs.cons ?_ | refine Exs.nil ?_) | refine Ev.var rfl ?_ | refine Ev.cmp ?_ | refine Ev.subL ?_ | refine Ts.cmp ?_ | refine As.name (Sn.local rfl ?_) | refine Evs.cons ?_ | refine Ex.assign ?_ | refine Ex.assign2 ?_ | refine Ex.expr ?_ | refine Ex.aug rfl rfl ?_)
            refine ⟨fun _ => ?_, fun q => (Bool.false_ne_true q.symm).elim⟩
            repeat (first | (with_reducible first | refine Ev.cint ?_ | refine Ev.cstr ?_ | refine Ev.cbool ?_ | refine Ev.cnone ?_ | refine Ev.bin ?_ | refine Ev.una ?_ | refine Ts.not ?_ | refine Ts.bools ?_ | refine TsAll.and ?_ | refine TsAll.or ?_ | refine TsAll.andNil ?_ | refine TsAll.orNil ?_ | refine Tr.bool ?_ | refine As.sub ?_ | refine Evs.nil ?_ | refine Op.add ?_ | refine Op.sub ?_ | refine Op.iadd ?_ | refine Op.isub ?_ | refine Op.mul2 ?_ | refine Op.lt ?_ | refine Op.gt ?_ | refine Op.eq ?_ | refine Op.ne ?_ | refine Op.neg ?_ | refine Op.eqS ?_ | refine Op.neS ?_ | refine Ex.if ?_ | refine Ex.ret ?_ | refine Ex.brk ?_ | refine Ex.cont ?_ | refine Ev.ifx ?_ | refine Exs.cons ?_ | refine Exs.nil ?_) | refine Ev.var rfl ?_ | refine Ev.cmp ?_ | refine Ev.subL ?_ | refine Ts.cmp ?_ | refine As.name (Sn.local rfl ?_) | refine Evs.cons ?_ | refine Ex.assign ?_ | refine Ex.assign2 ?_ | refine Ex.expr ?_ | refine Ex.aug rfl rfl ?_)
            refine ⟨rfl, _, ?sub, rfl, rfl⟩
            case sub => rw [e]; exact ⟨rfl, rfl, rfl, rfl, rfl, by push_cast; rfl, trivial⟩
      · rintro m' H' ⟨rfl, rfl⟩
        have hc := suC_lt (bf := fun a b => ltv val a b) hlt
        have hc2 := suC_gt (bf := fun a b => ltv val a b) (pos := p) (xs := ys)
        repeat (first | (with_reducible first | refine Ev.cint ?_ | refine Ev.cstr ?_ | refine Ev.cbool ?_ | refine Ev.cnone ?_ | refine Ev.bin ?_ | refine Ev.una ?_ | refine Ts.not ?_ | refine Ts.bools ?_ | refine TsAll.and ?_ | refine TsAll.or ?_ | refine TsAll.andNil ?_ | refine TsAll.orNil ?_ | refine Tr.bool ?_ | refine As.sub ?_ | refine Evs.nil ?_ | refine Op.add ?_ | refine Op.sub ?_ | refine Op.iadd ?_ | refine Op.isub ?_ | refine Op.mul2 ?_ | refine Op.lt ?_ | refine Op.gt ?_ | refine Op.eq ?_ | refine Op.ne ?_ | refine Op.neg ?_ | refine Op.eqS ?_ | refine Op.neS ?_ | refine Ex.if ?_ | refine Ex.ret ?_ | refine Ex.brk ?_ | refine Ex.cont ?_ | refine Ev.ifx ?_ | refine Exs.cons ?_ | refine Exs.nil ?_) | refine Ev.var rfl ?_ | refine Ev.cmp ?_ | refine Ev.subL ?_ | refine Ts.cmp ?_ | refine As.name (Sn.local rfl ?_) | refine Evs.cons ?_ | refine Ex.assign ?_ | refine Ex.assign2 ?_ | refine Ex.expr ?_ | refine Ex.aug rfl rfl ?_)
        refine ⟨h, _, _, _, rfl, rfl, hhs, by simp; lia, .inl ⟨Int.natCast_nonneg _, by rw [Int.toNat_natCast]; exact getElem?_map_ref hc⟩, ?_⟩
        repeat (first | (with_reducible first | refine Ev.cint ?_ | refine Ev.cstr ?_ | refine Ev.cbool ?_ | refine Ev.cnone ?_ | refine Ev.bin ?_ | refine Ev.una ?_ | refine Ts.not ?_ | refine Ts.bools ?_ | refine TsAll.and ?_ | refine TsAll.or ?_ | refine TsAll.andNil ?_ | refine TsAll.orNil ?_ | refine Tr.bool ?_ | refine As.sub ?_ | refine Evs.nil ?_ | refine Op.add ?_ | refine Op.sub ?_ | refine Op.iadd ?_ | refine Op.isub ?_ | refine Op.mul2 ?_ | refine Op.lt ?_ | refine Op.gt ?_ | refine Op.eq ?_ | refine Op.ne ?_ | refine Op.neg ?_ | refine Op.eqS ?_ | refine Op.neS ?_ | refine Ex.if ?_ | refine Ex.ret ?_ | refine Ex.brk ?_ | refine Ex.cont ?_ | refine Ev.ifx ?_ | refine Exs.cons ?_ | refine Exs.nil ?_) | refine Ev.var rfl ?_ | refine Ev.cmp ?_ | refine Ev.subL ?_ | refine Ts.cmp ?_ | refine As.name (Sn.local rfl ?_) | refine Evs.cons ?_ | refine Ex.assign ?_ | refine Ex.assign2 ?_ | refine Ex.expr ?_ | refine Ex.aug rfl rfl ?_)
        refine OpU.setL hhs (by simp; lia) (Int.natCast_nonneg _) (by simpa using hpy) ?_
        rw [Int.toNat_natCast, set_map_ref, set_same_heap]
        repeat (first | (with_reducible first | refine Ev.cint ?_ | refine Ev.cstr ?_ | refine Ev.cbool ?_ | refine Ev.cnone ?_ | refine Ev.bin ?_ | refine Ev.una ?_ | refine Ts.not ?_ | refine Ts.bools ?_ | refine TsAll.and ?_ | refine TsAll.or ?_ | refine TsAll.andNil ?_ | refine TsAll.orNil ?_ | refine Tr.bool ?_ | refine As.sub ?_ | refine Evs.nil ?_ | refine Op.add ?_ | refine Op.sub ?_ | refine Op.iadd ?_ | refine Op.isub ?_ | refine Op.mul2 ?_ | refine Op.lt ?_ | refine Op.gt ?_ | refine Op.eq ?_ | refine Op.ne ?_ | refine Op.neg ?_ | refine Op.eqS ?_ | refine Op.neS ?_ | refine Ex.if ?_ | refine Ex.ret ?_ | refine Ex.brk ?_ | refine Ex.cont ?_ | refine Ev.ifx ?_ | refine Exs.cons ?_ | refine Exs.nil ?_) | refine Ev.var rfl ?_ | refine Ev.cmp ?_ | refine Ev.subL ?_ | refine Ts.cmp ?_ | refine As.name (Sn.local rfl ?_) | refine Evs.cons ?_ | refine Ex.assign ?_ | refine Ex.assign2 ?_ | refine Ex.expr ?_ | refine Ex.aug rfl rfl ?_)
        refine ⟨xs.length - suC (fun a b => ltv val a b) p ys, _, by lia, ?sub, ys.set p (ys.getD (suC (fun a b => ltv val a b) p ys) 0), suC (fun a b => ltv val a b) p ys, f, rfl, by lia, by rw [List.length_set]; exact hc, by rw [List.length_set, hyl], fun t ht => ?_, rfl, rfl, hgo⟩
        case sub => exact ⟨rfl, rfl, rfl, rfl, rfl, rfl, trivial⟩
        rcases List.mem_or_eq_of_mem_set ht with q | q
        · exact hys t q
        · rw [q]; exact hys _ (getD_mem hc)
    · have hge : ¬ 2 * p + 1 < ys.length := by have : ¬ (2 * (p : Int) + 1) < xs.length := by simpa using hb
                                               lia
      have hr : suGo (fun a b => ltv val a b) xs.length pos xs = (p, ys) := by
        rw [← hgo]
        cases f with
        | zero => rfl
        | succ f => rw [suGo, if_neg hge]
      repeat (first | (with_reducible first | refine Ev.cint ?_ | refine Ev.cstr ?_ | refine Ev.cbool ?_ | refine Ev.cnone ?_ | refine Ev.bin ?_ | refine Ev.una ?_ | refine Ts.not ?_ | refine Ts.bools ?_ | refine TsAll.and ?_ | refine TsAll.or ?_ | refine TsAll.andNil ?_ | refine TsAll.orNil ?_ | refine Tr.bool ?_ | refine As.sub ?_ | refine Evs.nil ?_ | refine Op.add ?_ | refine Op.sub ?_ | refine Op.iadd ?_ | refine Op.isub ?_ | refine Op.mul2 ?_ | refine Op.lt ?_ | refine Op.gt ?_ | refine Op.eq ?_ | refine Op.ne ?_ | refine Op.neg ?_ | refine Op.eqS ?_ | refine Op.neS ?_ | refine Ex.if ?_ | refine Ex.ret ?_ | refine Ex.brk ?_ | refine Ex.cont ?_ | refine Ev.ifx ?_ | refine Exs.cons ?_ | refine Exs.nil ?_) | refine Ev.var rfl ?_ | refine Ev.cmp ?_ | refine Ev.subL ?_ | refine Ts.cmp ?_ | refine As.name (Sn.local rfl ?_) | refine Evs.cons ?_ | refine Ex.assign ?_ | refine Ex.assign2 ?_ | refine Ex.expr ?_ | refine Ex.aug rfl rfl ?_)
      refine OpU.setL hhs (by simp; lia) (Int.natCast_nonneg _) (by simpa using hpy) ?_
      rw [Int.toNat_natCast, set_map_ref, set_same_heap]
      repeat (first | (with_reducible first | refine Ev.cint ?_ | refine Ev.cstr ?_ | refine Ev.cbool ?_ | refine Ev.cnone ?_ | refine Ev.bin ?_ | refine Ev.una ?_ | refine Ts.not ?_ | refine Ts.bools ?_ | refine TsAll.and ?_ | refine TsAll.or ?_ | refine TsAll.andNil ?_ | refine TsAll.orNil ?_ | refine Tr.bool ?_ | refine As.sub ?_ | refine Evs.nil ?_ | refine Op.add ?_ | refine Op.sub ?_ | refine Op.iadd ?_ | refine Op.isub ?_ | refine Op.mul2 ?_ | refine Op.lt ?_ | refine Op.gt ?_ | refine Op.eq ?_ | refine Op.ne ?_ | refine Op.neg ?_ | refine Op.eqS ?_ | refine Op.neS ?_ | refine Ex.if ?_ | refine Ex.ret ?_ | refine Ex.brk ?_ | refine Ex.cont ?_ | refine Ev.ifx ?_ | refine Exs.cons ?_ | refine Exs.nil ?_) | refine Ev.var rfl ?_ | refine Ev.cmp ?_ | refine Ev.subL ?_ | refine Ts.cmp ?_ | refine As.name (Sn.local rfl ?_) | refine Evs.cons ?_ | refine Ex.assign ?_ | refine Ex.assign2 ?_ | refine Ex.expr ?_ | refine Ex.aug rfl rfl ?_)
      refine callTop hK (by kernel_rfl) rfl ?_
      repeat (first | (with_reducible first | refine Ev.cint ?_ | refine Ev.cstr ?_ | refine Ev.cbool ?_ | refine Ev.cnone ?_ | refine Ev.bin ?_ | refine Ev.una ?_ | refine Ts.not ?_ | refine Ts.bools ?_ | refine TsAll.and ?_ | refine TsAll.or ?_ | refine TsAll.andNil ?_ | refine TsAll.orNil ?_ | refine Tr.bool ?_ | refine As.sub ?_ | refine Evs.nil ?_ | refine Op.add ?_ | refine Op.sub ?_ | refine Op.iadd ?_ | refine Op.isub ?_ | refine Op.mul2 ?_ | refine Op.lt ?_ | refine Op.gt ?_ | refine Op.eq ?_ | refine Op.ne ?_ | refine Op.neg ?_ | refine Op.eqS ?_ | refine Op.neS ?_ | refine Ex.if ?_ | refine Ex.ret ?_ | refine Ex.brk ?_ | refine Ex.cont ?_ | refine Ev.ifx ?_ | refine Exs.cons ?_ | refine Exs.nil ?_) | refine Ev.var rfl ?_ | refine Ev.cmp ?_ | refine Ev.subL ?_ | refine Ts.cmp ?_ | refine As.name (Sn.local rfl ?_) | refine Evs.cons ?_ | refine Ex.assign ?_ | refine Ex.assign2 ?_ | refine Ex.expr ?_ | refine Ex.aug rfl rfl ?_)
      have hmem : ∀ t ∈ ys.set p (xs.getD pos 0), t ∈ xs := fun t ht => by
        rcases List.mem_or_eq_of_mem_set ht with q | q
        · exact hys t q
        · rw [q]; exact getD_mem hp
      refine siftdown_min (val := val) hK (xs := ys.set p (xs.getD pos 0)) (get_set_heap hhl) (by rw [List.length_set]; exact hpy) (by rw [List.length_set]; lia) (fun t ht => T.set hn _ t (hmem t ht)) (fun t ht => hn t (hmem t ht)) ?_
      rw [set_same_heap]
      repeat (first | (with_reducible first | refine Ev.cint ?_ | refine Ev.cstr ?_ | refine Ev.cbool ?_ | refine Ev.cnone ?_ | refine Ev.bin ?_ | refine Ev.una ?_ | refine Ts.not ?_ | refine Ts.bools ?_ | refine TsAll.and ?_ | refine TsAll.or ?_ | refine TsAll.andNil ?_ | refine TsAll.orNil ?_ | refine Tr.bool ?_ | refine As.sub ?_ | refine Evs.nil ?_ | refine Op.add ?_ | refine Op.sub ?_ | refine Op.iadd ?_ | refine Op.isub ?_ | refine Op.mul2 ?_ | refine Op.lt ?_ | refine Op.gt ?_ | refine Op.eq ?_ | refine Op.ne ?_ | refine Op.neg ?_ | refine Op.eqS ?_ | refine Op.neS ?_ | refine Ex.if ?_ | refine Ex.ret ?_ | refine Ex.brk ?_ | refine Ex.cont ?_ | refine Ev.ifx ?_ | refine Exs.cons ?_ | refine Exs.nil ?_) | refine Ev.var rfl ?_ | refine Ev.cmp ?_ | refine Ev.subL ?_ | refine Ts.cmp ?_ | refine As.name (Sn.local rfl ?_) | refine Evs.cons ?_ | refine Ex.assign ?_ | refine Ex.assign2 ?_ | refine Ex.expr ?_ | refine Ex.aug rfl rfl ?_)
      have e : sd (fun a b => ltv val a b) (ys.set p (xs.getD pos 0)) pos p = su (fun a b => ltv val a b) xs pos := by unfold su; rw [hr]
      rw [e]; exact hq
  · exact (set_self hh).symm
end Mine
end
section
open PySem PySem.W PyProof.Rows PySem.Calls
set_option maxRecDepth 100000
namespace Mine
variable {G : Gl} {k : Nat} {sc : Scope} {m : Vars} {H : List AO}

/- the units of a text -/
noncomputable def unitsG : List Nat → Nat → Bool → Un
  | [], _, _ => []
  | c :: cs, i, true => (i, Str.ofString "\\" ++ ⟨#[c]⟩) :: unitsG cs (i + 1) false
  | c :: cs, i, false => if c = 92 then unitsG cs (i + 1) true else (i, ⟨#[c]⟩) :: unitsG cs (i + 1) false
noncomputable def okE : List Nat → Bool → Bool
  | [], e => !e
  | _ :: cs, true => okE cs false
  | c :: cs, false => okE cs (c == 92)
noncomputable def units (x : Str) : Un := unitsG x.cps.toList 0 false

theorem bs_eq (c : Nat) : ((⟨#[c]⟩ : Str) == Str.ofString "\\") = decide (c = 92) := by
  have e : Str.ofString "\\" = ⟨#[92]⟩ := by decide
  rw [e]
  by_cases h : c = 92
  · subst h; rfl
  · simp [h]

set_option maxHeartbeats 1000000 in
theorem ItNew.chars (hK : TopIs G) {np : Pos} {e : Expr} {pos : Pos} {K : ItP → List AO → Prop} (hl : sc.names.lookup (Str.ofString "_iter_escaped_chars") = some .globalImplicit)
    (h : Ev G (k + 1) sc e m H fun v H₁ => ∃ x, v = .str x ∧ okE x.cps.toList false = true ∧ K (ItG0 G (units x)) H₁)
    (he' : ∀ env, starEach [e] env = [(false, eval e env)] := by intro _; rfl)
    (hc : ∀ env, eval (.Call (.Name (Str.ofString "_iter_escaped_chars") np) [e] [] pos) env = (do callWith pos (← eval (.Name (Str.ofString "_iter_escaped_chars") np) env) [] (backTo pos (starEach [e] env)) (backToKw pos (keywordEach [] env))) := by intro _; rfl) :
    ItNew G (k + 1) sc (.Call (.Name (Str.ofString "_iter_escaped_chars") np) [e] [] pos) m H K := by
  have eF := Eq.refl (fnD 4)
  conv at eF => rhs; whnf
  obtain ⟨oF, pmF, cdF, docF, hmF, hoF, hdF, hcdF⟩ := hK.at (by kernel_rfl) eF
  dsimp only [docDef] at hdF
  refine ItNew.gen (px := Str.ofString "addr") (all := units) hmF hoF hdF hl hcdF rfl (fun v => ?_) (by dsimp only; decide) rfl (by decide) rfl rfl rfl rfl rfl rfl
    (Ev.mono h fun v H₁ ⟨x, hx, hok, hKK⟩ => ⟨x, hx, ?_, hKK⟩) he' hc
  · rfl
  intro A env s he hcells hr V base
  refine seg_func ?_
  -- pos = 0; escape = False
  refine seg_execs_cons (seg_wrap (wpAny_mono (raw_assign (v := .int 0) he V hcells rfl (fun Q hQ => wpAny_Constant_int (hQ _ _ ⟨_, rfl⟩)) rfl) (fun f s₁ hP => ?_) fun _ _ q => q.elim))
  obtain ⟨ef, sb₁, g₁, o₁, V₁⟩ := hP
  subst ef
  dsimp only
  refine seg_execs_cons (seg_wrap (wpAny_mono (raw_assign (v := .bool false) he V₁ hcells rfl (fun Q hQ => wpAny_Constant_bool (hQ _ s₁.toks rfl)) rfl) (fun f s₂ hP => ?_) fun _ _ q => q.elim))
  obtain ⟨ef, sb₂, g₂, o₂, V₂⟩ := hP
  subst ef
  dsimp only
  have hsz : s₂.heap.objs.size = s.heap.objs.size := sb₂.1.trans sb₁.1
  have hhs : hsAt env s = hsAt env s₂ := by unfold hsAt; rw [hsz]
  have hLb : ∀ b o, G.h₀.get? b = some o → b ≠ env.locals := fun b o e q => by rw [q, V.lfresh] at e; cases e
  have ok₂ : GOk G env [(Str.ofString "escape", .bool false), (Str.ofString "pos", .int 0), (Str.ofString "addr", .str x)] [] s₂ :=
    ⟨fun b o e => (sb₂.2 b (hLb b o e)).trans ((sb₁.2 b (hLb b o e)).trans (base b o e)), V₂, by simp⟩
  have xs₂ : GSince (hsAt env s) s s₂ := ⟨fun b o e q => by
    have : b ≠ env.locals := fun q' => q (by simp [hsAt, q'])
    exact (sb₂.2 b this).trans ((sb₁.2 b this).trans e), ⟨[], by rw [g₂, g₁]; simp⟩, o₂.trans o₁⟩
  rw [hhs] at xs₂ ⊢
  refine seg_execs_cons (seg_forEnum (Q := fun m' us' => us' = [] ∧ m'.lookup (Str.ofString "escape") = some (.bool false)) he hcells rfl hr ok₂ xs₂ (hK.no (by kernel_rfl)) rfl rfl rfl (fun t => ?_) fun m' us' s₀' s' ⟨hus, hesc⟩ ok' x' pr' => ?_)
  · refine GL.less (m' := [(Str.ofString "addr", .str x), (Str.ofString "escape", .bool false)]) (GL.ind (fun i m us => ∃ b, m = [(Str.ofString "addr", .str x), (Str.ofString "escape", .bool b)] ∧ us = unitsG (x.cps.toList.drop i) i b ∧ okE (x.cps.toList.drop i) b = true) (by rfl) ?hst ?hend ?hstep x.cps.size 0 _ _ (by lia) (Nat.zero_le _) ⟨false, rfl, rfl, hok⟩) (SubL.sub ⟨rfl, rfl, trivial⟩)
    case hst => exact tup_names
    case hend =>
      rintro m us ⟨b, hm, hus, hok'⟩
      subst hm hus
      have hd0 : x.cps.toList.drop x.cps.size = [] := List.drop_of_length_le (by simp)
      rw [hd0] at hok' ⊢
      cases b with
      | true => simp [okE] at hok'
      | false => exact ⟨rfl, rfl⟩
    case hstep =>
      rintro i c m us hc' ⟨b, hm, hus, hok'⟩
      subst hm hus
      have hlt : i < x.cps.size := (Array.getElem?_eq_some_iff.mp hc').1
      have hcv : x.cps[i] = c := (Array.getElem?_eq_some_iff.mp hc').2
      have hdr : x.cps.toList.drop i = c :: x.cps.toList.drop (i + 1) := by
        rw [List.drop_eq_getElem_cons (by simpa using hlt)]; simp [hcv]
      rw [hdr] at hok' ⊢
      show As G k _ _ _ _ _ _
      refine As.name (Sn.local rfl ?_)
      show As G k _ _ _ _ _ _
      refine As.name (Sn.local rfl ?_)
      refine ⟨rfl, fun ks => ?_⟩
      cases b with
      | true =>
        refine GT.cons (GT.if (Ts.val (Ev.var rfl (Tr.bool ⟨rfl, fun _ => ?_, fun q => (Bool.false_ne_true q.symm).elim⟩))))
        refine GT.cons (GT.yield (us := unitsG (x.cps.toList.drop (i + 1)) (i + 1) false) ?_ ?_)
        · refine Ev.tup ?_
          repeat (first | (with_reducible first | refine Ev.cint ?_ | refine Ev.cstr ?_ | refine Ev.cbool ?_ | refine Ev.cnone ?_ | refine Ev.bin ?_ | refine Ev.una ?_ | refine Ts.not ?_ | refine Ts.bools ?_ | refine TsAll.and ?_ | refine TsAll.or ?_ | refine TsAll.andNil ?_ | refine TsAll.orNil ?_ | refine Tr.bool ?_ | refine As.sub ?_ | refine Evs.nil ?_ | refine Op.add ?_ | refine Op.sub ?_ | refine Op.iadd ?_ | refine Op.isub ?_ | refine Op.mul2 ?_ | refine Op.lt ?_ | refine Op.gt ?_ | refine Op.eq ?_ | refine Op.ne ?_ | refine Op.neg ?_ | refine Op.eqS ?_ | refine Op.neS ?_ | refine Ex.if ?_ | refine Ex.ret ?_ | refine Ex.brk ?_ | refine Ex.cont ?_ | refine Ev.ifx ?_) | refine Ev.var rfl ?_ | refine Ev.cmp ?_ | refine Ev.subL ?_ | refine Ts.cmp ?_ | refine As.name (Sn.local rfl ?_) | refine Evs.cons ?_ | refine Ex.assign ?_ | refine Ex.assign2 ?_ | refine Ex.expr ?_ | refine Ex.aug rfl rfl ?_)
          refine Op.catS (by show 1 + 1 ≤ 100000; lia) ?_
          repeat (first | (with_reducible first | refine Ev.cint ?_ | refine Ev.cstr ?_ | refine Ev.cbool ?_ | refine Ev.cnone ?_ | refine Ev.bin ?_ | refine Ev.una ?_ | refine Ts.not ?_ | refine Ts.bools ?_ | refine TsAll.and ?_ | refine TsAll.or ?_ | refine TsAll.andNil ?_ | refine TsAll.orNil ?_ | refine Tr.bool ?_ | refine As.sub ?_ | refine Evs.nil ?_ | refine Op.add ?_ | refine Op.sub ?_ | refine Op.iadd ?_ | refine Op.isub ?_ | refine Op.mul2 ?_ | refine Op.lt ?_ | refine Op.gt ?_ | refine Op.eq ?_ | refine Op.ne ?_ | refine Op.neg ?_ | refine Op.eqS ?_ | refine Op.neS ?_ | refine Ex.if ?_ | refine Ex.ret ?_ | refine Ex.brk ?_ | refine Ex.cont ?_ | refine Ev.ifx ?_) | refine Ev.var rfl ?_ | refine Ev.cmp ?_ | refine Ev.subL ?_ | refine Ts.cmp ?_ | refine As.name (Sn.local rfl ?_) | refine Evs.cons ?_ | refine Ex.assign ?_ | refine Ex.assign2 ?_ | refine Ex.expr ?_ | refine Ex.aug rfl rfl ?_)
          exact ⟨by simp, rfl, rfl⟩
        · refine GT.cons (GT.plain ?_)
          repeat (first | (with_reducible first | refine Ev.cint ?_ | refine Ev.cstr ?_ | refine Ev.cbool ?_ | refine Ev.cnone ?_ | refine Ev.bin ?_ | refine Ev.una ?_ | refine Ts.not ?_ | refine Ts.bools ?_ | refine TsAll.and ?_ | refine TsAll.or ?_ | refine TsAll.andNil ?_ | refine TsAll.orNil ?_ | refine Tr.bool ?_ | refine As.sub ?_ | refine Evs.nil ?_ | refine Op.add ?_ | refine Op.sub ?_ | refine Op.iadd ?_ | refine Op.isub ?_ | refine Op.mul2 ?_ | refine Op.lt ?_ | refine Op.gt ?_ | refine Op.eq ?_ | refine Op.ne ?_ | refine Op.neg ?_ | refine Op.eqS ?_ | refine Op.neS ?_ | refine Ex.if ?_ | refine Ex.ret ?_ | refine Ex.brk ?_ | refine Ex.cont ?_ | refine Ev.ifx ?_) | refine Ev.var rfl ?_ | refine Ev.cmp ?_ | refine Ev.subL ?_ | refine Ts.cmp ?_ | refine As.name (Sn.local rfl ?_) | refine Evs.cons ?_ | refine Ex.assign ?_ | refine Ex.assign2 ?_ | refine Ex.expr ?_ | refine Ex.aug rfl rfl ?_)
          refine ⟨rfl, GT.nil (GT.nil ⟨.inl rfl, _, ?sub, false, rfl, rfl, hok'⟩)⟩
          case sub => exact ⟨rfl, rfl, trivial⟩
      | false =>
        refine GT.cons (GT.if (Ts.val (Ev.var rfl (Tr.bool ⟨rfl, fun q => (Bool.false_ne_true q).elim, fun _ => ?_⟩))))
        refine GT.cons (GT.if ?_)
        repeat (first | (with_reducible first | refine Ev.cint ?_ | refine Ev.cstr ?_ | refine Ev.cbool ?_ | refine Ev.cnone ?_ | refine Ev.bin ?_ | refine Ev.una ?_ | refine Ts.not ?_ | refine Ts.bools ?_ | refine TsAll.and ?_ | refine TsAll.or ?_ | refine TsAll.andNil ?_ | refine TsAll.orNil ?_ | refine Tr.bool ?_ | refine As.sub ?_ | refine Evs.nil ?_ | refine Op.add ?_ | refine Op.sub ?_ | refine Op.iadd ?_ | refine Op.isub ?_ | refine Op.mul2 ?_ | refine Op.lt ?_ | refine Op.gt ?_ | refine Op.eq ?_ | refine Op.ne ?_ | refine Op.neg ?_ | refine Op.eqS ?_ | refine Op.neS ?_ | refine Ex.if ?_ | refine Ex.ret ?_ | refine Ex.brk ?_ | refine Ex.cont ?_ | refine Ev.ifx ?_) | refine Ev.var rfl ?_ | refine Ev.cmp ?_ | refine Ev.subL ?_ | refine Ts.cmp ?_ | refine As.name (Sn.local rfl ?_) | refine Evs.cons ?_ | refine Ex.assign ?_ | refine Ex.assign2 ?_ | refine Ex.expr ?_ | refine Ex.aug rfl rfl ?_)
        rw [bs_eq]
        refine ⟨rfl, fun hb => ?_, fun hb => ?_⟩
        · have hc2 : c = 92 := by simpa using hb
          subst hc2
          refine GT.cons (GT.plain ?_)
          repeat (first | (with_reducible first | refine Ev.cint ?_ | refine Ev.cstr ?_ | refine Ev.cbool ?_ | refine Ev.cnone ?_ | refine Ev.bin ?_ | refine Ev.una ?_ | refine Ts.not ?_ | refine Ts.bools ?_ | refine TsAll.and ?_ | refine TsAll.or ?_ | refine TsAll.andNil ?_ | refine TsAll.orNil ?_ | refine Tr.bool ?_ | refine As.sub ?_ | refine Evs.nil ?_ | refine Op.add ?_ | refine Op.sub ?_ | refine Op.iadd ?_ | refine Op.isub ?_ | refine Op.mul2 ?_ | refine Op.lt ?_ | refine Op.gt ?_ | refine Op.eq ?_ | refine Op.ne ?_ | refine Op.neg ?_ | refine Op.eqS ?_ | refine Op.neS ?_ | refine Ex.if ?_ | refine Ex.ret ?_ | refine Ex.brk ?_ | refine Ex.cont ?_ | refine Ev.ifx ?_) | refine Ev.var rfl ?_ | refine Ev.cmp ?_ | refine Ev.subL ?_ | refine Ts.cmp ?_ | refine As.name (Sn.local rfl ?_) | refine Evs.cons ?_ | refine Ex.assign ?_ | refine Ex.assign2 ?_ | refine Ex.expr ?_ | refine Ex.aug rfl rfl ?_)
          refine ⟨rfl, GT.nil (GT.nil (GT.nil ⟨.inl rfl, _, ?sub, true, rfl, rfl, hok'⟩))⟩
          case sub => exact ⟨rfl, rfl, trivial⟩
        · have hc2 : c ≠ 92 := by simpa using hb
          have e1 : unitsG (c :: x.cps.toList.drop (i + 1)) i false = (i, ⟨#[c]⟩) :: unitsG (x.cps.toList.drop (i + 1)) (i + 1) false := by
            show (if c = 92 then _ else _) = _
            rw [if_neg hc2]
          have e2 : okE (x.cps.toList.drop (i + 1)) false = true := by
            have : okE (c :: x.cps.toList.drop (i + 1)) false = okE (x.cps.toList.drop (i + 1)) (c == 92) := rfl
            rw [this] at hok'
            have h92 : (c == 92) = false := by simpa using hc2
            rw [h92] at hok'; exact hok'
          rw [e1]
          refine GT.cons (GT.yield (us := unitsG (x.cps.toList.drop (i + 1)) (i + 1) false) ?_ ?_)
          · refine Ev.tup ?_
            repeat (first | (with_reducible first | refine Ev.cint ?_ | refine Ev.cstr ?_ | refine Ev.cbool ?_ | refine Ev.cnone ?_ | refine Ev.bin ?_ | refine Ev.una ?_ | refine Ts.not ?_ | refine Ts.bools ?_ | refine TsAll.and ?_ | refine TsAll.or ?_ | refine TsAll.andNil ?_ | refine TsAll.orNil ?_ | refine Tr.bool ?_ | refine As.sub ?_ | refine Evs.nil ?_ | refine Op.add ?_ | refine Op.sub ?_ | refine Op.iadd ?_ | refine Op.isub ?_ | refine Op.mul2 ?_ | refine Op.lt ?_ | refine Op.gt ?_ | refine Op.eq ?_ | refine Op.ne ?_ | refine Op.neg ?_ | refine Op.eqS ?_ | refine Op.neS ?_ | refine Ex.if ?_ | refine Ex.ret ?_ | refine Ex.brk ?_ | refine Ex.cont ?_ | refine Ev.ifx ?_) | refine Ev.var rfl ?_ | refine Ev.cmp ?_ | refine Ev.subL ?_ | refine Ts.cmp ?_ | refine As.name (Sn.local rfl ?_) | refine Evs.cons ?_ | refine Ex.assign ?_ | refine Ex.assign2 ?_ | refine Ex.expr ?_ | refine Ex.aug rfl rfl ?_)
            exact ⟨by simp, rfl, rfl⟩
          · refine GT.nil (GT.nil (GT.nil ⟨.inl rfl, _, ?sub, false, rfl, rfl, e2⟩))
            case sub => exact ⟨rfl, rfl, trivial⟩
  · subst hus
    dsimp only
    refine seg_execs_cons (seg_wrap (wpAny_mono ((Ex.if (Ts.val (Ev.var hesc (Tr.bool ⟨fun q => (Bool.false_ne_true q).elim, fun _ => Exs.nil (Q := fun f m'' H'' => f = .next ∧ H'' = []) ⟨rfl, rfl⟩⟩))) : Ex G k _ _ m' [] (fun f m'' H'' => f = .next ∧ H'' = [])) _ env [] s' he hr (Wd.triv ok'.base) ok'.vr) (fun fl s₅ hP => ?_) fun _ _ q => q.elim))
    obtain ⟨ρ₅, H₅, m₅, af, y, d₅, V₅, hfl, e1, e2⟩ := hP
    subst e1
    cases hfl
    dsimp only
    refine seg_execs_nil ?_
    refine seg_end (.ok (.ret .none)) ⟨rfl, rfl, x'.stp y fun a ha => ?_⟩
    rw [own_one hcells a (own_sub ha)]; simp [hsAt]
end Mine
end
section
open PySem PySem.W PyProof.Rows PySem.Calls
set_option maxRecDepth 100000
namespace Mine
variable {G : Gl} {k : Nat} {sc : Scope} {m : Vars} {H : List AO}

theorem kind_list {j : Nat} {xs : List AV} (h : H[j]? = some (.list xs)) : KindIs H "list" (.ref j) := by simp only [KindIs, h]

/- lengths, members -/
theorem sdGo_length {bf : Nat → Nat → Bool} {new start : Nat} : ∀ (f pos : Nat) (xs : List Nat), (sdGo bf new start f pos xs).length = xs.length
  | 0, pos, xs => by rw [sdGo, List.length_set]
  | f + 1, pos, xs => by
    rw [sdGo]
    split
    · split
      · rw [sdGo_length f, List.length_set]
      · rw [List.length_set]
    · rw [List.length_set]
theorem sdGo_mem {bf : Nat → Nat → Bool} {new start t : Nat} : ∀ (f pos : Nat) (xs : List Nat), pos < xs.length → t ∈ sdGo bf new start f pos xs → t = new ∨ t ∈ xs
  | 0, pos, xs, _, h => by rw [sdGo] at h; exact (List.mem_or_eq_of_mem_set h).symm
  | f + 1, pos, xs, hp, h => by
    rw [sdGo] at h
    split at h
    · split at h
      · rcases sdGo_mem f _ _ (by rw [List.length_set]; lia) h with q | q
        · exact .inl q
        · rcases List.mem_or_eq_of_mem_set q with r | r
          · exact .inr r
          · exact .inr (r ▸ getD_mem (by lia))
      · exact (List.mem_or_eq_of_mem_set h).symm
    · exact (List.mem_or_eq_of_mem_set h).symm
theorem sd_length {bf : Nat → Nat → Bool} {xs : List Nat} {start pos : Nat} : (sd bf xs start pos).length = xs.length := sdGo_length _ _ _
theorem sd_mem {bf : Nat → Nat → Bool} {xs : List Nat} {start pos t : Nat} (hp : pos < xs.length) (h : t ∈ sd bf xs start pos) : t ∈ xs :=
  (sdGo_mem _ _ _ hp h).elim (fun e => e ▸ getD_mem hp) id
theorem suGo_all {bf : Nat → Nat → Bool} : ∀ (f pos : Nat) (xs : List Nat), pos < xs.length → (suGo bf f pos xs).1 < xs.length ∧ (suGo bf f pos xs).2.length = xs.length ∧ ∀ t ∈ (suGo bf f pos xs).2, t ∈ xs
  | 0, pos, xs, hp => ⟨hp, rfl, fun _ h => h⟩
  | f + 1, pos, xs, hp => by
    rw [suGo]
    split
    · rename_i hlt
      have hc := suC_lt (bf := bf) hlt
      obtain ⟨h1, h2, h3⟩ := suGo_all (bf := bf) f (suC bf pos xs) (xs.set pos (xs.getD (suC bf pos xs) 0)) (by rw [List.length_set]; exact hc)
      rw [List.length_set] at h1 h2
      refine ⟨h1, h2, fun t ht => ?_⟩
      rcases List.mem_or_eq_of_mem_set (h3 t ht) with r | r
      · exact r
      · exact r ▸ getD_mem hc
    · exact ⟨hp, rfl, fun _ h => h⟩
theorem su_length {bf : Nat → Nat → Bool} {xs : List Nat} {pos : Nat} (hp : pos < xs.length) : (su bf xs pos).length = xs.length := by
  unfold su; dsimp only
  rw [sd_length, List.length_set, (suGo_all _ _ _ hp).2.1]
theorem su_mem {bf : Nat → Nat → Bool} {xs : List Nat} {pos t : Nat} (hp : pos < xs.length) (h : t ∈ su bf xs pos) : t ∈ xs := by
  unfold su at h; dsimp only at h
  obtain ⟨h1, h2, h3⟩ := suGo_all (bf := bf) xs.length pos xs hp
  have := sd_mem (by rw [List.length_set, h2]; exact h1) h
  rcases List.mem_or_eq_of_mem_set this with r | r
  · exact h3 t r
  · exact r ▸ getD_mem hp

/- pop, heapify -/
noncomputable def hpop (bf : Nat → Nat → Bool) (xs : List Nat) : Nat × List Nat :=
  if xs.length ≤ 1 then (xs.getD (xs.length - 1) 0, []) else (xs.getD 0 0, su bf (xs.dropLast.set 0 (xs.getD (xs.length - 1) 0)) 0)
noncomputable def hfyGo (bf : Nat → Nat → Bool) : Nat → List Nat → List Nat
  | 0, xs => xs
  | i + 1, xs => hfyGo bf i (su bf xs i)
noncomputable def hfy (bf : Nat → Nat → Bool) (xs : List Nat) : List Nat := hfyGo bf (xs.length / 2) xs

theorem map_dropLast_ref (xs : List Nat) : (xs.map AV.ref).dropLast = xs.dropLast.map AV.ref := by
  rw [List.dropLast_eq_take, List.dropLast_eq_take, List.length_map, List.map_take]
theorem getLast_map_ref {xs : List Nat} (h : 0 < xs.length) : (xs.map AV.ref).getLast? = some (.ref (xs.getD (xs.length - 1) 0)) := by
  rw [List.getLast?_eq_getElem?, List.length_map, getElem?_map_ref (by lia)]

set_option maxHeartbeats 1000000 in
theorem heappush_c (hK : TopIs G) {h t : Nat} {xs : List Nat} {val : Nat → Int × Int} {Q : AV → List AO → Prop} (hh : H[h]? = some (.list (xs.map .ref))) (hlen : xs.length ≤ 300)
    (T : Things H val (xs ++ [t])) (hn : ∀ t' ∈ xs ++ [t], t' ≠ h) (hq : Q .none (H.set h (.list ((sd (fun a b => ltv val a b) (xs ++ [t]) 0 xs.length).map .ref)))) : Op G (k + 2) (callOf (.ref (G.adr (Str.ofString "heappush")))) [.ref h, .ref t] H Q := by
  have hhl : h < H.length := (List.getElem?_eq_some_iff.mp hh).1
  have eF := Eq.refl (fnD 8)
  conv at eF => rhs; whnf
  obtain ⟨oF, pmF, cdF, docF, hmF, hoF, hdF, hcdF⟩ := hK.at (by kernel_rfl) eF
  dsimp only at hdF
  refine Op.doc hoF hdF hcdF (fun cvs h => ?_) (by decide) (by rfl) (by decide) (by decide) (by decide) ?_
  · obtain ⟨a, b, rfl⟩ := two_of h; rfl
  dsimp only
  refine Exs.cons (Ex.expr (Ev.meth1 PySem.F.plainAttrs_list PySem.F.slot_list_append PySem.F.type_list_append (Ev.var rfl ⟨?_, ?_⟩)))
  · exact kind_list hh
  refine Evs.cons (Ev.var rfl (Evs.nil ?_))
  refine Op.append hh (by simp; lia) ?_
  have e : xs.map AV.ref ++ [.ref t] = (xs ++ [t]).map AV.ref := by simp
  rw [e]
  have hhs := get_set_heap (a := .list ((xs ++ [t]).map .ref)) hhl
  dsimp only
  refine Exs.cons (Ex.expr (callTop hK (by kernel_rfl) rfl ?_))
  refine Evs.cons (Ev.var rfl (Evs.cons (Ev.cint (Evs.cons (Ev.bin (callBi (hK.no (by kernel_rfl)) boot_len' rfl ?_))))))
  refine Evs.cons (Ev.var rfl (Evs.nil (Op.lenL hhs (by simp; lia) ?_)))
  refine Ev.cint (Op.sub (Evs.nil ?_))
  have e2 : (((xs ++ [t]).map AV.ref).length : Int) - 1 = ((xs.length : Nat) : Int) := by simp
  rw [e2]
  refine siftdown_min (start := 0) (val := val) hK hhs (by simp) (by simp; lia) (T.set hn _) hn ?_
  rw [set_same_heap]
  dsimp only
  exact Exs.nil hq

theorem Tr_list_true {j : Nat} {xs : List Nat} {Q : Bool → List AO → Prop} (hj : H[j]? = some (.list (xs.map .ref))) (hlen : xs.length ≤ 1000) (h : Q (decide (0 < xs.length)) H) : Tr G k (.ref j) H Q := by
  refine Tr.list hj (by simpa using hlen) ?_
  have : (!(xs.map AV.ref).isEmpty) = decide (0 < xs.length) := by cases xs <;> simp
  rw [this]; exact h

set_option maxHeartbeats 1000000 in
theorem heappop_max_c (hK : TopIs G) {h : Nat} {xs : List Nat} {val : Nat → Int × Int} {Q : AV → List AO → Prop} (hh : H[h]? = some (.list (xs.map .ref))) (h0 : 0 < xs.length) (hlen : xs.length ≤ 300)
    (T : Things H val xs) (hn : ∀ t' ∈ xs, t' ≠ h) (hq : Q (.ref (hpop (fun a b => ltv val b a) xs).1) (H.set h (.list ((hpop (fun a b => ltv val b a) xs).2.map .ref)))) : Op G (k + 3) (callOf (.ref (G.adr (Str.ofString "_heappop_max")))) [.ref h] H Q := by
  have hhl : h < H.length := (List.getElem?_eq_some_iff.mp hh).1
  have eF := Eq.refl (fnD 10)
  conv at eF => rhs; whnf
  obtain ⟨oF, pmF, cdF, docF, hmF, hoF, hdF, hcdF⟩ := hK.at (by kernel_rfl) eF
  dsimp only at hdF
  refine Op.doc hoF hdF hcdF (fun cvs h => ?_) (by decide) (by rfl) (by decide) (by decide) (by decide) ?_
  · obtain ⟨a, rfl⟩ := one_of h; rfl
  dsimp only
  refine Exs.cons (Ex.assign (Ev.meth0 PySem.F.plainAttrs_list PySem.F.slot_list_pop PySem.F.type_list_pop (Ev.var rfl ⟨?_, ?_⟩)))
  · exact kind_list hh
  refine Op.pop hh (by simp; lia) (getLast_map_ref h0) ?_
  rw [map_dropLast_ref]
  have hhs := get_set_heap (a := .list (xs.dropLast.map .ref)) hhl
  have hdl : xs.dropLast.length = xs.length - 1 := by simp
  have hdm : ∀ t ∈ xs.dropLast, t ∈ xs := fun t ht => by rw [List.dropLast_eq_take] at ht; exact List.mem_of_mem_take ht
  refine As.name (Sn.local rfl ?_)
  dsimp only
  refine Exs.cons (Ex.if (Ts.val (Ev.var rfl (Tr_list_true hhs (by lia) ⟨fun hb => ?_, fun hb => ?_⟩))))
  · have hl1 : 0 < xs.dropLast.length := by simpa using hb
    have hg0 : xs.dropLast.getD 0 0 = xs.getD 0 0 := by
      rw [List.getD_eq_getElem?_getD, List.getD_eq_getElem?_getD, List.getElem?_dropLast, if_pos (by lia)]
    repeat (first | (with_reducible first | refine Ev.cint ?_ | refine Ev.cstr ?_ | refine Ev.cbool ?_ | refine Ev.cnone ?_ | refine Ev.bin ?_ | refine Ev.una ?_ | refine Ts.not ?_ | refine Ts.bools ?_ | refine TsAll.and ?_ | refine TsAll.or ?_ | refine TsAll.andNil ?_ | refine TsAll.orNil ?_ | refine Tr.bool ?_ | refine As.sub ?_ | refine Evs.nil ?_ | refine Op.add ?_ | refine Op.sub ?_ | refine Op.iadd ?_ | refine Op.isub ?_ | refine Op.mul2 ?_ | refine Op.lt ?_ | refine Op.gt ?_ | refine Op.eq ?_ | refine Op.ne ?_ | refine Op.neg ?_ | refine Op.eqS ?_ | refine Op.neS ?_ | refine Ex.if ?_ | refine Ex.ret ?_ | refine Ex.brk ?_ | refine Ex.cont ?_ | refine Ev.ifx ?_ | refine Exs.cons ?_ | refine Exs.nil ?_) | refine Ev.var rfl ?_ | refine Ev.cmp ?_ | refine Ev.subL ?_ | refine Ts.cmp ?_ | refine As.name (Sn.local rfl ?_) | refine Evs.cons ?_ | refine Ex.assign ?_ | refine Ex.assign2 ?_ | refine Ex.expr ?_ | refine Ex.aug rfl rfl ?_)
    refine ⟨h, _, _, _, rfl, rfl, hhs, by simp; lia, .inl ⟨by decide, getElem?_map_ref (i := 0) hl1⟩, ?_⟩
    repeat (first | (with_reducible first | refine Ev.cint ?_ | refine Ev.cstr ?_ | refine Ev.cbool ?_ | refine Ev.cnone ?_ | refine Ev.bin ?_ | refine Ev.una ?_ | refine Ts.not ?_ | refine Ts.bools ?_ | refine TsAll.and ?_ | refine TsAll.or ?_ | refine TsAll.andNil ?_ | refine TsAll.orNil ?_ | refine Tr.bool ?_ | refine As.sub ?_ | refine Evs.nil ?_ | refine Op.add ?_ | refine Op.sub ?_ | refine Op.iadd ?_ | refine Op.isub ?_ | refine Op.mul2 ?_ | refine Op.lt ?_ | refine Op.gt ?_ | refine Op.eq ?_ | refine Op.ne ?_ | refine Op.neg ?_ | refine Op.eqS ?_ | refine Op.neS ?_ | refine Ex.if ?_ | refine Ex.ret ?_ | refine Ex.brk ?_ | refine Ex.cont ?_ | refine Ev.ifx ?_ | refine Exs.cons ?_ | refine Exs.nil ?_) | refine Ev.var rfl ?_ | refine Ev.cmp ?_ | refine Ev.subL ?_ | refine Ts.cmp ?_ | refine As.name (Sn.local rfl ?_) | refine Evs.cons ?_ | refine Ex.assign ?_ | refine Ex.assign2 ?_ | refine Ex.expr ?_ | refine Ex.aug rfl rfl ?_)
    refine OpU.setL hhs (by simp; lia) (by decide) (by simp; lia) ?_
    rw [show (0 : Int).toNat = 0 from rfl, set_map_ref, set_same_heap]
    have hmem : ∀ t ∈ xs.dropLast.set 0 (xs.getD (xs.length - 1) 0), t ∈ xs := fun t ht => by
      rcases List.mem_or_eq_of_mem_set ht with q | q
      · exact hdm t q
      · rw [q]; exact getD_mem (by lia)
    repeat (first | (with_reducible first | refine Ev.cint ?_ | refine Ev.cstr ?_ | refine Ev.cbool ?_ | refine Ev.cnone ?_ | refine Ev.bin ?_ | refine Ev.una ?_ | refine Ts.not ?_ | refine Ts.bools ?_ | refine TsAll.and ?_ | refine TsAll.or ?_ | refine TsAll.andNil ?_ | refine TsAll.orNil ?_ | refine Tr.bool ?_ | refine As.sub ?_ | refine Evs.nil ?_ | refine Op.add ?_ | refine Op.sub ?_ | refine Op.iadd ?_ | refine Op.isub ?_ | refine Op.mul2 ?_ | refine Op.lt ?_ | refine Op.gt ?_ | refine Op.eq ?_ | refine Op.ne ?_ | refine Op.neg ?_ | refine Op.eqS ?_ | refine Op.neS ?_ | refine Ex.if ?_ | refine Ex.ret ?_ | refine Ex.brk ?_ | refine Ex.cont ?_ | refine Ev.ifx ?_ | refine Exs.cons ?_ | refine Exs.nil ?_) | refine Ev.var rfl ?_ | refine Ev.cmp ?_ | refine Ev.subL ?_ | refine Ts.cmp ?_ | refine As.name (Sn.local rfl ?_) | refine Evs.cons ?_ | refine Ex.assign ?_ | refine Ex.assign2 ?_ | refine Ex.expr ?_ | refine Ex.aug rfl rfl ?_)
    refine callTop hK (by kernel_rfl) rfl ?_
    repeat (first | (with_reducible first | refine Ev.cint ?_ | refine Ev.cstr ?_ | refine Ev.cbool ?_ | refine Ev.cnone ?_ | refine Ev.bin ?_ | refine Ev.una ?_ | refine Ts.not ?_ | refine Ts.bools ?_ | refine TsAll.and ?_ | refine TsAll.or ?_ | refine TsAll.andNil ?_ | refine TsAll.orNil ?_ | refine Tr.bool ?_ | refine As.sub ?_ | refine Evs.nil ?_ | refine Op.add ?_ | refine Op.sub ?_ | refine Op.iadd ?_ | refine Op.isub ?_ | refine Op.mul2 ?_ | refine Op.lt ?_ | refine Op.gt ?_ | refine Op.eq ?_ | refine Op.ne ?_ | refine Op.neg ?_ | refine Op.eqS ?_ | refine Op.neS ?_ | refine Ex.if ?_ | refine Ex.ret ?_ | refine Ex.brk ?_ | refine Ex.cont ?_ | refine Ev.ifx ?_ | refine Exs.cons ?_ | refine Exs.nil ?_) | refine Ev.var rfl ?_ | refine Ev.cmp ?_ | refine Ev.subL ?_ | refine Ts.cmp ?_ | refine As.name (Sn.local rfl ?_) | refine Evs.cons ?_ | refine Ex.assign ?_ | refine Ex.assign2 ?_ | refine Ex.expr ?_ | refine Ex.aug rfl rfl ?_)
    refine siftup_max (pos := 0) (val := val) hK (xs := xs.dropLast.set 0 (xs.getD (xs.length - 1) 0)) (get_set_heap hhl) (by rw [List.length_set]; exact hl1) (by rw [List.length_set]; lia) (fun t ht => T.set hn _ t (hmem t ht)) (fun t ht => hn t (hmem t ht)) ?_
    rw [set_same_heap]
    repeat (first | (with_reducible first | refine Ev.cint ?_ | refine Ev.cstr ?_ | refine Ev.cbool ?_ | refine Ev.cnone ?_ | refine Ev.bin ?_ | refine Ev.una ?_ | refine Ts.not ?_ | refine Ts.bools ?_ | refine TsAll.and ?_ | refine TsAll.or ?_ | refine TsAll.andNil ?_ | refine TsAll.orNil ?_ | refine Tr.bool ?_ | refine As.sub ?_ | refine Evs.nil ?_ | refine Op.add ?_ | refine Op.sub ?_ | refine Op.iadd ?_ | refine Op.isub ?_ | refine Op.mul2 ?_ | refine Op.lt ?_ | refine Op.gt ?_ | refine Op.eq ?_ | refine Op.ne ?_ | refine Op.neg ?_ | refine Op.eqS ?_ | refine Op.neS ?_ | refine Ex.if ?_ | refine Ex.ret ?_ | refine Ex.brk ?_ | refine Ex.cont ?_ | refine Ev.ifx ?_ | refine Exs.cons ?_ | refine Exs.nil ?_) | refine Ev.var rfl ?_ | refine Ev.cmp ?_ | refine Ev.subL ?_ | refine Ts.cmp ?_ | refine As.name (Sn.local rfl ?_) | refine Evs.cons ?_ | refine Ex.assign ?_ | refine Ex.assign2 ?_ | refine Ex.expr ?_ | refine Ex.aug rfl rfl ?_)
    have e : hpop (fun a b => ltv val b a) xs = (xs.getD 0 0, su (fun a b => ltv val b a) (xs.dropLast.set 0 (xs.getD (xs.length - 1) 0)) 0) := by
      unfold hpop; rw [if_neg (by lia)]
    rw [e] at hq
    rw [hg0]; exact hq
  · have hl1 : ¬ 0 < xs.dropLast.length := by simpa using hb
    repeat (first | (with_reducible first | refine Ev.cint ?_ | refine Ev.cstr ?_ | refine Ev.cbool ?_ | refine Ev.cnone ?_ | refine Ev.bin ?_ | refine Ev.una ?_ | refine Ts.not ?_ | refine Ts.bools ?_ | refine TsAll.and ?_ | refine TsAll.or ?_ | refine TsAll.andNil ?_ | refine TsAll.orNil ?_ | refine Tr.bool ?_ | refine As.sub ?_ | refine Evs.nil ?_ | refine Op.add ?_ | refine Op.sub ?_ | refine Op.iadd ?_ | refine Op.isub ?_ | refine Op.mul2 ?_ | refine Op.lt ?_ | refine Op.gt ?_ | refine Op.eq ?_ | refine Op.ne ?_ | refine Op.neg ?_ | refine Op.eqS ?_ | refine Op.neS ?_ | refine Ex.if ?_ | refine Ex.ret ?_ | refine Ex.brk ?_ | refine Ex.cont ?_ | refine Ev.ifx ?_ | refine Exs.cons ?_ | refine Exs.nil ?_) | refine Ev.var rfl ?_ | refine Ev.cmp ?_ | refine Ev.subL ?_ | refine Ts.cmp ?_ | refine As.name (Sn.local rfl ?_) | refine Evs.cons ?_ | refine Ex.assign ?_ | refine Ex.assign2 ?_ | refine Ex.expr ?_ | refine Ex.aug rfl rfl ?_)
    have e : hpop (fun a b => ltv val b a) xs = (xs.getD (xs.length - 1) 0, []) := by
      unfold hpop; rw [if_pos (by lia)]
    rw [e] at hq
    have e2 : xs.dropLast = [] := List.length_eq_zero_iff.mp (by lia)
    rw [e2]; exact hq
set_option maxHeartbeats 1000000 in
theorem heappop_min_c (hK : TopIs G) {h : Nat} {xs : List Nat} {val : Nat → Int × Int} {Q : AV → List AO → Prop} (hh : H[h]? = some (.list (xs.map .ref))) (h0 : 0 < xs.length) (hlen : xs.length ≤ 300)
    (T : Things H val xs) (hn : ∀ t' ∈ xs, t' ≠ h) (hq : Q (.ref (hpop (fun a b => ltv val a b) xs).1) (H.set h (.list ((hpop (fun a b => ltv val a b) xs).2.map .ref)))) : Op G (k + 3) (callOf (.ref (G.adr (Str.ofString "heappop")))) [.ref h] H Q := by
  have hhl : h < H.length := (List.getElem?_eq_some_iff.mp hh).1
  have eF := Eq.refl (fnD 9)
  conv at eF => rhs; whnf
  obtain ⟨oF, pmF, cdF, docF, hmF, hoF, hdF, hcdF⟩ := hK.at (by kernel_rfl) eF
  dsimp only at hdF
  refine Op.doc hoF hdF hcdF (fun cvs h => ?_) (by decide) (by rfl) (by decide) (by decide) (by decide) ?_
  · obtain ⟨a, rfl⟩ := one_of h; rfl
  dsimp only
  refine Exs.cons (Ex.assign (Ev.meth0 PySem.F.plainAttrs_list PySem.F.slot_list_pop PySem.F.type_list_pop (Ev.var rfl ⟨?_, ?_⟩)))
  · exact kind_list hh
  refine Op.pop hh (by simp; lia) (getLast_map_ref h0) ?_
  rw [map_dropLast_ref]
  have hhs := get_set_heap (a := .list (xs.dropLast.map .ref)) hhl
  have hdl : xs.dropLast.length = xs.length - 1 := by simp
  have hdm : ∀ t ∈ xs.dropLast, t ∈ xs := fun t ht => by rw [List.dropLast_eq_take] at ht; exact List.mem_of_mem_take ht
  refine As.name (Sn.local rfl ?_)
  dsimp only
  refine Exs.cons (Ex.if (Ts.val (Ev.var rfl (Tr_list_true hhs (by lia) ⟨fun hb => ?_, fun hb => ?_⟩))))
  · have hl1 : 0 < xs.dropLast.length := by simpa using hb
    have hg0 : xs.dropLast.getD 0 0 = xs.getD 0 0 := by
      rw [List.getD_eq_getElem?_getD, List.getD_eq_getElem?_getD, List.getElem?_dropLast, if_pos (by lia)]
    repeat (first | (with_reducible first | refine Ev.cint ?_ | refine Ev.cstr ?_ | refine Ev.cbool ?_ | refine Ev.cnone ?_ | refine Ev.bin ?_ | refine Ev.una ?_ | refine Ts.not ?_ | refine Ts.bools ?_ | refine TsAll.and ?_ | refine TsAll.or ?_ | refine TsAll.andNil ?_ | refine TsAll.orNil ?_ | refine Tr.bool ?_ | refine As.sub ?_ | refine Evs.nil ?_ | refine Op.add ?_ | refine Op.sub ?_ | refine Op.iadd ?_ | refine Op.isub ?_ | refine Op.mul2 ?_ | refine Op.lt ?_ | refine Op.gt ?_ | refine Op.eq ?_ | refine Op.ne ?_ | refine Op.neg ?_ | refine Op.eqS ?_ | refine Op.neS ?_ | refine Ex.if ?_ | refine Ex.ret ?_ | refine Ex.brk ?_ | refine Ex.cont ?_ | refine Ev.ifx ?_ | refine Exs.cons ?_ | refine Exs.nil ?_) | refine Ev.var rfl ?_ | refine Ev.cmp ?_ | refine Ev.subL ?_ | refine Ts.cmp ?_ | refine As.name (Sn.local rfl ?_) | refine Evs.cons ?_ | refine Ex.assign ?_ | refine Ex.assign2 ?_ | refine Ex.expr ?_ | refine Ex.aug rfl rfl ?_)
    refine ⟨h, _, _, _, rfl, rfl, hhs, by simp; lia, .inl ⟨by decide, getElem?_map_ref (i := 0) hl1⟩, ?_⟩
    repeat (first | (with_reducible first | refine Ev.cint ?_ | refine Ev.cstr ?_ | refine Ev.cbool ?_ | refine Ev.cnone ?_ | refine Ev.bin ?_ | refine Ev.una ?_ | refine Ts.not ?_ | refine Ts.bools ?_ | refine TsAll.and ?_ | refine TsAll.or ?_ | refine TsAll.andNil ?_ | refine TsAll.orNil ?_ | refine Tr.bool ?_ | refine As.sub ?_ | refine Evs.nil ?_ | refine Op.add ?_ | refine Op.sub ?_ | refine Op.iadd ?_ | refine Op.isub ?_ | refine Op.mul2 ?_ | refine Op.lt ?_ | refine Op.gt ?_ | refine Op.eq ?_ | refine Op.ne ?_ | refine Op.neg ?_ | refine Op.eqS ?_ | refine Op.neS ?_ | refine Ex.if ?_ | refine Ex.ret ?_ | refine Ex.brk ?_ | refine Ex.cont ?_ | refine Ev.ifx ?_ | refine Exs.cons ?_ | refine Exs.nil ?_) | refine Ev.var rfl ?_ | refine Ev.cmp ?_ | refine Ev.subL ?_ | refine Ts.cmp ?_ | refine As.name (Sn.local rfl ?_) | refine Evs.cons ?_ | refine Ex.assign ?_ | refine Ex.assign2 ?_ | refine Ex.expr ?_ | refine Ex.aug rfl rfl ?_)
    refine OpU.setL hhs (by simp; lia) (by decide) (by simp; lia) ?_
    rw [show (0 : Int).toNat = 0 from rfl, set_map_ref, set_same_heap]
    have hmem : ∀ t ∈ xs.dropLast.set 0 (xs.getD (xs.length - 1) 0), t ∈ xs := fun t ht => by
      rcases List.mem_or_eq_of_mem_set ht with q | q
      · exact hdm t q
      · rw [q]; exact getD_mem (by lia)
    repeat (first | (with_reducible first | refine Ev.cint ?_ | refine Ev.cstr ?_ | refine Ev.cbool ?_ | refine Ev.cnone ?_ | refine Ev.bin ?_ | refine Ev.una ?_ | refine Ts.not ?_ | refine Ts.bools ?_ | refine TsAll.and ?_ | refine TsAll.or ?_ | refine TsAll.andNil ?_ | refine TsAll.orNil ?_ | refine Tr.bool ?_ | refine As.sub ?_ | refine Evs.nil ?_ | refine Op.add ?_ | refine Op.sub ?_ | refine Op.iadd ?_ | refine Op.isub ?_ | refine Op.mul2 ?_ | refine Op.lt ?_ | refine Op.gt ?_ | refine Op.eq ?_ | refine Op.ne ?_ | refine Op.neg ?_ | refine Op.eqS ?_ | refine Op.neS ?_ | refine Ex.if ?_ | refine Ex.ret ?_ | refine Ex.brk ?_ | refine Ex.cont ?_ | refine Ev.ifx ?_ | refine Exs.cons ?_ | refine Exs.nil ?_) | refine Ev.var rfl ?_ | refine Ev.cmp ?_ | refine Ev.subL ?_ | refine Ts.cmp ?_ | refine As.name (Sn.local rfl ?_) | refine Evs.cons ?_ | refine Ex.assign ?_ | refine Ex.assign2 ?_ | refine Ex.expr ?_ | refine Ex.aug rfl rfl ?_)
    refine callTop hK (by kernel_rfl) rfl ?_
    repeat (first | (with_reducible first | refine Ev.cint ?_ | refine Ev.cstr ?_ | refine Ev.cbool ?_ | refine Ev.cnone ?_ | refine Ev.bin ?_ | refine Ev.una ?_ | refine Ts.not ?_ | refine Ts.bools ?_ | refine TsAll.and ?_ | refine TsAll.or ?_ | refine TsAll.andNil ?_ | refine TsAll.orNil ?_ | refine Tr.bool ?_ | refine As.sub ?_ | refine Evs.nil ?_ | refine Op.add ?_ | refine Op.sub ?_ | refine Op.iadd ?_ | refine Op.isub ?_ | refine Op.mul2 ?_ | refine Op.lt ?_ | refine Op.gt ?_ | refine Op.eq ?_ | refine Op.ne ?_ | refine Op.neg ?_ | refine Op.eqS ?_ | refine Op.neS ?_ | refine Ex.if ?_ | refine Ex.ret ?_ | refine Ex.brk ?_ | refine Ex.cont ?_ | refine Ev.ifx ?_ | refine Exs.cons ?_ | refine Exs.nil ?_) | refine Ev.var rfl ?_ | refine Ev.cmp ?_ | refine Ev.subL ?_ | refine Ts.cmp ?_ | refine As.name (Sn.local rfl ?_) | refine Evs.cons ?_ | refine Ex.assign ?_ | refine Ex.assign2 ?_ | refine Ex.expr ?_ | refine Ex.aug rfl rfl ?_)
    refine siftup_min (pos := 0) (val := val) hK (xs := xs.dropLast.set 0 (xs.getD (xs.length - 1) 0)) (get_set_heap hhl) (by rw [List.length_set]; exact hl1) (by rw [List.length_set]; lia) (fun t ht => T.set hn _ t (hmem t ht)) (fun t ht => hn t (hmem t ht)) ?_
    rw [set_same_heap]
    repeat (first | (with_reducible first | refine Ev.cint ?_ | refine Ev.cstr ?_ | refine Ev.cbool ?_ | refine Ev.cnone ?_ | refine Ev.bin ?_ | refine Ev.una ?_ | refine Ts.not ?_ | refine Ts.bools ?_ | refine TsAll.and ?_ | refine TsAll.or ?_ | refine TsAll.andNil ?_ | refine TsAll.orNil ?_ | refine Tr.bool ?_ | refine As.sub ?_ | refine Evs.nil ?_ | refine Op.add ?_ | refine Op.sub ?_ | refine Op.iadd ?_ | refine Op.isub ?_ | refine Op.mul2 ?_ | refine Op.lt ?_ | refine Op.gt ?_ | refine Op.eq ?_ | refine Op.ne ?_ | refine Op.neg ?_ | refine Op.eqS ?_ | refine Op.neS ?_ | refine Ex.if ?_ | refine Ex.ret ?_ | refine Ex.brk ?_ | refine Ex.cont ?_ | refine Ev.ifx ?_ | refine Exs.cons ?_ | refine Exs.nil ?_) | refine Ev.var rfl ?_ | refine Ev.cmp ?_ | refine Ev.subL ?_ | refine Ts.cmp ?_ | refine As.name (Sn.local rfl ?_) | refine Evs.cons ?_ | refine Ex.assign ?_ | refine Ex.assign2 ?_ | refine Ex.expr ?_ | refine Ex.aug rfl rfl ?_)
    have e : hpop (fun a b => ltv val a b) xs = (xs.getD 0 0, su (fun a b => ltv val a b) (xs.dropLast.set 0 (xs.getD (xs.length - 1) 0)) 0) := by
      unfold hpop; rw [if_neg (by lia)]
    rw [e] at hq
    rw [hg0]; exact hq
  · have hl1 : ¬ 0 < xs.dropLast.length := by simpa using hb
    repeat (first | (with_reducible first | refine Ev.cint ?_ | refine Ev.cstr ?_ | refine Ev.cbool ?_ | refine Ev.cnone ?_ | refine Ev.bin ?_ | refine Ev.una ?_ | refine Ts.not ?_ | refine Ts.bools ?_ | refine TsAll.and ?_ | refine TsAll.or ?_ | refine TsAll.andNil ?_ | refine TsAll.orNil ?_ | refine Tr.bool ?_ | refine As.sub ?_ | refine Evs.nil ?_ | refine Op.add ?_ | refine Op.sub ?_ | refine Op.iadd ?_ | refine Op.isub ?_ | refine Op.mul2 ?_ | refine Op.lt ?_ | refine Op.gt ?_ | refine Op.eq ?_ | refine Op.ne ?_ | refine Op.neg ?_ | refine Op.eqS ?_ | refine Op.neS ?_ | refine Ex.if ?_ | refine Ex.ret ?_ | refine Ex.brk ?_ | refine Ex.cont ?_ | refine Ev.ifx ?_ | refine Exs.cons ?_ | refine Exs.nil ?_) | refine Ev.var rfl ?_ | refine Ev.cmp ?_ | refine Ev.subL ?_ | refine Ts.cmp ?_ | refine As.name (Sn.local rfl ?_) | refine Evs.cons ?_ | refine Ex.assign ?_ | refine Ex.assign2 ?_ | refine Ex.expr ?_ | refine Ex.aug rfl rfl ?_)
    have e : hpop (fun a b => ltv val a b) xs = (xs.getD (xs.length - 1) 0, []) := by
      unfold hpop; rw [if_pos (by lia)]
    rw [e] at hq
    have e2 : xs.dropLast = [] := List.length_eq_zero_iff.mp (by lia)
    rw [e2]; exact hq

theorem hfyGo_length {bf : Nat → Nat → Bool} : ∀ (i : Nat) (xs : List Nat), i ≤ xs.length → (hfyGo bf i xs).length = xs.length
  | 0, xs, _ => rfl
  | i + 1, xs, h => by rw [hfyGo, hfyGo_length i _ (by rw [su_length (by lia)]; lia), su_length (by lia)]
theorem hfyGo_mem {bf : Nat → Nat → Bool} {t : Nat} : ∀ (i : Nat) (xs : List Nat), i ≤ xs.length → t ∈ hfyGo bf i xs → t ∈ xs
  | 0, xs, _, ht => ht
  | i + 1, xs, h, ht => by rw [hfyGo] at ht; exact su_mem (by lia) (hfyGo_mem i _ (by rw [su_length (by lia)]; lia) ht)
theorem rng_size (n : Nat) : Builtin.Range.rangeSize 0 (n : Int) 1 = (n : Int) := by
  unfold Builtin.Range.rangeSize
  rw [if_pos (by decide)]
  by_cases h : (0 : Int) < n
  · rw [if_pos h]; lia
  · rw [if_neg h]; lia
theorem fits_small {i : Int} (h1 : -100000 ≤ i) (h2 : i ≤ 100000) : Builtin.Range.rangeFitsLong i = true := by
  unfold Builtin.Range.rangeFitsLong
  simp only [Bool.and_eq_true, decide_eq_true_eq]
  lia
theorem rev_small {n : Nat} (h : n ≤ 1000) : revSmall 0 n 1 = true := by
  unfold revSmall
  rw [rng_size, fits_small (by lia) (by lia), fits_small (by lia) (by lia), fits_small (by lia) (by lia), fits_small (by lia) (by lia), fits_small (by lia) (by lia)]
  rfl
theorem rng_small {n : Nat} (h : n ≤ 1000) : Builtin.Range.small 0 n 1 = true := by
  unfold Builtin.Range.small
  rw [rng_size, fits_small (by lia) (by lia), fits_small (by lia) (by lia), fits_small (by lia) (by lia)]
  simp only [Bool.true_and, Bool.or_eq_true]
  right
  rw [if_pos (by decide)]
  exact fits_small (by lia) (by lia)

set_option maxHeartbeats 1000000 in
theorem heapify_max_c (hK : TopIs G) {h : Nat} {xs : List Nat} {val : Nat → Int × Int} {Q : AV → List AO → Prop} (hh : H[h]? = some (.list (xs.map .ref))) (hlen : xs.length ≤ 300)
    (T : Things H val xs) (hn : ∀ t' ∈ xs, t' ≠ h) (hq : ∀ H', H' = (H ++ [AO.rng 0 (xs.length / 2 : Nat) 1]).set h (.list ((hfy (fun a b => ltv val b a) xs).map .ref)) → Q .none H') : Op G (k + 3) (callOf (.ref (G.adr (Str.ofString "_heapify_max")))) [.ref h] H Q := by
  have hhl : h < H.length := (List.getElem?_eq_some_iff.mp hh).1
  have eF := Eq.refl (fnD 11)
  conv at eF => rhs; whnf
  obtain ⟨oF, pmF, cdF, docF, hmF, hoF, hdF, hcdF⟩ := hK.at (by kernel_rfl) eF
  dsimp only at hdF
  refine Op.doc hoF hdF hcdF (fun cvs h => ?_) (by decide) (by rfl) (by decide) (by decide) (by decide) ?_
  · obtain ⟨a, rfl⟩ := one_of h; rfl
  dsimp only
  refine Exs.cons (Ex.assign (callBi (hK.no (by kernel_rfl)) boot_len' rfl (Evs.cons (Ev.var rfl (Evs.nil (Op.lenL hh (by simp; lia) ?_))))))
  rw [List.length_map]
  refine As.name (Sn.local rfl ?_)
  dsimp only
  refine Exs.cons (Ex.for (ItNew.rev (hK.no (by kernel_rfl)) rfl (callTy (hK.no (by kernel_rfl)) boot_range' rfl (Evs.cons (Ev.bin (Ev.var rfl (Ev.cint (Op.fdiv (by decide) (by decide) (Evs.nil (Op.range1 ?_))))))))))
  have ediv : (xs.length : Int).fdiv 2 = ((xs.length / 2 : Nat) : Int) := by rw [Int.fdiv_eq_ediv_of_nonneg _ (by decide)]; lia
  rw [ediv]
  refine ⟨_, _, _, _, rfl, List.getElem?_concat_length, rev_small (by lia), ?_⟩
  rw [rng_size]
  have e0 : ItR (0 + (((xs.length / 2 : Nat) : Int) - 1) * 1) ((xs.length / 2 : Nat) : Int) (-1) = ItRI (((xs.length / 2 : Nat) : Int) - 1) (-1) (xs.length / 2) 0 := by rw [ItRI.start]; congr 1; lia
  rw [e0]
  have hhl' : h < (H ++ [AO.rng 0 (xs.length / 2 : Nat) 1]).length := by rw [List.length_append]; lia
  refine FoI.less (m' := [(Str.ofString "x", .ref h)]) (FoI.inv (ItRI (((xs.length / 2 : Nat) : Int) - 1) (-1) (xs.length / 2)) (fun i m H' => m = [(Str.ofString "x", .ref h)] ∧ ∃ ys : List Nat, ys.length = xs.length ∧ (∀ t ∈ ys, t ∈ xs) ∧ hfyGo (fun a b => ltv val b a) (xs.length / 2 - i) ys = hfy (fun a b => ltv val b a) xs ∧
    H' = (H ++ [AO.rng 0 (xs.length / 2 : Nat) 1]).set h (.list (ys.map .ref))) (xs.length / 2) (fun _ => ItRI.pers) ?_ ?_ (xs.length / 2) 0 _ _ (by lia) (Nat.zero_le _) ⟨rfl, xs, rfl, fun _ ht => ht, rfl, ?_⟩) (SubL.sub ⟨rfl, trivial⟩)
  · rintro m' H' ⟨rfl, ys, hyl, hys, hgo, rfl⟩
    refine ⟨NxEnd.rngI, ?_⟩
    dsimp only
    rw [Nat.sub_self] at hgo
    exact Exs.nil (hq _ (by rw [← hgo]; rfl))
  · rintro i m' H' hi ⟨rfl, ys, hyl, hys, hgo, rfl⟩
    refine ⟨_, _, NxItem.rngI hi, As.name (Sn.local rfl ?_)⟩
    have ei : (((xs.length / 2 : Nat) : Int) - 1) + (i : Int) * -1 = ((xs.length / 2 - 1 - i : Nat) : Int) := by lia
    rw [ei]
    have es : xs.length / 2 - i = (xs.length / 2 - 1 - i) + 1 := by lia
    rw [es] at hgo
    have hhs := get_set_heap (a := .list (ys.map .ref)) hhl'
    have T' : Things ((H ++ [AO.rng 0 (xs.length / 2 : Nat) 1]).set h (.list (ys.map .ref))) val xs := by
      refine Things.set (fun t ht => ?_) hn _
      rw [List.getElem?_append_left (List.getElem?_eq_some_iff.mp (T t ht)).1]; exact T t ht
    refine Exs.cons (Ex.expr (callTop hK (by kernel_rfl) rfl (Evs.cons (Ev.var rfl (Evs.cons (Ev.var rfl (Evs.nil ?_)))))))
    refine siftup_max (pos := xs.length / 2 - 1 - i) (val := val) hK hhs (by lia) (by lia) (fun t ht => T' t (hys t ht)) (fun t ht => hn t (hys t ht)) ?_
    rw [set_same_heap]
    dsimp only
    refine Exs.nil ⟨.inl rfl, _, ?sub, rfl, su (fun a b => ltv val b a) ys (xs.length / 2 - 1 - i), by rw [su_length (by lia), hyl], fun t ht => hys t (su_mem (by lia) ht), ?_, rfl⟩
    case sub => exact ⟨rfl, trivial⟩
    have e3 : xs.length / 2 - (i + 1) = xs.length / 2 - 1 - i := by lia
    rw [e3]; exact hgo
  · exact (set_self (by rw [List.getElem?_append_left hhl]; exact hh)).symm
end Mine
end
section
open PySem PySem.W PyProof.Rows PySem.Calls
set_option maxRecDepth 100000
namespace Mine
variable {G : Gl} {k : Nat} {sc : Scope} {m : Vars} {H : List AO}

noncomputable def cmp3 (x y : Int) : Int := b2i (decide (y < x)) - b2i (decide (x < y))
theorem three_way_c (hK : TopIs G) {x y : Int} {Q : AV → List AO → Prop} (hq : Q (.int (cmp3 x y)) H) : Op G (k + 1) (callOf (.ref (G.adr (Str.ofString "three_way_cmp")))) [.int x, .int y] H Q := by
  have eF := Eq.refl (fnD 2)
  conv at eF => rhs; whnf
  obtain ⟨oF, pmF, cdF, docF, hmF, hoF, hdF, hcdF⟩ := hK.at (by kernel_rfl) eF
  dsimp only at hdF
  refine Op.doc hoF hdF hcdF (fun cvs h => ?_) (by decide) (by rfl) (by decide) (by decide) (by decide) ?_
  · obtain ⟨a, b, rfl⟩ := two_of h; rfl
  dsimp only
  repeat (first | (with_reducible first | refine Ev.cint ?_ | refine Ev.cstr ?_ | refine Ev.cbool ?_ | refine Ev.cnone ?_ | refine Ev.bin ?_ | refine Ev.una ?_ | refine Ts.not ?_ | refine Ts.bools ?_ | refine TsAll.and ?_ | refine TsAll.or ?_ | refine TsAll.andNil ?_ | refine TsAll.orNil ?_ | refine Tr.bool ?_ | refine As.sub ?_ | refine Evs.nil ?_ | refine Op.add ?_ | refine Op.sub ?_ | refine Op.iadd ?_ | refine Op.isub ?_ | refine Op.mul2 ?_ | refine Op.lt ?_ | refine Op.gt ?_ | refine Op.eq ?_ | refine Op.ne ?_ | refine Op.neg ?_ | refine Op.eqS ?_ | refine Op.neS ?_ | refine Ex.if ?_ | refine Ex.ret ?_ | refine Ex.brk ?_ | refine Ex.cont ?_ | refine Ev.ifx ?_ | refine Exs.cons ?_ | refine Exs.nil ?_) | refine Ev.var rfl ?_ | refine Ev.cmp ?_ | refine Ev.subL ?_ | refine Ts.cmp ?_ | refine As.name (Sn.local rfl ?_) | refine Evs.cons ?_ | refine Ex.assign ?_ | refine Ex.assign2 ?_ | refine Ex.expr ?_ | refine Ex.aug rfl rfl ?_)
  refine Op.subB ?_
  exact hq

noncomputable def lvI (x : Int) : Int := if ((x.fdiv 6).fmod 2 == 0) = true then x.fdiv 12 else (x.fdiv 12).fmod 3
theorem law_value_c (hK : TopIs G) {x : Int} {Q : AV → List AO → Prop} (hq : Q (.int (lvI x)) H) : Op G (k + 1) (callOf (.ref (G.adr (Str.ofString "_law_value")))) [.int x] H Q := by
  have eF := Eq.refl (fnD 18)
  conv at eF => rhs; whnf
  obtain ⟨oF, pmF, cdF, docF, hmF, hoF, hdF, hcdF⟩ := hK.at (by kernel_rfl) eF
  dsimp only at hdF
  refine Op.doc hoF hdF hcdF (fun cvs h => ?_) (by decide) (by rfl) (by decide) (by decide) (by decide) ?_
  · obtain ⟨a, rfl⟩ := one_of h; rfl
  dsimp only
  repeat (first | (with_reducible first | refine Ev.cint ?_ | refine Ev.cstr ?_ | refine Ev.cbool ?_ | refine Ev.cnone ?_ | refine Ev.bin ?_ | refine Ev.una ?_ | refine Ts.not ?_ | refine Ts.bools ?_ | refine TsAll.and ?_ | refine TsAll.or ?_ | refine TsAll.andNil ?_ | refine TsAll.orNil ?_ | refine Tr.bool ?_ | refine As.sub ?_ | refine Evs.nil ?_ | refine Op.add ?_ | refine Op.sub ?_ | refine Op.iadd ?_ | refine Op.isub ?_ | refine Op.mul2 ?_ | refine Op.lt ?_ | refine Op.gt ?_ | refine Op.eq ?_ | refine Op.ne ?_ | refine Op.neg ?_ | refine Op.eqS ?_ | refine Op.neS ?_ | refine Ex.if ?_ | refine Ex.ret ?_ | refine Ex.brk ?_ | refine Ex.cont ?_ | refine Ev.ifx ?_ | refine Exs.cons ?_ | refine Exs.nil ?_) | refine Ev.var rfl ?_ | refine Ev.cmp ?_ | refine Ev.subL ?_ | refine Ts.cmp ?_ | refine As.name (Sn.local rfl ?_) | refine Evs.cons ?_ | refine Ex.assign ?_ | refine Ex.assign2 ?_ | refine Ex.expr ?_ | refine Ex.aug rfl rfl ?_)
  refine Op.fdiv (by decide) (by decide) ?_
  repeat (first | (with_reducible first | refine Ev.cint ?_ | refine Ev.cstr ?_ | refine Ev.cbool ?_ | refine Ev.cnone ?_ | refine Ev.bin ?_ | refine Ev.una ?_ | refine Ts.not ?_ | refine Ts.bools ?_ | refine TsAll.and ?_ | refine TsAll.or ?_ | refine TsAll.andNil ?_ | refine TsAll.orNil ?_ | refine Tr.bool ?_ | refine As.sub ?_ | refine Evs.nil ?_ | refine Op.add ?_ | refine Op.sub ?_ | refine Op.iadd ?_ | refine Op.isub ?_ | refine Op.mul2 ?_ | refine Op.lt ?_ | refine Op.gt ?_ | refine Op.eq ?_ | refine Op.ne ?_ | refine Op.neg ?_ | refine Op.eqS ?_ | refine Op.neS ?_ | refine Ex.if ?_ | refine Ex.ret ?_ | refine Ex.brk ?_ | refine Ex.cont ?_ | refine Ev.ifx ?_ | refine Exs.cons ?_ | refine Exs.nil ?_) | refine Ev.var rfl ?_ | refine Ev.cmp ?_ | refine Ev.subL ?_ | refine Ts.cmp ?_ | refine As.name (Sn.local rfl ?_) | refine Evs.cons ?_ | refine Ex.assign ?_ | refine Ex.assign2 ?_ | refine Ex.expr ?_ | refine Ex.aug rfl rfl ?_)
  refine Op.mod (by decide) ?_
  repeat (first | (with_reducible first | refine Ev.cint ?_ | refine Ev.cstr ?_ | refine Ev.cbool ?_ | refine Ev.cnone ?_ | refine Ev.bin ?_ | refine Ev.una ?_ | refine Ts.not ?_ | refine Ts.bools ?_ | refine TsAll.and ?_ | refine TsAll.or ?_ | refine TsAll.andNil ?_ | refine TsAll.orNil ?_ | refine Tr.bool ?_ | refine As.sub ?_ | refine Evs.nil ?_ | refine Op.add ?_ | refine Op.sub ?_ | refine Op.iadd ?_ | refine Op.isub ?_ | refine Op.mul2 ?_ | refine Op.lt ?_ | refine Op.gt ?_ | refine Op.eq ?_ | refine Op.ne ?_ | refine Op.neg ?_ | refine Op.eqS ?_ | refine Op.neS ?_ | refine Ex.if ?_ | refine Ex.ret ?_ | refine Ex.brk ?_ | refine Ex.cont ?_ | refine Ev.ifx ?_ | refine Exs.cons ?_ | refine Exs.nil ?_) | refine Ev.var rfl ?_ | refine Ev.cmp ?_ | refine Ev.subL ?_ | refine Ts.cmp ?_ | refine As.name (Sn.local rfl ?_) | refine Evs.cons ?_ | refine Ex.assign ?_ | refine Ex.assign2 ?_ | refine Ex.expr ?_ | refine Ex.aug rfl rfl ?_)
  refine ⟨fun hb => ?_, fun hb => ?_⟩
  · repeat (first | (with_reducible first | refine Ev.cint ?_ | refine Ev.cstr ?_ | refine Ev.cbool ?_ | refine Ev.cnone ?_ | refine Ev.bin ?_ | refine Ev.una ?_ | refine Ts.not ?_ | refine Ts.bools ?_ | refine TsAll.and ?_ | refine TsAll.or ?_ | refine TsAll.andNil ?_ | refine TsAll.orNil ?_ | refine Tr.bool ?_ | refine As.sub ?_ | refine Evs.nil ?_ | refine Op.add ?_ | refine Op.sub ?_ | refine Op.iadd ?_ | refine Op.isub ?_ | refine Op.mul2 ?_ | refine Op.lt ?_ | refine Op.gt ?_ | refine Op.eq ?_ | refine Op.ne ?_ | refine Op.neg ?_ | refine Op.eqS ?_ | refine Op.neS ?_ | refine Ex.if ?_ | refine Ex.ret ?_ | refine Ex.brk ?_ | refine Ex.cont ?_ | refine Ev.ifx ?_ | refine Exs.cons ?_ | refine Exs.nil ?_) | refine Ev.var rfl ?_ | refine Ev.cmp ?_ | refine Ev.subL ?_ | refine Ts.cmp ?_ | refine As.name (Sn.local rfl ?_) | refine Evs.cons ?_ | refine Ex.assign ?_ | refine Ex.assign2 ?_ | refine Ex.expr ?_ | refine Ex.aug rfl rfl ?_)
    refine Op.fdiv (by decide) (by decide) ?_
    have e : lvI x = x.fdiv 12 := by unfold lvI; rw [if_pos hb]
    rw [← e]; exact hq
  · repeat (first | (with_reducible first | refine Ev.cint ?_ | refine Ev.cstr ?_ | refine Ev.cbool ?_ | refine Ev.cnone ?_ | refine Ev.bin ?_ | refine Ev.una ?_ | refine Ts.not ?_ | refine Ts.bools ?_ | refine TsAll.and ?_ | refine TsAll.or ?_ | refine TsAll.andNil ?_ | refine TsAll.orNil ?_ | refine Tr.bool ?_ | refine As.sub ?_ | refine Evs.nil ?_ | refine Op.add ?_ | refine Op.sub ?_ | refine Op.iadd ?_ | refine Op.isub ?_ | refine Op.mul2 ?_ | refine Op.lt ?_ | refine Op.gt ?_ | refine Op.eq ?_ | refine Op.ne ?_ | refine Op.neg ?_ | refine Op.eqS ?_ | refine Op.neS ?_ | refine Ex.if ?_ | refine Ex.ret ?_ | refine Ex.brk ?_ | refine Ex.cont ?_ | refine Ev.ifx ?_ | refine Exs.cons ?_ | refine Exs.nil ?_) | refine Ev.var rfl ?_ | refine Ev.cmp ?_ | refine Ev.subL ?_ | refine Ts.cmp ?_ | refine As.name (Sn.local rfl ?_) | refine Evs.cons ?_ | refine Ex.assign ?_ | refine Ex.assign2 ?_ | refine Ex.expr ?_ | refine Ex.aug rfl rfl ?_)
    refine Op.fdiv (by decide) (by decide) ?_
    repeat (first | (with_reducible first | refine Ev.cint ?_ | refine Ev.cstr ?_ | refine Ev.cbool ?_ | refine Ev.cnone ?_ | refine Ev.bin ?_ | refine Ev.una ?_ | refine Ts.not ?_ | refine Ts.bools ?_ | refine TsAll.and ?_ | refine TsAll.or ?_ | refine TsAll.andNil ?_ | refine TsAll.orNil ?_ | refine Tr.bool ?_ | refine As.sub ?_ | refine Evs.nil ?_ | refine Op.add ?_ | refine Op.sub ?_ | refine Op.iadd ?_ | refine Op.isub ?_ | refine Op.mul2 ?_ | refine Op.lt ?_ | refine Op.gt ?_ | refine Op.eq ?_ | refine Op.ne ?_ | refine Op.neg ?_ | refine Op.eqS ?_ | refine Op.neS ?_ | refine Ex.if ?_ | refine Ex.ret ?_ | refine Ex.brk ?_ | refine Ex.cont ?_ | refine Ev.ifx ?_ | refine Exs.cons ?_ | refine Exs.nil ?_) | refine Ev.var rfl ?_ | refine Ev.cmp ?_ | refine Ev.subL ?_ | refine Ts.cmp ?_ | refine As.name (Sn.local rfl ?_) | refine Evs.cons ?_ | refine Ex.assign ?_ | refine Ex.assign2 ?_ | refine Ex.expr ?_ | refine Ex.aug rfl rfl ?_)
    refine Op.mod (by decide) ?_
    have e : lvI x = (x.fdiv 12).fmod 3 := by unfold lvI; rw [hb]; rfl
    rw [← e]; exact hq

theorem cut_len {α : Type} (xs : List α) (lo hi : Option Int) : (cutL xs lo hi).length ≤ xs.length := by
  unfold cutL
  rw [List.length_take, List.length_drop]
  exact Nat.le_trans (Nat.min_le_right _ _) (Nat.sub_le _ _)
theorem fmod_nat {i n : Nat} : ((i : Int).fmod n) = ((i % n : Nat) : Int) := by
  rw [Int.fmod_eq_emod_of_nonneg _ (Int.natCast_nonneg n)]; rfl
theorem set_append_r {l : List AO} {r : Nat} {a : AO} (h : H.length ≤ r) : (H ++ l).set r a = H ++ l.set (r - H.length) a := List.set_append_right _ _ h

set_option maxHeartbeats 1000000 in
theorem law_row_c (hK : TopIs G) {a : Addr} {ns : List Int} {vs : List Value} (hl : G.h₀.IsList a vs.toArray) (hi : IntsAre vs ns) (hlen : ns.length ≤ 63) {Q : AV → List AO → Prop}
    (hq : ∀ (r : Nat) (l : List AO) (rs : List Int), (H ++ l)[r]? = some (.list (rs.map .int)) → 4 ≤ rs.length → rs.length ≤ 7 → Q (.ref r) (H ++ l)) : Op G (k + 1) (callOf (.ref (G.adr (Str.ofString "_law_row")))) [.con (.ref a)] H Q := by
  have eF := Eq.refl (fnD 17)
  conv at eF => rhs; whnf
  obtain ⟨oF, pmF, cdF, docF, hmF, hoF, hdF, hcdF⟩ := hK.at (by kernel_rfl) eF
  dsimp only at hdF
  refine Op.doc hoF hdF hcdF (fun cvs h => ?_) (by decide) (by rfl) (by decide) (by decide) (by decide) ?_
  · obtain ⟨a, rfl⟩ := one_of h; rfl
  dsimp only
  refine Exs.cons (Ex.assign (Ev.bin (Ev.list ?_)))
  repeat (first | (with_reducible first | refine Ev.cint ?_ | refine Ev.cstr ?_ | refine Ev.cbool ?_ | refine Ev.cnone ?_ | refine Ev.bin ?_ | refine Ev.una ?_ | refine Ts.not ?_ | refine Ts.bools ?_ | refine TsAll.and ?_ | refine TsAll.or ?_ | refine TsAll.andNil ?_ | refine TsAll.orNil ?_ | refine Tr.bool ?_ | refine As.sub ?_ | refine Evs.nil ?_ | refine Op.add ?_ | refine Op.sub ?_ | refine Op.iadd ?_ | refine Op.isub ?_ | refine Op.mul2 ?_ | refine Op.lt ?_ | refine Op.gt ?_ | refine Op.eq ?_ | refine Op.ne ?_ | refine Op.neg ?_ | refine Op.eqS ?_ | refine Op.neS ?_ | refine Ex.if ?_ | refine Ex.ret ?_ | refine Ex.brk ?_ | refine Ex.cont ?_ | refine Ev.ifx ?_) | refine Ev.var rfl ?_ | refine Ev.cmp ?_ | refine Ev.subL ?_ | refine Ts.cmp ?_ | refine As.name (Sn.local rfl ?_) | refine Evs.cons ?_ | refine Ex.assign ?_ | refine Ex.assign2 ?_ | refine Ex.expr ?_ | refine Ex.aug rfl rfl ?_)
  refine ⟨by simp, ?_⟩
  refine callTy (hK.no (by kernel_rfl)) boot_list' rfl (Evs.cons (Ev.sliceC hl hi (by lia) (Ev.var rfl ?_)))
  show EvO _ _ _ _ _ _ _
  show Ev _ _ _ _ _ _ _
  refine Ev.cint ⟨3, rfl, rfl, Evs.nil ?_⟩
  refine Op.listL List.getElem?_concat_length ?_ ?_
  · rw [List.length_map]; exact Nat.le_trans (cut_len _ _ _) (Nat.le_trans hlen (by decide))
  refine Op.catL (j := H.length) (xs := [.int 50, .int 3, .int 28, .int 17]) ?_ List.getElem?_concat_length (by simp) ?_ ?_
  · simp
  · rw [List.length_map]; exact Nat.le_trans (cut_len _ _ _) (Nat.le_trans hlen (by decide))
  repeat (first | (with_reducible first | refine Ev.cint ?_ | refine Ev.cstr ?_ | refine Ev.cbool ?_ | refine Ev.cnone ?_ | refine Ev.bin ?_ | refine Ev.una ?_ | refine Ts.not ?_ | refine Ts.bools ?_ | refine TsAll.and ?_ | refine TsAll.or ?_ | refine TsAll.andNil ?_ | refine TsAll.orNil ?_ | refine Tr.bool ?_ | refine As.sub ?_ | refine Evs.nil ?_ | refine Op.add ?_ | refine Op.sub ?_ | refine Op.iadd ?_ | refine Op.isub ?_ | refine Op.mul2 ?_ | refine Op.lt ?_ | refine Op.gt ?_ | refine Op.eq ?_ | refine Op.ne ?_ | refine Op.neg ?_ | refine Op.eqS ?_ | refine Op.neS ?_ | refine Ex.if ?_ | refine Ex.ret ?_ | refine Ex.brk ?_ | refine Ex.cont ?_ | refine Ev.ifx ?_) | refine Ev.var rfl ?_ | refine Ev.cmp ?_ | refine Ev.subL ?_ | refine Ts.cmp ?_ | refine As.name (Sn.local rfl ?_) | refine Evs.cons ?_ | refine Ex.assign ?_ | refine Ex.assign2 ?_ | refine Ex.expr ?_ | refine Ex.aug rfl rfl ?_)
  dsimp only
  -- the row lies at H.length + 3
  obtain ⟨r0, hr0⟩ : ∃ r0, r0 = H.length + 3 := ⟨_, rfl⟩
  have hcut : ∀ lo hi', (cutL ns lo hi').length ≤ 63 := fun lo hi' => Nat.le_trans (cut_len _ _ _) hlen
  have hcut3 : (cutL ns none (some 3)).length ≤ 3 := by
    unfold cutL
    have : (sliceBounds none (some 3) none ns.length).2.1.toNat ≤ 3 := by unfold sliceBounds; simp; lia
    rw [List.length_take]; lia
  have erow : [AV.int 50, .int 3, .int 28, .int 17] ++ (cutL ns none (some 3)).map AV.int = (([50, 3, 28, 17] : List Int) ++ cutL ns none (some 3)).map AV.int := by simp
  rw [erow]
  generalize hrs0 : ([50, 3, 28, 17] : List Int) ++ cutL ns none (some 3) = rs0
  have hl4 : 4 ≤ rs0.length := by rw [← hrs0]; simp
  have hl7 : rs0.length ≤ 7 := by rw [← hrs0]; simp; lia
  generalize hH1 : (((H ++ [AO.list [.int 50, .int 3, .int 28, .int 17]]) ++ [AO.list ((cutL ns none (some 3)).map .int)]) ++ [AO.list ((cutL ns none (some 3)).map .int)]) ++ [AO.list (rs0.map .int)] = H1
  have hH1l : ∃ l, H1 = H ++ l ∧ l.length = 4 := ⟨[AO.list [.int 50, .int 3, .int 28, .int 17], AO.list ((cutL ns none (some 3)).map .int), AO.list ((cutL ns none (some 3)).map .int), AO.list (rs0.map .int)], by rw [← hH1]; simp, rfl⟩
  have hr : H1[r0]? = some (AO.list (rs0.map .int)) := by rw [← hH1, hr0]; simp
  have er : (((H ++ [AO.list [.int 50, .int 3, .int 28, .int 17]]) ++ [AO.list ((cutL ns none (some 3)).map .int)]) ++ [AO.list ((cutL ns none (some 3)).map .int)]).length = r0 := by rw [hr0]; simp
  rw [er]
  obtain ⟨l1, rfl, hl1⟩ := hH1l
  refine Exs.cons (Ex.for (ItNew.enum (hK.no (by kernel_rfl)) rfl (Ev.sliceC hl hi (by lia) (Ev.var rfl ?_))))
  show Ev _ _ _ _ _ _ _
  refine Ev.cint ⟨3, rfl, ?_⟩
  show Ev _ _ _ _ _ _ _
  refine Ev.cint ⟨24, rfl, rfl, _, _, rfl, List.getElem?_concat_length, ?_⟩
  generalize hcs : cutL ns (some 3) (some 24) = cs
  refine FoI.less (m' := [(Str.ofString "row", .ref r0)]) (FoI.inv (ItE (H ++ l1).length) (fun i m' H' => m' = [(Str.ofString "row", .ref r0)] ∧ ∃ (l : List AO) (rs : List Int), H' = H ++ l ∧ 4 ≤ l.length ∧ rs.length = rs0.length ∧ H'[r0]? = some (AO.list (rs.map .int)) ∧
    H'[(H ++ l1).length]? = some (AO.list (cs.map .int))) cs.length (fun _ => ItE.pers) ?_ ?_ cs.length 0 _ _ (by lia) (Nat.zero_le _) ⟨rfl, l1 ++ [AO.list (cs.map .int)], rs0, by simp, by simp; lia, rfl, ?_, List.getElem?_concat_length⟩) (SubL.sub ⟨rfl, trivial⟩)
  · rintro m' H' ⟨rfl, l, rs, rfl, h4, hrl, hrs, hcl⟩
    refine ⟨NxEnd.enum hcl (by simp), ?_⟩
    dsimp only
    refine Exs.cons (Ex.ret (Ev.var rfl ?_))
    exact hq r0 l rs hrs (by lia) (by lia)
  · rintro i m' H' hi' ⟨rfl, l, rs, rfl, h4, hrl, hrs, hcl⟩
    refine ⟨_, _, NxItem.enum hcl (by rw [List.getElem?_map, List.getElem?_eq_getElem hi']; rfl), As.tupT List.getElem?_concat_length rfl tup_names ?_⟩
    show As G k _ _ _ _ _ _
    refine As.name (Sn.local rfl ?_)
    show As G k _ _ _ _ _ _
    refine As.name (Sn.local rfl ?_)
    have hr1 : (H ++ l ++ [AO.tup [.int (i : Int), .int cs[i]]])[r0]? = some (AO.list (rs.map .int)) := getElem?_ext hrs
    have hlt : (((i : Nat) : Int).fmod rs.length) = ((i % rs.length : Nat) : Int) := fmod_nat
    have hmod : i % rs.length < rs.length := Nat.mod_lt _ (by lia)
    refine Exs.cons (Ex.augSub (Ev.var rfl (Ev.bin (Ev.var rfl (callBi (hK.no (by kernel_rfl)) boot_len' rfl (Evs.cons (Ev.var rfl (Evs.nil (Op.lenL hr1 (by simp; lia) ?_)))))))))
    rw [List.length_map]
    refine Op.mod (by lia) ?_
    rw [hlt]
    refine Op.getL hr1 (by simp; lia) (.inl ⟨by lia, by rw [Int.toNat_natCast, List.getElem?_map, List.getElem?_eq_getElem hmod]; rfl⟩) ?_
    refine Ev.var rfl (Op.iadd (OpU.setL hr1 (by simp; lia) (by lia) (by simp; lia) ?_))
    rw [Int.toNat_natCast]
    dsimp only
    refine Exs.nil ⟨.inl rfl, _, ?sub, rfl, (l ++ [AO.tup [.int (i : Int), .int cs[i]]]).set (r0 - H.length) (.list ((rs.set (i % rs.length) (rs[i % rs.length] + cs[i])).map .int)), rs.set (i % rs.length) (rs[i % rs.length] + cs[i]), ?_, by simp; lia, by rw [List.length_set, hrl], ?_, ?_⟩
    case sub => exact ⟨rfl, trivial⟩
    · rw [List.append_assoc, set_append_r (by lia), List.map_set]
    · rw [List.getElem?_set_self (by have := (List.getElem?_eq_some_iff.mp hr1).1; exact this), List.map_set]
    · rw [List.getElem?_set_ne (by have := (List.getElem?_eq_some_iff.mp hr).1; lia)]
      exact getElem?_ext hcl
  · exact getElem?_ext hr
end Mine
end
section
open PySem PySem.W PyProof.Rows PySem.Calls
set_option maxRecDepth 100000
namespace Mine
variable {G : Gl} {k : Nat} {sc : Scope} {m : Vars} {H : List AO}

noncomputable def ItGI (G : Gl) (us : Un) : Nat → ItP
  | 0 => ItG0 G us
  | i + 1 => ItG G us (i + 1)
theorem ItGI.pers {us : Un} : ∀ i, Pers G (ItGI G us i)
  | 0 => ItG0.pers
  | _ + 1 => ItG.pers
theorem NxItem.genI {target : Expr} {us : Un} {p : Nat} {u : Str} (ht : ∀ A I T n s (Q : Unit → Shared → Prop), s.heap.IsGen I n → Q () s → wpAny G.M A (letOwnedTupleGo target (.ref I) (.ref T)) Q NoE s) : ∀ {i : Nat}, us[i]? = some (p, u) → NxItem G k target (ItGI G us i) (ItGI G us (i + 1)) H (H ++ [.tup [.int p, .str u]]) (.ref H.length)
  | 0, h => NxItem.gen0 h ht
  | _ + 1, h => NxItem.gen h ht
theorem NxEnd.genI {us : Un} (h : 0 < us.length) : NxEnd G k (ItGI G us us.length) H := by
  obtain ⟨n, hn⟩ : ∃ n, us.length = n + 1 := ⟨us.length - 1, by lia⟩
  rw [hn]
  exact NxEnd.gen (by lia)

/- the strip's pure twin -/
structure SSt where
  start : Nat
  opn : Option Nat
  res : List Str
noncomputable def sStep (x : Str) (st : SSt) (pu : Nat × Str) : SSt :=
  if (pu.2 == Str.ofString "\"") = true then
    match st.opn with
    | none => { st with opn := some pu.1 }
    | some o => { start := pu.1 + 1, opn := none, res := if ((st.start : Int) != (o : Int)) = true then st.res ++ [Txt.slice x (some (st.start : Int)) (some (o : Int))] else st.res }
  else st
noncomputable def sEnd (x : Str) (st : SSt) : List Str := if st.start < x.length then st.res ++ [Txt.slice x (some (st.start : Int)) none] else st.res
noncomputable def strip (x : Str) : Str :=
  if (!Txt.contains x (Str.ofString "\"")) = true then x else Txt.join (Str.ofString "") (sEnd x ((units x).foldl (sStep x) ⟨0, none, []⟩))

theorem slice_len (x : Str) (lo hi : Option Int) : (Txt.slice x lo hi).length ≤ x.length := by
  have hsl : Txt.slice x lo hi = if ((1 : Int) == 1 && (PySem.Builtin.Str.strSliceIndices lo hi 1 x.length).length == x.length) = true then x else ⟨((PySem.Builtin.Str.strSliceIndices lo hi 1 x.length).filterMap (x.cps[·]?)).toArray⟩ := rfl
  rw [hsl]
  split
  · exact Nat.le_refl _
  · show ((PySem.Builtin.Str.strSliceIndices lo hi 1 x.length).filterMap (x.cps[·]?)).toArray.size ≤ _
    rw [List.size_toArray]
    exact Nat.le_trans (List.length_filterMap_le _ _) (sliceIndices_le lo hi x.length)
theorem unitsG_len : ∀ (cs : List Nat) (i : Nat) (b : Bool), (unitsG cs i b).length ≤ cs.length
  | [], _, _ => Nat.le_refl _
  | c :: cs, i, true => by rw [unitsG]; simp; exact unitsG_len cs _ _
  | c :: cs, i, false => by
    rw [unitsG]
    split
    · have := unitsG_len cs (i + 1) true; simp; lia
    · simp; exact unitsG_len cs _ _
noncomputable def optAV : Option Nat → AV
  | none => .none
  | some o => .int o
noncomputable def SOk (x : Str) (i : Nat) (st : SSt) : Prop := st.res.length ≤ i ∧ ∀ y ∈ st.res, y.length ≤ x.length
theorem SOk.step {x : Str} {i : Nat} {st : SSt} {pu : Nat × Str} (h : SOk x i st) : SOk x (i + 1) (sStep x st pu) := by
  unfold sStep
  split
  · split
    · exact ⟨by have := h.1; show st.res.length ≤ _; lia, h.2⟩
    · rename_i o _
      by_cases q : ((st.start : Int) != (o : Int)) = true
      · simp only [q, if_true]
        refine ⟨by have := h.1; simp; lia, fun y hy => ?_⟩
        rcases List.mem_append.mp hy with r | r
        · exact h.2 y r
        · simp at r; rw [r]; exact slice_len _ _ _
      · simp only [q, if_false]
        exact ⟨by have := h.1; show st.res.length ≤ _; lia, h.2⟩
  · exact ⟨by have := h.1; lia, h.2⟩
theorem sum_len {n : Nat} : ∀ {ys : List Str}, (∀ y ∈ ys, y.length ≤ n) → (ys.map (·.length)).sum ≤ ys.length * n
  | [], _ => by simp
  | y :: ys, h => by
    have h1 := h y (.head _)
    have h2 := sum_len (ys := ys) fun z hz => h z (.tail _ hz)
    rw [List.map_cons, List.sum_cons, List.length_cons, Nat.add_mul]; lia

set_option maxHeartbeats 1000000 in
theorem strip_c (hK : TopIs G) {x : Str} {Q : AV → List AO → Prop} (hok : okE x.cps.toList false = true) (hne : 0 < (units x).length) (hlen : x.length ≤ 200) (hq : ∀ l, Q (.str (strip x)) (H ++ l)) : Op G (k + 2) (callOf (.ref (G.adr (Str.ofString "_strip_quoted_realnames")))) [.str x] H Q := by
  have eF := Eq.refl (fnD 5)
  conv at eF => rhs; whnf
  obtain ⟨oF, pmF, cdF, docF, hmF, hoF, hdF, hcdF⟩ := hK.at (by kernel_rfl) eF
  dsimp only at hdF
  refine Op.doc hoF hdF hcdF (fun cvs h => ?_) (by decide) (by rfl) (by decide) (by decide) (by decide) ?_
  · obtain ⟨a, rfl⟩ := one_of h; rfl
  dsimp only
  refine Exs.cons (Ex.if (Ts.cmp (Ev.cstr (Ev.var rfl (Op.notInS (Tr.bool ⟨fun hb => ?_, fun hb => ?_⟩))))))
  · refine Exs.cons (Ex.ret (Ev.var rfl ?_))
    have e : strip x = x := by unfold strip; rw [if_pos hb]
    have z := hq []
    rw [e, List.append_nil] at z; exact z
  refine Exs.nil ?_
  dsimp only
  repeat (first | (with_reducible first | refine Ev.cint ?_ | refine Ev.cstr ?_ | refine Ev.cbool ?_ | refine Ev.cnone ?_ | refine Ev.bin ?_ | refine Ev.una ?_ | refine Ts.not ?_ | refine Ts.bools ?_ | refine TsAll.and ?_ | refine TsAll.or ?_ | refine TsAll.andNil ?_ | refine TsAll.orNil ?_ | refine Tr.bool ?_ | refine As.sub ?_ | refine Evs.nil ?_ | refine Op.add ?_ | refine Op.sub ?_ | refine Op.iadd ?_ | refine Op.isub ?_ | refine Op.mul2 ?_ | refine Op.lt ?_ | refine Op.gt ?_ | refine Op.eq ?_ | refine Op.ne ?_ | refine Op.neg ?_ | refine Op.eqS ?_ | refine Op.neS ?_ | refine Ex.if ?_ | refine Ex.ret ?_ | refine Ex.brk ?_ | refine Ex.cont ?_ | refine Ev.ifx ?_ | refine Exs.cons ?_ | refine Exs.nil ?_) | refine Ev.var rfl ?_ | refine Ev.cmp ?_ | refine Ev.subL ?_ | refine Ts.cmp ?_ | refine As.name (Sn.local rfl ?_) | refine Evs.cons ?_ | refine Ex.assign ?_ | refine Ex.assign2 ?_ | refine Ex.expr ?_ | refine Ex.aug rfl rfl ?_)
  refine Ev.list ?_
  repeat (first | (with_reducible first | refine Ev.cint ?_ | refine Ev.cstr ?_ | refine Ev.cbool ?_ | refine Ev.cnone ?_ | refine Ev.bin ?_ | refine Ev.una ?_ | refine Ts.not ?_ | refine Ts.bools ?_ | refine TsAll.and ?_ | refine TsAll.or ?_ | refine TsAll.andNil ?_ | refine TsAll.orNil ?_ | refine Tr.bool ?_ | refine As.sub ?_ | refine Evs.nil ?_ | refine Op.add ?_ | refine Op.sub ?_ | refine Op.iadd ?_ | refine Op.isub ?_ | refine Op.mul2 ?_ | refine Op.lt ?_ | refine Op.gt ?_ | refine Op.eq ?_ | refine Op.ne ?_ | refine Op.neg ?_ | refine Op.eqS ?_ | refine Op.neS ?_ | refine Ex.if ?_ | refine Ex.ret ?_ | refine Ex.brk ?_ | refine Ex.cont ?_ | refine Ev.ifx ?_) | refine Ev.var rfl ?_ | refine Ev.cmp ?_ | refine Ev.subL ?_ | refine Ts.cmp ?_ | refine As.name (Sn.local rfl ?_) | refine Evs.cons ?_ | refine Ex.assign ?_ | refine Ex.assign2 ?_ | refine Ex.expr ?_ | refine Ex.aug rfl rfl ?_)
  refine ⟨by simp, ?_⟩
  repeat (first | (with_reducible first | refine Ev.cint ?_ | refine Ev.cstr ?_ | refine Ev.cbool ?_ | refine Ev.cnone ?_ | refine Ev.bin ?_ | refine Ev.una ?_ | refine Ts.not ?_ | refine Ts.bools ?_ | refine TsAll.and ?_ | refine TsAll.or ?_ | refine TsAll.andNil ?_ | refine TsAll.orNil ?_ | refine Tr.bool ?_ | refine As.sub ?_ | refine Evs.nil ?_ | refine Op.add ?_ | refine Op.sub ?_ | refine Op.iadd ?_ | refine Op.isub ?_ | refine Op.mul2 ?_ | refine Op.lt ?_ | refine Op.gt ?_ | refine Op.eq ?_ | refine Op.ne ?_ | refine Op.neg ?_ | refine Op.eqS ?_ | refine Op.neS ?_ | refine Ex.if ?_ | refine Ex.ret ?_ | refine Ex.brk ?_ | refine Ex.cont ?_ | refine Ev.ifx ?_) | refine Ev.var rfl ?_ | refine Ev.cmp ?_ | refine Ev.subL ?_ | refine Ts.cmp ?_ | refine As.name (Sn.local rfl ?_) | refine Evs.cons ?_ | refine Ex.assign ?_ | refine Ex.assign2 ?_ | refine Ex.expr ?_ | refine Ex.aug rfl rfl ?_)
  dsimp only
  refine Exs.cons (Ex.for (ItNew.chars hK rfl (Ev.var rfl ⟨x, rfl, hok, ?_⟩)))
  have hul : (units x).length ≤ 200 := Nat.le_trans (unitsG_len _ _ _) (by have h : x.cps.size ≤ 200 := hlen; simpa using h)
  refine FoI.less (m' := [(Str.ofString "addr", .str x), (Str.ofString "start", .int 0), (Str.ofString "open_pos", .none), (Str.ofString "result", .ref H.length)])
    (FoI.inv (ItGI G (units x)) (fun i m' H' => ∃ (st : SSt) (l : List AO), m' = [(Str.ofString "addr", .str x), (Str.ofString "start", .int st.start), (Str.ofString "open_pos", optAV st.opn), (Str.ofString "result", .ref H.length)] ∧
      H' = H ++ AO.list (st.res.map .str) :: l ∧ SOk x i st ∧ ((units x).drop i).foldl (sStep x) st = (units x).foldl (sStep x) ⟨0, none, []⟩) (units x).length ItGI.pers ?_ ?_ (units x).length 0 _ _ (by lia) (Nat.zero_le _)
      ⟨⟨0, none, []⟩, [], rfl, rfl, ⟨Nat.le_refl _, fun _ h => by cases h⟩, rfl⟩) (SubL.sub ⟨rfl, rfl, rfl, rfl, trivial⟩)
  · rintro m' H' ⟨st, l, rfl, rfl, hs, hfo⟩
    refine ⟨NxEnd.genI hne, ?_⟩
    rw [List.drop_length] at hfo
    have hfo' : st = (units x).foldl (sStep x) ⟨0, none, []⟩ := hfo
    have hres : (H ++ AO.list (st.res.map .str) :: l)[H.length]? = some (AO.list (st.res.map .str)) := by simp
    have est : strip x = Txt.join (Str.ofString "") (sEnd x st) := by unfold strip; rw [hb, ← hfo']; rfl
    dsimp only
    have fin : ∀ (ys : List Str) (m'' : Vars) (l' : List AO), ys = sEnd x st → ys.length ≤ 201 → (∀ y ∈ ys, y.length ≤ x.length) → Op G (k + 1) (callOf (.builtin "str.join")) [.str (Str.ofString ""), .ref H.length] (H ++ AO.list (ys.map .str) :: l') fun v H'' => Q v H'' := by
      intro ys m'' l' hys hyl hyy
      refine Op.join (ys := ys) (by simp) ?_ ?_
      · have h1 := sum_len hyy
        have h2 : ys.length * x.length ≤ 201 * 200 := Nat.mul_le_mul hyl hlen
        have h3 : (Str.ofString "").length = 0 := by decide
        rw [h3]; lia
      · rw [hys, ← est]; exact hq _
    refine Exs.cons (Ex.if (Ts.cmp (Ev.var rfl (callBi (hK.no (by kernel_rfl)) boot_len' rfl (Evs.cons (Ev.var rfl (Evs.nil (Op.lenS (by lia) (Op.lt (Tr.bool ⟨fun hb2 => ?_, fun hb2 => ?_⟩))))))))))
    · have hlt : st.start < x.length := by simpa using hb2
      refine Exs.cons (Ex.expr (Ev.meth1 PySem.F.plainAttrs_list PySem.F.slot_list_append PySem.F.type_list_append (Ev.var rfl ⟨kind_list hres, Evs.cons (Ev.sliceS (Ev.var rfl ?_))⟩)))
      show Ev _ _ _ _ _ _ _
      refine Ev.var rfl ⟨st.start, rfl, x, rfl, by lia, Evs.nil ?_⟩
      refine Op.append hres (by have := hs.1; simp; lia) ?_
      dsimp only
      refine Exs.nil (Exs.cons (Ex.ret (Ev.meth1 PySem.F.plainAttrs_str PySem.F.slot_str_join PySem.F.type_str_join (Ev.cstr ⟨rfl, Evs.cons (Ev.var rfl (Evs.nil ?_))⟩))))
      have e1 : (H ++ AO.list (st.res.map .str) :: l).set H.length (.list (st.res.map .str ++ [.str (Txt.slice x (some (st.start : Int)) none)])) = H ++ AO.list ((sEnd x st).map .str) :: l := by
        rw [List.set_append_right _ _ (Nat.le_refl _), Nat.sub_self]
        unfold sEnd; rw [if_pos hlt]; simp
      rw [e1]
      refine fin (sEnd x st) [] l rfl ?_ ?_
      · unfold sEnd; rw [if_pos hlt]; have := hs.1; simp; lia
      · unfold sEnd; rw [if_pos hlt]
        intro y hy
        rcases List.mem_append.mp hy with q | q
        · exact hs.2 y q
        · simp at q; rw [q]; exact slice_len _ _ _
    · have hge : ¬ st.start < x.length := by simpa using hb2
      refine Exs.nil (Exs.cons (Ex.ret (Ev.meth1 PySem.F.plainAttrs_str PySem.F.slot_str_join PySem.F.type_str_join (Ev.cstr ⟨rfl, Evs.cons (Ev.var rfl (Evs.nil ?_))⟩))))
      have e1 : sEnd x st = st.res := by unfold sEnd; rw [if_neg hge]
      exact fin st.res [] l e1.symm (by have := hs.1; lia) hs.2
  · rintro i m' H' hi' ⟨st, l, rfl, rfl, hs, hfo⟩
    obtain ⟨p, u, hpu⟩ : ∃ p u, (units x)[i] = (p, u) := ⟨_, _, rfl⟩
    have hget : (units x)[i]? = some (p, u) := by rw [List.getElem?_eq_getElem hi', hpu]
    rw [List.drop_eq_getElem_cons hi', List.foldl_cons, hpu] at hfo
    refine ⟨_, _, NxItem.genI (fun _ _ _ _ _ _ h1 h2 => lotg_gen h1 h2) hget, As.tupT List.getElem?_concat_length rfl tup_names ?_⟩
    show As G (k + 1) _ _ _ _ _ _
    refine As.name (Sn.local rfl ?_)
    show As G (k + 1) _ _ _ _ _ _
    refine As.name (Sn.local rfl ?_)
    have hres : (H ++ AO.list (st.res.map .str) :: l ++ [AO.tup [.int (p : Int), .str u]])[H.length]? = some (AO.list (st.res.map .str)) := by simp
    have eH : ∀ (ys : List Str), H ++ AO.list (ys.map .str) :: l ++ [AO.tup [.int (p : Int), .str u]] = H ++ AO.list (ys.map .str) :: (l ++ [AO.tup [.int (p : Int), .str u]]) := fun ys => by simp
    refine Exs.cons (Ex.if (Ts.cmp (Ev.var rfl (Ev.cstr (Op.eqS (Tr.bool ⟨fun hb2 => ?_, fun hb2 => ?_⟩))))))
    · rcases ho : st.opn with _ | o
      · refine Exs.cons (Ex.if (Ts.cmp (Ev.var rfl (Ev.cnone (Op.isNone (Tr.bool ⟨fun _ => ?_, fun q => (Bool.false_ne_true q.symm).elim⟩))))))
        repeat (first | (with_reducible first | refine Ev.cint ?_ | refine Ev.cstr ?_ | refine Ev.cbool ?_ | refine Ev.cnone ?_ | refine Ev.bin ?_ | refine Ev.una ?_ | refine Ts.not ?_ | refine Ts.bools ?_ | refine TsAll.and ?_ | refine TsAll.or ?_ | refine TsAll.andNil ?_ | refine TsAll.orNil ?_ | refine Tr.bool ?_ | refine As.sub ?_ | refine Evs.nil ?_ | refine Op.add ?_ | refine Op.sub ?_ | refine Op.iadd ?_ | refine Op.isub ?_ | refine Op.mul2 ?_ | refine Op.lt ?_ | refine Op.gt ?_ | refine Op.eq ?_ | refine Op.ne ?_ | refine Op.neg ?_ | refine Op.eqS ?_ | refine Op.neS ?_ | refine Ex.if ?_ | refine Ex.ret ?_ | refine Ex.brk ?_ | refine Ex.cont ?_ | refine Ev.ifx ?_ | refine Exs.cons ?_ | refine Exs.nil ?_) | refine Ev.var rfl ?_ | refine Ev.cmp ?_ | refine Ev.subL ?_ | refine Ts.cmp ?_ | refine As.name (Sn.local rfl ?_) | refine Evs.cons ?_ | refine Ex.assign ?_ | refine Ex.assign2 ?_ | refine Ex.expr ?_ | refine Ex.aug rfl rfl ?_)
        have e : sStep x st (p, u) = ⟨st.start, some p, st.res⟩ := by unfold sStep; rw [if_pos hb2, ho]
        refine ⟨.inl rfl, _, ?sub, sStep x st (p, u), l ++ [AO.tup [.int (p : Int), .str u]], rfl, ?_, hs.step, hfo⟩
        case sub => rw [e]; exact ⟨rfl, rfl, rfl, rfl, trivial⟩
        rw [e]; exact eH st.res
      · refine Exs.cons (Ex.if (Ts.cmp (Ev.var rfl (Ev.cnone (Op.isNoneInt (Tr.bool ⟨fun q => (Bool.false_ne_true q).elim, fun _ => ?_⟩))))))
        refine Exs.cons (Ex.if (Ts.cmp (Ev.var rfl (Ev.var rfl (Op.ne (Tr.bool ⟨fun hb3 => ?_, fun hb3 => ?_⟩))))))
        · refine Exs.cons (Ex.expr (Ev.meth1 PySem.F.plainAttrs_list PySem.F.slot_list_append PySem.F.type_list_append (Ev.var rfl ⟨kind_list hres, Evs.cons (Ev.sliceS (Ev.var rfl ?_))⟩)))
          show Ev _ _ _ _ _ _ _
          refine Ev.var rfl ⟨st.start, rfl, ?_⟩
          show Ev _ _ _ _ _ _ _
          refine Ev.var rfl ⟨o, rfl, x, rfl, by lia, Evs.nil ?_⟩
          refine Op.append hres (by have := hs.1; simp at this ⊢; lia) ?_
          dsimp only
          repeat (first | (with_reducible first | refine Ev.cint ?_ | refine Ev.cstr ?_ | refine Ev.cbool ?_ | refine Ev.cnone ?_ | refine Ev.bin ?_ | refine Ev.una ?_ | refine Ts.not ?_ | refine Ts.bools ?_ | refine TsAll.and ?_ | refine TsAll.or ?_ | refine TsAll.andNil ?_ | refine TsAll.orNil ?_ | refine Tr.bool ?_ | refine As.sub ?_ | refine Evs.nil ?_ | refine Op.add ?_ | refine Op.sub ?_ | refine Op.iadd ?_ | refine Op.isub ?_ | refine Op.mul2 ?_ | refine Op.lt ?_ | refine Op.gt ?_ | refine Op.eq ?_ | refine Op.ne ?_ | refine Op.neg ?_ | refine Op.eqS ?_ | refine Op.neS ?_ | refine Ex.if ?_ | refine Ex.ret ?_ | refine Ex.brk ?_ | refine Ex.cont ?_ | refine Ev.ifx ?_ | refine Exs.cons ?_ | refine Exs.nil ?_) | refine Ev.var rfl ?_ | refine Ev.cmp ?_ | refine Ev.subL ?_ | refine Ts.cmp ?_ | refine As.name (Sn.local rfl ?_) | refine Evs.cons ?_ | refine Ex.assign ?_ | refine Ex.assign2 ?_ | refine Ex.expr ?_ | refine Ex.aug rfl rfl ?_)
          have e : sStep x st (p, u) = ⟨p + 1, none, st.res ++ [Txt.slice x (some (st.start : Int)) (some (o : Int))]⟩ := by unfold sStep; rw [if_pos hb2, ho]; show SSt.mk _ _ (if _ then _ else _) = _; rw [if_pos hb3]
          refine ⟨.inl rfl, _, ?sub, sStep x st (p, u), l ++ [AO.tup [.int (p : Int), .str u]], rfl, ?_, hs.step, hfo⟩
          case sub => rw [e]; exact ⟨rfl, rfl, rfl, rfl, trivial⟩
          rw [e]
          rw [List.append_assoc, List.set_append_right _ _ (Nat.le_refl _), Nat.sub_self]
          simp
        · repeat (first | (with_reducible first | refine Ev.cint ?_ | refine Ev.cstr ?_ | refine Ev.cbool ?_ | refine Ev.cnone ?_ | refine Ev.bin ?_ | refine Ev.una ?_ | refine Ts.not ?_ | refine Ts.bools ?_ | refine TsAll.and ?_ | refine TsAll.or ?_ | refine TsAll.andNil ?_ | refine TsAll.orNil ?_ | refine Tr.bool ?_ | refine As.sub ?_ | refine Evs.nil ?_ | refine Op.add ?_ | refine Op.sub ?_ | refine Op.iadd ?_ | refine Op.isub ?_ | refine Op.mul2 ?_ | refine Op.lt ?_ | refine Op.gt ?_ | refine Op.eq ?_ | refine Op.ne ?_ | refine Op.neg ?_ | refine Op.eqS ?_ | refine Op.neS ?_ | refine Ex.if ?_ | refine Ex.ret ?_ | refine Ex.brk ?_ | refine Ex.cont ?_ | refine Ev.ifx ?_ | refine Exs.cons ?_ | refine Exs.nil ?_) | refine Ev.var rfl ?_ | refine Ev.cmp ?_ | refine Ev.subL ?_ | refine Ts.cmp ?_ | refine As.name (Sn.local rfl ?_) | refine Evs.cons ?_ | refine Ex.assign ?_ | refine Ex.assign2 ?_ | refine Ex.expr ?_ | refine Ex.aug rfl rfl ?_)
          have e : sStep x st (p, u) = ⟨p + 1, none, st.res⟩ := by unfold sStep; rw [if_pos hb2, ho]; show SSt.mk _ _ (if _ then _ else _) = _; rw [hb3]; rfl
          refine ⟨.inl rfl, _, ?sub, sStep x st (p, u), l ++ [AO.tup [.int (p : Int), .str u]], rfl, ?_, hs.step, hfo⟩
          case sub => rw [e]; exact ⟨rfl, rfl, rfl, rfl, trivial⟩
          rw [e]; exact eH st.res
    · refine Exs.nil ?_
      dsimp only
      refine Exs.nil ?_
      have e : sStep x st (p, u) = st := by unfold sStep; rw [hb2]; rfl
      refine ⟨.inl rfl, _, ?sub, sStep x st (p, u), l ++ [AO.tup [.int (p : Int), .str u]], rfl, ?_, hs.step, hfo⟩
      case sub => rw [e]; exact ⟨rfl, rfl, rfl, rfl, trivial⟩
      rw [e]; exact eH st.res
end Mine
end
section
open PySem PySem.W PyProof.Rows PySem.Calls
set_option maxRecDepth 100000
namespace Mine
variable {G : Gl} {k : Nat} {sc : Scope} {m : Vars} {H : List AO}

noncomputable def balP : List Str → Int → Bool
  | [], n => n == 0
  | u :: us, n => if (u == Str.ofString "(") = true then balP us (n + 1) else if (u == Str.ofString ")") = true then (if n - 1 < 0 then false else balP us (n - 1)) else balP us n

set_option maxHeartbeats 1000000 in
theorem check_c (hK : TopIs G) {x : Str} {Q : AV → List AO → Prop} (hok : okE x.cps.toList false = true) (hne : 0 < (units x).length) (hlen : x.length ≤ 200) (hok' : okE (strip x).cps.toList false = true) (hne' : 0 < (units (strip x)).length)
    (hbal : balP ((units (strip x)).map (·.2)) 0 = true) (hq : ∀ l, Q (.bool true) (H ++ l)) : Op G (k + 3) (callOf (.ref (G.adr (Str.ofString "_check_parenthesis")))) [.str x] H Q := by
  have eF := Eq.refl (fnD 6)
  conv at eF => rhs; whnf
  obtain ⟨oF, pmF, cdF, docF, hmF, hoF, hdF, hcdF⟩ := hK.at (by kernel_rfl) eF
  dsimp only at hdF
  refine Op.doc hoF hdF hcdF (fun cvs h => ?_) (by decide) (by rfl) (by decide) (by decide) (by decide) ?_
  · obtain ⟨a, rfl⟩ := one_of h; rfl
  dsimp only
  refine Exs.cons (Ex.assign (callTop hK (by kernel_rfl) rfl (Evs.cons (Ev.var rfl (Evs.nil (strip_c hK hok hne hlen fun l => ?_))))))
  refine As.name (Sn.local rfl ?_)
  dsimp only
  repeat (first | (with_reducible first | refine Ev.cint ?_ | refine Ev.cstr ?_ | refine Ev.cbool ?_ | refine Ev.cnone ?_ | refine Ev.bin ?_ | refine Ev.una ?_ | refine Ts.not ?_ | refine Ts.bools ?_ | refine TsAll.and ?_ | refine TsAll.or ?_ | refine TsAll.andNil ?_ | refine TsAll.orNil ?_ | refine Tr.bool ?_ | refine As.sub ?_ | refine Evs.nil ?_ | refine Op.add ?_ | refine Op.sub ?_ | refine Op.iadd ?_ | refine Op.isub ?_ | refine Op.mul2 ?_ | refine Op.lt ?_ | refine Op.gt ?_ | refine Op.eq ?_ | refine Op.ne ?_ | refine Op.neg ?_ | refine Op.eqS ?_ | refine Op.neS ?_ | refine Ex.if ?_ | refine Ex.ret ?_ | refine Ex.brk ?_ | refine Ex.cont ?_ | refine Ev.ifx ?_ | refine Exs.cons ?_ | refine Exs.nil ?_) | refine Ev.var rfl ?_ | refine Ev.cmp ?_ | refine Ev.subL ?_ | refine Ts.cmp ?_ | refine As.name (Sn.local rfl ?_) | refine Evs.cons ?_ | refine Ex.assign ?_ | refine Ex.assign2 ?_ | refine Ex.expr ?_ | refine Ex.aug rfl rfl ?_)
  refine Ex.for (ItNew.chars hK rfl (Ev.var rfl ⟨strip x, rfl, hok', ?_⟩))
  refine FoI.less (m' := [(Str.ofString "opens", .int 0)])
    (FoI.inv (ItGI G (units (strip x))) (fun i m' H' => ∃ (n : Int) (l : List AO), m' = [(Str.ofString "opens", .int n)] ∧ H' = H ++ l ∧ balP (((units (strip x)).drop i).map (·.2)) n = true) (units (strip x)).length ItGI.pers ?_ ?_ (units (strip x)).length 0 _ _ (by lia) (Nat.zero_le _)
      ⟨0, l, rfl, rfl, hbal⟩) (SubL.sub ⟨rfl, trivial⟩)
  · rintro m' H' ⟨n, l, rfl, rfl, hb⟩
    refine ⟨NxEnd.genI hne', ?_⟩
    rw [List.drop_length] at hb
    have hb' : (n == 0) = true := hb
    dsimp only
    refine Exs.cons (Ex.ret (Ev.cmp (Ev.var rfl (Ev.cint (Op.eq ?_)))))
    rw [hb']; exact hq l
  · rintro i m' H' hi' ⟨n, l, rfl, rfl, hb⟩
    obtain ⟨p, u, hpu⟩ : ∃ p u, (units (strip x))[i] = (p, u) := ⟨_, _, rfl⟩
    have hget : (units (strip x))[i]? = some (p, u) := by rw [List.getElem?_eq_getElem hi', hpu]
    rw [List.drop_eq_getElem_cons hi', List.map_cons, hpu] at hb
    refine ⟨_, _, NxItem.genI (fun _ _ _ _ _ _ h1 h2 => lotg_gen h1 h2) hget, As.tupT List.getElem?_concat_length rfl tup_names ?_⟩
    show As G (k + 2) _ _ _ _ _ _
    refine As.name (Sn.local rfl ?_)
    show As G (k + 2) _ _ _ _ _ _
    refine As.name (Sn.local rfl ?_)
    rw [balP] at hb
    refine Exs.cons (Ex.if (Ts.cmp (Ev.var rfl (Ev.cstr (Op.eqS (Tr.bool ⟨fun hb2 => ?_, fun hb2 => ?_⟩))))))
    · rw [if_pos hb2] at hb
      repeat (first | (with_reducible first | refine Ev.cint ?_ | refine Ev.cstr ?_ | refine Ev.cbool ?_ | refine Ev.cnone ?_ | refine Ev.bin ?_ | refine Ev.una ?_ | refine Ts.not ?_ | refine Ts.bools ?_ | refine TsAll.and ?_ | refine TsAll.or ?_ | refine TsAll.andNil ?_ | refine TsAll.orNil ?_ | refine Tr.bool ?_ | refine As.sub ?_ | refine Evs.nil ?_ | refine Op.add ?_ | refine Op.sub ?_ | refine Op.iadd ?_ | refine Op.isub ?_ | refine Op.mul2 ?_ | refine Op.lt ?_ | refine Op.gt ?_ | refine Op.eq ?_ | refine Op.ne ?_ | refine Op.neg ?_ | refine Op.eqS ?_ | refine Op.neS ?_ | refine Ex.if ?_ | refine Ex.ret ?_ | refine Ex.brk ?_ | refine Ex.cont ?_ | refine Ev.ifx ?_ | refine Exs.cons ?_ | refine Exs.nil ?_) | refine Ev.var rfl ?_ | refine Ev.cmp ?_ | refine Ev.subL ?_ | refine Ts.cmp ?_ | refine As.name (Sn.local rfl ?_) | refine Evs.cons ?_ | refine Ex.assign ?_ | refine Ex.assign2 ?_ | refine Ex.expr ?_ | refine Ex.aug rfl rfl ?_)
      refine ⟨.inl rfl, _, ?sub, n + 1, l ++ [AO.tup [.int (p : Int), .str u]], rfl, by simp, hb⟩
      case sub => exact ⟨rfl, trivial⟩
    · rw [if_neg (by rw [hb2]; exact Bool.false_ne_true)] at hb
      refine Exs.cons (Ex.if (Ts.cmp (Ev.var rfl (Ev.cstr (Op.eqS (Tr.bool ⟨fun hb3 => ?_, fun hb3 => ?_⟩))))))
      · rw [if_pos hb3] at hb
        by_cases hneg : n - 1 < 0
        · rw [if_pos hneg] at hb; cases hb
        rw [if_neg hneg] at hb
        refine Exs.cons (Ex.aug rfl rfl (Ev.cint (Op.isub ?_)))
        dsimp only
        refine Exs.cons (Ex.if (Ts.cmp (Ev.var rfl (Ev.cint (Op.lt (Tr.bool ⟨fun q => absurd (by simpa using q) hneg, fun _ => ?_⟩))))))
        repeat (first | (with_reducible first | refine Ev.cint ?_ | refine Ev.cstr ?_ | refine Ev.cbool ?_ | refine Ev.cnone ?_ | refine Ev.bin ?_ | refine Ev.una ?_ | refine Ts.not ?_ | refine Ts.bools ?_ | refine TsAll.and ?_ | refine TsAll.or ?_ | refine TsAll.andNil ?_ | refine TsAll.orNil ?_ | refine Tr.bool ?_ | refine As.sub ?_ | refine Evs.nil ?_ | refine Op.add ?_ | refine Op.sub ?_ | refine Op.iadd ?_ | refine Op.isub ?_ | refine Op.mul2 ?_ | refine Op.lt ?_ | refine Op.gt ?_ | refine Op.eq ?_ | refine Op.ne ?_ | refine Op.neg ?_ | refine Op.eqS ?_ | refine Op.neS ?_ | refine Ex.if ?_ | refine Ex.ret ?_ | refine Ex.brk ?_ | refine Ex.cont ?_ | refine Ev.ifx ?_ | refine Exs.cons ?_ | refine Exs.nil ?_) | refine Ev.var rfl ?_ | refine Ev.cmp ?_ | refine Ev.subL ?_ | refine Ts.cmp ?_ | refine As.name (Sn.local rfl ?_) | refine Evs.cons ?_ | refine Ex.assign ?_ | refine Ex.assign2 ?_ | refine Ex.expr ?_ | refine Ex.aug rfl rfl ?_)
        refine ⟨.inl rfl, _, ?sub, n - 1, l ++ [AO.tup [.int (p : Int), .str u]], rfl, by simp, hb⟩
        case sub => exact ⟨rfl, trivial⟩
      · rw [if_neg (by rw [hb3]; exact Bool.false_ne_true)] at hb
        repeat (first | (with_reducible first | refine Ev.cint ?_ | refine Ev.cstr ?_ | refine Ev.cbool ?_ | refine Ev.cnone ?_ | refine Ev.bin ?_ | refine Ev.una ?_ | refine Ts.not ?_ | refine Ts.bools ?_ | refine TsAll.and ?_ | refine TsAll.or ?_ | refine TsAll.andNil ?_ | refine TsAll.orNil ?_ | refine Tr.bool ?_ | refine As.sub ?_ | refine Evs.nil ?_ | refine Op.add ?_ | refine Op.sub ?_ | refine Op.iadd ?_ | refine Op.isub ?_ | refine Op.mul2 ?_ | refine Op.lt ?_ | refine Op.gt ?_ | refine Op.eq ?_ | refine Op.ne ?_ | refine Op.neg ?_ | refine Op.eqS ?_ | refine Op.neS ?_ | refine Ex.if ?_ | refine Ex.ret ?_ | refine Ex.brk ?_ | refine Ex.cont ?_ | refine Ev.ifx ?_ | refine Exs.cons ?_ | refine Exs.nil ?_) | refine Ev.var rfl ?_ | refine Ev.cmp ?_ | refine Ev.subL ?_ | refine Ts.cmp ?_ | refine As.name (Sn.local rfl ?_) | refine Evs.cons ?_ | refine Ex.assign ?_ | refine Ex.assign2 ?_ | refine Ex.expr ?_ | refine Ex.aug rfl rfl ?_)
        refine ⟨.inl rfl, _, ?sub, n, l ++ [AO.tup [.int (p : Int), .str u]], rfl, by simp, hb⟩
        case sub => exact ⟨rfl, trivial⟩
end Mine
end
section
open PySem PySem.W PyProof.Rows PySem.Calls
set_option maxRecDepth 100000
namespace Mine
variable {G : Gl} {k : Nat} {sc : Scope} {m : Vars} {H : List AO}

/- lists of lists of ints -/
inductive RefL (H : List AO) : List Nat → List (List Int) → Prop where
  | nil : RefL H [] []
  | cons {r xs rs xss} : H[r]? = some (.list (xs.map .int)) → RefL H rs xss → RefL H (r :: rs) (xs :: xss)
theorem RefL.length {rs : List Nat} {xss : List (List Int)} (h : RefL H rs xss) : rs.length = xss.length := by
  induction h with
  | nil => rfl
  | cons _ _ ih => simp [ih]
theorem RefL.ext {rs : List Nat} {xss : List (List Int)} (h : RefL H rs xss) (l : List AO) : RefL (H ++ l) rs xss := by
  induction h with
  | nil => exact .nil
  | cons h _ ih => exact .cons (getElem?_ext h) ih
theorem RefL.set {rs : List Nat} {xss : List (List Int)} (h : RefL H rs xss) {r : Nat} (hr : r ∉ rs) (a : AO) : RefL (H.set r a) rs xss := by
  induction h with
  | nil => exact .nil
  | cons h _ ih =>
    rw [List.mem_cons, not_or] at hr
    exact .cons (by rw [List.getElem?_set_ne hr.1]; exact h) (ih hr.2)
theorem RefL.snoc {rs : List Nat} {xss : List (List Int)} (h : RefL H rs xss) {r : Nat} {xs : List Int} (hr : H[r]? = some (.list (xs.map .int))) : RefL H (rs ++ [r]) (xss ++ [xs]) := by
  induction h with
  | nil => exact .cons hr .nil
  | cons h _ ih => exact .cons h ih
theorem RefL.get {rs : List Nat} {xss : List (List Int)} (h : RefL H rs xss) : ∀ {i r : Nat} {xs : List Int}, rs[i]? = some r → xss[i]? = some xs → H[r]? = some (.list (xs.map .int)) := by
  induction h with
  | nil => intro i r xs h1; simp at h1
  | cons h _ ih =>
    intro i r xs h1 h2
    cases i with
    | zero => simp at h1 h2; subst h1 h2; exact h
    | succ i => simp at h1 h2; exact ih h1 h2
theorem RefL.lt {rs : List Nat} {xss : List (List Int)} (h : RefL H rs xss) : ∀ r ∈ rs, r < H.length := by
  induction h with
  | nil => intro r h; cases h
  | cons h _ ih =>
    intro r hr
    rcases List.mem_cons.mp hr with q | q
    · rw [q]; exact (List.getElem?_eq_some_iff.mp h).1
    · exact ih r q

theorem at_off {l : List AO} {n : Nat} {o : Option AO} (h : l[n]? = o) : (H ++ l)[H.length + n]? = o := by rw [List.getElem?_append_right (Nat.le_add_right _ _), Nat.add_sub_cancel_left]; exact h
/- the reading's pure twin -/
structure RSt where
  gi : List (List Int)
  a : Int
  b : Int
  signs : List (List Int)
  names : List Str
  pile : List Int
noncomputable def rStep (st : RSt) (u : Str) : RSt :=
  if (u == Str.ofString "(") = true then { st with b := st.b + 1, pile := st.pile ++ [-1] }
  else if (u == Str.ofString ")") = true then { st with a := st.a + 1, pile := st.pile.dropLast }
  else { gi := st.gi ++ [[st.a, st.b]], a := 0, b := 0, signs := st.signs ++ [st.pile.dropLast ++ [0]], names := st.names ++ [u], pile := st.pile.set (st.pile.length - 1) 1 }
noncomputable def rOk : List Str → Nat → Bool
  | [], _ => true
  | u :: us, d => if (u == Str.ofString "(") = true then rOk us (d + 1) else if d = 0 then false else if (u == Str.ofString ")") = true then rOk us (d - 1) else rOk us d
noncomputable def readP (us : List Str) : RSt := us.foldl rStep ⟨[], 0, 0, [], [], []⟩
noncomputable def gapsOf (st : RSt) : List (List Int) := st.gi ++ [[st.a, st.b]]

theorem sb_neg : ∀ n : Nat, (sliceBounds none (some (-1)) none n).2.1.toNat = n - 1
  | 0 => by decide
  | n + 1 => by
    unfold sliceBounds
    simp
    rw [show (-1 + ((n : Int) + 1)) = n by lia, Int.min_eq_left (Int.le_of_lt (Int.lt_succ n)), Int.max_eq_right (Int.natCast_nonneg n), Int.toNat_natCast]
theorem sb_from {i n : Nat} (h : i ≤ n) : (sliceBounds (some (i : Int)) none none n).1.toNat = i := by
  unfold sliceBounds
  simp
  rw [if_neg (Int.not_lt.mpr (Int.natCast_nonneg i)), Int.min_eq_left (Int.ofNat_le.mpr h), Int.max_eq_right (Int.natCast_nonneg i), Int.toNat_natCast]
theorem cut_dropLast {α : Type} (xs : List α) : cutL xs none (some (-1)) = xs.dropLast := by
  unfold cutL
  have h1 : (sliceBounds none (some (-1)) none xs.length).1.toNat = 0 := by unfold sliceBounds; simp
  have h2 : (sliceBounds none (some (-1)) none xs.length).2.1.toNat = xs.length - 1 := sb_neg _
  dsimp only
  rw [h1, h2, List.drop_zero, Nat.sub_zero, List.dropLast_eq_take]

structure RInv (H0 H' : List AO) (st : RSt) (i g : Nat) (gri : List Nat) (rl : Nat) (sr : List Nat) : Prop where
  pre : ∃ l, H' = H0 ++ l
  ge : H0.length < g
  og : H'[g]? = some (.list ((gri ++ [rl]).map .ref))
  os : H'[g + 1]? = some (.list (sr.map .ref))
  on : H'[g + 2]? = some (.list (st.names.map .str))
  op : H'[g + 3]? = some (.list (st.pile.map .int))
  rg : RefL H' gri st.gi
  hrl : H'[rl]? = some (.list [.int st.a, .int st.b])
  rs : RefL H' sr st.signs
  ap : ∀ r ∈ rl :: (gri ++ sr), H0.length ≤ r ∧ r ≠ g ∧ r ≠ g + 1 ∧ r ≠ g + 2 ∧ r ≠ g + 3
  nl : rl ∉ gri ++ sr
  bd : gri.length ≤ i ∧ sr.length ≤ i ∧ st.names.length ≤ i ∧ st.pile.length ≤ i

theorem set_pre {H0 H' : List AO} {r : Nat} (h : ∃ l, H' = H0 ++ l) (hr : H0.length ≤ r) (a : AO) : ∃ l, H'.set r a = H0 ++ l := by
  obtain ⟨l, rfl⟩ := h
  exact ⟨_, set_append_r hr⟩
theorem getElem?_set_ne' {H' : List AO} {i j : Nat} {a b : AO} (h : H'[i]? = some b) (hne : j ≠ i) : (H'.set j a)[i]? = some b := by rw [List.getElem?_set_ne hne]; exact h
theorem get_set' {H' : List AO} {i : Nat} {a b : AO} (h : H'[i]? = some b) : (H'.set i a)[i]? = some a := List.getElem?_set_self (List.getElem?_eq_some_iff.mp h).1
theorem last_neg {xs : List AV} {x : AV} {i : Int} (hi : i = -1) : 0 ≤ i + ((xs ++ [x]).length : Int) ∧ (xs ++ [x])[(i + ((xs ++ [x]).length : Int)).toNat]? = some x := by
  subst hi
  have : (-1 + ((xs ++ [x]).length : Int)).toNat = xs.length := by simp; lia
  rw [this]
  exact ⟨by simp; lia, by simp⟩


theorem RInv.opn {H0 H' : List AO} {st : RSt} {i g rl : Nat} {gri sr : List Nat} (v : RInv H0 H' st i g gri rl sr) :
    RInv H0 ((H'.set rl (AO.list [.int st.a, .int (st.b + 1)])).set (g + 3) (AO.list ((st.pile ++ [-1]).map .int))) { st with b := st.b + 1, pile := st.pile ++ [-1] } (i + 1) g gri rl sr := by
  have ap := v.ap rl (.head _)
  have nl := v.nl
  rw [List.mem_append, not_or] at nl
  have hg3 : ∀ r ∈ gri ++ sr, r ≠ g + 3 := fun r hr => (v.ap r (.tail _ hr)).2.2.2.2
  have hge := v.ge
  refine ⟨set_pre (set_pre v.pre ap.1 _) (by lia) _, v.ge, ?_, ?_, ?_, ?_, ?_, ?_, ?_, v.ap, v.nl, ?_⟩
  · exact getElem?_set_ne' (getElem?_set_ne' v.og ap.2.1) (by lia)
  · exact getElem?_set_ne' (getElem?_set_ne' v.os ap.2.2.1) (by lia)
  · exact getElem?_set_ne' (getElem?_set_ne' v.on ap.2.2.2.1) (by lia)
  · exact get_set' (getElem?_set_ne' v.op ap.2.2.2.2)
  · exact (v.rg.set nl.1 _).set (fun h => hg3 _ (List.mem_append_left _ h) rfl) _
  · exact getElem?_set_ne' (get_set' v.hrl) (Ne.symm ap.2.2.2.2)
  · exact (v.rs.set nl.2 _).set (fun h => hg3 _ (List.mem_append_right _ h) rfl) _
  · obtain ⟨b1, b2, b3, b4⟩ := v.bd
    exact ⟨by lia, by lia, by show st.names.length ≤ _; lia, by simp; lia⟩
theorem RInv.cls {H0 H' : List AO} {st : RSt} {i g rl : Nat} {gri sr : List Nat} (v : RInv H0 H' st i g gri rl sr) :
    RInv H0 ((H'.set rl (AO.list [.int (st.a + 1), .int st.b])).set (g + 3) (AO.list (st.pile.dropLast.map .int))) { st with a := st.a + 1, pile := st.pile.dropLast } (i + 1) g gri rl sr := by
  have ap := v.ap rl (.head _)
  have nl := v.nl
  rw [List.mem_append, not_or] at nl
  have hg3 : ∀ r ∈ gri ++ sr, r ≠ g + 3 := fun r hr => (v.ap r (.tail _ hr)).2.2.2.2
  have hge := v.ge
  refine ⟨set_pre (set_pre v.pre ap.1 _) (by lia) _, v.ge, ?_, ?_, ?_, ?_, ?_, ?_, ?_, v.ap, v.nl, ?_⟩
  · exact getElem?_set_ne' (getElem?_set_ne' v.og ap.2.1) (by lia)
  · exact getElem?_set_ne' (getElem?_set_ne' v.os ap.2.2.1) (by lia)
  · exact getElem?_set_ne' (getElem?_set_ne' v.on ap.2.2.2.1) (by lia)
  · exact get_set' (getElem?_set_ne' v.op ap.2.2.2.2)
  · exact (v.rg.set nl.1 _).set (fun h => hg3 _ (List.mem_append_left _ h) rfl) _
  · exact getElem?_set_ne' (get_set' v.hrl) (Ne.symm ap.2.2.2.2)
  · exact (v.rs.set nl.2 _).set (fun h => hg3 _ (List.mem_append_right _ h) rfl) _
  · obtain ⟨b1, b2, b3, b4⟩ := v.bd
    exact ⟨by lia, by lia, by show st.names.length ≤ _; lia, by simp; lia⟩

noncomputable abbrev nmH (H' : List AO) (st : RSt) (g rl : Nat) (gri sr : List Nat) (u : Str) : List AO :=
  (((((H' ++ [AO.list [.int 0, .int 0]]).set g (AO.list ((gri ++ [rl] ++ [H'.length]).map .ref)) ++ [AO.list (st.pile.dropLast.map .int)]) ++ [AO.list [.int 0]]) ++ [AO.list ((st.pile.dropLast ++ [0]).map .int)]).set (g + 1) (AO.list ((sr ++ [H'.length + 3]).map .ref))).set (g + 2) (AO.list ((st.names ++ [u]).map .str))
theorem RInv.nm {H0 H' : List AO} {st : RSt} {i g rl : Nat} {gri sr : List Nat} {u : Str} (v : RInv H0 H' st i g gri rl sr) :
    RInv H0 ((nmH H' st g rl gri sr u).set (g + 3) (AO.list ((st.pile.set (st.pile.length - 1) 1).map .int)))
      { gi := st.gi ++ [[st.a, st.b]], a := 0, b := 0, signs := st.signs ++ [st.pile.dropLast ++ [0]], names := st.names ++ [u], pile := st.pile.set (st.pile.length - 1) 1 } (i + 1) g (gri ++ [rl]) H'.length (sr ++ [H'.length + 3]) := by
  have ap := v.ap rl (.head _)
  have nl := v.nl
  rw [List.mem_append, not_or] at nl
  have hge := v.ge
  have lg := (List.getElem?_eq_some_iff.mp v.og).1
  have lp := (List.getElem?_eq_some_iff.mp v.op).1
  have lrl := (List.getElem?_eq_some_iff.mp v.hrl).1
  obtain ⟨l, hl⟩ := v.pre
  have hl0 : H0.length ≤ H'.length := by rw [hl]; simp
  have Ag : ∀ r ∈ gri ++ sr, r < H'.length ∧ r ≠ g ∧ r ≠ g + 1 ∧ r ≠ g + 2 ∧ r ≠ g + 3 := fun r hr => by
    refine ⟨?_, (v.ap r (.tail _ hr)).2⟩
    rcases List.mem_append.mp hr with q | q
    · exact v.rg.lt r q
    · exact v.rs.lt r q
  have lens : ((H' ++ [AO.list [.int 0, .int 0]]).set g (AO.list ((gri ++ [rl] ++ [H'.length]).map .ref))).length = H'.length + 1 := by simp
  -- what lay there stays
  have stay : ∀ {r : Nat} {o : AO}, H'[r]? = some o → r ≠ g → r ≠ g + 1 → r ≠ g + 2 → r ≠ g + 3 → ((nmH H' st g rl gri sr u).set (g + 3) (AO.list ((st.pile.set (st.pile.length - 1) 1).map .int)))[r]? = some o := fun h n0 n1 n2 n3 =>
    getElem?_set_ne' (getElem?_set_ne' (getElem?_set_ne' (getElem?_ext (getElem?_ext (getElem?_ext (getElem?_set_ne' (getElem?_ext h) (Ne.symm n0))))) (Ne.symm n1)) (Ne.symm n2)) (Ne.symm n3)
  have stayL : ∀ {rs : List Nat} {xss : List (List Int)}, RefL H' rs xss → (∀ r ∈ rs, r ∈ gri ++ sr) → RefL ((nmH H' st g rl gri sr u).set (g + 3) (AO.list ((st.pile.set (st.pile.length - 1) 1).map .int))) rs xss := fun {rs xss} h => by
    induction h with
    | nil => intro _; exact .nil
    | cons h _ ih =>
      intro hm
      have a1 := (Ag _ (hm _ (.head _))).2
      exact .cons (stay h a1.1 a1.2.1 a1.2.2.1 a1.2.2.2) (ih fun r hr => hm r (.tail _ hr))
  refine ⟨?_, v.ge, ?_, ?_, ?_, ?_, ?_, ?_, ?_, ?_, ?_, ?_⟩
  · refine set_pre (set_pre (set_pre ?_ (by lia) _) (by lia) _) (by lia) _
    obtain ⟨l2, h2⟩ := set_pre (r := g) (a := .list ((gri ++ [rl] ++ [H'.length]).map .ref)) (H' := H' ++ [AO.list [.int 0, .int 0]]) (H0 := H0) ⟨l ++ [AO.list [.int 0, .int 0]], by rw [hl]; simp⟩ (by lia)
    exact ⟨l2 ++ [AO.list (st.pile.dropLast.map .int)] ++ [AO.list [.int 0]] ++ [AO.list ((st.pile.dropLast ++ [0]).map .int)], by rw [h2]; simp⟩
  · exact getElem?_set_ne' (getElem?_set_ne' (getElem?_set_ne' (getElem?_ext (getElem?_ext (getElem?_ext (get_set' (getElem?_ext v.og))))) (by lia)) (by lia)) (by lia)
  · exact getElem?_set_ne' (getElem?_set_ne' (get_set' (getElem?_ext (getElem?_ext (getElem?_ext (getElem?_set_ne' (getElem?_ext v.os) (by lia)))))) (by lia)) (by lia)
  · exact getElem?_set_ne' (get_set' (getElem?_set_ne' (getElem?_ext (getElem?_ext (getElem?_ext (getElem?_set_ne' (getElem?_ext v.on) (by lia))))) (by lia))) (by lia)
  · exact get_set' (getElem?_set_ne' (getElem?_set_ne' (getElem?_ext (getElem?_ext (getElem?_ext (getElem?_set_ne' (getElem?_ext v.op) (by lia))))) (by lia)) (by lia))
  · exact (stayL v.rg fun r hr => List.mem_append_left _ hr).snoc (xs := [st.a, st.b]) (stay v.hrl ap.2.1 ap.2.2.1 ap.2.2.2.1 ap.2.2.2.2)
  · exact getElem?_set_ne' (getElem?_set_ne' (getElem?_set_ne' (getElem?_ext (getElem?_ext (getElem?_ext (getElem?_set_ne' List.getElem?_concat_length (by lia))))) (by lia)) (by lia)) (by lia)
  · refine (stayL v.rs fun r hr => List.mem_append_right _ hr).snoc (xs := st.pile.dropLast ++ [0]) ?_
    refine getElem?_set_ne' (getElem?_set_ne' (getElem?_set_ne' ?_ (by lia)) (by lia)) (by lia)
    rw [List.getElem?_append_right (by simp)]
    simp
  · intro r hr
    simp only [List.mem_cons, List.mem_append, List.not_mem_nil, or_false] at hr
    rcases hr with q | (q | q) | (q | q)
    · exact ⟨by lia, by lia, by lia, by lia, by lia⟩
    · have a1 := v.ap r (by simp [q]); exact a1
    · rw [q]; exact ap
    · have a1 := v.ap r (by simp [q]); exact a1
    · exact ⟨by lia, by lia, by lia, by lia, by lia⟩
  · intro hr
    simp only [List.mem_append, List.mem_cons, List.not_mem_nil, or_false] at hr
    rcases hr with (q | q) | (q | q)
    · have := (Ag _ (List.mem_append_left _ q)).1; lia
    · lia
    · have := (Ag _ (List.mem_append_right _ q)).1; lia
    · lia
  · obtain ⟨b1, b2, b3, b4⟩ := v.bd
    exact ⟨by simp; lia, by simp; lia, by simp; lia, by simp; lia⟩

set_option maxHeartbeats 2000000 in
theorem law_read_c (hK : TopIs G) {ku : Nat} {us : List Str} {Q : AV → List AO → Prop} (hu : H[ku]? = some (.list (us.map .str))) (hlen : us.length ≤ 300) (hok : rOk us 0 = true)
    (hq : ∀ (l : List AO) (rt g s n : Nat) (gr sr : List Nat), (H ++ l)[rt]? = some (.tup [.ref g, .ref s, .ref n]) → (H ++ l)[g]? = some (.list (gr.map .ref)) → (H ++ l)[s]? = some (.list (sr.map .ref)) → (H ++ l)[n]? = some (.list ((readP us).names.map .str)) →
      RefL (H ++ l) gr (gapsOf (readP us)) → RefL (H ++ l) sr (readP us).signs → Q (.ref rt) (H ++ l)) : Op G (k + 1) (callOf (.ref (G.adr (Str.ofString "_law_read")))) [.ref ku] H Q := by
  have hkl := (List.getElem?_eq_some_iff.mp hu).1
  have eF := Eq.refl (fnD 22)
  conv at eF => rhs; whnf
  obtain ⟨oF, pmF, cdF, docF, hmF, hoF, hdF, hcdF⟩ := hK.at (by kernel_rfl) eF
  dsimp only at hdF
  refine Op.doc hoF hdF hcdF (fun cvs h => ?_) (by decide) (by rfl) (by decide) (by decide) (by decide) ?_
  · obtain ⟨a, rfl⟩ := one_of h; rfl
  dsimp only
  refine Exs.cons (Ex.assign (Ev.tup (Evs.cons (Ev.list (Evs.cons (Ev.list (Evs.cons (Ev.cint (Evs.cons (Ev.cint (Evs.nil ⟨by simp, Evs.nil ⟨by simp, ?_⟩⟩)))))))))))
  refine Evs.cons (Ev.list (Evs.nil ⟨by simp, Evs.cons (Ev.list (Evs.nil ⟨by simp, Evs.cons (Ev.list (Evs.nil ⟨by simp, Evs.nil ⟨by simp, ?_⟩⟩))⟩))⟩))
  refine As.tupT List.getElem?_concat_length rfl ?_ ?_
  · intro t ht e p
    simp only [List.mem_cons, List.not_mem_nil, or_false] at ht
    rcases ht with q | q | q | q <;> (rw [q]; intro e; cases e)
  show As G k _ _ _ _ _ _
  refine As.name (Sn.local rfl ?_)
  show As G k _ _ _ _ _ _
  refine As.name (Sn.local rfl ?_)
  show As G k _ _ _ _ _ _
  refine As.name (Sn.local rfl ?_)
  show As G k _ _ _ _ _ _
  refine As.name (Sn.local rfl ?_)
  show Exs G k _ _ _ _ _
  simp only [List.length_append, List.length_cons, List.length_nil, List.append_assoc, List.cons_append, List.nil_append]
  refine Exs.cons (Ex.for (ItNew.list (Ev.var rfl ⟨ku, _, rfl, getElem?_ext hu, ?_⟩)))
  refine FoI.less (m' := [(Str.ofString "gaps", .ref (H.length + 1)), (Str.ofString "signs", .ref (H.length + 2)), (Str.ofString "names", .ref (H.length + 3)), (Str.ofString "pile", .ref (H.length + 4))])
    (FoI.inv (ItL ku) (fun i m' H' => m' = [(Str.ofString "gaps", .ref (H.length + 1)), (Str.ofString "signs", .ref (H.length + 2)), (Str.ofString "names", .ref (H.length + 3)), (Str.ofString "pile", .ref (H.length + 4))] ∧
      ∃ (st : RSt) (gri : List Nat) (rl : Nat) (sr : List Nat), RInv H H' st i (H.length + 1) gri rl sr ∧ (us.drop i).foldl rStep st = readP us ∧ rOk (us.drop i) st.pile.length = true) us.length (fun _ => ItL.pers) ?_ ?_ us.length 0 _ _ (by lia) (Nat.zero_le _) ⟨rfl, ?_⟩) (SubL.sub ⟨rfl, rfl, rfl, rfl, trivial⟩)
  · rintro m' H' ⟨rfl, st, gri, rl, sr, inv, hfo, _⟩
    obtain ⟨l, rfl⟩ := inv.pre
    refine ⟨NxEnd.list (getElem?_ext hu) (by simp), ?_⟩
    rw [List.drop_length] at hfo
    have hst : st = readP us := hfo
    subst hst
    dsimp only
    refine Exs.cons (Ex.ret (Ev.tup (Evs.cons (Ev.var rfl (Evs.cons (Ev.var rfl (Evs.cons (Ev.var rfl (Evs.nil ⟨by simp, ?_⟩)))))))))
    rw [List.append_assoc]
    refine hq (l ++ [AO.tup [.ref (H.length + 1), .ref (H.length + 2), .ref (H.length + 3)]]) _ (H.length + 1) (H.length + 2) (H.length + 3) (gri ++ [rl]) sr ?_ ?_ ?_ ?_ ?_ ?_
    · rw [← List.append_assoc]; exact List.getElem?_concat_length
    · rw [← List.append_assoc]; exact getElem?_ext inv.og
    · rw [← List.append_assoc]; exact getElem?_ext inv.os
    · rw [← List.append_assoc]; exact getElem?_ext inv.on
    · rw [← List.append_assoc]; exact (inv.rg.snoc (xs := [(readP us).a, (readP us).b]) inv.hrl).ext _
    · rw [← List.append_assoc]; exact inv.rs.ext _
  · rintro i m' H' hi' ⟨rfl, st, gri, rl, sr, inv, hfo, hrk⟩
    obtain ⟨l, hHl⟩ := inv.pre
    have hu' : H'[ku]? = some (.list (us.map .str)) := by rw [hHl]; exact getElem?_ext hu
    rw [List.drop_eq_getElem_cons hi', List.foldl_cons] at hfo
    rw [List.drop_eq_getElem_cons hi', rOk] at hrk
    generalize hui : us[i] = u at hfo hrk
    refine ⟨_, _, NxItem.list hu' (by rw [List.getElem?_map, List.getElem?_eq_getElem hi', hui]; rfl), As.name (Sn.local rfl ?_)⟩
    obtain ⟨b1, b2, b3, b4⟩ := inv.bd
    have hge := inv.ge
    have hgl : ((gri ++ [rl]).map AV.ref) = gri.map AV.ref ++ [.ref rl] := by simp
    have og := inv.og
    rw [hgl] at og
    have hlast := last_neg (xs := gri.map AV.ref) (x := .ref rl) (i := -1) rfl
    have apl := inv.ap rl (.head _)
    have hglen : (gri.map AV.ref ++ [AV.ref rl]).length ≤ 1000 := by simp; lia
    refine Exs.cons (Ex.if (Ts.cmp (Ev.var rfl (Ev.cstr (Op.eqS (Tr.bool ⟨fun hb => ?_, fun hb => ?_⟩))))))
    · -- an opening bracket
      rw [if_pos hb] at hrk
      have est : rStep st u = { st with b := st.b + 1, pile := st.pile ++ [-1] } := by unfold rStep; rw [if_pos hb]
      refine Exs.cons (Ex.augSub (Ev.subL (Ev.var rfl (Ev.una (Ev.cint (Op.neg ⟨H.length + 1, _, _, _, rfl, rfl, og, hglen, .inr ⟨by decide, hlast.1, hlast.2⟩, ?_⟩))))))
      refine Ev.cint (Op.getL inv.hrl (by simp) (.inl ⟨by decide, rfl⟩) (Ev.cint (Op.iadd (OpU.setL inv.hrl (by simp) (by decide) (by simp) ?_))))
      dsimp only
      have op' : (H'.set rl (AO.list [.int st.a, .int (st.b + 1)]))[H.length + 1 + 3]? = some (.list (st.pile.map .int)) := getElem?_set_ne' inv.op apl.2.2.2.2
      refine Exs.cons (Ex.expr (Ev.meth1 PySem.F.plainAttrs_list PySem.F.slot_list_append PySem.F.type_list_append (Ev.var rfl ⟨kind_list op', Evs.cons (Ev.una (Ev.cint (Op.neg (Evs.nil (Op.append op' (by simp; lia) ?_)))))⟩)))
      have e2 : st.pile.map AV.int ++ [AV.int (-1)] = (st.pile ++ [-1]).map AV.int := by simp
      rw [e2]
      repeat (first | (with_reducible first | refine Ev.cint ?_ | refine Ev.cstr ?_ | refine Ev.cbool ?_ | refine Ev.cnone ?_ | refine Ev.bin ?_ | refine Ev.una ?_ | refine Ts.not ?_ | refine Ts.bools ?_ | refine TsAll.and ?_ | refine TsAll.or ?_ | refine TsAll.andNil ?_ | refine TsAll.orNil ?_ | refine Tr.bool ?_ | refine As.sub ?_ | refine Evs.nil ?_ | refine Op.add ?_ | refine Op.sub ?_ | refine Op.iadd ?_ | refine Op.isub ?_ | refine Op.mul2 ?_ | refine Op.lt ?_ | refine Op.gt ?_ | refine Op.eq ?_ | refine Op.ne ?_ | refine Op.neg ?_ | refine Op.eqS ?_ | refine Op.neS ?_ | refine Ex.if ?_ | refine Ex.ret ?_ | refine Ex.brk ?_ | refine Ex.cont ?_ | refine Ev.ifx ?_ | refine Exs.cons ?_ | refine Exs.nil ?_) | refine Ev.var rfl ?_ | refine Ev.cmp ?_ | refine Ev.subL ?_ | refine Ts.cmp ?_ | refine As.name (Sn.local rfl ?_) | refine Evs.cons ?_ | refine Ex.assign ?_ | refine Ex.assign2 ?_ | refine Ex.expr ?_ | refine Ex.aug rfl rfl ?_)
      refine ⟨.inl rfl, _, ?sub, rfl, rStep st u, gri, rl, sr, ?_, hfo, ?_⟩
      case sub => exact ⟨rfl, rfl, rfl, rfl, trivial⟩
      · rw [est]; exact inv.opn
      · rw [est]; simpa using hrk
    · rw [if_neg (by rw [hb]; exact Bool.false_ne_true)] at hrk
      have hd0 : ¬ st.pile.length = 0 := fun q => by rw [if_pos q] at hrk; cases hrk
      rw [if_neg hd0] at hrk
      refine Exs.cons (Ex.if (Ts.cmp (Ev.var rfl (Ev.cstr (Op.eqS (Tr.bool ⟨fun hb2 => ?_, fun hb2 => ?_⟩))))))
      · -- a closing bracket
        rw [if_pos hb2] at hrk
        have est : rStep st u = { st with a := st.a + 1, pile := st.pile.dropLast } := by unfold rStep; rw [if_neg (by rw [hb]; exact Bool.false_ne_true), if_pos hb2]
        refine Exs.cons (Ex.augSub (Ev.subL (Ev.var rfl (Ev.una (Ev.cint (Op.neg ⟨H.length + 1, _, _, _, rfl, rfl, og, hglen, .inr ⟨by decide, hlast.1, hlast.2⟩, ?_⟩))))))
        refine Ev.cint (Op.getL inv.hrl (by simp) (.inl ⟨by decide, rfl⟩) (Ev.cint (Op.iadd (OpU.setL inv.hrl (by simp) (by decide) (by simp) ?_))))
        dsimp only
        have op' : (H'.set rl (AO.list [.int (st.a + 1), .int st.b]))[H.length + 1 + 3]? = some (.list (st.pile.map .int)) := getElem?_set_ne' inv.op apl.2.2.2.2
        have hpl : (st.pile.map AV.int).getLast? = some (.int (st.pile.getLast (fun q => hd0 (by rw [q]; rfl)))) := by
          rw [List.getLast?_map, List.getLast?_eq_some_getLast (fun q => hd0 (by rw [q]; rfl))]; rfl
        refine Exs.cons (Ex.expr (Ev.meth0 PySem.F.plainAttrs_list PySem.F.slot_list_pop PySem.F.type_list_pop (Ev.var rfl ⟨kind_list op', Op.pop op' (by simp; lia) hpl ?_⟩)))
        have e2 : (st.pile.map AV.int).dropLast = st.pile.dropLast.map AV.int := by rw [List.dropLast_eq_take, List.dropLast_eq_take, List.length_map, List.map_take]
        rw [e2]
        repeat (first | (with_reducible first | refine Ev.cint ?_ | refine Ev.cstr ?_ | refine Ev.cbool ?_ | refine Ev.cnone ?_ | refine Ev.bin ?_ | refine Ev.una ?_ | refine Ts.not ?_ | refine Ts.bools ?_ | refine TsAll.and ?_ | refine TsAll.or ?_ | refine TsAll.andNil ?_ | refine TsAll.orNil ?_ | refine Tr.bool ?_ | refine As.sub ?_ | refine Evs.nil ?_ | refine Op.add ?_ | refine Op.sub ?_ | refine Op.iadd ?_ | refine Op.isub ?_ | refine Op.mul2 ?_ | refine Op.lt ?_ | refine Op.gt ?_ | refine Op.eq ?_ | refine Op.ne ?_ | refine Op.neg ?_ | refine Op.eqS ?_ | refine Op.neS ?_ | refine Ex.if ?_ | refine Ex.ret ?_ | refine Ex.brk ?_ | refine Ex.cont ?_ | refine Ev.ifx ?_ | refine Exs.cons ?_ | refine Exs.nil ?_) | refine Ev.var rfl ?_ | refine Ev.cmp ?_ | refine Ev.subL ?_ | refine Ts.cmp ?_ | refine As.name (Sn.local rfl ?_) | refine Evs.cons ?_ | refine Ex.assign ?_ | refine Ex.assign2 ?_ | refine Ex.expr ?_ | refine Ex.aug rfl rfl ?_)
        refine ⟨.inl rfl, _, ?sub, rfl, rStep st u, gri, rl, sr, ?_, hfo, ?_⟩
        case sub => exact ⟨rfl, rfl, rfl, rfl, trivial⟩
        · rw [est]; exact inv.cls
        · rw [est]; simpa using hrk
      · -- a name
        rw [if_neg (by rw [hb2]; exact Bool.false_ne_true)] at hrk
        have est : rStep st u = { gi := st.gi ++ [[st.a, st.b]], a := 0, b := 0, signs := st.signs ++ [st.pile.dropLast ++ [0]], names := st.names ++ [u], pile := st.pile.set (st.pile.length - 1) 1 } := by
          unfold rStep; rw [if_neg (by rw [hb]; exact Bool.false_ne_true), if_neg (by rw [hb2]; exact Bool.false_ne_true)]
        refine Exs.cons (Ex.expr (Ev.meth1 PySem.F.plainAttrs_list PySem.F.slot_list_append PySem.F.type_list_append (Ev.var rfl ⟨kind_list og, Evs.cons (Ev.list (Evs.cons (Ev.cint (Evs.cons (Ev.cint (Evs.nil ⟨by simp, Evs.nil (Op.append (getElem?_ext og) hglen ?_)⟩))))))⟩)))
        have e1 : gri.map AV.ref ++ [AV.ref rl] ++ [AV.ref H'.length] = (gri ++ [rl] ++ [H'.length]).map AV.ref := by simp
        rw [e1]
        dsimp only
        have os1 : ((H' ++ [AO.list [.int 0, .int 0]]).set (H.length + 1) (.list ((gri ++ [rl] ++ [H'.length]).map .ref)))[H.length + 1 + 1]? = some (.list (sr.map .ref)) := getElem?_set_ne' (getElem?_ext inv.os) (by lia)
        have op1 : ((H' ++ [AO.list [.int 0, .int 0]]).set (H.length + 1) (.list ((gri ++ [rl] ++ [H'.length]).map .ref)))[H.length + 1 + 3]? = some (.list (st.pile.map .int)) := getElem?_set_ne' (getElem?_ext inv.op) (by lia)
        have on1 : ((H' ++ [AO.list [.int 0, .int 0]]).set (H.length + 1) (.list ((gri ++ [rl] ++ [H'.length]).map .ref)))[H.length + 1 + 2]? = some (.list (st.names.map .str)) := getElem?_set_ne' (getElem?_ext inv.on) (by lia)
        refine Exs.cons (Ex.expr (Ev.meth1 PySem.F.plainAttrs_list PySem.F.slot_list_append PySem.F.type_list_append (Ev.var rfl ⟨kind_list os1, Evs.cons (Ev.bin (Ev.sliceL (Ev.var rfl ?_)))⟩)))
        show EvO _ _ _ _ _ _ _
        show Ev _ _ _ _ _ _ _
        refine Ev.una (Ev.cint (Op.neg ⟨-1, rfl, _, _, rfl, op1, by simp; lia, ?_⟩))
        rw [cut_dropLast]
        have e2 : (st.pile.map AV.int).dropLast = st.pile.dropLast.map AV.int := by rw [List.dropLast_eq_take, List.dropLast_eq_take, List.length_map, List.map_take]
        rw [e2]
        refine Ev.list (Evs.cons (Ev.cint (Evs.nil ⟨by simp, ?_⟩)))
        refine Op.catL (xs := st.pile.dropLast.map AV.int) (ys := [.int 0]) (getElem?_ext List.getElem?_concat_length) List.getElem?_concat_length (by simp; lia) (by simp) (Evs.nil ?_)
        refine Op.append (getElem?_ext (getElem?_ext (getElem?_ext os1))) (by simp; lia) ?_
        have e3 : st.pile.dropLast.map AV.int ++ [AV.int 0] = (st.pile.dropLast ++ [0]).map AV.int := by simp
        rw [e3]
        have e4 : ((((H' ++ [AO.list [.int 0, .int 0]]).set (H.length + 1) (.list ((gri ++ [rl] ++ [H'.length]).map .ref)) ++ [AO.list (st.pile.dropLast.map .int)]) ++ [AO.list [.int 0]])).length = H'.length + 3 := by simp
        rw [e4]
        have e5 : sr.map AV.ref ++ [AV.ref (H'.length + 3)] = (sr ++ [H'.length + 3]).map AV.ref := by simp
        rw [e5]
        dsimp only
        have on2 := getElem?_set_ne' (a := AO.list ((sr ++ [H'.length + 3]).map .ref)) (j := H.length + 1 + 1) (getElem?_ext (l' := [AO.list ((st.pile.dropLast ++ [0]).map .int)]) (getElem?_ext (l' := [AO.list [.int 0]]) (getElem?_ext (l' := [AO.list (st.pile.dropLast.map .int)]) on1))) (by lia)
        refine Exs.cons (Ex.expr (Ev.meth1 PySem.F.plainAttrs_list PySem.F.slot_list_append PySem.F.type_list_append (Ev.var rfl ⟨kind_list on2, Evs.cons (Ev.var rfl (Evs.nil (Op.append on2 (by simp; lia) ?_)))⟩)))
        have e6 : st.names.map AV.str ++ [AV.str u] = (st.names ++ [u]).map AV.str := by simp
        rw [e6]
        dsimp only
        have op2 : (nmH H' st (H.length + 1) rl gri sr u)[H.length + 1 + 3]? = some (.list (st.pile.map .int)) :=
          getElem?_set_ne' (getElem?_set_ne' (getElem?_ext (getElem?_ext (getElem?_ext op1))) (by lia)) (by lia)
        refine Exs.cons (Ex.assign (Ev.cint (As.sub (Ev.var rfl (Ev.una (Ev.cint (Op.neg (OpU.setLneg op2 (by simp; lia) (by decide) (by simp; lia) ?_))))))))
        have e7 : (-1 + ((st.pile.map AV.int).length : Int)).toNat = st.pile.length - 1 := by simp; lia
        rw [e7]
        have e8 : (st.pile.map AV.int).set (st.pile.length - 1) (.int 1) = (st.pile.set (st.pile.length - 1) 1).map AV.int := by rw [List.map_set]
        rw [e8]
        repeat (first | (with_reducible first | refine Ev.cint ?_ | refine Ev.cstr ?_ | refine Ev.cbool ?_ | refine Ev.cnone ?_ | refine Ev.bin ?_ | refine Ev.una ?_ | refine Ts.not ?_ | refine Ts.bools ?_ | refine TsAll.and ?_ | refine TsAll.or ?_ | refine TsAll.andNil ?_ | refine TsAll.orNil ?_ | refine Tr.bool ?_ | refine As.sub ?_ | refine Evs.nil ?_ | refine Op.add ?_ | refine Op.sub ?_ | refine Op.iadd ?_ | refine Op.isub ?_ | refine Op.mul2 ?_ | refine Op.lt ?_ | refine Op.gt ?_ | refine Op.eq ?_ | refine Op.ne ?_ | refine Op.neg ?_ | refine Op.eqS ?_ | refine Op.neS ?_ | refine Ex.if ?_ | refine Ex.ret ?_ | refine Ex.brk ?_ | refine Ex.cont ?_ | refine Ev.ifx ?_ | refine Exs.cons ?_ | refine Exs.nil ?_) | refine Ev.var rfl ?_ | refine Ev.cmp ?_ | refine Ev.subL ?_ | refine Ts.cmp ?_ | refine As.name (Sn.local rfl ?_) | refine Evs.cons ?_ | refine Ex.assign ?_ | refine Ex.assign2 ?_ | refine Ex.expr ?_ | refine Ex.aug rfl rfl ?_)
        refine ⟨.inl rfl, _, ?sub, rfl, rStep st u, gri ++ [rl], H'.length, sr ++ [H'.length + 3], ?_, hfo, ?_⟩
        case sub => exact ⟨rfl, rfl, rfl, rfl, trivial⟩
        · rw [est]; exact inv.nm
        · rw [est]; simpa using hrk
  · refine ⟨⟨[], 0, 0, [], [], []⟩, [], H.length, [], ⟨⟨_, rfl⟩, by lia, at_off (n := 1) rfl, at_off (n := 2) rfl, at_off (n := 3) rfl, at_off (n := 4) rfl, .nil, by simp, .nil, fun r hr => ?_, by simp, by simp⟩, rfl, hok⟩
    simp at hr
    rw [hr]
    exact ⟨Nat.le_refl _, by lia, by lia, by lia, by lia⟩
end Mine
end
section
open PySem PySem.W PyProof.Rows PySem.Calls
set_option maxRecDepth 100000
namespace Mine
variable {G : Gl} {k : Nat} {sc : Scope} {m : Vars} {H : List AO}

noncomputable def abStep (lt : Nat → Nat → Bool) (ts : List Nat) (st : Nat × List Nat) (j : Nat) : Nat × List Nat := if lt (ts.getD j 0) st.1 = true then (ts.getD j 0, st.2 ++ [j]) else st
noncomputable def abRow (p n : Nat) : Nat → List Nat
  | 0 => (List.range p).reverse
  | _ => (List.range (n - p - 1)).map (p + 1 + ·)
noncomputable def abAcc (lt : Nat → Nat → Bool) (ts : List Nat) (p : Nat) : Nat → List Nat
  | 0 => [p]
  | j + 1 => ((abRow p ts.length j).foldl (abStep lt ts) (ts.getD p 0, abAcc lt ts p j)).2
noncomputable def aboveP (lt : Nat → Nat → Bool) (ts : List Nat) (p : Nat) : List Nat := abAcc lt ts p 2
noncomputable def intsOf (xs : List Nat) : List Int := xs.map fun (k : Nat) => (k : Int)

theorem rng_size_dn (p : Nat) : Builtin.Range.rangeSize ((p : Int) - 1) (-1) (-1) = (p : Int) := by
  unfold Builtin.Range.rangeSize
  rw [if_neg (by decide)]
  by_cases h : (p : Int) - 1 > -1
  · rw [if_pos h]; have : (-(-1) : Int) = 1 := by decide
    rw [this, Int.ediv_one]; lia
  · rw [if_neg h]; lia
theorem rng_size_up (a n : Nat) (h : a ≤ n) : Builtin.Range.rangeSize (a : Int) (n : Int) 1 = ((n - a : Nat) : Int) := by
  unfold Builtin.Range.rangeSize
  rw [if_pos (by decide)]
  by_cases h : (a : Int) < n
  · rw [if_pos h, Int.ediv_one]; lia
  · rw [if_neg h]; lia
theorem small_of {a b c : Int} (ha : -1000 ≤ a ∧ a ≤ 1000) (hb : -1000 ≤ b ∧ b ≤ 1000) (hc : -2 ≤ c ∧ c ≤ 2) (hs : 0 ≤ Builtin.Range.rangeSize a b c ∧ Builtin.Range.rangeSize a b c ≤ 1000) : Builtin.Range.small a b c = true := by
  unfold Builtin.Range.small
  rw [fits_small (by lia) (by lia), fits_small (by lia) (by lia), fits_small (by lia) (by lia), fits_small (by lia) (by lia)]
  simp only [Bool.true_and, Bool.or_eq_true]
  right
  split
  · exact fits_small (by lia) (by lia)
  · exact fits_small (by lia) (by lia)

theorem abRow_len {p n : Nat} (hp : p < n) : ∀ j, (abRow p n j).length ≤ n
  | 0 => by simp [abRow]; lia
  | _ + 1 => by simp [abRow]; lia
set_option maxHeartbeats 2000000 in
theorem law_above_c (hK : TopIs G) {kt p : Nat} {ts : List Nat} {val : Nat → Int × Int} {Q : AV → List AO → Prop} (ht : H[kt]? = some (.list (ts.map .ref))) (hp : p < ts.length) (hlen : ts.length ≤ 30) (T : Things H val ts)
    (hq : ∀ (l : List AO) (r : Nat) (ns : List Int), (H ++ l)[r]? = some (.list (ns.map .int)) → ns.Perm (intsOf (aboveP (ltv val) ts p)) → ns.Pairwise (· ≤ ·) → Q (.ref r) (H ++ l)) : Op G (k + 1) (callOf (.ref (G.adr (Str.ofString "_law_above")))) [.ref kt, .int p] H Q := by
  have eF := Eq.refl (fnD 21)
  conv at eF => rhs; whnf
  obtain ⟨oF, pmF, cdF, docF, hmF, hoF, hdF, hcdF⟩ := hK.at (by kernel_rfl) eF
  dsimp only at hdF
  refine Op.doc hoF hdF hcdF (fun cvs h => ?_) (by decide) (by rfl) (by decide) (by decide) (by decide) ?_
  · obtain ⟨a, b, rfl⟩ := two_of h; rfl
  dsimp only
  refine Exs.cons (Ex.assign (Ev.list (Evs.cons (Ev.var rfl (Evs.nil ⟨by simp, As.name (Sn.local rfl ?_)⟩)))))
  dsimp only
  refine Exs.cons (Ex.for (ItNew.list (Ev.list (Evs.cons (callTy (hK.no (by kernel_rfl)) boot_range' rfl ?_)))))
  repeat (first | (with_reducible first | refine Ev.cint ?_ | refine Ev.cstr ?_ | refine Ev.cbool ?_ | refine Ev.cnone ?_ | refine Ev.bin ?_ | refine Ev.una ?_ | refine Ts.not ?_ | refine Ts.bools ?_ | refine TsAll.and ?_ | refine TsAll.or ?_ | refine TsAll.andNil ?_ | refine TsAll.orNil ?_ | refine Tr.bool ?_ | refine As.sub ?_ | refine Evs.nil ?_ | refine Op.add ?_ | refine Op.sub ?_ | refine Op.iadd ?_ | refine Op.isub ?_ | refine Op.mul2 ?_ | refine Op.lt ?_ | refine Op.gt ?_ | refine Op.eq ?_ | refine Op.ne ?_ | refine Op.neg ?_ | refine Op.eqS ?_ | refine Op.neS ?_ | refine Ex.if ?_ | refine Ex.ret ?_ | refine Ex.brk ?_ | refine Ex.cont ?_ | refine Ev.ifx ?_) | refine Ev.var rfl ?_ | refine Ev.cmp ?_ | refine Ev.subL ?_ | refine Ts.cmp ?_ | refine As.name (Sn.local rfl ?_) | refine Evs.cons ?_ | refine Ex.assign ?_ | refine Ex.assign2 ?_ | refine Ex.expr ?_ | refine Ex.aug rfl rfl ?_)
  refine Op.range3 (by decide) (by decide) ?_
  refine Evs.cons (callTy (hK.no (by kernel_rfl)) boot_range' rfl ?_)
  refine Evs.cons (Ev.bin (Ev.var rfl (Ev.cint (Op.add ?_))))
  refine Evs.cons (callBi (hK.no (by kernel_rfl)) boot_len' rfl (Evs.cons (Ev.var rfl (Evs.nil (Op.lenL (getElem?_ext (getElem?_ext ht)) (by simp; lia) (Evs.nil (Op.range2 ?_)))))))
  rw [List.length_map]
  refine Evs.nil ⟨by simp, ?_⟩
  obtain ⟨n, hn⟩ : ∃ n, n = ts.length := ⟨_, rfl⟩
  rw [← hn]
  simp only [List.length_append, List.length_cons, List.length_nil, List.append_assoc, List.cons_append, List.nil_append]
  refine ⟨H.length + 3, [.ref (H.length + 1), .ref (H.length + 2)], rfl, at_off (n := 3) rfl, ?_⟩
  have hv : ∀ m0 : Vars, m0 = [(Str.ofString "things", AV.ref kt), (Str.ofString "place", .int p), (Str.ofString "above", .ref H.length)] → m0 = m0 := fun _ _ => rfl
  clear hv
  refine FoI.less (m' := [(Str.ofString "things", AV.ref kt), (Str.ofString "place", .int p), (Str.ofString "above", .ref H.length)])
    (FoI.inv (ItL (H.length + 3)) (fun j m' H' => m' = [(Str.ofString "things", AV.ref kt), (Str.ofString "place", .int p), (Str.ofString "above", .ref H.length)] ∧ ∃ l : List AO,
      H' = H ++ AO.list ((intsOf (abAcc (ltv val) ts p j)).map .int) :: AO.rng ((p : Int) - 1) (-1) (-1) :: AO.rng ((p : Int) + 1) (n : Int) 1 :: AO.list [.ref (H.length + 1), .ref (H.length + 2)] :: l ∧ (abAcc (ltv val) ts p j).length ≤ 1 + 30 * j) 2 (fun _ => ItL.pers) ?_ ?_ 2 0 _ _ (by lia) (Nat.zero_le _) ⟨rfl, [], rfl, by simp [abAcc]⟩) (SubL.sub ⟨rfl, rfl, rfl, trivial⟩)
  · rintro m' H' ⟨rfl, l, rfl, hal⟩
    refine ⟨NxEnd.list (at_off (n := 3) rfl) (by simp), ?_⟩
    dsimp only
    refine Exs.cons (Ex.ret (callBi (hK.no (by kernel_rfl)) boot_sorted' rfl (Evs.cons (Ev.var rfl (Evs.nil (Op.sorted (ns := intsOf (abAcc (ltv val) ts p 2)) (at_off (n := 0) rfl) (by simp [intsOf]; lia) fun ns' h1 h2 => ?_))))))
    rw [List.append_assoc]
    exact hq _ _ ns' (by rw [← List.append_assoc]; exact List.getElem?_concat_length) h1 h2
  · rintro j m' H' hj ⟨rfl, l, rfl, hal⟩
    generalize hHH : H ++ AO.list ((intsOf (abAcc (ltv val) ts p j)).map .int) :: AO.rng ((p : Int) - 1) (-1) (-1) :: AO.rng ((p : Int) + 1) (n : Int) 1 :: AO.list [.ref (H.length + 1), .ref (H.length + 2)] :: l = H1
    obtain ⟨rr, a, b, c, hrr, hrow, hsm, hsz, hgt⟩ : ∃ (rr : Nat) (a b c : Int), ([AV.ref (H.length + 1), AV.ref (H.length + 2)])[j]? = some (.ref rr) ∧ H1[rr]? = some (AO.rng a b c) ∧ Builtin.Range.small a b c = true ∧
        Builtin.Range.rangeSize a b c = ((abRow p n j).length : Int) ∧ ∀ i (h : i < (abRow p n j).length), a + (i : Int) * c = (((abRow p n j)[i] : Nat) : Int) ∧ (abRow p n j)[i] < n := by
      match j, hj with
      | 0, _ =>
        have hs : Builtin.Range.rangeSize ((p : Int) - 1) (-1) (-1) = ((abRow p n 0).length : Int) := by rw [rng_size_dn]; simp [abRow]
        refine ⟨H.length + 1, (p : Int) - 1, -1, -1, rfl, by rw [← hHH]; exact at_off (n := 1) rfl, small_of (by lia) (by lia) (by lia) (by rw [rng_size_dn]; lia), hs, fun i h => ?_⟩
        have h' : i < p := by simpa [abRow] using h
        have e : (abRow p n 0)[i] = p - 1 - i := by simp [abRow]
        rw [e]; exact ⟨by lia, by lia⟩
      | 1, _ =>
        have ec : ((p : Int) + 1) = ((p + 1 : Nat) : Int) := by lia
        have hs0 : Builtin.Range.rangeSize ((p : Int) + 1) (n : Int) 1 = ((n - (p + 1) : Nat) : Int) := by rw [ec]; exact rng_size_up _ _ (by lia)
        have hs : Builtin.Range.rangeSize ((p : Int) + 1) (n : Int) 1 = ((abRow p n 1).length : Int) := by rw [hs0]; simp [abRow]; lia
        refine ⟨H.length + 2, (p : Int) + 1, n, 1, rfl, by rw [← hHH]; exact at_off (n := 2) rfl, small_of (by lia) (by lia) (by lia) (by rw [hs0]; lia), hs, fun i h => ?_⟩
        have h' : i < n - p - 1 := by simpa [abRow] using h
        have e : (abRow p n 1)[i] = p + 1 + i := by simp [abRow]
        rw [e]; exact ⟨by lia, by lia⟩
    have hL1 : H1[H.length + 3]? = some (AO.list [.ref (H.length + 1), .ref (H.length + 2)]) := by rw [← hHH]; exact at_off (n := 3) rfl
    have hA1 : H1[H.length]? = some (AO.list ((intsOf (abAcc (ltv val) ts p j)).map .int)) := by rw [← hHH]; exact at_off (n := 0) rfl
    have hT1 : H1[kt]? = some (AO.list (ts.map .ref)) := by rw [← hHH]; exact getElem?_ext ht
    have T1 : Things H1 val ts := fun t hht => by rw [← hHH]; exact getElem?_ext (T t hht)
    refine ⟨_, _, NxItem.list hL1 hrr, As.name (Sn.local rfl ?_)⟩
    refine Exs.cons (Ex.assign (Ev.subL (Ev.var rfl (Ev.var rfl ⟨kt, _, _, _, rfl, rfl, hT1, by simp; lia, .inl ⟨Int.natCast_nonneg _, by rw [Int.toNat_natCast]; exact getElem?_map_ref hp⟩, As.name (Sn.local rfl ?_)⟩))))
    dsimp only
    refine Exs.cons (Ex.for (ItNew.rng (Ev.var rfl ⟨rr, a, b, c, rfl, hrow, hsm, ?_⟩)))
    rw [hsz, ← ItRI.start]
    have hrl : (abRow p n j).length ≤ 30 := by have := abRow_len (n := n) (p := p) (by lia) j; lia
    refine FoI.less (m' := [(Str.ofString "things", AV.ref kt), (Str.ofString "place", .int p), (Str.ofString "above", .ref H.length), (Str.ofString "least", .ref (ts.getD p 0))])
      (FoI.inv (ItRI a c (abRow p n j).length) (fun i m' H' => ∃ st : Nat × List Nat, m' = [(Str.ofString "things", AV.ref kt), (Str.ofString "place", .int p), (Str.ofString "above", .ref H.length), (Str.ofString "least", .ref st.1)] ∧
        H' = H1.set H.length (AO.list ((intsOf st.2).map .int)) ∧ st.2.length ≤ 1 + 30 * j + i ∧ st.1 ∈ ts ∧ ((abRow p n j).drop i).foldl (abStep (ltv val) ts) st = (abRow p n j).foldl (abStep (ltv val) ts) (ts.getD p 0, abAcc (ltv val) ts p j))
        (abRow p n j).length (fun _ => ItRI.pers) ?_ ?_ (abRow p n j).length 0 _ _ (by lia) (Nat.zero_le _) ⟨(ts.getD p 0, abAcc (ltv val) ts p j), rfl, (set_self hA1).symm, by simpa using hal, getD_mem hp, rfl⟩) (SubL.sub ⟨rfl, rfl, rfl, rfl, trivial⟩)
    · rintro m' H' ⟨st, rfl, rfl, hsl, hst, hfo⟩
      refine ⟨NxEnd.rngI, ?_⟩
      rw [List.drop_length] at hfo
      have hst2 : st = (abRow p n j).foldl (abStep (ltv val) ts) (ts.getD p 0, abAcc (ltv val) ts p j) := hfo
      have eacc : abAcc (ltv val) ts p (j + 1) = st.2 := by rw [hst2, abAcc, hn]
      dsimp only
      refine Exs.nil ⟨.inl rfl, _, ?sub, rfl, l, ?_, ?_⟩
      case sub => exact ⟨rfl, rfl, rfl, trivial⟩
      · rw [eacc, ← hHH, List.set_append_right _ _ (Nat.le_refl _), Nat.sub_self]; rfl
      · rw [eacc]; lia
    · rintro i m' H' hi' ⟨st, rfl, rfl, hsl, hst, hfo⟩
      obtain ⟨hg1, hg2⟩ := hgt i hi'
      rw [List.drop_eq_getElem_cons hi', List.foldl_cons] at hfo
      generalize hki : (abRow p n j)[i] = ki at hg1 hg2 hfo
      refine ⟨_, _, NxItem.rngI hi', As.name (Sn.local rfl ?_)⟩
      rw [hg1]
      have hlH : H.length < H1.length := (List.getElem?_eq_some_iff.mp hA1).1
      have hne : ∀ t ∈ ts, t ≠ H.length := fun t hht => by have := (List.getElem?_eq_some_iff.mp (T t hht)).1; lia
      have hkt : H.length ≠ kt := by have := (List.getElem?_eq_some_iff.mp ht).1; lia
      have hT2 : (H1.set H.length (AO.list ((intsOf st.2).map .int)))[kt]? = some (AO.list (ts.map .ref)) := getElem?_set_ne' hT1 hkt
      have hA2 : (H1.set H.length (AO.list ((intsOf st.2).map .int)))[H.length]? = some (AO.list ((intsOf st.2).map .int)) := get_set' hA1
      have T2 : Things (H1.set H.length (AO.list ((intsOf st.2).map .int))) val ts := T1.set hne _
      have hkl : ki < ts.length := by lia
      refine Exs.cons (Ex.if (Ts.cmp (Ev.subL (Ev.var rfl (Ev.var rfl ⟨kt, _, _, _, rfl, rfl, hT2, by simp; lia, .inl ⟨Int.natCast_nonneg _, by rw [Int.toNat_natCast]; exact getElem?_map_ref hkl⟩, ?_⟩)))))
      refine Ev.var rfl (lt2 (T2 _ (getD_mem hkl)) (T2 _ hst) (Tr.bool ⟨fun hb => ?_, fun hb => ?_⟩))
      · have est : abStep (ltv val) ts st ki = (ts.getD ki 0, st.2 ++ [ki]) := by unfold abStep; rw [if_pos hb]
        refine Exs.cons (Ex.assign (Ev.subL (Ev.var rfl (Ev.var rfl ⟨kt, _, _, _, rfl, rfl, hT2, by simp; lia, .inl ⟨Int.natCast_nonneg _, by rw [Int.toNat_natCast]; exact getElem?_map_ref hkl⟩, As.name (Sn.local rfl ?_)⟩))))
        dsimp only
        refine Exs.cons (Ex.expr (Ev.meth1 PySem.F.plainAttrs_list PySem.F.slot_list_append PySem.F.type_list_append (Ev.var rfl ⟨kind_list hA2, Evs.cons (Ev.var rfl (Evs.nil (Op.append hA2 (by simp [intsOf]; lia) ?_)))⟩)))
        have e2 : (intsOf st.2).map AV.int ++ [AV.int (ki : Int)] = (intsOf (st.2 ++ [ki])).map AV.int := by simp [intsOf]
        rw [e2, set_same_heap]
        repeat (first | (with_reducible first | refine Ev.cint ?_ | refine Ev.cstr ?_ | refine Ev.cbool ?_ | refine Ev.cnone ?_ | refine Ev.bin ?_ | refine Ev.una ?_ | refine Ts.not ?_ | refine Ts.bools ?_ | refine TsAll.and ?_ | refine TsAll.or ?_ | refine TsAll.andNil ?_ | refine TsAll.orNil ?_ | refine Tr.bool ?_ | refine As.sub ?_ | refine Evs.nil ?_ | refine Op.add ?_ | refine Op.sub ?_ | refine Op.iadd ?_ | refine Op.isub ?_ | refine Op.mul2 ?_ | refine Op.lt ?_ | refine Op.gt ?_ | refine Op.eq ?_ | refine Op.ne ?_ | refine Op.neg ?_ | refine Op.eqS ?_ | refine Op.neS ?_ | refine Ex.if ?_ | refine Ex.ret ?_ | refine Ex.brk ?_ | refine Ex.cont ?_ | refine Ev.ifx ?_ | refine Exs.cons ?_ | refine Exs.nil ?_) | refine Ev.var rfl ?_ | refine Ev.cmp ?_ | refine Ev.subL ?_ | refine Ts.cmp ?_ | refine As.name (Sn.local rfl ?_) | refine Evs.cons ?_ | refine Ex.assign ?_ | refine Ex.assign2 ?_ | refine Ex.expr ?_ | refine Ex.aug rfl rfl ?_)
        refine ⟨.inl rfl, _, ?sub, abStep (ltv val) ts st ki, rfl, by rw [est], by rw [est]; simp; lia, by rw [est]; exact getD_mem hkl, hfo⟩
        case sub => rw [est]; exact ⟨rfl, rfl, rfl, rfl, trivial⟩
      · have est : abStep (ltv val) ts st ki = st := by unfold abStep; rw [hb]; rfl
        repeat (first | (with_reducible first | refine Ev.cint ?_ | refine Ev.cstr ?_ | refine Ev.cbool ?_ | refine Ev.cnone ?_ | refine Ev.bin ?_ | refine Ev.una ?_ | refine Ts.not ?_ | refine Ts.bools ?_ | refine TsAll.and ?_ | refine TsAll.or ?_ | refine TsAll.andNil ?_ | refine TsAll.orNil ?_ | refine Tr.bool ?_ | refine As.sub ?_ | refine Evs.nil ?_ | refine Op.add ?_ | refine Op.sub ?_ | refine Op.iadd ?_ | refine Op.isub ?_ | refine Op.mul2 ?_ | refine Op.lt ?_ | refine Op.gt ?_ | refine Op.eq ?_ | refine Op.ne ?_ | refine Op.neg ?_ | refine Op.eqS ?_ | refine Op.neS ?_ | refine Ex.if ?_ | refine Ex.ret ?_ | refine Ex.brk ?_ | refine Ex.cont ?_ | refine Ev.ifx ?_ | refine Exs.cons ?_ | refine Exs.nil ?_) | refine Ev.var rfl ?_ | refine Ev.cmp ?_ | refine Ev.subL ?_ | refine Ts.cmp ?_ | refine As.name (Sn.local rfl ?_) | refine Evs.cons ?_ | refine Ex.assign ?_ | refine Ex.assign2 ?_ | refine Ex.expr ?_ | refine Ex.aug rfl rfl ?_)
        refine ⟨.inl rfl, _, ?sub, abStep (ltv val) ts st ki, rfl, by rw [est], by rw [est]; lia, by rw [est]; exact hst, hfo⟩
        case sub => rw [est]; exact ⟨rfl, rfl, rfl, rfl, trivial⟩
end Mine
end
section
open PySem PySem.W PyProof.Rows PySem.Calls
set_option maxRecDepth 100000
namespace Mine
variable {G : Gl} {k : Nat} {sc : Scope} {m : Vars} {H : List AO}

theorem VRs.ofItems {ρ : List Addr} {vs : List Value} {xs : List AV} (hl : vs.length = xs.length) (h : ∀ (i : Nat) (v : Value) (x : AV), vs[i]? = some v → xs[i]? = some x → VR ρ x v) : VRs ρ xs vs := by
  induction xs generalizing vs with
  | nil => cases vs with
    | nil => exact .nil
    | cons => cases hl
  | cons x xs ih => cases vs with
    | nil => cases hl
    | cons v vs => exact .cons (h 0 v x rfl rfl) (ih (by simpa using hl) fun i v' x' h1 h2 => h (i + 1) v' x' (by simpa using h1) (by simpa using h2))
theorem Op.listR {j : Nat} {a b c : Int} {n : Nat} {Q : AV → List AO → Prop} (hj : H[j]? = some (.rng a b c)) (hsm : Builtin.Range.small a b c = true) (hn : Builtin.Range.rangeSize a b c = n) (hlen : n ≤ 1000)
    (h : Q (.ref H.length) (H ++ [.list ((List.range n).map fun (i : Nat) => AV.int (a + i * c))])) : Op G k (callOf (.type "list")) [.ref j] H Q := .call1 fun A ρ s v hr d r1 => by
  obtain ⟨ad, ha, rfl⟩ := r1
  obtain ⟨a', ha', xo⟩ := d.at hj
  rw [ha] at ha'; cases ha'
  obtain ⟨t, u, w, hrg⟩ := xo
  refine call_list_range hr.handled hrg hsm hn (by lia) fun h' tk acc' c' hk hD hit => ?_
  refine PE.newObj (ao := .list ((List.range n).map fun (i : Nat) => AV.int (a + i * c))) d fresh_none hk ⟨acc'.toList, c', hD, ?_⟩ h
  refine VRs.ofItems (by simp [hit.1]) fun i v x h1 h2 => ?_
  obtain ⟨t', e⟩ := hit.2 i v (by simpa using h1)
  have hi : i < n := by
    have := (List.getElem?_eq_some_iff.mp h2).1
    simpa using this
  rw [List.getElem?_map, List.getElem?_range hi] at h2
  cases h2
  exact ⟨t', e⟩

/- the nest's pure twin -/
structure NSt where
  heap : List Nat
  words : List Str
  other : List Nat
noncomputable abbrev sE : Str := Str.ofString ""
noncomputable def nWord (ps words : List Str) (p : Nat) : Str := (((Str.ofString "(" ++ words.getD p sE) ++ ps.getD p sE) ++ words.getD (p + 2) sE) ++ Str.ofString ")"
noncomputable def nFst (st : NSt) (p : Nat) : Nat := if (st.words.getD p sE != sE) = true then st.other.getD p 0 else p + 1
noncomputable def nLst (st : NSt) (p : Nat) : Nat := if (st.words.getD (p + 2) sE != sE) = true then st.other.getD (p + 2) 0 else p + 1
noncomputable def nStep (bf : Nat → Nat → Bool) (pl : Nat → Nat) (ps : List Str) (st : NSt) : NSt :=
  let q := hpop bf st.heap
  let p := pl q.1
  ⟨q.2, (st.words.set (nFst st p) (nWord ps st.words p)).set (nLst st p) (nWord ps st.words p), (st.other.set (nFst st p) (nLst st p)).set (nLst st p) (nFst st p)⟩
noncomputable def nGo (bf : Nat → Nat → Bool) (pl : Nat → Nat) (ps : List Str) : Nat → NSt → NSt
  | 0, st => st
  | i + 1, st => nGo bf pl ps i (nStep bf pl ps st)
noncomputable def nestP (bf : Nat → Nat → Bool) (pl : Nat → Nat) (ps : List Str) (ts : List Nat) : Str :=
  (nGo bf pl ps ts.length ⟨hfy bf ts, List.replicate (ts.length + 2) sE, List.range (ts.length + 2)⟩).words.getD 1 sE

theorem hpop_len {bf : Nat → Nat → Bool} {xs : List Nat} (h : 0 < xs.length) : (hpop bf xs).2.length = xs.length - 1 ∧ (hpop bf xs).1 ∈ xs ∧ ∀ t ∈ (hpop bf xs).2, t ∈ xs := by
  unfold hpop
  split
  · exact ⟨by simp; lia, getD_mem (by lia), fun _ h => by cases h⟩
  · have hl : 0 < (xs.dropLast.set 0 (xs.getD (xs.length - 1) 0)).length := by simp; lia
    refine ⟨by rw [su_length hl]; simp, getD_mem h, fun t ht => ?_⟩
    rcases List.mem_or_eq_of_mem_set (su_mem hl ht) with q | q
    · rw [List.dropLast_eq_take] at q; exact List.mem_of_mem_take q
    · rw [q]; exact getD_mem (by lia)
structure NInv (ts : List Nat) (st : NSt) (i : Nat) : Prop where
  hl : st.heap.length + i = ts.length
  hm : ∀ t ∈ st.heap, t ∈ ts
  wl : st.words.length = ts.length + 2
  ol : st.other.length = ts.length + 2
  om : ∀ o ∈ st.other, o < ts.length + 2
  wb : ∀ w ∈ st.words, w.length + 10 ≤ 10 * 2 ^ i
theorem getD_memS {xs : List Str} {i : Nat} (h : i < xs.length) : xs.getD i sE ∈ xs := by
  rw [List.getD_eq_getElem?_getD, List.getElem?_eq_getElem h]; exact List.getElem_mem h
theorem str_app_len (x y : Str) : (x ++ y).length = x.length + y.length := by
  show (x.cps ++ y.cps).size = x.cps.size + y.cps.size
  simp
theorem nFst_lt {ts : List Nat} {st : NSt} {i p : Nat} (v : NInv ts st i) (hp : p < ts.length) : nFst st p < ts.length + 2 ∧ nLst st p < ts.length + 2 := by
  constructor
  · unfold nFst; split
    · exact v.om _ (getD_mem (by rw [v.ol]; lia))
    · lia
  · unfold nLst; split
    · exact v.om _ (getD_mem (by rw [v.ol]; lia))
    · lia
theorem NInv.step {bf : Nat → Nat → Bool} {pl : Nat → Nat} {ps : List Str} {ts : List Nat} {st : NSt} {i : Nat} (v : NInv ts st i) (hi : i < ts.length) (hpl : ∀ t ∈ ts, pl t < ts.length) (hpp : ∀ w ∈ ps, w.length ≤ 8) (hps : ps.length = ts.length) : NInv ts (nStep bf pl ps st) (i + 1) := by
  have h0 : 0 < st.heap.length := by have := v.hl; lia
  obtain ⟨h1, h2, h3⟩ := hpop_len (bf := bf) h0
  have hp := hpl _ (v.hm _ h2)
  obtain ⟨hf, hl⟩ := nFst_lt v hp
  refine ⟨?_, fun t ht => v.hm t (h3 t ht), by simp [nStep, v.wl], by simp [nStep, v.ol], fun o ho => ?_, fun w hw => ?_⟩
  · show (hpop bf st.heap).2.length + (i + 1) = _
    have := v.hl; lia
  · rcases List.mem_or_eq_of_mem_set (show o ∈ (st.other.set _ _).set _ _ from ho) with q | q
    · rcases List.mem_or_eq_of_mem_set q with r | r
      · exact v.om o r
      · rw [r]; exact hl
    · rw [q]; exact hf
  · have hw' : (nWord ps st.words (pl (hpop bf st.heap).1)).length + 10 ≤ 10 * 2 ^ (i + 1) := by
      unfold nWord
      simp only [str_app_len]
      have a1 := v.wb _ (getD_memS (xs := st.words) (i := pl (hpop bf st.heap).1) (by rw [v.wl]; lia))
      have a2 := v.wb _ (getD_memS (xs := st.words) (i := pl (hpop bf st.heap).1 + 2) (by rw [v.wl]; lia))
      have a3 := hpp _ (getD_memS (xs := ps) (i := pl (hpop bf st.heap).1) (by lia))
      have b1 : (Str.ofString "(").length = 1 := by decide
      have b2 : (Str.ofString ")").length = 1 := by decide
      rw [b1, b2, Nat.pow_succ]; lia
    have hold : ∀ w ∈ st.words, w.length + 10 ≤ 10 * 2 ^ (i + 1) := fun w hw => by
      have := v.wb w hw
      rw [Nat.pow_succ]; lia
    rcases List.mem_or_eq_of_mem_set (show w ∈ (st.words.set _ _).set _ _ from hw) with q | q
    · rcases List.mem_or_eq_of_mem_set q with r | r
      · exact hold w r
      · rw [r]; exact hw'
    · rw [q]; exact hw'
theorem hfy_len {bf : Nat → Nat → Bool} {xs : List Nat} : (hfy bf xs).length = xs.length ∧ ∀ t ∈ hfy bf xs, t ∈ xs :=
  ⟨hfyGo_length _ _ (by lia), fun _ ht => hfyGo_mem _ _ (by lia) ht⟩
theorem set_off {l : List AO} {n : Nat} {a : AO} : (H ++ l).set (H.length + n) a = H ++ l.set n a := by
  rw [List.set_append_right _ _ (Nat.le_add_right _ _), Nat.add_sub_cancel_left]

noncomputable abbrev nH (H : List AO) (st : NSt) (n : Nat) (l : List AO) : List AO :=
  H ++ AO.list (st.heap.map .ref) :: AO.rng 0 (n / 2 : Nat) 1 :: AO.list [.str sE] :: AO.list (st.words.map .str) :: AO.rng 0 ((n + 2 : Nat) : Int) 1 :: AO.list ((intsOf st.other).map .int) :: l

set_option maxHeartbeats 2000000 in
theorem law_nest_c (hK : TopIs G) {kt kp : Nat} {ts : List Nat} {ps : List Str} {val : Nat → Int × Int} {pl : Nat → Nat} {Q : AV → List AO → Prop} (ht : H[kt]? = some (.list (ts.map .ref))) (hp : H[kp]? = some (.list (ps.map .str))) (hlen : ts.length ≤ 7) (hps : ps.length = ts.length)
    (T : Things H val ts) (hpl : ∀ t ∈ ts, (val t).2 = (pl t : Int) ∧ pl t < ts.length) (hpp : ∀ w ∈ ps, w.length ≤ 8)
    (hq : ∀ l, Q (.str (nestP (fun a b => ltv val b a) pl ps ts)) (H ++ l)) : Op G (k + 4) (callOf (.ref (G.adr (Str.ofString "_law_nest")))) [.ref kt, .ref kp] H Q := by
  have hTlt : ∀ t ∈ ts, t < H.length := fun t htt => (List.getElem?_eq_some_iff.mp (T t htt)).1
  have eF := Eq.refl (fnD 19)
  conv at eF => rhs; whnf
  obtain ⟨oF, pmF, cdF, docF, hmF, hoF, hdF, hcdF⟩ := hK.at (by kernel_rfl) eF
  dsimp only at hdF
  refine Op.doc hoF hdF hcdF (fun cvs h => ?_) (by decide) (by rfl) (by decide) (by decide) (by decide) ?_
  · obtain ⟨a, b, rfl⟩ := two_of h; rfl
  dsimp only
  refine Exs.cons (Ex.assign (callTy (hK.no (by kernel_rfl)) boot_list' rfl (Evs.cons (Ev.var rfl (Evs.nil (Op.listL ht (by simp; lia) (As.name (Sn.local rfl ?_))))))))
  dsimp only
  refine Exs.cons (Ex.expr (callTop hK (by kernel_rfl) rfl (Evs.cons (Ev.var rfl (Evs.nil ?_)))))
  refine heapify_max_c (val := val) hK List.getElem?_concat_length (by lia) (fun t htt => getElem?_ext (T t htt)) (fun t htt => by have := hTlt t htt; lia) fun H1 e1 => ?_
  have eH1 : H1 = H ++ [AO.list ((hfy (fun a b => ltv val b a) ts).map .ref), AO.rng 0 (ts.length / 2 : Nat) 1] := by
    rw [e1, List.append_assoc, ← Nat.add_zero H.length, set_off]; rfl
  clear e1
  subst eH1
  dsimp only
  have lenT : ∀ {l : List AO} {Q' : AV → List AO → Prop}, Q' (.int (ts.length : Int)) (H ++ l) → Op G (k + 3) (callOf (.builtin "len")) [.ref kt] (H ++ l) Q' := fun {l Q'} h => Op.lenL (getElem?_ext ht) (by simp; lia) (by rw [List.length_map]; exact h)
  refine Exs.cons (Ex.assign (Ev.bin (Ev.list (Evs.cons (Ev.cstr (Evs.nil ⟨by simp, ?_⟩))))))
  refine Ev.bin (callBi (hK.no (by kernel_rfl)) boot_len' rfl (Evs.cons (Ev.var rfl (Evs.nil ?_))))
  rw [List.append_assoc]
  refine lenT (Ev.cint (Op.add ?_))
  rw [← List.append_assoc]
  refine Op.rep1 List.getElem?_concat_length (by lia) (by lia) (As.name (Sn.local rfl ?_))
  have en : ((ts.length : Int) + 2).toNat = ts.length + 2 := by lia
  have en2 : ((ts.length : Int) + 2) = ((ts.length + 2 : Nat) : Int) := by lia
  rw [en]
  dsimp only
  refine Exs.cons (Ex.assign (callTy (hK.no (by kernel_rfl)) boot_list' rfl ?_))
  refine Evs.cons (callTy (hK.no (by kernel_rfl)) boot_range' rfl ?_)
  refine Evs.cons (Ev.bin (callBi (hK.no (by kernel_rfl)) boot_len' rfl (Evs.cons (Ev.var rfl (Evs.nil ?_)))))
  rw [List.append_assoc, List.append_assoc]
  refine lenT (Ev.cint (Op.add (Evs.nil (Op.range1 (Evs.nil ?_)))))
  rw [en2]
  refine Op.listR List.getElem?_concat_length (rng_small (by lia)) (rng_size _) (by lia) (As.name (Sn.local rfl ?_))
  dsimp only
  simp only [List.length_append, List.length_cons, List.length_nil, List.append_assoc, List.cons_append, List.nil_append]
  have eoth : (List.range (ts.length + 2)).map (fun (i : Nat) => AV.int (0 + (i : Int) * 1)) = (intsOf (List.range (ts.length + 2))).map AV.int := by
    unfold intsOf; rw [List.map_map]; congr 1; funext i; simp
  have ewd : List.replicate (ts.length + 2) (AV.str sE) = (List.replicate (ts.length + 2) sE).map AV.str := by simp
  rw [eoth]
  show Exs G (k + 3) _ _ _ (H ++ AO.list ((hfy (fun a b => ltv val b a) ts).map .ref) :: AO.rng 0 (ts.length / 2 : Nat) 1 :: AO.list [.str sE] :: AO.list (List.replicate (ts.length + 2) (AV.str sE)) :: AO.rng 0 ((ts.length + 2 : Nat) : Int) 1 :: AO.list ((intsOf (List.range (ts.length + 2))).map .int) :: []) _
  rw [ewd]
  refine Exs.cons (Ex.for (ItNew.list (Ev.var rfl ⟨kt, _, rfl, getElem?_ext ht, ?_⟩)))
  refine FoI.less (m' := [(Str.ofString "pieces", AV.ref kp), (Str.ofString "heap", .ref H.length), (Str.ofString "words", .ref (H.length + 3)), (Str.ofString "other", .ref (H.length + 5))])
    (FoI.inv (ItL kt) (fun i m' H' => m' = [(Str.ofString "pieces", AV.ref kp), (Str.ofString "heap", .ref H.length), (Str.ofString "words", .ref (H.length + 3)), (Str.ofString "other", .ref (H.length + 5))] ∧ ∃ (st : NSt) (l : List AO),
      H' = nH H st ts.length l ∧ NInv ts st i ∧ nGo (fun a b => ltv val b a) pl ps (ts.length - i) st = nGo (fun a b => ltv val b a) pl ps ts.length ⟨hfy (fun a b => ltv val b a) ts, List.replicate (ts.length + 2) sE, List.range (ts.length + 2)⟩) ts.length (fun _ => ItL.pers) ?_ ?_ ts.length 0 _ _ (by lia) (Nat.zero_le _)
      ⟨rfl, ⟨hfy (fun a b => ltv val b a) ts, List.replicate (ts.length + 2) sE, List.range (ts.length + 2)⟩, [], rfl, ?_, rfl⟩) (SubL.sub ⟨rfl, rfl, rfl, rfl, trivial⟩)
  · rintro m' H' ⟨rfl, st, l, rfl, v, hgo⟩
    refine ⟨NxEnd.list (getElem?_ext ht) (by simp), ?_⟩
    rw [Nat.sub_self] at hgo
    have hgo' : st = _ := hgo
    dsimp only
    have hw : (nH H st ts.length l)[H.length + 3]? = some (AO.list (st.words.map .str)) := at_off (n := 3) rfl
    have h1 : (st.words.map AV.str)[(1 : Int).toNat]? = some (.str (st.words.getD 1 sE)) := by
      have hlt : 1 < st.words.length := by rw [v.wl]; lia
      rw [show (1 : Int).toNat = 1 from rfl, List.getElem?_map, List.getElem?_eq_getElem hlt, List.getD_eq_getElem?_getD, List.getElem?_eq_getElem hlt]; rfl
    refine Exs.cons (Ex.ret (Ev.subL (Ev.var rfl (Ev.cint ⟨H.length + 3, _, _, _, rfl, rfl, hw, by simp [v.wl]; lia, .inl ⟨by decide, h1⟩, ?_⟩))))
    rw [hgo']; exact hq _
  · rintro i m' H' hi' ⟨rfl, st, l, rfl, v, hgo⟩
    refine ⟨_, _, NxItem.list (getElem?_ext ht) (by rw [List.getElem?_map, List.getElem?_eq_getElem hi']; rfl), As.name (Sn.local rfl ?_)⟩
    have es : ts.length - i = (ts.length - (i + 1)) + 1 := by lia
    rw [es, nGo] at hgo
    have v' := v.step (bf := fun a b => ltv val b a) (pl := pl) (ps := ps) hi' (fun t htt => (hpl t htt).2) hpp hps
    have h0 : 0 < st.heap.length := by have := v.hl; lia
    obtain ⟨q1, q2, q3⟩ := hpop_len (bf := fun a b => ltv val b a) h0
    have htin := v.hm _ q2
    obtain ⟨hpv, hplt⟩ := hpl _ htin
    have hTn : ∀ (l' : List AO), Things (H ++ l') val ts := fun l' t htt => getElem?_ext (T t htt)
    refine Exs.cons (Ex.assign (callTop hK (by kernel_rfl) rfl (Evs.cons (Ev.var rfl (Evs.nil ?_)))))
    have hhp : (nH H st ts.length l)[H.length]? = some (AO.list (st.heap.map .ref)) := at_off (n := 0) rfl
    refine heappop_max_c (val := val) hK hhp h0 (by have := v.hl; lia) (fun t htt => hTn _ t (v.hm t htt)) (fun t htt => by have := hTlt t (v.hm t htt); lia) ?_
    have eset : (nH H st ts.length l).set H.length (AO.list ((hpop (fun a b => ltv val b a) st.heap).2.map .ref)) = nH H ⟨(hpop (fun a b => ltv val b a) st.heap).2, st.words, st.other⟩ ts.length l := by
      unfold nH; rw [← Nat.add_zero H.length, set_off]; rfl
    rw [eset]
    refine As.tupL (hTn _ _ htin) rfl tup_names ?_
    show As G (k + 3) _ _ _ _ _ _
    refine As.name (Sn.local rfl ?_)
    show As G (k + 3) _ _ _ _ _ _
    refine As.name (Sn.local rfl ?_)
    show Exs G (k + 3) _ _ _ _ _
    rw [hpv]
    obtain ⟨p, hpe⟩ : ∃ p, p = pl (hpop (fun a b => ltv val b a) st.heap).1 := ⟨_, rfl⟩
    rw [← hpe] at hplt ⊢
    generalize hH1 : nH H ⟨(hpop (fun a b => ltv val b a) st.heap).2, st.words, st.other⟩ ts.length l = H1
    have hw : H1[H.length + 3]? = some (AO.list (st.words.map .str)) := by rw [← hH1]; exact at_off (n := 3) rfl
    have ho : H1[H.length + 5]? = some (AO.list ((intsOf st.other).map .int)) := by rw [← hH1]; exact at_off (n := 5) rfl
    have hpc : H1[kp]? = some (AO.list (ps.map .str)) := by rw [← hH1]; exact getElem?_ext hp
    obtain ⟨hfl, hll⟩ := nFst_lt v hplt
    have gw : ∀ {j : Nat}, j < ts.length + 2 → (st.words.map AV.str)[((j : Nat) : Int).toNat]? = some (.str (st.words.getD j sE)) := fun {j} hj => by
      have hlt : j < st.words.length := by rw [v.wl]; lia
      rw [Int.toNat_natCast, List.getElem?_map, List.getElem?_eq_getElem hlt, List.getD_eq_getElem?_getD, List.getElem?_eq_getElem hlt]; rfl
    have go : ∀ {j : Nat}, j < ts.length + 2 → ((intsOf st.other).map AV.int)[((j : Nat) : Int).toNat]? = some (.int (st.other.getD j 0 : Nat)) := fun {j} hj => by
      have hlt : j < st.other.length := by rw [v.ol]; lia
      rw [Int.toNat_natCast, intsOf, List.map_map, List.getElem?_map, List.getElem?_eq_getElem hlt, List.getD_eq_getElem?_getD, List.getElem?_eq_getElem hlt]; rfl
    have gp : (ps.map AV.str)[((p : Nat) : Int).toNat]? = some (.str (ps.getD p sE)) := by
      have hlt : p < ps.length := by lia
      rw [Int.toNat_natCast, List.getElem?_map, List.getElem?_eq_getElem hlt, List.getD_eq_getElem?_getD, List.getElem?_eq_getElem hlt]; rfl
    have lw : (st.words.map AV.str).length ≤ 1000 := by simp [v.wl]; lia
    have lo : ((intsOf st.other).map AV.int).length ≤ 1000 := by simp [intsOf, v.ol]; lia
    have e2 : ((p : Int) + 2) = ((p + 2 : Nat) : Int) := by lia
    have e1 : ((p : Int) + 1) = ((p + 1 : Nat) : Int) := by lia
    refine Exs.cons (Ex.assign (Ev.mono (Q := fun v H' => v = .int (nFst st p : Nat) ∧ H' = H1) ?_ fun v0 H0 hv0 => ?_))
    · refine Ev.ifx (Ts.cmp (Ev.subL (Ev.var rfl (Ev.var rfl ⟨_, _, _, _, rfl, rfl, hw, lw, .inl ⟨by lia, gw (by lia)⟩, Ev.cstr (Op.neS (Tr.bool ⟨fun hb => ?_, fun hb => ?_⟩))⟩))))
      · refine Ev.subL (Ev.var rfl (Ev.var rfl ⟨_, _, _, _, rfl, rfl, ho, lo, .inl ⟨by lia, go (by lia)⟩, ?_, rfl⟩))
        unfold nFst; rw [if_pos hb]
      · refine Ev.bin (Ev.var rfl (Ev.cint (Op.add ⟨?_, rfl⟩)))
        unfold nFst; rw [hb, e1]; rfl
    obtain ⟨rfl, rfl⟩ := hv0
    refine As.name (Sn.local rfl ?_)
    dsimp only
    refine Exs.cons (Ex.assign (Ev.mono (Q := fun v H' => v = .int (nLst st p : Nat) ∧ H' = H0) ?_ fun v0 H0' hv0 => ?_))
    · refine Ev.ifx (Ts.cmp (Ev.subL (Ev.var rfl (Ev.bin (Ev.var rfl (Ev.cint (Op.add ?_)))))))
      rw [e2]
      refine ⟨_, _, _, _, rfl, rfl, hw, lw, .inl ⟨by lia, gw (by lia)⟩, Ev.cstr (Op.neS (Tr.bool ⟨fun hb => ?_, fun hb => ?_⟩))⟩
      · refine Ev.subL (Ev.var rfl (Ev.bin (Ev.var rfl (Ev.cint (Op.add ?_)))))
        rw [e2]
        refine ⟨_, _, _, _, rfl, rfl, ho, lo, .inl ⟨by lia, go (by lia)⟩, ?_, rfl⟩
        unfold nLst; rw [if_pos hb]
      · refine Ev.bin (Ev.var rfl (Ev.cint (Op.add ⟨?_, rfl⟩)))
        unfold nLst; rw [hb, e1]; rfl
    obtain ⟨rfl, rfl⟩ := hv0
    refine As.name (Sn.local rfl ?_)
    dsimp only
    -- the word
    have bd : 10 * 2 ^ i ≤ 1280 := by
      have : 2 ^ i ≤ 2 ^ 7 := Nat.pow_le_pow_right (by decide) (by lia)
      lia
    have w1 := v.wb _ (getD_memS (xs := st.words) (i := p) (by rw [v.wl]; lia))
    have w2 := v.wb _ (getD_memS (xs := st.words) (i := p + 2) (by rw [v.wl]; lia))
    have w3 := hpp _ (getD_memS (xs := ps) (i := p) (by lia))
    have c1 : (Str.ofString "(").length = 1 := by decide
    have c2 : (Str.ofString ")").length = 1 := by decide
    refine Exs.cons (Ex.assign (Ev.bin (Ev.bin (Ev.bin (Ev.bin (Ev.cstr (Ev.subL (Ev.var rfl (Ev.var rfl ⟨_, _, _, _, rfl, rfl, hw, lw, .inl ⟨by lia, gw (by lia)⟩, ?_⟩)))))))))
    refine Op.catS (by lia) (Ev.subL (Ev.var rfl (Ev.var rfl ⟨_, _, _, _, rfl, rfl, hpc, by simp; lia, .inl ⟨by lia, gp⟩, ?_⟩)))
    refine Op.catS (by rw [str_app_len]; lia) (Ev.subL (Ev.var rfl (Ev.bin (Ev.var rfl (Ev.cint (Op.add ?_))))))
    rw [e2]
    refine ⟨_, _, _, _, rfl, rfl, hw, lw, .inl ⟨by lia, gw (by lia)⟩, ?_⟩
    refine Op.catS (by rw [str_app_len, str_app_len]; lia) (Ev.cstr (Op.catS (by rw [str_app_len, str_app_len, str_app_len]; lia) (As.name (Sn.local rfl ?_))))
    dsimp only
    have ewd : (((Str.ofString "(" ++ st.words.getD p sE) ++ ps.getD p sE) ++ st.words.getD (p + 2) sE) ++ Str.ofString ")" = nWord ps st.words p := rfl
    rw [ewd]
    have hsub : ∀ (ts' : List Expr) (o1 i1 o2 i2 : Expr) (p1 p2 : Pos), ts' = [.Subscript o1 i1 p1, .Subscript o2 i2 p2] → ∀ t ∈ ts', ∀ (e : Expr) (q : Pos), t ≠ .Starred e q := fun ts' o1 i1 o2 i2 p1 p2 e t htt e' q => by
      subst e
      simp only [List.mem_cons, List.not_mem_nil, or_false] at htt
      rcases htt with r | r <;> (rw [r]; intro e; cases e)
    have swp : ∀ (env : Env) (o1 i1 o2 i2 v1 v2 : Expr) (p1 p2 q1 q2 : Pos) (k1 k2 : Nat), swappedStores [.Tuple [.Subscript o1 i1 p1, .Subscript o2 i2 p2] k1 q1] (.Tuple [v1, v2] k2 q2) env = pure none := by
      intro env o1 i1 o2 i2 v1 v2 p1 p2 q1 q2 k1 k2
      unfold swappedStores
      simp
    refine Exs.cons (Ex.assign (hw := fun env _ => swp env _ _ _ _ _ _ _ _ _ _ _ _) (Ev.tup (Evs.cons (Ev.var rfl (Evs.cons (Ev.var rfl (Evs.nil ⟨by simp, As.tupT List.getElem?_concat_length rfl (hsub _ _ _ _ _ _ _ rfl) ?_⟩)))))))
    have em : ∀ (ws : List Str) (j : Nat) (w : Str), (ws.map AV.str).set j (.str w) = (ws.set j w).map AV.str := fun ws j w => by rw [List.map_set]
    have emo : ∀ (os : List Nat) (j o : Nat), ((intsOf os).map AV.int).set j (.int (o : Int)) = (intsOf (os.set j o)).map AV.int := fun os j o => by unfold intsOf; rw [List.map_set, List.map_set]
    have tn : ∀ j : Nat, ((j : Nat) : Int).toNat = j := fun j => Int.toNat_natCast j
    show As G (k + 3) _ _ _ _ _ _
    refine As.sub (Ev.var rfl (Ev.var rfl (OpU.setL (getElem?_ext hw) lw (by lia) (by simp [v.wl]; lia) ?_)))
    rw [tn, em]
    show As G (k + 3) _ _ _ _ _ _
    refine As.sub (Ev.var rfl (Ev.var rfl (OpU.setL (get_set' (getElem?_ext hw)) (by simp [v.wl]; lia) (by lia) (by simp [v.wl]; lia) ?_)))
    rw [tn, em, set_same_heap]
    show Exs G (k + 3) _ _ _ _ _
    have ho2 := getElem?_set_ne' (a := AO.list (((st.words.set (nFst st p) (nWord ps st.words p)).set (nLst st p) (nWord ps st.words p)).map .str)) (j := H.length + 3) (getElem?_ext (l' := [AO.tup [.str (nWord ps st.words p), .str (nWord ps st.words p)]]) ho) (by lia)
    refine Exs.cons (Ex.assign (hw := fun env _ => swp env _ _ _ _ _ _ _ _ _ _ _ _) (Ev.tup (Evs.cons (Ev.var rfl (Evs.cons (Ev.var rfl (Evs.nil ⟨by simp, As.tupT List.getElem?_concat_length rfl (hsub _ _ _ _ _ _ _ rfl) ?_⟩)))))))
    show As G (k + 3) _ _ _ _ _ _
    refine As.sub (Ev.var rfl (Ev.var rfl (OpU.setL (getElem?_ext ho2) lo (by lia) (by simp [intsOf, v.ol]; lia) ?_)))
    rw [tn, emo]
    show As G (k + 3) _ _ _ _ _ _
    refine As.sub (Ev.var rfl (Ev.var rfl (OpU.setL (get_set' (getElem?_ext ho2)) (by simp [intsOf, v.ol]; lia) (by lia) (by simp [intsOf, v.ol]; lia) ?_)))
    rw [tn, emo, set_same_heap]
    show Exs G (k + 3) _ _ _ _ _
    refine Exs.nil ⟨.inl rfl, _, ?sub, rfl, nStep (fun a b => ltv val b a) pl ps st, l ++ [AO.tup [.str (nWord ps st.words p), .str (nWord ps st.words p)], AO.tup [.int (nLst st p : Nat), .int (nFst st p : Nat)]], ?_, v', hgo⟩
    case sub => exact ⟨rfl, rfl, rfl, rfl, trivial⟩
    have enst : nStep (fun a b => ltv val b a) pl ps st = ⟨(hpop (fun a b => ltv val b a) st.heap).2, (st.words.set (nFst st p) (nWord ps st.words p)).set (nLst st p) (nWord ps st.words p), (st.other.set (nFst st p) (nLst st p)).set (nLst st p) (nFst st p)⟩ := by
      unfold nStep; dsimp only; rw [← hpe]
    rw [enst]
    subst hH1
    unfold nH
    dsimp only
    rw [List.append_assoc, set_off, List.append_assoc, set_off]
    simp only [List.cons_append, List.set_cons_succ, List.set_cons_zero, List.append_assoc, List.nil_append]
  · refine ⟨by rw [hfy_len.1]; lia, hfy_len.2, by simp, by simp, fun o ho => by simpa using ho, fun w hw => ?_⟩
    have := List.eq_of_mem_replicate hw
    rw [this]; decide
end Mine
end
section
open PySem PySem.W PyProof.Rows PySem.Calls
set_option maxRecDepth 100000
namespace Mine
variable {G : Gl} {k : Nat} {sc : Scope} {m : Vars} {H : List AO}

/- the ways' pure twin -/
noncomputable abbrev Ent := List ((Int × Int) × Int)
noncomputable def wayGo (place : Int) : Nat → List Int → List Int → Ent → Option (List Int × List Int × Ent)
  | 0, _, _, _ => none
  | f + 1, way, turns, es =>
    let last := way.getD (way.length - 1) 0
    if (last != place) = true then
      let s := cmp3 place last
      match dfind es s last with
      | some c => wayGo place f (way ++ [c]) (turns ++ [s]) es
      | none => wayGo place f (way ++ [place]) (turns ++ [s]) (es ++ [((s, last), place)])
    else some (way, turns, es)
structure WSt where
  heap : List Nat
  es : Ent
  ways : List (List Int)
  signs : List (List Int)
noncomputable def wStep (bf : Nat → Nat → Bool) (pl : Nat → Nat) (sort : List Int → List Int) (top : Int) (st : WSt) : Option WSt :=
  let q := hpop bf st.heap
  let p := pl q.1
  match wayGo p 20 [top] [] st.es with
  | none => none
  | some (way, turns, es) => some ⟨q.2, es, st.ways.set p (sort way), st.signs.set p (turns ++ [cmp3 p p])⟩
noncomputable def wGo (bf : Nat → Nat → Bool) (pl : Nat → Nat) (sort : List Int → List Int) (top : Int) : Nat → WSt → Option WSt
  | 0, st => some st
  | i + 1, st => match wStep bf pl sort top st with
    | none => none
    | some st' => wGo bf pl sort top i st'
noncomputable def hpush (bf : Nat → Nat → Bool) (xs : List Nat) (t : Nat) : List Nat := sd bf (xs ++ [t]) 0 xs.length
noncomputable def waysP (bf : Nat → Nat → Bool) (pl : Nat → Nat) (sort : List Int → List Int) (ts : List Nat) : Option WSt :=
  let h := ts.foldl (hpush bf) []
  wGo bf pl sort (pl (h.getD 0 0)) ts.length ⟨h, [], List.replicate ts.length [], List.replicate ts.length []⟩
noncomputable def isort : List Int → List Int
  | [] => []
  | x :: xs => ins x (isort xs)
where ins (x : Int) : List Int → List Int
  | [] => [x]
  | y :: ys => if x ≤ y then x :: y :: ys else y :: ins x ys
theorem ins_perm (x : Int) : ∀ ys, (isort.ins x ys).Perm (x :: ys)
  | [] => .refl _
  | y :: ys => by
    rw [isort.ins]; split
    · exact .refl _
    · exact ((ins_perm x ys).cons y).trans (.swap x y ys)
theorem isort_perm : ∀ xs, (isort xs).Perm xs
  | [] => .refl _
  | x :: xs => (ins_perm x _).trans ((isort_perm xs).cons x)
theorem ins_sorted (x : Int) : ∀ ys, ys.Pairwise (· ≤ ·) → (isort.ins x ys).Pairwise (· ≤ ·)
  | [], _ => by simp [isort.ins]
  | y :: ys, h => by
    rw [isort.ins]
    rw [List.pairwise_cons] at h
    split
    · rename_i hx
      refine List.pairwise_cons.mpr ⟨fun z hz => ?_, List.pairwise_cons.mpr h⟩
      rcases List.mem_cons.mp hz with q | q
      · rw [q]; exact hx
      · exact Int.le_trans hx (h.1 z q)
    · rename_i hx
      refine List.pairwise_cons.mpr ⟨fun z hz => ?_, ins_sorted x ys h.2⟩
      rcases List.mem_cons.mp ((ins_perm x ys).mem_iff.mp hz) with q | q
      · rw [q]; lia
      · exact h.1 z q
theorem isort_sorted : ∀ xs, (isort xs).Pairwise (· ≤ ·)
  | [] => .nil
  | x :: xs => ins_sorted x _ (isort_sorted xs)
theorem sorted_uniq : ∀ {xs ys : List Int}, xs.Perm ys → xs.Pairwise (· ≤ ·) → ys.Pairwise (· ≤ ·) → xs = ys
  | [], ys, h, _, _ => by rw [List.nil_perm.mp h]
  | x :: xs, [], h, _, _ => by have := h.length_eq; cases this
  | x :: xs, y :: ys, h, h1, h2 => by
    rw [List.pairwise_cons] at h1 h2
    have e : x = y := by
      have a1 : x ∈ y :: ys := h.mem_iff.mp (.head _)
      have a2 : y ∈ x :: xs := h.mem_iff.mpr (.head _)
      rcases List.mem_cons.mp a1 with q | q
      · exact q
      · rcases List.mem_cons.mp a2 with r | r
        · exact r.symm
        · have := h2.1 x q; have := h1.1 y r; lia
    subst e
    rw [sorted_uniq (List.perm_cons x |>.mp h) h1.2 h2.2]
theorem sorted_is {xs ys : List Int} (h : xs.Perm ys) (hs : xs.Pairwise (· ≤ ·)) : xs = isort ys := sorted_uniq (h.trans (isort_perm ys).symm) hs (isort_sorted ys)

theorem hpush_len {bf : Nat → Nat → Bool} {xs : List Nat} {t : Nat} : (hpush bf xs t).length = xs.length + 1 ∧ ∀ a ∈ hpush bf xs t, a ∈ xs ++ [t] := by
  unfold hpush
  exact ⟨by rw [sd_length]; simp, fun a ha => sd_mem (by simp) ha⟩
theorem push_all {bf : Nat → Nat → Bool} : ∀ (ts xs : List Nat), (ts.foldl (hpush bf) xs).length = xs.length + ts.length ∧ ∀ a ∈ ts.foldl (hpush bf) xs, a ∈ xs ++ ts
  | [], xs => ⟨rfl, fun a ha => by simpa using ha⟩
  | t :: ts, xs => by
    rw [List.foldl_cons]
    obtain ⟨h1, h2⟩ := push_all (bf := bf) ts (hpush bf xs t)
    obtain ⟨h3, h4⟩ := hpush_len (bf := bf) (xs := xs) (t := t)
    refine ⟨by rw [h1, h3]; simp; lia, fun a ha => ?_⟩
    rcases List.mem_append.mp (h2 a ha) with q | q
    · have := h4 a q; simp at this ⊢; rcases this with r | r <;> simp [r]
    · simp [q]

theorem RefL.setAt {rs : List Nat} {xss : List (List Int)} (h : RefL H rs xss) {r : Nat} {xs : List Int} (hr : H[r]? = some (.list (xs.map .int))) : ∀ p, RefL H (rs.set p r) (xss.set p xs) := by
  induction h with
  | nil => intro p; exact .nil
  | cons h t ih =>
    intro p
    cases p with
    | zero => exact .cons hr t
    | succ p => exact .cons h (ih p)
structure WInv (H0 H' : List AO) (st : WSt) (n : Nat) (wr sr : List Nat) : Prop where
  pre : ∃ l, H' = H0 ++ l
  oh : H'[H0.length]? = some (.list (st.heap.map .ref))
  od : H'[H0.length + 1]? = some (.dict st.es)
  ow : H'[H0.length + 3]? = some (.list (wr.map .ref))
  os : H'[H0.length + 4 + n]? = some (.list (sr.map .ref))
  rw : RefL H' wr st.ways
  rs : RefL H' sr st.signs
  ap : ∀ r ∈ wr ++ sr, r ≠ H0.length ∧ r ≠ H0.length + 1 ∧ r ≠ H0.length + 3 ∧ r ≠ H0.length + 4 + n
  wl : wr.length = n
  sl : sr.length = n
theorem WInv.ext {H0 H' : List AO} {st : WSt} {n : Nat} {wr sr : List Nat} (v : WInv H0 H' st n wr sr) (l : List AO) : WInv H0 (H' ++ l) st n wr sr := by
  obtain ⟨l0, h0⟩ := v.pre
  exact ⟨⟨l0 ++ l, by rw [h0, List.append_assoc]⟩, getElem?_ext v.oh, getElem?_ext v.od, getElem?_ext v.ow, getElem?_ext v.os, v.rw.ext l, v.rs.ext l, v.ap, v.wl, v.sl⟩
theorem WInv.setO {H0 H' : List AO} {st : WSt} {n r : Nat} {wr sr : List Nat} (v : WInv H0 H' st n wr sr) (hr : H0.length + 4 + n < r) (hn : r ∉ wr ++ sr) (a : AO) : WInv H0 (H'.set r a) st n wr sr := by
  rw [List.mem_append, not_or] at hn
  exact ⟨set_pre v.pre (by lia) a, getElem?_set_ne' v.oh (by lia), getElem?_set_ne' v.od (by lia), getElem?_set_ne' v.ow (by lia), getElem?_set_ne' v.os (by lia), v.rw.set hn.1 a, v.rs.set hn.2 a, v.ap, v.wl, v.sl⟩
theorem WInv.setH {H0 H' : List AO} {st : WSt} {n : Nat} {wr sr : List Nat} (v : WInv H0 H' st n wr sr) (hp : List Nat) : WInv H0 (H'.set H0.length (.list (hp.map .ref))) { st with heap := hp } n wr sr :=
  ⟨set_pre v.pre (Nat.le_refl _) _, get_set' v.oh, getElem?_set_ne' v.od (by lia), getElem?_set_ne' v.ow (by lia), getElem?_set_ne' v.os (by lia), v.rw.set (fun h => (v.ap _ (List.mem_append_left _ h)).1 rfl) _, v.rs.set (fun h => (v.ap _ (List.mem_append_right _ h)).1 rfl) _, v.ap, v.wl, v.sl⟩
theorem WInv.setD {H0 H' : List AO} {st : WSt} {n : Nat} {wr sr : List Nat} (v : WInv H0 H' st n wr sr) (es : Ent) : WInv H0 (H'.set (H0.length + 1) (.dict es)) { st with es := es } n wr sr :=
  ⟨set_pre v.pre (by lia) _, getElem?_set_ne' v.oh (by lia), get_set' v.od, getElem?_set_ne' v.ow (by lia), getElem?_set_ne' v.os (by lia), v.rw.set (fun h => (v.ap _ (List.mem_append_left _ h)).2.1 rfl) _, v.rs.set (fun h => (v.ap _ (List.mem_append_right _ h)).2.1 rfl) _, v.ap, v.wl, v.sl⟩
theorem WInv.setW {H0 H' : List AO} {st : WSt} {n r p : Nat} {wr sr : List Nat} {xs : List Int} (v : WInv H0 H' st n wr sr) (hr : H'[r]? = some (.list (xs.map .int))) (hlt : H0.length + 4 + n < r) : WInv H0 (H'.set (H0.length + 3) (.list ((wr.set p r).map .ref))) { st with ways := st.ways.set p xs } n (wr.set p r) sr := by
  have hn1 : H0.length + 3 ∉ wr := fun h => (v.ap _ (List.mem_append_left _ h)).2.2.1 rfl
  have hn2 : H0.length + 3 ∉ sr := fun h => (v.ap _ (List.mem_append_right _ h)).2.2.1 rfl
  refine ⟨set_pre v.pre (by lia) _, getElem?_set_ne' v.oh (by lia), getElem?_set_ne' v.od (by lia), get_set' v.ow, getElem?_set_ne' v.os (by lia), (v.rw.set hn1 _).setAt (getElem?_set_ne' hr (by lia)) p, v.rs.set hn2 _, fun q hq => ?_, by rw [List.length_set, v.wl], v.sl⟩
  rcases List.mem_append.mp hq with h | h
  · rcases List.mem_or_eq_of_mem_set h with h | h
    · exact v.ap q (List.mem_append_left _ h)
    · rw [h]; exact ⟨by lia, by lia, by lia, by lia⟩
  · exact v.ap q (List.mem_append_right _ h)
theorem WInv.setS {H0 H' : List AO} {st : WSt} {n r p : Nat} {wr sr : List Nat} {xs : List Int} (v : WInv H0 H' st n wr sr) (hr : H'[r]? = some (.list (xs.map .int))) (hlt : H0.length + 4 + n < r) : WInv H0 (H'.set (H0.length + 4 + n) (.list ((sr.set p r).map .ref))) { st with signs := st.signs.set p xs } n wr (sr.set p r) := by
  have hn1 : H0.length + 4 + n ∉ wr := fun h => (v.ap _ (List.mem_append_left _ h)).2.2.2 rfl
  have hn2 : H0.length + 4 + n ∉ sr := fun h => (v.ap _ (List.mem_append_right _ h)).2.2.2 rfl
  refine ⟨set_pre v.pre (by lia) _, getElem?_set_ne' v.oh (by lia), getElem?_set_ne' v.od (by lia), getElem?_set_ne' v.ow (by lia), get_set' v.os, v.rw.set hn1 _, (v.rs.set hn2 _).setAt (getElem?_set_ne' hr (by lia)) p, fun q hq => ?_, v.wl, by rw [List.length_set, v.sl]⟩
  rcases List.mem_append.mp hq with h | h
  · exact v.ap q (List.mem_append_left _ h)
  · rcases List.mem_or_eq_of_mem_set h with h | h
    · exact v.ap q (List.mem_append_right _ h)
    · rw [h]; exact ⟨by lia, by lia, by lia, by lia⟩
theorem swap_names {env : Env} {a b : Str} {pa pb p1 p2 : Pos} {k1 k2 : Nat} {e₁ e₂ : Expr} (hs1 : (match e₁ with | .Starred .. => true | _ => false) = false) (hs2 : (match e₂ with | .Starred .. => true | _ => false) = false) (he : EnvOK sc env) (ha : sc.names.lookup a = some .local) (hb : sc.names.lookup b = some .local) (hne : (a == b) = false) (hl : (pb.line == pa.line) = true)
    (hf : [e₁, e₂].all (foldedForSure 8) = false) (hcn : [e₁, e₂].all (constantsAlone 8) = false)
    (hed : (List.eraseDupsBy (fun (x1 x2 : Str) => x1 == x2) [a, b]).length = 2 := by decide) :
    swappedStores [.Tuple [.Name a pa, .Name b pb] k1 p1] (.Tuple [e₁, e₂] k2 p2) env = pure (some [a, b]) := by
  have h1 : env.blockKind = .function := by unfold Env.blockKind; rw [he.scope, he.kind]; rfl
  have h2 : env.kindOf a = some .local := by unfold Env.kindOf; rw [he.scope]; exact ha
  have h3 : env.kindOf b = some .local := by unfold Env.kindOf; rw [he.scope]; exact hb
  have hl' : pb.line = pa.line := eq_of_beq hl
  have p1' : (Expr.Name a pa).pos = pa := rfl
  have p2' : (Expr.Name b pb).pos = pb := rfl
  unfold swappedStores
  simp only [h1, h2, h3, hl', hf, hcn, List.filterMap_cons, List.filterMap_nil, List.length_cons, List.length_nil, p1', p2']
  simp [List.eraseDups, p1', p2']
  rw [if_neg (by rintro (q | q)
                 · exact Bool.false_ne_true (hs1.symm.trans q)
                 · exact Bool.false_ne_true (hs2.symm.trans q)), if_pos hed]

theorem swaps_yes {env : Env} {elt : Expr} {gens : List Comprehension} {scope : Scope} {pos py : Pos} {line : Nat} {y : Str} (he : EnvOK sc env) (hl : sc.names.lookup y = some .local) (hp : (py.line == (Expr.ListComp elt gens scope pos).pos.line) = true)
    (hn : (scope.names.any fun (n, k) => n == y && (k == .local || k == .cell)) = false) : swapsWith (.ListComp elt gens scope pos) (some (.Name y py)) line env = pure true := by
  have h1 : env.blockKind = .function := by unfold Env.blockKind; rw [he.scope, he.kind]; rfl
  have h2 : env.kindOf y = some .local := by unfold Env.kindOf; rw [he.scope]; exact hl
  unfold swapsWith
  show (pure (env.blockKind == .function && env.kindOf y == some .local && py.line == (Expr.ListComp elt gens scope pos).pos.line && !(scope.names.any fun (n, k) => n == y && (k == .local || k == .cell))) : Sem Bool) = pure true
  rw [h1, h2, hp, hn]; rfl

theorem co_empty {target iter : Expr} {scope : Scope} {pos lp : Pos} {x : Str} {px : Pos} {kt : Nat} {ts : List Nat} {mC : Vars} {Q : Vars → List AO → Prop} (htg : target = .Name x px) (hl : sc.names.lookup x = some .local) (hok : NameOk x)
    (ht : H[kt]? = some (.list (ts.map .ref))) (hlen : ts.length ≤ 900)
    (hq : ∀ m' l, l = List.replicate ts.length (AO.list []) → Q m' (H ++ AO.list (((List.range ts.length).map (H.length + 1 + ·)).map .ref) :: l)) :
    Co G k sc (.List [] lp) target iter [] scope pos (ItL kt 0) H.length mC (H ++ [.list []]) Q := by
  subst htg
  refine Co.less (m' := []) (Co.inv (ItL kt) (fun i m' H' => m' = [] ∧ H' = H ++ AO.list (((List.range i).map (H.length + 1 + ·)).map .ref) :: List.replicate i (AO.list [])) ts.length (fun _ => ItL.pers) ?_ ?_ ts.length 0 _ _ (by lia) (Nat.zero_le _) ⟨rfl, rfl⟩) (fun _ _ h => by cases h)
  · rintro m' H' ⟨rfl, rfl⟩
    exact ⟨NxEnd.list (getElem?_ext ht) (by simp), hq _ _ rfl⟩
  · rintro i m' H' hi' ⟨rfl, rfl⟩
    refine ⟨_, _, NxItem.list (getElem?_ext ht) (by rw [List.getElem?_map, List.getElem?_eq_getElem hi']; rfl), As.name (Sn.local hl ?_ hok)⟩
    show If2 _ _
    refine ⟨(fun q => by cases q), fun _ => Ev.list (Evs.nil ⟨by simp, ?_⟩)⟩
    refine ⟨((List.range i).map (H.length + 1 + ·)).map .ref, [], by simp, by simp; lia, trivial, rfl, ?_⟩
    rw [List.append_assoc, ← Nat.add_zero H.length, set_off, List.range_succ]
    simp [List.replicate_succ']
    lia

theorem RefL.empties {H' : List AO} : ∀ {rs : List Nat}, (∀ r ∈ rs, H'[r]? = some (.list [])) → RefL H' rs (List.replicate rs.length [])
  | [], _ => .nil
  | r :: rs, h => .cons (h r (.head _)) (RefL.empties fun r' hr => h r' (.tail _ hr))
theorem at_rep {X : List AO} {a : AO} {n r : Nat} (h : r ∈ (List.range n).map (X.length + 1 + ·)) : (X ++ a :: List.replicate n (AO.list []))[r]? = some (.list []) := by
  obtain ⟨i, hi, rfl⟩ := List.mem_map.mp h
  rw [List.mem_range] at hi
  rw [List.getElem?_append_right (by lia), show X.length + 1 + i - X.length = i + 1 by lia, List.getElem?_cons_succ, List.getElem?_replicate, if_pos hi]
theorem WInv.new {n : Nat} {hp : List Nat} {tp : AO} {l1 l2 Ha Hb : List AO} (h1 : l1 = List.replicate n (AO.list [])) (h2 : l2 = List.replicate n (AO.list [])) (ha : Ha = H ++ AO.list (hp.map .ref) :: AO.dict [] :: tp :: [])
    (hb : Hb = Ha ++ AO.list (((List.range n).map (Ha.length + 1 + ·)).map .ref) :: l1) :
    WInv H (Hb ++ AO.list (((List.range n).map (Hb.length + 1 + ·)).map .ref) :: l2) ⟨hp, [], List.replicate n [], List.replicate n []⟩ n ((List.range n).map (Ha.length + 1 + ·)) ((List.range n).map (Hb.length + 1 + ·)) := by
  have la : Ha.length = H.length + 3 := by rw [ha]; simp
  have lb : Hb.length = H.length + 4 + n := by rw [hb, h1]; simp [la]; lia
  refine ⟨?_, ?_, ?_, ?_, ?_, ?_, ?_, ?_, by simp, by simp⟩
  · rw [hb, ha]; simp only [List.append_assoc]; exact ⟨_, rfl⟩
  · rw [hb, ha]; simp only [List.append_assoc]; exact at_off (n := 0) rfl
  · rw [hb, ha]; simp only [List.append_assoc]; exact at_off (n := 1) rfl
  · rw [← la]; refine getElem?_ext ?_; rw [hb]; exact at_off (n := 0) rfl
  · rw [← lb]; exact at_off (n := 0) rfl
  · have := (RefL.empties (H' := Hb) (rs := (List.range n).map (Ha.length + 1 + ·)) (fun r hr => by rw [hb, h1]; exact at_rep hr)).ext (AO.list (((List.range n).map (Hb.length + 1 + ·)).map .ref) :: l2)
    simpa using this
  · have := RefL.empties (H' := Hb ++ AO.list (((List.range n).map (Hb.length + 1 + ·)).map .ref) :: l2) (rs := (List.range n).map (Hb.length + 1 + ·)) (fun r hr => by rw [h2]; exact at_rep hr)
    simpa using this
  · intro r hr
    rcases List.mem_append.mp hr with q | q <;> (obtain ⟨i, hi, rfl⟩ := List.mem_map.mp q; rw [List.mem_range] at hi; exact ⟨by lia, by lia, by lia, by lia⟩)

set_option maxHeartbeats 2000000 in
theorem law_ways_c (hK : TopIs G) {kt : Nat} {ts : List Nat} {val : Nat → Int × Int} {pl : Nat → Nat} {st' : WSt} {Q : AV → List AO → Prop} (ht : H[kt]? = some (.list (ts.map .ref))) (hlen : ts.length ≤ 7) (h0 : 0 < ts.length)
    (T : Things H val ts) (hpl : ∀ t ∈ ts, (val t).2 = (pl t : Int) ∧ pl t < ts.length) (hw : waysP (ltv val) pl isort ts = some st')
    (hq : ∀ (l : List AO) (rt w s : Nat) (wr sr : List Nat), (H ++ l)[rt]? = some (.tup [.ref w, .ref s]) → (H ++ l)[w]? = some (.list (wr.map .ref)) → (H ++ l)[s]? = some (.list (sr.map .ref)) → RefL (H ++ l) wr st'.ways → RefL (H ++ l) sr st'.signs → Q (.ref rt) (H ++ l)) :
    Op G (k + 4) (callOf (.ref (G.adr (Str.ofString "_law_ways")))) [.ref kt] H Q := by
  have hTlt : ∀ t ∈ ts, t < H.length := fun t htt => (List.getElem?_eq_some_iff.mp (T t htt)).1
  have eF := Eq.refl (fnD 20)
  conv at eF => rhs; whnf
  obtain ⟨oF, pmF, cdF, docF, hmF, hoF, hdF, hcdF⟩ := hK.at (by kernel_rfl) eF
  dsimp only at hdF
  refine Op.doc hoF hdF hcdF (fun cvs h => ?_) (by decide) (by rfl) (by decide) (by decide) (by decide) ?_
  · obtain ⟨a, rfl⟩ := one_of h; rfl
  dsimp only
  refine Exs.cons (Ex.swap2 (hw := fun env he => swap_names rfl rfl he rfl rfl (by decide) (by decide) (by rfl) (by rfl)) (Ev.tup (Evs.cons (Ev.list (Evs.nil ⟨by simp, Evs.cons (Ev.dict0 (Evs.nil ⟨by simp, _, _, _, rfl, List.getElem?_concat_length, Sn.local rfl (Sn.local rfl ?_)⟩))⟩)))))
  dsimp only
  simp only [List.length_append, List.length_cons, List.length_nil, List.append_assoc, List.cons_append, List.nil_append]
  refine Exs.cons (Ex.for (ItNew.list (Ev.var rfl ⟨kt, _, rfl, getElem?_ext ht, ?_⟩)))
  refine FoI.less (m' := [(Str.ofString "things", AV.ref kt), (Str.ofString "heap", .ref H.length), (Str.ofString "below", .ref (H.length + 1))])
    (FoI.inv (ItL kt) (fun i m' H' => m' = [(Str.ofString "things", AV.ref kt), (Str.ofString "heap", .ref H.length), (Str.ofString "below", .ref (H.length + 1))] ∧
      H' = H ++ AO.list (((ts.take i).foldl (hpush (ltv val)) []).map .ref) :: AO.dict [] :: AO.tup [.ref H.length, .ref (H.length + 1)] :: []) ts.length (fun _ => ItL.pers) ?_ ?_ ts.length 0 _ _ (by lia) (Nat.zero_le _) ⟨rfl, rfl⟩) (SubL.sub ⟨rfl, rfl, rfl, trivial⟩)
  · rintro m' H' ⟨rfl, rfl⟩
    refine ⟨NxEnd.list (getElem?_ext ht) (by simp), ?_⟩
    dsimp only
    rw [List.take_length]
    obtain ⟨pl1, pl2⟩ := push_all (bf := ltv val) ts []
    generalize hh : ts.foldl (hpush (ltv val)) [] = hp0 at pl1 pl2
    have hl0 : hp0.length = ts.length := by simpa using pl1
    have hm0 : ∀ t ∈ hp0, t ∈ ts := fun t htt => by simpa using pl2 t htt
    have htop := hm0 _ (getD_mem (i := 0) (by lia))
    obtain ⟨hv1, hv2⟩ := hpl _ htop
    refine Exs.cons (Ex.assign (Ev.subL (Ev.subL (Ev.var rfl (Ev.cint ⟨H.length, _, _, _, rfl, rfl, at_off (n := 0) rfl, by simp; lia, .inl ⟨by decide, getElem?_map_ref (i := 0) (by lia)⟩, ?_⟩)))))
    refine Ev.cint ⟨_, _, _, _, rfl, rfl, getElem?_ext (T _ htop), by simp, .inl ⟨by decide, rfl⟩, As.name (Sn.local rfl ?_)⟩
    rw [hv1]
    dsimp only
    refine Exs.cons (Ex.comp [] (fun env he => swaps_yes he rfl (by decide) (by decide)) (by decide) rfl (by decide) rfl (fun _ _ h => by cases h) (fun n hn => by simp at hn) (ItNew.list (Ev.var rfl ⟨kt, _, rfl, getElem?_ext ht, ?_⟩)))
    refine co_empty rfl rfl (by decide) (getElem?_ext ht) (by lia) fun m1 l1 hl1 => ?_
    refine As.name (Sn.local rfl ?_)
    dsimp only
    refine Exs.cons (Ex.comp [] (fun env he => swaps_yes he rfl (by decide) (by decide)) (by decide) rfl (by decide) rfl (fun _ _ h => by cases h) (fun n hn => by simp at hn) (ItNew.list (Ev.var rfl ⟨kt, _, rfl, getElem?_ext (getElem?_ext ht), ?_⟩)))
    refine co_empty rfl rfl (by decide) (getElem?_ext (getElem?_ext ht)) (by lia) fun m2 l2 hl2 => ?_
    refine As.name (Sn.local rfl ?_)
    dsimp only
    obtain ⟨Ha, hHa⟩ : ∃ Ha, Ha = H ++ AO.list (hp0.map .ref) :: AO.dict [] :: AO.tup [.ref H.length, .ref (H.length + 1)] :: [] := ⟨_, rfl⟩
    rw [← hHa]
    obtain ⟨Hb, hHb⟩ : ∃ Hb, Hb = Ha ++ AO.list (((List.range ts.length).map (Ha.length + 1 + ·)).map .ref) :: l1 := ⟨_, rfl⟩
    rw [← hHb]
    have la : Ha.length = H.length + 3 := by rw [hHa]; simp
    have lb : Hb.length = H.length + 4 + ts.length := by rw [hHb, hl1]; simp [la]; lia
    have inv0 := WInv.new hl1 hl2 hHa hHb
    have hgo0 : wGo (ltv val) pl isort (pl (hp0.getD 0 0) : Nat) ts.length ⟨hp0, [], List.replicate ts.length [], List.replicate ts.length []⟩ = some st' := by
      unfold waysP at hw; rw [hh] at hw; exact hw
    obtain ⟨top, etop⟩ : ∃ top : Int, top = ((pl (hp0.getD 0 0) : Nat) : Int) := ⟨_, rfl⟩
    rw [← etop] at hgo0 ⊢
    generalize (List.range ts.length).map (Ha.length + 1 + ·) = wr0 at inv0 ⊢
    rw [lb] at inv0 ⊢
    generalize hsr0 : (List.range ts.length).map (H.length + 4 + ts.length + 1 + ·) = sr0 at inv0 ⊢
    generalize Hb ++ AO.list (sr0.map .ref) :: l2 = Hc at inv0 ⊢
    rw [la]
    obtain ⟨lc, hlc⟩ := inv0.pre
    refine Exs.cons (Ex.for (ItNew.list (Ev.var rfl ⟨kt, _, rfl, by rw [hlc]; exact getElem?_ext ht, ?_⟩)))
    refine FoI.less (m' := [(Str.ofString "heap", AV.ref H.length), (Str.ofString "below", .ref (H.length + 1)), (Str.ofString "top", .int top), (Str.ofString "ways", .ref (H.length + 3)), (Str.ofString "signs", .ref (H.length + 4 + ts.length))])
      (FoI.inv (ItL kt) (fun i m' H' => m' = [(Str.ofString "heap", AV.ref H.length), (Str.ofString "below", .ref (H.length + 1)), (Str.ofString "top", .int top), (Str.ofString "ways", .ref (H.length + 3)), (Str.ofString "signs", .ref (H.length + 4 + ts.length))] ∧
        ∃ (st : WSt) (wr sr : List Nat), WInv H H' st ts.length wr sr ∧ st.heap.length = ts.length - i ∧ (∀ t ∈ st.heap, t ∈ ts) ∧ st.es.length ≤ 20 * i ∧ wGo (ltv val) pl isort top (ts.length - i) st = some st') ts.length (fun _ => ItL.pers) ?_ ?_ ts.length 0 _ _ (by lia) (Nat.zero_le _)
        ⟨rfl, _, wr0, sr0, inv0, hl0, hm0, by simp, hgo0⟩) (SubL.sub ⟨rfl, rfl, rfl, rfl, rfl, trivial⟩)
    · rintro m' H' ⟨rfl, st, wr, sr, v, hhl, hhm, hes, hgo⟩
      obtain ⟨l, hl⟩ := v.pre
      refine ⟨NxEnd.list (by rw [hl]; exact getElem?_ext ht) (by simp), ?_⟩
      rw [Nat.sub_self] at hgo
      have hst : st = st' := Option.some.inj hgo
      subst hst
      dsimp only
      refine Exs.cons (Ex.ret (Ev.tup (Evs.cons (Ev.var rfl (Evs.cons (Ev.var rfl (Evs.nil ⟨by simp, ?_⟩)))))))
      have v' := v.ext [AO.tup [AV.ref (H.length + 3), AV.ref (H.length + 4 + ts.length)]]
      have hl' : H' ++ [AO.tup [AV.ref (H.length + 3), AV.ref (H.length + 4 + ts.length)]] = H ++ (l ++ [AO.tup [AV.ref (H.length + 3), AV.ref (H.length + 4 + ts.length)]]) := by rw [hl, List.append_assoc]
      have htp : (H' ++ [AO.tup [AV.ref (H.length + 3), AV.ref (H.length + 4 + ts.length)]])[H'.length]? = some (AO.tup [AV.ref (H.length + 3), AV.ref (H.length + 4 + ts.length)]) := List.getElem?_concat_length
      rw [hl'] at v' htp ⊢
      exact hq _ _ _ _ wr sr htp v'.ow v'.os v'.rw v'.rs
    · rintro i m' H' hi' ⟨rfl, st, wr, sr, v, hhl, hhm, hes, hgo⟩
      obtain ⟨l, hl⟩ := v.pre
      refine ⟨_, _, NxItem.list (by rw [hl]; exact getElem?_ext ht) (by rw [List.getElem?_map, List.getElem?_eq_getElem hi']; rfl), As.name (Sn.local rfl ?_)⟩
      have es : ts.length - i = (ts.length - (i + 1)) + 1 := by lia
      rw [es, wGo] at hgo
      have h0 : 0 < st.heap.length := by lia
      obtain ⟨q1, q2, q3⟩ := hpop_len (bf := ltv val) h0
      have htin := hhm _ q2
      obtain ⟨hpv, hplt⟩ := hpl _ htin
      obtain ⟨p, hpe⟩ : ∃ p, p = pl (hpop (ltv val) st.heap).1 := ⟨_, rfl⟩
      unfold wStep at hgo
      dsimp only at hgo
      rw [← hpe] at hgo hplt
      cases hway : wayGo (p : Int) 20 [top] [] st.es with
      | none => rw [hway] at hgo; cases hgo
      | some res =>
      obtain ⟨way', turns', es'⟩ := res
      rw [hway] at hgo
      dsimp only at hgo
      refine Exs.cons (Ex.assign (callTop hK (by kernel_rfl) rfl (Evs.cons (Ev.var rfl (Evs.nil ?_)))))
      refine heappop_min_c (val := val) hK v.oh h0 (by lia) (fun t htt => by rw [hl]; exact getElem?_ext (T t (hhm t htt))) (fun t htt => by have := hTlt t (hhm t htt); lia) ?_
      have v1 := v.setH (hpop (ltv val) st.heap).2
      show As G (k + 3) _ _ _ _ (H'.set H.length (.list ((hpop (ltv val) st.heap).2.map .ref))) _
      generalize H'.set H.length (.list ((hpop (ltv val) st.heap).2.map .ref)) = H1 at v1 ⊢
      obtain ⟨l1', hl1'⟩ := v1.pre
      refine As.tupL (by rw [hl1']; exact getElem?_ext (T _ htin)) rfl tup_names ?_
      show As G (k + 3) _ _ _ _ _ _
      refine As.name (Sn.local rfl ?_)
      show As G (k + 3) _ _ _ _ _ _
      refine As.name (Sn.local rfl ?_)
      show Exs G (k + 3) _ _ _ _ _
      rw [hpv, ← hpe]
      refine Exs.cons (Ex.swap2 (hw := fun env he => swap_names rfl rfl he rfl rfl (by decide) (by decide) (by rfl) (by rfl)) (Ev.tup (Evs.cons (Ev.list (Evs.cons (Ev.var rfl (Evs.nil ⟨by simp, Evs.cons (Ev.list (Evs.nil ⟨by simp, Evs.nil ⟨by simp, _, _, _, rfl, List.getElem?_concat_length, Sn.local rfl (Sn.local rfl ?_)⟩⟩))⟩)))))))
      dsimp only
      simp only [List.length_append, List.length_cons, List.length_nil, List.append_assoc, List.cons_append, List.nil_append]
      have hbig : H.length + 4 + ts.length < H1.length := (List.getElem?_eq_some_iff.mp v1.os).1
      have hnotin : ∀ r, H1.length ≤ r → r ∉ wr ++ sr := fun r hr hin => by
        rcases List.mem_append.mp hin with q | q
        · have := v1.rw.lt r q; lia
        · have := v1.rs.lt r q; lia
      refine Exs.cons (Ex.while (Wh.less (Wh.inv (fun f m' H'' => m' = [(Str.ofString "heap", AV.ref H.length), (Str.ofString "below", .ref (H.length + 1)), (Str.ofString "top", .int top), (Str.ofString "ways", .ref (H.length + 3)), (Str.ofString "signs", .ref (H.length + 4 + ts.length)), (Str.ofString "place", .int (p : Int)), (Str.ofString "way", .ref H1.length), (Str.ofString "turns", .ref (H1.length + 1))] ∧
        ∃ (way turns : List Int) (es : Ent), WInv H H'' ⟨(hpop (ltv val) st.heap).2, es, st.ways, st.signs⟩ ts.length wr sr ∧ H''[H1.length]? = some (.list (way.map .int)) ∧ H''[H1.length + 1]? = some (.list (turns.map .int)) ∧ way ≠ [] ∧ way.length + f ≤ 21 ∧ turns.length + f ≤ 20 ∧ es.length + f ≤ 20 * i + 20 ∧ wayGo (p : Int) f way turns es = some (way', turns', es')) ?_ 20 _ _
        ⟨rfl, [top], [], st.es, v1.ext _, at_off (n := 0) rfl, at_off (n := 1) rfl, by simp, by simp, by simp, by lia, hway⟩) (SubL.sub ⟨rfl, rfl, rfl, rfl, rfl, rfl, rfl, rfl, trivial⟩)))
      rintro f m' H2 ⟨rfl, way, turns, es, v2, hWy, hTu, hne, hb1, hb2, hb3, hgo2⟩
      cases f with
      | zero => cases hgo2
      | succ f =>
      obtain ⟨ini, last, rfl⟩ : ∃ ini last, way = ini ++ [last] := ⟨way.dropLast, way.getLast hne, (List.dropLast_concat_getLast hne).symm⟩
      have elast : (ini ++ [last]).getD ((ini ++ [last]).length - 1) 0 = last := by
        rw [List.getD_eq_getElem?_getD, List.length_append, List.length_cons, List.length_nil, Nat.add_sub_cancel, List.getElem?_append_right (Nat.le_refl _), Nat.sub_self]; rfl
      rw [wayGo] at hgo2
      dsimp only at hgo2
      rw [elast] at hgo2
      have emap : (ini ++ [last]).map AV.int = ini.map AV.int ++ [.int last] := by simp
      have hlast := last_neg (xs := ini.map AV.int) (x := .int last) (i := -1) rfl
      have hWy' := hWy
      rw [emap] at hWy'
      have hwl : (ini.map AV.int ++ [AV.int last]).length ≤ 1000 := by simp at hb1 ⊢; lia
      refine Ts.cmp (Ev.subL (Ev.var rfl (Ev.una (Ev.cint (Op.neg ⟨H1.length, _, _, _, rfl, rfl, hWy', hwl, .inr ⟨by decide, hlast.1, hlast.2⟩, Ev.var rfl (Op.ne (Tr.bool ⟨fun hb => ?_, fun hb => ?_⟩))⟩)))))
      · rw [if_pos hb] at hgo2
        refine Exs.cons (Ex.expr (Ev.meth1 PySem.F.plainAttrs_list PySem.F.slot_list_append PySem.F.type_list_append (Ev.var rfl ⟨kind_list hTu, ?_⟩)))
        refine Evs.cons (callTop hK (by kernel_rfl) rfl (Evs.cons (Ev.var rfl (Evs.cons (Ev.subL (Ev.var rfl (Ev.una (Ev.cint (Op.neg ⟨H1.length, _, _, _, rfl, rfl, hWy', hwl, .inr ⟨by decide, hlast.1, hlast.2⟩, Evs.nil (three_way_c hK (Evs.nil (Op.append hTu (by simp; lia) ?_)))⟩)))))))))
        have v3 := v2.setO (r := H1.length + 1) (by lia) (hnotin _ (by lia)) (.list (turns.map .int ++ [.int (cmp3 p last)]))
        have hW3 := getElem?_set_ne' (j := H1.length + 1) (a := AO.list (turns.map .int ++ [.int (cmp3 p last)])) hWy' (by lia)
        have hT3 := get_set' (a := AO.list (turns.map .int ++ [.int (cmp3 p last)])) hTu
        generalize H2.set (H1.length + 1) (AO.list (turns.map .int ++ [.int (cmp3 p last)])) = H3 at v3 hW3 hT3 ⊢
        have hlastT := last_neg (xs := turns.map AV.int) (x := .int (cmp3 p last)) (i := -1) rfl
        have htl : (turns.map AV.int ++ [AV.int (cmp3 p last)]).length ≤ 1000 := by simp; lia
        have e2 : turns.map AV.int ++ [AV.int (cmp3 p last)] = (turns ++ [cmp3 p last]).map AV.int := by simp
        refine Exs.cons (Ex.expr (Ev.meth1 PySem.F.plainAttrs_list PySem.F.slot_list_append PySem.F.type_list_append (Ev.var rfl ⟨kind_list hW3, ?_⟩)))
        refine Evs.cons (Ev.setdef (Ev.var rfl ⟨H.length + 1, _, rfl, v3.od, ?_⟩))
        refine Evs.cons (Ev.subL (Ev.var rfl (Ev.una (Ev.cint (Op.neg ⟨H1.length + 1, _, _, _, rfl, rfl, hT3, htl, .inr ⟨by decide, hlastT.1, hlastT.2⟩, ?_⟩)))))
        refine Evs.cons (Ev.subL (Ev.var rfl (Ev.una (Ev.cint (Op.neg ⟨H1.length, _, _, _, rfl, rfl, hW3, hwl, .inr ⟨by decide, hlast.1, hlast.2⟩, Evs.nil ⟨_, _, rfl, Ev.var rfl ⟨_, _, rfl, v3.od, by dsimp only; lia, fun c hc => ?_, fun hc => ?_⟩⟩⟩)))))
        · dsimp only at hc
          rw [hc] at hgo2
          dsimp only at hgo2
          refine Evs.nil (Op.append hW3 hwl ?_)
          have v4 := v3.setO (r := H1.length) (by lia) (hnotin _ (by lia)) (.list (ini.map .int ++ [.int last] ++ [.int c]))
          refine Exs.nil ⟨f, _, by lia, ?sub, rfl, ini ++ [last] ++ [c], turns ++ [cmp3 p last], es, v4, ?_, ?_, by simp, ?_, ?_, by lia, hgo2⟩
          case sub => exact ⟨rfl, rfl, rfl, rfl, rfl, rfl, rfl, rfl, trivial⟩
          · rw [get_set' hW3]; simp
          · rw [← e2]; exact getElem?_set_ne' hT3 (by lia)
          · simp at hb1 ⊢; lia
          · simp at hb2 ⊢; lia
        · dsimp only at hc
          rw [hc] at hgo2
          dsimp only at hgo2
          have v4 := v3.setD (es ++ [((cmp3 p last, last), (p : Int))])
          have hW4 := getElem?_set_ne' (j := H.length + 1) (a := AO.dict (es ++ [((cmp3 p last, last), (p : Int))])) hW3 (by lia)
          have hT4 := getElem?_set_ne' (j := H.length + 1) (a := AO.dict (es ++ [((cmp3 p last, last), (p : Int))])) hT3 (by lia)
          refine Evs.nil (Op.append hW4 hwl ?_)
          have v5 := v4.setO (r := H1.length) (by lia) (hnotin _ (by lia)) (.list (ini.map .int ++ [.int last] ++ [.int (p : Int)]))
          refine Exs.nil ⟨f, _, by lia, ?sub, rfl, ini ++ [last] ++ [(p : Int)], turns ++ [cmp3 p last], _, v5, ?_, ?_, by simp, ?_, ?_, ?_, hgo2⟩
          case sub => exact ⟨rfl, rfl, rfl, rfl, rfl, rfl, rfl, rfl, trivial⟩
          · rw [get_set' hW4]; simp
          · rw [← e2]; exact getElem?_set_ne' hT4 (by lia)
          · simp at hb1 ⊢; lia
          · simp at hb2 ⊢; lia
          · simp; lia
      · rw [if_neg (by rw [hb]; exact Bool.false_ne_true)] at hgo2
        have hres := Option.some.inj hgo2
        obtain ⟨e1, e2, e3⟩ : ini ++ [last] = way' ∧ turns = turns' ∧ es = es' := by
          injection hres with a b; injection b with b c; exact ⟨a, b, c⟩
        subst e1 e2 e3
        have lw : wr.length = ts.length := v2.wl
        have ls : sr.length = ts.length := v2.sl
        refine Exs.cons (Ex.assign (callBi (hK.no (by kernel_rfl)) boot_sorted' rfl (Evs.cons (Ev.var rfl (Evs.nil (Op.sorted (ns := ini ++ [last]) hWy (by lia) fun ns' g1 g2 => ?_))))))
        rw [sorted_is g1 g2]
        have hlt2 : H1.length + 1 < H2.length := (List.getElem?_eq_some_iff.mp hTu).1
        have v3 := (v2.ext [AO.list ((isort (ini ++ [last])).map .int)]).setW (p := p) (r := H2.length) List.getElem?_concat_length (by lia)
        have hT3 := getElem?_set_ne' (j := H.length + 3) (a := AO.list ((wr.set p H2.length).map .ref)) (getElem?_ext (l' := [AO.list ((isort (ini ++ [last])).map .int)]) hTu) (by lia)
        refine As.sub (Ev.var rfl (Ev.var rfl (OpU.setL (getElem?_ext v2.ow) (by simp; lia) (by lia) (by simp; lia) ?_)))
        rw [Int.toNat_natCast, ← List.map_set]
        generalize (H2 ++ [AO.list ((isort (ini ++ [last])).map .int)]).set (H.length + 3) (AO.list ((wr.set p H2.length).map .ref)) = H3 at v3 hT3 ⊢
        refine Exs.cons (Ex.assign (Ev.bin (Ev.var rfl (Ev.list (Evs.cons (callTop hK (by kernel_rfl) rfl (Evs.cons (Ev.var rfl (Evs.cons (Ev.var rfl (Evs.nil (three_way_c hK (Evs.nil ⟨by simp, ?_⟩)))))))))))))
        refine Op.catL (getElem?_ext hT3) List.getElem?_concat_length (by simp; lia) (by simp) ?_
        have e4 : turns.map AV.int ++ [AV.int (cmp3 p p)] = (turns ++ [cmp3 p p]).map AV.int := by simp
        rw [e4]
        have hlt3 : H1.length + 1 < H3.length := (List.getElem?_eq_some_iff.mp hT3).1
        have v4 := ((v3.ext [AO.list [AV.int (cmp3 p p)]]).ext [AO.list ((turns ++ [cmp3 p p]).map .int)]).setS (p := p) (r := (H3 ++ [AO.list [AV.int (cmp3 p p)]]).length) List.getElem?_concat_length (by simp; lia)
        refine As.sub (Ev.var rfl (Ev.var rfl (OpU.setL (getElem?_ext (getElem?_ext v3.os)) (by simp; lia) (by lia) (by simp; lia) ?_)))
        rw [Int.toNat_natCast, ← List.map_set]
        refine Exs.nil ⟨.inl rfl, _, ?sub, rfl, _, _, _, v4, by simp only; lia, fun t htt => hhm t (q3 t htt), by simp only; lia, hgo⟩
        case sub => exact ⟨rfl, rfl, rfl, rfl, rfl, trivial⟩
  · rintro i m' H' hi' ⟨rfl, rfl⟩
    refine ⟨_, _, NxItem.list (getElem?_ext ht) (by rw [List.getElem?_map, List.getElem?_eq_getElem hi']; rfl), As.name (Sn.local rfl ?_)⟩
    refine Exs.cons (Ex.expr (callTop hK (by kernel_rfl) rfl (Evs.cons (Ev.var rfl (Evs.cons (Ev.var rfl (Evs.nil ?_)))))))
    obtain ⟨pl1, pl2⟩ := push_all (bf := ltv val) (ts.take i) []
    have hmem : ∀ t ∈ (ts.take i).foldl (hpush (ltv val)) [] ++ [ts[i]], t ∈ ts := fun t htt => by
      rcases List.mem_append.mp htt with q | q
      · exact List.mem_of_mem_take (by simpa using pl2 t q)
      · simp at q; rw [q]; exact List.getElem_mem hi'
    refine heappush_c (val := val) hK (at_off (n := 0) rfl) (by rw [pl1]; simp; lia) (fun t htt => getElem?_ext (T t (hmem t htt))) (fun t htt => by have := hTlt t (hmem t htt); lia) ?_
    rw [← Nat.add_zero H.length, set_off, Nat.add_zero]
    dsimp only
    refine Exs.nil ⟨.inl rfl, _, ?sub, rfl, ?_⟩
    case sub => exact ⟨rfl, rfl, rfl, trivial⟩
    rw [List.take_succ_eq_append_getElem hi', List.foldl_append]
    rfl
end Mine
end
section
open PySem PySem.W PyProof.Rows
set_option maxRecDepth 100000
namespace Mine
namespace Hd
variable {G : Gl} {k : Nat} {sc : Scope} {m : Vars} {H : List AO}
structure Rm (k : Nat) (A : Around) : Prop where
  depth : A.depth + k < 800
  units : A.units + 100 * k + 100 < 9000
noncomputable def Ev (G : Gl) (k : Nat) (sc : Scope) (e : Expr) (m : Vars) (H : List AO) (Q : AV → List AO → Prop) : Prop :=
  ∀ A env ρ s, EnvOK sc env → Rm k A → Wd G ρ H s → Vr G ρ env m s → wpAny G.M A (eval e env) (PE G ρ s Q) NoE s
noncomputable def Ts (G : Gl) (k : Nat) (sc : Scope) (e : Expr) (m : Vars) (H : List AO) (Q : Bool → List AO → Prop) : Prop :=
  ∀ A env ρ s, EnvOK sc env → Rm k A → Wd G ρ H s → Vr G ρ env m s → wpAny G.M A (isTrue e env (eval e env)) (PB G ρ s Q) NoE s
noncomputable def Evs (G : Gl) (k : Nat) (sc : Scope) (es : List Expr) (m : Vars) (H : List AO) (Q : List AV → List AO → Prop) : Prop :=
  ∀ A env ρ s pos, EnvOK sc env → Rm k A → Wd G ρ H s → Vr G ρ env m s → wpAny G.M A (spliced (backTo pos (starEach es env))) (PEs G ρ s Q) NoE s
noncomputable def Op (G : Gl) (k : Nat) (t : List Value → Sem Value) (vs : List AV) (H : List AO) (Q : AV → List AO → Prop) : Prop :=
  ∀ A ρ s cvs, Rm k A → Wd G ρ H s → VRs ρ vs cvs → wpAny G.M A (t cvs) (PE G ρ s Q) NoE s
noncomputable def Ex (G : Gl) (k : Nat) (sc : Scope) (st : Stmt) (m : Vars) (H : List AO) (Q : AF → Vars → List AO → Prop) : Prop :=
  ∀ A env ρ s, EnvOK sc env → Rm k A → Wd G ρ H s → Vr G ρ env m s → wpAny G.M A (exec st env) (PX G env ρ s Q) NoE s
theorem Ev.var {x : Str} {pos : Pos} {v : AV} {Q : AV → List AO → Prop} (hm : m.lookup x = some v) (h : Q v H) : Ev G k sc (.Name x pos) m H Q := by
  intro A env ρ s he hr d V
  have hk : env.scope.kind = .function := by rw [he.scope]; exact he.kind
  obtain ⟨⟨hd, hd'⟩, hl | ⟨hl, c, hc⟩⟩ := V.has x v hm
  · obtain ⟨mc, hn, hv⟩ := V.ns
    obtain ⟨cv, q1, q2⟩ := hv x v hm hl
    exact wpAny_Name (wpAny_loadName_local hk hl hn q1 (PE.here d q2 h)) hd
  · obtain ⟨_, _, _, o, cv, q4, q5, q6⟩ := V.cells x c hc
    obtain ⟨v', rfl, q7⟩ := q6 v hm (by rcases hl with e | e <;> rw [e] <;> decide)
    rcases hl with hl | hl
    · exact wpAny_Name (wpAny_loadName_cell hk hl hc ⟨o, q4, q5⟩ (PE.here d q7 h)) hd
    · exact wpAny_Name (wpAny_loadName_free hk hl hc ⟨o, q4, q5⟩ (PE.here d q7 h) hd') hd
theorem Ev.builtin {x : Str} {pos : Pos} {v : Value} {Q : AV → List AO → Prop} (hm : G.mg x = none) (hb : bootBuiltins x = some v) (hl : sc.names.lookup x = some .globalImplicit) (h : Q (.con v) H)
    (hx : x ≠ "__name__" := by decide) (hd : (x == ("__debug__" : Str)) = false := by decide) : Ev G k sc (.Name x pos) m H Q := by
  intro A env ρ s he hr d V
  have hl' : env.kindOf x = some .globalImplicit := by unfold Env.kindOf; rw [he.scope]; exact hl
  exact Calls.Name_function_global (by rw [he.scope]; exact he.kind) hl' (Calls.loadGlobal_builtin (by rw [he.globals]; exact G.g.keeps d.base) hm (by rw [he.builtins]; exact G.b.keeps d.base) ((G.bb x hx).trans hb) (PE.here d VR.con' h)) hd
theorem Ev.cint {i : Int} {kk : Nat} {pos : Pos} {Q : AV → List AO → Prop} (h : Q (.int i) H) : Ev G k sc (.Constant (.int i) kk pos) m H Q :=
  fun _ _ _ _ _ _ d _ => wpAny_Constant_int (PE.now d VR.int' h)
theorem Ev.cbool {b : Bool} {kk : Nat} {pos : Pos} {Q : AV → List AO → Prop} (h : Q (.bool b) H) : Ev G k sc (.Constant (.bool b) kk pos) m H Q :=
  fun _ _ _ _ _ _ d _ => wpAny_Constant_bool (PE.here d VR.bool' h)
noncomputable def Tr (G : Gl) (k : Nat) (v : AV) (H : List AO) (Q : Bool → List AO → Prop) : Prop :=
  ∀ A ρ s cv, Rm k A → Wd G ρ H s → VR ρ v cv → wpAny G.M A (truthy cv) (PB G ρ s Q) NoE s
theorem Tr.bool {b : Bool} {Q : Bool → List AO → Prop} (h : Q b H) : Tr G k (.bool b) H Q := by
  rintro A ρ s cv hr d rfl
  exact wpAny_truthy_bool ⟨ρ, H, Stp.refl, d, h⟩
theorem Ts.cmp {l r : Expr} {op : CmpOp} {pos : Pos} {Q : Bool → List AO → Prop}
    (h : Ev G k sc l m H fun a H₁ => Ev G k sc r m H₁ fun b H₂ => Op G k (op2 (compareOp op)) [a, b] H₂ fun c H₃ => Tr G k c H₃ Q) (hm : behindInMarks op r = false := by with_unfolding_all rfl) :
    Ts G k sc (.Compare l [op] [r] pos) m H Q := by
  intro A env ρ s he hr d V
  refine wpAny_isTrue_Compare1 (PE.map (h A env ρ s he hr d V) fun va s₁ ρ₁ H₁ a x₁ d₁ ra h₁ => ?_) hm
  refine PE.map (h₁ A env ρ₁ s₁ he hr d₁ (V.stepE x₁)) fun vb s₂ ρ₂ H₂ b x₂ d₂ rb h₂ => ?_
  refine PE.map (h₂ A ρ₂ s₂ [va, vb] hr d₂ (.cons (x₂.vr ra) (.cons rb .nil))) fun vc s₃ ρ₃ H₃ c x₃ d₃ rc h₃ => ?_
  exact wp_fromB ((x₁.trans x₂).trans x₃) (h₃ A ρ₃ s₃ vc hr d₃ rc)
theorem Ts.val {e : Expr} {Q : Bool → List AO → Prop} (h : Ev G k sc e m H fun v H₁ => Tr G k v H₁ Q)
    (he' : ∀ env whole, isTrue e env whole = (do let v ← whole; standAt e.pos; holding [v] (truthy v)) := by intro _ _; rfl) : Ts G k sc e m H Q := by
  intro A env ρ s he hr d V
  rw [he']
  refine wpAny_bind (PE.map (h A env ρ s he hr d V) fun v s₁ ρ₁ H₁ av x₁ d₁ r₁ h₁ => ?_)
  exact wpAny_bind (wpAny_standAt (wpAny_holding (wp_fromB x₁ (h₁ A ρ₁ s₁ v hr d₁ r₁))))
theorem Evs.nil {Q : List AV → List AO → Prop} (h : Q [] H) : Evs G k sc [] m H Q :=
  fun _ _ ρ _ _ _ _ d _ => args_nil ⟨ρ, H, [], Stp.refl, d, .nil, h⟩
theorem Evs.cons {e : Expr} {es : List Expr} {Q : List AV → List AO → Prop} (h : Ev G k sc e m H fun v H₁ => Evs G k sc es m H₁ fun vs H₂ => Q (v :: vs) H₂)
    (he' : ∀ env, starEach (e :: es) env = (false, eval e env) :: starEach es env := by intro _; rfl) : Evs G k sc (e :: es) m H Q := by
  intro A env ρ s pos he hr d V
  refine args_cons (PE.map (h A env ρ s he hr d V) fun v s₁ ρ₁ H₁ av x₁ d₁ r₁ h₁ => ?_) (he' env)
  refine wpAny_mono (h₁ A env ρ₁ s₁ pos he hr d₁ (V.stepE x₁)) (fun vs s₂ hP => ?_) fun _ _ q => q
  obtain ⟨ρ₂, H₂, avs, x₂, d₂, r₂, h₂⟩ := hP
  exact ⟨ρ₂, H₂, av :: avs, x₁.trans x₂, d₂, .cons (x₂.vr r₁) r₂, h₂⟩
noncomputable def Sn (G : Gl) (k : Nat) (sc : Scope) (x : Str) (v : AV) (m : Vars) (H : List AO) (Q : Vars → List AO → Prop) : Prop :=
  ∀ A env ρ s cv, EnvOK sc env → Rm k A → Wd G ρ H s → Vr G ρ env m s → VR ρ v cv → wpAny G.M A (storeName env x cv) (PU G env ρ s Q) NoE s
theorem Sn.local {x : Str} {v : AV} {Q : Vars → List AO → Prop} (hl : sc.names.lookup x = some .local) (h : Q ((x, v) :: m) H) (hok : NameOk x := by decide) : Sn G k sc x v m H Q := by
  intro A env ρ s cv he hr d V hv
  have hl' : env.kindOf x = some .local := by unfold Env.kindOf; rw [he.scope]; exact hl
  obtain ⟨mc, hn, hm⟩ := V.ns
  refine wpAny_storeName_local hl' hn (fun h' hn' hs => ?_) (by rw [he.scope, he.kind]; rfl)
  obtain ⟨o, es, ep, ho, hd, _⟩ := hn
  refine ⟨ρ, H, _, Stp.locals hs hn', d.sameBut hs V.lfresh V.lnin (fun o' items n e q => ?_), ⟨V.lfresh, V.lnin, ⟨_, hn', fun y w h1 h2 => ?_⟩, fun y c hc => ?_, fun y w h1 => ?_, V.inj, V.keys⟩, h⟩
  · rw [ho] at e; cases e; rw [hd] at q; cases q
  · rw [lookup_put] at h1
    by_cases q : y = x
    · rw [if_pos q] at h1; cases h1; exact ⟨cv, if_pos q, hv⟩
    · rw [if_neg q] at h1
      obtain ⟨w', r1, r2⟩ := hm y w h1 h2
      exact ⟨w', (if_neg q).trans r1, r2⟩
  · obtain ⟨q1, q2, q3, oc, cv', q4, q5, q6⟩ := V.cells y c hc
    refine ⟨q1, q2, q3, oc, cv', (hs.2 _ q2).trans q4, q5, fun w h1 h2 => ?_⟩
    rw [lookup_put] at h1
    by_cases q : y = x
    · subst q; exact absurd hl' h2
    · rw [if_neg q] at h1; exact q6 w h1 h2
  · rw [lookup_put] at h1
    by_cases q : y = x
    · subst q; exact ⟨hok, .inl hl'⟩
    · rw [if_neg q] at h1; exact V.has y w h1
theorem Ex.aug {x : Str} {v₀ : AV} {p pos : Pos} {op : Operator} {value : Expr} {Q : AF → Vars → List AO → Prop} (hm : m.lookup x = some v₀) (hl : sc.names.lookup x = some .local)
    (h : Ev G k sc value m H fun v H₁ => Op G k (op2 (inplaceOp op)) [v₀, v] H₁ fun r H₂ => Q .next ((x, r) :: m) H₂) (hok : NameOk x := by decide) : Ex G k sc (.AugAssign (.Name x p) op value pos) m H Q := by
  intro A env ρ s he hr d V
  obtain ⟨mc, hn, hv⟩ := V.ns
  have hl' : env.kindOf x = some .local := by unfold Env.kindOf; rw [he.scope]; exact hl
  obtain ⟨cv, q1, q2⟩ := hv x v₀ hm hl'
  refine wpAny_AugAssign_Name (wpAny_loadName_local (by rw [he.scope]; exact he.kind) hl' hn q1 ?_)
  refine PE.map (h A env ρ s he hr d V) fun v s₁ ρ₁ H₁ av x₁ d₁ r₁ h₁ => ?_
  refine PE.map (h₁ A ρ₁ s₁ [cv, v] hr d₁ (.cons (x₁.vr q2) (.cons r₁ .nil))) fun r s₂ ρ₂ H₂ ar x₂ d₂ r₂ h₂ => ?_
  have z := Sn.local (G := G) (k := k) (H := H₂) (m := m) (v := ar) (Q := fun m' H' => Q .next m' H') hl h₂ hok A env ρ₂ s₂ r he hr d₂ (V.stepE (x₁.trans x₂)) r₂
  refine wpAny_mono z (fun _ s₃ hP => ?_) fun _ _ q => q.elim
  obtain ⟨ρ₃, H₃, m₃, x₃, d₃, V₃, h₃⟩ := hP
  exact ⟨ρ₃, H₃, m₃, .next, ((x₁.trans x₂).wide).trans x₃, d₃, V₃, rfl, h₃⟩
theorem Ex.expr {e : Expr} {pos : Pos} {Q : AF → Vars → List AO → Prop} (h : Ev G k sc e m H fun _ H₁ => Q .next m H₁)
    (hs : ∀ env, swapsWith e none pos.line env = pure false := by intro _; rfl) :
    Ex G k sc (.Expr e pos) m H Q := by
  intro A env ρ s he hr d V
  refine wpAny_Expr_any (PE.map (h A env ρ s he hr d V) fun v s₁ ρ₁ H₁ av x₁ d₁ r₁ h₁ => ?_) (interactive_no he) (hs env)
  exact ⟨ρ₁, H₁, m, .next, x₁.wide, d₁, V.stepE x₁, rfl, h₁⟩
theorem Ev.meth1 {o e : Expr} {es : List Expr} {name : Str} {apos pos : Pos} {T id : String} {Q : AV → List AO → Prop} (pa : PlainAttrs T) (slot : Slot T name id) (hty : typeOf (.builtin id) = pure (.type "method_descriptor"))
    (h : Ev G k sc o m H fun ov H₁ => If2 (KindIs H₁ T ov) (Evs G k sc (e :: es) m H₁ fun vs H₂ => Op G k (callOf (.builtin id)) (ov :: vs) H₂ Q))
    (hbase : ∀ env, attributeBase o name env (eval o env) = eval o env := by intro _; rfl)
    (hfew : ∀ env, ((backTo pos (starEach (e :: es) env)).all (fun x => !x.1) && (backToKw pos (keywordEach [] env)).all (fun x => x.1.isSome)
      && decide ((e :: es).length + ([] : List Keyword).length + (if ([] : List Keyword).isEmpty then 0 else 1) < 30)) = true := by intro _; rfl)
    (hline : (apos.endLine == pos.line) = true := by decide)
    (he' : ∀ env, starEach (e :: es) env = (false, eval e env) :: starEach es env := by intro _; rfl)
    (hp : ∀ env, (backTo pos (starEach (e :: es) env)).any (·.1) = false := by intro _; rfl) :
    Ev G k sc (.Call (.Attribute o name apos) (e :: es) [] pos) m H Q := by
  intro A env ρ s he hr d V
  refine wpAny_Call_method (hbase env) (hfew env) hline pa slot hty (PE.map (h A env ρ s he hr d V) fun v s₁ ρ₁ H₁ av x₁ d₁ r₁ h₁ => ?_)
  obtain ⟨hk, h₁⟩ := h₁
  obtain ⟨k1, k2⟩ := hk.sound d₁ r₁
  refine ⟨k1, k2, Calls.callWith_builtin (hp env) ?_⟩
  have z := wpAny_mono (h₁ A env ρ₁ s₁ pos he hr d₁ (V.stepE x₁)) (Q' := fun vs s₂ => wpAny G.M A (call (.builtin id) ([v] ++ vs) []) (PE G ρ s Q) NoE s₂) (E' := NoE) (fun vs s₂ ⟨ρ₂, H₂, avs, x₂, d₂, r₂, h₂⟩ => wp_from (x₁.trans x₂) (h₂ A ρ₂ s₂ (v :: vs) hr d₂ (.cons (x₂.vr r₁) r₂))) fun _ _ q => q
  rw [he'] at z ⊢
  exact Calls.evalArgs_plain z
theorem Op.of2 {t : Value → Value → Sem Value} {x y : AV} {Q : AV → List AO → Prop} (h : ∀ A ρ s a b, Rm k A → Wd G ρ H s → VR ρ x a → VR ρ y b → wpAny G.M A (t a b) (PE G ρ s Q) NoE s) : Op G k (op2 t) [x, y] H Q := by
  intro A ρ s cvs hr d hv
  cases hv with
  | cons h1 hv => cases hv with
    | cons h2 hv => cases hv; exact h A ρ s _ _ hr d h1 h2
theorem Op.call2 {f : Value} {x y : AV} {Q : AV → List AO → Prop} (h : ∀ A ρ s a b, Rm k A → Wd G ρ H s → VR ρ x a → VR ρ y b → wpAny G.M A (call f [a, b]) (PE G ρ s Q) NoE s) : Op G k (callOf f) [x, y] H Q := by
  intro A ρ s cvs hr d hv
  cases hv with
  | cons h1 hv => cases hv with
    | cons h2 hv => cases hv; exact h A ρ s _ _ hr d h1 h2
theorem Op.eq {i j : Int} {Q : AV → List AO → Prop} (h : Q (.bool (i == j)) H) : Op G k (op2 (compareOp .Eq)) [.int i, .int j] H Q := .of2 fun A ρ s a b hr d ⟨t, e1⟩ ⟨u, e2⟩ => by subst e1 e2; exact eq_int (PE.here d VR.bool' h)
theorem Op.iadd {i j : Int} {Q : AV → List AO → Prop} (h : Q (.int (i + j)) H) : Op G k (op2 (inplaceOp .Add)) [.int i, .int j] H Q := .of2 fun A ρ s a b hr d ⟨t, e1⟩ ⟨u, e2⟩ => by subst e1 e2; exact iadd_int (PE.now d VR.int' h)
theorem Op.lt {i j : Int} {Q : AV → List AO → Prop} (h : Q (.bool (decide (i < j))) H) : Op G k (op2 (compareOp .Lt)) [.int i, .int j] H Q := .of2 fun A ρ s a b hr d ⟨t, e1⟩ ⟨u, e2⟩ => by subst e1 e2; exact lt_int (PE.here d VR.bool' h)
theorem Op.gt {i j : Int} {Q : AV → List AO → Prop} (h : Q (.bool (decide (j < i))) H) : Op G k (op2 (compareOp .Gt)) [.int i, .int j] H Q := .of2 fun A ρ s a b hr d ⟨t, e1⟩ ⟨u, e2⟩ => by subst e1 e2; exact gt_int (PE.here d VR.bool' h)
theorem Op.append {j : Nat} {xs : List AV} {x : AV} {Q : AV → List AO → Prop} (hj : H[j]? = some (.list xs)) (hlen : xs.length ≤ 1000)
    (h : Q .none (H.set j (.list (xs ++ [x])))) : Op G k (callOf (.builtin "list.append")) [.ref j, x] H Q := .call2 fun A ρ s a b hr d r1 r2 => by
  obtain ⟨a, vs, n, rfl, ha, e, hv⟩ := d.listAt hj r1
  have hlv := hv.length
  refine append_at e (fun h' hs ho' => ?_) (by rw [List.size_toArray, hlv, sizeLine_eq]; lia)
  rw [pushArr] at ho'
  exact ⟨ρ, _, .none, Stp.sameBut (tk := s.toks) hs (.inl (List.mem_of_getElem? ha)) ho', d.set (ao := .list (xs ++ [x])) ha hs ⟨_, _, ho', hv.append (.cons r2 .nil)⟩, rfl, h⟩
noncomputable def As (G : Gl) (k : Nat) (sc : Scope) (t : Expr) (v : AV) (m : Vars) (H : List AO) (Q : Vars → List AO → Prop) : Prop :=
  ∀ A env ρ s cv, EnvOK sc env → Rm k A → Wd G ρ H s → Vr G ρ env m s → VR ρ v cv → wpAny G.M A (assign t env cv) (PU G env ρ s Q) NoE s
theorem As.name {x : Str} {pos : Pos} {v : AV} {Q : Vars → List AO → Prop} (h : Sn G k sc x v m H Q) : As G k sc (.Name x pos) v m H Q :=
  fun A env ρ s cv he hr d V hv => wpAny_assign_Name (h A env ρ s cv he hr d V hv)
theorem Ex.assign {t value : Expr} {pos : Pos} {Q : AF → Vars → List AO → Prop} (h : Ev G k sc value m H fun v H₁ => As G k sc t v m H₁ fun m' H' => Q .next m' H')
    (he' : ∀ env, (assignEach [t] env).map (·.2) = [PySem.assign t env] := by intro _; rfl)
    (hs : ∀ env, EnvOK sc env → swapsWithSole [t] value pos.line env = pure false := by intro _ _; rfl) (hw : ∀ env, EnvOK sc env → swappedStores [t] value env = pure none := by intro _ _; rfl) :
    Ex G k sc (.Assign [t] value pos) m H Q := by
  intro A env ρ s he hr d V
  refine wpAny_Assign_stores (PE.map (h A env ρ s he hr d V) fun v s₁ ρ₁ H₁ av x₁ d₁ r₁ h₁ => ?_) (hs env he) (hw env he)
  rw [he']
  refine wpAny_mono (h₁ A env ρ₁ s₁ v he hr d₁ (V.stepE x₁) r₁) (fun _ s₂ hP => ?_) fun _ _ q => q.elim
  obtain ⟨ρ₂, H₂, m₂, x₂, d₂, V₂, h₂⟩ := hP
  exact ⟨ρ₂, H₂, m₂, .next, x₁.wide.trans x₂, d₂, V₂, rfl, h₂⟩
theorem Ev.subL {value slice : Expr} {pos : Pos} {Q : AV → List AO → Prop}
    (h : Ev G k sc value m H fun o H₁ => Ev G k sc slice m H₁ fun i H₂ => SubQ H₂ Q o i)
    (hs : ∀ o i, subscripted slice false o i = operate [o, i] (getItem o i) := by intro _ _; rfl) : Ev G k sc (.Subscript value slice pos) m H Q := by
  intro A env ρ s he hr d V
  refine Subscript_ (PE.map (h A env ρ s he hr d V) fun vo s₁ ρ₁ H₁ o x₁ d₁ r₁ h₁ => ?_)
  refine PE.map (h₁ A env ρ₁ s₁ he hr d₁ (V.stepE x₁)) fun vi s₂ ρ₂ H₂ i x₂ d₂ r₂ h₂ => ?_
  obtain ⟨j, xs, ix, x, rfl, rfl, hj, hlen, hx, hq⟩ := h₂
  obtain ⟨t, rfl⟩ := r₂
  obtain ⟨a, vs, n, rfl, ha, e, hv⟩ := d₂.listAt hj (x₂.vr r₁)
  have hl := isList_of e
  have hlv := hv.length
  refine tail_any hl.typeIs slot_list_getitem.lookup ?_ (hs _ _)
  rcases hx with ⟨h0, hx⟩ | ⟨h0, h0', hx⟩
  · obtain ⟨v, hv1, hv2⟩ := hv.get hx
    have hlt := (List.getElem?_eq_some_iff.mp hx).1
    exact wpAny_getItem_list hl h0 (by lia) (by rw [List.getElem?_toArray]; exact hv1) ((PE.here d₂ hv2 hq).from (x₁.trans x₂))
  · obtain ⟨v, hv1, hv2⟩ := hv.get hx
    have sz : vs.toArray.size = xs.length := by rw [List.size_toArray, hlv]
    refine wpAny_getItem_list_neg hl h0 (by rw [sz]; lia) (by lia) (by rw [sz, List.getElem?_toArray]; exact hv1) ((PE.here d₂ hv2 hq).from (x₁.trans x₂))
theorem Op.extend {j l : Nat} {xs ys : List AV} {Q : AV → List AO → Prop} (hj : H[j]? = some (.list xs)) (hl : H[l]? = some (.list ys)) (hlen : xs.length ≤ 1000) (hlen' : ys.length ≤ 1000)
    (h : Q .none (H.set j (.list (xs ++ ys)))) : Op G k (callOf (.builtin "list.extend")) [.ref j, .ref l] H Q := .call2 fun A ρ s a b hr d r1 r2 => by
  obtain ⟨a, vs, n, rfl, ha, e, hv⟩ := d.listAt hj r1
  obtain ⟨b, us, n', rfl, hb, e', hu⟩ := d.listAt hl r2
  have hlv := hv.length
  have hlu := hu.length
  have z := d.turn (f := (· ++ us.toArray)) ha e (catArr vs us) (hv.append hu) s.toks
  exact call_meets PySem.F.slot_list_extend ⟨_, e, rfl⟩ PySem.F.entry_list_extend (PySem.F.args_list_extend_2 _ _) (PySem.AutoSeq1.list_extend_list_list_0 a vs.toArray n b us.toArray n' (by simp [Builtin.List.listTooLong, sizeLine]; lia) (by rw [List.size_toArray, hlv, sizeLine_eq]; lia) (by rw [List.size_toArray, List.size_toArray, hlv, hlu, sizeLine_eq]; lia)) ⟨e, e', ρ, _, .none, z.2, z.1, rfl, h⟩
noncomputable def EvO (G : Gl) (k : Nat) (sc : Scope) : Option Expr → Vars → List AO → (Option Int → List AO → Prop) → Prop
  | none, _, H, Q => Q none H
  | some e, m, H, Q => Ev G k sc e m H fun v H' => ∃ i, v = .int i ∧ Q (some i) H'
theorem EvO.sound {e : Option Expr} {Q : Option Int → List AO → Prop} (h : EvO G k sc e m H Q) : ∀ A env ρ s, EnvOK sc env → Rm k A → Wd G ρ H s → Vr G ρ env m s →
    wpAny G.M A (evalPart e env) (PO G ρ s Q) NoE s := by
  intro A env ρ s he hr d V
  cases e with
  | none => exact wpAny_pure ⟨ρ, H, none, Stp.refl, d, .none, h⟩
  | some e =>
    refine PE.map (h A env ρ s he hr d V) fun v s₁ ρ₁ H₁ av x₁ d₁ r₁ h₁ => ?_
    obtain ⟨i, rfl, h₁⟩ := h₁
    obtain ⟨t, rfl⟩ := r₁
    exact ⟨ρ₁, H₁, some i, x₁, d₁, .int i t, h₁⟩
theorem Ev.sliceL {value : Expr} {lower upper : Option Expr} {p pos : Pos} {Q : AV → List AO → Prop}
    (h : Ev G k sc value m H fun o H₁ => EvO G k sc lower m H₁ fun lo H₂ => EvO G k sc upper m H₂ fun hi H₃ => ∃ j xs, o = .ref j ∧ H₃[j]? = some (.list xs) ∧ xs.length ≤ 1000 ∧
      Q (.ref H₃.length) (H₃ ++ [.list (cutL xs lo hi)]))
    (ht : ∀ o r, letTemporaryGo value o r = pure () := by intro _ _; rfl) : Ev G k sc (.Subscript value (.Slice lower upper none p) pos) m H Q := by
  intro A env ρ s he hr d V
  refine wpAny_Subscript_list_slice ?_ ht
  refine PE.map (h A env ρ s he hr d V) fun vo s₁ ρ₁ H₁ o x₁ d₁ r₁ h₁ => ?_
  refine wpAny_mono (h₁.sound A env ρ₁ s₁ he hr d₁ (V.stepE x₁)) (fun vl s₂ hP => ?_) fun _ _ q => q
  obtain ⟨ρ₂, H₂, lo, x₂, d₂, pl, h₂⟩ := hP
  refine wpAny_mono (h₂.sound A env ρ₂ s₂ he hr d₂ (V.stepE (x₁.trans x₂))) (fun vu s₃ hP => ?_) fun _ _ q => q
  obtain ⟨ρ₃, H₃, hi, x₃, d₃, pu, h₃⟩ := hP
  obtain ⟨j, xs, rfl, hj, hlen, hq⟩ := h₃
  have x23 := x₂.trans x₃
  obtain ⟨a, vs, n, rfl, ha, e, hv⟩ := d₃.listAt hj (x23.vr r₁)
  have hlv := hv.length
  refine ⟨a, vs.toArray, lo, hi, rfl, isList_of e, by rw [List.size_toArray, hlv, sizeLine_eq]; lia, pl, pu, ?_⟩
  rw [pick_eq]
  have hn := fresh_none1 (h := s₃.heap)
  have z := PE.newObj (tk := s₃.toks) (Q := Q) (ao := .list (cutL xs lo hi)) (a := s₃.heap.objs.size + 1)
    (h' := (s₃.heap.push { cls := .type "slice", data := .fields #[vl, vu, .none] }).push { cls := .type "list", data := .seq (cutL vs lo hi).toArray }) d₃ hn
    (fun b o e => Heap.get?_push_of_some _ (Heap.get?_push_of_some _ e)) ⟨cutL vs lo hi, 0, by
      have := Heap.get?_push_size (s₃.heap.push { cls := .type "slice", data := .fields #[vl, vu, .none] }) (o := { cls := .type "list", data := .seq (cutL vs lo hi).toArray }) rfl
      rw [Heap.size_push] at this; exact this, (hv.cut lo hi).mono⟩ hq
  exact z.from (x₁.trans x23)
end Hd
end Mine
end
section
open PySem PySem.W PyProof.Rows
set_option maxRecDepth 100000
namespace Mine
variable {G : Gl} {k : Nat} {sc : Scope}

/- an exception of the text within one call that a known frame made -/
structure Ctx (G : Gl) (fr : List Env) (env envL : Env) (s₀ : Shared) : Prop where
  fr : fr = [env, envL]
  fe : env.frame = some env.locals
  fL : envL.frame = some envL.locals
  ke : env.scope.kind ≠ .module
  kL : envL.scope.kind ≠ .module
  al : ∀ a ∈ alls env ++ alls envL, ∃ o, s₀.heap.get? a = some o
  base : ∀ b o, G.h₀.get? b = some o → s₀.heap.get? b = some o
  ap : ∀ a ∈ alls env, a ∉ alls envL

structure ST (G : Gl) (env envL : Env) (mL : Vars) (ρ₀ : List Addr) (s₀ : Shared) (m : Vars) (H : List AO) (ρ : List Addr) (s : Shared) : Prop where
  stp : Stp (envL.locals :: own env) ρ₀ s₀ ρ s
  wd : Wd G ρ H s
  vr : Vr G ρ env m s
  vl : Vr G ρ envL mL s

structure Exn (s₀ : Shared) (ρ : List Addr) (s : Shared) (e : Addr) (cx : Value) (fl : Option Value) : Prop where
  new : s₀.heap.get? e = none
  out : e ∉ ρ
  obj : ∃ oe vs, s.heap.get? e = some oe ∧ oe.cls = .type "IndexError" ∧ oe.data = .fields vs ∧ vs.size = 6 ∧ vs[2]? = some cx ∧
    match fl with
    | none => vs[1]? = some .none
    | some f => ∃ T oT ts, vs[1]? = some (.ref T) ∧ T ≠ e ∧ s.heap.get? T = some oT ∧ oT.data = .fields ts ∧ ts[3]? = some f ∧ s₀.heap.get? T = none ∧ T ∉ ρ

theorem Vr.slots {ρ : List Addr} {env : Env} {m : Vars} {s s' : Shared} (V : Vr G ρ env m s) (h1 : ∀ o, s.heap.get? env.locals = some o → ∃ sl, s'.heap.get? env.locals = some { o with slots := sl })
    (h2 : ∀ x c, env.cells.lookup x = some c → ∀ o, s.heap.get? c = some o → s'.heap.get? c = some o) : Vr G ρ env m s' := by
  obtain ⟨mc, ⟨o, es, ep, ho, hd, hk, hf⟩, hv⟩ := V.ns
  obtain ⟨sl, ho'⟩ := h1 o ho
  refine ⟨V.lfresh, V.lnin, ⟨mc, ⟨_, es, ep, ho', hd, hk, hf⟩, hv⟩, fun y c hc => ?_, V.has, V.inj, V.keys⟩
  obtain ⟨q1, q2, q3, oc, cv, q4, q5, q6⟩ := V.cells y c hc
  exact ⟨q1, q2, q3, oc, cv, h2 y c hc oc q4, q5, q6⟩

section
variable {fr : List Env} {env envL : Env} {mL m : Vars} {ρ₀ ρ : List Addr} {s₀ s s' : Shared} {H : List AO} {e : Addr} {cx : Value} {E : Value → Shared → Prop} {A : Around}

theorem Ctx.notin (C : Ctx G fr env envL s₀) {a : Addr} (h : s₀.heap.get? a = none) : a ∉ alls env ++ alls envL := fun hm => by
  obtain ⟨o, e⟩ := C.al a hm; rw [h] at e; cases e
theorem own_alls {env : Env} {a : Addr} (h : a ∈ own env) : a ∈ alls env := own_sub h
theorem ST.inFrames (C : Ctx G fr env envL s₀) (S : ST G env envL mL ρ₀ s₀ m H ρ s) : s.heap.FunFrames G.h₀ [env, envL] := by
  obtain ⟨mc, hn, _⟩ := S.vr.ns
  obtain ⟨mc', hn', _⟩ := S.vl.ns
  exact Heap.FunFrames.cons C.ke C.fe hn S.vr.lfresh (Heap.FunFrames.cons C.kL C.fL hn' S.vl.lfresh trivial)

theorem ST.hid (C : Ctx G fr env envL s₀) (S : ST G env envL mL ρ₀ s₀ m H ρ s) {hs : List Addr} (hh : ∀ a ∈ hs, s₀.heap.get? a = none ∧ a ∉ ρ ∧ ∀ o items n, s.heap.get? a = some o → o.data ≠ .seq items n)
    (keep : ∀ b o, s.heap.get? b = some o → b ∉ hs → b ≠ env.locals → b ≠ envL.locals → s'.heap.get? b = some o)
    (slots : ∀ b o, s.heap.get? b = some o → b = env.locals ∨ b = envL.locals → ∃ sl, s'.heap.get? b = some { o with slots := sl }) (hg : s'.gens = s.gens) (ho : s'.os = s.os) : ST G env envL mL ρ₀ s₀ m H ρ s' := by
  have lo : env.locals ∈ alls env := .head _
  have loL : envL.locals ∈ alls envL := .head _
  have hnn : ∀ a ∈ hs, a ∉ alls env ++ alls envL := fun a ha => C.notin (hh a ha).1
  refine ⟨⟨S.stp.ext, fun b o e h1 h2 => ?_, fun b o e => ?_, by rw [hg]; exact S.stp.gens, ho.trans S.stp.os⟩, ?_, ?_, ?_⟩
  · have q := S.stp.keep b o e h1 h2
    refine keep b o q (fun hm => by rw [(hh b hm).1] at e; cases e) (fun hm => h2 (.tail _ (by rw [hm]; exact .head _))) (fun hm => h2 (by rw [hm]; exact .head _))
  · obtain ⟨o', e'⟩ := S.stp.alive b o e
    by_cases h1 : b = env.locals
    · obtain ⟨sl, q⟩ := slots b o' e' (.inl h1); exact ⟨_, q⟩
    · by_cases h2 : b = envL.locals
      · obtain ⟨sl, q⟩ := slots b o' e' (.inr h2); exact ⟨_, q⟩
      · exact ⟨o', keep b o' e' (fun hm => by rw [(hh b hm).1] at e; cases e) h1 h2⟩
  · refine S.wd.hids (hs := env.locals :: envL.locals :: hs) (fun b o e hb => ?_) (fun a ha => ?_) (fun a ha => ?_) fun a ha o items n e => ?_
    · simp only [List.mem_cons, not_or] at hb; exact keep b o e hb.2.2 hb.1 hb.2.1
    · rcases List.mem_cons.mp ha with q | ha
      · rw [q]; exact S.vr.lfresh
      rcases List.mem_cons.mp ha with q | ha
      · rw [q]; exact S.vl.lfresh
      cases q : G.h₀.get? a with
      | none => rfl
      | some o => have := C.base a o q; rw [(hh a ha).1] at this; cases this
    · rcases List.mem_cons.mp ha with q | ha
      · rw [q]; exact S.vr.lnin
      rcases List.mem_cons.mp ha with q | ha
      · rw [q]; exact S.vl.lnin
      exact (hh a ha).2.1
    · rcases List.mem_cons.mp ha with q | ha
      · obtain ⟨mc, ⟨o', es, ep, h1, h2, _⟩, _⟩ := S.vr.ns
        rw [q, h1] at e; cases e; rw [h2]; intro q; cases q
      rcases List.mem_cons.mp ha with q | ha
      · obtain ⟨mc, ⟨o', es, ep, h1, h2, _⟩, _⟩ := S.vl.ns
        rw [q, h1] at e; cases e; rw [h2]; intro q; cases q
      exact (hh a ha).2.2 o items n e
  · refine S.vr.slots (fun o e => slots _ o e (.inl rfl)) fun x c hc o e => keep c o e (fun hm => hnn c hm (List.mem_append_left _ (cell_own hc))) (S.vr.cells x c hc).ne fun q => ?_
    exact C.ap c (cell_own hc) (by rw [q]; exact loL)
  · refine S.vl.slots (fun o e => slots _ o e (.inr rfl)) fun x c hc o e => keep c o e (fun hm => hnn c hm (List.mem_append_right _ (cell_own hc))) (fun q => ?_) (S.vl.cells x c hc).ne
    exact C.ap c (by rw [q]; exact lo) (cell_own hc)

theorem Exn.step (C : Ctx G fr env envL s₀) {fl : Option Value} {ρ' : List Addr} (X : Exn s₀ ρ s e cx fl) (x : Stp (own env) ρ s ρ' s') : Exn s₀ ρ' s' e cx fl := by
  obtain ⟨oe, vs, h1, h2, h3, h4, h5, h6⟩ := X.obj
  have ne : ∀ a, s₀.heap.get? a = none → a ∉ own env := fun a ha hm => C.notin ha (List.mem_append_left _ (own_alls hm))
  refine ⟨X.new, x.notin X.out h1, oe, vs, x.keep _ _ h1 X.out (ne _ X.new), h2, h3, h4, h5, ?_⟩
  cases fl with
  | none => exact h6
  | some f =>
    obtain ⟨T, oT, ts, q1, q2, q3, q4, q5, q6, q7⟩ := h6
    exact ⟨T, oT, ts, q1, q2, x.keep _ _ q3 q7 (ne _ q6), q4, q5, q6, x.notin q7 q3⟩
theorem ST.step (C : Ctx G fr env envL s₀) {ρ' : List Addr} {m' : Vars} {H' : List AO} (S : ST G env envL mL ρ₀ s₀ m H ρ s) (x : Stp (own env) ρ s ρ' s') (d : Wd G ρ' H' s') (V : Vr G ρ' env m' s') : ST G env envL mL ρ₀ s₀ m' H' ρ' s' :=
  ⟨S.stp.trans (x.mono fun a ha => .tail _ ha), d, V, S.vl.step x fun a ha hm => C.ap a (own_alls hm) ha⟩

theorem note_new (C : Ctx G fr env envL s₀) (hfr : A.frames = some fr) (S : ST G env envL mL ρ₀ s₀ m H ρ s) (X : Exn s₀ ρ s e cx none) {Q : Unit → Shared → Prop}
    (kq : ∀ s', ST G env envL mL ρ₀ s₀ m H ρ s' → Exn s₀ ρ s' e cx (some (rawInt env.locals)) → Q () s') : wpAny G.M A (noteFrame (.ref e) env) Q E s := by
  rw [C.fr] at hfr
  obtain ⟨oe, vs, he, hc, hd, hz, h2, h1⟩ := X.obj
  have hl := S.inFrames C
  have hef : e ∉ [env, envL].filterMap (·.frame) := fun hm => by
    obtain ⟨_, o, ho, hnf⟩ := hl.mem hm
    rw [he] at ho; cases ho; exact hnf vs hd
  have eF : [env, envL].filterMap (·.frame) = [env.locals, envL.locals] := by simp [C.fe, C.fL]
  unfold noteFrame
  simp only [C.fe]
  refine wpAny_bind (wpAny_field he hd h1 ?_)
  rw [if_neg (by decide)]
  refine wpAny_bind (wpAny_frameOf_fun hfr hl C.fe fun h₁ hs₁ => ?_)
  refine wpAny_bind (wpAny_entryPlaceOf fun pl hpl => ?_)
  unfold EntryCells.newEntry newFields
  refine wpAny_bind (wpAny_newObj_type ?_ (hpl.sizeOk5 _ _ _ _ _))
  have he₁ : h₁.get? e = some oe := (hs₁.2.1 e hef).trans he
  rw [eF] at hs₁
  generalize hob : (([Value.none, .ref env.locals, .none, rawInt env.locals, .none] ++ (if pl.isEmpty then List.replicate 6 Value.none else pl)).toArray) = tv
  have ht3 : tv[3]? = some (rawInt env.locals) := by rw [← hob]; first | (simp; done) | (rcases hpl with rfl | ⟨_, _, _, _, _, _, _, rfl⟩ <;> simp)
  have he₂ := Heap.get?_push_of_some (h := h₁) { cls := .type "traceback", dict := none, data := .fields tv } he₁
  refine wpAny_setField he₂ hd (by lia) ?_
  have hTn : s.heap.get? h₁.objs.size = none := by rw [hs₁.1]; exact fresh_none
  have hTe : h₁.objs.size ≠ e := Nat.ne_of_gt (Heap.lt_size he₁)
  have hd₃ := Obj.data_mapFields hd (·.setIfInBounds 1 (Value.ref h₁.objs.size))
  have he₃ := Heap.get?_update_self (Obj.mapFields (·.setIfInBounds 1 (Value.ref h₁.objs.size))) he₂ (Obj.isFreed_of_fields hd₃)
  have hT₃ := (Heap.get?_update_other (h₁.push { cls := .type "traceback", dict := none, data := .fields tv }) (Obj.mapFields (·.setIfInBounds 1 (Value.ref h₁.objs.size))) (Ne.symm hTe)).trans (Heap.get?_push_size h₁ rfl)
  have old : ∀ b o, b ≠ e → h₁.get? b = some o → ((h₁.push { cls := .type "traceback", dict := none, data := .fields tv }).update e (Obj.mapFields (·.setIfInBounds 1 (Value.ref h₁.objs.size)))).get? b = some o := fun b o hb ho => by
    rw [Heap.get?_update_other _ _ (Ne.symm hb)]; exact Heap.get?_push_of_some _ ho
  have hTs : s₀.heap.get? h₁.objs.size = none := S.stp.none_back hTn
  refine kq _ (S.hid C (hs := [e]) (fun a ha => ?_) (fun b o ho hb h1 h2 => ?_) (fun b o ho hb => ?_) rfl rfl) ⟨X.new, X.out, _, _, he₃, ?_, hd₃, ?_, ?_, ?_⟩
  · simp at ha; subst ha
    refine ⟨X.new, X.out, fun o items n h => ?_⟩
    rw [he] at h; cases h; rw [hd]; intro q; cases q
  · simp at hb
    exact old b o hb ((hs₁.2.1 b (by simp [h1, h2])).trans ho)
  · obtain ⟨sl, q⟩ := hs₁.2.2 b o ho
    refine ⟨sl, old b _ (fun q => ?_) q⟩
    rw [eF] at hef
    rw [q] at hb
    rcases hb with r | r <;> exact hef (by simp [← r])
  · rw [← hc]; exact Obj.cls_mapFields _ _
  · simp [hz]
  · rw [Array.getElem?_setIfInBounds_ne (by decide)]; exact h2
  · exact ⟨h₁.objs.size, _, tv, by simp [hz], hTe, hT₃, rfl, ht3, hTs, S.wd.nin_none hTn⟩

theorem note_again (C : Ctx G fr env envL s₀) (X : Exn s₀ ρ s e cx (some (rawInt env.locals))) {Q : Unit → Shared → Prop} (h : Q () s) : wpAny G.M A (noteFrame (.ref e) env) Q E s := by
  obtain ⟨oe, vs, he, hc, hd, hz, h2, T, oT, ts, q1, q2, q3, q4, q5, q6, q7⟩ := X.obj
  exact wpAny_noteFrame_inFlight C.fe he hd q1 q3 q4 q5 h

theorem fly {fl : Value} (C : Ctx G fr env envL s₀) (S : ST G env envL mL ρ₀ s₀ m H ρ s) (X : Exn s₀ ρ s e cx (some fl)) {Q : Unit → Shared → Prop} {f : Option Addr}
    (kq : ∀ s', ST G env envL mL ρ₀ s₀ m H ρ s' → Exn s₀ ρ s' e cx (some (f.elim .none fun a => rawInt a)) → Q () s') : wpAny G.M A (setFlight (.ref e) f) Q E s := by
  obtain ⟨oe, vs, he, hc, hd, hz, h2, T, oT, ts, q1, q2, q3, q4, q5, q6, q7⟩ := X.obj
  have hsz : 3 < ts.size := (Array.getElem?_eq_some_iff.mp q5).1
  unfold setFlight
  refine wpAny_bind (wpAny_field he hd q1 ?_)
  rw [if_pos (show (Value.ref T != Value.none) = true from by simp)]
  refine wpAny_setField q3 q4 hsz ?_
  have other : ∀ b, b ≠ T → (s.heap.update T (Obj.mapFields (·.setIfInBounds 3 (f.elim Value.none fun f => rawInt f)))).get? b = s.heap.get? b := fun b hb => Heap.get?_update_other _ _ (Ne.symm hb)
  have hnn := C.notin q6
  have hd' := Obj.data_mapFields q4 (·.setIfInBounds 3 (f.elim Value.none fun f => rawInt f))
  refine kq _ (S.hid C (hs := [T]) (fun a ha => ?_) (fun b o ho hb h1 h2 => ?_) (fun b o ho hb => ⟨o.slots, ?_⟩) rfl rfl) ⟨X.new, X.out, oe, vs, (other e (Ne.symm q2)).trans he, hc, hd, hz, h2, T, _, _, q1, q2, Heap.get?_update_self _ q3 (Obj.isFreed_of_fields hd'), hd', by simp [hsz], q6, q7⟩
  · simp at ha; subst ha
    refine ⟨q6, q7, fun o items n h => ?_⟩
    rw [q3] at h; cases h; rw [q4]; intro q; cases q
  · simp at hb; exact (other b hb).trans ho
  · refine (other b fun q => hnn ?_).trans ho
    rw [← q]
    rcases hb with r | r <;> rw [r]
    · exact List.mem_append_left _ (.head _)
    · exact List.mem_append_right _ (.head _)

theorem Exn.traced {fl : Value} (X : Exn s₀ ρ s e cx (some fl)) {Q : Value → Shared → Prop} (h : ∀ T, Q (.ref T) s) : wpAny G.M A (field (.ref e) 1) Q E s := by
  obtain ⟨oe, vs, he, hc, hd, hz, h2, T, oT, ts, q1, _⟩ := X.obj
  exact wpAny_field he hd q1 (h T)
theorem pass_on {fl : Value} {α : Type} {what : String} (C : Ctx G fr env envL s₀) (S : ST G env envL mL ρ₀ s₀ m H ρ s) (X : Exn s₀ ρ s e cx (some fl)) {Q : α → Shared → Prop}
    (kq : ∀ s', ST G env envL mL ρ₀ s₀ m H ρ s' → Exn s₀ ρ s' e cx (some (rawInt env.locals)) → E (.ref e) s') : wpAny G.M A (PySem.passOn what (.ref e) env) Q E s := by
  unfold PySem.passOn
  refine wpAny_bind (X.traced fun T => ?_)
  rw [if_neg (by simp)]
  rw [C.fe]
  exact wpAny_bind (fly C S X fun s' S' X' => wpAny_throw (kq s' S' X'))
theorem came_back {fl : Value} (C : Ctx G fr env envL s₀) (S : ST G env envL mL ρ₀ s₀ m H ρ s) (X : Exn s₀ ρ s e cx (some fl))
    (kq : ∀ s', ST G env envL mL ρ₀ s₀ m H ρ s' → Exn s₀ ρ s' e cx (some (rawInt env.locals)) → E (.ref e) s') : cameBackBy G.M A env E (.ref e) s := by
  unfold cameBackBy
  refine wpAny_bind (X.traced fun T => ?_)
  rw [if_neg (by simp)]
  rw [C.fe]
  exact fly C S X fun s' S' X' => kq s' S' X'

/- raising -/
theorem entry_unchain : entryFor table "proto.unchain" = some Builtin.«proto.unchain» := entryFor_of_tree (by kernel_rfl)
theorem raiseNew_held {prog : Program} {w : World} {α : Type} {h : Addr} {oe oh : Obj} {vs ws : Array Value} {Q : α → Shared → Prop} (hh : A.handled = some (.ref h)) (he : s.heap.get? e = some oe) (hd : oe.data = .fields vs) (hz : vs.size = 6) (hne : h ≠ e)
    (ho : s.heap.get? h = some oh) (hod : oh.data = .fields ws) (h2 : ws[2]? = some .none) (kq : E (.ref e) { s with heap := s.heap.update e (Obj.mapFields (·.setIfInBounds 2 (.ref h))) }) : wpAny (model prog w) A (raiseNew (.ref e) : Sem α) Q E s := by
  unfold raiseNew
  refine wpAny_bind (wpAny_handled ?_)
  rw [hh]
  show wpAny _ A (if (Value.ref h != Value.ref e) = true then _ else _) Q E s
  rw [if_pos (by simpa using hne)]
  refine wpAny_bind (wpAny_holding (runValue_entry entry_unchain ?_))
  unfold Builtin.«proto.unchain»
  refine wpAny_bind (wpAny_field ho hod h2 ?_)
  show wpAny _ _ (if (Value.none == Value.none) = true then _ else _) _ _ s
  rw [if_pos (by decide)]
  refine wpAny_pure ⟨_, rfl, ?_⟩
  refine wpAny_bind (wpAny_setField (i := 2) (x := .ref h) he hd (by lia) (wpAny_throw kq))
end
end Mine
end
section
open PySem PySem.W PyProof.Rows
set_option maxRecDepth 100000
namespace Mine
variable {G : Gl} {k : Nat} {sc : Scope}

structure NewHeld (h h' : Heap) (e : Addr) (cls : String) (c : Value) : Prop where
  keeps : ∀ b o, h.get? b = some o → h'.get? b = some o
  new : h.get? e = none
  there : ∃ ob t, h'.get? e = some ob ∧ ob.cls = .type cls ∧ ob.data = .fields #[t, .none, c, .none, .bool false, .none]
section
variable {α : Type} {s : Shared} {E : Value → Shared → Prop} {A : Around}
noncomputable def HeldOk (A : Around) (s : Shared) (c : Value) : Prop :=
  (A.handled = none ∧ c = .none) ∨ ∃ h oh ws, c = .ref h ∧ A.handled = some (.ref h) ∧ s.heap.get? h = some oh ∧ oh.data = .fields ws ∧ ws[2]? = some .none

theorem raise_held {prog : Program} {w : World} {t : Value} {cls : String} {c : Value} {Q : α → Shared → Prop} (hp : PlainExc cls) (ho : HeldOk A s c)
    (h : ∀ h' e, NewHeld s.heap h' e cls c → E (.ref e) { s with heap := h' }) : wpAny (model prog w) A (newExc (.type cls) [t] >>= fun e => (raiseNew e : Sem α)) Q E s := by
  refine wpAny_bind ?_
  unfold newExc newTuple
  refine wpAny_bind (wpAny_newObj_type ?_)
  refine wpAny_bind (m := firstArgMember _ _) (wpAny_of_eq (a := Value.none) (by simp only [firstArgMember, hp.first]; rfl) ?_)
  rw [hp.own]
  refine wpAny_newObj_type ?_
  have kp : ∀ b o, s.heap.get? b = some o → ((s.heap.push { cls := .type "tuple", data := .seq [t].toArray }).push { cls := .type cls, data := .fields (#[.ref s.heap.objs.size, .none, .none, .none, .bool false, .none] ++ #[]) }).get? b = some o :=
    fun b o hb => Heap.get?_push_of_some _ (Heap.get?_push_of_some _ hb)
  have hn : s.heap.get? (s.heap.push { cls := .type "tuple", data := .seq [t].toArray }).objs.size = none := Heap.get?_none_of_le (by simp)
  have hth := Heap.get?_push_size (s.heap.push { cls := .type "tuple", data := .seq [t].toArray }) (o := { cls := .type cls, data := .fields (#[.ref s.heap.objs.size, .none, .none, .none, .bool false, .none] ++ #[]) }) rfl
  rcases ho with ⟨hh, rfl⟩ | ⟨h0, oh, ws, rfl, hh, ho, hod, h2⟩
  · unfold raiseNew
    refine wpAny_bind (wpAny_handled ?_)
    rw [hh]
    first
      | refine wpAny_throw ?_
      | refine wpAny_bind (wpAny_pure (wpAny_throw ?_))
    exact h _ _ ⟨kp, hn, _, .ref s.heap.objs.size, hth, rfl, by simp⟩
  · have hne : h0 ≠ (s.heap.push { cls := .type "tuple", data := .seq [t].toArray }).objs.size := fun q => by rw [q, hn] at ho; cases ho
    refine raiseNew_held hh hth (vs := #[.ref s.heap.objs.size, .none, .none, .none, .bool false, .none]) (by simp) rfl hne (kp _ _ ho) hod h2 ?_
    have hd3 := Obj.data_mapFields (o := { cls := .type cls, data := .fields (#[.ref s.heap.objs.size, .none, .none, .none, .bool false, .none] ++ #[]) }) rfl (·.setIfInBounds 2 (Value.ref h0))
    refine h _ _ ⟨fun b o hb => ?_, hn, _, .ref s.heap.objs.size, Heap.get?_update_self _ hth (Obj.isFreed_of_fields hd3), Obj.cls_mapFields _ _, ?_⟩
    · rw [Heap.get?_update_other _ _ (fun q => by rw [← q, hn] at hb; cases hb)]; exact kp b o hb
    · rw [hd3]; rfl

theorem raiseWords_held {prog : Program} {w : World} {cls msg : String} {c : Value} {Q : α → Shared → Prop} (hp : PlainExc cls) (ho : HeldOk A s c)
    (h : ∀ h' tk e, NewHeld s.heap h' e cls c → E (.ref e) { s with heap := h', toks := tk }) : wpAny (model prog w) A (raiseErrorWords cls msg : Sem α) Q E s := by
  unfold raiseErrorWords
  exact wpAny_bind (wpAny_mkText (raise_held (s := { s with toks := _ }) hp ho fun h' e x => h h' _ e x))


theorem getItem_out {prog : Program} {w : World} {l : Addr} {items : Array Value} {k : Int} {t : Tok} {c : Value} {Q : Value → Shared → Prop} (hA : HeldOk A s c) (hl : s.heap.IsList l items) (hout : (items.size : Int) ≤ k) (hhi : k < 2 ^ 63)
    (hE : ∀ h' tk e, NewHeld s.heap h' e "IndexError" c → E (.ref e) { s with heap := h', toks := tk }) :
    wpAny (model prog w) A (getItem (.ref l) (.int k t)) Q E s := by
  obtain ⟨o, ho, hc, ne, hd⟩ := id hl
  unfold getItem
  try with_reducible refine wpAny_holding ?_
  first | refine wpAny_bind (wpAny_pure ?_) | skip
  refine wpAny_bind (wpAny_sequenceKey hl.typeIs (by decide) ?_)
  refine wpAny_bind (wpAny_callSpecial?_slot (name := Str.ofString "__getitem__") hl.typeIs slot_list_getitem
    (wpAny_call_entry slot_list_getitem hl.typeIs entry_list_getitem ?_ (args_list_getitem _ _)))
  show wpAny _ _ (Builtin.List.listSubscript? (.int k t) >>= _) _ _ s
  refine wpAny_bind (wpAny_listSubscript_int (fitsIndex_both (by lia) hhi) ?_)
  clear hhi
  cases k with
  | negSucc j => exact absurd hout (by have := Int.negSucc_lt_zero j; lia)
  | ofNat j =>
  have hx : items[j]? = none := Array.getElem?_eq_none (by have : (items.size : Int) ≤ (j : Int) := hout; lia)
  show wpAny _ _ ((seqItemAt l j >>= fun r => pure (r.map (j, ·))) >>= _) _ _ s
  refine wpAny_bind (wpAny_bind (wpAny_seqItemAt ho hd (wpAny_pure ?_)))
  rw [hx]
  first
    | exact wpAny_bind (wpAny_rule (by exact raiseWords_held plainExc_IndexError hA hE))
    | exact wpAny_bind (wpAny_rule (wpAny_bind (by exact raiseWords_held plainExc_IndexError hA hE)))
    | exact wpAny_bind (wpAny_bind (wpAny_rule (by exact raiseWords_held plainExc_IndexError hA hE)))
    | exact wpAny_rule (by exact raiseWords_held plainExc_IndexError hA hE)
end
end Mine
end
section
open PySem PySem.W PyProof.Rows
set_option maxRecDepth 100000
namespace Mine
variable {G : Gl} {k : Nat} {sc : Scope}
section
variable {fr : List Env} {env envL : Env} {mL m : Vars} {ρ₀ ρ : List Addr} {s₀ s s' : Shared} {H : List AO} {E : Value → Shared → Prop} {A : Around}

noncomputable def Pres (s₀ : Shared) (ρ : List Addr) (s : Shared) (ρ' : List Addr) (s' : Shared) : Prop := ∀ e cx fl, Exn s₀ ρ s e cx fl → Exn s₀ ρ' s' e cx fl

theorem ST.less {m' : Vars} (S : ST G env envL mL ρ₀ s₀ m H ρ s) (h : SubL m' m) : ST G env envL mL ρ₀ s₀ m' H ρ s := ⟨S.stp, S.wd, S.vr.less h.sub, S.vl⟩

theorem lift_ex (C : Ctx G fr env envL s₀) (he : EnvOK sc env) (hr : Hd.Rm k A) (S : ST G env envL mL ρ₀ s₀ m H ρ s) {st : Stmt} {M' : Vars} {H' : List AO}
    (h : Hd.Ex G k sc st m H fun f m' Hx => f = .next ∧ m' = M' ∧ Hx = H') : wpAny G.M A (exec st env) (fun f s' => f = .next ∧ ∃ ρ', ST G env envL mL ρ₀ s₀ M' H' ρ' s' ∧ Pres s₀ ρ s ρ' s') E s := by
  refine wpAny_mono (h A env ρ s he hr S.wd S.vr) (fun f s₁ hP => ?_) fun _ _ q => q.elim
  obtain ⟨ρ₁, H₁, m₁, af, x₁, d₁, V₁, hf, q1, q2, q3⟩ := hP
  subst q1 q2 q3
  exact ⟨hf, ρ₁, S.step C x₁ d₁ V₁, fun e cx fl X => X.step C x₁⟩
theorem go_on (C : Ctx G fr env envL s₀) (he : EnvOK sc env) (hr : Hd.Rm k A) (S : ST G env envL mL ρ₀ s₀ m H ρ s) {st : Stmt} {rest : List Stmt} {M' : Vars} {H' : List AO} {Q : Flow → Shared → Prop}
    (h : Hd.Ex G k sc st m H fun f m' Hx => f = .next ∧ m' = M' ∧ Hx = H') (kq : ∀ ρ' s', ST G env envL mL ρ₀ s₀ M' H' ρ' s' → Pres s₀ ρ s ρ' s' → wpAny G.M A (execs rest env) Q E s') : wpAny G.M A (execs (st :: rest) env) Q E s := by
  refine wpAny_execs_cons (wpAny_mono (lift_ex C he hr S h) (fun f s₁ hP => ?_) fun _ _ q => q)
  obtain ⟨e, ρ₁, S₁, P₁⟩ := hP
  subst e
  exact kq ρ₁ s₁ S₁ P₁
theorem lift_ts (C : Ctx G fr env envL s₀) (he : EnvOK sc env) (hr : Hd.Rm k A) (S : ST G env envL mL ρ₀ s₀ m H ρ s) {t : Expr} {b : Bool} {Q : Bool → Shared → Prop}
    (h : Hd.Ts G k sc t m H fun b' Hx => b' = b ∧ Hx = H) (kq : ∀ ρ' s', ST G env envL mL ρ₀ s₀ m H ρ' s' → Pres s₀ ρ s ρ' s' → Q b s') : wpAny G.M A (isTrue t env (eval t env)) Q E s := by
  refine wpAny_mono (h A env ρ s he hr S.wd S.vr) (fun f s₁ hP => ?_) fun _ _ q => q.elim
  obtain ⟨ρ₁, H₁, x₁, d₁, q1, q2⟩ := hP
  subst q1 q2
  exact kq ρ₁ s₁ (S.step C x₁.wide d₁ (S.vr.stepE x₁)) fun e cx fl X => X.step C x₁.wide

theorem sub_out (C : Ctx G fr env envL s₀) (he : EnvOK sc env) (hr : Hd.Rm k A) (S : ST G env envL mL ρ₀ s₀ m H ρ s) {l i : Str} {p1 p2 p3 : Pos} {jl : Nat} {ix : Nat} {xs : List AV} {c : Value} {Q : Value → Shared → Prop}
    (hl : m.lookup l = some (.ref jl)) (hi : m.lookup i = some (.int (ix : Int))) (hj : H[jl]? = some (.list xs)) (hout : xs.length ≤ ix) (hix : ix ≤ 1000) (hA : HeldOk A s c)
    (hp : ∀ h, c = .ref h → ∃ fl, Exn s₀ ρ s h .none fl)
    (hE : ∀ ρ' s' e, ST G env envL mL ρ₀ s₀ m H ρ' s' → Exn s₀ ρ' s' e c none → E (.ref e) s') : wpAny G.M A (eval (.Subscript (.Name l p1) (.Name i p2) p3) env) Q E s := by
  refine Subscript_ (PE.map (Hd.Ev.var (k := k) (Q := fun v H' => v = .ref jl ∧ H' = H) hl ⟨rfl, rfl⟩ A env ρ s he hr S.wd S.vr) fun vo s₁ ρ₁ H₁ o x₁ d₁ r₁ h₁ => ?_)
  obtain ⟨rfl, rfl⟩ := h₁
  have S₁ := S.step C x₁.wide d₁ (S.vr.stepE x₁)
  refine PE.map (Hd.Ev.var (k := k) (Q := fun v H' => v = .int (ix : Int) ∧ H' = H₁) hi ⟨rfl, rfl⟩ A env ρ₁ s₁ he hr S₁.wd S₁.vr) fun vi s₂ ρ₂ H₂ o x₂ d₂ r₂ h₂ => ?_
  obtain ⟨rfl, rfl⟩ := h₂
  have S₂ := S₁.step C x₂.wide d₂ (S₁.vr.stepE x₂)
  obtain ⟨t, rfl⟩ := r₂
  obtain ⟨a, vs, n, rfl, ha, e, hv⟩ := d₂.listAt hj (x₂.vr r₁)
  have hl' := isList_of e
  have hlv := hv.length
  have hA₂ : HeldOk A s₂ c := by
    rcases hA with q | ⟨h, oh, ws, q1, q2, q3, q4, q5⟩
    · exact .inl q
    · obtain ⟨fl, X⟩ := hp h q1
      obtain ⟨oe, vs', w1, w2, w3, w4, w5, _⟩ := ((X.step C x₁.wide).step C x₂.wide).obj
      exact .inr ⟨h, oe, vs', q1, q2, w1, w3, w5⟩
  refine tail_any hl'.typeIs slot_list_getitem.lookup ?_ rfl
  refine getItem_out hA₂ hl' (by rw [List.size_toArray, hlv]; lia) (by lia) fun h' tk ee x => ?_
  have hn₂ : s₀.heap.get? ee = none := S₂.stp.none_back x.new
  obtain ⟨ob, tt, w1, w2, w3⟩ := x.there
  refine hE ρ₂ _ ee (S₂.hid C (hs := []) (fun _ h => by cases h) (fun b o e _ _ _ => x.keeps b o e) (fun b o e _ => ⟨o.slots, x.keeps b o e⟩) rfl rfl) ⟨hn₂, S₂.wd.nin_none x.new, ob, _, w1, w2, w3, by simp, by simp, by simp⟩

theorem assign_out (C : Ctx G fr env envL s₀) (he : EnvOK sc env) (hr : Hd.Rm k A) (S : ST G env envL mL ρ₀ s₀ m H ρ s) {x l i : Str} {p1 p2 p3 px pos : Pos} {jl : Nat} {ix : Nat} {xs : List AV} {Q : Flow → Shared → Prop}
    (hA : A.handled = none) (hl : m.lookup l = some (.ref jl)) (hi : m.lookup i = some (.int (ix : Int))) (hj : H[jl]? = some (.list xs)) (hout : xs.length ≤ ix) (hix : ix ≤ 1000)
    (hE : ∀ ρ' s' e, ST G env envL mL ρ₀ s₀ m H ρ' s' → Exn s₀ ρ' s' e .none none → E (.ref e) s')
    (hs : swapsWithSole [.Name x px] (.Subscript (.Name l p1) (.Name i p2) p3) pos.line env = pure false := by rfl) (hw : swappedStores [.Name x px] (.Subscript (.Name l p1) (.Name i p2) p3) env = pure none := by rfl) :
    wpAny G.M A (exec (.Assign [.Name x px] (.Subscript (.Name l p1) (.Name i p2) p3) pos) env) Q E s :=
  wpAny_Assign_stores (sub_out C he hr S hl hi hj hout hix (.inl ⟨hA, rfl⟩) (fun _ q => by cases q) hE) hs hw

theorem while_out (C : Ctx G fr env envL s₀) (hfr : A.frames = some fr) (he : EnvOK sc env) (hr : Hd.Rm k A) (S : ST G env envL mL ρ₀ s₀ m H ρ s) {l i : Str} {r : Expr} {body : List Stmt} {p1 p2 p3 pc pos : Pos} {jl : Nat} {ix : Nat} {xs : List AV} {c : Value} {Q : Flow → Shared → Prop}
    (hl : m.lookup l = some (.ref jl)) (hi : m.lookup i = some (.int (ix : Int))) (hj : H[jl]? = some (.list xs)) (hout : xs.length ≤ ix) (hix : ix ≤ 1000) (hA : HeldOk A s c)
    (hp : ∀ h, c = .ref h → ∃ fl, Exn s₀ ρ s h .none fl)
    (hE : ∀ ρ' s' e, ST G env envL mL ρ₀ s₀ m H ρ' s' → Exn s₀ ρ' s' e c (some (rawInt env.locals)) → E (.ref e) s') (hm : behindInMarks .Eq r = false := by with_unfolding_all rfl) :
    wpAny G.M A (exec (.While (.Compare (.Subscript (.Name l p1) (.Name i p2) p3) [.Eq] [r] pc) body [] pos) env) Q E s := by
  refine wpAny_While (codeAny_of_tree ?_)
  rw [Around.under_of_weight (c := .whileLoop (.Compare (.Subscript (.Name l p1) (.Name i p2) p3) [.Eq] [r] pc) body [] env) rfl rfl]
  show wpAny G.M A ((whileTurn (.Compare (.Subscript (.Name l p1) (.Name i p2) p3) [.Eq] [r] pc) body [] env).onRaise (fun x => do noteFrame x env; theTreesLotGoes x)) _ _ s
  refine wpAny_noted ?_
  simp only [whileTurn]
  refine wpAny_bind (wpAny_isTrue_Compare1 (sub_out C he hr S hl hi hj hout hix hA hp fun ρ₁ s₁ e S₁ X₁ => ?_) hm)
  refine note_new C hfr S₁ X₁ fun s₂ S₂ X₂ => ?_
  exact came_back C S₂ X₂ fun s₃ S₃ X₃ => hE ρ₁ s₃ e S₃ X₃
theorem while_false (C : Ctx G fr env envL s₀) (he : EnvOK sc env) (hr : Hd.Rm k A) (S : ST G env envL mL ρ₀ s₀ m H ρ s) {t : Expr} {body : List Stmt} {pos : Pos} {Q : Flow → Shared → Prop}
    (h : Hd.Ts G k sc t m H fun b' Hx => b' = false ∧ Hx = H) (kq : ∀ ρ' s', ST G env envL mL ρ₀ s₀ m H ρ' s' → Pres s₀ ρ s ρ' s' → Q .next s') : wpAny G.M A (exec (.While t body [] pos) env) Q E s := by
  refine wpAny_While (codeAny_of_tree ?_)
  rw [Around.under_of_weight (c := .whileLoop t body [] env) rfl rfl]
  show wpAny G.M A ((whileTurn t body [] env).onRaise (fun x => do noteFrame x env; theTreesLotGoes x)) _ _ s
  refine wpAny_noted ?_
  simp only [whileTurn]
  refine wpAny_bind (lift_ts C he hr S h fun ρ₁ s₁ S₁ P₁ => ?_)
  simp only [Bool.false_eq_true, if_false]
  exact wpAny_bind (wpAny_execs_nil (wpAny_pure (kq ρ₁ s₁ S₁ P₁)))
end
end Mine
end
section
open PySem PySem.W PyProof.Rows PySem.Calls
set_option maxRecDepth 100000
namespace Mine
variable {G : Gl} {k : Nat} {sc : Scope} {H : List AO}

/- sorted_list_difference: the pure twin -/
noncomputable def sldF : Nat → List Int → List Int → List Int × List Int
  | _, [], ys => ([], ys)
  | _, x :: xs, [] => (x :: xs, [])
  | 0, x :: xs, y :: ys => (x :: xs, y :: ys)
  | n + 1, x :: xs, y :: ys => if x < y then (x :: (sldF n xs (y :: ys)).1, (sldF n xs (y :: ys)).2) else if y < x then ((sldF n (x :: xs) ys).1, y :: (sldF n (x :: xs) ys).2) else sldF n xs ys
theorem sldF_more {n : Nat} : ∀ {xs ys : List Int}, xs.length + ys.length ≤ n → sldF (n + 1) xs ys = sldF n xs ys := by
  induction n with
  | zero =>
    intro xs ys h
    cases xs with
    | nil => rfl
    | cons x xs => simp at h
  | succ n ih =>
    intro xs ys h
    cases xs with
    | nil => rfl
    | cons x xs =>
      cases ys with
      | nil => rfl
      | cons y ys =>
        have h' : xs.length + ys.length + 1 ≤ n := by simp at h; lia
        show (if x < y then _ else if y < x then _ else _) = (if x < y then _ else if y < x then _ else _)
        rw [ih (xs := xs) (ys := y :: ys) (by simp; lia), ih (xs := x :: xs) (ys := ys) (by simp; lia), ih (xs := xs) (ys := ys) (by lia)]
noncomputable def sld (xs ys : List Int) : List Int × List Int := sldF (xs.length + ys.length) xs ys
theorem sld_nilL (ys : List Int) : sld [] ys = ([], ys) := by unfold sld; cases ([] : List Int).length + ys.length <;> rfl
theorem sld_nilR (xs : List Int) : sld xs [] = (xs, []) := by
  cases xs with
  | nil => rfl
  | cons x xs => rfl
theorem sld_cons (x : Int) (xs : List Int) (y : Int) (ys : List Int) : sld (x :: xs) (y :: ys) = if x < y then (x :: (sld xs (y :: ys)).1, (sld xs (y :: ys)).2) else if y < x then ((sld (x :: xs) ys).1, y :: (sld (x :: xs) ys).2) else sld xs ys := by
  unfold sld
  have e : (x :: xs).length + (y :: ys).length = xs.length + (y :: ys).length + 1 := by simp; lia
  have e2 : (x :: xs).length + ys.length = xs.length + (y :: ys).length := by simp; lia
  have e3 : xs.length + (y :: ys).length = xs.length + ys.length + 1 := rfl
  rw [e]
  show (if x < y then _ else if y < x then _ else _) = _
  rw [e2, e3, sldF_more (xs := xs) (ys := ys) (Nat.le_refl _)]

noncomputable def sldM (x y u : Nat) (i j : Nat) : Vars := [(Str.ofString "expected", .ref x), (Str.ofString "actual", .ref y), (Str.ofString "i", .int (i : Int)), (Str.ofString "j", .int (j : Int)), (Str.ofString "missing", .ref u), (Str.ofString "unexpected", .ref (u + 1))]

theorem drop_at {xs : List Int} {i : Nat} (h : i < xs.length) : xs.drop i = xs.getD i 0 :: xs.drop (i + 1) := by
  rw [List.drop_eq_getElem_cons h, List.getD_eq_getElem?_getD, List.getElem?_eq_getElem h]; rfl
theorem getI {xs : List Int} {i : Nat} (h : i < xs.length) : (xs.map AV.int)[((i : Nat) : Int).toNat]? = some (.int (xs.getD i 0)) := by
  rw [Int.toNat_natCast, List.getElem?_map, List.getElem?_eq_getElem h, List.getD_eq_getElem?_getD, List.getElem?_eq_getElem h]; rfl
theorem strict_at {xs : List Int} (h : xs.Pairwise (· < ·)) {i : Nat} (hi : i + 1 < xs.length) : xs.getD i 0 < xs.getD (i + 1) 0 := by
  rw [List.getD_eq_getElem?_getD, List.getD_eq_getElem?_getD, List.getElem?_eq_getElem hi, List.getElem?_eq_getElem (by lia : i < xs.length)]
  exact List.pairwise_iff_getElem.mp h i (i + 1) (by lia) hi (by lia)
theorem cut_from {xs : List Int} {i : Nat} (h : i ≤ xs.length) : cutL (xs.map AV.int) (some (i : Int)) none = (xs.drop i).map AV.int := by
  unfold cutL
  have h1 : (sliceBounds (some (i : Int)) none none (xs.map AV.int).length).1.toNat = i := sb_from (by rw [List.length_map]; exact h)
  have h2 : (sliceBounds (some (i : Int)) none none (xs.map AV.int).length).2.1.toNat = xs.length := by unfold sliceBounds; simp
  dsimp only
  rw [h1, h2, List.map_drop, List.take_of_length_le (by simp)]

structure LI (G : Gl) (env envL : Env) (mL : Vars) (ρ₀ : List Addr) (s₀ : Shared) (H : List AO) (x y : Nat) (xs ys M U : List Int) (ρ : List Addr) (s : Shared) (i j : Nat) (ms us : List Int) : Prop where
  st : ST G env envL mL ρ₀ s₀ (sldM x y H.length i j) (H ++ [.list (ms.map .int), .list (us.map .int)]) ρ s
  hi : i ≤ xs.length
  hj : j ≤ ys.length
  lm : ms.length ≤ i
  lu : us.length ≤ j
  em : ms ++ (sld (xs.drop i) (ys.drop j)).1 = M
  eu : us ++ (sld (xs.drop i) (ys.drop j)).2 = U

inductive SldN (G : Gl) (env envL : Env) (mL : Vars) (ρ : List Addr) (s₀ : Shared) (H : List AO) (x y : Nat) (xs ys M U : List Int) (n : Nat) (f : Flow) (s' : Shared) : Prop
  | mk (e : f = .next) (ρ' : List Addr) (i' j' : Nat) (ms' us' : List Int) (lt : (xs.length - i') + (ys.length - j') < n) (I : LI G env envL mL ρ s₀ H x y xs ys M U ρ' s' i' j' ms' us')
inductive SldX (G : Gl) (env envL : Env) (mL : Vars) (ρ : List Addr) (s₀ : Shared) (H : List AO) (x y : Nat) (xs ys M U : List Int) (ev : Value) (s' : Shared) : Prop
  | mk (e : Addr) (ρ' : List Addr) (i' j' : Nat) (ms' us' : List Int) (cx : Value) (fl : Option Value) (he : ev = .ref e) (I : LI G env envL mL ρ s₀ H x y xs ys M U ρ' s' i' j' ms' us') (X : Exn s₀ ρ' s' e cx fl)
      (hf : fl = none ∨ fl = some (rawInt env.locals)) (hend : xs.length ≤ i' ∨ ys.length ≤ j')
inductive PT (G : Gl) (envL : Env) (mL : Vars) (ρ : List Addr) (s : Shared) (Q : AV → List AO → Prop) (v : Value) (s' : Shared) : Prop
  | mk (ρ' : List Addr) (H' : List AO) (av : AV) (x : Stp [envL.locals] ρ s ρ' s') (d : Wd G ρ' H' s') (l : Vr G ρ' envL mL s') (r : VR ρ' av v) (q : Q av H')
theorem call_T {A : Around} {ρ : List Addr} {s : Shared} {envL : Env} {mL : Vars} {a : Addr} {o : Obj} {fd : FuncData} {body : List Stmt} {vs : List AV} {cvs : List Value} {Q : AV → List AO → Prop} (ho : G.h₀.get? a = some o) (hd : o.data = .func fd) (hcd : G.h₀.CodeRec fd.code fd.qualname)
    (hbody : fd.body = .stmts body) (hbind : ∀ cvs : List Value, cvs.length = vs.length → bindArgs fd ⟨cvs, []⟩ = pure ((fd.params.args.map (·.arg)).zip cvs))
    (hnd : (fd.params.args.map (·.arg)).Nodup) (hlen : (fd.params.args.map (·.arg)).length = vs.length)
    (hcell : ∀ x ∈ fd.scope.names, x.2 ≠ .cell) (hloc : ∀ n ∈ fd.params.args.map (·.arg), fd.scope.names.lookup n = some .local)
    (hok : ∀ n ∈ fd.params.args.map (·.arg), NameOk n) (hg : fd.globals = mainGlobals) (hb : fd.builtins = builtinsNs) (hcl : fd.closure = [])
    (hr : Rm (k + 1) A) (hfr : A.frames = some [envL]) (hfL : envL.frame = some envL.locals) (hkL : envL.scope.kind ≠ .module) (d : Wd G ρ H s) (V : Vr G ρ envL mL s) (hv : VRs ρ vs cvs)
    (h : ∀ env s₀, EnvOK fd.scope env → Ctx G [env, envL] env envL s₀ → (A.deeper env).frames = some [env, envL] → Rm k (A.deeper env) → ST G env envL mL ρ s₀ ((fd.params.args.map (·.arg)).zip vs) H ρ s₀ →
      wpAny G.M (A.deeper env) (execs body env) (fun f s' => ∃ ρ' H' m' af, ST G env envL mL ρ s₀ m' H' ρ' s' ∧ FR ρ' af f ∧ Q (retv af) H') NoE s₀)
    (hco : fd.scope.isCoroutine = false := by rfl) (hgen : fd.scope.isGenerator = false := by rfl) (hk : fd.scope.kind = .function := by rfl) :
    wpAny G.M A (call (.ref a) cvs) (PT G envL mL ρ s Q) NoE s := by
  have hn2 : (((fd.params.args.map (·.arg)).zip cvs).map (·.1)).Nodup := by
    rw [List.map_fst_zip (by rw [hv.length, hlen]; exact Nat.le_refl _)]; exact hnd
  refine wpAny_call (codeAny_call_def hr.room (d.base _ _ ho) hd (G.nl.keeps d.base) (hcd.keeps d.base) hbody (BindsTo.of_eq (hbind cvs hv.length)) hcell (fun x hx => hloc _ (List.of_mem_zip hx).1) (fun h₁ hns hk₁ => ?_) hco hgen hk)
  have hL := fresh_none (h := s.heap)
  have he : EnvOK fd.scope (callEnv fd s.heap.objs.size a) := ⟨rfl, hk, hg, hb, rfl, fun _ => ⟨rfl, fun x hx => absurd rfl (hcell _ (lookup_mem hx))⟩⟩
  have hc0 : (callEnv fd s.heap.objs.size a).cells = [] := hcl
  have st : ∀ W, Stp W ρ s ρ { s with heap := h₁, toks := s.toks + ((fd.params.args.map (·.arg)).zip cvs).length } := fun W => Stp.keeps hk₁
  have V' : Vr G ρ (callEnv fd s.heap.objs.size a) ((fd.params.args.map (·.arg)).zip vs) { s with heap := h₁, toks := s.toks + ((fd.params.args.map (·.arg)).zip cvs).length } := by
    refine ⟨d.base_none hL, d.nin_none hL, ⟨_, hns, fun x v h1 _ => ?_⟩, fun x c hc => ?_, fun x v h1 => ?_, fun x y c hc => ?_, fun p hp => ?_⟩
    · obtain ⟨cv, q1, q2⟩ := zip_lookup hv h1
      exact ⟨cv, by rw [lookup_reverse hn2]; exact q1, q2⟩
    · rw [hc0] at hc; cases hc
    · have hin := (List.of_mem_zip (lookup_mem h1)).1
      exact ⟨hok x hin, .inl (hloc x hin)⟩
    · rw [hc0] at hc; cases hc
    · rw [hc0] at hp; cases hp
  have ea : alls (callEnv fd s.heap.objs.size a) = [s.heap.objs.size] := by
    unfold alls; rw [hc0]; rfl
  have d' := d.keeps (s' := { s with heap := h₁, toks := s.toks + ((fd.params.args.map (·.arg)).zip cvs).length }) hk₁
  have V'' : Vr G ρ envL mL { s with heap := h₁, toks := s.toks + ((fd.params.args.map (·.arg)).zip cvs).length } := V.stepE (st [])
  have hC : Ctx G [callEnv fd s.heap.objs.size a, envL] (callEnv fd s.heap.objs.size a) envL { s with heap := h₁, toks := s.toks + ((fd.params.args.map (·.arg)).zip cvs).length } := by
    refine ⟨rfl, rfl, hfL, by show fd.scope.kind ≠ _; rw [hk]; decide, hkL, fun a ha => ?_, fun b o e => hk₁ b o (d.base b o e), fun a ha hm => ?_⟩
    · rcases List.mem_append.mp ha with q | q
      · exact V'.own_alive q
      · exact V''.own_alive q
    · rw [ea] at ha; simp at ha; subst ha
      exact V.own_none hL hm
  refine wpAny_mono (h _ _ he hC (Around.frames_deeper hfr) hr.deeper ⟨Stp.refl, d', V', V''⟩) (fun f s' hP => ?_) fun _ _ q => q.elim
  obtain ⟨ρ', H', m', af, S, hf, hq⟩ := hP
  have ow : own (callEnv fd s.heap.objs.size a) = [s.heap.objs.size] := by
    show s.heap.objs.size :: fd.closure.map (·.2) = _
    rw [hcl]; rfl
  have x'' : Stp [envL.locals] ρ s ρ' s' := by
    have z := (st (envL.locals :: own (callEnv fd s.heap.objs.size a))).trans S.stp
    refine ⟨z.ext, fun b o e h1 h2 => z.keep b o e h1 fun q => ?_, z.alive, z.gens, z.os⟩
    rw [ow] at q
    rcases List.mem_cons.mp q with q | q
    · exact h2 (by rw [q]; exact .head _)
    · simp at q; subst q; rw [hL] at e; cases e
  refine ⟨ρ', H', retv af, x'', S.wd, S.vl, ?_, hq⟩
  cases af with
  | next => cases hf; exact rfl
  | brk => cases hf; exact rfl
  | cont => cases hf; exact rfl
  | ret v => obtain ⟨cv, rfl, hv⟩ := hf; exact hv

theorem lift_ev {fr : List Env} {env envL : Env} {mL m : Vars} {ρ₀ ρ : List Addr} {s₀ s : Shared} {E : Value → Shared → Prop} {A : Around} (C : Ctx G fr env envL s₀) (he : EnvOK sc env) (hr : Hd.Rm k A) (S : ST G env envL mL ρ₀ s₀ m H ρ s) {t : Expr} {av : AV} {Q : Value → Shared → Prop}
    (h : Hd.Ev G k sc t m H fun v Hx => v = av ∧ Hx = H) (kq : ∀ v ρ' s', ST G env envL mL ρ₀ s₀ m H ρ' s' → Pres s₀ ρ s ρ' s' → VR ρ' av v → Q v s') : wpAny G.M A (eval t env) Q E s := by
  refine wpAny_mono (h A env ρ s he hr S.wd S.vr) (fun f s₁ hP => ?_) fun _ _ q => q.elim
  obtain ⟨ρ₁, H₁, av', x₁, d₁, r₁, q1, q2⟩ := hP
  subst q1 q2
  exact kq f ρ₁ s₁ (S.step C x₁.wide d₁ (S.vr.stepE x₁)) (fun e cx fl X => X.step C x₁.wide) r₁

theorem note_any {fr : List Env} {env envL : Env} {mL m : Vars} {ρ₀ ρ : List Addr} {s₀ s : Shared} {e : Addr} {cx : Value} {fl : Option Value} {E : Value → Shared → Prop} {A : Around} (C : Ctx G fr env envL s₀) (hfr : A.frames = some fr) (S : ST G env envL mL ρ₀ s₀ m H ρ s) (X : Exn s₀ ρ s e cx fl) (hfl : fl = none ∨ fl = some (rawInt env.locals)) {Q : Unit → Shared → Prop}
    (kq : ∀ s', ST G env envL mL ρ₀ s₀ m H ρ s' → Exn s₀ ρ s' e cx (some (rawInt env.locals)) → Q () s') : wpAny G.M A (noteFrame (.ref e) env) Q E s := by
  rcases hfl with rfl | rfl
  · exact note_new C hfr S X kq
  · exact note_again C X (kq s S X)

theorem go_on' {fr : List Env} {env envL : Env} {mL m : Vars} {ρ₀ ρ : List Addr} {s₀ s : Shared} {E : Value → Shared → Prop} {A : Around} (C : Ctx G fr env envL s₀) (he : EnvOK sc env) (hr : Rm k A) (S : ST G env envL mL ρ₀ s₀ m H ρ s) {st : Stmt} {rest : List Stmt} {M' : Vars} {H' : List AO} {Q : Flow → Shared → Prop}
    (h : Ex G k sc st m H fun f m' Hx => f = .next ∧ m' = M' ∧ Hx = H') (kq : ∀ ρ' s', ST G env envL mL ρ₀ s₀ M' H' ρ' s' → wpAny G.M A (execs rest env) Q E s') : wpAny G.M A (execs (st :: rest) env) Q E s := by
  refine wpAny_execs_cons (wpAny_mono (h A env ρ s he hr S.wd S.vr) (fun f s₁ hP => ?_) fun _ _ q => q.elim)
  obtain ⟨ρ₁, H₁, m₁, af, x₁, d₁, V₁, hf, q1, q2, q3⟩ := hP
  subst q1 q2 q3
  cases hf
  exact kq ρ₁ s₁ (S.step C x₁ d₁ V₁)

theorem sld_lt {xs ys ms us M U : List Int} {i j : Nat} (hi : i < xs.length) (hj : j < ys.length) (h : xs.getD i 0 < ys.getD j 0) (em : ms ++ (sld (xs.drop i) (ys.drop j)).1 = M) (eu : us ++ (sld (xs.drop i) (ys.drop j)).2 = U) :
    (ms ++ [xs.getD i 0]) ++ (sld (xs.drop (i + 1)) (ys.drop j)).1 = M ∧ us ++ (sld (xs.drop (i + 1)) (ys.drop j)).2 = U := by
  rw [drop_at hi, drop_at hj, sld_cons, if_pos h, ← drop_at hj] at em eu
  exact ⟨by rw [← em]; simp, eu⟩
theorem sld_gt {xs ys ms us M U : List Int} {i j : Nat} (hi : i < xs.length) (hj : j < ys.length) (h : ys.getD j 0 < xs.getD i 0) (em : ms ++ (sld (xs.drop i) (ys.drop j)).1 = M) (eu : us ++ (sld (xs.drop i) (ys.drop j)).2 = U) :
    ms ++ (sld (xs.drop i) (ys.drop (j + 1))).1 = M ∧ (us ++ [ys.getD j 0]) ++ (sld (xs.drop i) (ys.drop (j + 1))).2 = U := by
  rw [drop_at hi, drop_at hj, sld_cons, if_neg (by lia), if_pos h, ← drop_at hi] at em eu
  exact ⟨em, by rw [← eu]; simp⟩
theorem sld_eq {xs ys ms us M U : List Int} {i j : Nat} (hi : i < xs.length) (hj : j < ys.length) (h : xs.getD i 0 = ys.getD j 0) (em : ms ++ (sld (xs.drop i) (ys.drop j)).1 = M) (eu : us ++ (sld (xs.drop i) (ys.drop j)).2 = U) :
    ms ++ (sld (xs.drop (i + 1)) (ys.drop (j + 1))).1 = M ∧ us ++ (sld (xs.drop (i + 1)) (ys.drop (j + 1))).2 = U := by
  rw [drop_at hi, drop_at hj, sld_cons, if_neg (by lia), if_neg (by lia)] at em eu
  exact ⟨em, eu⟩
theorem sld_end {xs ys ms us M U : List Int} {i j : Nat} (h : xs.length ≤ i ∨ ys.length ≤ j) (em : ms ++ (sld (xs.drop i) (ys.drop j)).1 = M) (eu : us ++ (sld (xs.drop i) (ys.drop j)).2 = U) :
    ms ++ xs.drop i = M ∧ us ++ ys.drop j = U := by
  rcases h with h | h
  · rw [List.drop_of_length_le h, sld_nilL] at em eu; rw [List.drop_of_length_le h]; exact ⟨em, eu⟩
  · rw [List.drop_of_length_le h, sld_nilR] at em eu; rw [List.drop_of_length_le h]; exact ⟨em, eu⟩
theorem set2a {H : List AO} {a b c : AO} : (H ++ [a, b]).set H.length c = H ++ [c, b] := by
  rw [List.set_append_right _ _ (Nat.le_refl _), Nat.sub_self]; rfl
theorem set2b {H : List AO} {a b c : AO} : (H ++ [a, b]).set (H.length + 1) c = H ++ [a, c] := by
  rw [List.set_append_right _ _ (by lia), show H.length + 1 - H.length = 1 by lia]; rfl

set_option maxHeartbeats 4000000 in
theorem sld_call (hK : TopIs G) {A : Around} {ρ : List Addr} {s : Shared} {envL : Env} {mL : Vars} {x y : Nat} {xs ys : List Int} {a b : Value} {Q : AV → List AO → Prop} (hr : Rm (k + 1) A) (hfr : A.frames = some [envL]) (hfL : envL.frame = some envL.locals) (hkL : envL.scope.kind ≠ .module)
    (d : Wd G ρ H s) (V : Vr G ρ envL mL s) (hx : H[x]? = some (.list (xs.map .int))) (hy : H[y]? = some (.list (ys.map .int))) (px : xs.Pairwise (· < ·)) (py : ys.Pairwise (· < ·)) (lx : xs.length ≤ 20) (ly : ys.length ≤ 20)
    (ra : VR ρ (.ref x) a) (rb : VR ρ (.ref y) b)
    (hq : ∀ l rt, (H ++ .list ((sld xs ys).1.map .int) :: .list ((sld xs ys).2.map .int) :: l)[rt]? = some (.tup [.ref H.length, .ref (H.length + 1)]) → Q (.ref rt) (H ++ .list ((sld xs ys).1.map .int) :: .list ((sld xs ys).2.map .int) :: l)) :
    wpAny G.M A (call (.ref (G.adr (Str.ofString "sorted_list_difference"))) [a, b]) (PT G envL mL ρ s Q) NoE s := by
  have eF := Eq.refl (fnD 1)
  conv at eF => rhs; whnf
  obtain ⟨oF, pmF, cdF, docF, hmF, hoF, hdF, hcdF⟩ := hK.at (by kernel_rfl) eF
  dsimp only [docDef] at hdF
  refine call_T (k := k) (vs := [.ref x, .ref y]) hoF hdF hcdF rfl (fun cvs h => ?_) (by dsimp only; decide) (by rfl) (by dsimp only; decide) (by dsimp only; decide) (by dsimp only; decide) rfl rfl rfl hr hfr hfL hkL d V (.cons ra (.cons rb .nil)) ?_
  · obtain ⟨a, b, rfl⟩ := two_of h; rfl
  intro env s₀ he C hfr' hr' S
  generalize A.deeper env = A' at hfr' hr' ⊢
  have hrh : Hd.Rm k A' := ⟨hr'.depth, hr'.units⟩
  refine go_on' C he hr' S (Ex.assign2 (Ev.cint (As.name (Sn.local rfl (As.name (Sn.local rfl ⟨rfl, rfl, rfl⟩)))))) fun ρ₁ s₁ S₁ => ?_
  refine go_on' C he hr' S₁ (Ex.assign (Ev.list (Evs.nil ⟨by simp, As.name (Sn.local rfl ⟨rfl, rfl, rfl⟩)⟩))) fun ρ₂ s₂ S₂ => ?_
  refine go_on' C he hr' S₂ (Ex.assign (Ev.list (Evs.nil ⟨by simp, As.name (Sn.local rfl ⟨rfl, rfl, rfl⟩)⟩))) fun ρ₃ s₃ S₃ => ?_
  rw [List.length_append, List.append_assoc] at S₃
  have S₄ := S₃.less (m' := sldM x y H.length 0 0) ⟨rfl, rfl, rfl, rfl, rfl, rfl, trivial⟩
  have I₀ : LI G env envL mL ρ s₀ H x y xs ys (sld xs ys).1 (sld xs ys).2 ρ₃ s₃ 0 0 [] [] := ⟨S₄, Nat.zero_le _, Nat.zero_le _, Nat.le_refl _, Nat.le_refl _, by simp, by simp⟩
  generalize hM : (sld xs ys).1 = M at *
  generalize hU : (sld xs ys).2 = U at *
  clear S₄ S₃ S₂ S₁ S
  -- the loop
  refine wpAny_execs_cons (wpAny_While (codeAny_whileLoop (fun n s' => ∃ ρ' i j ms us, n = (xs.length - i) + (ys.length - j) ∧ LI G env envL mL ρ s₀ H x y xs ys M U ρ' s' i j ms us) ?_ _ ⟨ρ₃, 0, 0, [], [], rfl, I₀⟩))
  rintro n s₅ ⟨ρ₅, i, j, ms, us, rfl, I⟩
  refine lift_ts C he hrh I.st (b := true) (Hd.Ts.val (Hd.Ev.cbool (Hd.Tr.bool ⟨rfl, rfl⟩))) fun ρ₆ s₆ S₆ _ => ?_
  rw [if_pos rfl]
  have I : LI G env envL mL ρ s₀ H x y xs ys M U ρ₆ s₆ i j ms us := { I with st := S₆ }
  clear S₆
  refine wpAny_execs_cons (wpAny_Try_except (wpAny_mono (Q := SldN G env envL mL ρ s₀ H x y xs ys M U ((xs.length - i) + (ys.length - j))) (E := SldX G env envL mL ρ s₀ H x y xs ys M U) ?_ (fun f s' h => ?_) fun ev s' h => ?_))
  · -- the suite
    have hx' : ∀ l, (H ++ l)[x]? = some (AO.list (xs.map .int)) := fun l => getElem?_ext hx
    have hy' : ∀ l, (H ++ l)[y]? = some (AO.list (ys.map .int)) := fun l => getElem?_ext hy
    have l1 : (xs.map AV.int).length ≤ 1000 := by simp; lia
    have l2 : (ys.map AV.int).length ≤ 1000 := by simp; lia
    have lm := I.lm
    have lu := I.lu
    have ii := I.hi
    have jj := I.hj
    by_cases hi : i < xs.length
    case neg =>
      refine wpAny_execs_cons (assign_out C he hrh I.st hr'.handled rfl rfl (hx' _) (by simp; lia) (by lia) fun ρ' s' e S' X' => ?_)
      exact ⟨e, ρ', i, j, ms, us, _, _, rfl, { I with st := S' }, X', .inl rfl, .inl (by lia)⟩
    refine go_on C he hrh I.st (Hd.Ex.assign (Hd.Ev.subL (Hd.Ev.var rfl (Hd.Ev.var rfl ⟨x, _, _, _, rfl, rfl, hx' _, l1, .inl ⟨Int.natCast_nonneg _, getI hi⟩, Hd.As.name (Hd.Sn.local rfl ⟨rfl, rfl, rfl⟩)⟩)))) fun ρ₇ s₇ S₇ _ => ?_
    by_cases hj : j < ys.length
    case neg =>
      refine wpAny_execs_cons (assign_out C he hrh S₇ hr'.handled rfl rfl (hy' _) (by simp; lia) (by lia) fun ρ' s' e S' X' => ?_)
      exact ⟨e, ρ', i, j, ms, us, _, _, rfl, { I with st := S'.less ⟨rfl, rfl, rfl, rfl, rfl, rfl, trivial⟩ }, X', .inl rfl, .inr (by lia)⟩
    refine go_on C he hrh S₇ (Hd.Ex.assign (Hd.Ev.subL (Hd.Ev.var rfl (Hd.Ev.var rfl ⟨y, _, _, _, rfl, rfl, hy' _, l2, .inl ⟨Int.natCast_nonneg _, getI hj⟩, Hd.As.name (Hd.Sn.local rfl ⟨rfl, rfl, rfl⟩)⟩)))) fun ρ₈ s₈ S₈ _ => ?_
    have hms : ∀ l, (H ++ .list (ms.map .int) :: l)[H.length]? = some (AO.list (ms.map .int)) := fun l => at_off (n := 0) rfl
    have hus : (H ++ [AO.list (ms.map .int), AO.list (us.map .int)])[H.length + 1]? = some (AO.list (us.map .int)) := at_off (n := 1) rfl
    refine wpAny_execs_cons (wpAny_If ?_)
    rcases Int.lt_trichotomy (xs.getD i 0) (ys.getD j 0) with hc | hc | hc
    · refine lift_ts C he hrh S₈ (b := true) (Hd.Ts.cmp (Hd.Ev.var rfl (Hd.Ev.var rfl (Hd.Op.lt (Hd.Tr.bool ⟨by simpa using hc, rfl⟩))))) fun ρ₉ s₉ S₉ _ => ?_
      rw [if_pos rfl]
      refine go_on C he hrh S₉ (Hd.Ex.expr (Hd.Ev.meth1 PySem.F.plainAttrs_list PySem.F.slot_list_append PySem.F.type_list_append (Hd.Ev.var rfl ⟨kind_list (hms _), Hd.Evs.cons (Hd.Ev.var rfl (Hd.Evs.nil (Hd.Op.append (hms _) (by simp; lia) ⟨rfl, rfl, set2a⟩)))⟩))) fun ρ₁₀ s₁₀ S₁₀ _ => ?_
      refine go_on C he hrh S₁₀ (Hd.Ex.aug rfl rfl (Hd.Ev.cint (Hd.Op.iadd ⟨rfl, rfl, rfl⟩))) fun ρ₁₁ s₁₁ S₁₁ _ => ?_
      obtain ⟨em, eu⟩ := sld_lt hi hj hc I.em I.eu
      have emap : ms.map AV.int ++ [AV.int (xs.getD i 0)] = (ms ++ [xs.getD i 0]).map .int := by simp
      rw [emap] at S₁₁
      have I' : ∀ ρ' s', ST G env envL mL ρ s₀ (sldM x y H.length (i + 1) j) (H ++ [.list ((ms ++ [xs.getD i 0]).map .int), .list (us.map .int)]) ρ' s' → LI G env envL mL ρ s₀ H x y xs ys M U ρ' s' (i + 1) j (ms ++ [xs.getD i 0]) us := fun ρ' s' S => ⟨S, by lia, by lia, by simp; lia, by lia, em, eu⟩
      by_cases hi2 : i + 1 < xs.length
      · have hst := strict_at px hi2
        refine wpAny_execs_cons (while_false C he hrh S₁₁ (Hd.Ts.cmp (Hd.Ev.subL (Hd.Ev.var rfl (Hd.Ev.var rfl ⟨x, _, _, _, rfl, rfl, hx' _, l1, .inl ⟨Int.natCast_nonneg _, getI hi2⟩, Hd.Ev.var rfl (Hd.Op.eq (Hd.Tr.bool ⟨beq_eq_false_iff_ne.mpr (Int.ne_of_lt hst).symm, rfl⟩))⟩)))) fun ρ' s' S' _ => wpAny_execs_nil (wpAny_execs_nil ?_))
        exact ⟨rfl, ρ', i + 1, j, _, us, by lia, I' ρ' s' (S'.less ⟨rfl, rfl, rfl, rfl, rfl, rfl, trivial⟩)⟩
      · refine wpAny_execs_cons (while_out C hfr' he hrh S₁₁ (ix := i + 1) rfl rfl (hx' _) (by simp; lia) (by lia) (.inl ⟨hr'.handled, rfl⟩) (fun _ q => by cases q) fun ρ' s' e S' X' => ?_)
        exact ⟨e, ρ', i + 1, j, _, us, _, _, rfl, I' ρ' s' (S'.less ⟨rfl, rfl, rfl, rfl, rfl, rfl, trivial⟩), X', .inr rfl, .inl (by lia)⟩
    · -- the same
      refine lift_ts C he hrh S₈ (b := false) (Hd.Ts.cmp (Hd.Ev.var rfl (Hd.Ev.var rfl (Hd.Op.lt (Hd.Tr.bool ⟨decide_eq_false (by lia), rfl⟩))))) fun ρ₉ s₉ S₉ _ => ?_
      rw [if_neg (by decide)]
      refine wpAny_execs_cons (wpAny_If (lift_ts C he hrh S₉ (b := false) (Hd.Ts.cmp (Hd.Ev.var rfl (Hd.Ev.var rfl (Hd.Op.gt (Hd.Tr.bool ⟨decide_eq_false (by lia), rfl⟩))))) fun ρ₁₀ s₁₀ S₁₀ _ => ?_))
      rw [if_neg (by decide)]
      refine go_on C he hrh S₁₀ (Hd.Ex.aug rfl rfl (Hd.Ev.cint (Hd.Op.iadd ⟨rfl, rfl, rfl⟩))) fun ρ₁₁ s₁₁ S₁₁ _ => ?_
      obtain ⟨em, eu⟩ := sld_eq hi hj hc I.em I.eu
      have I' : ∀ ρ' s', ST G env envL mL ρ s₀ (sldM x y H.length (i + 1) (j + 1)) (H ++ [.list (ms.map .int), .list (us.map .int)]) ρ' s' → LI G env envL mL ρ s₀ H x y xs ys M U ρ' s' (i + 1) (j + 1) ms us := fun ρ' s' S => ⟨S, by lia, by lia, by lia, by lia, em, eu⟩
      refine wpAny_execs_cons (wpAny_Try_finally ?_)
      by_cases hi2 : i + 1 < xs.length
      · have hst := strict_at px hi2
        refine wpAny_execs_cons (while_false C he hrh S₁₁ (Hd.Ts.cmp (Hd.Ev.subL (Hd.Ev.var rfl (Hd.Ev.var rfl ⟨x, _, _, _, rfl, rfl, hx' _, l1, .inl ⟨Int.natCast_nonneg _, getI hi2⟩, Hd.Ev.var rfl (Hd.Op.eq (Hd.Tr.bool ⟨beq_eq_false_iff_ne.mpr (Int.ne_of_lt hst).symm, rfl⟩))⟩)))) fun ρ₁₂ s₁₂ S₁₂ _ => wpAny_execs_nil (wpAny_execs_nil ?_))
        refine go_on C he hrh S₁₂ (Hd.Ex.aug rfl rfl (Hd.Ev.cint (Hd.Op.iadd ⟨rfl, rfl, rfl⟩))) fun ρ₁₃ s₁₃ S₁₃ _ => ?_
        by_cases hj2 : j + 1 < ys.length
        · have hst := strict_at py hj2
          refine wpAny_execs_cons (while_false C he hrh S₁₃ (Hd.Ts.cmp (Hd.Ev.subL (Hd.Ev.var rfl (Hd.Ev.var rfl ⟨y, _, _, _, rfl, rfl, hy' _, l2, .inl ⟨Int.natCast_nonneg _, getI hj2⟩, Hd.Ev.var rfl (Hd.Op.eq (Hd.Tr.bool ⟨beq_eq_false_iff_ne.mpr (Int.ne_of_lt hst).symm, rfl⟩))⟩)))) fun ρ' s' S' _ => wpAny_execs_nil (wpAny_execs_nil (wpAny_execs_nil (wpAny_execs_nil ?_))))
          exact ⟨rfl, ρ', i + 1, j + 1, _, us, by lia, I' ρ' s' (S'.less ⟨rfl, rfl, rfl, rfl, rfl, rfl, trivial⟩)⟩
        · refine wpAny_execs_cons (while_out C hfr' he hrh S₁₃ (ix := j + 1) rfl rfl (hy' _) (by simp; lia) (by lia) (.inl ⟨hr'.handled, rfl⟩) (fun _ q => by cases q) fun ρ' s' e S' X' => ?_)
          refine note_again C X' (came_back C S' X' fun s'' S'' X'' => ?_)
          exact ⟨e, ρ', i + 1, j + 1, _, us, _, _, rfl, I' ρ' s'' (S''.less ⟨rfl, rfl, rfl, rfl, rfl, rfl, trivial⟩), X'', .inr rfl, .inr (by lia)⟩
      · refine wpAny_execs_cons (while_out C hfr' he hrh S₁₁ (ix := i + 1) rfl rfl (hx' _) (by simp; lia) (by lia) (.inl ⟨hr'.handled, rfl⟩) (fun _ q => by cases q) fun ρ₁₂ s₁₂ e₁ S₁₂ X₁₂ => ?_)
        refine note_again C X₁₂ ⟨(by intro q; cases q), ?_⟩
        refine note_again C X₁₂ ?_
        refine fly C S₁₂ X₁₂ fun s₁₃ S₁₃ X₁₃ => ?_
        have hrm : Hd.Rm k (A'.mark (some (.ref e₁))) := ⟨hr'.depth, hr'.units⟩
        refine go_on C he hrm S₁₃ (Hd.Ex.aug rfl rfl (Hd.Ev.cint (Hd.Op.iadd ⟨rfl, rfl, rfl⟩))) fun ρ₁₄ s₁₄ S₁₄ P₁₄ => ?_
        have X₁₄ := P₁₄ _ _ _ X₁₃
        by_cases hj2 : j + 1 < ys.length
        · have hst := strict_at py hj2
          refine wpAny_execs_cons (while_false C he hrm S₁₄ (Hd.Ts.cmp (Hd.Ev.subL (Hd.Ev.var rfl (Hd.Ev.var rfl ⟨y, _, _, _, rfl, rfl, hy' _, l2, .inl ⟨Int.natCast_nonneg _, getI hj2⟩, Hd.Ev.var rfl (Hd.Op.eq (Hd.Tr.bool ⟨beq_eq_false_iff_ne.mpr (Int.ne_of_lt hst).symm, rfl⟩))⟩)))) fun ρ' s' S' P' => wpAny_execs_nil ?_)
          refine pass_on C S' (P' _ _ _ X₁₄) fun s'' S'' X'' => ?_
          exact ⟨e₁, ρ', i + 1, j + 1, _, us, _, _, rfl, I' ρ' s'' (S''.less ⟨rfl, rfl, rfl, rfl, rfl, rfl, trivial⟩), X'', .inr rfl, .inl (by lia)⟩
        · have hheld : HeldOk (A'.mark (some (.ref e₁))) s₁₄ (.ref e₁) := by
            obtain ⟨oe, vs', w1, w2, w3, w4, w5, _⟩ := X₁₄.obj
            exact .inr ⟨e₁, oe, vs', rfl, rfl, w1, w3, w5⟩
          refine wpAny_execs_cons (while_out (A := A'.mark (some (.ref e₁))) C hfr' he hrm S₁₄ (ix := j + 1) rfl rfl (hy' _) (by simp; lia) (by lia) hheld (fun h q => by cases q; exact ⟨_, X₁₄⟩) fun ρ' s' e S' X' => ?_)
          refine note_again C X' (came_back C S' X' fun s'' S'' X'' => ?_)
          exact ⟨e, ρ', i + 1, j + 1, _, us, _, _, rfl, I' ρ' s'' (S''.less ⟨rfl, rfl, rfl, rfl, rfl, rfl, trivial⟩), X'', .inr rfl, .inr (by lia)⟩
    · refine lift_ts C he hrh S₈ (b := false) (Hd.Ts.cmp (Hd.Ev.var rfl (Hd.Ev.var rfl (Hd.Op.lt (Hd.Tr.bool ⟨decide_eq_false (by lia), rfl⟩))))) fun ρ₉ s₉ S₉ _ => ?_
      rw [if_neg (by decide)]
      refine wpAny_execs_cons (wpAny_If (lift_ts C he hrh S₉ (b := true) (Hd.Ts.cmp (Hd.Ev.var rfl (Hd.Ev.var rfl (Hd.Op.gt (Hd.Tr.bool ⟨decide_eq_true (by lia), rfl⟩))))) fun ρ₁₀ s₁₀ S₁₀ _ => ?_))
      rw [if_pos rfl]
      refine go_on C he hrh S₁₀ (Hd.Ex.expr (Hd.Ev.meth1 PySem.F.plainAttrs_list PySem.F.slot_list_append PySem.F.type_list_append (Hd.Ev.var rfl ⟨kind_list hus, Hd.Evs.cons (Hd.Ev.var rfl (Hd.Evs.nil (Hd.Op.append hus (by simp; lia) ⟨rfl, rfl, set2b⟩)))⟩))) fun ρ₁₁ s₁₁ S₁₁ _ => ?_
      refine go_on C he hrh S₁₁ (Hd.Ex.aug rfl rfl (Hd.Ev.cint (Hd.Op.iadd ⟨rfl, rfl, rfl⟩))) fun ρ₁₂ s₁₂ S₁₂ _ => ?_
      obtain ⟨em, eu⟩ := sld_gt hi hj hc I.em I.eu
      have emap : us.map AV.int ++ [AV.int (ys.getD j 0)] = (us ++ [ys.getD j 0]).map .int := by simp
      rw [emap] at S₁₂
      have I' : ∀ ρ' s', ST G env envL mL ρ s₀ (sldM x y H.length i (j + 1)) (H ++ [.list (ms.map .int), .list ((us ++ [ys.getD j 0]).map .int)]) ρ' s' → LI G env envL mL ρ s₀ H x y xs ys M U ρ' s' i (j + 1) ms (us ++ [ys.getD j 0]) := fun ρ' s' S => ⟨S, by lia, by lia, by lia, by simp; lia, em, eu⟩
      by_cases hj2 : j + 1 < ys.length
      · have hst := strict_at py hj2
        refine wpAny_execs_cons (while_false C he hrh S₁₂ (Hd.Ts.cmp (Hd.Ev.subL (Hd.Ev.var rfl (Hd.Ev.var rfl ⟨y, _, _, _, rfl, rfl, hy' _, l2, .inl ⟨Int.natCast_nonneg _, getI hj2⟩, Hd.Ev.var rfl (Hd.Op.eq (Hd.Tr.bool ⟨beq_eq_false_iff_ne.mpr (Int.ne_of_lt hst).symm, rfl⟩))⟩)))) fun ρ' s' S' _ => wpAny_execs_nil (wpAny_execs_nil (wpAny_execs_nil ?_)))
        exact ⟨rfl, ρ', i, j + 1, ms, _, by lia, I' ρ' s' (S'.less ⟨rfl, rfl, rfl, rfl, rfl, rfl, trivial⟩)⟩
      · refine wpAny_execs_cons (while_out C hfr' he hrh S₁₂ (ix := j + 1) rfl rfl (hy' _) (by simp; lia) (by lia) (.inl ⟨hr'.handled, rfl⟩) (fun _ q => by cases q) fun ρ' s' e S' X' => ?_)
        exact ⟨e, ρ', i, j + 1, ms, _, _, _, rfl, I' ρ' s' (S'.less ⟨rfl, rfl, rfl, rfl, rfl, rfl, trivial⟩), X', .inr rfl, .inr (by lia)⟩
  · obtain ⟨rfl, ρ', i', j', ms', us', hlt, I'⟩ := h
    exact wpAny_execs_nil (wpAny_execs_nil ⟨_, hlt, ρ', i', j', ms', us', rfl, I'⟩)
  · obtain ⟨e, ρ', i', j', ms', us', cx, fl, rfl, I', X', hfl, hend⟩ := h
    have lx' : (xs.map AV.int).length ≤ 1000 := by simp; lia
    have ly' : (ys.map AV.int).length ≤ 1000 := by simp; lia
    have lm := I'.lm
    have lu := I'.lu
    have ii := I'.hi
    have jj := I'.hj
    obtain ⟨em, eu⟩ := sld_end hend I'.em I'.eu
    refine note_any C hfr' I'.st X' hfl fun s₉ S₉ X₉ => ?_
    refine fly C S₉ X₉ fun s₁₀ S₁₀ X₁₀ => ?_
    have hrm : Hd.Rm k (A'.mark (some (.ref e))) := ⟨hr'.depth, hr'.units⟩
    refine wpAny_handleBy_builtin (X := "IndexError") (T := "IndexError") (b := true) (isSubtype_of_subB (by decide +kernel)) (isSubtype_of_subB (by decide +kernel)) (isSubtype_of_subB (by decide +kernel)) ?_
    refine lift_ev C he hrm S₁₀ (Hd.Ev.builtin (hK.no (by kernel_rfl)) boot_IndexError' rfl ⟨rfl, rfl⟩) fun v ρ₁₁ s₁₁ S₁₁ P₁₁ r₁₁ => ?_
    cases r₁₁
    have X₁₁ := P₁₁ _ _ _ X₁₀
    refine ⟨rfl, by obtain ⟨oe, vs', w1, w2, _⟩ := X₁₁.obj; exact ⟨oe, w1, w2⟩, ?_⟩
    rw [if_pos rfl]
    refine fly C S₁₁ X₁₁ fun s₁₂ S₁₂ X₁₂ => ?_
    have hm0 : ∀ l, (H ++ .list (ms'.map .int) :: .list (us'.map .int) :: l)[H.length]? = some (AO.list (ms'.map .int)) := fun l => at_off (n := 0) rfl
    have hu0 : ∀ a l, (H ++ a :: .list (us'.map .int) :: l)[H.length + 1]? = some (AO.list (us'.map .int)) := fun a l => at_off (n := 1) rfl
    have cx' := cut_from ii
    have cy' := cut_from jj
    refine go_on C he hrm S₁₂ (M' := sldM x y H.length i' j') (H' := H ++ .list (M.map .int) :: .list (us'.map .int) :: .list ((xs.drop i').map .int) :: []) (Hd.Ex.expr (Hd.Ev.meth1 PySem.F.plainAttrs_list PySem.F.slot_list_extend PySem.F.type_list_extend (Hd.Ev.var rfl ⟨kind_list (hm0 _), Hd.Evs.cons (Hd.Ev.sliceL (Hd.Ev.var rfl ?_))⟩))) fun ρ₁₃ s₁₃ S₁₃ _ => ?_
    · show Hd.Ev _ _ _ _ _ _ _
      refine Hd.Ev.var rfl ⟨(i' : Int), rfl, x, _, rfl, getElem?_ext hx, lx', Hd.Evs.nil ?_⟩
      rw [cx', List.append_assoc]
      refine Hd.Op.extend (hm0 _) (by rw [← List.append_assoc]; exact List.getElem?_concat_length) (by simp; lia) (by simp; lia) ⟨rfl, rfl, ?_⟩
      rw [List.set_append_right _ _ (Nat.le_refl _), Nat.sub_self, ← List.map_append, em]
      rfl
    refine go_on C he hrm S₁₃ (M' := sldM x y H.length i' j') (H' := H ++ .list (M.map .int) :: .list (U.map .int) :: .list ((xs.drop i').map .int) :: .list ((ys.drop j').map .int) :: []) (Hd.Ex.expr (Hd.Ev.meth1 PySem.F.plainAttrs_list PySem.F.slot_list_extend PySem.F.type_list_extend (Hd.Ev.var rfl ⟨kind_list (hu0 _ _), Hd.Evs.cons (Hd.Ev.sliceL (Hd.Ev.var rfl ?_))⟩))) fun ρ₁₄ s₁₄ S₁₄ _ => ?_
    · show Hd.Ev _ _ _ _ _ _ _
      refine Hd.Ev.var rfl ⟨(j' : Int), rfl, y, _, rfl, getElem?_ext hy, ly', Hd.Evs.nil ?_⟩
      rw [cy', List.append_assoc]
      refine Hd.Op.extend (hu0 _ _) (by rw [← List.append_assoc]; exact List.getElem?_concat_length) (by simp; lia) (by simp; lia) ⟨rfl, rfl, ?_⟩
      rw [List.set_append_right _ _ (by lia), show H.length + 1 - H.length = 1 by lia, ← List.map_append, eu]
      rfl
    refine wpAny_execs_cons (wpAny_Break ?_)
    -- behind the loop
    refine wpAny_execs_cons (wpAny_mono (Ex.ret (k := k) (sc := _) (Q := fun f m' H' => ∃ l rt, f = .ret (.ref rt) ∧ H' = H ++ .list (M.map .int) :: .list (U.map .int) :: l ∧ H'[rt]? = some (.tup [.ref H.length, .ref (H.length + 1)]))
      (Ev.tup (Evs.cons (Ev.var rfl (Evs.cons (Ev.var rfl (Evs.nil ⟨by simp, _, _, rfl, by rw [List.append_assoc]; rfl, List.getElem?_concat_length⟩)))))) A' env ρ₁₄ s₁₄ he hr' S₁₄.wd S₁₄.vr) (fun f s₁₅ h₁₅ => ?_) fun _ _ q => q.elim)
    obtain ⟨ρ₁₅, H₁₅, m₁₅, af, x₁₅, d₁₅, V₁₅, hf, l, rt, rfl, rfl, hrt⟩ := h₁₅
    obtain ⟨cv, rfl, hv⟩ := hf
    exact ⟨ρ₁₅, _, m₁₅, .ret (.ref rt), S₁₄.step C x₁₅ d₁₅ V₁₅, ⟨cv, rfl, hv⟩, hq l rt hrt⟩
end Mine
end
section
open PySem PySem.W PyProof.Rows PySem.Spec PySem.SeqAt
set_option maxRecDepth 100000
namespace Mine
variable {G : Gl} {k : Nat} {sc : Scope} {m : Vars} {H : List AO}

/- data that a thing of the abstract heap reads as -/
theorem rd_int {ρ : List Addr} {s : Shared} : ∀ {ns : List Int} {vs : List Value}, VRs ρ (ns.map .int) vs → ∃ as, ReadsAll s.heap vs (ns.map .int) as
  | [], _, .nil => ⟨_, .nil⟩
  | _ :: ns, _, .cons h t => by
    obtain ⟨u, rfl⟩ := h
    obtain ⟨as, q⟩ := rd_int (s := s) t
    exact ⟨_, .cons (.int _ _) q⟩
theorem rd_str {ρ : List Addr} {s : Shared} : ∀ {ns : List Str} {vs : List Value}, VRs ρ (ns.map .str) vs → ∃ as, ReadsAll s.heap vs (ns.map .str) as
  | [], _, .nil => ⟨_, .nil⟩
  | _ :: ns, _, .cons h t => by
    obtain ⟨u, rfl⟩ := h
    obtain ⟨as, q⟩ := rd_str (s := s) t
    exact ⟨_, .cons (.str _ _) q⟩
theorem rd_ints {ρ : List Addr} {s : Shared} (d : Wd G ρ H s) {j : Nat} {ns : List Int} {v : Value} (hj : H[j]? = some (.list (ns.map .int))) (r : VR ρ (.ref j) v) : ∃ as, Reads s.heap v (.list (ns.map .int)) as := by
  obtain ⟨a, vs, n, rfl, ha, e, hv⟩ := d.listAt hj r
  obtain ⟨as, q⟩ := rd_int (s := s) hv
  exact ⟨_, .list e rfl rfl (by simpa using q)⟩
theorem rd_strs {ρ : List Addr} {s : Shared} (d : Wd G ρ H s) {j : Nat} {ns : List Str} {v : Value} (hj : H[j]? = some (.list (ns.map .str))) (r : VR ρ (.ref j) v) : ∃ as, Reads s.heap v (.list (ns.map .str)) as := by
  obtain ⟨a, vs, n, rfl, ha, e, hv⟩ := d.listAt hj r
  obtain ⟨as, q⟩ := rd_str (s := s) hv
  exact ⟨_, .list e rfl rfl (by simpa using q)⟩
theorem rd_rows {ρ : List Addr} {s : Shared} (d : Wd G ρ H s) {rs : List Nat} {xss : List (List Int)} (h : RefL H rs xss) : ∀ {vs : List Value}, VRs ρ (rs.map .ref) vs → ∃ as, ReadsAll s.heap vs (xss.map fun xs => .list (xs.map .int)) as := by
  induction h with
  | nil => intro vs hv; cases hv; exact ⟨_, .nil⟩
  | cons h _ ih =>
    intro vs hv
    cases hv with
    | cons h1 t =>
    obtain ⟨as, q⟩ := ih t
    obtain ⟨bs, q'⟩ := rd_ints d h h1
    exact ⟨_, .cons q' q⟩
theorem rd_lists {ρ : List Addr} {s : Shared} (d : Wd G ρ H s) {j : Nat} {rs : List Nat} {xss : List (List Int)} {v : Value} (hj : H[j]? = some (.list (rs.map .ref))) (h : RefL H rs xss) (r : VR ρ (.ref j) v) : ∃ as, Reads s.heap v (.list (xss.map fun xs => .list (xs.map .int))) as := by
  obtain ⟨a, vs, n, rfl, ha, e, hv⟩ := d.listAt hj r
  obtain ⟨as, q⟩ := rd_rows d h hv
  exact ⟨_, .list e rfl rfl (by simpa using q)⟩

theorem int_ok : ∀ ns : List Int, PyData.canLayAll0 (ns.map .int) = true ∧ PyData.depthAll (ns.map .int) = 0 ∧ PyData.eqvAll (ns.map .int) (ns.map .int) = true
  | [] => ⟨rfl, rfl, rfl⟩
  | n :: ns => by
    obtain ⟨h1, h2, h3⟩ := int_ok ns
    refine ⟨?_, ?_, ?_⟩
    · rw [List.map_cons, PyData.canLayAll0, h1]; rfl
    · rw [List.map_cons, PyData.depthAll, h2]; rfl
    · rw [List.map_cons, PyData.eqvAll, h3, PyData.eqv]; simp
theorem str_ok : ∀ ns : List Str, (∀ x ∈ ns, PyData.strOk x = true) → PyData.canLayAll0 (ns.map .str) = true ∧ PyData.depthAll (ns.map .str) = 0 ∧ PyData.eqvAll (ns.map .str) (ns.map .str) = true
  | [], _ => ⟨rfl, rfl, rfl⟩
  | n :: ns, h => by
    obtain ⟨h1, h2, h3⟩ := str_ok ns fun x hx => h x (.tail _ hx)
    refine ⟨?_, ?_, ?_⟩
    · rw [List.map_cons, PyData.canLayAll0, h1, PyData.canLay0, h n (.head _)]; rfl
    · rw [List.map_cons, PyData.depthAll, h2]; rfl
    · rw [List.map_cons, PyData.eqvAll, h3, PyData.eqv]; simp
theorem rows_ok : ∀ xss : List (List Int), PyData.canLayAll0 (xss.map fun xs => .list (xs.map .int)) = true ∧ PyData.depthAll (xss.map fun xs => .list (xs.map .int)) ≤ 1 ∧ PyData.eqvAll (xss.map fun xs => .list (xs.map .int)) (xss.map fun xs => .list (xs.map .int)) = true
  | [] => ⟨rfl, by decide, rfl⟩
  | n :: ns => by
    obtain ⟨h1, h2, h3⟩ := rows_ok ns
    obtain ⟨q1, q2, q3⟩ := int_ok n
    refine ⟨?_, ?_, ?_⟩
    · rw [List.map_cons, PyData.canLayAll0, h1, PyData.canLay0, q1]; rfl
    · rw [List.map_cons, PyData.depthAll, PyData.depth, q2]; lia
    · rw [List.map_cons, PyData.eqvAll, h3, PyData.eqv, q3]; rfl

section
variable {j l : Nat} {Q : AV → List AO → Prop}
theorem ne_same {d : PyData} {A : Around} {s : Shared} {ρ : List Addr} {a b : Value} {as bs : List Addr} (hr : Rm k A) (ra : Reads s.heap a d as) (rb : Reads s.heap b d bs) (h1 : d.canLay0 = true) (h2 : d.depth ≤ 64) (h3 : PyData.eqv d d = true) (dd : Wd G ρ H s) (h : Q (.bool false) H) :
    wpAny G.M A (compareOp .NotEq a b) (PE G ρ s Q) NoE s := by
  have hs : shaped d = true := by unfold shaped; rw [h1, decide_eq_true h2]; rfl
  refine ne_dataH ra rb hs hs hr.units64 ?_
  rw [h3]
  exact PE.here dd VR.bool' h
theorem Op.neInts {ns : List Int} (hj : H[j]? = some (.list (ns.map .int))) (hl : H[l]? = some (.list (ns.map .int))) (h : Q (.bool false) H) : Op G k (op2 (compareOp .NotEq)) [.ref j, .ref l] H Q := .of2 fun A ρ s a b hr d r1 r2 => by
  obtain ⟨as, ra⟩ := rd_ints d hj r1
  obtain ⟨bs, rb⟩ := rd_ints d hl r2
  obtain ⟨q1, q2, q3⟩ := int_ok ns
  exact ne_same hr ra rb (by rw [PyData.canLay0]; exact q1) (by rw [PyData.depth, q2]; lia) (by rw [PyData.eqv]; exact q3) d h
theorem Op.neStrs {ns : List Str} (hok : ∀ x ∈ ns, PyData.strOk x = true) (hj : H[j]? = some (.list (ns.map .str))) (hl : H[l]? = some (.list (ns.map .str))) (h : Q (.bool false) H) : Op G k (op2 (compareOp .NotEq)) [.ref j, .ref l] H Q := .of2 fun A ρ s a b hr d r1 r2 => by
  obtain ⟨as, ra⟩ := rd_strs d hj r1
  obtain ⟨bs, rb⟩ := rd_strs d hl r2
  obtain ⟨q1, q2, q3⟩ := str_ok ns hok
  exact ne_same hr ra rb (by rw [PyData.canLay0]; exact q1) (by rw [PyData.depth, q2]; lia) (by rw [PyData.eqv]; exact q3) d h
theorem Op.neRows {xss : List (List Int)} {rs rs' : List Nat} (hj : H[j]? = some (.list (rs.map .ref))) (hl : H[l]? = some (.list (rs'.map .ref))) (h1 : RefL H rs xss) (h2 : RefL H rs' xss) (h : Q (.bool false) H) : Op G k (op2 (compareOp .NotEq)) [.ref j, .ref l] H Q := .of2 fun A ρ s a b hr d r1 r2 => by
  obtain ⟨as, ra⟩ := rd_lists d hj h1 r1
  obtain ⟨bs, rb⟩ := rd_lists d hl h2 r2
  obtain ⟨q1, q2, q3⟩ := rows_ok xss
  exact ne_same hr ra rb (by rw [PyData.canLay0]; exact q1) (by rw [PyData.depth]; lia) (by rw [PyData.eqv]; exact q3) d h

theorem any_int (x : Int) : ∀ ns : List Int, (ns.map PyData.int).any (fun y => PyData.eqv y (.int x)) = ns.contains x
  | [] => rfl
  | n :: ns => by
    rw [List.map_cons, List.any_cons, any_int x ns, PyData.eqv, List.contains_cons]
    congr 1
    exact Bool.beq_comm ..
theorem Op.notInI {ns : List Int} {x : Int} (hj : H[j]? = some (.list (ns.map .int))) (h : Q (.bool (!ns.contains x)) H) : Op G k (op2 (compareOp .NotIn)) [.int x, .ref j] H Q := .of2 fun A ρ s a b hr d ⟨t, e1⟩ r2 => by
  subst e1
  obtain ⟨as, ra⟩ := rd_ints d hj r2
  obtain ⟨q1, q2, q3⟩ := int_ok ns
  refine notIn_list_reads ra (.int x t) q1 rfl (by rw [q2]; have := hr.units64; simp only [PyData.depth]; lia) ?_
  rw [any_int]
  exact PE.here d VR.bool' h
theorem Op.nilNotIn {t a b : Nat} {xs ys : List Int} (ht : H[t]? = some (.tup [.ref a, .ref b])) (ha : H[a]? = some (.list (xs.map .int))) (hb : H[b]? = some (.list (ys.map .int))) (hj : H[j]? = some (.list [])) (hnil : xs = [] ∨ ys = []) (h : Q (.bool false) H) :
    Op G k (op2 (compareOp .NotIn)) [.ref j, .ref t] H Q := .of2 fun A ρ s x c hr d r1 r2 => by
  obtain ⟨as, rx⟩ := rd_ints (ns := []) d hj r1
  obtain ⟨ta, hta, rfl⟩ := r2
  obtain ⟨ta', hta', vs, n, e, hv⟩ := d.at ht
  rw [hta] at hta'; cases hta'
  cases hv with
  | cons v1 hv => cases hv with
  | cons v2 hv =>
  cases hv
  obtain ⟨as1, ra⟩ := rd_ints d ha v1
  obtain ⟨as2, rb⟩ := rd_ints d hb v2
  have rc : Reads s.heap (.ref ta) (.tuple [.list (xs.map .int), .list (ys.map .int)]) _ := .tuple e rfl rfl (.cons ra (.cons rb .nil))
  obtain ⟨q1, q2, q3⟩ := int_ok xs
  obtain ⟨p1, p2, p3⟩ := int_ok ys
  refine notIn_tuple_reads rc rx ?_ rfl ?_ ?_
  · rw [PyData.canLayAll0, PyData.canLayAll0, PyData.canLayAll0, PyData.canLay0, PyData.canLay0, q1, p1]; rfl
  · have := hr.units64
    have : min (PyData.depthAll [.list (xs.map .int), .list (ys.map .int)]) (PyData.list ([] : List PyData)).depth ≤ 1 := Nat.le_trans (Nat.min_le_right _ _) (by decide)
    have e2 : (List.map PyData.int []) = [] := rfl
    rw [e2]
    lia
  · have hany : ([PyData.list (xs.map .int), PyData.list (ys.map .int)].any fun y => PyData.eqv y (.list (List.map PyData.int []))) = true := by
      rcases hnil with rfl | rfl
      · simp [PyData.eqv, PyData.eqvAll]
      · simp [PyData.eqv, PyData.eqvAll]
    rw [hany]
    exact PE.here d VR.bool' h
end
end Mine
end
section
set_option maxRecDepth 100000
namespace Mine

structure Ord (bf : Nat → Nat → Bool) : Prop where
  as : ∀ a b, bf a b = true → bf b a = false
  tr : ∀ a b c, bf b a = false → bf c b = false → bf c a = false

theorem getD_set {xs : List Nat} {i j v : Nat} (hi : i < xs.length) : (xs.set i v).getD j 0 = if i = j then v else xs.getD j 0 := by
  rw [List.getD_eq_getElem?_getD, List.getD_eq_getElem?_getD, List.getElem?_set]
  by_cases h : i = j
  · subst h; rw [if_pos rfl, if_pos rfl, if_pos hi]; rfl
  · rw [if_neg h, if_neg h]
theorem getD_set_ne {xs : List Nat} {i j v : Nat} (h : i ≠ j) : (xs.set i v).getD j 0 = xs.getD j 0 := by
  rw [List.getD_eq_getElem?_getD, List.getD_eq_getElem?_getD, List.getElem?_set_ne h]
theorem getD_set_self {xs : List Nat} {i v : Nat} (h : i < xs.length) : (xs.set i v).getD i 0 = v := by
  rw [List.getD_eq_getElem?_getD, List.getElem?_set_self h]; rfl
theorem getD_at {xs : List Nat} {i : Nat} (h : i < xs.length) : xs.getD i 0 = xs[i] := by
  rw [List.getD_eq_getElem?_getD, List.getElem?_eq_getElem h]; rfl

theorem set_swap_perm {xs : List Nat} {i j v : Nat} (hi : i < xs.length) (hj : j < xs.length) (hne : i ≠ j) : ((xs.set i (xs.getD j 0)).set j v).Perm (xs.set i v) := by
  rw [List.perm_iff_count]
  intro b
  rw [List.count_set (by rw [List.length_set]; exact hj), List.count_set hi, List.count_set hi, List.getElem_set_ne hne, getD_at hj]
  have h1 : xs[i] ∈ xs := List.getElem_mem hi
  by_cases q : (xs[i] == b) = true
  · have e := eq_of_beq q
    have : 0 < List.count b xs := List.count_pos_iff.mpr (e ▸ h1)
    rw [if_pos q]
    by_cases q2 : (xs[j] == b) = true
    · rw [if_pos q2]; lia
    · rw [if_neg q2]; lia
  · rw [if_neg q]
    by_cases q2 : (xs[j] == b) = true
    · rw [if_pos q2]; lia
    · rw [if_neg q2]; lia

noncomputable def HF (bf : Nat → Nat → Bool) (s : Nat) (xs : List Nat) : Prop := ∀ i, 0 < i → i < xs.length → s ≤ (i - 1) / 2 → bf (xs.getD i 0) (xs.getD ((i - 1) / 2) 0) = false

inductive Desc (s : Nat) : Nat → Prop where
  | refl : Desc s s
  | step {c : Nat} : Desc s ((c - 1) / 2) → 0 < c → Desc s c
theorem Desc.le {s p : Nat} (h : Desc s p) : s ≤ p := by
  induction h with
  | refl => exact Nat.le_refl _
  | step _ h ih => lia
theorem Desc.up {s p : Nat} (h : Desc s p) (hne : s < p) : Desc s ((p - 1) / 2) := by
  cases h with
  | refl => lia
  | step h _ => exact h
theorem Desc.zero : ∀ n, Desc 0 n := by
  intro n
  induction n using Nat.strongRecOn with
  | ind n ih =>
    cases n with
    | zero => exact .refl
    | succ n => exact .step (ih _ (by lia)) (by lia)

structure Hole (bf : Nat → Nat → Bool) (s p : Nat) (ys : List Nat) : Prop where
  d : Desc s p
  lt : p < ys.length
  ok : ∀ i, 0 < i → i < ys.length → s ≤ (i - 1) / 2 → i ≠ p → (i - 1) / 2 ≠ p → bf (ys.getD i 0) (ys.getD ((i - 1) / 2) 0) = false
  up : ∀ i, 0 < i → i < ys.length → (i - 1) / 2 = p → p ≠ s → bf (ys.getD i 0) (ys.getD ((p - 1) / 2) 0) = false

variable {bf : Nat → Nat → Bool}

theorem Hole.set {s p v : Nat} {ys : List Nat} (h : Hole bf s p ys) : Hole bf s p (ys.set p v) := by
  refine ⟨h.d, by rw [List.length_set]; exact h.lt, fun i h0 hi hs h1 h2 => ?_, fun i h0 hi h1 h2 => ?_⟩
  · rw [List.length_set] at hi
    rw [getD_set_ne (Ne.symm h1), getD_set_ne (Ne.symm h2)]
    exact h.ok i h0 hi hs h1 h2
  · rw [List.length_set] at hi
    have := h.d.le
    rw [getD_set_ne (by lia), getD_set_ne (by lia)]
    exact h.up i h0 hi h1 h2

theorem suC_par {pos : Nat} {xs : List Nat} : (suC bf pos xs - 1) / 2 = pos := by
  unfold suC; split <;> lia
theorem suC_best (o : Ord bf) {pos i : Nat} {xs : List Nat} (hi : i < xs.length) (h0 : 0 < i) (hp : (i - 1) / 2 = pos) : bf (xs.getD i 0) (xs.getD (suC bf pos xs) 0) = false := by
  have irr : ∀ a, bf a a = false := fun a => by
    cases q : bf a a with
    | false => rfl
    | true => have := o.as a a q; rw [q] at this; cases this
  unfold suC
  by_cases c : 2 * pos + 2 < xs.length ∧ bf (xs.getD (2 * pos + 1) 0) (xs.getD (2 * pos + 2) 0) = false
  · rw [if_pos c]
    rcases (by lia : i = 2 * pos + 1 ∨ i = 2 * pos + 2) with q | q
    · rw [q]; exact c.2
    · rw [q]; exact irr _
  · rw [if_neg c]
    rcases (by lia : i = 2 * pos + 1 ∨ i = 2 * pos + 2) with q | q
    · rw [q]; exact irr _
    · have : bf (xs.getD (2 * pos + 1) 0) (xs.getD (2 * pos + 2) 0) = true := by
        cases w : bf (xs.getD (2 * pos + 1) 0) (xs.getD (2 * pos + 2) 0) with
        | true => rfl
        | false => exact absurd ⟨by lia, w⟩ c
      rw [q]; exact o.as _ _ this

theorem suGo_ok (o : Ord bf) {s : Nat} : ∀ (f p : Nat) (ys : List Nat), Hole bf s p ys → ys.length ≤ f + p →
    Hole bf s (suGo bf f p ys).1 (suGo bf f p ys).2 ∧ (suGo bf f p ys).2.length ≤ 2 * (suGo bf f p ys).1 + 1 ∧ (suGo bf f p ys).2.length = ys.length ∧ ∀ v, ((suGo bf f p ys).2.set (suGo bf f p ys).1 v).Perm (ys.set p v)
  | 0, p, ys, h, hf => by have := h.lt; lia
  | f + 1, p, ys, h, hf => by
    rw [suGo]
    split
    · rename_i hlt
      have hc := suC_lt (bf := bf) hlt
      have hg := suC_gt (bf := bf) (pos := p) (xs := ys)
      have hpar := suC_par (bf := bf) (pos := p) (xs := ys)
      generalize hcc : suC bf p ys = c at hc hg hpar
      have hb : ∀ i, i < ys.length → 0 < i → (i - 1) / 2 = p → bf (ys.getD i 0) (ys.getD c 0) = false := fun i h1 h2 h3 => hcc ▸ suC_best o h1 h2 h3
      have hp := h.lt
      have h' : Hole bf s c (ys.set p (ys.getD c 0)) := by
        have hd : Desc s c := .step (hpar.symm ▸ h.d) (by lia)
        refine ⟨hd, by rw [List.length_set]; exact hc, fun i h0 hi hs h1 h2 => ?_, fun i h0 hi h1 h2 => ?_⟩
        · rw [List.length_set] at hi
          rw [getD_set hp, getD_set hp]
          by_cases q : p = i
          · rw [if_pos q, if_neg (by lia)]
            subst q
            refine h.up c (by lia) hc hpar (by lia)
          · rw [if_neg q]
            by_cases q2 : p = (i - 1) / 2
            · rw [if_pos q2]; exact hb i hi h0 q2.symm
            · rw [if_neg q2]; exact h.ok i h0 hi hs (Ne.symm q) (Ne.symm q2)
        · rw [List.length_set] at hi
          rw [getD_set_ne (by lia), hpar, getD_set_self hp, ← h1]
          exact h.ok i h0 hi (by have := h.d.le; lia) (by lia) (by lia)
      obtain ⟨q1, q2, q3, q4⟩ := suGo_ok o f c _ h' (by rw [List.length_set]; lia)
      rw [List.length_set] at q3
      refine ⟨q1, q2, q3, fun v => (q4 v).trans ?_⟩
      exact set_swap_perm hp hc (by lia)
    · rename_i hlt
      exact ⟨h, by dsimp only; lia, rfl, fun v => .refl _⟩

theorem sdGo_ok (o : Ord bf) {s new : Nat} : ∀ (f p : Nat) (ys : List Nat), Hole bf s p ys → (∀ i, 0 < i → i < ys.length → (i - 1) / 2 = p → bf (ys.getD i 0) new = false) → p ≤ f →
    HF bf s (sdGo bf new s f p ys) ∧ (sdGo bf new s f p ys).Perm (ys.set p new) := by
  have done : ∀ (p : Nat) (ys : List Nat), Hole bf s p ys → (∀ i, 0 < i → i < ys.length → (i - 1) / 2 = p → bf (ys.getD i 0) new = false) → (s < p → bf new (ys.getD ((p - 1) / 2) 0) = false) →
      HF bf s (ys.set p new) ∧ (ys.set p new).Perm (ys.set p new) := by
    intro p ys h hc hu
    refine ⟨fun i h0 hi hs => ?_, .refl _⟩
    rw [List.length_set] at hi
    rw [getD_set h.lt, getD_set h.lt]
    by_cases q : p = i
    · rw [if_pos q, if_neg (by lia)]
      subst q
      exact hu (by lia)
    · rw [if_neg q]
      by_cases q2 : p = (i - 1) / 2
      · rw [if_pos q2]; exact hc i h0 hi q2.symm
      · rw [if_neg q2]; exact h.ok i h0 hi hs (Ne.symm q) (Ne.symm q2)
  intro f
  induction f with
  | zero =>
    intro p ys h hc hf
    rw [sdGo]
    exact done p ys h hc (by lia)
  | succ f ih =>
    intro p ys h hc hf
    rw [sdGo]
    split
    · rename_i hlt
      split
      · rename_i hb
        have hp := h.lt
        have hd := h.d.up hlt
        have hdl := hd.le
        have h' : Hole bf s ((p - 1) / 2) (ys.set p (ys.getD ((p - 1) / 2) 0)) := by
          refine ⟨hd, by rw [List.length_set]; lia, fun i h0 hi hs h1 h2 => ?_, fun i h0 hi h1 h2 => ?_⟩
          · rw [List.length_set] at hi
            rw [getD_set hp, getD_set hp]
            by_cases q : p = i
            · exact absurd (by rw [q]) h2
            · rw [if_neg q]
              by_cases q2 : p = (i - 1) / 2
              · rw [if_pos q2]; exact h.up i h0 hi q2.symm (by lia)
              · rw [if_neg q2]; exact h.ok i h0 hi hs (Ne.symm q) (Ne.symm q2)
          · rw [List.length_set] at hi
            have hq : bf (ys.getD ((p - 1) / 2) 0) (ys.getD (((p - 1) / 2 - 1) / 2) 0) = false :=
              h.ok ((p - 1) / 2) (by lia) (by lia) ((hd.up (by lia)).le) (by lia) (by lia)
            rw [getD_set hp, getD_set_ne (by lia)]
            by_cases q : p = i
            · rw [if_pos q]; exact hq
            · rw [if_neg q]
              refine o.tr _ _ _ hq ?_
              rw [← h1]
              exact h.ok i h0 hi (by lia) (Ne.symm q) (by lia)
        obtain ⟨q1, q2⟩ := ih ((p - 1) / 2) _ h' (fun i h0 hi h1 => by
          rw [List.length_set] at hi
          rw [getD_set hp]
          by_cases q : p = i
          · rw [if_pos q]; exact o.as _ _ hb
          · rw [if_neg q]
            refine o.tr _ _ _ (o.as _ _ hb) ?_
            rw [← h1]
            exact h.ok i h0 hi (by lia) (Ne.symm q) (by lia)) (by lia)
        exact ⟨q1, q2.trans (set_swap_perm hp (by lia) (by lia))⟩
      · rename_i hb
        exact done p ys h hc (fun _ => by simpa using hb)
    · rename_i hlt
      exact done p ys h hc (fun q => absurd q hlt)

theorem set_getD_self {xs : List Nat} {i : Nat} (h : i < xs.length) : xs.set i (xs.getD i 0) = xs := by
  rw [getD_at h]; exact List.set_getElem_self ..

theorem su_ok (o : Ord bf) {pos : Nat} {xs : List Nat} (hp : pos < xs.length) (h : HF bf (pos + 1) xs) : HF bf pos (su bf xs pos) ∧ (su bf xs pos).Perm xs := by
  have h0 : Hole bf pos pos xs := ⟨.refl, hp, fun i h0 hi hs h1 h2 => h i h0 hi (by lia), fun i h0 hi h1 h2 => absurd rfl h2⟩
  obtain ⟨q1, q2, q3, q4⟩ := suGo_ok o xs.length pos xs h0 (by lia)
  unfold su sd
  dsimp only
  generalize suGo bf xs.length pos xs = r at q1 q2 q3 q4
  obtain ⟨p, ys⟩ := r
  dsimp only at q1 q2 q3 q4 ⊢
  obtain ⟨a, b⟩ := sdGo_ok (new := (ys.set p (xs.getD pos 0)).getD p 0) o p p (ys.set p (xs.getD pos 0)) q1.set (fun i h0 hi h1 => by rw [List.length_set] at hi; lia) (Nat.le_refl _)
  refine ⟨a, b.trans ?_⟩
  rw [set_getD_self (by rw [List.length_set]; exact q1.lt)]
  refine (q4 _).trans ?_
  rw [set_getD_self hp]

theorem hfyGo_ok (o : Ord bf) : ∀ (i : Nat) (xs : List Nat), i ≤ xs.length → HF bf i xs → HF bf 0 (hfyGo bf i xs) ∧ (hfyGo bf i xs).Perm xs
  | 0, xs, _, h => ⟨h, .refl _⟩
  | i + 1, xs, hi, h => by
    obtain ⟨h1, h2⟩ := su_ok o (by lia) h
    obtain ⟨h3, h4⟩ := hfyGo_ok o i (su bf xs i) (by rw [h2.length_eq]; lia) h1
    rw [hfyGo]
    exact ⟨h3, h4.trans h2⟩
theorem hfy_ok (o : Ord bf) (xs : List Nat) : HF bf 0 (hfy bf xs) ∧ (hfy bf xs).Perm xs :=
  hfyGo_ok o _ xs (by lia) fun i h0 hi hs => by lia

theorem root_min (o : Ord bf) {xs : List Nat} (h : HF bf 0 xs) : ∀ i, i < xs.length → bf (xs.getD i 0) (xs.getD 0 0) = false := by
  intro i
  induction i using Nat.strongRecOn with
  | ind i ih =>
    intro hi
    cases i with
    | zero =>
      cases q : bf (xs.getD 0 0) (xs.getD 0 0) with
      | false => rfl
      | true => have := o.as _ _ q; rw [q] at this; cases this
    | succ i =>
      exact o.tr _ _ _ (ih ((i + 1 - 1) / 2) (by lia) (by lia)) (h (i + 1) (by lia) hi (by lia))

theorem hpop_ok (o : Ord bf) {xs : List Nat} (h0 : 0 < xs.length) (h : HF bf 0 xs) : HF bf 0 (hpop bf xs).2 ∧ ((hpop bf xs).1 :: (hpop bf xs).2).Perm xs ∧ (∀ t ∈ xs, bf t (hpop bf xs).1 = false) ∧ (hpop bf xs).1 = xs.getD 0 0 := by
  have hmin : ∀ t ∈ xs, bf t (xs.getD 0 0) = false := fun t ht => by
    obtain ⟨i, hi, rfl⟩ := List.getElem_of_mem ht
    rw [← getD_at hi]; exact root_min o h i hi
  unfold hpop
  by_cases c : xs.length ≤ 1
  · rw [if_pos c]
    have e : xs.length - 1 = 0 := by lia
    rw [e]
    refine ⟨fun i _ hi => by simp at hi, ?_, hmin, rfl⟩
    match xs, h0, c with
    | [a], _, _ => exact .refl _
  · rw [if_neg c]
    dsimp only
    have hdl : xs.dropLast.length = xs.length - 1 := by simp
    have hg : ∀ i, i < xs.length - 1 → xs.dropLast.getD i 0 = xs.getD i 0 := fun i hi => by
      rw [List.getD_eq_getElem?_getD, List.getD_eq_getElem?_getD, List.getElem?_dropLast, if_pos hi]
    have hp : 0 < (xs.dropLast.set 0 (xs.getD (xs.length - 1) 0)).length := by rw [List.length_set]; lia
    obtain ⟨h1, h2⟩ := su_ok o (pos := 0) hp (fun i h0' hi hs => by
      rw [List.length_set] at hi
      rw [getD_set_ne (by lia), getD_set_ne (by lia), hg _ (by lia), hg _ (by lia)]
      exact h i h0' (by lia) (Nat.zero_le _))
    refine ⟨h1, ?_, hmin, rfl⟩
    refine (h2.cons _).trans ?_
    match xs, c with
    | a :: b :: r, _ =>
      show List.Perm (a :: ((a :: b :: r).dropLast.set 0 _)) _
      have e1 : (a :: b :: r).dropLast = a :: (b :: r).dropLast := rfl
      have e2 : (a :: b :: r).getD ((a :: b :: r).length - 1) 0 = (b :: r).getLast (by simp) := by
        rw [List.getD_eq_getElem?_getD, ← List.getLast?_eq_getElem?, List.getLast?_cons_cons, List.getLast?_eq_some_getLast (by simp)]; rfl
      rw [e1, e2, List.set_cons_zero]
      refine List.Perm.cons _ ?_
      have e3 := List.dropLast_concat_getLast (l := b :: r) (by simp)
      refine .trans ?_ (.of_eq e3)
      exact (List.perm_append_comm (l₁ := [(b :: r).getLast (by simp)]) (l₂ := (b :: r).dropLast))

noncomputable def pops (bf : Nat → Nat → Bool) : Nat → List Nat → List Nat
  | 0, _ => []
  | i + 1, h => (hpop bf h).1 :: pops bf i (hpop bf h).2

theorem pops_ok (o : Ord bf) : ∀ (n : Nat) (h : List Nat), h.length = n → HF bf 0 h → (pops bf n h).Perm h ∧ (pops bf n h).Pairwise (fun a b => bf b a = false)
  | 0, h, hl, _ => by
    rw [List.length_eq_zero_iff.mp hl]; exact ⟨.refl _, .nil⟩
  | n + 1, h, hl, hh => by
    obtain ⟨h1, h2, h3, _⟩ := hpop_ok o (by lia) hh
    have hlen : (hpop bf h).2.length = n := by have := h2.length_eq; simp at this; lia
    obtain ⟨p1, p2⟩ := pops_ok o n _ hlen h1
    rw [pops]
    refine ⟨(p1.cons _).trans h2, List.Pairwise.cons (fun t ht => ?_) p2⟩
    exact h3 t (h2.subset (.tail _ (p1.subset ht)))
end Mine
end
section
set_option maxRecDepth 100000
namespace Mine

noncomputable def K (v : Nat → Int) (p q : Nat) : Prop := v p < v q ∨ (v p = v q ∧ p < q)
noncomputable def kl (v : Nat → Int) (p q : Nat) : Bool := decide (v p < v q ∨ (v p = v q ∧ p < q))
theorem kl_t {v : Nat → Int} {p q : Nat} : (kl v p q = true) = K v p q := propext decide_eq_true_iff
theorem kl_f {v : Nat → Int} {p q : Nat} : (kl v p q = false) = ¬ K v p q := propext decide_eq_false_iff_not
variable {v : Nat → Int}
theorem K.irr {p : Nat} : ¬ K v p p := by unfold K; lia
theorem K.trans {p q r : Nat} (h : K v p q) (h' : K v q r) : K v p r := by unfold K at *; lia
theorem K.asymm {p q : Nat} (h : K v p q) : ¬ K v q p := by unfold K at *; lia
theorem K.tri {p q : Nat} (h : ¬ K v p q) (hne : p ≠ q) : K v q p := by unfold K at *; lia
theorem K.ne {p q : Nat} (h : K v p q) : p ≠ q := fun e => by subst e; exact K.irr h

noncomputable def Btw (q r p : Nat) : Prop := (q ≤ r ∧ r ≤ p) ∨ (p ≤ r ∧ r ≤ q)
noncomputable def anc (v : Nat → Int) (q p : Nat) : Bool := (List.range (q + p + 1)).all fun r => decide (¬ ((q ≤ r ∧ r ≤ p) ∨ (p ≤ r ∧ r ≤ q)) ∨ ¬ (v r < v q ∨ (v r = v q ∧ r < q)))
theorem anc_iff {q p : Nat} : anc v q p = true ↔ ∀ r, Btw q r p → ¬ K v r q := by
  unfold anc
  rw [List.all_eq_true]
  constructor
  · intro h r hr hk
    have := h r (List.mem_range.mpr (by unfold Btw at hr; lia))
    rw [decide_eq_true_iff] at this
    exact this.elim (fun q => q hr) fun q => q hk
  · intro h r _
    rw [decide_eq_true_iff]
    by_cases q : Btw q r p
    · exact .inr (h r q)
    · exact .inl q
theorem anc_self {p : Nat} : anc v p p = true := anc_iff.mpr fun r hr hk => by
  have : r = p := by unfold Btw at hr; lia
  subst this; exact K.irr hk
theorem anc_lt {q p : Nat} (h : anc v q p = true) (hne : q ≠ p) : K v q p := by
  refine K.tri (anc_iff.mp h p ?_) (Ne.symm hne)
  unfold Btw; lia
theorem anc_no {q p : Nat} (h : K v p q) : anc v q p = false := by
  cases e : anc v q p with
  | false => rfl
  | true => exact absurd (anc_lt e (Ne.symm h.ne)) h.asymm

noncomputable def Side (q a p : Nat) : Prop := (a < q ∧ p < q) ∨ (q < a ∧ q < p)
theorem cmp3_side {q a p : Nat} (h : Side q a p) : cmp3 (a : Int) q = cmp3 (p : Int) q ∧ cmp3 (p : Int) q ≠ 0 := by
  unfold Side at h
  unfold cmp3 PyProof.Rows.b2i
  rcases h with ⟨h1, h2⟩ | ⟨h1, h2⟩
  · have a1 : ¬ ((q : Int) < a) := by lia
    have a2 : ¬ ((q : Int) < p) := by lia
    have a3 : ((a : Int) < q) := by lia
    have a4 : ((p : Int) < q) := by lia
    simp [a1, a2, a3, a4]
  · have a1 : ((q : Int) < a) := by lia
    have a2 : ((q : Int) < p) := by lia
    have a3 : ¬ ((a : Int) < q) := by lia
    have a4 : ¬ ((p : Int) < q) := by lia
    simp [a1, a2, a3, a4]
theorem cmp3_val {a q : Nat} : cmp3 (a : Int) q = if q < a then 1 else if a < q then -1 else 0 := by
  unfold cmp3 PyProof.Rows.b2i
  by_cases h : q < a
  · have a1 : ((q : Int) < a) := by lia
    have a3 : ¬ ((a : Int) < q) := by lia
    simp [a1, a3, h]
  · by_cases h' : a < q
    · have a1 : ¬ ((q : Int) < a) := by lia
      have a3 : ((a : Int) < q) := by lia
      simp [a1, a3, h, h']
    · have a1 : ¬ ((q : Int) < a) := by lia
      have a3 : ¬ ((a : Int) < q) := by lia
      simp [a1, a3, h, h']
theorem side_of {q a p : Nat} (h : cmp3 (a : Int) q = cmp3 (p : Int) q) (hne : p ≠ q) : Side q a p := by
  rw [cmp3_val, cmp3_val] at h
  unfold Side
  by_cases h1 : q < a <;> by_cases h2 : q < p <;> by_cases h3 : a < q <;> by_cases h4 : p < q <;> simp [h1, h2, h3, h4] at h ⊢ <;> lia

theorem anc_chain {q a p : Nat} (ha : anc v a p = true) (hq : anc v q p = true) (hk : K v q a) : anc v q a = true ∧ Side q a p := by
  have h1 := anc_iff.mp ha
  have h2 := anc_iff.mp hq
  have hs : Side q a p := by
    have : ¬ Btw a q p := fun b => h1 q b hk
    have hne := hk.ne
    have hp : p ≠ q := fun e => by
      subst e; exact this (by unfold Btw; lia)
    unfold Btw at this; unfold Side; lia
  refine ⟨anc_iff.mpr fun r hr => ?_, hs⟩
  by_cases b : Btw q r p
  · exact h2 r b
  · have : Btw a r p := by unfold Btw at *; unfold Side at hs; lia
    exact (h1 r this).elim ∘ fun w => w.trans hk
theorem anc_next {q c p : Nat} (hq : anc v q p = true) (hc : anc v q c = true) (hs : Side q c p) (hm : ∀ r, Btw c r p → K v r c → ¬ (anc v q r = true ∧ Side q r p)) : anc v c p = true := by
  have h1 := anc_iff.mp hq
  have h2 := anc_iff.mp hc
  refine anc_iff.mpr fun r hr hk => hm r hr hk ⟨anc_iff.mpr fun x hx => ?_, ?_⟩
  · by_cases b : Btw q x p
    · exact h1 x b
    · refine h2 x ?_
      unfold Btw at *; unfold Side at hs; lia
  · unfold Btw at *; unfold Side at *; lia
theorem anc_right {q k : Nat} (h : K v k (k + 1)) (ha : anc v q k = true) : anc v q (k + 1) = true := by
  have h1 := anc_iff.mp ha
  refine anc_iff.mpr fun r hr => ?_
  by_cases b : Btw q r k
  · exact h1 r b
  · have : r = k + 1 := by unfold Btw at *; lia
    subst this
    intro w
    exact h1 k (by unfold Btw at *; lia) (h.trans w)
theorem anc_left {q k : Nat} (h : K v (k + 1) k) (ha : anc v q (k + 1) = true) : anc v q k = true := by
  have h1 := anc_iff.mp ha
  refine anc_iff.mpr fun r hr => ?_
  by_cases b : Btw q r (k + 1)
  · exact h1 r b
  · have : r = k := by unfold Btw at *; lia
    subst this
    intro w
    exact h1 (r + 1) (by unfold Btw at *; lia) (h.trans w)
end Mine
end
section
set_option maxRecDepth 100000
namespace Mine
variable {v : Nat → Int}

noncomputable def pBelow (v : Nat → Int) (s : Int) (q a : Nat) : Bool := decide (cmp3 (a : Int) q = s) && anc v q a
noncomputable def pAbove (v : Nat → Int) (p q a : Nat) : Bool := anc v a p && kl v q a

theorem find_same {D : List Nat} {P1 P2 : Nat → Bool} (h1 : ∀ a ∈ D, P1 a = true → P2 a = true) (h2 : ∀ c, D.find? P2 = some c → P1 c = true) : D.find? P2 = D.find? P1 := by
  induction D with
  | nil => rfl
  | cons a D ih =>
    rw [List.find?_cons, List.find?_cons] at *
    cases q : P2 a with
    | true =>
      rw [q] at h2
      have := h2 a rfl
      rw [this]
    | false =>
      rw [q] at h2
      have : P1 a = false := by
        cases w : P1 a with
        | false => rfl
        | true => rw [h1 a (.head _) w] at q; cases q
      rw [this]
      exact ih (fun b hb => h1 b (.tail _ hb)) h2

structure Dn (v : Nat → Int) (n : Nat) (D : List Nat) (p : Nat) : Prop where
  pw : D.Pairwise (K v)
  mem : ∀ r, r ∈ D ↔ (r < n ∧ K v r p)
  hp : p < n

theorem Dn.first {n : Nat} {D : List Nat} {p q c : Nat} (h : Dn v n D p) (hq : q ∈ D) (ha : anc v q p = true) : D.find? (pBelow v (cmp3 (p : Int) q) q) = D.find? (pAbove v p q) := by
  have hqk := ((h.mem q).mp hq).2
  refine find_same (fun a haD hab => ?_) fun c hc => ?_
  · unfold pAbove at hab
    rw [Bool.and_eq_true] at hab
    have hk : K v q a := by simpa [kl_t] using hab.2
    obtain ⟨h1, h2⟩ := anc_chain hab.1 ha hk
    unfold pBelow
    rw [h1, Bool.and_true, decide_eq_true_iff]
    exact (cmp3_side h2).1
  · rw [List.find?_eq_some_iff_append] at hc
    obtain ⟨hcb, l, r, hD, hl⟩ := hc
    unfold pBelow at hcb
    rw [Bool.and_eq_true, decide_eq_true_iff] at hcb
    have hs : Side q c p := side_of hcb.1 (Ne.symm hqk.ne)
    have hcD : c ∈ D := by rw [hD]; simp
    have hcne : q ≠ c := fun e => by subst e; unfold Side at hs; lia
    unfold pAbove
    rw [Bool.and_eq_true]
    refine ⟨anc_next ha hcb.2 hs fun x hx hk ⟨h1, h2⟩ => ?_, by simpa [kl_t] using anc_lt hcb.2 hcne⟩
    have hcn := ((h.mem c).mp hcD)
    have hxD : x ∈ D := (h.mem x).mpr ⟨by have := h.hp; unfold Btw at hx; lia, hk.trans hcn.2⟩
    have hpw := h.pw
    rw [hD] at hxD hpw
    rcases List.mem_append.mp hxD with q' | q'
    · have := hl x q'
      unfold pBelow at this
      rw [h1, Bool.and_true] at this
      simp [(cmp3_side h2).1] at this
    · rcases List.mem_cons.mp q' with q' | q'
      · subst q'; exact K.irr hk
      · rw [List.pairwise_append] at hpw
        exact hk.asymm ((List.pairwise_cons.mp hpw.2.1).1 x q')

theorem Dn.next {n : Nat} {D : List Nat} {p q c : Nat} (h : Dn v n D p) (hc : D.find? (pAbove v p q) = some c) : D.filter (pAbove v p q) = c :: D.filter (pAbove v p c) ∧ c ∈ D ∧ anc v c p = true := by
  rw [List.find?_eq_some_iff_append] at hc
  obtain ⟨hcb, l, r, hD, hl⟩ := hc
  have hpw := h.pw
  rw [hD, List.pairwise_append] at hpw
  have hcr := (List.pairwise_cons.mp hpw.2.1).1
  have hcb' := hcb
  unfold pAbove at hcb'
  rw [Bool.and_eq_true] at hcb'
  have hqc : K v q c := by simpa [kl_t] using hcb'.2
  refine ⟨?_, by rw [hD]; simp, hcb'.1⟩
  rw [hD, List.filter_append, List.filter_append, List.filter_cons_of_pos hcb, List.filter_cons_of_neg (by unfold pAbove; simp [kl_t, K.irr])]
  have e1 : l.filter (pAbove v p q) = [] := List.filter_eq_nil_iff.mpr fun a ha => by simpa using hl a ha
  have e2 : l.filter (pAbove v p c) = [] := List.filter_eq_nil_iff.mpr fun a ha => by
    have : K v a c := hpw.2.2 a ha c (.head _)
    unfold pAbove; simp [kl_t, this.asymm]
  have e3 : r.filter (pAbove v p q) = r.filter (pAbove v p c) := List.filter_congr fun a ha => by
    have h1 := hcr a ha
    have h2 := hqc.trans h1
    unfold pAbove; rw [show kl v c a = true from Eq.mpr kl_t h1, show kl v q a = true from Eq.mpr kl_t h2]
  rw [e1, e2, e3]; rfl

noncomputable def DictIs (v : Nat → Int) (n : Nat) (D : List Nat) (es : Ent) : Prop := ∀ s : Int, s ≠ 0 → ∀ q, q < n → dfind es s q = (D.find? (pBelow v s q)).map fun (a : Nat) => (a : Int)

theorem intsOf_append (xs ys : List Nat) : intsOf (xs ++ ys) = intsOf xs ++ intsOf ys := List.map_append

theorem last_app {way : List Int} {x : Int} : (way ++ [x]).getD ((way ++ [x]).length - 1) 0 = x := by
  rw [List.getD_eq_getElem?_getD]; simp

theorem wayGo_ok {n : Nat} {D : List Nat} {p : Nat} {es : Ent} (h : Dn v n D p) (hd : DictIs v n D es) : ∀ (f : Nat) (way0 turns : List Int) (q : Nat), q ∈ D → anc v q p = true → (D.filter (pAbove v p q)).length + 2 ≤ f →
    ∃ ql, ql ∈ D ∧ anc v ql p = true ∧ D.filter (pAbove v p ql) = [] ∧
      wayGo p f (way0 ++ [(q : Int)]) turns es = some (way0 ++ intsOf (q :: D.filter (pAbove v p q)) ++ [(p : Int)], turns ++ (q :: D.filter (pAbove v p q)).map (fun (a : Nat) => cmp3 (p : Int) a), es ++ [((cmp3 (p : Int) ql, (ql : Int)), (p : Int))])
  | 0, _, _, _, _, _, hf => by lia
  | f + 1, way0, turns, q, hq, ha, hf => by
    have hqm := (h.mem q).mp hq
    have hne : ((q : Int) != (p : Int)) = true := by
      have := hqm.2.ne
      simp; lia
    have hs0 : cmp3 (p : Int) q ≠ 0 := by
      rw [cmp3_val]
      have := hqm.2.ne
      by_cases h1 : q < p
      · simp [h1]
      · have : p < q := by lia
        simp [h1, this]
    have hfind := hd (cmp3 (p : Int) q) hs0 q hqm.1
    rw [Dn.first (c := 0) h hq ha] at hfind
    rw [wayGo]
    simp only [last_app, hne, if_true]
    cases e : D.find? (pAbove v p q) with
    | none =>
      rw [e] at hfind
      have e0 : D.filter (pAbove v p q) = [] := List.filter_eq_nil_iff.mpr fun a haD => by simpa using List.find?_eq_none.mp e a haD
      refine ⟨q, hq, ha, e0, ?_⟩
      rw [hfind, e0]
      obtain ⟨g, rfl⟩ : ∃ g, f = g + 1 := ⟨f - 1, by lia⟩
      rw [wayGo]
      simp only [Option.map_none, last_app]
      simp [intsOf]
    | some c =>
      rw [e] at hfind
      obtain ⟨h1, h2, h3⟩ := h.next e
      rw [h1] at hf ⊢
      obtain ⟨ql, q1, q2, q3, q4⟩ := wayGo_ok h hd f (way0 ++ [(q : Int)]) (turns ++ [cmp3 (p : Int) q]) c h2 h3 (by simp at hf; lia)
      refine ⟨ql, q1, q2, q3, ?_⟩
      rw [hfind]
      simp only [Option.map_some]
      rw [q4]
      simp [intsOf, List.append_assoc]

theorem DictIs.step {n : Nat} {D : List Nat} {p ql : Nat} {es : Ent} (h : Dn v n D p) (hd : DictIs v n D es) (hl : ql ∈ D) (ha : anc v ql p = true) (he : D.filter (pAbove v p ql) = []) :
    DictIs v n (D ++ [p]) (es ++ [((cmp3 (p : Int) ql, (ql : Int)), (p : Int))]) := by
  intro s hs q hq
  have e1 : dfind (es ++ [((cmp3 (p : Int) ql, (ql : Int)), (p : Int))]) s q = (dfind es s q).or (if (cmp3 (p : Int) ql, (ql : Int)) = (s, (q : Int)) then some (p : Int) else none) := by
    unfold dfind
    rw [List.find?_append]
    cases es.find? (fun e => decide (e.1 = (s, (q : Int)))) with
    | some e => rfl
    | none =>
      by_cases c : (cmp3 (p : Int) ql, (ql : Int)) = (s, (q : Int))
      · simp [c]
      · rw [if_neg c]; simp only [List.find?_cons, decide_eq_false c]; rfl
  rw [e1, hd s hs q hq, List.find?_append]
  cases e : D.find? (pBelow v s q) with
  | some a => rfl
  | none =>
    have hnone := List.find?_eq_none.mp e
    have hiff : (cmp3 (p : Int) ql, (ql : Int)) = (s, (q : Int)) ↔ pBelow v s q p = true := by
      unfold pBelow
      rw [Bool.and_eq_true, decide_eq_true_iff, Prod.mk.injEq]
      constructor
      · rintro ⟨h1, h2⟩
        have : ql = q := by lia
        subst this
        exact ⟨h1, ha⟩
      · rintro ⟨h1, h2⟩
        have hqp : q ≠ p := fun e => by
          subst e; rw [cmp3_val] at h1; simp at h1; exact hs h1.symm
        have hqD : q ∈ D := (h.mem q).mpr ⟨hq, anc_lt h2 hqp⟩
        by_cases c : ql = q
        · subst c; exact ⟨h1, rfl⟩
        · exfalso
          by_cases w : K v q ql
          · obtain ⟨a1, a2⟩ := anc_chain ha h2 w
            have := hnone ql hl
            unfold pBelow at this
            rw [a1, Bool.and_true, decide_eq_true_iff, (cmp3_side a2).1] at this
            exact this h1
          · have w' := K.tri w (Ne.symm c)
            have := List.filter_eq_nil_iff.mp he q hqD
            unfold pAbove at this
            rw [h2, Bool.true_and] at this
            exact this (by simpa [kl_t] using w')
    by_cases c : pBelow v s q p = true
    · rw [if_pos (hiff.mpr c)]; simp [c]
    · rw [if_neg (fun w => c (hiff.mp w))]; simp [c]

theorem DictIs.start {n p : Nat} (h : Dn v n [] p) : DictIs v n [p] [] := by
  intro s hs q hq
  have : pBelow v s q p = false := by
    unfold pBelow
    by_cases c : q = p
    · subst c
      have : cmp3 (q : Int) q = 0 := by rw [cmp3_val]; simp
      simp [this, Ne.symm hs]
    · have : K v p q := by
        have := fun w => (h.mem q).mpr ⟨hq, w⟩
        refine K.tri (fun w => ?_) c
        have := this w; cases this
      rw [anc_no this]; simp
  simp [this, dfind]
end Mine
end
section
set_option maxRecDepth 100000
namespace Mine
variable {v : Nat → Int}

structure Asc (v : Nat → Int) (n : Nat) (σ : List Nat) : Prop where
  perm : σ.Perm (List.range n)
  pw : σ.Pairwise (K v)
theorem Asc.mem {n : Nat} {σ : List Nat} (A : Asc v n σ) {p : Nat} : p ∈ σ ↔ p < n := by rw [A.perm.mem_iff, List.mem_range]
theorem Asc.len {n : Nat} {σ : List Nat} (A : Asc v n σ) : σ.length = n := by rw [A.perm.length_eq, List.length_range]
theorem Asc.dn {n p : Nat} {σ D rest : List Nat} (A : Asc v n σ) (h : σ = D ++ p :: rest) : Dn v n D p := by
  have hpw := A.pw
  rw [h, List.pairwise_append] at hpw
  refine ⟨hpw.1, fun r => ⟨fun hr => ⟨A.mem.mp (by rw [h]; simp [hr]), hpw.2.2 r hr p (.head _)⟩, fun ⟨h1, h2⟩ => ?_⟩, A.mem.mp (by rw [h]; simp)⟩
  have := A.mem.mpr h1
  rw [h] at this
  rcases List.mem_append.mp this with q | q
  · exact q
  · rcases List.mem_cons.mp q with q | q
    · subst q; exact absurd h2 K.irr
    · exact absurd ((List.pairwise_cons.mp hpw.2.1).1 r q) h2.asymm

noncomputable def path (v : Nat → Int) (σ : List Nat) (p : Nat) : List Nat := σ.filter fun a => anc v a p
theorem Asc.path_eq {n p : Nat} {σ D rest : List Nat} (A : Asc v n σ) (h : σ = D ++ p :: rest) : path v σ p = (D.filter fun a => anc v a p) ++ [p] := by
  have hpw := A.pw
  rw [h, List.pairwise_append] at hpw
  unfold path
  rw [h, List.filter_append, List.filter_cons_of_pos (p := fun a => anc v a p) anc_self]
  have : rest.filter (fun a => anc v a p) = [] := List.filter_eq_nil_iff.mpr fun a ha => by
    rw [anc_no ((List.pairwise_cons.mp hpw.2.1).1 a ha)]; simp
  rw [this]
theorem Asc.top_eq {n p top : Nat} {σ D rest : List Nat} (A : Asc v n σ) (h : σ = (top :: D) ++ p :: rest) : anc v top p = true ∧ ((top :: D).filter fun a => anc v a p) = top :: (top :: D).filter (pAbove v p top) := by
  have hpw := A.pw
  rw [h] at hpw
  have hK : ∀ r, r < n → ¬ K v r top := fun r hr hk => by
    have hm := A.mem.mpr hr
    rw [h, List.cons_append] at hm
    rcases List.mem_cons.mp hm with q | q
    · subst q; exact K.irr hk
    · rw [List.cons_append] at hpw
      exact ((List.pairwise_cons.mp hpw).1 r q).asymm hk
  have ht : top < n := A.mem.mp (by rw [h]; simp)
  have hp : p < n := A.mem.mp (by rw [h]; simp)
  have ha : anc v top p = true := anc_iff.mpr fun r hr => hK r (by unfold Btw at hr; lia)
  refine ⟨ha, ?_⟩
  rw [List.filter_cons_of_pos (p := fun a => anc v a p) ha, List.filter_cons_of_neg (by unfold pAbove; simp [kl_t, K.irr])]
  congr 1
  refine List.filter_congr fun a haD => ?_
  rw [List.cons_append] at hpw
  have := (List.pairwise_cons.mp hpw).1 a (List.mem_append_left _ haD)
  unfold pAbove; simp [kl_t, this]

noncomputable def wayOf (v : Nat → Int) (σ : List Nat) (p : Nat) : List Int := isort (intsOf (path v σ p))
noncomputable def signOf (v : Nat → Int) (σ : List Nat) (p : Nat) : List Int := (path v σ p).map fun (a : Nat) => cmp3 (p : Int) a

structure WOk (v : Nat → Int) (σ : List Nat) (n : Nat) (D : List Nat) (st : WSt) : Prop where
  dict : DictIs v n D st.es
  nil : D = [] → st.es = []
  lw : st.ways.length = n
  ls : st.signs.length = n
  w : ∀ p ∈ D, st.ways[p]? = some (wayOf v σ p)
  s : ∀ p ∈ D, st.signs[p]? = some (signOf v σ p)

theorem WOk.put {σ : List Nat} {n p : Nat} {D : List Nat} {st : WSt} {heap : List Nat} {es : Ent} (h : WOk v σ n D st) (hp : p < n) (hd : DictIs v n (D ++ [p]) es) :
    WOk v σ n (D ++ [p]) ⟨heap, es, st.ways.set p (wayOf v σ p), st.signs.set p (signOf v σ p)⟩ := by
  refine ⟨hd, fun e => by simp at e, by rw [List.length_set]; exact h.lw, by rw [List.length_set]; exact h.ls, fun q hq => ?_, fun q hq => ?_⟩
  · by_cases c : p = q
    · subst c; exact List.getElem?_set_self (by rw [h.lw]; exact hp)
    · rw [List.getElem?_set_ne c]
      rcases List.mem_append.mp hq with w | w
      · exact h.w q w
      · simp at w; exact absurd w.symm c
  · by_cases c : p = q
    · subst c; exact List.getElem?_set_self (by rw [h.ls]; exact hp)
    · rw [List.getElem?_set_ne c]
      rcases List.mem_append.mp hq with w | w
      · exact h.s q w
      · simp at w; exact absurd w.symm c

theorem wGo_ok {bf : Nat → Nat → Bool} {pl : Nat → Nat} {n top : Nat} {σ : List Nat} (A : Asc v n σ) (hn : n ≤ 7) (ht : σ.head? = some top) : ∀ (i : Nat) (D : List Nat) (st : WSt), σ = D ++ (pops bf i st.heap).map pl → WOk v σ n D st →
    ∃ st', wGo bf pl isort (top : Int) i st = some st' ∧ WOk v σ n σ st'
  | 0, D, st, hσ, h => by
    have : σ = D := by simpa [pops] using hσ
    exact ⟨st, rfl, this ▸ h⟩
  | i + 1, D, st, hσ, h => by
    rw [pops, List.map_cons] at hσ
    rw [wGo, wStep]
    generalize hp : pl (hpop bf st.heap).1 = p at hσ
    have dn := A.dn hσ
    have hpe := A.path_eq hσ
    have hself : cmp3 (p : Int) p = 0 := by rw [cmp3_val]; simp
    have key : ∃ es', wayGo p 20 [(top : Int)] [] st.es = some (intsOf (path v σ p), (D.filter fun a => anc v a p).map (fun (a : Nat) => cmp3 (p : Int) a), es') ∧ DictIs v n (D ++ [p]) es' := by
      cases D with
      | nil =>
        have : top = p := by rw [hσ] at ht; simpa using ht.symm
        subst this
        rw [h.nil rfl]
        refine ⟨[], ?_, DictIs.start dn⟩
        rw [hpe, wayGo]
        simp [intsOf]
      | cons t D =>
        have : top = t := by rw [hσ] at ht; simpa using ht.symm
        subst this
        obtain ⟨ha, hf⟩ := A.top_eq hσ
        have hlen : ((top :: D).filter (pAbove v p top)).length ≤ 7 := by
          refine Nat.le_trans (List.length_filter_le ..) ?_
          have := A.len
          rw [hσ, List.length_append] at this; lia
        obtain ⟨ql, q1, q2, q3, q4⟩ := wayGo_ok dn h.dict 20 [] [] top (.head _) ha (by lia)
        rw [List.nil_append] at q4
        refine ⟨_, ?_, DictIs.step dn h.dict q1 q2 q3⟩
        rw [q4, hpe, hf, intsOf_append]
        rfl
    obtain ⟨es', hw, hd⟩ := key
    have e1 : (D.filter fun a => anc v a p).map (fun (a : Nat) => cmp3 (p : Int) a) ++ [cmp3 (p : Int) p] = signOf v σ p := by
      unfold signOf; rw [hpe, List.map_append]; rfl
    rw [hw]
    dsimp only
    rw [e1]
    exact wGo_ok A hn ht i (D ++ [p]) _ (by rw [hσ]; simp) (h.put dn.hp hd)

structure Pls (val : Nat → Int × Int) (pl : Nat → Nat) (ts : List Nat) (v : Nat → Int) : Prop where
  pl : ∀ p, p < ts.length → pl (ts.getD p 0) = p
  val : ∀ p, p < ts.length → val (ts.getD p 0) = (v p, (p : Int))

variable {val : Nat → Int × Int} {pl : Nat → Nat} {ts : List Nat}
theorem Pls.at (P : Pls val pl ts v) {t : Nat} (h : t ∈ ts) : pl t < ts.length ∧ val t = (v (pl t), ((pl t : Nat) : Int)) := by
  obtain ⟨i, hi, rfl⟩ := List.getElem_of_mem h
  have h1 := P.pl i hi
  have h2 := P.val i hi
  rw [getD_at hi] at h1 h2
  rw [h1]; exact ⟨hi, h2⟩
theorem Pls.map (P : Pls val pl ts v) : ts.map pl = List.range ts.length := by
  refine List.ext_getElem (by simp) fun i h1 h2 => ?_
  rw [List.length_map] at h1
  have := P.pl i h1
  rw [getD_at h1] at this
  simp [this]
theorem Pls.lt (P : Pls val pl ts v) {a b : Nat} (ha : a ∈ ts) (hb : b ∈ ts) : ltv val a b = kl v (pl a) (pl b) := by
  unfold ltv kl
  rw [(P.at ha).2, (P.at hb).2]
  refine decide_eq_decide.mpr ?_
  dsimp only; lia

theorem ord_min : Ord (ltv val) := by
  refine ⟨fun a b h => ?_, fun a b c h h' => ?_⟩
  · unfold ltv at *; rw [decide_eq_true_iff] at h; rw [decide_eq_false_iff_not]; lia
  · unfold ltv at *; rw [decide_eq_false_iff_not] at *; omega
theorem ord_max : Ord (fun a b => ltv val b a) := ⟨fun a b h => ord_min.1 b a h, fun a b c h h' => ord_min.2 c b a h' h⟩

theorem Pls.pops (P : Pls val pl ts v) {bf : Nat → Nat → Bool} (o : Ord bf) {h : List Nat} (hp : h.Perm ts) (hh : HF bf 0 h) : ((Mine.pops bf ts.length h).map pl).Perm (List.range ts.length) ∧ ((Mine.pops bf ts.length h).map pl).Nodup ∧
    (Mine.pops bf ts.length h).Pairwise (fun a b => bf b a = false) ∧ ∀ t ∈ Mine.pops bf ts.length h, t ∈ ts := by
  obtain ⟨h1, h2⟩ := pops_ok o ts.length h hp.length_eq hh
  have h3 := h1.trans hp
  have h4 : ((Mine.pops bf ts.length h).map pl).Perm (List.range ts.length) := by rw [← P.map]; exact h3.map pl
  exact ⟨h4, h4.symm.nodup List.nodup_range, h2, fun t ht => h3.subset ht⟩

theorem pw_map {xs : List Nat} {R S : Nat → Nat → Prop} (h : xs.Pairwise R) (hn : (xs.map pl).Nodup) (hm : ∀ t ∈ xs, t ∈ ts) (hi : ∀ a b, a ∈ ts → b ∈ ts → R a b → pl a ≠ pl b → S (pl a) (pl b)) : (xs.map pl).Pairwise S := by
  induction h with
  | nil => exact .nil
  | @cons a l h _ ih =>
    rw [List.map_cons, List.nodup_cons] at hn
    rw [List.map_cons]
    refine .cons (fun q hq => ?_) (ih hn.2 fun t ht => hm t (.tail _ ht))
    obtain ⟨b, hb, rfl⟩ := List.mem_map.mp hq
    exact hi a b (hm a (.head _)) (hm b (.tail _ hb)) (h b hb) fun e => hn.1 (e ▸ hq)

theorem Pls.asc (P : Pls val pl ts v) {h : List Nat} (hp : h.Perm ts) (hh : HF (ltv val) 0 h) : Asc v ts.length ((Mine.pops (ltv val) ts.length h).map pl) := by
  obtain ⟨h1, h2, h3, h4⟩ := P.pops ord_min hp hh
  refine ⟨h1, pw_map h3 h2 h4 fun a b ha hb hr hne => ?_⟩
  rw [P.lt hb ha] at hr
  exact K.tri (by simpa [kl_f] using hr) (Ne.symm hne)
theorem Pls.desc (P : Pls val pl ts v) {h : List Nat} (hp : h.Perm ts) (hh : HF (fun a b => ltv val b a) 0 h) : Asc v ts.length ((Mine.pops (fun a b => ltv val b a) ts.length h).map pl).reverse := by
  obtain ⟨h1, h2, h3, h4⟩ := P.pops ord_max hp hh
  refine ⟨(List.reverse_perm _).trans h1, List.pairwise_reverse.mpr ?_⟩
  refine pw_map h3 h2 h4 fun a b ha hb hr hne => ?_
  rw [P.lt ha hb] at hr
  exact K.tri (by simpa [kl_f] using hr) hne

theorem hpush_ok {bf : Nat → Nat → Bool} (o : Ord bf) {xs : List Nat} {t : Nat} (h : HF bf 0 xs) : HF bf 0 (hpush bf xs t) ∧ (hpush bf xs t).Perm (xs ++ [t]) := by
  unfold hpush sd
  have hg : ∀ i, i < xs.length → (xs ++ [t]).getD i 0 = xs.getD i 0 := fun i hi => by
    rw [List.getD_eq_getElem?_getD, List.getD_eq_getElem?_getD, List.getElem?_append_left hi]
  obtain ⟨h1, h2⟩ := sdGo_ok (new := (xs ++ [t]).getD xs.length 0) o xs.length xs.length (xs ++ [t]) ⟨Desc.zero _, by simp, fun i h0 hi hs h1 h2 => by
      simp at hi
      rw [hg _ (by lia), hg _ (by lia)]
      exact h i h0 (by lia) (Nat.zero_le _), fun i h0 hi h1 h2 => by simp at hi; lia⟩ (fun i h0 hi h1 => by simp at hi; lia) (Nat.le_refl _)
  refine ⟨h1, h2.trans (.of_eq (set_getD_self (by simp)))⟩
theorem pushes_ok {bf : Nat → Nat → Bool} (o : Ord bf) : ∀ (ts xs : List Nat), HF bf 0 xs → HF bf 0 (ts.foldl (hpush bf) xs) ∧ (ts.foldl (hpush bf) xs).Perm (xs ++ ts)
  | [], xs, h => ⟨h, by simp⟩
  | t :: ts, xs, h => by
    obtain ⟨h1, h2⟩ := hpush_ok o (t := t) h
    obtain ⟨h3, h4⟩ := pushes_ok o ts (hpush bf xs t) h1
    exact ⟨h3, h4.trans ((h2.append_right ts).trans (by simp))⟩

theorem waysP_ok (P : Pls val pl ts v) (h0 : 0 < ts.length) (hn : ts.length ≤ 7) : ∃ σ st', Asc v ts.length σ ∧ waysP (ltv val) pl isort ts = some st' ∧
    st'.ways = (List.range ts.length).map (wayOf v σ) ∧ st'.signs = (List.range ts.length).map (signOf v σ) := by
  obtain ⟨h1, h2⟩ := pushes_ok (ord_min (val := val)) ts [] (fun i _ hi => by simp at hi)
  rw [List.nil_append] at h2
  have A := P.asc h2 h1
  have hlen : 0 < (ts.foldl (hpush (ltv val)) []).length := by rw [h2.length_eq]; exact h0
  have htop := (hpop_ok ord_min hlen h1).2.2.2
  obtain ⟨n, hnn⟩ : ∃ n, ts.length = n + 1 := ⟨ts.length - 1, by lia⟩
  have ht : ((Mine.pops (ltv val) ts.length (ts.foldl (hpush (ltv val)) [])).map pl).head? = some (pl ((ts.foldl (hpush (ltv val)) []).getD 0 0)) := by
    rw [hnn, Mine.pops, List.map_cons, List.head?_cons, htop]
  obtain ⟨st', q1, q2⟩ := wGo_ok (bf := ltv val) (pl := pl) A hn ht ts.length [] ⟨ts.foldl (hpush (ltv val)) [], [], List.replicate ts.length [], List.replicate ts.length []⟩ rfl
    ⟨fun s _ q _ => by simp [dfind], fun _ => rfl, by simp, by simp, by simp, by simp⟩
  refine ⟨_, st', A, q1, ?_, ?_⟩
  · refine List.ext_getElem? fun i => ?_
    by_cases hi : i < ts.length
    · rw [q2.w i (A.mem.mpr hi)]; simp [hi]
    · rw [List.getElem?_eq_none (by rw [q2.lw]; lia), List.getElem?_eq_none (by simp; lia)]
  · refine List.ext_getElem? fun i => ?_
    by_cases hi : i < ts.length
    · rw [q2.s i (A.mem.mpr hi)]; simp [hi]
    · rw [List.getElem?_eq_none (by rw [q2.ls]; lia), List.getElem?_eq_none (by simp; lia)]

theorem Asc.uniq {n : Nat} {σ τ : List Nat} (A : Asc v n σ) (B : Asc v n τ) : σ = τ :=
  List.Perm.eq_of_pairwise (le := K v) (fun a b _ _ h h' => absurd h' h.asymm) A.pw B.pw (A.perm.trans B.perm.symm)
end Mine
end
section
set_option maxRecDepth 100000
namespace Mine
variable {v : Nat → Int} {val : Nat → Int × Int} {pl : Nat → Nat} {ts : List Nat}

/- what _law_above finds -/
noncomputable def recs (v : Nat → Int) : Nat → List Nat → List Nat
  | _, [] => []
  | m, k :: ks => if kl v k m = true then k :: recs v k ks else recs v m ks

theorem Pls.ltAt (P : Pls val pl ts v) {p q : Nat} (hp : p < ts.length) (hq : q < ts.length) : ltv val (ts.getD p 0) (ts.getD q 0) = kl v p q := by
  rw [P.lt (getD_mem hp) (getD_mem hq), P.pl p hp, P.pl q hq]
theorem scan (P : Pls val pl ts v) : ∀ (ks : List Nat) (m : Nat) (acc : List Nat), m < ts.length → (∀ k ∈ ks, k < ts.length) → (ks.foldl (abStep (ltv val) ts) (ts.getD m 0, acc)).2 = acc ++ recs v m ks
  | [], m, acc, _, _ => by simp [recs]
  | k :: ks, m, acc, hm, hk => by
    rw [List.foldl_cons, abStep, recs]
    dsimp only
    rw [P.ltAt (hk k (.head _)) hm]
    split
    · rw [scan P ks k _ (hk k (.head _)) fun j hj => hk j (.tail _ hj)]; simp
    · rw [scan P ks m _ hm fun j hj => hk j (.tail _ hj)]

theorem recs_left {p : Nat} : ∀ (k m : Nat), k ≤ m → m ≤ p → (∀ r, k ≤ r → r ≤ p → ¬ K v r m) → recs v m (List.range k).reverse = (List.range k).reverse.filter fun a => anc v a p
  | 0, m, _, _, _ => rfl
  | k + 1, m, h1, h2, h3 => by
    have e : (List.range (k + 1)).reverse = k :: (List.range k).reverse := by rw [List.range_succ, List.reverse_append]; rfl
    rw [e, recs]
    by_cases c : K v k m
    · have ha : anc v k p = true := anc_iff.mpr fun r hr hk => by
        have : k ≤ r ∧ r ≤ p := by unfold Btw at hr; lia
        by_cases q : r = k
        · subst q; exact K.irr hk
        · exact h3 r (by lia) this.2 (hk.trans c)
      rw [if_pos (by simpa [kl_t] using c), List.filter_cons_of_pos (p := fun a => anc v a p) ha, recs_left (p := p) k k (Nat.le_refl _) (by lia) fun r hr hr' hk => anc_iff.mp ha r (by unfold Btw; lia) hk]
    · have c' : K v m k := K.tri c (by lia)
      have ha : ¬ (anc v k p = true) := fun ha => anc_iff.mp ha m (by unfold Btw; lia) c'
      rw [if_neg (by simpa [kl_t] using c), List.filter_cons_of_neg (p := fun a => anc v a p) ha, recs_left k m (by lia) h2 fun r hr hr' hk => ?_]
      by_cases q : r = k
      · subst q; exact c hk
      · exact h3 r (by lia) hr' hk
theorem recs_right {p : Nat} : ∀ (j q m : Nat), p ≤ m → m < q → (∀ r, p ≤ r → r < q → ¬ K v r m) → recs v m ((List.range j).map (q + ·)) = ((List.range j).map (q + ·)).filter fun a => anc v a p
  | 0, q, m, _, _, _ => rfl
  | j + 1, q, m, h1, h2, h3 => by
    have e : (List.range (j + 1)).map (q + ·) = q :: (List.range j).map (q + 1 + ·) := by
      rw [List.range_succ_eq_map, List.map_cons, List.map_map]
      congr 1
      refine List.map_congr_left fun a _ => ?_
      show q + (a + 1) = q + 1 + a; lia
    rw [e, recs]
    by_cases c : K v q m
    · have ha : anc v q p = true := anc_iff.mpr fun r hr hk => by
        have : p ≤ r ∧ r ≤ q := by unfold Btw at hr; lia
        by_cases q' : r = q
        · subst q'; exact K.irr hk
        · exact h3 r (by lia) (by lia) (hk.trans c)
      rw [if_pos (by simpa [kl_t] using c), List.filter_cons_of_pos (p := fun a => anc v a p) ha, recs_right (p := p) j (q + 1) q (by lia) (by lia) fun r hr hr' hk => anc_iff.mp ha r (by unfold Btw; lia) hk]
    · have c' : K v m q := K.tri c (by lia)
      have ha : ¬ (anc v q p = true) := fun ha => anc_iff.mp ha m (by unfold Btw; lia) c'
      rw [if_neg (by simpa [kl_t] using c), List.filter_cons_of_neg (p := fun a => anc v a p) ha, recs_right j (q + 1) m h1 (by lia) fun r hr hr' hk => ?_]
      by_cases q' : r = q
      · subst q'; exact c hk
      · exact h3 r hr (by lia) hk

theorem abover_perm (P : Pls val pl ts v) {σ : List Nat} (A : Asc v ts.length σ) {p : Nat} (hp : p < ts.length) : (aboveP (ltv val) ts p).Perm (path v σ p) := by
  have hirr : ∀ r, p ≤ r → r ≤ p → ¬ K v r p := fun r h1 h2 hk => by
    have : r = p := by lia
    subst this; exact K.irr hk
  have hirr2 : ∀ r, p ≤ r → r < p + 1 → ¬ K v r p := fun r h1 h2 => hirr r h1 (by lia)
  have e1 : aboveP (ltv val) ts p = (p :: ((List.range p).reverse ++ (List.range (ts.length - p - 1)).map (p + 1 + ·))).filter fun a => anc v a p := by
    unfold aboveP
    rw [abAcc, abAcc, abAcc, scan P _ p _ hp (fun k hk => by simp [abRow] at hk; lia), scan P _ p _ hp (fun k hk => by simp [abRow] at hk; lia)]
    rw [List.filter_cons_of_pos (p := fun a => anc v a p) anc_self, List.filter_append, abRow, abRow, recs_left (p := p) p p (Nat.le_refl _) (Nat.le_refl _) hirr, recs_right (p := p) _ (p + 1) p (Nat.le_refl _) (by lia) hirr2]
    · simp
    · intro h; cases h
  rw [e1]
  unfold path
  refine List.Perm.filter _ (.trans ?_ A.perm.symm)
  have e2 : List.range ts.length = List.range p ++ p :: (List.range (ts.length - p - 1)).map (p + 1 + ·) := by
    have : ts.length = p + (ts.length - p - 1 + 1) := by lia
    rw [this, List.range_add, List.range_succ_eq_map, List.map_cons, List.map_map]
    congr 1
    rw [Nat.add_zero]
    congr 1
    have : p + (ts.length - p - 1 + 1) - p - 1 = ts.length - p - 1 := by lia
    rw [this]
    refine List.map_congr_left fun a _ => ?_
    show p + (a + 1) = p + 1 + a; lia
  rw [e2]
  exact ((List.reverse_perm _).append_right _).cons p |>.trans List.perm_middle.symm

theorem above_is (P : Pls val pl ts v) {σ : List Nat} (A : Asc v ts.length σ) {p : Nat} (hp : p < ts.length) {ns : List Int} (h1 : ns.Perm (intsOf (aboveP (ltv val) ts p))) (h2 : ns.Pairwise (· ≤ ·)) : ns = wayOf v σ p :=
  sorted_is (h1.trans ((abover_perm P A hp).map _)) h2
end Mine
end
section
open PySem
set_option maxRecDepth 100000
namespace Mine
variable {v : Nat → Int} {val : Nat → Int × Int} {pl : Nat → Nat} {ts : List Nat}

inductive Tree where
  | leaf
  | node (l : Tree) (p : Nat) (r : Tree)
inductive Ct (v : Nat → Int) : Nat → Nat → Tree → Prop where
  | leaf {a : Nat} : Ct v a a .leaf
  | node {a b p : Nat} {l r : Tree} : a ≤ p → p < b → Ct v a p l → Ct v (p + 1) b r → (∀ q, a ≤ q → q < b → ¬ K v q p) → Ct v a b (.node l p r)
noncomputable def txt (ps : List Str) : Tree → Str
  | .leaf => sE
  | .node l p r => (((Str.ofString "(" ++ txt ps l) ++ ps.getD p sE) ++ txt ps r) ++ Str.ofString ")"
theorem txt_node {ps : List Str} {l r : Tree} {p : Nat} : (txt ps (.node l p r) != sE) = true := by
  have h : txt ps (.node l p r) ≠ sE := fun e => by
    have := congrArg Str.length e
    rw [txt, str_app_len, str_app_len, str_app_len, str_app_len] at this
    have e1 : (Str.ofString "(").length = 1 := by decide
    have e2 : sE.length = 0 := by decide
    lia
  simpa using h
theorem txt_ne {ps : List Str} {a b : Nat} {t : Tree} (h : Ct v a b t) (hab : a < b) : (txt ps t != sE) = true := by
  cases h with
  | leaf => lia
  | node => exact txt_node

theorem gset {α : Type} {xs : List α} {i j : Nat} {x d : α} (hi : i < xs.length) : (xs.set i x).getD j d = if i = j then x else xs.getD j d := by
  rw [List.getD_eq_getElem?_getD, List.getD_eq_getElem?_getD, List.getElem?_set]
  by_cases h : i = j
  · subst h; rw [if_pos rfl, if_pos rfl, if_pos hi]; rfl
  · rw [if_neg h, if_neg h]
theorem gset2 {α : Type} {xs : List α} {i i' j : Nat} {x y d : α} (hi : i < xs.length) (hi' : i' < xs.length) : ((xs.set i x).set i' y).getD j d = if i' = j then y else if i = j then x else xs.getD j d := by
  rw [gset (by rw [List.length_set]; exact hi'), gset hi]

structure Run (n : Nat) (U : Nat → Prop) (a b : Nat) : Prop where
  lt : a < b
  le : b ≤ n
  all : ∀ q, a ≤ q → q < b → U q
  lo : a = 0 ∨ ¬ U (a - 1)
  hi : b = n ∨ ¬ U b

structure NOk (v : Nat → Int) (ps : List Str) (n : Nat) (U : Nat → Prop) (st : NSt) : Prop where
  lw : st.words.length = n + 2
  lo : st.other.length = n + 2
  run : ∀ a b, Run n U a b → ∃ t, Ct v a b t ∧ st.words.getD (a + 1) sE = txt ps t ∧ st.words.getD b sE = txt ps t ∧ st.other.getD (a + 1) 0 = b ∧ st.other.getD b 0 = a + 1
  out : ∀ p, p < n → ¬ U p → st.words.getD (p + 1) sE = sE
  z : st.words.getD 0 sE = sE
  e : st.words.getD (n + 1) sE = sE

theorem run_left {n : Nat} {U : Nat → Prop} {p : Nat} (hp : p ≤ n) (hU : p = n ∨ ¬ U p) : ∀ k, k ≤ p → (∀ q, k ≤ q → q < p → U q) → k < p → ∃ a, Run n U a p
  | 0, _, h, h' => ⟨0, h', hp, h, .inl rfl, hU⟩
  | k + 1, hk, h, h' => by
    by_cases c : U k
    · exact run_left hp hU k (by lia) (fun q h1 h2 => by
        by_cases e : q = k
        · subst e; exact c
        · exact h q (by lia) h2) (by lia)
    · exact ⟨k + 1, h', hp, h, .inr (by simpa using c), hU⟩
theorem run_right {n : Nat} {U : Nat → Prop} {s : Nat} (hs : s = 0 ∨ ¬ U (s - 1)) : ∀ j k, k + j = n → (∀ q, s ≤ q → q < k → U q) → s < k → ∃ b, Run n U s b
  | 0, k, hk, h, h' => ⟨k, h', by lia, h, hs, .inl (by lia)⟩
  | j + 1, k, hk, h, h' => by
    by_cases c : U k
    · exact run_right hs j (k + 1) (by lia) (fun q h1 h2 => by
        by_cases e : q = k
        · subst e; exact c
        · exact h q h1 (by lia)) (by lia)
    · exact ⟨k, h', by lia, h, hs, .inr c⟩

variable {ps : List Str} {n : Nat} {U : Nat → Prop} {st : NSt}
theorem NOk.left (h : NOk v ps n U st) {p : Nat} (hp : p < n) (hU : ¬ U p) : ∃ a t, a ≤ p ∧ Ct v a p t ∧ st.words.getD p sE = txt ps t ∧ nFst st p = a + 1 ∧ (∀ q, a ≤ q → q < p → U q) ∧ (a = 0 ∨ ¬ U (a - 1)) := by
  unfold nFst
  by_cases c : 0 < p ∧ U (p - 1)
  · obtain ⟨a, r⟩ := run_left (n := n) (U := U) (p := p) (by lia) (.inr hU) (p - 1) (by lia) (fun q h1 h2 => by
      have : q = p - 1 := by lia
      rw [this]; exact c.2) (by lia)
    obtain ⟨t, h1, h2, h3, h4, h5⟩ := h.run a p r
    refine ⟨a, t, by have := r.lt; lia, h1, h3, ?_, r.all, r.lo⟩
    rw [h3, if_pos (txt_ne h1 r.lt), h5]
  · have e : st.words.getD p sE = sE := by
      cases p with
      | zero => exact h.z
      | succ p => exact h.out p (by lia) fun hu => c ⟨by lia, hu⟩
    refine ⟨p, .leaf, Nat.le_refl _, .leaf, e, ?_, by intro q h1 h2; lia, ?_⟩
    · rw [e]; rfl
    · by_cases q : p = 0
      · exact .inl q
      · exact .inr fun hu => c ⟨by lia, hu⟩
theorem NOk.right (h : NOk v ps n U st) {p : Nat} (hp : p < n) (hU : ¬ U p) : ∃ b t, p + 1 ≤ b ∧ b ≤ n ∧ Ct v (p + 1) b t ∧ st.words.getD (p + 2) sE = txt ps t ∧ nLst st p = b ∧ (∀ q, p < q → q < b → U q) ∧ (b = n ∨ ¬ U b) := by
  unfold nLst
  by_cases c : p + 1 < n ∧ U (p + 1)
  · obtain ⟨b, r⟩ := run_right (n := n) (U := U) (s := p + 1) (.inr (by simpa using hU)) (n - (p + 2)) (p + 2) (by lia) (fun q h1 h2 => by
      have : q = p + 1 := by lia
      rw [this]; exact c.2) (by lia)
    obtain ⟨t, h1, h2, h3, h4, h5⟩ := h.run (p + 1) b r
    refine ⟨b, t, by have := r.lt; lia, r.le, h1, h2, ?_, fun q h1 h2 => r.all q (by lia) h2, r.hi⟩
    rw [h2, if_pos (txt_ne h1 r.lt), h4]
  · have e : st.words.getD (p + 2) sE = sE := by
      by_cases q : p + 1 = n
      · rw [show p + 2 = n + 1 by lia]; exact h.e
      · exact h.out (p + 1) (by lia) fun hu => c ⟨by lia, hu⟩
    refine ⟨p + 1, .leaf, Nat.le_refl _, by lia, .leaf, e, ?_, by intro q h1 h2; lia, ?_⟩
    · rw [e]; rfl
    · by_cases q : p + 1 = n
      · exact .inl q
      · exact .inr fun hu => c ⟨by lia, hu⟩

theorem NOk.step (h : NOk v ps n U st) {p : Nat} {heap : List Nat} (hp : p < n) (hU : ¬ U p) (hK : ∀ q, U q → K v p q) :
    NOk v ps n (fun q => U q ∨ q = p) ⟨heap, (st.words.set (nFst st p) (nWord ps st.words p)).set (nLst st p) (nWord ps st.words p), (st.other.set (nFst st p) (nLst st p)).set (nLst st p) (nFst st p)⟩ := by
  obtain ⟨a, tl, ha, cl, wl, fl, al, lol⟩ := h.left hp hU
  obtain ⟨b, tr, hb, hbn, cr, wr, lr, ar, hir⟩ := h.right hp hU
  have hw : nWord ps st.words p = txt ps (.node tl p tr) := by
    unfold nWord; rw [txt, wl, wr]
  rw [fl, lr, hw]
  have lw := h.lw
  have lo := h.lo
  have inU : ∀ q, a ≤ q → q < b → U q ∨ q = p := fun q h1 h2 => by
    by_cases c : q < p
    · exact .inl (al q h1 c)
    · by_cases c' : q = p
      · exact .inr c'
      · exact .inl (ar q (by lia) h2)
  have hlow : a = 0 ∨ ¬ (U (a - 1) ∨ a - 1 = p) := lol.elim .inl fun w => by
    by_cases q : a = 0
    · exact .inl q
    · exact .inr fun x => x.elim w (by lia)
  have hhigh : b = n ∨ ¬ (U b ∨ b = p) := hir.elim .inl fun w => .inr fun x => x.elim w (by lia)
  refine ⟨by simp [lw], by simp [lo], fun a' b' r => ?_, fun q hq hq' => ?_, ?_, ?_⟩
  · dsimp only
    rw [gset2 (by lia) (by lia), gset2 (by lia) (by lia), gset2 (by lia) (by lia), gset2 (by lia) (by lia)]
    by_cases c : a' ≤ p ∧ p < b'
    · have ea : a' = a := by
        rcases Nat.lt_trichotomy a' a with q | q | q
        · exfalso
          rcases hlow with w | w
          · lia
          · exact w (r.all (a - 1) (by lia) (by lia))
        · exact q
        · exfalso
          rcases r.lo with w | w
          · lia
          · exact w (inU (a' - 1) (by lia) (by lia))
      have eb : b' = b := by
        rcases Nat.lt_trichotomy b' b with q | q | q
        · exfalso
          rcases r.hi with w | w
          · lia
          · exact w (inU b' (by lia) q)
        · exact q
        · exfalso
          rcases hhigh with w | w
          · have := r.le; lia
          · exact w (r.all b (by lia) q)
      subst ea eb
      refine ⟨.node tl p tr, .node ha (by lia) cl cr fun q h1 h2 hk => ?_, ?_, ?_, ?_, ?_⟩
      · rcases inU q h1 h2 with w | w
        · exact (hK q w).asymm hk
        · subst w; exact K.irr hk
      · by_cases q : b' = a' + 1
        · rw [if_pos q]
        · rw [if_neg q, if_pos rfl]
      · rw [if_pos rfl]
      · by_cases q : b' = a' + 1
        · rw [if_pos q, q]
        · rw [if_neg q, if_pos rfl]
      · rw [if_pos rfl]
    · have hlt := r.lt
      have o1 : ¬ (a ≤ a' ∧ a' < b) := fun ⟨h1, h2⟩ => by
        by_cases q : a' ≤ p
        · have hb' : b' ≤ p := by lia
          rcases r.hi with w | w
          · lia
          · exact w (inU b' (by lia) (by lia))
        · rcases r.lo with w | w
          · lia
          · exact w (inU (a' - 1) (by lia) (by lia))
      have o2 : ¬ (a ≤ b' - 1 ∧ b' - 1 < b) := fun ⟨h1, h2⟩ => by
        by_cases q : p < b'
        · have ha' : p < a' := by lia
          lia
        · rcases r.hi with w | w
          · lia
          · exact w (inU b' (by lia) (by lia))
      have old : Run n U a' b' := ⟨r.lt, r.le, fun q h1 h2 => (r.all q h1 h2).elim id fun e => absurd ⟨by lia, by lia⟩ c, r.lo.elim .inl fun w => .inr fun x => w (.inl x), r.hi.elim .inl fun w => .inr fun x => w (.inl x)⟩
      obtain ⟨t, h1, h2, h3, h4, h5⟩ := h.run a' b' old
      rw [if_neg (by lia), if_neg (by lia), if_neg (by lia), if_neg (by lia), if_neg (by lia), if_neg (by lia), if_neg (by lia), if_neg (by lia)]
      exact ⟨t, h1, h2, h3, h4, h5⟩
  · dsimp only
    have o : ¬ (a ≤ q ∧ q < b) := fun w => hq' (inU q w.1 w.2)
    rw [gset2 (by lia) (by lia), if_neg (by lia), if_neg (by lia)]
    exact h.out q hq fun w => hq' (.inl w)
  · dsimp only
    rw [gset2 (by lia) (by lia), if_neg (by lia), if_neg (by lia)]; exact h.z
  · dsimp only
    rw [gset2 (by lia) (by lia), if_neg (by lia), if_neg (by lia)]; exact h.e

theorem nGo_ok {bf : Nat → Nat → Bool} {σ : List Nat} (A : Asc v n σ) : ∀ (i : Nat) (D : List Nat) (st : NSt), σ.reverse = D ++ (pops bf i st.heap).map pl → NOk v ps n (· ∈ D) st → NOk v ps n (· ∈ σ.reverse) (nGo bf pl ps i st)
  | 0, D, st, hσ, h => by
    have : σ.reverse = D := by simpa [pops] using hσ
    rw [this]; exact h
  | i + 1, D, st, hσ, h => by
    rw [pops, List.map_cons] at hσ
    rw [nGo, nStep]
    generalize hp : pl (hpop bf st.heap).1 = p at hσ
    have hpw : σ.reverse.Pairwise (fun a b => K v b a) := List.pairwise_reverse.mpr A.pw
    rw [hσ, List.pairwise_append] at hpw
    have hKp : ∀ q ∈ D, K v p q := fun q hq => hpw.2.2 q hq p (.head _)
    have s := h.step (heap := (hpop bf st.heap).2) (p := p) (A.mem.mp (by rw [← List.mem_reverse, hσ]; simp)) (fun hm => K.irr (hKp p hm)) hKp
    refine nGo_ok A i (D ++ [p]) _ (by rw [hσ]; simp) ?_
    have e : (fun q => q ∈ D ++ [p]) = fun q => q ∈ D ∨ q = p := by funext q; simp
    rw [e]; exact s

theorem nestP_ok (P : Pls val pl ts v) (h0 : 0 < ts.length) {σ : List Nat} (A : Asc v ts.length σ) : ∃ t, Ct v 0 ts.length t ∧ nestP (fun a b => ltv val b a) pl ps ts = txt ps t := by
  obtain ⟨h1, h2⟩ := hfy_ok (ord_max (val := val)) ts
  have B := P.desc h2 h1
  have e := A.uniq B
  have e' : σ.reverse = [] ++ (pops (fun a b => ltv val b a) ts.length (hfy (fun a b => ltv val b a) ts)).map pl := by rw [e]; simp
  have rep : ∀ i, (List.replicate (ts.length + 2) sE).getD i sE = sE := fun i => by
    rw [List.getD_eq_getElem?_getD, List.getElem?_replicate]
    by_cases c : i < ts.length + 2
    · rw [if_pos c]; rfl
    · rw [if_neg c]; rfl
  have N := nGo_ok (ps := ps) A ts.length [] ⟨hfy (fun a b => ltv val b a) ts, List.replicate (ts.length + 2) sE, List.range (ts.length + 2)⟩ e'
    { lw := by simp
      lo := by simp
      run := fun a b r => absurd (r.all a (Nat.le_refl _) r.lt) (by simp)
      out := fun p _ _ => rep _
      z := rep _
      e := rep _ }
  obtain ⟨t, q1, q2, _⟩ := N.run 0 ts.length ⟨h0, Nat.le_refl _, fun q _ hq => by rw [List.mem_reverse, A.mem]; exact hq, .inl rfl, .inl rfl⟩
  exact ⟨t, q1, q2⟩
end Mine
end
section
open PySem
set_option maxRecDepth 100000
namespace Mine
variable {v : Nat → Int}

/- the reading of a tree's units -/
noncomputable abbrev sO : Str := Str.ofString "("
noncomputable abbrev sC : Str := Str.ofString ")"
noncomputable def toks (nm : Nat → Str) : Tree → List Str
  | .leaf => []
  | .node l p r => sO :: (toks nm l ++ nm p :: (toks nm r ++ [sC]))
noncomputable def sgn : Tree → List (List Int)
  | .leaf => []
  | .node l _ r => (sgn l).map (-1 :: ·) ++ [0] :: (sgn r).map (1 :: ·)
noncomputable def dep : Tree → List Nat
  | .leaf => []
  | .node l _ r => (dep l).map (· + 1) ++ 1 :: (dep r).map (· + 1)
noncomputable def ino : Tree → List Nat
  | .leaf => []
  | .node l p r => ino l ++ p :: ino r
noncomputable def gp (x y : Nat) : List Int := [((x - y : Nat) : Int), ((y - x : Nat) : Int)]
noncomputable def conG : List Nat → List (List Int)
  | x :: y :: r => gp x y :: conG (y :: r)
  | _ => []

theorem dep_sgn : ∀ t, dep t = (sgn t).map List.length
  | .leaf => rfl
  | .node l p r => by
    rw [dep, sgn, dep_sgn l, dep_sgn r]
    simp [Function.comp_def]
theorem conG_map : ∀ xs : List Nat, conG (xs.map (· + 1)) = conG xs
  | [] => rfl
  | [x] => rfl
  | x :: y :: r => by
    rw [List.map_cons, List.map_cons, conG, conG, ← List.map_cons (f := (· + 1)), conG_map (y :: r)]
    congr 1
    unfold gp
    have h1 : x + 1 - (y + 1) = x - y := by lia
    have h2 : y + 1 - (x + 1) = y - x := by lia
    rw [h1, h2]
theorem conG_app : ∀ (xs : List Nat) (x y : Nat) (ys : List Nat), conG ((xs ++ [x]) ++ y :: ys) = conG (xs ++ [x]) ++ gp x y :: conG (y :: ys)
  | [], x, y, ys => rfl
  | [a], x, y, ys => rfl
  | a :: b :: xs, x, y, ys => by
    have := conG_app (b :: xs) x y ys
    simp only [List.cons_append] at this ⊢
    rw [conG, conG, this]; rfl

theorem sgn_nil {t : Tree} : dep t = [] ↔ t = .leaf := by
  cases t with
  | leaf => simp [dep]
  | node l p r => simp [dep]

structure Gp where
  gi : List (List Int)
  a : Int
  b : Int
noncomputable def gAll (g : Gp) : List Nat → Gp
  | [] => g
  | x :: xs => ⟨g.gi ++ [g.a, g.b + x] :: conG (x :: xs), ((x :: xs).getLast (by simp) : Nat), 0⟩

noncomputable def tIn (ds : List Nat) (es : List Nat) : List Nat := ds.map (· + 1) ++ 1 :: es.map (· + 1)
theorem gAll_node (g : Gp) (ds es : List Nat) :
    gAll g (tIn ds es) =
      (let g1 := gAll ⟨g.gi, g.a, g.b + 1⟩ ds
       let g2 : Gp := ⟨g1.gi ++ [[g1.a, g1.b]], 0, 0⟩
       let g3 := gAll g2 es
       ⟨g3.gi, g3.a + 1, g3.b⟩) := by
  unfold tIn
  have tail : ∀ (gi : List (List Int)) (es : List Nat), gAll ⟨gi, 0, 0⟩ es = ⟨gi ++ conG (1 :: es.map (· + 1)), ((1 :: es.map (· + 1)).getLast (by simp) : Nat) - 1, 0⟩ := by
    intro gi es
    cases es with
    | nil => simp [gAll, conG]
    | cons e es =>
      rw [gAll, List.map_cons, conG, ← List.map_cons (f := (· + 1)), conG_map]
      have h1 : (gp 1 (e + 1)) = [(0 : Int), 0 + (e : Int)] := by
        unfold gp
        have : (1 - (e + 1) : Nat) = 0 := by lia
        rw [this]; simp
      rw [h1]
      have h2 : (1 :: ((e :: es).map (· + 1))).getLast (by simp) = (e :: es).getLast (by simp) + 1 := by
        rw [List.getLast_cons (by simp), List.getLast_map]
      rw [h2]
      simp
  dsimp only
  rw [tail]
  cases ds with
  | nil =>
    simp only [List.map_nil, List.nil_append, gAll]
    simp
  | cons d ds =>
    rw [List.map_cons, List.cons_append]
    obtain ⟨xs, x, hx⟩ : ∃ xs x, d :: ds = xs ++ [x] := ⟨(d :: ds).dropLast, (d :: ds).getLast (by simp), (List.dropLast_concat_getLast (by simp)).symm⟩
    have hx' : (d + 1) :: ds.map (· + 1) = xs.map (· + 1) ++ [x + 1] := by rw [← List.map_cons (f := (· + 1)), hx]; simp
    rw [gAll, gAll]
    have hl : (d :: ds).getLast (by simp) = x := by
      have : (d :: ds).getLast? = some x := by rw [hx]; simp
      rw [List.getLast?_eq_some_getLast (by simp)] at this
      exact Option.some.inj this
    have hl2 : ((d + 1) :: (ds.map (· + 1) ++ 1 :: es.map (· + 1))).getLast (by simp) = (1 :: es.map (· + 1)).getLast (by simp) := by
      rw [List.getLast_cons (by simp), List.getLast_append_of_ne_nil (by simp)]
    have hc : conG ((d + 1) :: (ds.map (· + 1) ++ 1 :: es.map (· + 1))) = conG (d :: ds) ++ [(x : Int), 0] :: conG (1 :: es.map (· + 1)) := by
      rw [← List.cons_append, hx', conG_app, ← hx', ← List.map_cons (f := (· + 1)), conG_map]
      congr 2
      unfold gp
      have : (1 - (x + 1) : Nat) = 0 := by lia
      rw [this]; simp
    rw [hl, hl2, hc]
    simp
    lia

theorem readFold {nm : Nat → Str} (hnm : ∀ p, (nm p == sO) = false ∧ (nm p == sC) = false) : ∀ (t : Tree) (st : RSt),
    (toks nm t).foldl rStep st = { gi := (gAll ⟨st.gi, st.a, st.b⟩ (dep t)).gi, a := (gAll ⟨st.gi, st.a, st.b⟩ (dep t)).a, b := (gAll ⟨st.gi, st.a, st.b⟩ (dep t)).b, signs := st.signs ++ (sgn t).map (st.pile ++ ·), names := st.names ++ (ino t).map nm, pile := st.pile }
  | .leaf, st => by simp [toks, dep, gAll, sgn, ino]
  | .node l p r, st => by
    have hOC : (sC == sO) = false := by decide
    have s1 : rStep st sO = { st with b := st.b + 1, pile := st.pile ++ [-1] } := by
      unfold rStep; rw [if_pos (by simp)]
    have s2 : ∀ s : RSt, rStep s (nm p) = { gi := s.gi ++ [[s.a, s.b]], a := 0, b := 0, signs := s.signs ++ [s.pile.dropLast ++ [0]], names := s.names ++ [nm p], pile := s.pile.set (s.pile.length - 1) 1 } := fun s => by
      unfold rStep; rw [(hnm p).1, (hnm p).2]; rfl
    have s3 : ∀ s : RSt, rStep s sC = { s with a := s.a + 1, pile := s.pile.dropLast } := fun s => by
      unfold rStep; rw [hOC]; simp
    rw [toks, List.foldl_cons, List.foldl_append, List.foldl_cons, List.foldl_append, s1, readFold hnm l, s2, readFold hnm r]
    simp only [List.foldl_cons, List.foldl_nil]
    rw [s3]
    have hg := gAll_node ⟨st.gi, st.a, st.b⟩ (dep l) (dep r)
    unfold tIn at hg
    rw [dep, hg]
    have hp : (st.pile ++ [-1]).set ((st.pile ++ [(-1 : Int)]).length - 1) 1 = st.pile ++ [1] := by
      rw [List.length_append, List.length_singleton, Nat.add_sub_cancel, List.set_append_right _ _ (Nat.le_refl _), Nat.sub_self]; rfl
    simp only [hp, List.dropLast_concat]
    simp [sgn, ino, Function.comp_def, List.append_assoc]

theorem bal_ok {nm : Nat → Str} (hnm : ∀ p, (nm p == sO) = false ∧ (nm p == sC) = false) : ∀ (t : Tree) (us : List Str) (n : Nat), balP (toks nm t ++ us) (n : Int) = balP us n
  | .leaf, us, n => rfl
  | .node l p r, us, n => by
    have hOC : (sC == sO) = false := by decide
    rw [toks, List.cons_append, balP, if_pos (by simp)]
    have e : toks nm l ++ nm p :: (toks nm r ++ [sC]) ++ us = toks nm l ++ (nm p :: (toks nm r ++ (sC :: us))) := by simp
    rw [e, show ((n : Int) + 1) = ((n + 1 : Nat) : Int) by lia, bal_ok hnm l, balP, (hnm p).1, (hnm p).2]
    simp only [Bool.false_eq_true, if_false]
    rw [bal_ok hnm r, balP, hOC]
    simp only [Bool.false_eq_true, if_false]
    rw [if_pos (by simp), if_neg (by lia)]
    congr 1; lia
theorem rOk_ok {nm : Nat → Str} (hnm : ∀ p, (nm p == sO) = false ∧ (nm p == sC) = false) : ∀ (t : Tree) (us : List Str) (n : Nat), rOk (toks nm t ++ us) n = rOk us n
  | .leaf, us, n => rfl
  | .node l p r, us, n => by
    have hOC : (sC == sO) = false := by decide
    rw [toks, List.cons_append, rOk, if_pos (by simp)]
    have e : toks nm l ++ nm p :: (toks nm r ++ [sC]) ++ us = toks nm l ++ (nm p :: (toks nm r ++ (sC :: us))) := by simp
    rw [e, rOk_ok hnm l, rOk, (hnm p).1, (hnm p).2]
    simp only [Bool.false_eq_true, if_false]
    rw [if_neg (by lia), rOk_ok hnm r, rOk, hOC]
    simp only [Bool.false_eq_true, if_false]
    rw [if_neg (by lia), if_pos (by simp)]
    congr 1

/- the tree's signs are the paths' -/
noncomputable def pth (v : Nat → Int) (σ : List Nat) (a b p : Nat) : List Nat := σ.filter fun q => decide (a ≤ q ∧ q < b) && anc v q p
theorem filter_first {σ : List Nat} (h : σ.Pairwise (K v)) {P : Nat → Bool} {x : Nat} (hx : x ∈ σ) (hP : P x = true) (hm : ∀ y ∈ σ, P y = true → y = x ∨ K v x y) : σ.filter P = x :: σ.filter fun y => P y && decide (y ≠ x) := by
  obtain ⟨l, r, rfl⟩ := List.append_of_mem hx
  rw [List.pairwise_append] at h
  have hl : ∀ y ∈ l, P y = false := fun y hy => by
    cases e : P y with
    | false => rfl
    | true =>
      have h1 := h.2.2 y hy x (.head _)
      rcases hm y (List.mem_append_left _ hy) e with w | w
      · subst w; exact absurd h1 K.irr
      · exact absurd h1 w.asymm
  have e1 : l.filter P = [] := List.filter_eq_nil_iff.mpr fun y hy => by simp [hl y hy]
  have e2 : l.filter (fun y => P y && decide (y ≠ x)) = [] := List.filter_eq_nil_iff.mpr fun y hy => by simp [hl y hy]
  rw [List.filter_append, List.filter_append, e1, e2, List.filter_cons_of_pos hP, List.filter_cons_of_neg (by simp)]
  rw [List.nil_append, List.nil_append]
  congr 1
  refine List.filter_congr fun y hy => ?_
  have := ((List.pairwise_cons.mp h.2.1).1 y hy).ne
  simp [Ne.symm this]

theorem sgn_ok {n : Nat} {σ : List Nat} (A : Asc v n σ) : ∀ {a b : Nat} {t : Tree}, Ct v a b t → b ≤ n → sgn t = (List.range' a (b - a)).map (fun p => (pth v σ a b p).map fun (q : Nat) => cmp3 (p : Int) q) ∧ ino t = List.range' a (b - a) := by
  intro a b t h
  induction h with
  | leaf => intro _; simp [sgn, ino]
  | @node a b p l r hap hpb _ _ hmin ihl ihr =>
    intro hbn
    obtain ⟨l1, l2⟩ := ihl (by lia)
    obtain ⟨r1, r2⟩ := ihr hbn
    have hr : List.range' a (b - a) = List.range' a (p - a) ++ p :: List.range' (p + 1) (b - (p + 1)) := by
      have e1 : b - a = (p - a) + (1 + (b - (p + 1))) := by lia
      rw [e1, ← List.range'_append_1, ← List.range'_append_1]
      have e2 : a + (p - a) = p := by omega
      rw [e2]; rfl
    have hpm : p ∈ σ := A.mem.mpr (by lia)
    have ancp : ∀ q, a ≤ q → q < b → anc v p q = true := fun q h1 h2 => anc_iff.mpr fun x hx => hmin x (by unfold Btw at hx; lia) (by unfold Btw at hx; lia)
    have first : ∀ q, a ≤ q → q < b → pth v σ a b q = p :: σ.filter fun y => (decide (a ≤ y ∧ y < b) && anc v y q) && decide (y ≠ p) := fun q h1 h2 => by
      refine filter_first A.pw hpm (by simp [ancp q h1 h2, hap, hpb]) fun y hy hP => ?_
      rw [Bool.and_eq_true, decide_eq_true_iff] at hP
      by_cases c : y = p
      · exact .inl c
      · exact .inr (K.tri (hmin y hP.1.1 hP.1.2) c)
    have pl : ∀ q, a ≤ q → q < p → pth v σ a b q = p :: pth v σ a p q := fun q h1 h2 => by
      rw [first q h1 (by lia)]
      congr 1
      refine List.filter_congr fun y hy => ?_
      by_cases c : a ≤ y ∧ y < p
      · have : a ≤ y ∧ y < b ∧ y ≠ p := by lia
        simp [c, this]
      · by_cases c2 : (a ≤ y ∧ y < b) ∧ y ≠ p
        · have hy2 : p < y := by lia
          have : anc v y q = false := by
            cases e : anc v y q with
            | false => rfl
            | true => exact absurd (K.tri (hmin y (by lia) (by lia)) c2.2) (anc_iff.mp e p (by unfold Btw; lia))
          simp [this]
        · have e1 : decide (a ≤ y ∧ y < p) = false := by simpa using c
          have e2 : (decide (a ≤ y ∧ y < b) && decide (y ≠ p)) = false := by simp only [Bool.and_eq_false_iff, decide_eq_false_iff_not]; lia
          rw [e1, Bool.false_and, Bool.and_assoc, Bool.and_comm (anc v y q), ← Bool.and_assoc, e2, Bool.false_and]
    have pr : ∀ q, p < q → q < b → pth v σ a b q = p :: pth v σ (p + 1) b q := fun q h1 h2 => by
      rw [first q (by lia) h2]
      congr 1
      refine List.filter_congr fun y hy => ?_
      by_cases c : p + 1 ≤ y ∧ y < b
      · have : a ≤ y ∧ y < b ∧ y ≠ p := by lia
        simp [c, this]
      · by_cases c2 : (a ≤ y ∧ y < b) ∧ y ≠ p
        · have hy2 : y < p := by lia
          have : anc v y q = false := by
            cases e : anc v y q with
            | false => rfl
            | true => exact absurd (K.tri (hmin y (by lia) (by lia)) c2.2) (anc_iff.mp e p (by unfold Btw; lia))
          simp [this]
        · have e1 : decide (p + 1 ≤ y ∧ y < b) = false := by simpa using c
          have e2 : (decide (a ≤ y ∧ y < b) && decide (y ≠ p)) = false := by simp only [Bool.and_eq_false_iff, decide_eq_false_iff_not]; lia
          rw [e1, Bool.false_and, Bool.and_assoc, Bool.and_comm (anc v y q), ← Bool.and_assoc, e2, Bool.false_and]
    have pm : pth v σ a b p = [p] := by
      rw [first p hap hpb]
      congr 1
      refine List.filter_eq_nil_iff.mpr fun y hy => ?_
      by_cases c : (a ≤ y ∧ y < b) ∧ y ≠ p
      · rw [anc_no (K.tri (hmin y c.1.1 c.1.2) c.2)]; simp
      · simp; lia
    constructor
    · rw [sgn, l1, r1, hr, List.map_append, List.map_cons, List.map_map, List.map_map]
      congr 1
      · refine List.map_congr_left fun q hq => ?_
        rw [List.mem_range'_1] at hq
        rw [Function.comp_apply, pl q hq.1 (by lia), List.map_cons]
        congr 1
        rw [cmp3_val, if_neg (by lia), if_pos (by lia)]
      · congr 1
        · rw [pm, List.map_cons, List.map_nil, cmp3_val, if_neg (by lia), if_neg (by lia)]
        · refine List.map_congr_left fun q hq => ?_
          rw [List.mem_range'_1] at hq
          rw [Function.comp_apply, pr q (by lia) (by lia), List.map_cons]
          congr 1
          rw [cmp3_val, if_pos (by lia)]
    · rw [ino, l2, r2, hr]

theorem pth_top {n : Nat} {σ : List Nat} (A : Asc v n σ) (p : Nat) : pth v σ 0 n p = path v σ p := by
  unfold pth path
  refine List.filter_congr fun y hy => ?_
  simp [A.mem.mp hy]
end Mine
end
section
open PySem PyProof PyProof.Rows PySem.Builtin PySem.Builtin.Str
set_option maxRecDepth 100000
namespace Mine
variable {v : Nat → Int}

/- the signs of a piece, of what is left of it -/
noncomputable def cp : Nat → List Nat
  | 0 => [97]
  | 1 => [92, 40]
  | 2 => [34, 40, 34, 98]
  | 3 => [92, 34]
  | 4 => [99, 34, 92, 34, 41, 34]
  | 5 => [92, 41]
  | 6 => [40]
  | _ => [41]
noncomputable def cs : Nat → List Nat
  | 2 => [98]
  | 4 => [99]
  | k => cp k
noncomputable def un (k : Nat) : Str := ⟨(cs k).toArray⟩
noncomputable def uraw (i : Nat) : Nat → Un
  | 0 => [(i, ⟨#[97]⟩)]
  | 1 => [(i + 1, ⟨#[92, 40]⟩)]
  | 2 => [(i, ⟨#[34]⟩), (i + 1, ⟨#[40]⟩), (i + 2, ⟨#[34]⟩), (i + 3, ⟨#[98]⟩)]
  | 3 => [(i + 1, ⟨#[92, 34]⟩)]
  | 4 => [(i, ⟨#[99]⟩), (i + 1, ⟨#[34]⟩), (i + 3, ⟨#[92, 34]⟩), (i + 4, ⟨#[41]⟩), (i + 5, ⟨#[34]⟩)]
  | 5 => [(i + 1, ⟨#[92, 41]⟩)]
  | 6 => [(i, ⟨#[40]⟩)]
  | _ => [(i, ⟨#[41]⟩)]
theorem bs_cat (c : Nat) : Str.ofString "\\" ++ (⟨#[c]⟩ : Str) = ⟨#[92, c]⟩ := by
  have e : Str.ofString "\\" = ⟨#[92]⟩ := by decide
  rw [e]; rfl
theorem code8 (k : Nat) : k = 0 ∨ k = 1 ∨ k = 2 ∨ k = 3 ∨ k = 4 ∨ k = 5 ∨ k = 6 ∨ ∃ n, k = n + 7 := by
  by_cases h : k < 7
  · lia
  · exact .inr (.inr (.inr (.inr (.inr (.inr (.inr ⟨k - 7, by lia⟩))))))

theorem raw_units (k : Nat) : ∀ (r : List Nat) (i : Nat), unitsG (cp k ++ r) i false = uraw i k ++ unitsG r (i + (cp k).length) false := by
  rcases code8 k with rfl | rfl | rfl | rfl | rfl | rfl | rfl | ⟨n, rfl⟩ <;> intros <;> simp [cp, unitsG, uraw, bs_cat]
theorem raw_ok (k : Nat) : ∀ (r : List Nat), okE (cp k ++ r) false = okE r false := by
  rcases code8 k with rfl | rfl | rfl | rfl | rfl | rfl | rfl | ⟨n, rfl⟩ <;> intros <;> simp [cp, okE]
theorem cut_units (k : Nat) : ∀ (r : List Nat) (i : Nat), (unitsG (cs k ++ r) i false).map (·.2) = un k :: (unitsG r (i + (cs k).length) false).map (·.2) := by
  rcases code8 k with rfl | rfl | rfl | rfl | rfl | rfl | rfl | ⟨n, rfl⟩ <;> intros <;> simp [cp, cs, un, unitsG, bs_cat]
theorem cut_ok (k : Nat) : ∀ (r : List Nat), okE (cs k ++ r) false = okE r false := by
  rcases code8 k with rfl | rfl | rfl | rfl | rfl | rfl | rfl | ⟨n, rfl⟩ <;> intros <;> simp [cp, cs, okE]

theorem raws_ok : ∀ ks : List Nat, okE (ks.flatMap cp) false = true
  | [] => rfl
  | k :: ks => by rw [List.flatMap_cons, raw_ok, raws_ok ks]
theorem cuts_ok : ∀ ks : List Nat, okE (ks.flatMap cs) false = true
  | [] => rfl
  | k :: ks => by rw [List.flatMap_cons, cut_ok, cuts_ok ks]
theorem cuts_units : ∀ (ks : List Nat) (i : Nat), (unitsG (ks.flatMap cs) i false).map (·.2) = ks.map un
  | [], _ => rfl
  | k :: ks, i => by rw [List.flatMap_cons, cut_units, cuts_units ks, List.map_cons]

/- the strip -/
noncomputable def cat (res : List Str) : List Nat := res.flatMap fun y => y.cps.toList
theorem seg_add {X : List Nat} {s i m : Nat} (h : s ≤ i) : (X.drop s).take (i + m - s) = (X.drop s).take (i - s) ++ (X.drop i).take m := by
  have e : i + m - s = (i - s) + m := by lia
  rw [e, List.take_add, List.drop_drop]
  congr 3; lia
structure SInv (X : List Nat) (ks0 : List Nat) (i : Nat) (st : SSt) : Prop where
  opn : st.opn = none
  le : st.start ≤ i
  eq : cat st.res ++ (X.drop st.start).take (i - st.start) = ks0.flatMap cs

theorem q_yes : ((⟨#[34]⟩ : Str) == Str.ofString "\"") = true := by decide
theorem slice_at {x : Str} {a b : Nat} (h1 : a ≤ b) (h2 : b ≤ x.cps.toList.length) : (Txt.slice x (some (a : Int)) (some (b : Int))).cps.toList = (x.cps.toList.drop a).take (b - a) := by
  have := beq_iff_eq.mp (slice_closes (x := x) (i := (a : Int)) (j := (b : Int)) ⟨by lia, by lia, by lia⟩)
  rw [this]
  have e : ((b : Int) - a).toNat = b - a := by lia
  simp [e]
theorem slice_on {x : Str} {a : Nat} (h2 : a ≤ x.cps.toList.length) : (Txt.slice x (some (a : Int)) none).cps.toList = x.cps.toList.drop a := by
  have := beq_iff_eq.mp (slice_closes_from (x := x) (i := (a : Int)) ⟨by lia, by lia⟩)
  rw [this]
  have e : ((x.cps.toList.length : Int) - a).toNat = (x.cps.toList.drop a).length := by rw [List.length_drop]; lia
  rw [e, Int.toNat_natCast]
  exact List.take_of_length_le (Nat.le_refl _)

theorem strip_step {x : Str} {ks0 : List Nat} {i k : Nat} {r : List Nat} {st : SSt} (h : SInv x.cps.toList ks0 i st) (hX : x.cps.toList.drop i = cp k ++ r) :
    SInv x.cps.toList (ks0 ++ [k]) (i + (cp k).length) ((uraw i k).foldl (sStep x) st) := by
  have hlen : i + (cp k).length ≤ x.cps.toList.length := by
    have := congrArg List.length hX
    have hp : 0 < (cp k).length := by rcases code8 k with rfl | rfl | rfl | rfl | rfl | rfl | rfl | ⟨n, rfl⟩ <;> intros <;> simp [cp]
    rw [List.length_drop, List.length_append] at this; lia
  have plain : ∀ st', st' = st → cs k = cp k → SInv x.cps.toList (ks0 ++ [k]) (i + (cp k).length) st' := fun st' e hk => by
    subst e
    refine ⟨h.opn, by have := h.le; lia, ?_⟩
    rw [seg_add h.le, ← List.append_assoc, h.eq, hX, List.flatMap_append]
    simp [hk]
  revert hlen hX plain
  have hopn := h.opn
  have hle := h.le
  have heq := h.eq
  obtain ⟨start, opn, res⟩ := st
  dsimp only at hopn hle heq
  subst hopn
  rcases code8 k with rfl | rfl | rfl | rfl | rfl | rfl | rfl | ⟨n, rfl⟩
  · intro hX _ plain; exact plain _ (by simp [uraw, sStep]; decide) rfl
  · intro hX _ plain; exact plain _ (by simp [uraw, sStep]; decide) rfl
  · intro hX hlen _
    have hl : i + 4 ≤ x.cps.toList.length := hlen
    have e1 : ((⟨#[40]⟩ : Str) == Str.ofString "\"") = false := by decide
    have e2 : ((⟨#[98]⟩ : Str) == Str.ofString "\"") = false := by decide
    have ef : (uraw i 2).foldl (sStep x) ⟨start, none, res⟩ = ⟨i + 2 + 1, none, if ((start : Int) != (i : Int)) = true then res ++ [Txt.slice x (some (start : Int)) (some (i : Int))] else res⟩ := by
      simp [uraw, sStep, q_yes, e1, e2]
    rw [ef]
    refine ⟨rfl, by show i + 2 + 1 ≤ i + 4; lia, ?_⟩
    have hc : cat (if ((start : Int) != (i : Int)) = true then res ++ [Txt.slice x (some (start : Int)) (some (i : Int))] else res) = ks0.flatMap cs := by
      by_cases c : start = i
      · subst c
        rw [Nat.sub_self] at heq
        simpa using heq
      · have : ((start : Int) != (i : Int)) = true := by simp; lia
        rw [if_pos this]
        unfold cat at heq ⊢
        rw [List.flatMap_append, ← heq]
        simp only [List.flatMap_cons, List.flatMap_nil, List.append_nil]
        rw [slice_at hle (by lia)]
    dsimp only
    rw [hc, List.flatMap_append]
    congr 1
    have e3 : x.cps.toList.drop (i + 2 + 1) = 98 :: r := by
      have : x.cps.toList.drop (i + 2 + 1) = (x.cps.toList.drop i).drop 3 := by rw [List.drop_drop]
      rw [this, hX]; rfl
    rw [e3]
    have e4 : i + (cp 2).length - (i + 2 + 1) = 1 := by show i + 4 - (i + 2 + 1) = 1; lia
    rw [e4]; rfl
  · intro hX _ plain; exact plain _ (by simp [uraw, sStep]; decide) rfl
  · intro hX hlen _
    have hl : i + 6 ≤ x.cps.toList.length := hlen
    have e1 : ((⟨#[99]⟩ : Str) == Str.ofString "\"") = false := by decide
    have e2 : ((⟨#[92, 34]⟩ : Str) == Str.ofString "\"") = false := by decide
    have e3 : ((⟨#[41]⟩ : Str) == Str.ofString "\"") = false := by decide
    have ef : (uraw i 4).foldl (sStep x) ⟨start, none, res⟩ = ⟨i + 5 + 1, none, if ((start : Int) != ((i + 1 : Nat) : Int)) = true then res ++ [Txt.slice x (some (start : Int)) (some ((i + 1 : Nat) : Int))] else res⟩ := by
      simp [uraw, sStep, q_yes, e1, e2, e3]
    rw [ef]
    refine ⟨rfl, by show i + 5 + 1 ≤ i + 6; lia, ?_⟩
    have : ((start : Int) != ((i + 1 : Nat) : Int)) = true := by simp; lia
    dsimp only
    rw [if_pos this]
    have e4 : i + (cp 4).length - (i + 5 + 1) = 0 := by show i + 6 - (i + 5 + 1) = 0; lia
    rw [e4, List.take_zero, List.append_nil]
    unfold cat at heq ⊢
    rw [List.flatMap_append]
    simp only [List.flatMap_cons, List.flatMap_nil, List.append_nil]
    rw [slice_at (by lia) (by lia), seg_add hle, ← List.append_assoc, heq, List.flatMap_append, hX]
    rfl
  · intro hX _ plain; exact plain _ (by simp [uraw, sStep]; decide) rfl
  · intro hX _ plain; exact plain _ (by simp [uraw, sStep]; decide) rfl
  · intro hX _ plain; exact plain _ (by simp [uraw, sStep]; decide) rfl

theorem strip_fold {x : Str} : ∀ (ks ks0 : List Nat) (i : Nat) (st : SSt), SInv x.cps.toList ks0 i st → x.cps.toList.drop i = ks.flatMap cp → i ≤ x.cps.toList.length →
    SInv x.cps.toList (ks0 ++ ks) x.cps.toList.length ((unitsG (ks.flatMap cp) i false).foldl (sStep x) st)
  | [], ks0, i, st, h, hX, hi => by
    have : i = x.cps.toList.length := by
      have := congrArg List.length hX
      rw [List.length_drop] at this; simp only [List.flatMap_nil, List.length_nil] at this; lia
    subst this
    rw [List.append_nil]; exact h
  | k :: ks, ks0, i, st, h, hX, hi => by
    rw [List.flatMap_cons] at hX
    rw [List.flatMap_cons, raw_units, List.foldl_append]
    have h' := strip_step h hX
    have hlen := congrArg List.length hX
    rw [List.length_drop, List.length_append] at hlen
    have e : x.cps.toList.drop (i + (cp k).length) = ks.flatMap cp := by
      rw [← List.drop_drop, hX, List.drop_left]
    have hp : 0 < (cp k).length := by rcases code8 k with rfl | rfl | rfl | rfl | rfl | rfl | rfl | ⟨n, rfl⟩ <;> intros <;> simp [cp]
    have := strip_fold ks (ks0 ++ [k]) (i + (cp k).length) _ h' e (by lia)
    rwa [List.append_assoc] at this

theorem join_cat : ∀ ys : List Str, (Str.join (Str.ofString "") ys).cps.toList = cat ys
  | [] => rfl
  | [y] => by simp [Str.join, cat]
  | y :: z :: r => by
    have e : Str.ofString "" = ⟨#[]⟩ := by decide
    have ih := join_cat (z :: r)
    rw [Str.join]
    · show (Array.toList ((y.cps ++ (Str.ofString "").cps) ++ (Str.join (Str.ofString "") (z :: r)).cps)) = _
      rw [Array.toList_append, Array.toList_append, ih, e]
      simp [cat]
    · intro h; cases h

theorem strip_is {x : Str} {ks : List Nat} (hX : x.cps.toList = ks.flatMap cp) : (strip x).cps.toList = ks.flatMap cs := by
  unfold strip
  have eq : Str.ofString "\"" = ⟨#[34]⟩ := by decide
  have hcon : Txt.contains x (Str.ofString "\"") = decide (34 ∈ x.cps.toList) := by
    rw [eq]; exact StrLaws.found_one x 34
  rw [hcon]
  by_cases c : 34 ∈ x.cps.toList
  · rw [decide_eq_true c, if_neg (by decide)]
    have h := strip_fold (x := x) ks [] 0 ⟨0, none, []⟩ ⟨rfl, Nat.le_refl _, rfl⟩ (by rw [List.drop_zero]; exact hX) (Nat.zero_le _)
    have hj := beq_iff_eq.mp (join_closes (sep := Str.ofString "") (ys := sEnd x ((units x).foldl (sStep x) ⟨0, none, []⟩)) rfl)
    rw [hj, join_cat]
    rw [← hX] at h
    unfold units
    generalize (unitsG x.cps.toList 0 false).foldl (sStep x) ⟨0, none, []⟩ = st at h
    have h3 := h.eq
    have e1 : (x.cps.toList.drop st.start).take (x.cps.toList.length - st.start) = x.cps.toList.drop st.start := List.take_of_length_le (by rw [List.length_drop]; exact Nat.le_refl _)
    rw [e1, List.nil_append] at h3
    rw [← h3]
    unfold sEnd
    by_cases c2 : st.start < x.length
    · rw [if_pos c2]
      unfold cat
      rw [List.flatMap_append]
      simp only [List.flatMap_cons, List.flatMap_nil, List.append_nil]
      rw [slice_on h.le]
    · rw [if_neg c2]
      have : x.cps.toList.drop st.start = [] := List.drop_of_length_le (by have : x.cps.size ≤ st.start := Nat.le_of_not_lt c2; simpa using this)
      rw [this, List.append_nil]
  · rw [decide_eq_false c, if_pos (by decide), hX]
    rw [hX] at c
    have : ∀ k ∈ ks, cp k = cs k := fun k hk => by
      have c' : 34 ∉ cp k := fun h => c (List.mem_flatMap.mpr ⟨k, hk, h⟩)
      revert c'
      rcases code8 k with rfl | rfl | rfl | rfl | rfl | rfl | rfl | ⟨n, rfl⟩ <;> intros <;> first | rfl | (rename_i h; exact absurd h (by decide))
    rw [List.flatMap_def, List.flatMap_def, List.map_congr_left this]

/- the tree's text -/
noncomputable def tokc (code : Nat → Nat) : Tree → List Nat
  | .leaf => []
  | .node l p r => 6 :: (tokc code l ++ code p :: (tokc code r ++ [7]))
theorem str_app (a b : Str) : (a ++ b).cps.toList = a.cps.toList ++ b.cps.toList := by
  show (a.cps ++ b.cps).toList = _
  exact Array.toList_append
theorem txt_cps {ps : List Str} {code : Nat → Nat} : ∀ t : Tree, (∀ p ∈ ino t, (ps.getD p sE).cps.toList = cp (code p)) → (txt ps t).cps.toList = (tokc code t).flatMap cp
  | .leaf, _ => by rw [txt]; exact (by decide : sE.cps.toList = [])
  | .node l p r, h => by
    have e1 : (Str.ofString "(").cps.toList = [40] := by decide
    have e2 : (Str.ofString ")").cps.toList = [41] := by decide
    rw [txt, str_app, str_app, str_app, str_app, txt_cps l fun q hq => h q (by simp [ino, hq]), txt_cps r fun q hq => h q (by simp [ino, hq]), h p (by simp [ino]), e1, e2]
    simp [tokc, cp, List.append_assoc]
theorem toks_un {code : Nat → Nat} : ∀ t : Tree, (tokc code t).map un = toks (fun p => un (code p)) t
  | .leaf => rfl
  | .node l p r => by
    have e1 : un 6 = sO := by decide
    have e2 : un 7 = sC := by decide
    simp [tokc, toks, toks_un l, toks_un r, e1, e2]
theorem tokc_len {code : Nat → Nat} : ∀ t : Tree, (tokc code t).length = 3 * (ino t).length
  | .leaf => rfl
  | .node l p r => by simp [tokc, ino, tokc_len l, tokc_len r]; lia
theorem cp_len : ∀ ks : List Nat, (ks.flatMap cp).length ≤ 6 * ks.length
  | [] => by simp
  | k :: ks => by
    have : (cp k).length ≤ 6 := by rcases code8 k with rfl | rfl | rfl | rfl | rfl | rfl | rfl | ⟨n, rfl⟩ <;> intros <;> simp [cp]
    have := cp_len ks
    rw [List.flatMap_cons, List.length_append, List.length_cons]; lia
theorem raw_pos {k : Nat} {ks : List Nat} {i : Nat} : 0 < (unitsG ((k :: ks).flatMap cp) i false).length := by
  rw [List.flatMap_cons, raw_units, List.length_append]
  have : 0 < (uraw i k).length := by rcases code8 k with rfl | rfl | rfl | rfl | rfl | rfl | rfl | ⟨n, rfl⟩ <;> intros <;> simp [uraw]
  lia

structure TextOk (x : Str) (us : List Str) : Prop where
  ok : okE x.cps.toList false = true
  ne : 0 < (units x).length
  len : x.length ≤ 200
  ok' : okE (strip x).cps.toList false = true
  ne' : 0 < (units (strip x)).length
  un' : (units (strip x)).map (·.2) = us
  ul : us.length ≤ 300
theorem text_ok {ps : List Str} {code : Nat → Nat} {t : Tree} (h : ∀ p ∈ ino t, (ps.getD p sE).cps.toList = cp (code p)) (h0 : 0 < (ino t).length) (h7 : (ino t).length ≤ 7) : TextOk (txt ps t) (toks (fun p => un (code p)) t) := by
  have hX := txt_cps t h
  have hS := strip_is hX
  have hl := tokc_len (code := code) t
  have hU : (units (strip (txt ps t))).map (·.2) = toks (fun p => un (code p)) t := by
    unfold units; rw [hS, cuts_units, toks_un]
  have htl : (toks (fun p => un (code p)) t).length = 3 * (ino t).length := by rw [← toks_un, List.length_map, hl]
  refine ⟨by rw [hX]; exact raws_ok _, ?_, ?_, by rw [hS]; exact cuts_ok _, ?_, hU, by lia⟩
  · unfold units
    rw [hX]
    match e : tokc code t, hl with
    | k :: ks, _ => exact raw_pos
    | [], hl => simp at hl; lia
  · have := cp_len (tokc code t)
    rw [← hX] at this
    show (txt ps t).cps.size ≤ 200
    simp at this; lia
  · have := congrArg List.length hU
    rw [List.length_map] at this; lia
end Mine
end
section
open PySem
set_option maxRecDepth 100000
namespace Mine
variable {v : Nat → Int} {val : Nat → Int × Int} {pl : Nat → Nat} {ts : List Nat}

theorem sld_sub {X Y : List Int} (h : X.Sublist Y) : Y.Pairwise (· < ·) → sld X Y = ([], Y.filter fun y => !X.contains y) ∧ sld Y X = (Y.filter (fun y => !X.contains y), []) := by
  induction h with
  | slnil => intro _; exact ⟨by rw [sld_nilL]; rfl, by rw [sld_nilL]; rfl⟩
  | @cons X Y y hs ih =>
    intro hp
    obtain ⟨i1, i2⟩ := ih (List.pairwise_cons.mp hp).2
    have hy := (List.pairwise_cons.mp hp).1
    have hn : X.contains y = false := by
      cases e : X.contains y with
      | false => rfl
      | true =>
        have := hy y (hs.subset (by simpa using e))
        lia
    rw [List.filter_cons_of_pos (p := fun y => !X.contains y) (by rw [hn]; rfl)]
    cases X with
    | nil =>
      have e : (Y.filter fun y => !([] : List Int).contains y) = Y := List.filter_eq_self.mpr fun a _ => by simp
      rw [e]
      exact ⟨by rw [sld_nilL], by rw [sld_nilR]⟩
    | cons x X =>
      have hlt : y < x := hy x (hs.subset (.head _))
      constructor
      · rw [sld_cons, if_neg (by lia), if_pos hlt, i1]
      · rw [sld_cons, if_pos hlt, i2]
  | @cons_cons X Y x hs ih =>
    intro hp
    obtain ⟨i1, i2⟩ := ih (List.pairwise_cons.mp hp).2
    have hy := (List.pairwise_cons.mp hp).1
    have e : ((x :: Y).filter fun y => !(x :: X).contains y) = Y.filter fun y => !X.contains y := by
      rw [List.filter_cons_of_neg (by simp)]
      refine List.filter_congr fun y hyY => ?_
      have : y ≠ x := by have := hy y hyY; lia
      simp [List.contains_cons, this]
    rw [e, sld_cons, if_neg (by lia), if_neg (by lia), i1]
    refine ⟨rfl, ?_⟩
    rw [sld_cons, if_neg (by lia), if_neg (by lia), i2]

theorem strict_nodup {xs : List Int} (h : xs.Pairwise (· < ·)) : xs.Nodup := h.imp fun q => by lia
theorem strict_of {xs : List Int} (h : xs.Pairwise (· ≤ ·)) (hn : xs.Nodup) : xs.Pairwise (· < ·) := by
  have := h.and hn
  exact this.imp fun q => by have := q.1; have := q.2; lia
theorem strict_filter {X Y : List Int} (hX : X.Pairwise (· < ·)) (hY : Y.Pairwise (· < ·)) (hs : ∀ x ∈ X, x ∈ Y) : Y.filter (fun y => X.contains y) = X := by
  refine List.Perm.eq_of_pairwise (le := (· < ·)) (fun a b _ _ h h' => by lia) (hY.filter _) hX ?_
  refine (List.perm_ext_iff_of_nodup ((strict_nodup hY).filter _) (strict_nodup hX)).mpr fun a => ?_
  rw [List.mem_filter]
  constructor
  · intro h; simpa using h.2
  · intro h; exact ⟨hs a h, by simpa using h⟩

structure GapOk (A B g : List Int) : Prop where
  pa : A.Pairwise (· < ·)
  pb : B.Pairwise (· < ·)
  la : A.length ≤ 20
  lb : B.length ≤ 20
  g : g = [((sld A B).1.length : Int), ((sld A B).2.length : Int)]
  nil : (sld A B).1 = [] ∨ (sld A B).2 = []
  eq : A.filter (fun x => !(sld A B).1.contains x) = B.filter (fun x => !(sld A B).2.contains x)

theorem len_split (p : Int → Bool) : ∀ Y : List Int, Y.length = (Y.filter p).length + (Y.filter fun y => !p y).length
  | [] => rfl
  | y :: Y => by
    have := len_split p Y
    rw [List.filter_cons, List.filter_cons]
    cases p y <;> simp <;> lia
theorem rest_is {X Y : List Int} (hX : X.Pairwise (· < ·)) (hY : Y.Pairwise (· < ·)) (hs : ∀ x ∈ X, x ∈ Y) : X.Sublist Y ∧ (Y.filter fun y => !X.contains y).length = Y.length - X.length ∧ Y.filter (fun x => !(Y.filter fun y => !X.contains y).contains x) = X := by
  have e := strict_filter hX hY hs
  have hsub : X.Sublist Y := by rw [← e]; exact List.filter_sublist
  refine ⟨hsub, ?_, ?_⟩
  · have h1 := len_split (fun y => X.contains y) Y
    rw [e] at h1
    lia
  · refine .trans (List.filter_congr fun y hy => ?_) e
    cases c : X.contains y with
    | true =>
      have : ¬ y ∈ Y.filter fun y => !X.contains y := fun h => by
        have := (List.mem_filter.mp h).2
        rw [c] at this; cases this
      have : (Y.filter fun y => !X.contains y).contains y = false := by
        cases q : (Y.filter fun y => !X.contains y).contains y with
        | false => rfl
        | true => exact absurd (List.contains_iff_mem.mp q) this
      rw [this]; rfl
    | false =>
      have : y ∈ Y.filter fun y => !X.contains y := List.mem_filter.mpr ⟨hy, by rw [c]; rfl⟩
      rw [List.contains_iff_mem.mpr this]; rfl

theorem gap_ok {A B : List Int} (pa : A.Pairwise (· < ·)) (pb : B.Pairwise (· < ·)) (la : A.length ≤ 20) (lb : B.length ≤ 20) (h : (∀ x ∈ A, x ∈ B) ∨ (∀ x ∈ B, x ∈ A)) : GapOk A B (gp A.length B.length) := by
  rcases h with h | h
  · obtain ⟨s, l, e⟩ := rest_is pa pb h
    have z := (sld_sub s pb).1
    have hl := s.length_le
    refine ⟨pa, pb, la, lb, ?_, ?_, ?_⟩
    · rw [z]; dsimp only; rw [l]; unfold gp
      rw [show A.length - B.length = 0 by lia]; rfl
    · rw [z]; exact .inl rfl
    · rw [z]; dsimp only; rw [e]
      exact List.filter_eq_self.mpr fun a _ => by simp
  · obtain ⟨s, l, e⟩ := rest_is pb pa h
    have z := (sld_sub s pa).2
    have hl := s.length_le
    refine ⟨pa, pb, la, lb, ?_, ?_, ?_⟩
    · rw [z]; dsimp only; rw [l]; unfold gp
      rw [show B.length - A.length = 0 by lia]; rfl
    · rw [z]; exact .inr rfl
    · rw [z]; dsimp only; rw [e]
      exact (List.filter_eq_self.mpr fun a _ => by simp).symm

/- the rows -/
theorem way_len {σ : List Nat} {p : Nat} : (wayOf v σ p).length = (path v σ p).length := by
  unfold wayOf; rw [(isort_perm _).length_eq]; exact List.length_map ..
theorem way_mem {n : Nat} {σ : List Nat} (A : Asc v n σ) {p : Nat} {x : Int} : x ∈ wayOf v σ p ↔ ∃ q : Nat, x = q ∧ q < n ∧ anc v q p = true := by
  unfold wayOf
  rw [(isort_perm _).mem_iff]
  unfold intsOf path
  rw [List.mem_map]
  constructor
  · rintro ⟨q, hq, rfl⟩
    rw [List.mem_filter] at hq
    exact ⟨q, rfl, A.mem.mp hq.1, hq.2⟩
  · rintro ⟨q, rfl, h1, h2⟩
    exact ⟨q, List.mem_filter.mpr ⟨A.mem.mpr h1, h2⟩, rfl⟩
theorem way_strict {n : Nat} {σ : List Nat} (A : Asc v n σ) {p : Nat} : (wayOf v σ p).Pairwise (· < ·) := by
  refine strict_of (isort_sorted _) ((isort_perm _).symm.nodup ?_)
  unfold intsOf path
  refine List.Pairwise.map _ (fun a b h => ?_) ((A.perm.symm.nodup List.nodup_range).filter _)
  lia
theorem way_short {n : Nat} {σ : List Nat} (A : Asc v n σ) (hn : n ≤ 7) {p : Nat} : (wayOf v σ p).length ≤ 20 := by
  rw [way_len]
  have := List.length_filter_le (fun a => anc v a p) σ
  rw [A.len] at this
  unfold path; lia

theorem conG_at : ∀ (L : List Nat) (k x y : Nat), L[k]? = some x → L[k + 1]? = some y → (conG L)[k]? = some (gp x y)
  | [], k, x, y, h, _ => by simp at h
  | [a], k, x, y, h, h' => by simp at h'
  | a :: b :: r, 0, x, y, h, h' => by
    simp at h h'
    subst h h'
    rfl
  | a :: b :: r, k + 1, x, y, h, h' => by
    rw [conG, List.getElem?_cons_succ]
    exact conG_at (b :: r) k x y (by simpa using h) (by simpa using h')
theorem conG_len : ∀ L : List Nat, (conG L).length = L.length - 1
  | [] => rfl
  | [a] => rfl
  | a :: b :: r => by rw [conG, List.length_cons, conG_len (b :: r)]; simp

theorem gaps_whole {nm : Nat → Str} (hnm : ∀ p, (nm p == sO) = false ∧ (nm p == sC) = false) {t : Tree} (h : t ≠ .leaf) : gapsOf (readP (toks nm t)) = conG (0 :: (dep t ++ [0])) := by
  unfold readP
  rw [readFold hnm]
  unfold gapsOf
  dsimp only
  match e : dep t with
  | [] => exact absurd (sgn_nil.mp e) h
  | d :: ds =>
    rw [gAll]
    dsimp only
    obtain ⟨xs, x, hx⟩ : ∃ xs x, d :: ds = xs ++ [x] := ⟨(d :: ds).dropLast, (d :: ds).getLast (by simp), (List.dropLast_concat_getLast (by simp)).symm⟩
    have hl : (d :: ds).getLast (by simp) = x := by
      have : (d :: ds).getLast? = some x := by rw [hx]; simp
      rw [List.getLast?_eq_some_getLast (by simp)] at this
      exact Option.some.inj this
    rw [hl, List.cons_append, conG, ← List.cons_append, hx, conG_app]
    have h1 : gp 0 d = [(0 : Int), 0 + (d : Int)] := by unfold gp; simp
    have h2 : gp x 0 = [(x : Int), 0] := by unfold gp; simp
    rw [h1, h2]
    simp [conG]

structure LawOk (val : Nat → Int × Int) (pl : Nat → Nat) (ts : List Nat) (ps : List Str) (nms : List Str) (whole : Str) (us : List Str) (st : WSt) : Prop where
  hw : waysP (ltv val) pl isort ts = some st
  text : TextOk whole us
  bal : balP us 0 = true
  rok : rOk us 0 = true
  names : (readP us).names = nms
  signs : (readP us).signs = st.signs
  wl : st.ways.length = ts.length
  above : ∀ p, p < ts.length → ∀ ns : List Int, ns.Perm (intsOf (aboveP (ltv val) ts p)) → ns.Pairwise (· ≤ ·) → st.ways[p]? = some ns
  gl : (gapsOf (readP us)).length = ts.length + 1
  gaps : ∀ k, k ≤ ts.length → ∃ A B g, ([] :: (st.ways ++ [[]]))[k]? = some A ∧ ([] :: (st.ways ++ [[]]))[k + 1]? = some B ∧ (gapsOf (readP us))[k]? = some g ∧ GapOk A B g

theorem un_plain {c : Nat} (h : c < 6) : (un c == sO) = false ∧ (un c == sC) = false := by
  have : c = 0 ∨ c = 1 ∨ c = 2 ∨ c = 3 ∨ c = 4 ∨ c = 5 := by lia
  rcases this with rfl | rfl | rfl | rfl | rfl | rfl <;> decide
theorem law_pure (P : Pls val pl ts v) (h0 : 0 < ts.length) (h7 : ts.length ≤ 7) {ps : List Str} {code : Nat → Nat} (hps : ∀ p, p < ts.length → (ps.getD p sE).cps.toList = cp (code p)) (hc : ∀ p, code p < 6) :
    ∃ us st, LawOk val pl ts ps ((List.range ts.length).map fun p => un (code p)) (nestP (fun a b => ltv val b a) pl ps ts) us st := by
  obtain ⟨σ, st, A, hw, ew, es⟩ := waysP_ok P h0 h7
  obtain ⟨t, ct, ht⟩ := nestP_ok (ps := ps) P h0 A
  obtain ⟨s1, s2⟩ := sgn_ok A ct (Nat.le_refl _)
  rw [Nat.sub_zero, ← List.range_eq_range'] at s1 s2
  have hnm : ∀ p, (un (code p) == sO) = false ∧ (un (code p) == sC) = false := fun p => by
    exact un_plain (hc p)
  have hsg : sgn t = st.signs := by
    rw [s1, es]
    refine List.map_congr_left fun p _ => ?_
    rw [pth_top A]; rfl
  have tx : TextOk (nestP (fun a b => ltv val b a) pl ps ts) (toks (fun p => un (code p)) t) := by
    rw [ht]
    refine text_ok (fun p hp => hps p ?_) (by rw [s2]; simpa using h0) (by rw [s2]; simpa using h7)
    rw [s2] at hp; simpa using hp
  have tl : t ≠ .leaf := fun e => by
    have := txt_ne (ps := ps) ct h0
    rw [e] at this; simp [txt] at this
  have rd := readFold hnm t ⟨[], 0, 0, [], [], []⟩
  have hdep : dep t = st.ways.map List.length := by
    rw [dep_sgn, s1, ew, List.map_map, List.map_map]
    refine List.map_congr_left fun p _ => ?_
    simp only [Function.comp_apply, List.length_map]
    rw [way_len, pth_top A]
  have hgap := gaps_whole hnm tl
  have wl : st.ways.length = ts.length := by rw [ew]; simp
  refine ⟨toks (fun p => un (code p)) t, st, hw, tx, ?_, ?_, ?_, ?_, wl, ?_, ?_, ?_⟩
  · have := bal_ok hnm t [] 0
    rw [List.append_nil] at this
    exact this
  · have := rOk_ok hnm t [] 0
    rw [List.append_nil] at this
    exact this
  · unfold readP; rw [rd]; dsimp only; rw [s2, List.nil_append]
  · unfold readP; rw [rd]; dsimp only
    rw [← hsg, List.nil_append]; simp
  · intro p hp ns h1 h2
    rw [above_is P A hp h1 h2, ew]
    simp [hp]
  · rw [hgap, conG_len, hdep]; simp [wl]
  · intro k hk
    have hrow : ∀ j, ([] :: (st.ways ++ [[]]))[j + 1]? = if j < ts.length then some (wayOf v σ j) else if j = ts.length then some [] else none := fun j => by
      rw [List.getElem?_cons_succ]
      by_cases c : j < ts.length
      · rw [if_pos c, List.getElem?_append_left (by lia), ew]; simp [c]
      · rw [if_neg c, List.getElem?_append_right (by lia), wl]
        by_cases c2 : j = ts.length
        · rw [if_pos c2, c2]; simp
        · rw [if_neg c2]
          exact List.getElem?_eq_none (by simp; lia)
    have hL : 0 :: (dep t ++ [0]) = ([] :: (st.ways ++ [[]])).map List.length := by rw [hdep]; simp
    have fin : ∀ R S : List Int, ([] :: (st.ways ++ [[]]))[k]? = some R → ([] :: (st.ways ++ [[]]))[k + 1]? = some S → R.Pairwise (· < ·) → S.Pairwise (· < ·) → R.length ≤ 20 → S.length ≤ 20 → ((∀ x ∈ R, x ∈ S) ∨ (∀ x ∈ S, x ∈ R)) →
        ∃ A B g, ([] :: (st.ways ++ [[]]))[k]? = some A ∧ ([] :: (st.ways ++ [[]]))[k + 1]? = some B ∧ (gapsOf (readP (toks (fun p => un (code p)) t)))[k]? = some g ∧ GapOk A B g := fun R S hR hS p1 p2 l1 l2 hsub => by
      refine ⟨R, S, gp R.length S.length, hR, hS, ?_, gap_ok p1 p2 l1 l2 hsub⟩
      rw [hgap, hL]
      exact conG_at _ k _ _ (by rw [List.getElem?_map, hR]; rfl) (by rw [List.getElem?_map, hS]; rfl)
    cases k with
    | zero =>
      exact fin [] (wayOf v σ 0) rfl (by rw [hrow, if_pos h0]) .nil (way_strict A) (by simp) (way_short A h7) (.inl (by simp))
    | succ k =>
      have hk1 : ([] :: (st.ways ++ [[]]))[k + 1]? = some (wayOf v σ k) := by rw [hrow, if_pos (by lia)]
      by_cases c : k + 1 < ts.length
      · refine fin _ (wayOf v σ (k + 1)) hk1 (by rw [hrow, if_pos c]) (way_strict A) (way_strict A) (way_short A h7) (way_short A h7) ?_
        by_cases q : K v k (k + 1)
        · refine .inl fun x hx => ?_
          obtain ⟨a, rfl, h1, h2⟩ := (way_mem A).mp hx
          exact (way_mem A).mpr ⟨a, rfl, h1, anc_right q h2⟩
        · refine .inr fun x hx => ?_
          obtain ⟨a, rfl, h1, h2⟩ := (way_mem A).mp hx
          exact (way_mem A).mpr ⟨a, rfl, h1, anc_left (K.tri q (by lia)) h2⟩
      · exact fin _ [] hk1 (by rw [hrow, if_neg c, if_pos (by lia)]) (way_strict A) .nil (way_short A h7) (by simp) (.inr (by simp))
end Mine
end
section
open PySem PySem.W PyProof.Rows PySem.Calls
set_option maxRecDepth 100000
namespace Mine
variable {G : Gl} {k : Nat} {sc : Scope} {m : Vars} {H : List AO} {A : Around} {env : Env}

/- statements of the one frame that stands outermost -/
noncomputable def ExA (G : Gl) (A : Around) (env : Env) (st : Stmt) (m : Vars) (H : List AO) (Q : AF → Vars → List AO → Prop) : Prop :=
  ∀ ρ s, Wd G ρ H s → Vr G ρ env m s → wpAny G.M A (exec st env) (PX G env ρ s Q) NoE s
noncomputable def ExsA (G : Gl) (A : Around) (env : Env) (st : List Stmt) (m : Vars) (H : List AO) (Q : AF → Vars → List AO → Prop) : Prop :=
  ∀ ρ s, Wd G ρ H s → Vr G ρ env m s → wpAny G.M A (execs st env) (PX G env ρ s Q) NoE s
theorem ExA.of {st : Stmt} {Q : AF → Vars → List AO → Prop} (he : EnvOK sc env) (hr : Rm k A) (h : Ex G k sc st m H Q) : ExA G A env st m H Q := fun ρ s d V => h A env ρ s he hr d V
theorem ExsA.mono {e : List Stmt} {Q Q' : AF → Vars → List AO → Prop} (h : ExsA G A env e m H Q) (hq : ∀ f m' H', Q f m' H' → Q' f m' H') : ExsA G A env e m H Q' :=
  fun ρ s h3 h4 => wpAny_mono (h ρ s h3 h4) (fun _ _ ⟨ρ', H', m', af, q1, q2, q3, q4, q5⟩ => ⟨ρ', H', m', af, q1, q2, q3, q4, hq _ _ _ q5⟩) fun _ _ x => x
theorem ExsA.cons {st : Stmt} {rest : List Stmt} {Q : AF → Vars → List AO → Prop}
    (h : ExA G A env st m H fun f m₁ H₁ => match f with | .next => ExsA G A env rest m₁ H₁ Q | f => Q f m₁ H₁) : ExsA G A env (st :: rest) m H Q := by
  intro ρ s d V
  refine wpAny_execs_cons (wpAny_mono (h ρ s d V) (fun f s₁ hP => ?_) fun _ _ q => q)
  obtain ⟨ρ₁, H₁, m₁, af, x₁, d₁, V₁, hf, h₁⟩ := hP
  cases af with
  | next => cases hf; exact wp_fromX x₁ (h₁ ρ₁ s₁ d₁ V₁)
  | brk => cases hf; exact ⟨ρ₁, H₁, m₁, .brk, x₁, d₁, V₁, rfl, h₁⟩
  | cont => cases hf; exact ⟨ρ₁, H₁, m₁, .cont, x₁, d₁, V₁, rfl, h₁⟩
  | ret v => obtain ⟨cv, rfl, hv⟩ := hf; exact ⟨ρ₁, H₁, m₁, .ret v, x₁, d₁, V₁, ⟨cv, rfl, hv⟩, h₁⟩
theorem ExsA.step {st : Stmt} {rest : List Stmt} {Q : AF → Vars → List AO → Prop} (he : EnvOK sc env) (hr : Rm k A)
    (h : Ex G k sc st m H fun f m₁ H₁ => match f with | .next => ExsA G A env rest m₁ H₁ Q | f => Q f m₁ H₁) : ExsA G A env (st :: rest) m H Q := ExsA.cons (ExA.of he hr h)

noncomputable def FoIA (G : Gl) (A : Around) (env : Env) (target : Expr) (body : List Stmt) (P : ItP) (m : Vars) (H : List AO) (Q : AF → Vars → List AO → Prop) : Prop :=
  ∀ ρ s I hs g ρ₀ s₀, Wd G ρ H s → Vr G ρ env m s → StpX g (own env) ρ₀ s₀ ρ s → HidS G s₀ ρ (alls env) hs g → P A ρ s I hs g →
    codeAny G.M A (.forLoop target (.ref I) body [] env) (fun r s' => ∃ f, r = .ok f ∧ PX G env ρ₀ s₀ Q f s') s
theorem FoIA.less {target : Expr} {body : List Stmt} {P : ItP} {Q : AF → Vars → List AO → Prop} {m' : Vars} (h : FoIA G A env target body P m' H Q) (hm : ∀ x v, m'.lookup x = some v → m.lookup x = some v) : FoIA G A env target body P m H Q :=
  fun ρ s I hs g ρ₀ s₀ d V x hid hi => h ρ s I hs g ρ₀ s₀ d (V.less hm) x hid hi
theorem FoIA.end {target : Expr} {body : List Stmt} {P : ItP} {Q : AF → Vars → List AO → Prop} (hr : Rm k A) (hn : NxEnd G k P H) (h : Q .next m H) : FoIA G A env target body P m H Q := by
  intro ρ s I hs g ρ₀ s₀ d V x hid hi
  refine for_turn (wpAny_mono (hn A ρ s I hs g hr d hi hid.nin hid.base) (fun r s' hP => ?_) fun _ _ q => q)
  obtain ⟨e, y, d', hf⟩ := hP
  subst e
  exact ⟨.next, rfl, ρ, H, m, .next, (x.hid y hid.new hid.gnew).fin hf, d', V.hid y hid.own, rfl, h⟩
theorem FoIA.item {target : Expr} {body : List Stmt} {P P' : ItP} {H' : List AO} {v : AV} {Q : AF → Vars → List AO → Prop} (he : EnvOK sc env) (hr : Rm k A) (hn : NxItem G k target P P' H H' v) (hp : Pers G P')
    (h : As G k sc target v m H' fun m₁ H₁ => ExsA G A env body m₁ H₁ fun f m₂ H₂ => match f with
      | .next => FoIA G A env target body P' m₂ H₂ Q
      | .cont => FoIA G A env target body P' m₂ H₂ Q
      | _ => False) : FoIA G A env target body P m H Q := by
  intro ρ s I hs g ρ₀ s₀ d V x hid hi
  refine for_turn (wpAny_mono (hn A ρ s I hs g hr d hi hid.nin hid.base) (fun r s₁ hP => ?_) fun _ _ q => q)
  obtain ⟨cv, e, h₁⟩ := hP
  subst e
  refine wpAny_mono h₁ (fun _ s₁ hP => ?_) fun _ _ q => q
  obtain ⟨ρ₁, hs', y, d₁, hv, hi₁, hn₁⟩ := hP
  have hid' := hid_grow hid V d x hn₁
  have V₁ := V.hid y hid.own
  have x₁ := x.hid y hid.new hid.gnew
  refine wpAny_mono (h A env ρ₁ s₁ cv he hr d₁ V₁ hv) (fun _ s₂ hP => ?_) fun _ _ q => q
  obtain ⟨ρ₂, H₂, m₂, x₂, d₂, V₂, h₂⟩ := hP
  refine wpAny_mono (h₂ ρ₂ s₂ d₂ V₂) (fun f s₃ hP => ?_) fun _ _ q => q
  obtain ⟨ρ₃, H₃, m₃, af, x₃, d₃, V₃, hf, h₃⟩ := hP
  have x13 := x₂.trans x₃
  have on : FoIA G A env target body P' m₃ H₃ Q → codeAny G.M A (.forLoop target (.ref I) body [] env) (fun r s' => ∃ f, r = .ok f ∧ PX G env ρ₀ s₀ Q f s') s₃ := fun w =>
    w ρ₃ s₃ I hs' g ρ₀ s₀ d₃ V₃ (x₁.step x13) ⟨hid'.new, fun a ha => by
      obtain ⟨o, ho⟩ := hp.live _ _ _ _ _ _ hi₁ a ha
      exact x13.notin (hid'.nin a ha) ho, hid'.own, hid'.base, hid'.gnew⟩ (hp.step _ _ _ _ _ _ _ _ _ x13 (fun a ha => ⟨hid'.nin a ha, fun q => hid'.own a ha (own_sub q)⟩) hi₁)
  cases af with
  | next => cases hf; exact on h₃
  | cont => cases hf; exact on h₃
  | brk => exact h₃.elim
  | ret w => exact h₃.elim
theorem FoIA.inv {target : Expr} {body : List Stmt} {Q : AF → Vars → List AO → Prop} (he : EnvOK sc env) (hr : Rm k A) (P : Nat → ItP) (I : Nat → Vars → List AO → Prop) (N : Nat) (pers : ∀ i, Pers G (P i))
    (hend : ∀ m H, I N m H → NxEnd G k (P N) H ∧ Q .next m H)
    (step : ∀ i m H, i < N → I i m H → ∃ H' v, NxItem G k target (P i) (P (i + 1)) H H' v ∧ As G k sc target v m H' fun m₁ H₁ => ExsA G A env body m₁ H₁ (TurnOk (I (i + 1)))) :
    ∀ n i m H, n = N - i → i ≤ N → I i m H → FoIA G A env target body (P i) m H Q := by
  intro n
  induction n with
  | zero =>
    intro i m H hn hi hI
    have e : i = N := end_n hn hi
    subst e
    exact FoIA.end hr (hend m H hI).1 (hend m H hI).2
  | succ n ih =>
    intro i m H hn hi hI
    obtain ⟨H', v, hx, h⟩ := step i m H (step_n hn).2 hI
    refine FoIA.item he hr hx (pers (i + 1)) ?_
    refine fun A' env' ρ s cv he' hr' d V hv => wpAny_mono (h A' env' ρ s cv he' hr' d V hv) (fun _ _ ⟨ρ', H'', m', q1, q2, q3, q4⟩ => ⟨ρ', H'', m', q1, q2, q3, ExsA.mono q4 fun f m₂ H₂ ⟨hf, m'', hs, hI'⟩ => ?_⟩) fun _ _ q => q
    have z := (ih (i + 1) m'' H₂ (step_n hn).1 (step_n hn).2 hI').less hs.sub
    rcases hf with q | q
    · subst q; exact z
    · subst q; exact z
theorem ExA.for {target iter : Expr} {body : List Stmt} {pos : Pos} {Q : AF → Vars → List AO → Prop} (he : EnvOK sc env) (hr : Rm k A) (h : ItNew G k sc iter m H fun P H₁ => FoIA G A env target body P m H₁ Q)
    (hs : ∀ env x, foldedSetIterable iter env x = pure x := by intro _ _; rfl) : ExA G A env (.For target iter body [] pos) m H Q := by
  intro ρ s d V
  refine wpAny_For (wpAny_mono (h A env ρ s he hr d V) (fun v s₁ h₁ => ?_) fun _ _ q => q.elim) (hs env)
  refine wpAny_mono h₁ (fun it s₂ hP => ?_) fun _ _ q => q.elim
  obtain ⟨ρ₂, H₂, I, hs, g, P, e, x, d₂, hn, hg, hi, _, h₂⟩ := hP
  subst e
  exact codeAny_mono (h₂ ρ₂ s₂ I hs g ρ s d₂ (x.vr V (by simp)) (x.mono (by simp)) ⟨fun a ha => (hn a ha).1, fun a ha => (hn a ha).2.1, fun a ha => V.own_none (hn a ha).1, fun a ha => (hn a ha).2.2, hg⟩ hi) fun r s' ⟨f, e, x⟩ => by subst e; exact x

noncomputable def SldOut (H : List AO) (xs ys : List Int) (l : List AO) : List AO := H ++ .list ((sld xs ys).1.map .int) :: .list ((sld xs ys).2.map .int) :: l
inductive SldR (H : List AO) (xs ys : List Int) (v : AV) (H' : List AO) : Prop
  | mk (l : List AO) (rt : Nat) (e1 : v = .ref rt) (e2 : H' = SldOut H xs ys l) (hrt : H'[rt]? = some (.tup [.ref H.length, .ref (H.length + 1)]))
inductive SldA (K : List Int → List Int → List AO → Nat → Prop) (vs : List AV) (H : List AO) : Prop
  | mk (x y : Nat) (xs ys : List Int) (ev : vs = [.ref x, .ref y]) (hx : H[x]? = some (.list (xs.map .int))) (hy : H[y]? = some (.list (ys.map .int))) (px : xs.Pairwise (· < ·)) (py : ys.Pairwise (· < ·)) (lx : xs.length ≤ 20) (ly : ys.length ≤ 20)
    (h : ∀ l rt, (SldOut H xs ys l)[rt]? = some (.tup [.ref H.length, .ref (H.length + 1)]) → K xs ys l rt)
theorem ExA.sld (hK : TopIs G) {t e : Expr} {es : List Expr} {f : Str} {np cp pos : Pos} {Q : AF → Vars → List AO → Prop} (he : EnvOK sc env) (hr : Rm (k + 1) A) (hfr : A.frames = some [env]) (hfL : env.frame = some env.locals)
    (hm : G.mg f = some (.ref (G.adr (Str.ofString "sorted_list_difference")))) (hl : sc.names.lookup f = some .globalImplicit)
    (h : Evs G (k + 1) sc (e :: es) m H fun vs H₁ => SldA (fun xs ys l rt => As G (k + 1) sc t (.ref rt) m (SldOut H₁ xs ys l) fun m' H' => Q .next m' H') vs H₁)
    (he1 : ∀ env, starEach (e :: es) env = (false, eval e env) :: starEach es env := by intro _; rfl)
    (hc : ∀ env, eval (.Call (.Name f np) (e :: es) [] cp) env = (do callWith cp (← eval (.Name f np) env) [] (backTo cp (starEach (e :: es) env)) (backToKw cp (keywordEach [] env))) := by intro _; rfl)
    (he' : ∀ env, (assignEach [t] env).map (·.2) = [PySem.assign t env] := by intro _; rfl)
    (hs : ∀ env, EnvOK sc env → swapsWithSole [t] (.Call (.Name f np) (e :: es) [] cp) pos.line env = pure false := by intro _ _; rfl) (hw : ∀ env, EnvOK sc env → swappedStores [t] (.Call (.Name f np) (e :: es) [] cp) env = pure none := by intro _ _; rfl)
    (hd' : (f == ("__debug__" : Str)) = false := by decide) :
    ExA G A env (.Assign [t] (.Call (.Name f np) (e :: es) [] cp) pos) m H Q := by
  intro ρ s d V
  obtain ⟨_, o, fd, ho, hdt⟩ := hK.by (f := Str.ofString "sorted_list_difference") (by kernel_rfl)
  refine wpAny_Assign_stores ?_ (hs env he) (hw env he)
  refine Call_ (PE.map (Ev.global (k := k + 1) (Q := fun v H' => v = .con (.ref (G.adr (Str.ofString "sorted_list_difference"))) ∧ H' = H) hm hl ⟨rfl, rfl⟩ hd' A env ρ s he hr d V) fun v s₁ ρ₁ H₁ av x₁ d₁ r₁ h₁ => ?_) (hc env)
  obtain ⟨rfl, rfl⟩ := h₁
  cases r₁
  refine callWith_def hdt (wpAny_mono (h A env ρ₁ s₁ cp he hr d₁ (V.stepE x₁)) (fun vs s₂ hP => ?_) fun _ _ q => q.elim) (he1 env)
  obtain ⟨ρ₂, H₂, avs, x₂, d₂, r₂, x, y, xs, ys, ev, hx, hy, px, py, lx, ly, h₂⟩ := hP
  refine ⟨d₂.base _ _ ho, ?_⟩
  subst ev
  obtain ⟨a, b, rfl, ra, rb⟩ : ∃ a b, vs = [a, b] ∧ VR ρ₂ (.ref x) a ∧ VR ρ₂ (.ref y) b := by
    cases r₂ with
    | cons ra r =>
      cases r with
      | cons rb r => cases r; exact ⟨_, _, rfl, ra, rb⟩
  have hkL : env.scope.kind ≠ .module := by rw [he.scope, he.kind]; decide
  refine wpAny_mono (sld_call (Q := SldR H₂ xs ys) hK hr hfr hfL hkL d₂ ((V.stepE x₁).stepE x₂) hx hy px py lx ly ra rb (fun l rt hrt => ⟨l, rt, rfl, rfl, hrt⟩)) (fun v s₃ hP => ?_) fun _ _ q => q.elim
  obtain ⟨ρ₃, H₃, av, x₃, d₃, V₃, r₃, l, rt, e1, e2, hrt⟩ := hP
  subst e1 e2
  rw [he']
  refine wpAny_mono (h₂ l rt hrt A env ρ₃ s₃ v he hr d₃ V₃ r₃) (fun _ s₄ hP => ?_) fun _ _ q => q.elim
  obtain ⟨ρ₄, H₄, m₄, x₄, d₄, V₄, h₄⟩ := hP
  have x₃' : Stp (own env) ρ₂ s₂ ρ₃ s₃ := x₃.mono fun a ha => by simp at ha; subst ha; exact .head _
  exact ⟨ρ₄, H₄, m₄, .next, ((x₁.wide.trans x₂.wide).trans x₃').trans x₄, d₄, V₄, rfl, h₄⟩
end Mine
end
section
open PySem PySem.W PyProof.Rows PySem.Calls
set_option maxRecDepth 100000
namespace Mine
variable {G : Gl} {k : Nat} {sc : Scope} {m : Vars} {H : List AO}

/- law's comprehensions -/
noncomputable def tab6 (cs : List Str) (x : Int) : Str := cs.getD (x.fmod 6).toNat sE
theorem fmod6 (x : Int) : 0 ≤ x.fmod 6 ∧ (x.fmod 6).toNat < 6 := by
  have h1 := Int.fmod_nonneg_of_pos x (b := 6) (by decide)
  have h2 := Int.fmod_lt_of_pos x (b := 6) (by decide)
  lia
theorem tab_get {cs : List Str} (h : cs.length = 6) (x : Int) : (cs.map AV.str)[(x.fmod 6).toNat]? = some (.str (tab6 cs x)) := by
  have h1 := (fmod6 x).2
  unfold tab6
  rw [List.getElem?_map, List.getD_eq_getElem?_getD, List.getElem?_eq_getElem (by lia)]; rfl

theorem co_tab {iter : Expr} {scope : Scope} {pos p1 p2 p3 p4 p5 px : Pos} {x : Str} {j k6 : Nat} {rs : List Int} {mC : Vars} {Q : Vars → List AO → Prop} {c0 c1 c2 c3 c4 c5 : Str} {k0 k1 k2 k3 k4 k5 : Nat} {q0 q1 q2 q3 q4 q5 : Pos}
    (hl : sc.names.lookup x = some .local) (hok : NameOk x) (hj : H[j]? = some (.list (rs.map .int))) (hlen : rs.length ≤ 900)
    (hq : ∀ m' l, Q m' (H ++ AO.list ((rs.map (tab6 [c0, c1, c2, c3, c4, c5])).map .str) :: l)) :
    Co G k sc (.Subscript (.List [.Constant (.str c0) k0 q0, .Constant (.str c1) k1 q1, .Constant (.str c2) k2 q2, .Constant (.str c3) k3 q3, .Constant (.str c4) k4 q4, .Constant (.str c5) k5 q5] p1) (.BinOp (.Name x p3) .Mod (.Constant (.int 6) k6 p5) p4) p2) (.Name x px) iter [] scope pos (ItL j 0) H.length mC (H ++ [.list []]) Q := by
  refine Co.less (m' := []) (Co.inv (ItL j) (fun i m' H' => m' = [] ∧ ∃ l, H' = H ++ AO.list (((rs.take i).map (tab6 [c0, c1, c2, c3, c4, c5])).map .str) :: l) rs.length (fun _ => ItL.pers) ?_ ?_ rs.length 0 _ _ (by lia) (Nat.zero_le _) ⟨rfl, [], rfl⟩) (fun _ _ h => by cases h)
  · rintro m' H' ⟨rfl, l, rfl⟩
    refine ⟨NxEnd.list (getElem?_ext hj) (by simp), ?_⟩
    rw [List.take_length]; exact hq _ _
  · rintro i m' H' hi' ⟨rfl, l, rfl⟩
    refine ⟨_, _, NxItem.list (getElem?_ext hj) (by rw [List.getElem?_map, List.getElem?_eq_getElem hi']; rfl), As.name (Sn.local hl ?_ hok)⟩
    show If2 _ _
    refine ⟨(fun q => by cases q), fun _ => Ev.subL (Ev.list (Evs.cons (Ev.cstr (Evs.cons (Ev.cstr (Evs.cons (Ev.cstr (Evs.cons (Ev.cstr (Evs.cons (Ev.cstr (Evs.cons (Ev.cstr (Evs.nil ⟨by simp, ?_⟩))))))))))))))⟩
    refine Ev.bin (Ev.var (by rw [List.lookup_cons, beq_self_eq_true]) (Ev.cint (Op.mod (by decide) ?_)))
    refine ⟨_, [c0, c1, c2, c3, c4, c5].map .str, _, _, rfl, rfl, List.getElem?_concat_length, by simp, .inl ⟨(fmod6 _).1, tab_get rfl _⟩, ?_⟩
    refine ⟨((rs.take i).map (tab6 [c0, c1, c2, c3, c4, c5])).map .str, [], by rw [List.append_assoc]; exact at_off (n := 0) rfl, by simp; lia, trivial, rfl, l ++ [AO.list ([c0, c1, c2, c3, c4, c5].map .str)], ?_⟩
    rw [List.append_assoc, List.set_append_right _ _ (Nat.le_refl _), Nat.sub_self, List.take_succ_eq_append_getElem hi', List.map_append, List.map_append]
    rfl

theorem co_things (hK : TopIs G) {iter : Expr} {scope : Scope} {pos lp np rp kp sp cp kp2 px : Pos} {r : Nat} {rs : List Int} {Q : Vars → List AO → Prop}
    (hlv : sc.names.lookup (Str.ofString "_law_value") = some .globalImplicit) (hlk : sc.names.lookup (Str.ofString "k") = some .local) (hr : H[r]? = some (.list (rs.map .int))) (hlen : rs.length ≤ 900)
    (hq : ∀ m', Q m' (H ++ AO.list (((List.range rs.length).map (H.length + 1 + ·)).map .ref) :: (List.range rs.length).map fun (j : Nat) => AO.list [.int (lvI (rs.getD j 0)), .int (j : Int)])) :
    Co G (k + 1) sc (.List [.Call (.Name (Str.ofString "_law_value") np) [.Subscript (.Name (Str.ofString "row") rp) (.Name (Str.ofString "k") kp) sp] [] cp, .Name (Str.ofString "k") kp2] lp) (.Name (Str.ofString "k") px) iter [] scope pos (ItRI 0 1 rs.length 0) H.length
      [(Str.ofString "row", .ref r)] (H ++ [.list []]) Q := by
  refine Co.inv (ItRI 0 1 rs.length) (fun i m' H' => m' = [(Str.ofString "row", AV.ref r)] ∧ H' = H ++ AO.list (((List.range i).map (H.length + 1 + ·)).map .ref) :: (List.range i).map fun (j : Nat) => AO.list [.int (lvI (rs.getD j 0)), .int (j : Int)]) rs.length (fun _ => ItRI.pers) ?_ ?_ rs.length 0 _ _ (by lia) (Nat.zero_le _) ⟨rfl, rfl⟩
  · rintro m' H' ⟨rfl, rfl⟩
    exact ⟨NxEnd.rngI, hq _⟩
  · rintro i m' H' hi' ⟨rfl, rfl⟩
    refine ⟨_, _, NxItem.rngI hi', As.name (Sn.local hlk ?_)⟩
    rw [show (0 : Int) + (i : Int) * 1 = (i : Int) by lia]
    show If2 _ _
    refine ⟨(fun q => by cases q), fun _ => Ev.list (Evs.cons (callTop hK (by kernel_rfl) hlv (Evs.cons (Ev.subL (Ev.var rfl (Ev.var rfl ⟨r, _, _, _, rfl, rfl, getElem?_ext hr, by simp; lia, .inl ⟨Int.natCast_nonneg _, getI hi'⟩, Evs.nil (law_value_c hK (Evs.cons (Ev.var rfl (Evs.nil ⟨by simp, ?_⟩))))⟩))))))⟩
    refine ⟨((List.range i).map (H.length + 1 + ·)).map .ref, [(Str.ofString "row", AV.ref r)], by rw [List.append_assoc]; exact at_off (n := 0) rfl, by simp; lia, ⟨rfl, trivial⟩, rfl, ?_⟩
    rw [List.append_assoc, List.set_append_right _ _ (Nat.le_refl _), Nat.sub_self, List.range_succ, List.map_append, List.map_append, List.map_append]
    simp
    lia

theorem abAcc_up {lt : Nat → Nat → Bool} {ts : List Nat} : ∀ (ks : List Nat) (st : Nat × List Nat), st.2.length ≤ (ks.foldl (abStep lt ts) st).2.length
  | [], st => Nat.le_refl _
  | j :: ks, st => by
    rw [List.foldl_cons]
    have h1 := abAcc_up (lt := lt) (ts := ts) ks (abStep lt ts st j)
    have h2 : st.2.length ≤ (abStep lt ts st j).2.length := by unfold abStep; split <;> simp
    lia
theorem above_some {lt : Nat → Nat → Bool} {ts : List Nat} {p : Nat} : 1 ≤ (aboveP lt ts p).length := by
  have h1 := abAcc_up (lt := lt) (ts := ts) (abRow p ts.length 1) (ts.getD p 0, abAcc lt ts p 1)
  have h2 := abAcc_up (lt := lt) (ts := ts) (abRow p ts.length 0) (ts.getD p 0, abAcc lt ts p 0)
  have h3 : (abAcc lt ts p 0).length = 1 := rfl
  exact Nat.le_trans (by rw [← h3]; exact h2) h1
theorem co_above (hK : TopIs G) {iter : Expr} {scope : Scope} {pos np tp kp cp px : Pos} {kt : Nat} {ts : List Nat} {val : Nat → Int × Int} {ways : List (List Int)} {Q : Vars → List AO → Prop}
    (hlv : sc.names.lookup (Str.ofString "_law_above") = some .globalImplicit) (hlk : sc.names.lookup (Str.ofString "k") = some .local) (ht : H[kt]? = some (.list (ts.map .ref))) (hlen : ts.length ≤ 30) (T : Things H val ts) (wl : ways.length = ts.length)
    (above : ∀ p, p < ts.length → ∀ ns : List Int, ns.Perm (intsOf (aboveP (ltv val) ts p)) → ns.Pairwise (· ≤ ·) → ways[p]? = some ns)
    (hq : ∀ m' rs l, RefL (H ++ AO.list (rs.map .ref) :: l) rs ways → Q m' (H ++ AO.list (rs.map .ref) :: l)) :
    Co G (k + 1) sc (.Call (.Name (Str.ofString "_law_above") np) [.Name (Str.ofString "things") tp, .Name (Str.ofString "k") kp] [] cp) (.Name (Str.ofString "k") px) iter [] scope pos (ItRI 0 1 ts.length 0) H.length
      [(Str.ofString "things", .ref kt)] (H ++ [.list []]) Q := by
  refine Co.inv (ItRI 0 1 ts.length) (fun i m' H' => m' = [(Str.ofString "things", AV.ref kt)] ∧ ∃ rs l, H' = H ++ AO.list (rs.map .ref) :: l ∧ RefL H' rs (ways.take i) ∧ ∀ r ∈ rs, r ≠ H.length) ts.length (fun _ => ItRI.pers) ?_ ?_ ts.length 0 _ _ (by lia) (Nat.zero_le _) ⟨rfl, [], [], rfl, .nil, by simp⟩
  · rintro m' H' ⟨rfl, rs, l, rfl, R, _⟩
    refine ⟨NxEnd.rngI, hq _ _ _ ?_⟩
    rw [List.take_of_length_le (by lia)] at R
    exact R
  · rintro i m' H' hi' ⟨rfl, rs, l, rfl, R, hn⟩
    refine ⟨_, _, NxItem.rngI hi', As.name (Sn.local hlk ?_)⟩
    rw [show (0 : Int) + (i : Int) * 1 = (i : Int) by lia]
    show If2 _ _
    refine ⟨(fun q => by cases q), fun _ => callTop hK (by kernel_rfl) hlv (Evs.cons (Ev.var rfl (Evs.cons (Ev.var rfl (Evs.nil (law_above_c hK (getElem?_ext ht) hi' hlen (fun t htt => getElem?_ext (T t htt)) fun l' r ns hr h1 h2 => ?_))))))⟩
    have hw := above i hi' ns h1 h2
    have hrl := R.length
    have hne : r ≠ H.length := fun e => by
      subst e
      rw [List.append_assoc] at hr
      have : (H ++ (AO.list (rs.map .ref) :: l ++ l'))[H.length]? = some (AO.list (rs.map .ref)) := at_off (n := 0) rfl
      rw [this] at hr
      have hlist : rs.map AV.ref = ns.map AV.int := by injection hr with q; injection q
      have hnl := h1.length_eq
      have := above_some (lt := ltv val) (ts := ts) (p := i)
      match rs, ns, hlist with
      | [], [], _ => simp [intsOf] at hnl; lia
      | [], _ :: _, q => cases q
      | _ :: _, [], q => cases q
      | _ :: _, _ :: _, q => injection q with q _; cases q
    refine ⟨rs.map .ref, [(Str.ofString "things", AV.ref kt)], by rw [List.append_assoc]; exact at_off (n := 0) rfl, by simp at hrl ⊢; lia, ⟨rfl, trivial⟩, rfl, rs ++ [r], l ++ l', ?_, ?_, ?_⟩
    · rw [List.append_assoc, List.set_append_right _ _ (Nat.le_refl _), Nat.sub_self, List.map_append]; rfl
    · rw [List.take_add_one, hw]
      refine RefL.snoc ((R.ext l').set (fun h => hn _ h rfl) _) ?_
      exact getElem?_set_ne' hr hne.symm
    · intro q hq
      rcases List.mem_append.mp hq with h | h
      · exact hn q h
      · simp at h; rw [h]; exact hne

theorem co_units {iter : Expr} {scope : Scope} {pos np tp px py : Pos} {kk : Nat} {us : Un} {mC : Vars} {Q : Vars → List AO → Prop} (h1 : sc.names.lookup (Str.ofString "place") = some .local) (h2 : sc.names.lookup (Str.ofString "unit") = some .local) (h0 : 0 < us.length) (hlen : us.length ≤ 900)
    (hq : ∀ m' l, Q m' (H ++ AO.list ((us.map (·.2)).map .str) :: l)) :
    Co G k sc (.Name (Str.ofString "unit") np) (.Tuple [.Name (Str.ofString "place") px, .Name (Str.ofString "unit") py] kk tp) iter [] scope pos (ItGI G us 0) H.length mC (H ++ [.list []]) Q := by
  refine Co.less (m' := []) (Co.inv (ItGI G us) (fun i m' H' => m' = [] ∧ ∃ l, H' = H ++ AO.list (((us.take i).map (·.2)).map .str) :: l) us.length ItGI.pers ?_ ?_ us.length 0 _ _ (by lia) (Nat.zero_le _) ⟨rfl, [], rfl⟩) (fun _ _ h => by cases h)
  · rintro m' H' ⟨rfl, l, rfl⟩
    refine ⟨NxEnd.genI h0, ?_⟩
    rw [List.take_length]; exact hq _ _
  · rintro i m' H' hi' ⟨rfl, l, rfl⟩
    obtain ⟨p, u, hpu⟩ : ∃ p u, us[i] = (p, u) := ⟨_, _, rfl⟩
    have hget : us[i]? = some (p, u) := by rw [List.getElem?_eq_getElem hi', hpu]
    refine ⟨_, _, NxItem.genI (fun _ _ _ _ _ _ h1 h2 => lotg_gen h1 h2) hget, As.tupT List.getElem?_concat_length rfl tup_names ?_⟩
    show As G k _ _ _ _ _ _
    refine As.name (Sn.local h1 ?_)
    show As G k _ _ _ _ _ _
    refine As.name (Sn.local h2 ?_)
    show If2 _ _
    refine ⟨(fun q => by cases q), fun _ => Ev.var rfl ?_⟩
    refine ⟨((us.take i).map (·.2)).map .str, [], by rw [List.append_assoc]; exact at_off (n := 0) rfl, by simp; lia, trivial, rfl, l ++ [AO.tup [.int (p : Int), .str u]], ?_⟩
    rw [List.append_assoc, List.set_append_right _ _ (Nat.le_refl _), Nat.sub_self, List.take_succ_eq_append_getElem hi', hpu, List.map_append, List.map_append]
    rfl

theorem co_filter {iter : Expr} {scope : Scope} {pos np xp yp cp px : Pos} {x y : Str} {j b : Nat} {xs ys : List Int} {Q : Vars → List AO → Prop} (hl : sc.names.lookup x = some .local) (hok : NameOk x) (hxy : (y == x) = false) (hm : behindInMarks .NotIn (.Name y yp) = false)
    (hj : H[j]? = some (.list (xs.map .int))) (hb : H[b]? = some (.list (ys.map .int))) (hlen : xs.length ≤ 900)
    (hq : ∀ m', Q m' (H ++ [AO.list ((xs.filter fun x => !ys.contains x).map .int)])) :
    Co G k sc (.Name x np) (.Name x px) iter [.Compare (.Name x xp) [.NotIn] [.Name y yp] cp] scope pos (ItL j 0) H.length [(y, .ref b)] (H ++ [.list []]) Q := by
  refine Co.inv (ItL j) (fun i m' H' => m' = [(y, AV.ref b)] ∧ H' = H ++ [AO.list (((xs.take i).filter fun x => !ys.contains x).map .int)]) xs.length (fun _ => ItL.pers) ?_ ?_ xs.length 0 _ _ (by lia) (Nat.zero_le _) ⟨rfl, rfl⟩
  · rintro m' H' ⟨rfl, rfl⟩
    refine ⟨NxEnd.list (getElem?_ext hj) (by simp), ?_⟩
    rw [List.take_length]; exact hq _
  · rintro i m' H' hi' ⟨rfl, rfl⟩
    refine ⟨_, _, NxItem.list (getElem?_ext hj) (by rw [List.getElem?_map, List.getElem?_eq_getElem hi']; rfl), As.name (Sn.local hl ?_ hok)⟩
    have lx : List.lookup x [(x, AV.int xs[i]), (y, AV.ref b)] = some (.int xs[i]) := by rw [List.lookup_cons, beq_self_eq_true]
    have ly : List.lookup y [(x, AV.int xs[i]), (y, AV.ref b)] = some (.ref b) := by rw [List.lookup_cons, hxy, List.lookup_cons, beq_self_eq_true]
    show Ts _ _ _ _ _ _ _
    have hfl := List.length_filter_le (fun x => !ys.contains x) (xs.take i)
    have htl : (xs.take i).length ≤ xs.length := by simp; lia
    refine Ts.cmp (Ev.var lx (Ev.var ly (Op.notInI (getElem?_ext hb) (Tr.bool ⟨fun hf => ?_, fun htr => ?_⟩)))) hm
    · refine ⟨_, ?sub, rfl, ?_⟩
      case sub => exact ⟨ly, trivial⟩
      rw [List.take_succ_eq_append_getElem hi', List.filter_append, List.filter_cons_of_neg (by rw [hf]; decide)]
      simp
    · refine Ev.var lx ⟨((xs.take i).filter fun x => !ys.contains x).map .int, _, List.getElem?_concat_length, by rw [List.length_map]; lia, ?sub, rfl, ?_⟩
      case sub => exact ⟨ly, trivial⟩
      rw [List.set_append_right _ _ (Nat.le_refl _), Nat.sub_self, List.take_succ_eq_append_getElem hi', List.filter_append, List.filter_cons_of_pos (p := fun x => !ys.contains x) htr, List.map_append]
      rfl
end Mine
end
section
open PySem PySem.W PyProof.Rows PySem.Calls
set_option maxRecDepth 100000
namespace Mine
variable {G : Gl} {k : Nat} {sc : Scope} {m : Vars} {H : List AO}

/- the entry of a def with cells, from outside -/
theorem cellsFrom_acc : ∀ (names : List (Str × NameKind)) (n : Nat) (acc : List (Str × Addr)) (x : Str), (∃ c, acc.lookup x = some c) → ∃ c, (cellsFrom n names acc).lookup x = some c
  | [], _, _, _, h => h
  | (y, kd) :: r, n, acc, x, h => by
    unfold cellsFrom
    split
    · refine cellsFrom_acc r _ _ x ?_
      rw [List.lookup_cons]
      cases x == y with
      | true => exact ⟨_, rfl⟩
      | false => exact h
    · exact cellsFrom_acc r _ _ x h
theorem cellsFrom_has : ∀ (names : List (Str × NameKind)) (n : Nat) (acc : List (Str × Addr)) (x : Str), (x, NameKind.cell) ∈ names → ∃ c, (cellsFrom n names acc).lookup x = some c
  | [], _, _, _, h => by cases h
  | (y, kd) :: r, n, acc, x, h => by
    unfold cellsFrom
    rcases List.mem_cons.mp h with e | h
    · cases e
      rw [if_pos (by decide)]
      exact cellsFrom_acc r _ _ _ ⟨n, by rw [List.lookup_cons, beq_self_eq_true]⟩
    · split
      · exact cellsFrom_has r _ _ x h
      · exact cellsFrom_has r _ _ x h

theorem call_C {A : Around} {s : Shared} {a : Addr} {o : Obj} {fd : FuncData} {body : List Stmt} {n : Str} {v : AV} {cv : Value} {Q : AV → List AO → Prop} (ho : G.h₀.get? a = some o) (hd : o.data = .func fd) (hcd : G.h₀.CodeRec fd.code fd.qualname)
    (hbody : fd.body = .stmts body) (hbind : ∀ cv : Value, bindArgs fd ⟨[cv], []⟩ = pure [(n, cv)])
    (hkeys : ∀ j, ∀ p ∈ cellsFrom j fd.scope.names [], (cellsFrom j fd.scope.names []).lookup p.1 = some p.2) (hloc : fd.scope.names.lookup n = some .local)
    (hok : NameOk n) (hg : fd.globals = mainGlobals) (hb : fd.builtins = builtinsNs) (hcl : fd.closure = [])
    (hr : Rm (k + 1) A) (hfr : A.frames = some []) (d : Wd G [] [] s) (hv : VR [] v cv)
    (h : ∀ env, EnvOK fd.scope env → env.frame = some env.locals → (A.deeper env).frames = some [env] → Rm k (A.deeper env) → ExsA G (A.deeper env) env body [(n, v)] [] fun f _ H' => Q (retv f) H')
    (hco : fd.scope.isCoroutine = false := by rfl) (hgen : fd.scope.isGenerator = false := by rfl) (hk : fd.scope.kind = .function := by rfl) :
    wpAny G.M A (call (.ref a) [cv]) (PE G [] s Q) NoE s := by
  refine wpAny_call (codeAny_call_cells (fd := fd) (binds := [(n, cv)]) hr.room (d.base _ _ ho) hd (G.nl.keeps d.base) (hcd.keeps d.base) hbody (hbind cv) hcl (fun x hx => ?_) (fun s₁ X => ?_) hco hgen hk)
  · simp at hx; subst hx; exact .inl hloc
  have hL := fresh_none (h := s.heap)
  obtain ⟨env, henv⟩ : ∃ env, env = callEnvC fd s.heap.objs.size a := ⟨_, rfl⟩
  rw [← henv] at X ⊢
  have eL : env.locals = s.heap.objs.size := by rw [henv]; rfl
  have eC : env.cells = cellsFrom (s.heap.objs.size + 1) fd.scope.names [] := by rw [henv]; rfl
  have eF : env.func = some a := by rw [henv]; rfl
  have eS : env.scope = fd.scope := by rw [henv]; rfl
  have kl : env.kindOf n = some .local := by unfold Env.kindOf; rw [eS]; exact hloc
  have he : EnvOK fd.scope env := ⟨eS, hk, by rw [henv]; exact hg, by rw [henv]; exact hb, by rw [henv]; rfl, fun _ => ⟨by rw [eF]; rfl, fun x hx => by rw [eC]; exact cellsFrom_has _ _ _ x (lookup_mem hx)⟩⟩
  obtain ⟨h₁, tk, e₁, hk₁⟩ := X.done
  have above : ∀ x c, env.cells.lookup x = some c → s.heap.get? c = none := fun x c hc => by
    have h1 := X.above x c (mem_of_lookup hc)
    rw [eL] at h1
    cases q : s.heap.get? c with
    | none => rfl
    | some o => exact absurd (Heap.lt_size q) (Nat.not_lt.mpr (Nat.le_of_lt h1))
  have st : ∀ W, Stp W [] s [] s₁ := fun W => by rw [e₁]; exact Stp.keeps hk₁
  have d₁ : Wd G [] [] s₁ := by rw [e₁]; exact d.keeps hk₁
  have V : Vr G [] env [(n, v)] s₁ := by
    refine ⟨by rw [eL]; exact d.base_none hL, by simp, ⟨_, X.toInCall.ns, fun x w h1 _ => ?_⟩, fun x c hc => ?_, fun x w h1 => ?_, fun x y c hx hy => ?_, fun p hp => ?_⟩
    · rw [lookup_put] at h1
      by_cases q : x = n
      · rw [if_pos q] at h1
        cases h1
        refine ⟨cv, ?_, hv⟩
        simp only [bindL, kl, if_true, q]
      · rw [if_neg q] at h1; cases h1
    · obtain ⟨oc, ho', hd'⟩ := X.cell x c hc
      refine ⟨by simp, Nat.ne_of_gt (X.above x c (mem_of_lookup hc)), d.base_none (above x c hc), oc, _, ho', hd', ?_⟩
      · intro w h1 h2
        rw [lookup_put] at h1
        by_cases q : x = n
        · subst q; exact absurd kl h2
        · rw [if_neg q] at h1; cases h1
    · rw [lookup_put] at h1
      by_cases q : x = n
      · subst q; exact ⟨hok, .inl kl⟩
      · rw [if_neg q] at h1; cases h1
    · exact name_of_addr X.apart (mem_of_lookup hx) (mem_of_lookup hy)
    · rw [eC] at hp ⊢; exact hkeys _ p hp
  have hfr' : (A.deeper env).frames = some [env] := Around.frames_deeper hfr
  refine wpAny_mono (h env he (by rw [henv]; rfl) hfr' hr.deeper [] s₁ d₁ V) (fun f s' ⟨ρ', H', m', af, x', d', _, hf, hq⟩ => ?_) fun _ _ q => q.elim
  have x'' : Stp [] [] s ρ' s' := by
    have z := (st (own env)).trans x'
    refine ⟨z.ext, fun b o e h1 _ => z.keep b o e h1 fun q => ?_, z.alive, z.gens, z.os⟩
    rcases List.mem_cons.mp (own_sub q) with q | q
    · rw [q, eL, hL] at e; cases e
    · obtain ⟨p, hp, rfl⟩ := List.mem_map.mp q
      rw [above p.1 p.2 (V.keys p hp)] at e; cases e
  refine ⟨ρ', H', retv af, x'', d', ?_, hq⟩
  cases af with
  | next => cases hf; exact rfl
  | brk => cases hf; exact rfl
  | cont => cases hf; exact rfl
  | ret v => obtain ⟨cv, rfl, hv⟩ := hf; exact hv
end Mine
end
section
open PySem
set_option maxRecDepth 100000
namespace Mine

noncomputable abbrev P6 : List Str := [Str.ofString "a", Str.ofString "\\(", Str.ofString "\"(\"b", Str.ofString "\\\"", Str.ofString "c\"\\\")\"", Str.ofString "\\)"]
noncomputable abbrev N6 : List Str := [Str.ofString "a", Str.ofString "\\(", Str.ofString "b", Str.ofString "\\\"", Str.ofString "c", Str.ofString "\\)"]
noncomputable def lval (B : Nat) (rs : List Int) (t : Nat) : Int × Int := (lvI (rs.getD (t - B) 0), ((t - B : Nat) : Int))
noncomputable def lpl (B : Nat) (t : Nat) : Nat := t - B
noncomputable def lts (B n : Nat) : List Nat := (List.range n).map (B + ·)
theorem lts_len {B n : Nat} : (lts B n).length = n := by unfold lts; simp
theorem lts_get {B n p : Nat} (h : p < n) : (lts B n).getD p 0 = B + p := by
  unfold lts
  rw [List.getD_eq_getElem?_getD, List.getElem?_map, List.getElem?_range h]; rfl
theorem lts_mem {B n t : Nat} (h : t ∈ lts B n) : ∃ p, p < n ∧ t = B + p := by
  obtain ⟨p, hp, rfl⟩ := List.mem_map.mp h
  exact ⟨p, List.mem_range.mp hp, rfl⟩

theorem p6_cp : ∀ c, c < 6 → (P6.getD c sE).cps.toList = cp c := by
  intro c h
  match c, h with
  | 0, _ => decide
  | 1, _ => decide
  | 2, _ => decide
  | 3, _ => decide
  | 4, _ => decide
  | 5, _ => decide
theorem n6_un : ∀ c, c < 6 → N6.getD c sE = un c := by
  intro c h
  match c, h with
  | 0, _ => decide
  | 1, _ => decide
  | 2, _ => decide
  | 3, _ => decide
  | 4, _ => decide
  | 5, _ => decide
theorem p6_len : ∀ c, c < 6 → (P6.getD c sE).length ≤ 8 := by
  intro c h
  match c, h with
  | 0, _ => decide
  | 1, _ => decide
  | 2, _ => decide
  | 3, _ => decide
  | 4, _ => decide
  | 5, _ => decide
theorem n6_ok : ∀ c, c < 6 → PyData.strOk (N6.getD c sE) = true := by
  intro c h
  match c, h with
  | 0, _ => decide +kernel
  | 1, _ => decide +kernel
  | 2, _ => decide +kernel
  | 3, _ => decide +kernel
  | 4, _ => decide +kernel
  | 5, _ => decide +kernel

theorem law_ready (B : Nat) {rs : List Int} (h4 : 4 ≤ rs.length) (h7 : rs.length ≤ 7) :
    ∃ us st, LawOk (lval B rs) (lpl B) (lts B rs.length) (rs.map (tab6 P6)) (rs.map (tab6 N6)) (nestP (fun a b => ltv (lval B rs) b a) (lpl B) (rs.map (tab6 P6)) (lts B rs.length)) us st := by
  have P : Pls (lval B rs) (lpl B) (lts B rs.length) (fun p => lvI (rs.getD p 0)) := by
    refine ⟨fun p hp => ?_, fun p hp => ?_⟩
    · rw [lts_len] at hp
      rw [lts_get hp]; unfold lpl; lia
    · rw [lts_len] at hp
      rw [lts_get hp]; unfold lval; rw [Nat.add_sub_cancel_left]
  have z := law_pure P (ps := rs.map (tab6 P6)) (code := fun p => ((rs.getD p 0).fmod 6).toNat) (by rw [lts_len]; lia) (by rw [lts_len]; lia) (fun p hp => ?_) (fun p => (fmod6 _).2)
  · have e : ((List.range (lts B rs.length).length).map fun p => un ((rs.getD p 0).fmod 6).toNat) = rs.map (tab6 N6) := by
      rw [lts_len]
      refine List.ext_getElem (by simp) fun i h1 h2 => ?_
      have hi : i < rs.length := by simpa using h2
      rw [List.getElem_map, List.getElem_map, List.getElem_range, List.getD_eq_getElem?_getD, List.getElem?_eq_getElem hi, Option.getD_some]
      unfold tab6
      exact (n6_un _ (fmod6 _).2).symm
    rw [e] at z
    exact z
  · rw [lts_len] at hp
    rw [List.getD_eq_getElem?_getD, List.getElem?_map, List.getElem?_eq_getElem hp, List.getD_eq_getElem?_getD, List.getElem?_eq_getElem hp, Option.map_some, Option.getD_some, Option.getD_some]
    exact p6_cp _ (fmod6 _).2
end Mine
end
section
open PySem PySem.W PyProof.Rows PySem.Calls
set_option maxRecDepth 100000
namespace Mine
variable {G : Gl} {k : Nat} {sc : Scope} {m : Vars} {H : List AO}

theorem swaps_no {env : Env} {elt : Expr} {gens : List Comprehension} {scope : Scope} {pos py : Pos} {line : Nat} {y : Str} (he : EnvOK sc env) (hl : sc.names.lookup y = some .cell) : swapsWith (.ListComp elt gens scope pos) (some (.Name y py)) line env = pure false := by
  have h2 : env.kindOf y = some .cell := by unfold Env.kindOf; rw [he.scope]; exact hl
  unfold swapsWith
  show (pure (env.blockKind == .function && env.kindOf y == some .local && py.line == (Expr.ListComp elt gens scope pos).pos.line && !(scope.names.any fun (n, k) => n == y && (k == .local || k == .cell))) : Sem Bool) = pure false
  rw [h2]
  cases env.blockKind <;> rfl

theorem rng0 (n : Nat) : Builtin.Range.rangeSize 0 (n : Int) 1 = (n : Int) := by
  have z := rng_size_up 0 n (Nat.zero_le _)
  rw [Nat.sub_zero] at z
  exact z
theorem one_free {scope : Scope} {x : Str} {v : AV} (h1 : m.lookup x = some v) (h2 : scope.names.lookup x = some .free) (h3 : sc.names.lookup x = some .cell) :
    ∀ y w, List.lookup y [(x, v)] = some w → m.lookup y = some w ∧ scope.names.lookup y = some .free ∧ sc.names.lookup y = some .cell := by
  intro y w h
  rw [List.lookup_cons] at h
  cases q : y == x with
  | true => rw [q] at h; cases h; rw [eq_of_beq q]; exact ⟨h1, h2, h3⟩
  | false => rw [q] at h; cases h
theorem free_one {names : List (Str × NameKind)} {x : Str} {v : AV} (h : (names.all fun p => p.2 != .free || p.1 == x) = true) : ∀ n, (n, NameKind.free) ∈ names → ∃ w, List.lookup n [(x, v)] = some w := by
  intro n hn
  have z := List.all_eq_true.mp h _ hn
  have e : (n == x) = true := by simpa using z
  exact ⟨v, by rw [List.lookup_cons, e]⟩

structure LawIn (H : List AO) (r kt : Nat) (rs : List Int) (ts : List Nat) (val : Nat → Int × Int) (pl : Nat → Nat) : Prop where
  row : H[r]? = some (.list (rs.map .int))
  ht : H[kt]? = some (.list (ts.map .ref))
  tl : ts.length = rs.length
  T : Things H val ts
  hpl : ∀ t ∈ ts, (val t).2 = (pl t : Int) ∧ pl t < ts.length
theorem LawIn.ext {r kt : Nat} {rs : List Int} {ts : List Nat} {val : Nat → Int × Int} {pl : Nat → Nat} (I : LawIn H r kt rs ts val pl) (l : List AO) : LawIn (H ++ l) r kt rs ts val pl :=
  ⟨getElem?_ext I.row, getElem?_ext I.ht, I.tl, fun t h => getElem?_ext (I.T t h), I.hpl⟩
theorem law_in {H1 : List AO} {r : Nat} {rs : List Int} (hrow : H1[r]? = some (.list (rs.map .int))) :
    LawIn (H1 ++ AO.list (((List.range rs.length).map (H1.length + 1 + ·)).map .ref) :: (List.range rs.length).map fun (j : Nat) => AO.list [.int (lvI (rs.getD j 0)), .int (j : Int)]) r H1.length rs (lts (H1.length + 1) rs.length) (lval (H1.length + 1) rs) (lpl (H1.length + 1)) := by
  refine ⟨getElem?_ext hrow, at_off (n := 0) rfl, lts_len, fun t h => ?_, fun t h => ?_⟩
  · obtain ⟨p, hp, rfl⟩ := lts_mem h
    rw [Nat.add_assoc, Nat.add_comm 1 p]
    refine at_off (n := p + 1) ?_
    rw [List.getElem?_cons_succ, List.getElem?_map, List.getElem?_range hp]
    unfold lval
    simp only [show H1.length + (p + 1) - (H1.length + 1) = p by lia]
    rfl
  · obtain ⟨p, hp, rfl⟩ := lts_mem h
    rw [lts_len]
    unfold lpl lval
    exact ⟨rfl, by lia⟩

theorem sldF_le {n : Nat} : ∀ {xs ys : List Int}, (sldF n xs ys).1.length ≤ xs.length ∧ (sldF n xs ys).2.length ≤ ys.length := by
  induction n with
  | zero => intro xs ys; cases xs <;> cases ys <;> exact ⟨by simp [sldF], by simp [sldF]⟩
  | succ n ih =>
    intro xs ys
    cases xs with
    | nil => exact ⟨Nat.zero_le _, Nat.le_refl _⟩
    | cons x xs =>
      cases ys with
      | nil => exact ⟨Nat.le_refl _, Nat.zero_le _⟩
      | cons y ys =>
        have h1 := ih (xs := xs) (ys := y :: ys)
        have h2 := ih (xs := x :: xs) (ys := ys)
        have h3 := ih (xs := xs) (ys := ys)
        rw [sldF]
        split
        · simp at h1 ⊢; lia
        · split
          · simp at h2 ⊢; lia
          · simp at h3 ⊢; lia
theorem sld_le (xs ys : List Int) : (sld xs ys).1.length ≤ xs.length ∧ (sld xs ys).2.length ≤ ys.length := sldF_le
theorem ExsA.nil {A : Around} {env : Env} {Q : AF → Vars → List AO → Prop} (h : Q .next m H) : ExsA G A env [] m H Q :=
  fun ρ _ d V => wpAny_execs_nil ⟨ρ, H, m, .next, Stp.refl, d, V, rfl, h⟩

set_option maxHeartbeats 4000000 in
theorem law_c (hK : TopIs G) {A : Around} {s : Shared} {a : Addr} {vs : List Value} {ns : List Int} (hl : G.h₀.IsList a vs.toArray) (hi : IntsAre vs ns) (hlen : ns.length ≤ 63) (hr : Rm 12 A) (hfr : A.frames = some []) (d : Wd G [] [] s) :
    wpAny G.M A (call (.ref (G.adr (Str.ofString "law"))) [.ref a]) (PE G [] s fun v _ => v = .bool true) NoE s := by
  have eF := Eq.refl (fnD 23)
  conv at eF => rhs; whnf
  obtain ⟨oF, pmF, cdF, docF, hmF, hoF, hdF, hcdF⟩ := hK.at (by kernel_rfl) eF
  dsimp only [docDef] at hdF
  refine call_C (k := 11) (v := .con (.ref a)) hoF hdF hcdF rfl (fun cv => rfl) ?keys rfl (by decide) rfl rfl rfl hr hfr d VR.con' fun env he hfL hfr' hr' => ?_
  case keys =>
    intro j p hp
    change p ∈ [(Str.ofString "unexpected", j + 3), (Str.ofString "missing", j + 2), (Str.ofString "things", j + 1), (Str.ofString "row", j)] at hp
    change List.lookup p.1 [(Str.ofString "unexpected", j + 3), (Str.ofString "missing", j + 2), (Str.ofString "things", j + 1), (Str.ofString "row", j)] = some p.2
    simp only [List.mem_cons, List.not_mem_nil, or_false] at hp
    rcases hp with rfl | rfl | rfl | rfl <;> rfl
  dsimp only at he
  generalize A.deeper env = A' at hfr' hr' ⊢
  dsimp only
  -- row
  refine ExsA.step he hr' (Ex.assign (callTop hK (by kernel_rfl) rfl (Evs.cons (Ev.var rfl (Evs.nil (law_row_c hK hl hi hlen fun r l rs hrow h4 h7 => As.name (Sn.cell rfl rfl ?_)))))))
  dsimp only
  generalize [] ++ l = H1 at hrow ⊢
  -- things
  refine ExsA.step he hr' (Ex.assign (hs := fun env he => swaps_no (line := 216) he rfl) <| Ev.comp [(Str.ofString "row", .ref r)] (by decide) rfl (by decide) rfl (one_free rfl rfl rfl) (free_one (by decide)) <| ItNew.rng <| callTy (hK.no (by kernel_rfl)) boot_range' rfl <| Evs.cons <| callBi (hK.no (by kernel_rfl)) boot_len' rfl <| Evs.cons <| Ev.var rfl <| Evs.nil <| Op.lenL hrow (by simp; lia) <| Evs.nil <| Op.range1 ?_)
  rw [List.length_map]
  refine ⟨_, _, _, _, rfl, List.getElem?_concat_length, small_of (by lia) (by lia) (by lia) (by rw [rng0]; lia), ?_⟩
  rw [rng0, ← ItRI.start]
  refine co_things (k := 10) hK rfl rfl (getElem?_ext hrow) (by lia) fun m' => As.name (Sn.cell rfl rfl ?_)
  dsimp only
  have I0 := law_in (H1 := H1 ++ [AO.rng 0 (rs.length : Int) 1]) (getElem?_ext hrow)
  obtain ⟨us, st, ok⟩ := law_ready ((H1 ++ [AO.rng 0 (rs.length : Int) 1]).length + 1) h4 h7
  generalize lts ((H1 ++ [AO.rng 0 (rs.length : Int) 1]).length + 1) rs.length = ts at I0 ok
  generalize lval ((H1 ++ [AO.rng 0 (rs.length : Int) 1]).length + 1) rs = val at I0 ok
  generalize lpl ((H1 ++ [AO.rng 0 (rs.length : Int) 1]).length + 1) = pl at I0 ok
  generalize (_ ++ _ :: _ : List AO) = H2 at I0 ⊢
  generalize (_ ++ [_] : List AO).length = kt at I0 ⊢
  clear hrow
  -- pieces
  refine ExsA.step he hr' (Ex.comp [] (fun env he => swaps_yes he rfl (by decide) (by decide)) (by decide) rfl (by decide) rfl (fun _ _ h => by cases h) (fun n hn => by simp at hn) <| ItNew.list <| Ev.var rfl ⟨r, _, rfl, I0.row, ?_⟩)
  refine co_tab rfl (by decide) I0.row (by lia) fun m' l => As.name (Sn.local rfl ?_)
  have I1 := I0.ext (AO.list ((rs.map (tab6 P6)).map .str) :: l)
  have hp : (H2 ++ (AO.list ((rs.map (tab6 P6)).map .str) :: l))[H2.length]? = some (AO.list ((rs.map (tab6 P6)).map .str)) := at_off (n := 0) rfl
  generalize H2 ++ (AO.list ((rs.map (tab6 P6)).map .str) :: l) = H3 at I1 hp ⊢
  generalize H2.length = kp at hp ⊢
  clear I0
  dsimp only
  -- whole
  refine ExsA.step he hr' (Ex.assign <| callTop hK (by kernel_rfl) rfl <| Evs.cons <| Ev.var rfl <| Evs.cons <| Ev.var rfl <| Evs.nil <| law_nest_c hK I1.ht hp (by rw [I1.tl]; lia) (by rw [I1.tl, List.length_map]) I1.T I1.hpl ?_ fun l2 => As.name (Sn.local rfl ?_))
  · intro w hw
    obtain ⟨x, _, rfl⟩ := List.mem_map.mp hw
    exact p6_len _ (fmod6 x).2
  have I2 := I1.ext l2
  generalize H3 ++ l2 = H4 at I2 ⊢
  clear I1 hp
  generalize nestP (fun a b => ltv val b a) pl (rs.map (tab6 P6)) ts = whole at ok ⊢
  dsimp only
  -- the brackets
  refine ExsA.step he hr' (Ex.if <| Ts.cmp <| callTop hK (by kernel_rfl) rfl <| Evs.cons <| Ev.var rfl <| Evs.nil <| check_c hK ok.text.ok ok.text.ne ok.text.len ok.text.ok' ok.text.ne' (by rw [ok.text.un']; exact ok.bal) fun l3 => Ev.cbool <| Op.isNotTrue <| Tr.bool ⟨fun h => (by cases h), fun _ => Exs.nil ?_⟩)
  have I3 := I2.ext l3
  generalize H4 ++ l3 = H5 at I3 ⊢
  clear I2
  dsimp only
  -- units
  refine ExsA.step he hr' (Ex.comp [] (fun env he => swaps_yes he rfl (by decide) (by decide)) (by decide) rfl (by decide) rfl (fun _ _ h => by cases h) (fun n hn => by simp at hn) <| ItNew.chars hK rfl <| callTop hK (by kernel_rfl) rfl <| Evs.cons <| Ev.var rfl <| Evs.nil <| strip_c hK ok.text.ok ok.text.ne ok.text.len fun l4 => ⟨strip whole, rfl, ok.text.ok', ?_⟩)
  have I4 := I3.ext l4
  generalize H5 ++ l4 = H6 at I4 ⊢
  clear I3
  have hul := ok.text.ul
  rw [← ok.text.un', List.length_map] at hul
  refine co_units rfl rfl ok.text.ne' (by lia) fun m1 l5 => As.name (Sn.local rfl ?_)
  rw [ok.text.un']
  have I5 := I4.ext (AO.list (us.map .str) :: l5)
  have hu : (H6 ++ (AO.list (us.map .str) :: l5))[H6.length]? = some (AO.list (us.map .str)) := at_off (n := 0) rfl
  generalize H6 ++ (AO.list (us.map .str) :: l5) = H7 at I5 hu ⊢
  generalize H6.length = ku at hu ⊢
  clear I4
  dsimp only
  -- gaps, read, names
  refine ExsA.step he hr' (Ex.assign <| callTop hK (by kernel_rfl) rfl <| Evs.cons <| Ev.var rfl <| Evs.nil <| law_read_c hK hu ok.text.ul ok.rok fun l6 rt g s1 n1 gr sr hrt hg hs hn Rg Rs => As.tupT hrt rfl tup_names3 ?_)
  rw [ok.names] at hn
  rw [ok.signs] at Rs
  have I6 := I5.ext l6
  generalize H7 ++ l6 = H8 at I6 hrt hg hs hn Rg Rs ⊢
  clear I5 hu
  show As G 11 _ _ _ _ _ _
  refine As.name (Sn.local rfl ?_)
  show As G 11 _ _ _ _ _ _
  refine As.name (Sn.local rfl ?_)
  show As G 11 _ _ _ _ _ _
  refine As.name (Sn.local rfl ?_)
  show ExsA _ _ _ _ _ _ _
  -- ways, signs
  refine ExsA.step he hr' (Ex.assign <| callTop hK (by kernel_rfl) rfl <| Evs.cons <| Ev.var rfl <| Evs.nil <| law_ways_c hK I6.ht (by rw [I6.tl]; lia) (by rw [I6.tl]; lia) I6.T I6.hpl ok.hw fun l7 rt2 w s2 wr sr2 hrt2 hw hs2 Rw Rs2 => As.tupT hrt2 rfl tup_names ?_)
  have I7 := I6.ext l7
  have hg := getElem?_ext (l' := l7) hg
  have hs := getElem?_ext (l' := l7) hs
  have hn := getElem?_ext (l' := l7) hn
  have Rg := Rg.ext l7
  have Rs := Rs.ext l7
  generalize H8 ++ l7 = H9 at I7 hg hs hn Rg Rs hrt2 hw hs2 Rw Rs2 ⊢
  clear I6 hrt hrt2
  show As G 11 _ _ _ _ _ _
  refine As.name (Sn.local rfl ?_)
  show As G 11 _ _ _ _ _ _
  refine As.name (Sn.local rfl ?_)
  show ExsA _ _ _ _ _ _ _
  -- the names, the signs
  refine ExsA.step he hr' (Ex.if <| Ts.bools <| TsAll.or <| Ts.cmp <| Ev.var rfl <| Ev.comp [] (by decide) rfl (by decide) rfl (fun _ _ h => by cases h) (fun n hn => by simp at hn) <| ItNew.list <| Ev.var rfl ⟨r, _, rfl, I7.row, ?_⟩)
  refine co_tab rfl (by decide) I7.row (by lia) fun m2 l8 => ?_
  have I8 := I7.ext (AO.list ((rs.map (tab6 N6)).map .str) :: l8)
  have hg := getElem?_ext (l' := AO.list ((rs.map (tab6 N6)).map .str) :: l8) hg
  have hs := getElem?_ext (l' := AO.list ((rs.map (tab6 N6)).map .str) :: l8) hs
  have hn := getElem?_ext (l' := AO.list ((rs.map (tab6 N6)).map .str) :: l8) hn
  have hw := getElem?_ext (l' := AO.list ((rs.map (tab6 N6)).map .str) :: l8) hw
  have hs2 := getElem?_ext (l' := AO.list ((rs.map (tab6 N6)).map .str) :: l8) hs2
  have Rg := Rg.ext (AO.list ((rs.map (tab6 N6)).map .str) :: l8)
  have Rs := Rs.ext (AO.list ((rs.map (tab6 N6)).map .str) :: l8)
  have Rw := Rw.ext (AO.list ((rs.map (tab6 N6)).map .str) :: l8)
  have Rs2 := Rs2.ext (AO.list ((rs.map (tab6 N6)).map .str) :: l8)
  have hN : (H9 ++ AO.list ((rs.map (tab6 N6)).map .str) :: l8)[H9.length]? = some (AO.list ((rs.map (tab6 N6)).map .str)) := at_off (n := 0) rfl
  refine Op.neStrs (ns := rs.map (tab6 N6)) ?_ hn hN (Tr.bool ⟨fun h => (by cases h), fun _ => TsAll.or <| Ts.cmp <| Ev.var rfl <| Ev.var rfl <| Op.neRows hs hs2 Rs Rs2 <| Tr.bool ⟨fun h => (by cases h), fun _ => TsAll.orNil ⟨fun h => (by cases h), fun _ => Exs.nil ?_⟩⟩⟩)
  · intro w hw
    obtain ⟨x, _, rfl⟩ := List.mem_map.mp hw
    exact n6_ok _ (fmod6 x).2
  generalize H9 ++ AO.list ((rs.map (tab6 N6)).map .str) :: l8 = H10 at I8 hg hw Rg Rw ⊢
  clear I7 hs hn hs2 Rs Rs2 hN
  dsimp only
  -- above
  refine ExsA.step he hr' (Ex.if <| Ts.cmp <| Ev.var rfl <| Ev.comp [(Str.ofString "things", .ref kt)] (by decide) rfl (by decide) rfl (one_free rfl rfl rfl) (free_one (by decide)) <| ItNew.rng <| callTy (hK.no (by kernel_rfl)) boot_range' rfl <| Evs.cons <| callBi (hK.no (by kernel_rfl)) boot_len' rfl <| Evs.cons <| Ev.var rfl <| Evs.nil <| Op.lenL I8.row (by simp; lia) <| Evs.nil <| Op.range1 ?_)
  rw [List.length_map]
  refine ⟨_, _, _, _, rfl, List.getElem?_concat_length, small_of (by lia) (by lia) (by lia) (by rw [rng0]; lia), ?_⟩
  rw [rng0, ← ItRI.start, ← I8.tl]
  have I9 := I8.ext [AO.rng 0 (ts.length : Int) 1]
  refine co_above (k := 10) (val := val) (ways := st.ways) hK rfl rfl I9.ht (by rw [I8.tl]; lia) I9.T ok.wl ok.above fun m3 ar l9 Ra => ?_
  have I10 := I9.ext (AO.list (ar.map .ref) :: l9)
  have hg := getElem?_ext (l' := AO.list (ar.map .ref) :: l9) (getElem?_ext (l' := [AO.rng 0 (ts.length : Int) 1]) hg)
  have hw := getElem?_ext (l' := AO.list (ar.map .ref) :: l9) (getElem?_ext (l' := [AO.rng 0 (ts.length : Int) 1]) hw)
  have Rg := (Rg.ext [AO.rng 0 (ts.length : Int) 1]).ext (AO.list (ar.map .ref) :: l9)
  have Rw := (Rw.ext [AO.rng 0 (ts.length : Int) 1]).ext (AO.list (ar.map .ref) :: l9)
  refine Op.neRows hw (at_off (n := 0) rfl) Rw Ra <| Tr.bool ⟨fun h => (by cases h), fun _ => Exs.nil ?_⟩
  generalize H10 ++ [AO.rng 0 (ts.length : Int) 1] ++ AO.list (ar.map .ref) :: l9 = H11 at I10 hg hw Rg Rw ⊢
  clear I8 I9 Ra
  dsimp only
  -- rows
  have hwl := Rw.length
  rw [ok.wl, I10.tl] at hwl
  refine ExsA.step he hr' (Ex.assign <| Ev.bin <| Ev.bin <| Ev.list <| Evs.cons <| Ev.list <| Evs.nil ⟨by simp, Evs.nil ⟨by simp, Ev.var rfl <| Op.catL List.getElem?_concat_length (getElem?_ext (getElem?_ext hw)) (by simp) (by simp; lia) <| Ev.list <| Evs.cons <| Ev.list <| Evs.nil ⟨by simp, Evs.nil ⟨by simp, ?_⟩⟩⟩⟩)
  refine Op.catL (getElem?_ext (getElem?_ext List.getElem?_concat_length)) List.getElem?_concat_length (by simp; lia) (by simp) <| As.name <| Sn.local rfl ?_
  dsimp only
  simp only [List.length_append, List.length_cons, List.length_nil, List.append_assoc, List.cons_append, List.nil_append]
  obtain ⟨ll, hll⟩ : ∃ ll, ll = [AO.list [], AO.list [AV.ref H11.length], AO.list (AV.ref H11.length :: wr.map .ref), AO.list [], AO.list [AV.ref (H11.length + 3)], AO.list (AV.ref H11.length :: (wr.map .ref ++ [AV.ref (H11.length + 3)]))] := ⟨_, rfl⟩
  rw [← hll]
  have hrow := getElem?_ext (l' := ll) I10.row
  have hg := getElem?_ext (l' := ll) hg
  have Rg := Rg.ext ll
  have hq : (H11 ++ ll)[H11.length + 5]? = some (AO.list ((H11.length :: (wr ++ [H11.length + 3])).map .ref)) := by rw [hll]; exact at_off (n := 5) (by simp)
  have Rq : RefL (H11 ++ ll) (H11.length :: (wr ++ [H11.length + 3])) ([] :: (st.ways ++ [[]])) := by
    refine .cons (xs := []) ?_ ((Rw.ext ll).snoc (xs := []) ?_)
    · rw [hll]; exact at_off (n := 0) rfl
    · rw [hll]; exact at_off (n := 3) rfl
  have hgaps := ok.gaps
  have hgl := ok.gl
  rw [I10.tl] at hgaps hgl
  have hql : (H11.length :: (wr ++ [H11.length + 3])).length = rs.length + 2 := by simp [hwl]
  have hgr := Rg.length
  rw [hgl] at hgr
  have eiq : H11.length + (0 + 1 + 1 + 1 + 1 + 1) = H11.length + 5 := rfl
  rw [eiq]
  generalize H11.length :: (wr ++ [H11.length + 3]) = qr at hq Rq hql
  generalize [] :: (st.ways ++ [[]]) = rowsL at Rq hgaps
  generalize gapsOf (readP us) = gl at Rg hgaps hgl
  generalize H11.length + 5 = iq at hq ⊢
  generalize H11 ++ ll = H12 at hrow hg Rg hq Rq ⊢
  clear I10 Rw hw hll eiq ok
  -- the loop
  refine ExsA.cons (ExA.for he hr' <| ItNew.rng <| callTy (hK.no (by kernel_rfl)) boot_range' rfl <| Evs.cons <| Ev.bin <| callBi (hK.no (by kernel_rfl)) boot_len' rfl <| Evs.cons <| Ev.var rfl <| Evs.nil <| Op.lenL hrow (by simp; lia) <| Ev.cint <| Op.add <| Evs.nil <| Op.range1 ?_)
  rw [List.length_map]
  have en : ((rs.length : Int) + 1) = ((rs.length + 1 : Nat) : Int) := by lia
  rw [en]
  refine ⟨_, _, _, _, rfl, List.getElem?_concat_length, small_of (by lia) (by lia) (by lia) (by rw [rng0]; lia), ?_⟩
  rw [rng0, ← ItRI.start]
  refine FoIA.less (m' := [(Str.ofString "rows", AV.ref iq), (Str.ofString "gaps", .ref g), (Str.ofString "row", .ref r)])
    (FoIA.inv he hr' (ItRI 0 1 (rs.length + 1)) (fun i m' H' => m' = [(Str.ofString "rows", AV.ref iq), (Str.ofString "gaps", .ref g), (Str.ofString "row", .ref r)] ∧ ∃ l, H' = H12 ++ l) (rs.length + 1) (fun _ => ItRI.pers) ?_ ?_ (rs.length + 1) 0 _ _ (by lia) (Nat.zero_le _) ⟨rfl, _, rfl⟩) (SubL.sub ⟨rfl, rfl, rfl, trivial⟩)
  · rintro m' H' ⟨rfl, l, rfl⟩
    refine ⟨NxEnd.rngI, ?_⟩
    show ExsA _ _ _ _ _ _ _
    refine ExsA.step he hr' (Ex.ret <| Ev.cmp <| callBi (hK.no (by kernel_rfl)) boot_len' rfl <| Evs.cons <| Ev.var rfl <| Evs.nil <| Op.lenL (getElem?_ext hg) (by simp; lia) <| Ev.bin <| callBi (hK.no (by kernel_rfl)) boot_len' rfl <| Evs.cons <| Ev.var rfl <| Evs.nil <| Op.lenL (getElem?_ext hrow) (by simp; lia) <| Ev.cint <| Op.add <| Op.eq ?_)
    show AV.bool _ = _
    rw [List.length_map, List.length_map, hgr]
    have e : ((rs.length + 1 : Nat) : Int) = (rs.length : Int) + 1 := by lia
    rw [e, beq_self_eq_true]
  · rintro i m' H' hi' ⟨rfl, l, rfl⟩
    obtain ⟨XA, XB, gg, e1, e2, e3, gok⟩ := hgaps i (by lia)
    refine ⟨_, _, NxItem.rngI hi', As.name (Sn.local rfl ?_)⟩
    rw [show (0 : Int) + (i : Int) * 1 = (i : Int) by lia]
    obtain ⟨ra, hra⟩ : ∃ ra, qr[i]? = some ra := ⟨_, List.getElem?_eq_getElem (by lia)⟩
    obtain ⟨rb, hrb⟩ : ∃ rb, qr[i + 1]? = some rb := ⟨_, List.getElem?_eq_getElem (by lia)⟩
    obtain ⟨rg, hrg⟩ : ∃ rg, gr[i]? = some rg := ⟨_, List.getElem?_eq_getElem (by lia)⟩
    have hA := Rq.get hra e1
    have hB := Rq.get hrb e2
    have hG := Rg.get hrg e3
    have ixa : (qr.map AV.ref)[((i : Nat) : Int).toNat]? = some (.ref ra) := by rw [Int.toNat_natCast, List.getElem?_map, hra]; rfl
    have ixb : (qr.map AV.ref)[((i : Int) + 1).toNat]? = some (.ref rb) := by rw [show ((i : Int) + 1).toNat = i + 1 by lia, List.getElem?_map, hrb]; rfl
    have ixg : (gr.map AV.ref)[((i : Nat) : Int).toNat]? = some (.ref rg) := by rw [Int.toNat_natCast, List.getElem?_map, hrg]; rfl
    have lq : (qr.map AV.ref).length ≤ 1000 := by simp; lia
    have lg : (gr.map AV.ref).length ≤ 1000 := by simp; lia
    refine ExsA.cons (ExA.sld (k := 10) hK he hr' hfr' hfL (hK.fm (by kernel_rfl)) rfl <| Evs.cons <| Ev.subL <| Ev.var rfl <| Ev.var rfl ⟨iq, _, _, _, rfl, rfl, getElem?_ext hq, lq, .inl ⟨Int.natCast_nonneg _, ixa⟩, Evs.cons <| Ev.subL <| Ev.var rfl <| Ev.bin <| Ev.var rfl <| Ev.cint <| Op.add ⟨iq, _, _, _, rfl, rfl, getElem?_ext hq, lq, .inl ⟨by lia, ixb⟩,
      Evs.nil ⟨ra, rb, XA, XB, rfl, getElem?_ext hA, getElem?_ext hB, gok.pa, gok.pb, gok.la, gok.lb, fun l' rt hrt => As.tupT hrt rfl tup_names ?_⟩⟩⟩)
    have hM : (SldOut (H12 ++ l) XA XB l')[(H12 ++ l).length]? = some (.list ((sld XA XB).1.map .int)) := by unfold SldOut; exact at_off (n := 0) rfl
    have hU : (SldOut (H12 ++ l) XA XB l')[(H12 ++ l).length + 1]? = some (.list ((sld XA XB).2.map .int)) := by unfold SldOut; exact at_off (n := 1) rfl
    have hE : SldOut (H12 ++ l) XA XB l' = H12 ++ (l ++ .list ((sld XA XB).1.map .int) :: .list ((sld XA XB).2.map .int) :: l') := by unfold SldOut; rw [List.append_assoc]
    rw [hE] at hM hU ⊢
    generalize l ++ .list ((sld XA XB).1.map .int) :: .list ((sld XA XB).2.map .int) :: l' = l2 at hM hU ⊢
    generalize (H12 ++ l).length = im at hM hU ⊢
    clear hrt hE
    show As G 11 _ _ _ _ _ _
    refine As.name (Sn.cell rfl rfl ?_)
    show As G 11 _ _ _ _ _ _
    refine As.name (Sn.cell rfl rfl ?_)
    show ExsA _ _ _ _ _ _ _
    obtain ⟨sl1, sl2⟩ := sld_le XA XB
    have la := gok.la
    have lb := gok.lb
    refine ExsA.step he hr' (Ex.if <| Ts.bools <| TsAll.or <| Ts.cmp <| Ev.list <| Evs.cons <| callBi (hK.no (by kernel_rfl)) boot_len' rfl <| Evs.cons <| Ev.var rfl <| Evs.nil <| Op.lenL hM (by simp; lia) <| Evs.cons <| callBi (hK.no (by kernel_rfl)) boot_len' rfl <| Evs.cons <| Ev.var rfl <| Evs.nil <| Op.lenL hU (by simp; lia) <|
      Evs.nil ⟨by simp, Ev.subL <| Ev.var rfl <| Ev.var rfl ⟨g, _, _, _, rfl, rfl, getElem?_ext (getElem?_ext hg), lg, .inl ⟨Int.natCast_nonneg _, ixg⟩, Op.neInts (ns := gg) ?_ (getElem?_ext (getElem?_ext hG)) <| Tr.bool ⟨fun h => (by cases h), fun _ => ?_⟩⟩⟩)
    · rw [List.getElem?_concat_length, gok.g, List.length_map, List.length_map]; rfl
    refine TsAll.or <| Ts.cmp <| Ev.list <| Evs.nil ⟨by simp, Ev.tup <| Evs.cons <| Ev.var rfl <| Evs.cons <| Ev.var rfl <| Evs.nil ⟨by simp, Op.nilNotIn List.getElem?_concat_length (getElem?_ext (getElem?_ext (getElem?_ext hM))) (getElem?_ext (getElem?_ext (getElem?_ext hU))) (getElem?_ext List.getElem?_concat_length) gok.nil <| Tr.bool ⟨fun h => (by cases h), fun _ => TsAll.orNil ⟨fun h => (by cases h), fun _ => Exs.nil ?_⟩⟩⟩⟩
    dsimp only
    obtain ⟨l3, hl3⟩ : ∃ l3, H12 ++ l2 ++ [AO.list [AV.int ((sld XA XB).1.map AV.int).length, AV.int ((sld XA XB).2.map AV.int).length]] ++ [AO.list []] ++ [AO.tup [AV.ref im, AV.ref (im + 1)]] = H12 ++ l3 ∧ ∀ (j : Nat) o, (H12 ++ l2)[j]? = some o → (H12 ++ l3)[j]? = some o :=
      ⟨l2 ++ ([AO.list [AV.int ((sld XA XB).1.map AV.int).length, AV.int ((sld XA XB).2.map AV.int).length]] ++ ([AO.list []] ++ [AO.tup [AV.ref im, AV.ref (im + 1)]])), by simp only [List.append_assoc], fun j o h => by rw [← List.append_assoc]; exact getElem?_ext h⟩
    rw [hl3.1]
    have hM := hl3.2 _ _ hM
    have hU := hl3.2 _ _ hU
    clear hl3
    have hA' : ∀ x, (H12 ++ x)[ra]? = some (.list (XA.map .int)) := fun x => getElem?_ext hA
    have hB' : ∀ x, (H12 ++ x)[rb]? = some (.list (XB.map .int)) := fun x => getElem?_ext hB
    refine ExsA.step he hr' (Ex.if <| Ts.cmp <| Ev.comp [(Str.ofString "missing", .ref im)] (by decide) rfl (by decide) rfl (one_free rfl rfl rfl) (free_one (by decide)) <| ItNew.list <| Ev.subL <| Ev.var rfl <| Ev.var rfl ⟨iq, _, _, _, rfl, rfl, getElem?_ext hq, lq, .inl ⟨Int.natCast_nonneg _, ixa⟩, ra, _, rfl, hA' _, ?_⟩)
    refine co_filter rfl (by decide) (by decide) rfl (hA' _) hM (by lia) fun m4 => ?_
    refine Ev.comp [(Str.ofString "unexpected", .ref (im + 1))] (by decide) rfl (by decide) rfl (one_free rfl rfl rfl) (free_one (by decide)) <| ItNew.list <| Ev.subL <| Ev.var rfl <| Ev.bin <| Ev.var rfl <| Ev.cint <| Op.add ⟨iq, _, _, _, rfl, rfl, getElem?_ext (getElem?_ext hq), lq, .inl ⟨by lia, ixb⟩, rb, _, rfl, getElem?_ext (hB' _), ?_⟩
    refine co_filter rfl (by decide) (by decide) rfl (getElem?_ext (hB' _)) (getElem?_ext hU) (by lia) fun m5 => ?_
    refine Op.neInts (ns := XA.filter fun x => !(sld XA XB).1.contains x) (getElem?_ext List.getElem?_concat_length) (by rw [gok.eq]; exact List.getElem?_concat_length) <| Tr.bool ⟨fun h => (by cases h), fun _ => Exs.nil ?_⟩
    refine ExsA.nil ⟨.inl rfl, _, ?sub, rfl, _, by rw [List.append_assoc, List.append_assoc]⟩
    case sub => exact ⟨rfl, rfl, rfl, trivial⟩
end Mine
end
section
open PySem PySem.W PyProof.Rows PySem.Calls
set_option maxRecDepth 100000
namespace Mine

theorem law_top {prog : Program} {w : World} {s₁ : Shared} {mg mb : Str → Option Value} {fa a : Addr} {vs : List Value} {ns : List Int} (g : s₁.heap.Ns mainGlobals mg) (b : s₁.heap.Ns builtinsNs mb)
    (bb : ∀ x : Str, x ≠ "__name__" → mb x = bootBuiltins x) (nl : s₁.heap.NoLimit)
    (fn : ∀ d ∈ recsOf view, ∃ a o pm code doc, mg d.name = some (.ref a) ∧ s₁.heap.get? a = some o ∧ o.data = .func (docDef d.name d.params d.body d.scope pm code doc) ∧ s₁.heap.CodeRec code d.name)
    (free : ∀ x, x ∉ startupNames → x ∉ looseW view [] → x ∉ (recsOf view).map (·.name) → x ∉ (litsOf view).map (·.1) → x ∉ (clssOf view (looseW view [])).map (·.name) → mg x = none) (hmg : mg (Str.ofString "law") = some (.ref fa)) (hg : s₁.gens = #[]) (hL : s₁.heap.IsList a vs.toArray) (hI : IntsAre vs ns) (hle : ns.length ≤ 63) :
    wpAny (model prog w) callerA (call (.ref fa) [.ref a]) (fun v s' => v = .bool true ∧ (∀ b o, s₁.heap.get? b = some o → s'.heap.get? b = some o) ∧ s'.os = s₁.os ∧ AllBare s'.gens) NoE s₁ := by
  obtain ⟨G, hK, e1, e2, e3, e4⟩ : ∃ G : Gl, TopIs G ∧ G.h₀ = s₁.heap ∧ G.mg = mg ∧ G.prog = prog ∧ G.w = w := ⟨⟨prog, w, s₁.heap, mg, mb, g, b, bb, nl⟩, ⟨fn, free⟩, rfl, rfl, rfl, rfl⟩
  subst e2 e3 e4
  have hfa : G.adr (Str.ofString "law") = fa := by unfold Gl.adr; rw [hmg]
  subst hfa
  have d : Wd G [] [] s₁ := Wd.triv fun b o e => by rw [← e1]; exact e
  have hr : Rm 12 callerA := ⟨rfl, by decide, by decide⟩
  refine wpAny_mono (law_c hK (e1 ▸ hL) hI hle hr rfl d) (fun v s' hP => ?_) fun _ _ q => q
  obtain ⟨ρ', H', av, x, d', hv, hq⟩ := hP
  subst hq
  refine ⟨hv, fun b o e => d'.base b o (by rw [e1]; exact e), x.os, fun y hy => ?_⟩
  obtain ⟨ex, h1, h2⟩ := x.gens
  rw [hg] at h1
  have hy' : y ∈ s'.gens.toList := Array.mem_toList_iff.mpr hy
  rw [h1] at hy'
  have hy2 : y ∈ ex := by simpa using hy'
  rw [h2 y hy2]; rfl
end Mine
end
end
open PySem PySem.W PyProof.Rows PySem.Calls
set_option maxRecDepth 100000 in
set_option maxHeartbeats 8000000 in
theorem PySem.Challenge.cw_op0107_01_holds : PySem.Challenge.rw_op0107_01.Holds := by
  refine Mine.head ?_
  intro w s₀ s₁ mg mb G Y fa o pm cd doc dV kV ho hd' hcd hD hmg hg args vals as hpre hlay hrd hwl hlo
  have en : (Mine.fnD 23).name = Str.ofString "law" := by kernel_rfl
  rw [en] at hmg
  refine Ground.open G ?_
  intro T B D TE TW
  wrow_args hpre hlay hrd hwl hlo
  rename_i ns _ _ _ _ _ _ _ a vs _ hL _ _ _ hI _ hle _
  clear hd' hcd hD
  refine wpAny_mono (Mine.law_top T.g T.b T.builtins T.nolimit T.fn T.free hmg hg hL hI (by lia)) (fun v s' h => ?_) fun _ _ q => q.elim
  obtain ⟨rfl, hk, hos, hb⟩ := h
  refine ⟨.inl ⟨.bool true, _, [], rfl, raisesW_false ?_, .bool true, ?_, fun _ => ⟨.nil, by simp⟩⟩, .of_keep hk, hos, hb⟩
  · wrow_none_raised
  · wrow_post
