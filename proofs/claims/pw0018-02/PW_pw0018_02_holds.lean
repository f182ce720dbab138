import PyProof.Rows.All
import Wide.All
import OpenK.AllK
import Wide.FinOn
import KE.BitLaws
import PyProof.AutoIntG7
import Lean
import PySem.Challenge.RW_pw0018_02
set_option Elab.async false
set_option maxRecDepth 100000
set_option maxHeartbeats 0
set_option linter.all false
set_option genSizeOf false
set_option genInjectivity false
set_option bootstrap.genMatcherCode false
section
namespace Mine
open PySem PySem.Spec PySem.Calls PyProof.Rows PySem.W PySem.W.X
noncomputable abbrev View := List (Addr × Obj)
structure Tab where
  addr : Addr
  marks : List (Int × Int × Str)
structure Bs where
  prog : Program
  w : World
  h₀ : Heap
  b1 : Bool
  b2 : Bool
  kt : KT
  tabs : List Tab
  loose : List Addr
  g : Array GenState
  d : Drawn
  os : OsState
noncomputable def rowA : String := "special-get-raises"
noncomputable def rowB : String := "comprehension-iter-twice"
noncomputable def rowAn : Nat := 10139888712337904147300001983332972444938612
noncomputable def rowBn : Nat := 2510650655181157320538776789020469319833841985448949215332
noncomputable def follow (b1 b2 : Bool) (f : String → Bool) (r : String) : Bool :=
  @Bool.rec (fun _ => Bool) (@Bool.rec (fun _ => Bool) (f r) b2 (Nat.beq (S.codeS r) rowBn)) b1 (Nat.beq (S.codeS r) rowAn)
noncomputable def Bs.params (B : Bs) : Params := { B.w.params with followText := follow B.b1 B.b2 B.w.params.followText }
noncomputable def Bs.setting (B : Bs) : Setting := ⟨B.prog, B.params⟩
noncomputable def codeO (q : Str) (t : Tok) (v : Value) (rest : List Value) : Obj := { cls := .type "code", data := .fields ⟨v :: .str q t :: rest⟩ }
noncomputable def tabVals : List (Int × Int × Str) → List Addr → List Value
  | m :: ms, a :: as => .int m.1 0 :: .int m.2.1 0 :: .ref a :: tabVals ms as
  | _, _ => []
noncomputable def codeN : Nat := 1717923940
noncomputable def isCodeO (o : Obj) : Bool := match o.cls with
  | .type n => Nat.beq (S.codeS n) codeN
  | _ => false
noncomputable def excl (V : View) : List Addr := (V.filter fun p => !isCodeO p.2).map (·.1)
noncomputable def Priv (B : Bs) (a : Addr) : Prop := ∃ t ∈ B.tabs, a = t.addr
noncomputable def Own (B : Bs) (a : Addr) : Prop := (B.h₀.get? a = none ∨ a ∈ B.loose) ∧ ¬ Priv B a
noncomputable def TabOk (h : Heap) (t : Tab) : Prop := ∃ as : List Addr, (as = [] ∨ as.length = t.marks.length) ∧ h.get? t.addr = some (tableObj ⟨tabVals t.marks as⟩) ∧
  ∀ p ∈ as.zip (t.marks.map (·.2.2)), ∃ tk v rest, h.get? p.1 = some (codeO p.2 tk v rest)
structure Good (B : Bs) (s : Shared) : Prop where
  g : s.gens = B.g
  d : s.drawn = B.d
  os : s.os = B.os
  kept : ∀ b o, B.h₀.get? b = some o → b ∉ B.loose → (∀ t ∈ B.tabs, b ≠ t.addr) → s.heap.get? b = some o
  loose : ∀ b ∈ B.loose, ∃ o, s.heap.get? b = some o
  tabs : ∀ t ∈ B.tabs, TabOk s.heap t
structure Rep (B : Bs) (V : View) (s : Shared) : Prop where
  good : Good B s
  has : ∀ p ∈ V, s.heap.get? p.1 = some p.2
  nd : (excl V).Nodup
  own : ∀ a ∈ excl V, Own B a
structure Ext (B : Bs) (V V' : View) (s s' : Shared) : Prop where
  same : ∀ a o, s.heap.get? a = some o → a ∉ excl V → ¬ Priv B a → s'.heap.get? a = some o
  new : ∀ a ∈ excl V', a ∈ excl V ∨ s.heap.get? a = none
  there : ∀ a o, s.heap.get? a = some o → ∃ o', s'.heap.get? a = some o'
structure Room (A : Around) (d : Nat) : Prop where
  handled : A.handled = none
  depth : A.depth + 3 * d < recursionLimit
  units : A.units + 10 * d < cLine
structure Bs.Ok (B : Bs) : Prop where
  kt : B.kt.Holds B.h₀ 1 0
  b1 : B.w.params.followText rowA = B.b1
  b2 : B.w.params.followText rowB = B.b2
  lim : B.h₀.NoLimit
  stat : cStatics ∉ B.loose ∧ ∀ t ∈ B.tabs, cStatics ≠ t.addr
theorem rowA_code : S.codeS rowA = rowAn := by rw [← S.code_S]; decide +kernel
theorem rowB_code : S.codeS rowB = rowBn := by rw [← S.code_S]; decide +kernel
theorem codeS_inj {a b : String} (h : S.codeS a = S.codeS b) : a = b := code_inj a b (by rw [S.code_S, S.code_S]; exact h)
theorem Bs.params_eq {B : Bs} (O : B.Ok) : B.params = B.w.params := by
  unfold Bs.params
  have : follow B.b1 B.b2 B.w.params.followText = B.w.params.followText := by
    funext r
    unfold follow
    cases h : Nat.beq (S.codeS r) rowAn with
    | true =>
      have e := Nat.eq_of_beq_eq_true h
      rw [← rowA_code] at e
      rw [codeS_inj e, O.b1]
    | false =>
      cases h2 : Nat.beq (S.codeS r) rowBn with
      | true =>
        have e := Nat.eq_of_beq_eq_true h2
        rw [← rowB_code] at e
        rw [codeS_inj e, O.b2]
      | false => rfl
  rw [this]
section ext
variable {B : Bs} {V V' V'' : View} {s s' s'' : Shared}
theorem Ext.refl (V : View) (s : Shared) : Ext B V V s s := ⟨fun _ _ e _ _ => e, fun _ h => .inl h, fun a o e => ⟨o, e⟩⟩
theorem Ext.trans (x : Ext B V V' s s') (y : Ext B V' V'' s' s'') : Ext B V V'' s s'' := by
  have k1 : ∀ a o, s.heap.get? a = some o → a ∉ excl V → a ∉ excl V' := fun a o e h h' => by
    rcases x.new a h' with q | q
    · exact h q
    · rw [q] at e; cases e
  have k3 : ∀ a, s'.heap.get? a = none → s.heap.get? a = none := fun a e => by
    cases q : s.heap.get? a with
    | none => rfl
    | some o => obtain ⟨o', e'⟩ := x.there a o q; rw [e] at e'; cases e'
  refine ⟨fun a o e h hp => ?_, fun a h => ?_, fun a o e => ?_⟩
  · exact y.same a o (x.same a o e h hp) (k1 a o e h) hp
  · rcases y.new a h with q | q
    · exact x.new a q
    · exact .inr (k3 a q)
  · obtain ⟨o', e'⟩ := x.there a o e
    exact y.there a o' e'
end ext
section keep
variable {B : Bs} {s s' : Shared}
theorem TabOk.keeps {h h' : Heap} {t : Tab} (x : TabOk h t) (k : ∀ b o, h.get? b = some o → h'.get? b = some o) : TabOk h' t := by
  obtain ⟨as, h1, h2, h3⟩ := x
  exact ⟨as, h1, k _ _ h2, fun p hp => let ⟨tk, v, rest, e⟩ := h3 p hp; ⟨tk, v, rest, k _ _ e⟩⟩
theorem Good.keeps (x : Good B s) (k : ∀ b o, s.heap.get? b = some o → s'.heap.get? b = some o) (hg : s'.gens = s.gens) (hd : s'.drawn = s.drawn) (ho : s'.os = s.os) (ht : s.toks ≤ s'.toks) : Good B s' :=
  ⟨hg.trans x.g, hd.trans x.d, ho.trans x.os, fun b o e h1 h2 => k b o (x.kept b o e h1 h2), fun b h => let ⟨o, e⟩ := x.loose b h; ⟨o, k b o e⟩, fun t ht => (x.tabs t ht).keeps k⟩
theorem code_code : S.codeS "code" = codeN := by rw [← S.code_S]; decide +kernel
theorem isCodeO_codeO (q : Str) (t : Tok) (v : Value) (rest : List Value) : isCodeO (codeO q t v rest) = true := by
  show Nat.beq (S.codeS "code") codeN = true
  rw [code_code]; exact Nat.beq_refl _
theorem mem_excl {V : View} {p : Addr × Obj} (h : p ∈ V) (hc : isCodeO p.2 = false) : p.1 ∈ excl V := by
  unfold excl
  exact List.mem_map_of_mem (List.mem_filter.mpr ⟨h, by rw [hc]; rfl⟩)
theorem excl_mem {V : View} {a : Addr} (h : a ∈ excl V) : ∃ o, (a, o) ∈ V ∧ isCodeO o = false := by
  unfold excl at h
  obtain ⟨⟨b, o⟩, hp, rfl⟩ := List.mem_map.mp h
  have := List.mem_filter.mp hp
  refine ⟨o, this.1, ?_⟩
  have q := this.2
  simpa using q
theorem excl_append (V W : View) : excl (V ++ W) = excl V ++ excl W := by unfold excl; rw [List.filter_append, List.map_append]
theorem excl_cons (p : Addr × Obj) (V : View) : excl (p :: V) = if isCodeO p.2 = true then excl V else p.1 :: excl V := by
  unfold excl
  rw [List.filter_cons]
  cases isCodeO p.2 <;> simp
end keep
section ops
variable {B : Bs} {V : View} {s : Shared}
theorem get_none_of_size (h : Heap) : h.get? h.objs.size = none := by
  cases q : h.get? h.objs.size with
  | none => rfl
  | some o => exact absurd (Heap.lt_size q) (Nat.lt_irrefl _)
theorem Rep.fresh (x : Rep B V s) : Rep B V { s with toks := s.toks + 1 } :=
  ⟨x.good.keeps (fun _ _ e => e) rfl rfl rfl (Nat.le_succ _), x.has, x.nd, x.own⟩
theorem Rep.alloc (x : Rep B V s) {o : Obj} (hf : o.isFreed = false) :
    Rep B ((s.heap.objs.size, o) :: V) { s with heap := s.heap.push o } ∧ Ext B V ((s.heap.objs.size, o) :: V) s { s with heap := s.heap.push o } := by
  have k : ∀ b o', s.heap.get? b = some o' → (s.heap.push o).get? b = some o' := fun b o' e => Heap.get?_push_of_some o e
  have G : Good B { s with heap := s.heap.push o } := x.good.keeps k rfl rfl rfl (Nat.le_refl _)
  have no : ∀ o', s.heap.get? s.heap.objs.size = some o' → False := fun o' e => absurd (Heap.lt_size e) (Nat.lt_irrefl _)
  have hE : ∀ a ∈ excl ((s.heap.objs.size, o) :: V), a = s.heap.objs.size ∨ a ∈ excl V := fun a h => by
    rw [excl_cons] at h
    split at h
    · exact .inr h
    · exact List.mem_cons.mp h
  refine ⟨⟨G, ?_, ?_, ?_⟩, ⟨fun a o' e _ _ => k a o' e, ?_, fun a o' e => ⟨o', k a o' e⟩⟩⟩
  · intro p hp
    rcases List.mem_cons.mp hp with rfl | hp
    · exact Heap.get?_push_size _ hf
    · exact k _ _ (x.has p hp)
  · rw [excl_cons]
    split
    · exact x.nd
    · rw [List.nodup_cons]
      refine ⟨fun hm => ?_, x.nd⟩
      obtain ⟨o', ho', _⟩ := excl_mem hm
      exact no _ (x.has _ ho')
  · intro a ha
    rcases hE a ha with rfl | ha
    · refine ⟨?_, fun ⟨t, ht, e⟩ => ?_⟩
      · cases q : B.h₀.get? s.heap.objs.size with
        | none => exact .inl rfl
        | some o' =>
          by_cases hl : s.heap.objs.size ∈ B.loose
          · exact .inr hl
          · by_cases ht : ∀ t ∈ B.tabs, s.heap.objs.size ≠ t.addr
            · exact (no _ (x.good.kept _ _ q hl ht)).elim
            · simp only [Classical.not_forall] at ht
              obtain ⟨t, ht, hne⟩ := ht
              have e : s.heap.objs.size = t.addr := Classical.not_not.mp hne
              obtain ⟨as, _, e2, _⟩ := x.good.tabs t ht
              rw [← e] at e2
              exact (no _ e2).elim
      · obtain ⟨as, _, e2, _⟩ := x.good.tabs t ht
        have e : s.heap.objs.size = t.addr := e
        rw [← e] at e2
        exact no _ e2
    · exact x.own a ha
  · intro a ha
    rcases hE a ha with rfl | ha
    · exact .inr (get_none_of_size _)
    · exact .inl ha
theorem excl_set {V : View} {i : Nat} {a : Addr} {o o' : Obj} (hi : V[i]? = some (a, o)) (h : isCodeO o = false) (h' : isCodeO o' = false) : excl (V.set i (a, o')) = excl V := by
  induction V generalizing i with
  | nil => simp at hi
  | cons p V ih =>
    cases i with
    | zero =>
      simp only [List.getElem?_cons_zero, Option.some.injEq] at hi
      subst hi
      simp only [List.set_cons_zero, excl_cons, h, h']
    | succ i =>
      simp only [List.getElem?_cons_succ] at hi
      simp only [List.set_cons_succ, excl_cons, ih hi]
theorem excl_unique {V : View} (nd : (excl V).Nodup) {a : Addr} {o o' : Obj} (h : (a, o) ∈ V) (h' : (a, o') ∈ V) (c : isCodeO o = false) (c' : isCodeO o' = false) : o = o' := by
  unfold excl at nd
  have := key_unique nd (p := (a, o)) (q := (a, o')) (List.mem_filter.mpr ⟨h, by rw [c]; rfl⟩) (List.mem_filter.mpr ⟨h', by rw [c']; rfl⟩) rfl
  exact (Prod.mk.inj this).2
theorem Rep.update (x : Rep B V s) {i : Nat} {a : Addr} {o : Obj} {f : Obj → Obj} (hi : V[i]? = some (a, o)) (hf : (f o).isFreed = false) (hc : isCodeO o = false) (hc' : isCodeO (f o) = false) :
    Rep B (V.set i (a, f o)) { s with heap := s.heap.update a f } ∧ Ext B V (V.set i (a, f o)) s { s with heap := s.heap.update a f } := by
  have hm := List.mem_of_getElem? hi
  have ho := x.has _ hm
  have hx := mem_excl hm hc
  have own := x.own _ hx
  have hs : Heap.SameBut a s.heap (s.heap.update a f) := Heap.SameBut.update ..
  have ge : (s.heap.update a f).get? a = some (f o) := Heap.get?_update_self f ho hf
  have tne : ∀ t ∈ B.tabs, t.addr ≠ a := fun t ht e => own.2 ⟨t, ht, e.symm⟩
  have em := excl_set hi hc hc'
  have cne : ∀ b o', s.heap.get? b = some o' → isCodeO o' = true → b ≠ a := by
    rintro b o' e c rfl
    have : o' = o := Option.some.inj (e.symm.trans ho)
    subst this
    rw [hc] at c; cases c
  have G : Good B { s with heap := s.heap.update a f } := by
    refine ⟨x.good.g, x.good.d, x.good.os, fun b o' e h1 h2 => ?_, fun b h => ?_, fun t ht => ?_⟩
    · have ne : b ≠ a := by
        rintro rfl
        rcases own.1 with q | q
        · rw [e] at q; cases q
        · exact h1 q
      exact (hs.2 b ne).trans (x.good.kept b o' e h1 h2)
    · by_cases hb : b = a
      · subst hb; exact ⟨_, ge⟩
      · obtain ⟨o', e⟩ := x.good.loose b h
        exact ⟨o', (hs.2 b hb).trans e⟩
    · obtain ⟨as, hl, e2, hcd⟩ := x.good.tabs t ht
      refine ⟨as, hl, (hs.2 _ (tne t ht)).trans e2, fun p hp => ?_⟩
      obtain ⟨tk, v, rest, e⟩ := hcd p hp
      exact ⟨tk, v, rest, (hs.2 _ (cne _ _ e (isCodeO_codeO ..))).trans e⟩
  have hl : i < V.length := (List.getElem?_eq_some_iff.mp hi).1
  refine ⟨⟨G, ?_, by rw [em]; exact x.nd, by rw [em]; exact x.own⟩, ⟨fun b o' e h1 _ => ?_, fun b h => .inl (by rw [em] at h; exact h), fun b o' e => ?_⟩⟩
  · intro p hp
    rcases List.mem_or_eq_of_mem_set hp with hp' | rfl
    · by_cases hpa : p.1 = a
      · cases hpc : isCodeO p.2 with
        | true => exact absurd hpa (cne p.1 p.2 (x.has p hp') hpc)
        | false =>
          have hin : (a, f o) ∈ V.set i (a, f o) := List.mem_set hl _
          have hp2 : (a, p.2) ∈ V.set i (a, f o) := by
            obtain ⟨p1, p2⟩ := p
            dsimp only at hpa
            subst hpa
            exact hp
          have := excl_unique (by rw [em]; exact x.nd) hp2 hin hpc hc'
          show (s.heap.update a f).get? p.1 = some p.2
          rw [hpa, this]; exact ge
      · exact (hs.2 _ hpa).trans (x.has p hp')
    · exact ge
  · have ne : b ≠ a := by
      rintro rfl
      exact h1 hx
    exact (hs.2 b ne).trans e
  · by_cases hb : b = a
    · subst hb; exact ⟨_, ge⟩
    · exact ⟨o', (hs.2 b hb).trans e⟩
end ops
structure Lt where
  a : Nat → Nat
  t : Nat → Nat
  i : Nat → Int
  s : Nat → Str
  v : Nat → Value
  l : Nat → List Value
  f : Nat → FuncData
inductive VC : Type 1 where
  | ff
  | eq (a b : Nat) (k : VC)
  | same {α : Type} (a b : α) (k : VC)
  | ob (A : Prop) (k : VC)
  | al (k : Nat → VC)
  | cn (P : Prop) (R : Lt → Prop) (k : Lt → VC)
  | fin (Q : Prop)
noncomputable def N (v : VC) : Prop := VC.rec (motive := fun _ => Prop) False (fun a b _ h => a = b ∧ h) (fun a b _ h => a = b ∧ h) (fun A _ h => A ∧ h) (fun _ h => ∀ t, h t) (fun P R _ h => P ∧ ∀ e, R e → h e) (fun Q => Q) v
structure Rho where
  n : Nat → Nat
  e : Nat → Lt
structure Any where
  {α : Type}
  a : α
noncomputable def Fl (v : VC) : Rho → Nat → Nat → Prop :=
  VC.rec (motive := fun _ => Rho → Nat → Nat → Prop) (fun _ _ _ => False) (fun _ _ _ h => h) (fun _ _ _ h => h)
    (fun A _ h r i j => A ∧ h r i j) (fun _ h r i j => h (r.n i) r (Nat.add i 1) j)
    (fun P R _ h r i j => P ∧ (R (r.e j) → h (r.e j) r i (Nat.add j 1))) (fun Q _ _ _ => Q) v
noncomputable def Ls (z : Bool) (v : VC) : Rho → Nat → Nat → List Any :=
  VC.rec (motive := fun _ => Rho → Nat → Nat → List Any) (fun _ _ _ => []) (fun a b _ h r i j => ⟨cond z a b⟩ :: h r i j) (fun a b _ h r i j => ⟨cond z a b⟩ :: h r i j)
    (fun _ _ h => h) (fun _ h r i j => h (r.n i) r (Nat.add i 1) j) (fun _ _ _ h r i j => h (r.e j) r i (Nat.add j 1)) (fun _ _ _ _ => []) v
theorem any_inj {α : Type} {a b : α} {l l' : List Any} (h : (⟨a⟩ :: l : List Any) = ⟨b⟩ :: l') : a = b ∧ l = l' := by
  injection h with h1 h2
  injection h1 with _ h3
  exact ⟨h3, h2⟩
theorem flat_N' (v : VC) : ∀ (r0 : Rho) (i j : Nat),
    (∀ r : Rho, (∀ k, k < i → r.n k = r0.n k) → (∀ k, k < j → r.e k = r0.e k) → Fl v r i j ∧ Ls true v r i j = Ls false v r i j) → N v := by
  induction v with
  | ff => exact fun r0 _ _ h => (h r0 (fun _ _ => rfl) (fun _ _ => rfl)).1
  | eq a b k ih => exact fun r0 i j h => ⟨(any_inj (h r0 (fun _ _ => rfl) (fun _ _ => rfl)).2).1, ih r0 i j fun r h1 h2 => ⟨(h r h1 h2).1, (any_inj (h r h1 h2).2).2⟩⟩
  | same a b k ih => exact fun r0 i j h => ⟨(any_inj (h r0 (fun _ _ => rfl) (fun _ _ => rfl)).2).1, ih r0 i j fun r h1 h2 => ⟨(h r h1 h2).1, (any_inj (h r h1 h2).2).2⟩⟩
  | ob A k ih => exact fun r0 i j h => ⟨(h r0 (fun _ _ => rfl) (fun _ _ => rfl)).1.1, ih r0 i j fun r h1 h2 => ⟨(h r h1 h2).1.2, (h r h1 h2).2⟩⟩
  | al k ih =>
    intro r0 i j h t
    refine ih t ⟨fun x => if x = i then t else r0.n x, r0.e⟩ (i + 1) j fun r h1 h2 => ?_
    have e : r.n i = t := by rw [h1 i (Nat.lt_succ_self i)]; simp
    have z := h r (fun x hx => by rw [h1 x (Nat.lt_succ_of_lt hx)]; exact if_neg (Nat.ne_of_lt hx)) h2
    have z : Fl (k (r.n i)) r (i + 1) j ∧ Ls true (k (r.n i)) r (i + 1) j = Ls false (k (r.n i)) r (i + 1) j := z
    rw [e] at z
    exact z
  | cn P R k ih =>
    intro r0 i j h
    refine ⟨(h r0 (fun _ _ => rfl) (fun _ _ => rfl)).1.1, fun e he => ?_⟩
    refine ih e ⟨r0.n, fun x => if x = j then e else r0.e x⟩ i (j + 1) fun r h1 h2 => ?_
    have q : r.e j = e := by rw [h2 j (Nat.lt_succ_self j)]; simp
    have z := h r h1 (fun x hx => by rw [h2 x (Nat.lt_succ_of_lt hx)]; exact if_neg (Nat.ne_of_lt hx))
    have z : (P ∧ (R (r.e j) → Fl (k (r.e j)) r i (j + 1))) ∧ Ls true (k (r.e j)) r i (j + 1) = Ls false (k (r.e j)) r i (j + 1) := z
    rw [q] at z
    exact ⟨z.1.2 he, z.2⟩
  | fin Q => exact fun r0 i j h => (h r0 (fun _ _ => rfl) (fun _ _ => rfl)).1
theorem flat_N {v : VC} {T : Rho → Prop} (p : ∀ r, T r) (e : (fun r => (Fl v r 0 0, Ls true v r 0 0)) = fun r => (T r, Ls false v r 0 0)) : N v := by
  refine flat_N' v ⟨fun _ => 0, fun _ => ⟨fun _ => 0, fun _ => 0, fun _ => 0, fun _ => ⟨#[]⟩, fun _ => .none, fun _ => [], fun _ => default⟩⟩ 0 0 fun r _ _ => ?_
  have z : (Fl v r 0 0, Ls true v r 0 0) = (T r, Ls false v r 0 0) := congrFun e r
  injection z with z1 z2
  exact ⟨by rw [z1]; exact p r, z2⟩
inductive Job : Type 1 where
  | tree (α : Type) (t : Sem α) (Q : Except Value α → View → List Nat → VC)
  | code (c : Code) (K : Result → View → List Nat → VC)
inductive NeedP : Nat → Job → View → Prop
noncomputable def Need (d : Nat) (j : Job) (V : View) : VC := .fin (NeedP d j V)
theorem no_need {d : Nat} {j : Job} {V : View} (h : N (Need d j V)) : False := by cases (show NeedP d j V from h)
noncomputable def Tri (B : Bs) (d : Nat) (c : Code) (pre : View) (post : Result → View → Prop) : Prop :=
  ∀ A s, Room A d → Rep B pre s → codeAny (model B.prog B.w) A c (fun r s' => ∃ V', post r V' ∧ Rep B V' s' ∧ Ext B pre V' s s') s
noncomputable abbrev AK {α : Type} (B : Bs) (V : View) (s : Shared) (K : α → View → List Nat → VC) (r : α) (s' : Shared) : Prop := ∃ V' hs', N (K r V' hs') ∧ Rep B V' s' ∧ Ext B V V' s s'
structure BCut (B : Bs) where
  id : String
  code : Nat
  d : Nat
  f : List Value → View → List Nat → (Result → View → List Nat → VC) → VC
  hid : S.codeS id = code
  ok : ∀ args V hs K, N (f args V hs K) → ∀ A s, Room A d → Rep B V s →
    codeAny (model B.prog B.w) A (.builtin id ⟨args, []⟩) (fun r s' => AK B V s K r s') s
structure Con (B : Bs) where
  d : Nat
  c : Lt → Code
  P : Lt → Prop
  pre : Lt → View
  R : Lt → Lt → Prop
  res : Lt → Lt → Result
  out : Lt → Lt → View
  ok : ∀ x, P x → Tri B d (c x) (pre x) (fun r V' => ∃ e, R x e ∧ r = res x e ∧ V' = out x e)
structure Use (B : Bs) where
  k : Con B
  on : Code → View → Lt
  key : Code → Bool := fun _ => false
  find : List (Code → View → Addr) := []
  sz : List Nat := []
theorem ob {A P : Prop} (a : A) (p : P) : A ∧ P := ⟨a, p⟩
noncomputable def den : Code → Sem Fin := PySem.W.ZFast.zw11892475500146522536 PySem.W.ZFast.tableZ
noncomputable def quietZ : Code → Bool := PySem.W.ZFast.zw17772548960776305114
theorem den_eq : denote table = den := by unfold den; rw [← PySem.W.ZFast.ze11892475500146522536, ← PySem.W.ZFast.tableZ_eq]
theorem quietZ_eq : Code.quiet = quietZ := by unfold quietZ; rw [← PySem.W.ZFast.ze17772548960776305114]
noncomputable def callerN : Nat := 35714603318786955769505017188
noncomputable def notCaller (c : Code) : Bool := match c with
  | .builtin id _ => !Nat.beq (S.codeS id) callerN
  | _ => true
theorem caller_code : S.codeS "claim.caller" = callerN := by rw [← S.code_S]; decide +kernel
noncomputable def nth : View → Nat → Option (Addr × Obj)
  | [], _ => none
  | p :: _, 0 => some p
  | _ :: l, i + 1 => nth l i
theorem nth_eq : ∀ (V : View) (i : Nat), nth V i = V[i]?
  | [], i => by simp [nth]
  | p :: l, 0 => by simp [nth]
  | p :: l, i + 1 => by simp [nth, nth_eq l i]
noncomputable def setAt : View → Nat → Addr × Obj → View
  | [], _, _ => []
  | _ :: l, 0, q => q :: l
  | p :: l, i + 1, q => p :: setAt l i q
theorem setAt_eq : ∀ (V : View) (i : Nat) (q : Addr × Obj), setAt V i q = V.set i q
  | [], i, q => by simp [setAt]
  | p :: l, 0, q => by simp [setAt]
  | p :: l, i + 1, q => by simp [setAt, setAt_eq l i q]
noncomputable def outAt : View → Nat → Option ((Addr × Obj) × View)
  | [], _ => none
  | p :: l, 0 => some (p, l)
  | p :: l, i + 1 => match outAt l i with
    | some (q, r) => some (q, p :: r)
    | none => none
noncomputable def pull : View → List Nat → Option (View × View)
  | V, [] => some ([], V)
  | V, i :: is => match outAt V i with
    | some (p, r) => match pull r is with
      | some (ps, r') => some (p :: ps, r')
      | none => none
    | none => none
theorem outAt_perm : ∀ {V : View} {i : Nat} {p : Addr × Obj} {r : View}, outAt V i = some (p, r) → V.Perm (p :: r)
  | [], _, _, _, h => by cases h
  | q :: l, 0, p, r, h => by cases h; exact List.Perm.refl _
  | q :: l, i + 1, p, r, h => by
    unfold outAt at h
    split at h
    · rename_i p' r' e
      cases h
      exact ((outAt_perm e).cons q).trans (List.Perm.swap _ _ _)
    · cases h
theorem pull_perm : ∀ {is : List Nat} {V ps r : View}, pull V is = some (ps, r) → V.Perm (ps ++ r)
  | [], V, ps, r, h => by cases h; exact List.Perm.refl _
  | i :: is, V, ps, r, h => by
    unfold pull at h
    split at h
    · rename_i p r1 e
      split at h
      · rename_i ps' r2 e'
        cases h
        exact (outAt_perm e).trans ((pull_perm e').cons p)
      · cases h
    · cases h
noncomputable def tabAt (B : Bs) (a : Addr) : Bool := B.tabs.any (fun t => Nat.beq t.addr a) || B.loose.any (fun b => Nat.beq b a)
noncomputable def topGet (B : Bs) (a : Addr) : Option Obj := match tabAt B a with
  | true => none
  | false => B.kt.get a
noncomputable def enterT (f : Addr) (args : Args) : Sem Code := do
  let o ← load f
  match o.data with
  | .func fd => do
    let compiled ← match fd.code with
      | .none => pure fd.qualname
      | c => do match ← field c 1 with
        | .str q _ => pure q
        | _ => pure fd.qualname
    let env ← newFunctionEnv fd.scope fd.globals fd.closure (← bindArgs fd args) (compiled ++ ".<locals>.") (some f) fd.code none fd.builtins
    match fd.scope.isGenerator, fd.scope.isCoroutine with
    | false, false => pure (match fd.body with | .stmts b => Code.func b env | .expr e => Code.expr e env)
    | _, _ => .unsupported "a generator"
  | _ => .unsupported "no function"
theorem iteB {α β : Type} (c : Prop) [Decidable c] (a b : Sem α) (f : α → Sem β) : (if c then a else b) >>= f = if c then a >>= f else b >>= f := by split <;> rfl
noncomputable def endC (self : Value) : Sem Unit := do
  slotLetsGo "callable_iterator.__next__" (← field self 0) fun | .builtin "callable_iterator.__next__" x => x.pos.head? == some self | _ => false
  setField self 0 .none; setField self 1 .none; setField self 2 (.bool true)
noncomputable def next1 (args : Args) : Sem (Value × Value × Value) := do
  let (self, _) ← slotArgs "__next__" 0 args
  if (← field self 2) == .bool true then rule "callable_iterator.__next__.ended"; PySem.Builtin.SmallTypes.stopIteration
  match ← (callOutOfASlot (← field self 0)).attempt with
  | .error e =>
    if !(← isInstance e (.type "StopIteration")) then throw e
    rule "callable_iterator.__next__.stop-iteration"; endC self; PySem.Builtin.SmallTypes.stopIteration
  | .ok r =>
    if (← field self 2) == .bool true then rule "callable_iterator.__next__.ended-meanwhile"; PySem.Builtin.SmallTypes.stopIteration
    return (self, ← field self 1, r)
noncomputable def next2 (self : Value) (r : Value) (b : Bool) : Sem Fin := do
  if !b then return ← ret r
  rule "callable_iterator.__next__.sentinel"; endC self; PySem.Builtin.SmallTypes.stopIteration
theorem raiseB {α β : Type} (v : Value) (f : α → Sem β) : ((raiseNew v : Sem α) >>= f) = raiseNew v := by
  unfold raiseNew
  simp only [bind_assoc]
  congr 1
  funext x
  split
  · simp only [iteB, bind_assoc]
    rfl
  · rfl
theorem stopB {α β : Type} (f : α → Sem β) : ((PySem.Builtin.SmallTypes.stopIteration : Sem α) >>= f) = PySem.Builtin.SmallTypes.stopIteration := by
  unfold PySem.Builtin.SmallTypes.stopIteration
  simp only [bind_assoc, raiseB]
theorem next_eq (args : Args) : Builtin.«callable_iterator.__next__» args = (do
    let (self, y, r) ← next1 args
    let b ← holding [r] (eqBool y r)
    next2 self r b) := by
  unfold next1 Builtin.«callable_iterator.__next__» next2
  simp only [bind_assoc, pure_bind]
  congr 1
  funext sr
  obtain ⟨self, rest⟩ := sr
  dsimp only
  congr 1
  funext v2
  split
  · simp only [bind_assoc, stopB]
  · simp only [bind_assoc]
    congr 1
    funext v3
    congr 1
    funext v4
    cases v4 with
    | error e =>
      dsimp only
      simp only [bind_assoc]
      congr 1
      funext b
      split <;> simp only [bind_assoc, stopB] <;> rfl
    | ok r =>
      dsimp only
      simp only [bind_assoc]
      congr 1
      funext v5
      split
      · simp only [bind_assoc, stopB]
      · simp only [bind_assoc, pure_bind]
        rfl
structure It where
  self : Value
  i : Int
  j : Int
  k : Int
  xs : Array Value
noncomputable def shT : Value → Tok
  | .str _ t => t
  | .int _ t => t
  | _ => 0
noncomputable def shI : Value → Int
  | .int i _ => i
  | _ => 0
noncomputable def shS : Value → Str
  | .str s _ => s
  | _ => ⟨#[]⟩
noncomputable def shA : Value → Addr
  | .ref a => a
  | _ => 0
noncomputable def shape : Nat → Value → Value
  | 0, v => v
  | 1, v => .int (shI v) (shT v)
  | 2, v => .str (shS v) (shT v)
  | _, v => .ref (shA v)
noncomputable def itemAt : List Value → Nat → Value
  | [], _ => .none
  | v :: _, 0 => v
  | _ :: l, i + 1 => itemAt l i
theorem itemAt_eq : ∀ {l : List Value} {i : Nat}, i < l.length → l[i]? = some (itemAt l i)
  | [], i, h => by simp at h
  | v :: _, 0, _ => rfl
  | _ :: l, i + 1, h => by simp at h; simpa [itemAt] using itemAt_eq h
open PySem.Builtin.SmallTypes in
noncomputable def ris1 (args : Args) : Sem It := do
  let (self, _) ← slotArgs "__next__" 0 args
  let seq ← field self 0
  if seq == .none then rule "list_iterator.__next__.ended"; stopIteration
  let .int i _ ← field self 1 | unsupported "internal:list_iterator.__next__"
  let some xs ← seqItems? seq | unsupported "internal:list_iterator.__next__"
  return ⟨self, i, 0, 0, xs⟩
open PySem.Builtin.SmallTypes in
noncomputable def ris2 (it : It) (b : Nat) : Sem Fin := match b with
  | 0 => do rule "list_iterator.__next__.end"; setField it.self 0 .none; stopIteration
  | k + 1 => do setField it.self 1 (rawInt (it.i + 1)); ret (shape k (itemAt it.xs.toList it.i.toNat))
noncomputable def risD (it : It) (b : Nat) : Prop := match b with
  | 0 => it.xs.toList.length ≤ it.i.toNat
  | k + 1 => itemAt it.xs.toList it.i.toNat = shape k (itemAt it.xs.toList it.i.toNat) ∧ it.i.toNat < it.xs.toList.length
open PySem.Builtin.SmallTypes in
noncomputable def rng1 (args : Args) : Sem It := do
  let (self, _) ← slotArgs "__next__" 0 args
  let .int v _ ← field self 0 | unsupported "internal:range_iterator.__next__"
  let .int left _ ← field self 1 | unsupported "internal:range_iterator.__next__"
  let .int step _ ← field self 2 | unsupported "internal:range_iterator.__next__"
  return ⟨self, v, left, step, #[]⟩
open PySem.Builtin.SmallTypes in
noncomputable def rng2 (it : It) (b : Nat) : Sem Fin := match b with
  | 0 => do rule "range_iterator.__next__.end"; stopIteration
  | _ + 1 => do setField it.self 0 (rawInt (it.i + it.k)); setField it.self 1 (rawInt (it.j - 1)); retInt it.i
noncomputable def rngD (it : It) (b : Nat) : Prop := match b with
  | 0 => it.j ≤ 0
  | _ + 1 => 0 < it.j
open PySem.Builtin.SmallTypes in
noncomputable def rev1 (args : Args) : Sem (Value × Int) := do
  let (self, _) ← slotArgs "__next__" 0 args
  let .int i _ ← field self 1 | unsupported "internal:list_reverseiterator.__next__"
  return (self, i)
open PySem.Builtin.SmallTypes in
noncomputable def rev1b (self : Value) : Sem (Array Value) := do
  let some xs ← seqItems? (← field self 0) | unsupported "internal:list_reverseiterator.__next__"
  return xs
open PySem.Builtin.SmallTypes in
noncomputable def rev2 (it : It) (b : Nat) : Sem Fin := match b with
  | 0 => do rule "list_reverseiterator.__next__.ended"; stopIteration
  | k + 1 => do setField it.self 1 (rawInt (it.i - 1)); ret (shape k (itemAt it.xs.toList it.i.toNat))
theorem ris_eq (args : Args) {M : Model} {A : Around} {Q : Fin → Shared → Prop} {E : Value → Shared → Prop} {s : Shared} (b : Nat) (h : wpAny M A (ris1 args) (fun it s' => risD it b ∧ wpAny M A (ris2 it b) Q E s') E s) :
    wpAny M A (Builtin.«list_iterator.__next__» args) Q E s := by
  have e : Builtin.«list_iterator.__next__» args = (ris1 args >>= fun it => match it.xs[it.i.toNat]? with
    | some x => (do setField it.self 1 (rawInt (it.i + 1)); ret x)
    | none => (do rule "list_iterator.__next__.end"; setField it.self 0 .none; PySem.Builtin.SmallTypes.stopIteration)) := by
    show Builtin.«list_iterator.__next__» args = _
    unfold ris1 Builtin.«list_iterator.__next__»
    simp only [bind_assoc]
    show (slotArgs _ _ _ >>= _) = _
    congr 1
    funext sr
    obtain ⟨self, rest⟩ := sr
    dsimp only
    congr 1
    funext v
    show (if _ then _ else _) = _
    split
    · simp only [bind_assoc, stopB]; rfl
    · simp only [bind_assoc]
      congr 1
      funext v1
      cases v1 <;> first | rfl | skip
      rename_i i tk
      simp only [bind_assoc]
      congr 1
      funext o
      cases o <;> rfl
  rw [e]
  refine wpAny_bind (wpAny_mono h (fun it s' hd => ?_) (fun _ _ x => x))
  obtain ⟨hd, hq⟩ := hd
  cases b with
  | zero =>
    have hd : it.xs.toList.length ≤ it.i.toNat := hd
    have : it.xs[it.i.toNat]? = none := by rw [← Array.getElem?_toList]; exact List.getElem?_eq_none hd
    rw [this]; exact hq
  | succ k =>
    obtain ⟨h1, h2⟩ := hd
    have : it.xs[it.i.toNat]? = some (shape k (itemAt it.xs.toList it.i.toNat)) := by rw [← Array.getElem?_toList, itemAt_eq h2, ← h1]
    rw [this]; exact hq
theorem rng_eq (args : Args) {M : Model} {A : Around} {Q : Fin → Shared → Prop} {E : Value → Shared → Prop} {s : Shared} (b : Nat) (h : wpAny M A (rng1 args) (fun it s' => rngD it b ∧ wpAny M A (rng2 it b) Q E s') E s) :
    wpAny M A (Builtin.«range_iterator.__next__» args) Q E s := by
  have e : Builtin.«range_iterator.__next__» args = (rng1 args >>= fun it => if it.j ≤ 0 then (do rule "range_iterator.__next__.end"; PySem.Builtin.SmallTypes.stopIteration) else (do setField it.self 0 (rawInt (it.i + it.k)); setField it.self 1 (rawInt (it.j - 1)); retInt it.i)) := by
    unfold rng1 Builtin.«range_iterator.__next__»
    simp only [bind_assoc]
    congr 1
    funext sr
    obtain ⟨self, rest⟩ := sr
    dsimp only
    congr 1
    funext v
    cases v <;> first | rfl | skip
    simp only [bind_assoc]
    congr 1
    funext v
    cases v <;> first | rfl | skip
    simp only [bind_assoc]
    congr 1
    funext v
    cases v <;> first | rfl | skip
    rw [pure_bind]
    dsimp only
    split
    · simp only [bind_assoc, stopB]
    · rfl
  rw [e]
  refine wpAny_bind (wpAny_mono h (fun it s' hd => ?_) (fun _ _ x => x))
  obtain ⟨hd, hq⟩ := hd
  cases b with
  | zero => rw [if_pos (show it.j ≤ 0 from hd)]; exact hq
  | succ k => rw [if_neg (by have : 0 < it.j := hd; lia)]; exact hq
theorem rev_eq (args : Args) {M : Model} {A : Around} {Q : Fin → Shared → Prop} {E : Value → Shared → Prop} {s : Shared} (b : Nat) (h : wpAny M A (rev1 args) (fun p s' => match b with
      | 0 => p.2 < 0 ∧ wpAny M A (rev2 ⟨p.1, p.2, 0, 0, #[]⟩ 0) Q E s'
      | k + 1 => ¬ p.2 < 0 ∧ wpAny M A (rev1b p.1) (fun xs s'' => (itemAt xs.toList p.2.toNat = shape k (itemAt xs.toList p.2.toNat) ∧ p.2.toNat < xs.toList.length) ∧ wpAny M A (rev2 ⟨p.1, p.2, 0, 0, xs⟩ (k + 1)) Q E s'') E s') E s) :
    wpAny M A (Builtin.«list_reverseiterator.__next__» args) Q E s := by
  have e : Builtin.«list_reverseiterator.__next__» args = (rev1 args >>= fun p => if p.2 < 0 then (do rule "list_reverseiterator.__next__.ended"; PySem.Builtin.SmallTypes.stopIteration) else rev1b p.1 >>= fun xs => (do
      if let some x := xs[p.2.toNat]? then
        setField p.1 1 (rawInt (p.2 - 1))
        return ← ret x
      rule "list_reverseiterator.__next__.list-shrank"
      setField p.1 1 (rawInt (-1)); setField p.1 0 .none
      PySem.Builtin.SmallTypes.stopIteration)) := by
    unfold rev1 rev1b Builtin.«list_reverseiterator.__next__»
    simp only [bind_assoc]
    congr 1
    funext sr
    obtain ⟨self, rest⟩ := sr
    dsimp only
    congr 1
    funext v
    cases v <;> first | rfl | skip
    rw [pure_bind]
    dsimp only
    split
    · simp only [bind_assoc, stopB]
    · congr 1
      funext v
      congr 1
      funext o
      cases o <;> rfl
  rw [e]
  refine wpAny_bind (wpAny_mono h (fun p s' hd => ?_) (fun _ _ x => x))
  cases b with
  | zero => rw [if_pos hd.1]; exact hd.2
  | succ k =>
    rw [if_neg hd.1]
    refine wpAny_bind (wpAny_mono hd.2 (fun xs s'' hx => ?_) (fun _ _ x => x))
    obtain ⟨⟨h1, h2⟩, hq⟩ := hx
    have : xs[p.2.toNat]? = some (shape k (itemAt xs.toList p.2.toNat)) := by rw [← Array.getElem?_toList, itemAt_eq h2, ← h1]
    rw [this]
    exact hq
end Mine
lay_z Mine.enterT Mine.next1 Mine.next2 Mine.ris1 Mine.ris2 Mine.rng1 Mine.rng2 Mine.rev1 Mine.rev1b Mine.rev2
namespace Mine
open PySem PySem.Spec PySem.Calls PyProof.Rows PySem.W PySem.W.X
noncomputable def enterZ : Addr → Args → Sem Code := PySem.W.ZFast.zw15130636977721438573
theorem enterZ_eq : enterT = enterZ := PySem.W.ZFast.ze15130636977721438573
noncomputable def next1Z : Args → Sem (Value × Value × Value) := PySem.W.ZFast.zw4942136393978548925
theorem next1Z_eq : next1 = next1Z := PySem.W.ZFast.ze4942136393978548925
noncomputable def next2Z : Value → Value → Bool → Sem Fin := PySem.W.ZFast.zw10483023204729893784
theorem next2Z_eq : next2 = next2Z := PySem.W.ZFast.ze10483023204729893784
noncomputable def nextN : Nat := 154871534474935724191431299575622858322749446335671712506274404
theorem next_code : S.codeS "callable_iterator.__next__" = nextN := by rw [← S.code_S]; decide +kernel
noncomputable abbrev Ih := Nat → Job → View → List Nat → VC
noncomputable def stepT (B : Bs) (ih : Ih) (d : Nat) (α : Type) (t : Sem α) (Q : Except Value α → View → List Nat → VC) (V : View) (hs : List Nat) : VC := match t with
  | .pure a => Q (.ok a) V hs
  | .raise e => Q (.error e) V hs
  | .rule _ k => ih d (.tree α (k ()) Q) V hs
  | .at _ k => ih d (.tree α (k ()) Q) V hs
  | .point _ k => ih d (.tree α (k ()) Q) V hs
  | .ask k => ih d (.tree α (k B.setting) Q) V hs
  | .fresh k => .al fun t => ih d (.tree α (k t) Q) V hs
  | .handled own k => match own with
    | false => ih d (.tree α (k none) Q) V hs
    | true => .ff
  | .load a p k => match hs with
    | [] => Need d (.tree α (.load a p k) Q) V
    | h :: hs => match h with
      | 0 => match topGet B a with
        | some o => ih d (.tree α (k o) Q) V hs
        | none => .ff
      | i + 1 => match nth V i with
        | some p => .eq a p.1 (ih d (.tree α (k p.2) Q) V hs)
        | none => .ff
  | .alloc o k => match o.isFreed with
    | true => .ff
    | false => .al fun a => ih d (.tree α (k a) Q) ((a, o) :: V) hs
  | .update a p f k => match hs with
    | [] => Need d (.tree α (.update a p f k) Q) V
    | h :: hs => match h with
      | 0 => .ff
      | i + 1 => match nth V i with
        | some p => .eq a p.1 (match (f p.2).isFreed || (isCodeO p.2 || isCodeO (f p.2)) with
          | true => .ff
          | false => ih d (.tree α (k ()) Q) (setAt V i (p.1, f p.2)) hs)
        | none => .ff
  | .call c hd _ _ k => match hd with
    | none => ih d (.code c fun r V' hs' => ih d (.tree α (k r) Q) V' hs') V hs
    | some _ => .ff
  | _ => .ff
noncomputable def ris1Z : Args → Sem It := PySem.W.ZFast.zw6225020286165621251
theorem ris1Z_eq : ris1 = ris1Z := PySem.W.ZFast.ze6225020286165621251
noncomputable def ris2Z : It → Nat → Sem Fin := PySem.W.ZFast.zw7562995381249447989
theorem ris2Z_eq : ris2 = ris2Z := PySem.W.ZFast.ze7562995381249447989
noncomputable def rng1Z : Args → Sem It := PySem.W.ZFast.zw2782919607356895642
theorem rng1Z_eq : rng1 = rng1Z := PySem.W.ZFast.ze2782919607356895642
noncomputable def rng2Z : It → Nat → Sem Fin := PySem.W.ZFast.zw11384918187423302842
theorem rng2Z_eq : rng2 = rng2Z := PySem.W.ZFast.ze11384918187423302842
noncomputable def rev1Z : Args → Sem (Value × Int) := PySem.W.ZFast.zw10278830313236568754
theorem rev1Z_eq : rev1 = rev1Z := PySem.W.ZFast.ze10278830313236568754
noncomputable def rev1bZ : Value → Sem (Array Value) := PySem.W.ZFast.zw7146684482343592202
theorem rev1bZ_eq : rev1b = rev1bZ := PySem.W.ZFast.ze7146684482343592202
noncomputable def rev2Z : It → Nat → Sem Fin := PySem.W.ZFast.zw1730110228800397476
theorem rev2Z_eq : rev2 = rev2Z := PySem.W.ZFast.ze1730110228800397476
noncomputable def risN : Nat := 36058839055461744822429329989390181918337346850548333
theorem ris_code : S.codeS "list_iterator.__next__" = risN := by rw [← S.code_S]; decide +kernel
noncomputable def rngN : Nat := 9231062798198206674541908477283886571094360729114862195
theorem rng_code : S.codeS "range_iterator.__next__" = rngN := by rw [← S.code_S]; decide +kernel
noncomputable def revN : Nat := 2598313186137443230876068262140933028618167048917384278858065557875309
theorem rev_code : S.codeS "list_reverseiterator.__next__" = revN := by rw [← S.code_S]; decide +kernel
noncomputable def finK (quiet : Code → Bool) (go : Code → View → List Nat → VC) (K : Result → View → List Nat → VC) (r : Except Value Fin) (V' : View) (hs' : List Nat) : VC := match r with
  | .ok fin => match fin with
    | .done f => K (.ok f) V' hs'
    | .again c' => match quiet c' with
      | true => go c' V' hs'
      | false => .ff
  | .error e => K (.error e) V' hs'
noncomputable def sc0 (ih : Ih) (d : Nat) (c : Code) (K : Result → View → List Nat → VC) (V : View) (hs : List Nat) : VC := match d with
  | 0 => .ff
  | d' + 1 => match notCaller c with
    | false => .ff
    | true => ih d' (.tree Fin (den c) fun r V' hs' => finK quietZ (fun c' => ih (d' + 1) (.code c' K)) K r V' hs') V hs
noncomputable def sc1 (ih : Ih) (d : Nat) (c : Code) (K : Result → View → List Nat → VC) (V : View) (hs : List Nat) : VC := match d with
  | 0 => .ff
  | d' + 1 => match c with
    | .call f args => match f with
      | .ref a => ih d' (.tree Code (enterZ a args) fun r V' hs' => match r with
        | .ok c' => ih (d' + 1) (.code c' K) V' hs'
        | .error e => K (.error e) V' hs') V hs
      | _ => .ff
    | _ => .ff
noncomputable def sc2 {B : Bs} (bc : List (BCut B)) (d : Nat) (c : Code) (K : Result → View → List Nat → VC) (V : View) (hs : List Nat) : VC := match hs with
  | [] => .ff
  | j :: hs => match bc[j]? with
    | none => .ff
    | some b => match c with
      | .builtin id args => match args with
        | ⟨pos, kw⟩ => match kw with
          | [] => match Nat.beq (S.codeS id) b.code with
            | true => match Nat.ble b.d d with
              | true => b.f pos V hs K
              | false => .ff
            | false => .ff
          | _ :: _ => .ff
      | _ => .ff
noncomputable def sc3 {B : Bs} (cs : List (Use B)) (d : Nat) (c : Code) (K : Result → View → List Nat → VC) (V : View) (hs : List Nat) : VC := match hs with
  | [] => .ff
  | j :: hs => match cs[j]? with
    | none => .ff
    | some k => match hs with
      | [] => .ff
      | m :: hs => match pull V (hs.take m) with
        | none => .ff
        | some (pulled, rest) => match Nat.ble k.k.d d with
          | false => .ff
          | true => .same c (k.k.c (k.on c pulled)) <| .same pulled (k.k.pre (k.on c pulled)) <| .cn (k.k.P (k.on c pulled)) (k.k.R (k.on c pulled)) fun e => K (k.k.res (k.on c pulled) e) (k.k.out (k.on c pulled) e ++ rest) (hs.drop m)
noncomputable def itJ (n : Nat) (F : Nat → Nat → Args → List Nat → VC) (d : Nat) (c : Code) (hs : List Nat) : VC := match hs with
  | [] => .ff
  | b :: hs => match d with
    | 0 => .ff
    | d' + 1 => match c with
      | .builtin id args => match Nat.beq (S.codeS id) n with
        | false => .ff
        | true => F d' b args hs
      | _ => .ff
theorem itJ_sound {n : Nat} {F : Nat → Nat → Args → List Nat → VC} {d : Nat} {c : Code} {hs : List Nat} (H : N (itJ n F d c hs)) : ∃ d' b hs' id args, d = d' + 1 ∧ c = .builtin id args ∧ S.codeS id = n ∧ N (F d' b args hs') := by
  cases hs with
  | nil => cases H
  | cons b hs =>
    cases d with
    | zero => cases H
    | succ d =>
      cases c <;> try (cases (show False from H))
      rename_i id args
      have H : N (match Nat.beq (S.codeS id) n with | false => .ff | true => F d b args hs) := H
      cases h : Nat.beq (S.codeS id) n with
      | false => rw [h] at H; cases H
      | true => rw [h] at H; exact ⟨d, b, hs, id, args, rfl, rfl, Nat.eq_of_beq_eq_true h, H⟩
noncomputable def bz : Nat → Bool
  | 0 => false
  | _ => true
noncomputable def eqNe (b : Nat) (x y : Str) : Prop := match b with
  | 0 => x ≠ y
  | _ => x = y
noncomputable def nxiF (ih : Ih) (K : Result → View → List Nat → VC) (V : View) (d' b : Nat) (args : Args) (hs : List Nat) : VC :=
  ih d' (.tree (Value × Value × Value) (next1Z args) fun r V1 hs1 => match r with
    | .ok x => match x.2.1 with
      | .str ys _ => match x.2.2 with
        | .str zs _ => .ob (eqNe b ys zs) <| ih d' (.tree Fin (next2Z x.1 x.2.2 (bz b)) fun r V' hs' => finK quietZ (fun c' => ih (d' + 1) (.code c' K)) K r V' hs') V1 hs1
        | _ => .ff
      | _ => .ff
    | .error e => K (.error e) V1 hs1) V hs
noncomputable def rsiF (ih : Ih) (K : Result → View → List Nat → VC) (V : View) (d' b : Nat) (args : Args) (hs : List Nat) : VC :=
  ih d' (.tree It (ris1Z args) fun r V1 hs1 => match r with
    | .ok it => .ob (risD it b) <| ih d' (.tree Fin (ris2Z it b) fun r V' hs' => finK quietZ (fun c' => ih (d' + 1) (.code c' K)) K r V' hs') V1 hs1
    | .error e => K (.error e) V1 hs1) V hs
noncomputable def rgiF (ih : Ih) (K : Result → View → List Nat → VC) (V : View) (d' b : Nat) (args : Args) (hs : List Nat) : VC :=
  ih d' (.tree It (rng1Z args) fun r V1 hs1 => match r with
    | .ok it => .ob (rngD it b) <| ih d' (.tree Fin (rng2Z it b) fun r V' hs' => finK quietZ (fun c' => ih (d' + 1) (.code c' K)) K r V' hs') V1 hs1
    | .error e => K (.error e) V1 hs1) V hs
noncomputable def rviF (ih : Ih) (K : Result → View → List Nat → VC) (V : View) (d' b : Nat) (args : Args) (hs : List Nat) : VC :=
  ih d' (.tree (Value × Int) (rev1Z args) fun r V1 hs1 => match r with
    | .ok p => match b with
      | 0 => .ob (p.2 < 0) <| ih d' (.tree Fin (rev2Z ⟨p.1, p.2, 0, 0, #[]⟩ 0) fun r V' hs' => finK quietZ (fun c' => ih (d' + 1) (.code c' K)) K r V' hs') V1 hs1
      | k + 1 => .ob (¬ p.2 < 0) <| ih d' (.tree (Array Value) (rev1bZ p.1) fun r V2 hs2 => match r with
        | .ok xs => .ob (itemAt xs.toList p.2.toNat = shape k (itemAt xs.toList p.2.toNat) ∧ p.2.toNat < xs.toList.length) <| ih d' (.tree Fin (rev2Z ⟨p.1, p.2, 0, 0, xs⟩ (k + 1)) fun r V' hs' => finK quietZ (fun c' => ih (d' + 1) (.code c' K)) K r V' hs') V2 hs2
        | .error e => K (.error e) V2 hs2) V1 hs1
    | .error e => K (.error e) V1 hs1) V hs
noncomputable def stepC (B : Bs) (bc : List (BCut B)) (cs : List (Use B)) (ih : Ih) (d : Nat) (c : Code) (K : Result → View → List Nat → VC) (V : View) (hs : List Nat) : VC := match hs with
  | [] => Need d (.code c K) V
  | h :: hs => match h with
    | 0 => sc0 ih d c K V hs
    | 1 => sc1 ih d c K V hs
    | 2 => sc2 bc d c K V hs
    | 3 => sc3 cs d c K V hs
    | 4 => itJ nextN (nxiF ih K V) d c hs
    | 5 => itJ risN (rsiF ih K V) d c hs
    | 6 => itJ rngN (rgiF ih K V) d c hs
    | _ => itJ revN (rviF ih K V) d c hs
noncomputable def run (B : Bs) (bc : List (BCut B)) (cs : List (Use B)) : Nat → Ih
  | 0 => fun _ _ _ _ => .ff
  | n + 1 => fun d job V hs => match job with
    | .tree α t Q => stepT B (run B bc cs n) d α t Q V hs
    | .code c K => stepC B bc cs (run B bc cs n) d c K V hs
noncomputable def Means (B : Bs) (A : Around) (s : Shared) (V : View) : Job → Prop
  | .tree α t Q => wpAny (model B.prog B.w) A t (fun a s' => AK B V s Q (.ok a) s') (fun e s' => AK B V s Q (.error e) s') s
  | .code c K => codeAny (model B.prog B.w) A c (fun r s' => AK B V s K r s') s
theorem dt {α : Type} {P : α → Prop} {p : Prop} [Decidable p] {a : p → α} {b : ¬ p → α} (hp : ∀ h, P (a h)) (hn : ∀ h, P (b h)) : P (dite p a b) := by
  by_cases h : p
  · rw [dif_pos h]; exact hp h
  · rw [dif_neg h]; exact hn h
theorem creation_ne (id : String) (args : Args) : id ≠ "type.__call__" → (Code.builtin id args).isCreation = false := by
  intro h
  delta Code.isCreation Code.isCreation.match_1
  exact dif_neg h
noncomputable def FrOk (id : String) (args : Args) (n : Nat) : Prop := n ≤ 3 ∧ (n = 0 ∨ guardIds.contains id = false ∧ (Code.builtin id args).isCreation = false)
theorem fr_k (s : String) (n : Nat) {id : String} {args : Args} (h : id = s) (h1 : Nat.ble n 3 = true) (h2 : guardIds.contains s = false) (h3 : s ≠ "type.__call__") : FrOk id args n := by
  subst h; exact ⟨Nat.le_of_ble_eq_true h1, .inr ⟨h2, creation_ne _ _ h3⟩⟩
theorem fr_ok (id : String) (args : Args) : FrOk id args (Code.builtin id args).frames := by
  delta Code.frames Code.frames.match_1
  iterate 9 refine dt (fun h => by subst h; exact fr_k _ _ rfl rfl (by decide +kernel) (by decide)) fun _ => ?_
  exact ⟨Nat.zero_le _, .inl rfl⟩
theorem weight_b {id : String} {args : Args} (h : id ≠ "claim.caller") : (Code.builtin id args).weight ≤ 3 ∧ (Code.builtin id args).cUnits ≤ 10 := by
  obtain ⟨h1, h2⟩ := fr_ok id args
  have hc : (Code.builtin id args).isCaller = false := by
    delta Code.isCaller Code.isCaller.match_1
    exact dif_neg h
  refine ⟨?_, show 1 + 3 * (Code.builtin id args).frames ≤ 10 by lia⟩
  unfold Code.weight
  rw [hc]
  rcases h2 with h2 | ⟨h2, h3⟩
  · rw [h2]
    cases (Code.builtin id args).isCreation <;> cases (Code.builtin id args).isGuard <;> decide
  · rw [show (Code.builtin id args).isGuard = false from h2, h3]
    exact h1
theorem weight_o {c : Code} (h : c.weight = (if c.isFrame then 1 else 0)) (h2 : c.cUnits ≤ 3 * (if c.isFrame then 1 else 0) + 1) : c.weight ≤ 3 ∧ c.cUnits ≤ 10 := by
  rw [h]
  refine ⟨?_, Nat.le_trans h2 ?_⟩ <;> cases c.isFrame <;> decide
theorem weight_le {c : Code} (h : notCaller c = true) : c.weight ≤ 3 ∧ c.cUnits ≤ 10 := by
  cases c
  case builtin id args =>
    refine weight_b fun e => ?_
    subst e
    replace h : (!Nat.beq (S.codeS "claim.caller") callerN) = true := h
    rw [caller_code] at h
    cases h
  case call => exact weight_o rfl (Nat.le_of_ble_eq_true rfl)
  all_goals exact weight_o rfl (Nat.le_succ _)
theorem Room.under {A : Around} {d : Nat} {c : Code} (x : Room A (d + 1)) (h : notCaller c = true) : Room (A.under c) d := by
  obtain ⟨h1, h2⟩ := weight_le h
  refine ⟨x.handled, ?_, ?_⟩
  · show A.depth + c.weight + 3 * d < recursionLimit
    have := x.depth
    lia
  · show A.units + c.cUnits + 10 * d < cLine
    have := x.units
    lia
theorem Room.le {A : Around} {d d' : Nat} (x : Room A d) (h : d' ≤ d) : Room A d' := ⟨x.handled, by have := x.depth; lia, by have := x.units; lia⟩
theorem Rep.top {B : Bs} (O : B.Ok) {V : View} {s : Shared} (x : Rep B V s) {a : Addr} {o : Obj} (e : topGet B a = some o) : s.heap.get? a = some o := by
  unfold topGet at e
  split at e
  · cases e
  · rename_i ht
    have z := KT.Holds.get O.kt e
    rw [Nat.one_mul, Nat.add_zero] at z
    unfold tabAt at ht
    rw [Bool.or_eq_false_iff] at ht
    refine x.good.kept a o z (fun hl => ?_) (fun t hm he => ?_)
    · have := List.any_eq_false.mp ht.2 a hl
      simp at this
    · have := List.any_eq_false.mp ht.1 t hm
      rw [he] at this
      simp at this
theorem Rep.noLimit {B : Bs} (O : B.Ok) {V : View} {s : Shared} (x : Rep B V s) : s.heap.NoLimit := by
  obtain ⟨mc, ⟨o, es, ep, ho, r⟩, hm⟩ := O.lim
  exact ⟨mc, ⟨o, es, ep, x.good.kept _ _ ho O.stat.1 O.stat.2, r⟩, hm⟩
noncomputable abbrev Eqn (v : VC) (T : Rho → Prop) : Prop := (fun r => (Fl v r 0 0, Ls true v r 0 0)) = fun r => (T r, Ls false v r 0 0)
noncomputable def codeB (fd : FuncData) (env : Env) : Code := match fd.body with
  | .stmts b => .func b env
  | .expr e => .expr e env
noncomputable def lastE (fd : FuncData) (env : Env) : Sem Code := match fd.scope.isGenerator, fd.scope.isCoroutine with
  | false, false => pure (codeB fd env)
  | _, _ => .unsupported "a generator"
noncomputable def lastC (fd : FuncData) (env : Env) : Sem Fin := do
  enterFrame
  match fd.scope.isGenerator, fd.scope.isCoroutine with
  | false, false => again (codeB fd env)
  | true, false => do ret (← newGenerator (codeB fd env) fd.name fd.qualname)
  | false, true => do ret (← newCoroutine (codeB fd env) fd.name fd.qualname)
  | true, true => do ret (← newAsyncGenerator (codeB fd env) fd.name fd.qualname)
noncomputable def envC {α : Type} (fd : FuncData) (args : Args) (f : Addr) (last : Env → Sem α) (q : Str) : Sem α := do
  last (← newFunctionEnv fd.scope fd.globals fd.closure (← bindArgs fd args) (q ++ ".<locals>.") (some f) fd.code none fd.builtins)
noncomputable def qualC {α : Type} (fd : FuncData) (k : Str → Sem α) : Sem α := match fd.code with
  | .none => k fd.qualname
  | c => do match ← field c 1 with
    | .str q _ => k q
    | _ => k fd.qualname
theorem wp_qual {M : Model} {Γ : PySem.Ctx} {α β : Type} {fd : FuncData} {k : Str → Sem α} {k' : Str → Sem β} {Q : α → Pos → Shared → Prop} {E : Value → Pos → Shared → Prop} {Q' : β → Pos → Shared → Prop}
    (h : ∀ q p s, Sem.wp M Γ (k q) Q E p s → Sem.wp M Γ (k' q) Q' E p s) {p : Pos} {s : Shared} (z : Sem.wp M Γ (qualC fd k) Q E p s) : Sem.wp M Γ (qualC fd k') Q' E p s := by
  unfold qualC at z ⊢
  generalize fd.code = c at z ⊢
  cases c <;> first | exact h _ _ _ z | (
    dsimp only at z ⊢
    rw [Sem.wp_bind'] at z ⊢
    refine Sem.wp_mono M Γ _ (fun v p' s' z' => ?_) (fun _ _ _ x => x) _ _ z
    cases v <;> exact h _ _ _ z')
theorem enter_eq (f : Addr) (args : Args) : enterT f args = (do
  let o ← load f
  match o.data with
  | .func fd => qualC fd (envC fd args f (lastE fd))
  | _ => .unsupported "no function") := by
  unfold enterT
  congr 1
theorem call_eq (f : Addr) (fd : FuncData) (args : Args) : callFunction f fd args = qualC fd (envC fd args f (lastC fd)) := by
  unfold callFunction qualC envC lastC codeB
  generalize fd.code = c
  cases c <;> first | rfl | (congr 1; funext v; cases v <;> rfl)
theorem wp_env {M : Model} {Γ : PySem.Ctx} {α β : Type} {fd : FuncData} {args : Args} {f : Addr} {l : Env → Sem α} {l' : Env → Sem β} {Q : α → Pos → Shared → Prop} {E : Value → Pos → Shared → Prop} {Q' : β → Pos → Shared → Prop}
    (h : ∀ env p s, Sem.wp M Γ (l env) Q E p s → Sem.wp M Γ (l' env) Q' E p s) {q : Str} {p : Pos} {s : Shared} (z : Sem.wp M Γ (envC fd args f l q) Q E p s) : Sem.wp M Γ (envC fd args f l' q) Q' E p s := by
  unfold envC at z ⊢
  rw [Sem.wp_bind'] at z ⊢
  refine Sem.wp_mono M Γ _ (fun bs p' s' z' => ?_) (fun _ _ _ x => x) _ _ z
  rw [Sem.wp_bind'] at z' ⊢
  exact Sem.wp_mono M Γ _ (fun env p' s' z'' => h env p' s' z'') (fun _ _ _ x => x) _ _ z'
theorem enter_sound {prog : Program} {w : World} {A : Around} {f : Addr} {args : Args} {R : Result → Shared → Prop} {s : Shared}
    (h : wpAny (model prog w) (A.under (.call (.ref f) args)) (enterT f args) (fun c' s' => s'.heap.NoLimit ∧ codeAny (model prog w) A c' R s') (fun e s' => R (.error e) s') s)
    (hd : (A.under (.call (.ref f) args)).depth < recursionLimit) : codeAny (model prog w) A (.call (.ref f) args) R s := by
  refine codeAny_of_tree ?_
  show wpAny (model prog w) _ (callAny (.ref f) args) _ _ s
  intro Γ p hΓ
  have h := h Γ p hΓ
  rw [enter_eq, Sem.wp_bind'] at h
  unfold callAny
  rw [Sem.wp_bind']
  refine Sem.wp_mono _ Γ _ (fun o p1 s1 h1 => ?_) (fun _ _ _ x => x) p s h
  cases hfd : o.data <;> rw [hfd] at h1 <;> try (cases h1)
  rename_i fd
  dsimp only
  rw [call_eq]
  refine wp_qual (fun q p2 s2 z => wp_env (fun env p4 s4 h4 => ?_) z) h1
  unfold lastE at h4
  unfold lastC
  rw [Sem.wp_bind']
  cases hg : fd.scope.isGenerator <;> cases hc : fd.scope.isCoroutine <;> rw [hg, hc] at h4 <;> try (exact False.elim h4)
  obtain ⟨hl, h4⟩ := h4
  have := wpAny_enterFrame (M := model prog w) (A := A.under (.call (.ref f) args)) (E := fun e s' => R (.error e) s') (s := s4) (Q := fun _ s' => s' = s4) hl hd rfl Γ p4 hΓ
  refine Sem.wp_mono _ Γ _ (fun _ p5 s5 h5 => ?_) (fun _ _ _ x => x) p4 s4 this
  subst h5
  refine ⟨?_, h4⟩
  unfold codeB
  cases fd.body <;> rfl
section sound
variable {B : Bs} (O : B.Ok) {bc : List (BCut B)} {cs : List (Use B)} {ih : Ih}
  (IH : ∀ d job V hs, N (ih d job V hs) → ∀ A s, Room A d → Rep B V s → Means B A s V job)
theorem Means.from_tree {B : Bs} {A : Around} {s s' : Shared} {V V' : View} {α : Type} {t : Sem α} {Q : Except Value α → View → List Nat → VC} (E : Ext B V V' s s') (h : Means B A s' V' (.tree α t Q)) :
    wpAny (model B.prog B.w) A t (fun a s'' => AK B V s Q (.ok a) s'') (fun e s'' => AK B V s Q (.error e) s'') s' :=
  wpAny_mono h (fun a s'' ⟨V'', hs', q, r, x⟩ => ⟨V'', hs', q, r, E.trans x⟩) (fun e s'' ⟨V'', hs', q, r, x⟩ => ⟨V'', hs', q, r, E.trans x⟩)
theorem Means.from_code {B : Bs} {A : Around} {s s' : Shared} {V V' : View} {c : Code} {K : Result → View → List Nat → VC} (E : Ext B V V' s s') (h : Means B A s' V' (.code c K)) :
    codeAny (model B.prog B.w) A c (fun r s'' => AK B V s K r s'') s' :=
  codeAny_mono h (fun a s'' ⟨V'', hs', q, r, x⟩ => ⟨V'', hs', q, r, E.trans x⟩)
include O IH
theorem stepT_sound (d : Nat) (α : Type) (t : Sem α) (Q : Except Value α → View → List Nat → VC) (V : View) (hs : List Nat) (H : N (stepT B ih d α t Q V hs)) (A : Around) (s : Shared) (R : Room A d) (D : Rep B V s) : Means B A s V (.tree α t Q) := by
  cases t with
  | pure a => exact x_pure ⟨V, hs, H, D, Ext.refl V s⟩
  | raise e => exact x_raise ⟨V, hs, H, D, Ext.refl V s⟩
  | rule _ k => exact x_rule (IH _ _ _ _ H A s R D)
  | «at» _ k => exact x_at (IH _ _ _ _ H A s R D)
  | point _ k => exact x_point (IH _ _ _ _ H A s R D)
  | ask k =>
    refine x_ask ?_
    have z := IH _ _ _ _ H A s R D
    unfold Bs.setting at z
    rw [Bs.params_eq O] at z
    exact z
  | fresh k =>
    refine x_fresh ?_
    have E : Ext B V V s { s with toks := s.toks + 1 } := ⟨fun _ _ e _ _ => e, fun _ h => .inl h, fun a o e => ⟨o, e⟩⟩
    exact (IH _ _ _ _ (H s.toks) A _ R D.fresh).from_tree E
  | handled own k =>
    cases own with
    | true => cases H
    | false =>
      refine x_handled ?_
      rw [R.handled]
      exact IH _ _ _ _ H A s R D
  | load a p k =>
    cases hs with
    | nil => exact (no_need H).elim
    | cons h hs =>
      cases h with
      | zero =>
        replace H : N (match topGet B a with | some o => ih d (.tree α (k o) Q) V hs | none => .ff) := H
        cases e : topGet B a with
        | none => rw [e] at H; cases H
        | some o => rw [e] at H; exact x_load (D.top O e) (IH _ _ _ _ H A s R D)
      | succ i =>
        replace H : N (match nth V i with | some p => .eq a p.1 (ih d (.tree α (k p.2) Q) V hs) | none => .ff) := H
        cases e : nth V i with
        | none => rw [e] at H; cases H
        | some q =>
          rw [e] at H
          obtain ⟨rfl, H⟩ := H
          rw [nth_eq] at e
          exact x_load (D.has _ (List.mem_of_getElem? e)) (IH _ _ _ _ H A s R D)
  | alloc o k =>
    replace H : N (match o.isFreed with | true => .ff | false => .al fun a => ih d (.tree α (k a) Q) ((a, o) :: V) hs) := H
    cases hf : o.isFreed with
    | true => rw [hf] at H; cases H
    | false =>
      rw [hf] at H
      have z := D.alloc hf
      refine wpAny_bind (m := PySem.alloc o) (f := k) (wpAny_alloc ?_)
      exact (IH _ _ _ _ (H s.heap.objs.size) A _ R z.1).from_tree z.2
  | update a p f k =>
    cases hs with
    | nil => exact (no_need H).elim
    | cons h hs =>
      cases h with
      | zero => cases H
      | succ i =>
        replace H : N (match nth V i with | some p => .eq a p.1 (match (f p.2).isFreed || (isCodeO p.2 || isCodeO (f p.2)) with | true => .ff | false => ih d (.tree α (k ()) Q) (setAt V i (p.1, f p.2)) hs) | none => .ff) := H
        cases e : nth V i with
        | none => rw [e] at H; cases H
        | some q =>
          rw [e] at H
          obtain ⟨rfl, H⟩ := H
          cases hf : (f q.2).isFreed || (isCodeO q.2 || isCodeO (f q.2)) with
          | true => rw [hf] at H; cases H
          | false =>
            rw [hf] at H
            rw [nth_eq] at e
            rw [setAt_eq] at H
            rw [Bool.or_eq_false_iff, Bool.or_eq_false_iff] at hf
            have z := D.update (i := i) (a := q.1) (o := q.2) (f := f) e hf.1 hf.2.1 hf.2.2
            refine wpAny_bind (m := updatePart q.1 p f) (f := k) (wpAny_updatePart (D.has _ (List.mem_of_getElem? e)) ?_)
            exact (IH _ _ _ _ H A _ R z.1).from_tree z.2
  | call c hd g l k =>
    cases hd with
    | some _ => cases H
    | none =>
      refine x_call ?_ (by intro h; cases h)
      have z : codeAny (model B.prog B.w) A c _ s := IH _ _ _ _ H A s R D
      refine codeAny_mono z ?_
      rintro r s' ⟨V', hs', q, D', x⟩
      exact (IH _ _ _ _ q A s' R D').from_tree x
  | unsupported => cases H
  | finish => cases H
  | loadIfAlive => cases H
  | register => cases H
  | choose => cases H
  | os => cases H
  | newGen => cases H
  | genState => cases H
  | resume => cases H
  | yield => cases H
  | stack => cases H
  | fork => cases H
  | thread => cases H
  | await => cases H
theorem finK_sound {d : Nat} {c0 : Code} {V V1 : View} {K : Result → View → List Nat → VC} {A : Around} {s s1 : Shared} (R : Room A (d + 1)) (x1 : Ext B V V1 s s1) {t : Sem Fin}
    (z2 : Means B (A.under c0) s1 V1 (.tree Fin t fun r V' hs' => finK quietZ (fun c' => ih (d + 1) (.code c' K)) K r V' hs')) :
    wpAny (model B.prog B.w) (A.under c0) t (fun fin s' => match fin with | .done f => (fun r s' => AK B V s K r s') (.ok f) s' | .again c' => c'.quiet = true ∧ codeAny (model B.prog B.w) A c' (fun r s' => AK B V s K r s') s')
      (fun e s' => AK B V s K (.error e) s') s1 := by
  refine wpAny_mono z2 ?_ ?_
  · rintro fin s' ⟨V', hs', q', D', x'⟩
    cases fin with
    | done f => exact ⟨V', hs', q', D', x1.trans x'⟩
    | again c' =>
      unfold finK at q'
      dsimp only at q'
      split at q'
      · rename_i hq
        exact ⟨by rw [quietZ_eq]; exact hq, (IH _ _ _ _ q' A s' R D').from_code (x1.trans x')⟩
      · cases q'
  · rintro e s' ⟨V', hs', q', D', x'⟩
    exact ⟨V', hs', q', D', x1.trans x'⟩
theorem sc0_sound {d : Nat} {c : Code} {K : Result → View → List Nat → VC} {V : View} {hs : List Nat} (H : N (sc0 ih d c K V hs)) {A : Around} {s : Shared} (R : Room A d) (D : Rep B V s) : Means B A s V (.code c K) := by
  cases d with
  | zero => cases H
  | succ d =>
    have H : N (match notCaller c with | false => .ff | true => ih d (.tree Fin (den c) fun r V' hs' => finK quietZ (fun c' => ih (d + 1) (.code c' K)) K r V' hs') V hs) := H
    cases hc : notCaller c with
    | false => rw [hc] at H; cases H
    | true =>
      rw [hc] at H
      refine codeAny_of_tree ?_
      show wpAny (model B.prog B.w) _ (denote table c) _ _ s
      rw [den_eq]
      exact finK_sound O IH R (Ext.refl V s) (IH _ _ _ _ H (A.under c) s (R.under hc) D)
theorem sc1_sound {d : Nat} {c : Code} {K : Result → View → List Nat → VC} {V : View} {hs : List Nat} (H : N (sc1 ih d c K V hs)) {A : Around} {s : Shared} (R : Room A d) (D : Rep B V s) : Means B A s V (.code c K) := by
  cases d with
  | zero => cases H
  | succ d =>
    cases c <;> try (cases (show False from H))
    rename_i f args
    cases f <;> try (cases (show False from H))
    rename_i a
    have hc : notCaller (.call (.ref a) args) = true := rfl
    have RU := R.under hc
    have z := IH _ _ _ _ H (A.under (.call (.ref a) args)) s RU D
    rw [← enterZ_eq] at z
    refine enter_sound ?_ (by have := RU.depth; lia)
    refine wpAny_mono z ?_ ?_
    · rintro c' s' ⟨V', hs', q, D', x⟩
      exact ⟨D'.noLimit O, (IH _ _ _ _ q A s' R D').from_code x⟩
    · rintro e s' ⟨V', hs', q, D', x⟩
      exact ⟨V', hs', q, D', x⟩
omit IH in
theorem sc2_sound {d : Nat} {c : Code} {K : Result → View → List Nat → VC} {V : View} {hs : List Nat} (H : N (sc2 bc d c K V hs)) {A : Around} {s : Shared} (R : Room A d) (D : Rep B V s) : Means B A s V (.code c K) := by
  cases hs with
  | nil => cases H
  | cons j hs =>
    unfold sc2 at H
    dsimp only at H
    split at H
    · cases H
    · rename_i b _
      split at H
      · rename_i id args
        split at H
        · rename_i hkw
          split at H
          · rename_i he
            split at H
            · rename_i hd
              have e : id = b.id := codeS_inj ((Nat.eq_of_beq_eq_true he).trans b.hid.symm)
              subst e
              obtain ⟨pos, kw⟩ := args
              dsimp only at hkw
              subst hkw
              exact b.ok _ _ _ _ H A s (R.le (Nat.le_of_ble_eq_true hd)) D
            · cases H
          · cases H
        · cases H
      · cases H
omit IH in
theorem sc3_sound {d : Nat} {c : Code} {K : Result → View → List Nat → VC} {V : View} {hs : List Nat} (H : N (sc3 cs d c K V hs)) {A : Around} {s : Shared} (R : Room A d) (D : Rep B V s) : Means B A s V (.code c K) := by
  cases hs with
  | nil => cases H
  | cons j hs =>
    unfold sc3 at H
    dsimp only at H
    split at H
    · cases H
    · rename_i k _
      cases hs with
      | nil => cases H
      | cons m hs =>
        dsimp only at H
        split at H
        · cases H
        · rename_i pulled rest hp
          split at H
          · cases H
          · rename_i hd
            obtain ⟨hc1, hc2, hP, H⟩ := H
            generalize k.on c pulled = x at hc1 hc2 hP H
            subst hc1 hc2
            obtain ⟨k, on⟩ := k
            dsimp only at *
            have pm := pull_perm hp
            have pe : (excl V).Perm (excl (k.pre x) ++ excl rest) := by
              rw [← excl_append]
              exact (pm.filter _).map _
            have nd : (excl (k.pre x) ++ excl rest).Nodup := pe.nodup_iff.mp D.nd
            rw [List.nodup_append] at nd
            have inV : ∀ p, p ∈ k.pre x ++ rest → p ∈ V := fun p h => pm.mem_iff.mpr h
            have Dp : Rep B (k.pre x) s := ⟨D.good, fun p h => D.has p (inV p (List.mem_append_left _ h)), nd.1, fun a h => D.own a (pe.mem_iff.mpr (List.mem_append_left _ h))⟩
            refine codeAny_mono (k.ok x hP A s (R.le (Nat.le_of_ble_eq_true hd)) Dp) ?_
            rintro r s' ⟨V', ⟨e, he, rfl, rfl⟩, D', x'⟩
            have hq := H e he
            have rest_ne : ∀ p ∈ rest, p.1 ∉ excl (k.pre x) := fun p h hm => by
              cases hc : isCodeO p.2 with
              | false => exact nd.2.2 p.1 hm p.1 (mem_excl h hc) rfl
              | true =>
                obtain ⟨o, ho, hco⟩ := excl_mem hm
                have e1 := D.has _ (inV _ (List.mem_append_left _ ho))
                have e2 := D.has _ (inV _ (List.mem_append_right _ h))
                have : o = p.2 := Option.some.inj (e1.symm.trans e2)
                rw [this, hc] at hco
                cases hco
            have rest_priv : ∀ p ∈ rest, ¬ Priv B p.1 := fun p h ⟨t, ht, et⟩ => by
              cases hc : isCodeO p.2 with
              | false => exact (D.own p.1 (pe.mem_iff.mpr (List.mem_append_right _ (mem_excl h hc)))).2 ⟨t, ht, et⟩
              | true =>
                obtain ⟨as, _, e2, _⟩ := D.good.tabs t ht
                have e1 := D.has _ (inV _ (List.mem_append_right _ h))
                rw [et, e2] at e1
                have := Option.some.inj e1
                rw [← this] at hc
                cases hc
            have rest_get : ∀ p ∈ rest, s'.heap.get? p.1 = some p.2 := fun p h =>
              x'.same p.1 p.2 (D.has p (inV p (List.mem_append_right _ h))) (rest_ne p h) (rest_priv p h)
            refine ⟨_, _, hq, ⟨D'.good, ?_, ?_, ?_⟩, ?_⟩
            · intro p h
              rcases List.mem_append.mp h with h | h
              · exact D'.has p h
              · exact rest_get p h
            · rw [excl_append, List.nodup_append]
              refine ⟨D'.nd, nd.2.1, ?_⟩
              intro a ha b hb hab
              subst hab
              obtain ⟨o, hor, hoc⟩ := excl_mem hb
              rcases x'.new _ ha with q | q
              · exact rest_ne _ hor q
              · rw [D.has _ (inV _ (List.mem_append_right _ hor))] at q; cases q
            · intro a h
              rw [excl_append] at h
              rcases List.mem_append.mp h with h | h
              · exact D'.own a h
              · exact D.own a (pe.mem_iff.mpr (List.mem_append_right _ h))
            · refine ⟨fun a o ea hn hp' => x'.same a o ea (fun h => hn (pe.mem_iff.mpr (List.mem_append_left _ h))) hp', fun a ha => ?_, x'.there⟩
              rw [excl_append] at ha
              rcases List.mem_append.mp ha with h | h
              · rcases x'.new a h with q | q
                · exact .inl (pe.mem_iff.mpr (List.mem_append_left _ q))
                · exact .inr q
              · exact .inl (pe.mem_iff.mpr (List.mem_append_right _ h))
omit O IH in
theorem it_head {id : String} {n : Nat} (hn : S.codeS id = n) (hne : Nat.beq n callerN = false) {F : Nat → Nat → Args → List Nat → VC} {d : Nat} {c : Code} {hs : List Nat} (H : N (itJ n F d c hs)) {A : Around} (R : Room A d) :
    ∃ d' b hs' args, d = d' + 1 ∧ c = .builtin id args ∧ Room (A.under (.builtin id args)) d' ∧ N (F d' b args hs') := by
  obtain ⟨d', b, hs', id', args, rfl, rfl, hid, H⟩ := itJ_sound H
  have e : id' = id := codeS_inj (hid.trans hn.symm)
  subst e
  refine ⟨d', b, hs', args, rfl, rfl, R.under ?_, H⟩
  show (!Nat.beq (S.codeS id') callerN) = true
  rw [hn, hne]; rfl
theorem it4_sound {d : Nat} {c : Code} {K : Result → View → List Nat → VC} {V : View} {hs : List Nat} (H : N (itJ nextN (nxiF ih K V) d c hs)) {A : Around} {s : Shared} (R : Room A d) (D : Rep B V s) : Means B A s V (.code c K) := by
  obtain ⟨d, b, hs, args, rfl, rfl, RU, H⟩ := it_head (id := "callable_iterator.__next__") next_code (by decide +kernel) H R
  have z := IH _ _ _ _ H _ s RU D
  refine codeAny_builtin (b := Builtin.«callable_iterator.__next__») (entryFor_of_tree (by kernel_rfl)) ?_
  rw [next_eq]
  rw [← next1Z_eq] at z
  refine wpAny_bind (wpAny_mono z ?_ ?_)
  · rintro ⟨self, y, r⟩ s1 ⟨V1, hs1, q, D1, x1⟩
    dsimp only at q ⊢
    cases y <;> try (cases (show False from q))
    cases r <;> try (cases (show False from q))
    rename_i ys ty zs tz
    obtain ⟨hc, q⟩ := q
    refine wpAny_bind (wpAny_holding (wpAny_eqBool_str ?_))
    have e : decide (ys = zs) = bz b := by
      cases b with
      | zero => exact decide_eq_false hc
      | succ b => exact decide_eq_true hc
    rw [e]
    have z2 := IH _ _ _ _ q _ s1 RU D1
    rw [← next2Z_eq] at z2
    exact finK_sound O IH R x1 z2
  · rintro e s1 ⟨V1, hs1, q, D1, x1⟩
    exact ⟨V1, hs1, q, D1, x1⟩
theorem it5_sound {d : Nat} {c : Code} {K : Result → View → List Nat → VC} {V : View} {hs : List Nat} (H : N (itJ risN (rsiF ih K V) d c hs)) {A : Around} {s : Shared} (R : Room A d) (D : Rep B V s) : Means B A s V (.code c K) := by
  obtain ⟨d, b, hs, args, rfl, rfl, RU, H⟩ := it_head (id := "list_iterator.__next__") ris_code (by decide +kernel) H R
  have z := IH _ _ _ _ H _ s RU D
  refine codeAny_builtin (b := Builtin.«list_iterator.__next__») (entryFor_of_tree (by kernel_rfl)) ?_
  rw [← ris1Z_eq] at z
  refine ris_eq args b (wpAny_mono z ?_ ?_)
  · rintro it s1 ⟨V1, hs1, q, D1, x1⟩
    refine ⟨q.1, ?_⟩
    have z2 := IH _ _ _ _ q.2 _ s1 RU D1
    rw [← ris2Z_eq] at z2
    exact finK_sound O IH R x1 z2
  · rintro e s1 ⟨V1, hs1, q, D1, x1⟩
    exact ⟨V1, hs1, q, D1, x1⟩
theorem it6_sound {d : Nat} {c : Code} {K : Result → View → List Nat → VC} {V : View} {hs : List Nat} (H : N (itJ rngN (rgiF ih K V) d c hs)) {A : Around} {s : Shared} (R : Room A d) (D : Rep B V s) : Means B A s V (.code c K) := by
  obtain ⟨d, b, hs, args, rfl, rfl, RU, H⟩ := it_head (id := "range_iterator.__next__") rng_code (by decide +kernel) H R
  have z := IH _ _ _ _ H _ s RU D
  refine codeAny_builtin (b := Builtin.«range_iterator.__next__») (entryFor_of_tree (by kernel_rfl)) ?_
  rw [← rng1Z_eq] at z
  refine rng_eq args b (wpAny_mono z ?_ ?_)
  · rintro it s1 ⟨V1, hs1, q, D1, x1⟩
    refine ⟨q.1, ?_⟩
    have z2 := IH _ _ _ _ q.2 _ s1 RU D1
    rw [← rng2Z_eq] at z2
    exact finK_sound O IH R x1 z2
  · rintro e s1 ⟨V1, hs1, q, D1, x1⟩
    exact ⟨V1, hs1, q, D1, x1⟩
theorem it7_sound {d : Nat} {c : Code} {K : Result → View → List Nat → VC} {V : View} {hs : List Nat} (H : N (itJ revN (rviF ih K V) d c hs)) {A : Around} {s : Shared} (R : Room A d) (D : Rep B V s) : Means B A s V (.code c K) := by
  obtain ⟨d, b, hs, args, rfl, rfl, RU, H⟩ := it_head (id := "list_reverseiterator.__next__") rev_code (by decide +kernel) H R
  have z := IH _ _ _ _ H _ s RU D
  refine codeAny_builtin (b := Builtin.«list_reverseiterator.__next__») (entryFor_of_tree (by kernel_rfl)) ?_
  rw [← rev1Z_eq] at z
  refine rev_eq args b (wpAny_mono z ?_ ?_)
  · rintro ⟨self, i⟩ s1 ⟨V1, hs1, q, D1, x1⟩
    cases b with
    | zero =>
      refine ⟨q.1, ?_⟩
      have z2 := IH _ _ _ _ q.2 _ s1 RU D1
      rw [← rev2Z_eq] at z2
      exact finK_sound O IH R x1 z2
    | succ k =>
      refine ⟨q.1, ?_⟩
      have z2 := IH _ _ _ _ q.2 _ s1 RU D1
      rw [← rev1bZ_eq] at z2
      refine wpAny_mono z2 ?_ ?_
      · rintro xs s2 ⟨V2, hs2, q2, D2, x2⟩
        refine ⟨q2.1, ?_⟩
        have z3 := IH _ _ _ _ q2.2 _ s2 RU D2
        rw [← rev2Z_eq] at z3
        exact finK_sound O IH R (x1.trans x2) z3
      · rintro e s2 ⟨V2, hs2, q2, D2, x2⟩
        exact ⟨V2, hs2, q2, D2, x1.trans x2⟩
  · rintro e s1 ⟨V1, hs1, q, D1, x1⟩
    exact ⟨V1, hs1, q, D1, x1⟩
theorem stepC_sound (d : Nat) (c : Code) (K : Result → View → List Nat → VC) (V : View) (hs : List Nat) (H : N (stepC B bc cs ih d c K V hs)) (A : Around) (s : Shared) (R : Room A d) (D : Rep B V s) : Means B A s V (.code c K) :=
  match hs, H with
  | [], H => (no_need H).elim
  | 0 :: _, H => sc0_sound O IH H R D
  | 1 :: _, H => sc1_sound O IH H R D
  | 2 :: _, H => sc2_sound O H R D
  | 3 :: _, H => sc3_sound O H R D
  | 4 :: _, H => it4_sound O IH H R D
  | 5 :: _, H => it5_sound O IH H R D
  | 6 :: _, H => it6_sound O IH H R D
  | (_ + 7) :: _, H => it7_sound O IH H R D
end sound
theorem run_sound {B : Bs} (O : B.Ok) (bc : List (BCut B)) (cs : List (Use B)) : ∀ n d job V hs, N (run B bc cs n d job V hs) → ∀ A s, Room A d → Rep B V s → Means B A s V job
  | 0 => fun _ _ _ _ H => by cases H
  | n + 1 => fun d job V hs H A s R D => by
    cases job with
    | tree α t Q => exact stepT_sound O (run_sound O bc cs n) d α t Q V hs H A s R D
    | code c K => exact stepC_sound O (run_sound O bc cs n) d c K V hs H A s R D
end Mine
end
section
namespace Mine
open PySem PySem.Spec PySem.Calls PyProof.Rows PySem.W PySem.W.X PySem.Builtin PySem.Builtin.Str
section
variable {B : Bs} {V : View} {hs : List Nat} {K : Result → View → List Nat → VC} {A : Around} {s : Shared}
theorem gives_ok {id : String} {b : Builtin} (he : entryFor table id = some b) (hp : plainId id = true) {args : List Value} {m : Made} (g : Gives (b ⟨args, []⟩) m)
    (h : m.post (fun v s' => AK B V s K (.ok (.ret v)) s') s) :
    codeAny (model B.prog B.w) A (.builtin id ⟨args, []⟩) (fun r s' => AK B V s K r s') s :=
  codeAny_builtin he (by rw [Around.under_plainId hp]; exact g _ _ _ (fun r s' => AK B V s K r s') _ h)
theorem ext_fresh : Ext B V V s { s with toks := s.toks + 1 } := ⟨fun _ _ e _ _ => e, fun _ h => .inl h, fun a o e => ⟨o, e⟩⟩
theorem post_val (D : Rep B V s) {v : Value} (h : N (K (.ok (.ret v)) V hs)) : (Made.val v).post (fun v s' => AK B V s K (.ok (.ret v)) s') s := ⟨V, hs, h, D, Ext.refl V s⟩
theorem post_int (D : Rep B V s) {i : Int} (h : ∀ t, N (K (.ok (.ret (.int i t))) V hs)) : (Made.int i).post (fun v s' => AK B V s K (.ok (.ret v)) s') s := ⟨V, hs, h _, D.fresh, ext_fresh⟩
theorem post_str (D : Rep B V s) {x : Str} (hl : x.length ≤ sizeLine) (h : ∀ t, N (K (.ok (.ret (.str x t))) V hs)) : (Made.str x).post (fun v s' => AK B V s K (.ok (.ret v)) s') s := ⟨hl, V, hs, h _, D.fresh, ext_fresh⟩
end
noncomputable def endK (post : Result → View → Prop) (is : List Nat) : Result → View → List Nat → VC := fun r V _ => match pull V is with
  | some q => .fin (post r q.1)
  | none => .ff
theorem Rep.perm {B : Bs} {V W : View} {s : Shared} (D : Rep B V s) (p : V.Perm W) : Rep B W s := by
  have pe : (excl V).Perm (excl W) := (p.filter _).map _
  exact ⟨D.good, fun q h => D.has q (p.mem_iff.mpr h), pe.nodup_iff.mp D.nd, fun a h => D.own a (pe.mem_iff.mpr h)⟩
theorem Rep.left {B : Bs} {V W : View} {s : Shared} (D : Rep B (V ++ W) s) : Rep B V s := by
  have nd := D.nd
  rw [excl_append, List.nodup_append] at nd
  exact ⟨D.good, fun q h => D.has q (List.mem_append_left _ h), nd.1, fun a h => D.own a (by rw [excl_append]; exact List.mem_append_left _ h)⟩
theorem tri_of_run_end {B : Bs} (O : B.Ok) (bc : List (BCut B)) (cs : List (Use B)) (n d : Nat) {c : Code} {pre : View} {hs is : List Nat} {post : Result → View → Prop}
    (h : N (run B bc cs n d (.code c (endK post is)) pre hs)) : Tri B d c pre post := fun A s R D => by
  refine codeAny_mono (run_sound O bc cs n d _ pre hs h A s R D) ?_
  rintro r s' ⟨V', _, q, D', x⟩
  unfold endK at q
  split at q
  · rename_i q' e
    obtain ⟨ps, rest⟩ := q'
    have pm := pull_perm e
    refine ⟨ps, q, (D'.perm pm).left, ⟨x.same, fun a ha => x.new a ?_, x.there⟩⟩
    have pe : (excl V').Perm (excl (ps ++ rest)) := (pm.filter _).map _
    exact pe.mem_iff.mpr (by rw [excl_append]; exact List.mem_append_left _ ha)
  · cases q
theorem Tri.mono {B : Bs} {d d' : Nat} {c : Code} {pre : View} {post post' : Result → View → Prop} (h : Tri B d c pre post) (hd : d ≤ d') (hp : ∀ r V, post r V → post' r V) : Tri B d' c pre post' := fun A s R D =>
  codeAny_mono (h A s (R.le hd) D) fun r s' ⟨V', q, D', x⟩ => ⟨V', hp r V' q, D', x⟩
inductive Res where
  | val (v : Value)
  | int (i : Int)
  | str (x : Str)
noncomputable def resK (r : Res) (V : View) (hs : List Nat) (K : Result → View → List Nat → VC) : VC := match r with
  | .val v => K (.ok (.ret v)) V hs
  | .int i => .al fun t => K (.ok (.ret (.int i t))) V hs
  | .str x => .al fun t => K (.ok (.ret (.str x t))) V hs
noncomputable def pureF (F : List Value → Option (Prop × Res)) (args : List Value) (V : View) (hs : List Nat) (K : Result → View → List Nat → VC) : VC := match F args with
  | some (P, r) => .ob P <| resK r V hs K
  | none => .ff
noncomputable def pureCut (B : Bs) (id : String) (code : Nat) (b : Builtin) (F : List Value → Option (Prop × Res)) (hid : PySem.code id = code) (he : entryFor table id = some b) (hp : plainId id = true)
    (ok : ∀ args P r, F args = some (P, r) → P → ∀ (V : View) (hs : List Nat) (K : Result → View → List Nat → VC), N (resK r V hs K) → ∀ s, Rep B V s →
      ∃ m : Made, Gives (b ⟨args, []⟩) m ∧ m.post (fun v s' => AK B V s K (.ok (.ret v)) s') s) : BCut B where
  id := id
  code := code
  d := 0
  f := pureF F
  hid := by rw [← S.code_S]; exact hid
  ok := by
    intro args V hs K h A s _ D
    unfold pureF at h
    split at h
    · rename_i P r e
      obtain ⟨m, g, q⟩ := ok args P r e h.1 V hs K h.2 s D
      exact gives_ok he hp g q
    · cases h
noncomputable def F2i (P : Int → Int → Prop) (v : Bool) : List Value → Option (Prop × Res)
  | [.int a _, .int b _] => some (P a b, .val (.bool v))
  | _ => none
theorem F2i_some {P : Int → Int → Prop} {v : Bool} {args : List Value} {Q : Prop} {r : Res} (h : F2i P v args = some (Q, r)) : ∃ a t b u, args = [.int a t, .int b u] ∧ Q = P a b ∧ r = .val (.bool v) := by
  unfold F2i at h
  split at h
  · cases h; exact ⟨_, _, _, _, rfl, rfl, rfl⟩
  · cases h
noncomputable def cmpCut (B : Bs) (id : String) (code : Nat) (b : Builtin) (P : Int → Int → Prop) (v : Bool) (hid : PySem.code id = code) (he : entryFor table id = some b) (hp : plainId id = true)
    (g : ∀ x y t u, P x y → Gives (b ⟨[.int x t, .int y u], []⟩) (.val (.bool v))) : BCut B :=
  pureCut B id code b (F2i P v) hid he hp (by
    intro args Q r e hQ V hs K h s D
    obtain ⟨x, t, y, u, rfl, rfl, rfl⟩ := F2i_some e
    exact ⟨_, g x y t u hQ, post_val D h⟩)
noncomputable def F2s (P : Str → Str → Prop) (v : Bool) : List Value → Option (Prop × Res)
  | [.str a _, .str b _] => some (P a b, .val (.bool v))
  | _ => none
noncomputable def scmpCut (B : Bs) (id : String) (code : Nat) (b : Builtin) (P : Str → Str → Prop) (v : Bool) (hid : PySem.code id = code) (he : entryFor table id = some b) (hp : plainId id = true)
    (g : ∀ x y t u, P x y → Gives (b ⟨[.str x t, .str y u], []⟩) (.val (.bool v))) : BCut B :=
  pureCut B id code b (F2s P v) hid he hp (by
    intro args Q r e hQ V hs K h s D
    unfold F2s at e
    split at e
    · cases e; exact ⟨_, g _ _ _ _ hQ, post_val D h⟩
    · cases e)
noncomputable def ltT (B : Bs) : BCut B := cmpCut B "int.__lt__" 455126531311803185852266 Builtin.«int.__lt__» (· < ·) true (by decide +kernel) (entryFor_of_tree (by kernel_rfl)) (by decide +kernel) (fun x y t u h => by have := gives_int_lt x y t u; rwa [decide_eq_true h] at this)
noncomputable def ltF (B : Bs) : BCut B := cmpCut B "int.__lt__" 455126531311803185852266 Builtin.«int.__lt__» (fun a b => ¬ a < b) false (by decide +kernel) (entryFor_of_tree (by kernel_rfl)) (by decide +kernel) (fun x y t u h => by have := gives_int_lt x y t u; rwa [decide_eq_false h] at this)
noncomputable def gtT (B : Bs) : BCut B := cmpCut B "int.__gt__" 455126529904428302298986 Builtin.«int.__gt__» (· > ·) true (by decide +kernel) (entryFor_of_tree (by kernel_rfl)) (by decide +kernel) (fun x y t u h => by have := gives_int_gt x y t u; rwa [decide_eq_true h] at this)
noncomputable def gtF (B : Bs) : BCut B := cmpCut B "int.__gt__" 455126529904428302298986 Builtin.«int.__gt__» (fun a b => ¬ a > b) false (by decide +kernel) (entryFor_of_tree (by kernel_rfl)) (by decide +kernel) (fun x y t u h => by have := gives_int_gt x y t u; rwa [decide_eq_false h] at this)
noncomputable def leT (B : Bs) : BCut B := cmpCut B "int.__le__" 455125450447892616933226 Builtin.«int.__le__» (· ≤ ·) true (by decide +kernel) (entryFor_of_tree (by kernel_rfl)) (by decide +kernel) (fun x y t u h => by have := gives_int_le x y t u; rwa [decide_eq_true h] at this)
noncomputable def leF (B : Bs) : BCut B := cmpCut B "int.__le__" 455125450447892616933226 Builtin.«int.__le__» (fun a b => ¬ a ≤ b) false (by decide +kernel) (entryFor_of_tree (by kernel_rfl)) (by decide +kernel) (fun x y t u h => by have := gives_int_le x y t u; rwa [decide_eq_false h] at this)
noncomputable def geT (B : Bs) : BCut B := cmpCut B "int.__ge__" 455125449040517733379946 Builtin.«int.__ge__» (· ≥ ·) true (by decide +kernel) (entryFor_of_tree (by kernel_rfl)) (by decide +kernel) (fun x y t u h => by have := gives_int_ge x y t u; rwa [decide_eq_true h] at this)
noncomputable def geF (B : Bs) : BCut B := cmpCut B "int.__ge__" 455125449040517733379946 Builtin.«int.__ge__» (fun a b => ¬ a ≥ b) false (by decide +kernel) (entryFor_of_tree (by kernel_rfl)) (by decide +kernel) (fun x y t u h => by have := gives_int_ge x y t u; rwa [decide_eq_false h] at this)
noncomputable def eqT (B : Bs) : BCut B := cmpCut B "int.__eq__" 455126313168696235093866 Builtin.«int.__eq__» (· = ·) true (by decide +kernel) (entryFor_of_tree (by kernel_rfl)) (by decide +kernel) (fun x y t u h => by have := gives_int_eq x y t u; rwa [show (x == y) = true from by simp [h]] at this)
noncomputable def eqF (B : Bs) : BCut B := cmpCut B "int.__eq__" 455126313168696235093866 Builtin.«int.__eq__» (· ≠ ·) false (by decide +kernel) (entryFor_of_tree (by kernel_rfl)) (by decide +kernel) (fun x y t u h => by have := gives_int_eq x y t u; rwa [show (x == y) = false from by simp [h]] at this)
noncomputable def neT (B : Bs) : BCut B := cmpCut B "int.__ne__" 455125451010842570354538 Builtin.«int.__ne__» (· ≠ ·) true (by decide +kernel) (entryFor_of_tree (by kernel_rfl)) (by decide +kernel) (fun x y t u h => by have := gives_int_ne x y t u; rwa [show (x != y) = true from by simp [h]] at this)
noncomputable def neF (B : Bs) : BCut B := cmpCut B "int.__ne__" 455125451010842570354538 Builtin.«int.__ne__» (· = ·) false (by decide +kernel) (entryFor_of_tree (by kernel_rfl)) (by decide +kernel) (fun x y t u h => by have := gives_int_ne x y t u; rwa [show (x != y) = false from by simp [h]] at this)
noncomputable def seqT (B : Bs) : BCut B := scmpCut B "str.__eq__" 455126313168696234964340 Builtin.«str.__eq__» (· = ·) true (by decide +kernel) (entryFor_of_tree (by kernel_rfl)) (by decide +kernel) (fun x y t u h => by have := gives_str_eq x y t u; subst h; simpa using this)
theorem cps_ne {x y : Str} (h : x ≠ y) : (x.cps.toList == y.cps.toList) = false := by
  rw [beq_eq_false_iff_ne]
  intro e
  apply h
  cases x; cases y
  simp only [Str.mk.injEq]
  exact Array.toList_inj.mp e
noncomputable def seqF (B : Bs) : BCut B := scmpCut B "str.__eq__" 455126313168696234964340 Builtin.«str.__eq__» (· ≠ ·) false (by decide +kernel) (entryFor_of_tree (by kernel_rfl)) (by decide +kernel) (fun x y t u h => by have := gives_str_eq x y t u; rwa [cps_ne h] at this)
noncomputable def sneT (B : Bs) : BCut B := scmpCut B "str.__ne__" 455125451010842570225012 Builtin.«str.__ne__» (· ≠ ·) true (by decide +kernel) (entryFor_of_tree (by kernel_rfl)) (by decide +kernel) (fun x y t u h => by have := gives_str_ne x y t u; rwa [show (x.cps.toList != y.cps.toList) = true from by rw [bne, cps_ne h]; rfl] at this)
noncomputable def sneF (B : Bs) : BCut B := scmpCut B "str.__ne__" 455125451010842570225012 Builtin.«str.__ne__» (· = ·) false (by decide +kernel) (entryFor_of_tree (by kernel_rfl)) (by decide +kernel) (fun x y t u h => by have := gives_str_ne x y t u; subst h; simpa using this)
noncomputable def sIn (x y : Str) : Bool := !(occurrences x y 0 x.length 1).isEmpty
noncomputable def sinT (B : Bs) : BCut B := scmpCut B "str.__contains__" 128106709680535770272165659069392319860 Builtin.«str.__contains__» (fun x y => sIn x y = true) true (by decide +kernel) (entryFor_of_tree (by kernel_rfl)) (by decide +kernel) (fun x y t u h => by have := gives_str_contains x y t u; rwa [show (!(occurrences x y 0 x.length 1).isEmpty) = true from h] at this)
noncomputable def sinF (B : Bs) : BCut B := scmpCut B "str.__contains__" 128106709680535770272165659069392319860 Builtin.«str.__contains__» (fun x y => sIn x y = false) false (by decide +kernel) (entryFor_of_tree (by kernel_rfl)) (by decide +kernel) (fun x y t u h => by have := gives_str_contains x y t u; rwa [show (!(occurrences x y 0 x.length 1).isEmpty) = false from h] at this)
theorem str_empty_left {x y : Str} (h : x.length = 0) : x ++ y = y := by
  have : x = Str.empty := by
    cases x with
    | mk c => exact congrArg Str.mk (Array.eq_empty_of_size_eq_zero h)
  rw [this]; exact Str.empty_append y
noncomputable def saddF : List Value → Option (Prop × Res)
  | [.str x t, .str y u] => some ((x ++ y).length ≤ sizeLine, .str (x ++ y))
  | _ => none
noncomputable def sadd (B : Bs) : BCut B := pureCut B "str.__add__" 116512096292018843154609524 Builtin.«str.__add__» saddF (by decide +kernel) (entryFor_of_tree (by kernel_rfl)) (by decide +kernel) (by
  intro args P r e hP V hs K h s D
  unfold saddF at e
  split at e
  · rename_i x t y u
    cases e
    refine ⟨_, gives_str_add x y t u, ?_⟩
    split
    · rename_i hx
      have hx : x.length = 0 := by simpa using hx
      rw [str_empty_left hx] at h
      exact post_val D (h u)
    · split
      · rename_i hy
        have hy : y.length = 0 := by simpa using hy
        have : x ++ y = x := by
          have : y = Str.empty := by
            cases y with
            | mk c => exact congrArg Str.mk (Array.eq_empty_of_size_eq_zero hy)
          rw [this]; exact Str.append_empty x
        rw [this] at h
        exact post_val D (h t)
      · exact post_str D hP h
  · cases e)
noncomputable def part : Value → Option (Option (Int × Tok))
  | .none => some none
  | .int i t => some (some (i, t))
  | _ => none
theorem part_value {v : Value} {p : Option (Int × Tok)} (h : part v = some p) : v = partValue p := by
  cases v <;> simp [part] at h <;> subst h <;> rfl
noncomputable def sliceV (x : Str) (l u : Option (Int × Tok)) : Str := if ((slicePicked x l u none).length == x.length) = true then x else ⟨((slicePicked x l u none).filterMap (x.cps[·]?)).toArray⟩
noncomputable def sliceN : Nat := 439771360628
noncomputable def isSliceC (o : Obj) : Bool := match o.cls with
  | .type n => Nat.beq (S.codeS n) sliceN
  | _ => false
noncomputable def sliceParts (o : Obj) : Option (Option (Int × Tok) × Option (Int × Tok)) := match isSliceC o with
  | false => none
  | true => match o.data with
    | .fields arr => match arr.toList with
      | [lv, uv, sv] => match part lv with
        | none => none
        | some l => match part uv with
          | none => none
          | some u => match sv with
            | .none => some (l, u)
            | _ => none
      | _ => none
    | _ => none
noncomputable def ssliceF (args : List Value) (V : View) (hs : List Nat) (K : Result → View → List Nat → VC) : VC := match args with
  | [.str x t, .ref a] => match hs with
    | [] => .ff
    | i :: hs => match nth V i with
      | none => .ff
      | some p => match sliceParts p.2 with
        | none => .ff
        | some q => .eq a p.1 <| .ob ((sliceV x q.1 q.2).length ≤ sizeLine) <| .al fun t' => K (.ok (.ret (.str (sliceV x q.1 q.2) t'))) V hs
  | _ => .ff
theorem slice_code : S.codeS "slice" = sliceN := by rw [← S.code_S]; decide +kernel
theorem sliceParts_is {h : Heap} {a : Addr} {o : Obj} {q : Option (Int × Tok) × Option (Int × Tok)} (ho : h.get? a = some o) (e : sliceParts o = some q) : h.IsSlice a q.1 q.2 none := by
  unfold sliceParts at e
  split at e
  · cases e
  · rename_i hc
    have hcls : o.cls = .type "slice" := by
      unfold isSliceC at hc
      split at hc
      · rename_i n hn
        have := Nat.eq_of_beq_eq_true hc
        rw [← slice_code] at this
        rw [hn, codeS_inj this]
      · cases hc
    split at e
    · rename_i arr hd
      split at e
      · rename_i lv uv sv ha
        split at e
        · cases e
        · rename_i l hl
          split at e
          · cases e
          · rename_i u hu
            split at e
            · cases e
              refine ⟨o, ho, hcls, ?_⟩
              dsimp only
              rw [hd, ← part_value hl, ← part_value hu]
              congr 1
              apply Array.ext'
              exact ha
            · cases e
      · cases e
    · cases e
noncomputable def sslice (B : Bs) : BCut B where
  id := "str.__getitem__"
  code := 500416356548588640944365259017385332
  d := 0
  f := ssliceF
  hid := by rw [← S.code_S]; decide +kernel
  ok := by
    intro args V hs K h A s _ D
    unfold ssliceF at h
    split at h
    · rename_i x t a
      split at h
      · cases h
      · rename_i i hs
        split at h
        · cases h
        · rename_i p hp
          split at h
          · cases h
          · rename_i q hq
            obtain ⟨rfl, hl, h⟩ := h
            rw [nth_eq] at hp
            have his := sliceParts_is (D.has _ (List.mem_of_getElem? hp)) hq
            refine codeAny_builtin (b := Builtin.«str.__getitem__») (entryFor_of_tree (by kernel_rfl)) ?_
            rw [Around.under_plainId (by decide +kernel)]
            refine meets_str_getitem_slice x t p.1 q.1 q.2 none rfl _ _ _ (fun r s' => AK B V s K r s') _ ⟨his, ?_⟩
            unfold sliceMade
            unfold sliceV at h hl
            have e1 : (((none : Option (Int × Tok)).map (·.1)).getD 1 == (1 : Int)) = true := rfl
            rw [e1, Bool.true_and]
            split
            · rename_i hw
              rw [if_pos hw] at h
              exact post_val D (h t)
            · rename_i hw
              rw [if_neg hw] at h hl
              exact post_str D hl h
    · cases h
noncomputable def stdB (B : Bs) : List (BCut B) := [ltT B, ltF B, gtT B, gtF B, leT B, leF B, geT B, geF B, eqT B, eqF B, neT B, neF B, seqT B, seqF B, sneT B, sneF B, sinT B, sinF B, sadd B, sslice B]
theorem tri_f {B : Bs} (O : B.Ok) (bc : List (BCut B)) (cs : List (Use B)) (n d : Nat) {c : Code} {pre : View} {hs is : List Nat} {post : Result → View → Prop} {T : Rho → Prop} (p : ∀ r, T r) (e : Eqn (run B bc cs n d (.code c (endK post is)) pre hs) T) : Tri B d c pre post := tri_of_run_end O bc cs n d (flat_N p e)
end Mine
end
section
namespace Mine
open PySem PySem.Spec PySem.Calls PyProof.Rows PySem.W PySem.W.X PySem.Builtin PySem.Builtin.Int
noncomputable def Fii (P : Int → Int → Prop) (r : Int → Int → Int) : List Value → Option (Prop × Res)
  | [.int a _, .int b _] => some (P a b, .int (r a b))
  | _ => none
noncomputable def ibin (B : Bs) (id : String) (code : Nat) (b : Builtin) (P : Int → Int → Prop) (r : Int → Int → Int) (hid : PySem.code id = code) (he : entryFor table id = some b) (hp : plainId id = true)
    (g : ∀ x y t u, P x y → Gives (b ⟨[.int x t, .int y u], []⟩) (.int (r x y))) : BCut B :=
  pureCut B id code b (Fii P r) hid he hp (by
    intro args Q q e hQ V hs K h s D
    unfold Fii at e
    split at e
    · cases e; exact ⟨_, g _ _ _ _ hQ, post_int D h⟩
    · cases e)
noncomputable def imod (B : Bs) : BCut B := ibin B "int.__mod__" 116512097088030077292474218 Builtin.«int.__mod__» (fun _ b => b ≠ 0) Int.fmod (by decide +kernel) (entryFor_of_tree (by kernel_rfl)) (by decide +kernel)
  (fun x y t u h => AutoIntG6.int___mod___int_int_1 x t y u (by simpa using h))
noncomputable def ifdiv (B : Bs) : BCut B := ibin B "int.__floordiv__" 128106770130096871752080967664072486762 Builtin.«int.__floordiv__» (fun a b => b ≠ 0 ∧ Builtin.divisionGoesByPylong a b = false) Int.fdiv (by decide +kernel) (entryFor_of_tree (by kernel_rfl)) (by decide +kernel)
  (fun x y t u h => AutoIntG4.int___floordiv___int_int_1 x t y u (by simpa using h.1) (by rw [h.2]; simp))
noncomputable def imul (B : Bs) : BCut B := ibin B "int.__mul__" 116512245094328231196454762 Builtin.«int.__mul__» IntMulOk (· * ·) (by decide +kernel) (entryFor_of_tree (by kernel_rfl)) (by decide +kernel)
  (fun x y t u h => AutoIntG1.int___mul___int_int_0 x t y u h)
theorem fdiv_small {x : Int} {n : Nat} (h : intBits x ≤ n) : x.fdiv (2 ^ n) = if x < 0 then -1 else 0 := by
  have hx := intBits_le_iff.mp h
  have hp : (0 : Int) < 2 ^ n := Int.pow_pos (by decide)
  have hc : ((2 ^ n : Nat) : Int) = 2 ^ n := by norm_cast
  split
  · rename_i hn
    rw [Int.fdiv_eq_ediv_of_nonneg _ (Int.le_of_lt hp)]
    have h1 : -(2 ^ n : Int) ≤ x := by lia
    have : x / 2 ^ n = -1 := by
      have a1 : x / 2 ^ n < 0 := Int.ediv_neg_of_neg_of_pos hn hp
      have a2 : -1 ≤ x / 2 ^ n := by
        have := Int.le_ediv_of_mul_le hp (a := -1) (b := x) (by lia)
        exact this
      lia
    exact this
  · rename_i hn
    rw [Int.fdiv_eq_ediv_of_nonneg _ (Int.le_of_lt hp)]
    exact Int.ediv_eq_zero_of_lt (by lia) (by lia)
noncomputable def irsh (B : Bs) : BCut B := ibin B "int.__rshift__" 1954753560319954401256180983099242 Builtin.«int.__rshift__» (fun _ b => 0 ≤ b) (fun a b => a.fdiv (2 ^ b.toNat)) (by decide +kernel) (entryFor_of_tree (by kernel_rfl)) (by decide +kernel)
  (fun x y t u h => by
    by_cases hb : y ≥ ((intBits x : Nat) : Int)
    · have g := AutoIntG9.int___rshift___int_int_1 x t y u (by lia) hb
      rw [← fdiv_small (x := x) (n := y.toNat) (by lia)] at g
      exact g
    · exact AutoIntG0.int___rshift___int_int_2 x t y u (by lia) hb)
noncomputable def bAnd (x y : Int) : Int := PySem.Builtin.bitAnd x y
noncomputable def bXor (x y : Int) : Int := PySem.Builtin.bitXor x y
noncomputable def iand (B : Bs) : BCut B := ibin B "int.__and__" 116512097012594783534018410 Builtin.«int.__and__» (fun _ _ => True) bAnd (by decide +kernel) (entryFor_of_tree (by kernel_rfl)) (by decide +kernel) (fun x y t u _ => .of_eq rfl)
noncomputable def ixor (B : Bs) : BCut B := ibin B "int.__xor__" 116512355345543333970014058 Builtin.«int.__xor__» (fun _ _ => True) bXor (by decide +kernel) (entryFor_of_tree (by kernel_rfl)) (by decide +kernel) (fun x y t u _ => .of_eq rfl)
noncomputable def Fi (P : Int → Prop) (r : Int → Int) : List Value → Option (Prop × Res)
  | [.int a _] => some (P a, .int (r a))
  | _ => none
noncomputable def iun (B : Bs) (id : String) (code : Nat) (b : Builtin) (P : Int → Prop) (r : Int → Int) (hid : PySem.code id = code) (he : entryFor table id = some b) (hp : plainId id = true)
    (g : ∀ x t, P x → Gives (b ⟨[.int x t], []⟩) (.int (r x))) : BCut B :=
  pureCut B id code b (Fi P r) hid he hp (by
    intro args Q q e hQ V hs K h s D
    unfold Fi at e
    split at e
    · cases e; exact ⟨_, g _ _ hQ, post_int D h⟩
    · cases e)
noncomputable def ibits (B : Bs) : BCut B := iun B "int.bit_length" 2138955024513080746059204096520042 Builtin.«int.bit_length» (fun _ => True) (fun a => ((intBits a : Nat) : Int)) (by decide +kernel) (entryFor_of_tree (by kernel_rfl)) (by decide +kernel) (fun x t _ => AutoIntG2.int_bit_length_int_0 x t)
theorem gives_lshift {a n : Int} {t u : Tok} (hn : 0 ≤ n) (hsz : (intBits a : Int) + n ≤ 2 ^ 27) : Gives (Builtin.«int.__lshift__» ⟨[.int a t, .int n u], []⟩) (.int (a * 2 ^ n.toNat)) := .of_wp fun M A E s Q h => by
  show wpAny _ _ (if n < 0 then _ else _) _ _ s
  rw [if_neg (by lia)]
  show wpAny _ _ (if (a == 0) = true then _ else _) _ _ s
  by_cases h0 : a = 0
  · rw [if_pos (by simpa using h0)]
    have e : a * 2 ^ n.toNat = 0 := by subst h0; exact Int.zero_mul _
    rw [e] at h
    repeat (first | refine wpAny_pure ?_ | refine wpAny_mkInt ?_ | refine wpAny_rule ?_ | refine wpAny_bind ?_)
    exact ⟨_, rfl, h⟩
  rw [if_neg (by simpa using h0)]
  have h3 : ¬ (((intBits a : Int) + 29) / 30 + n / 30 + (if n % 30 == 0 then 0 else 1) > Builtin.maxDigits) := by
    unfold Builtin.maxDigits
    split <;> lia
  show wpAny _ _ (if ((intBits a : Int) + 29) / 30 + n / 30 + (if n % 30 == 0 then 0 else 1) > Builtin.maxDigits then _ else _) _ _ s
  rw [if_neg h3]
  have hbig : intTooBig ((intBits a : Int) + n) = false := decide_eq_false (Int.not_lt.mpr hsz)
  show wpAny _ _ (if intTooBig ((intBits a : Int) + n) = true then _ else _) _ _ s
  rw [if_neg (by rw [hbig]; exact Bool.false_ne_true)]
  repeat (first | refine wpAny_pure ?_ | refine wpAny_mkInt ?_ | refine wpAny_rule ?_ | refine wpAny_bind ?_)
  exact ⟨_, rfl, h⟩
noncomputable def ilsh (B : Bs) : BCut B := ibin B "int.__lshift__" 1954753560319954399567331122835306 Builtin.«int.__lshift__» (fun a b => 0 ≤ b ∧ (intBits a : Int) + b ≤ 2 ^ 27) (fun a b => a * 2 ^ b.toNat) (by decide +kernel) (entryFor_of_tree (by kernel_rfl)) (by decide +kernel)
  (fun x y t u h => gives_lshift h.1 h.2)
theorem neg_one_pow (n : Nat) : (-1 : Int) ^ n = if n % 2 = 0 then 1 else -1 := by
  induction n with
  | zero => rfl
  | succ n ih => rw [Int.pow_succ, ih]; split <;> split <;> first | rfl | lia
noncomputable def ipow (B : Bs) : BCut B := ibin B "int.__pow__" 116512447577011902704086890 Builtin.«int.__pow__» (fun a b => 0 ≤ b ∧ (a = -1 ∨ 2 ≤ a) ∧ (intBits a : Int) * b ≤ 2 ^ 27) (fun a b => a ^ b.toNat) (by decide +kernel) (entryFor_of_tree (by kernel_rfl)) (by decide +kernel)
  (fun x y t u h => by
    obtain ⟨h0, h1, h2⟩ := h
    by_cases hy : y = 0
    · subst hy
      rw [show x ^ Int.toNat 0 = 1 from Int.pow_zero x]
      exact AutoIntG9.int___pow___int_int_0 x t 0 u (by decide) rfl
    rcases h1 with rfl | h1
    · have z := AutoIntG1.int___pow___int_int_2 (-1) t y u (by lia) (by simp; lia) (by decide) rfl
      rw [neg_one_pow]
      have e : (if y % 2 = 0 then (1 : Int) else -1) = if y.toNat % 2 = 0 then 1 else -1 := by
        by_cases hm : y % 2 = 0
        · rw [if_pos hm, if_pos (by lia)]
        · rw [if_neg hm, if_neg (by lia)]
      rw [← e]
      simpa using z
    · refine AutoIntG2.int___pow___int_int_4 x t y u (by lia) (by simp; lia) (by simp; lia) (by simp; lia) ?_
      have hbig : intTooBig ((intBits x : Int) * y) = false := decide_eq_false (Int.not_lt.mpr h2)
      rw [hbig]; simp)
noncomputable def stdC (B : Bs) : List (BCut B) := stdB B ++ [imod B, ifdiv B, imul B, irsh B, iand B, ixor B, ibits B, ilsh B, ipow B]
end Mine
end
section
namespace Mine
open PySem PySem.Spec PySem.Calls PyProof.Rows PySem.W PySem.W.X PySem.Builtin
noncomputable def listN : Nat := 1970563693
noncomputable def listParts (o : Obj) : Option (List Value × Nat) := match o with
  | ⟨c, dc, dt, sl⟩ => match c with
    | .type n => match Nat.beq (S.codeS n) listN with
      | false => none
      | true => match dc with
        | some _ => none
        | none => match sl.toList with
          | _ :: _ => none
          | [] => match dt with
            | .seq xs ep => some (xs.toList, ep)
            | _ => none
    | _ => none
theorem list_code : S.codeS "list" = listN := by rw [← S.code_S]; decide +kernel
theorem listParts_is {o : Obj} {q : List Value × Nat} (e : listParts o = some q) : o = { cls := .type "list", dict := none, data := .seq ⟨q.1⟩ q.2, slots := #[] } := by
  obtain ⟨c, dc, dt, sl⟩ := o
  unfold listParts at e
  dsimp only at e
  split at e
  · rename_i n
    split at e
    · cases e
    · rename_i hn
      have hn := Nat.eq_of_beq_eq_true hn
      rw [← list_code] at hn
      have hn := codeS_inj hn
      subst hn
      split at e
      · cases e
      · split at e
        · cases e
        · rename_i hs
          have hs : sl = #[] := Array.ext' hs
          subst hs
          split at e
          · cases e; rfl
          · cases e
  · cases e
noncomputable def lenF (args : List Value) (V : View) (hs : List Nat) (K : Result → View → List Nat → VC) : VC := match args with
  | [.ref a] => match hs with
    | [] => .ff
    | i :: hs => match nth V i with
      | none => .ff
      | some p => match listParts p.2 with
        | none => .ff
        | some q => .eq a p.1 <| .ob (q.1.length ≤ sizeLine) <| .al fun t' => K (.ok (.ret (.int (q.1.length : Int) t'))) V hs
  | _ => .ff
noncomputable def lenL (B : Bs) : BCut B where
  id := "len"
  code := 7300717
  d := 0
  f := lenF
  hid := by rw [← S.code_S]; decide +kernel
  ok := by
    intro args V hs K h A s _ D
    unfold lenF at h
    split at h
    · rename_i a
      split at h
      · cases h
      · rename_i i hs
        split at h
        · cases h
        · rename_i p hp
          split at h
          · cases h
          · rename_i q hq
            obtain ⟨rfl, hl, h⟩ := h
            rw [nth_eq] at hp
            have ho := D.has _ (List.mem_of_getElem? hp)
            rw [listParts_is hq] at ho
            have his : s.heap.IsList p.1 ⟨q.1⟩ := ⟨_, ho, rfl, _, rfl⟩
            refine codeAny_builtin (b := Builtin.«len») (entryFor_of_tree (by kernel_rfl)) ?_
            rw [Around.under_plainId (by decide +kernel)]
            have hfit : (((⟨q.1⟩ : Array Value).size : Nat) : Int) < 2 ^ 63 := by
              have : (⟨q.1⟩ : Array Value).size = q.1.length := rfl
              rw [this]
              have h2 : sizeLine < 2 ^ 63 := by decide
              exact Int.lt_of_le_of_lt (Int.ofNat_le.mpr hl) (by exact_mod_cast h2)
            refine wpAny_mono (wpAny_len_body_list his hfit (Q := fun v s' => AK B V s K (.ok (.ret v)) s') ?_) ?_ (fun e s' (x : False) => x.elim)
            · exact ⟨V, hs, h _, D.fresh.fresh, ext_fresh.trans ext_fresh⟩
            · rintro fin s' ⟨v, rfl, hv⟩
              exact hv
    · cases h
theorem mapSeq_ep (xs ys : Array Value) (f : Array Value → Array Value) (n : Nat) (h : f xs = ys) : Obj.mapSeq f { cls := .type "list", dict := none, data := .seq xs n, slots := #[] } = { cls := .type "list", dict := none, data := .seq ys (if ys.size == xs.size then n else n + 1), slots := #[] } := by
  subst h; rfl
noncomputable def appF (args : List Value) (V : View) (hs : List Nat) (K : Result → View → List Nat → VC) : VC := match args with
  | [.ref a, v] => match hs with
    | [] => .ff
    | i :: hs => match nth V i with
      | none => .ff
      | some p => match listParts p.2 with
        | none => .ff
        | some q => .eq a p.1 <| .ob (q.1.length ≤ sizeLine) <| K (.ok (.ret .none)) (setAt V i (p.1, { cls := p.2.cls, dict := none, data := .seq ⟨q.1 ++ [v]⟩ (q.2 + 1), slots := #[] })) hs
  | _ => .ff
theorem push_ep (xs : List Value) (v : Value) (n : Nat) : Obj.mapSeq (fun a => a.push v) { cls := .type "list", dict := none, data := .seq ⟨xs⟩ n, slots := #[] } = { cls := .type "list", dict := none, data := .seq ⟨xs ++ [v]⟩ (n + 1), slots := #[] } := by
  rw [mapSeq_ep ⟨xs⟩ ⟨xs ++ [v]⟩ _ n (by simp)]
  have : ((⟨xs ++ [v]⟩ : Array Value).size == (⟨xs⟩ : Array Value).size) = false := by simp
  rw [this]; rfl
theorem notCode_list (dt : Data) : isCodeO { cls := .type "list", dict := none, data := dt, slots := #[] } = false := by
  show Nat.beq (S.codeS "list") codeN = false
  rw [list_code]; rfl
noncomputable def appL (B : Bs) : BCut B where
  id := "list.append"
  code := 122627580202994350266018413
  d := 0
  f := appF
  hid := by rw [← S.code_S]; decide +kernel
  ok := by
    intro args V hs K h A s _ D
    unfold appF at h
    split at h
    · rename_i a v
      split at h
      · cases h
      · rename_i i hs
        split at h
        · cases h
        · rename_i p hp
          split at h
          · cases h
          · rename_i q hq
            obtain ⟨rfl, hl, h⟩ := h
            rw [nth_eq] at hp
            rw [setAt_eq] at h
            have ho := D.has _ (List.mem_of_getElem? hp)
            have hi := listParts_is hq
            rw [hi] at ho h
            refine codeAny_builtin (b := Builtin.«list.append») (entryFor_of_tree (by kernel_rfl)) ?_
            rw [Around.under_plainId (by decide +kernel)]
            refine AutoListH.list_append_list_val_0 p.1 ⟨q.1⟩ q.2 v hl _ _ _ (fun r s' => AK B V s K r s') _ ⟨ho, ?_⟩
            have z := D.update (i := i) (a := p.1) (o := p.2) (f := Obj.mapSeq (fun a => a.push v)) hp (by rw [hi, push_ep]; rfl) (by rw [hi]; exact notCode_list _) (by rw [hi, push_ep]; exact notCode_list _)
            rw [hi, push_ep] at z
            exact ⟨_, hs, h, z.1, z.2⟩
    · cases h
noncomputable def popF (args : List Value) (V : View) (hs : List Nat) (K : Result → View → List Nat → VC) : VC := match args with
  | [.ref a, .int j _] => match hs with
    | [] => .ff
    | i :: hs => match nth V i with
      | none => .ff
      | some p => match listParts p.2 with
        | none => .ff
        | some q => match q.1 with
          | [] => .ff
          | v :: vs => .eq a p.1 <| .ob ((j = 0 ∧ vs.length + 1 ≤ sizeLine)) <| K (.ok (.ret v)) (setAt V i (p.1, { cls := p.2.cls, dict := none, data := .seq ⟨vs⟩ (q.2 + 1), slots := #[] })) hs
  | _ => .ff
theorem pop_ep (v : Value) (xs : List Value) (n : Nat) : Obj.mapSeq (fun a => a.eraseIdxIfInBounds 0) { cls := .type "list", dict := none, data := .seq ⟨v :: xs⟩ n, slots := #[] } = { cls := .type "list", dict := none, data := .seq ⟨xs⟩ (n + 1), slots := #[] } := by
  have e : (⟨v :: xs⟩ : Array Value).eraseIdxIfInBounds 0 = ⟨xs⟩ := by
    apply Array.ext'
    simp [Array.eraseIdxIfInBounds]
  rw [mapSeq_ep ⟨v :: xs⟩ ⟨xs⟩ _ n e]
  have : ((⟨xs⟩ : Array Value).size == (⟨v :: xs⟩ : Array Value).size) = false := by simp
  rw [this]; rfl
noncomputable def popL (B : Bs) : BCut B where
  id := "list.pop"
  code := 8174157772325415533
  d := 0
  f := popF
  hid := by rw [← S.code_S]; decide +kernel
  ok := by
    intro args V hs K h A s _ D
    unfold popF at h
    split at h
    · rename_i a j u
      split at h
      · cases h
      · rename_i i hs
        split at h
        · cases h
        · rename_i p hp
          split at h
          · cases h
          · rename_i q hq
            split at h
            · cases h
            · rename_i v vs hvs
              obtain ⟨rfl, ⟨rfl, hl⟩, h⟩ := h
              rw [nth_eq] at hp
              rw [setAt_eq] at h
              have ho := D.has _ (List.mem_of_getElem? hp)
              have hi := listParts_is hq
              rw [hvs] at hi
              rw [hi] at ho h
              refine codeAny_builtin (b := Builtin.«list.pop») (entryFor_of_tree (by kernel_rfl)) ?_
              rw [Around.under_plainId (by decide +kernel)]
              refine MeetsSeq.list_pop_at p.1 ⟨v :: vs⟩ q.2 0 u 0 v (by decide) ?_ rfl (by simpa using hl) _ _ _ (fun r s' => AK B V s K r s') _ ⟨ho, ?_⟩
              · unfold seqIndex?
                simp
              have z := D.update (i := i) (a := p.1) (o := p.2) (f := Obj.mapSeq (fun a => a.eraseIdxIfInBounds 0)) hp (by rw [hi, pop_ep]; rfl) (by rw [hi]; exact notCode_list _) (by rw [hi, pop_ep]; exact notCode_list _)
              rw [hi, pop_ep] at z
              exact ⟨_, hs, h, z.1, z.2⟩
    · cases h
noncomputable def stdD (B : Bs) : List (BCut B) := stdC B ++ [lenL B, appL B, popL B]
inductive LO where
  | ret (v : Value)
  | int (i : Int)
  | upd (xs : List Value) (ep : Nat)
  | new (xs : List Value)
noncomputable abbrev listX (xs : List Value) (ep : Nat) : Obj := { cls := .type "list", dict := none, data := .seq ⟨xs⟩ ep, slots := #[] }
noncomputable def LO.out (o : LO) (l : Addr) (items : List Value) (ep : Nat) (R : Result → Shared → Prop) (s : Shared) : Prop := match o with
  | .ret v => ∀ k, R (.ok (.ret v)) { s with toks := k }
  | .int i => ∀ t k, R (.ok (.ret (.int i t))) { s with toks := k }
  | .upd xs ep' => ∀ (f : Obj → Obj) k, f (listX items ep) = listX xs ep' → R (.ok (.ret .none)) { s with heap := s.heap.update l f, toks := k }
  | .new xs => ∀ k, R (.ok (.ret (.ref s.heap.objs.size))) { s with heap := s.heap.push (listX xs 0), toks := k }
noncomputable def lcutF (F : List Value → List Value → Nat → Nat → Option (Prop × LO)) (args : List Value) (V : View) (hs : List Nat) (K : Result → View → List Nat → VC) : VC := match args with
  | a :: rest => match a with
    | .ref a => match hs with
      | i :: hs => match hs with
        | h :: hs => match nth V i with
          | none => .ff
          | some p => match listParts p.2 with
            | none => .ff
            | some q => match q with
              | (items, ep) => match F rest items ep h with
                | none => .ff
                | some r => match r with
                  | (P, o) => .eq a p.1 <| .ob P <| match o with
                    | .ret v => K (.ok (.ret v)) V hs
                    | .int i => .al fun t => K (.ok (.ret (.int i t))) V hs
                    | .upd xs ep' => K (.ok (.ret .none)) (setAt V i (p.1, ⟨p.2.cls, none, .seq ⟨xs⟩ ep', #[]⟩)) hs
                    | .new xs => .al fun a' => K (.ok (.ret (.ref a'))) ((a', ⟨p.2.cls, none, .seq ⟨xs⟩ 0, #[]⟩) :: V) hs
        | [] => .ff
      | [] => .ff
    | _ => .ff
  | [] => .ff
theorem Rep.toks' {B : Bs} {V : View} {s : Shared} (D : Rep B V s) (k : Nat) : Rep B V { s with toks := k } :=
  ⟨⟨D.good.g, D.good.d, D.good.os, D.good.kept, D.good.loose, D.good.tabs⟩, D.has, D.nd, D.own⟩
theorem ext_toks' {B : Bs} {V : View} {s : Shared} (k : Nat) : Ext B V V s { s with toks := k } := ⟨fun _ _ e _ _ => e, fun _ h => .inl h, fun a o e => ⟨o, e⟩⟩
noncomputable def lcut (B : Bs) (id : String) (code : Nat) (b : Builtin) (F : List Value → List Value → Nat → Nat → Option (Prop × LO)) (hid : PySem.code id = code) (he : entryFor table id = some b) (hp : plainId id = true)
    (ok : ∀ (l : Addr) (rest items : List Value) (ep h : Nat) (P : Prop) (o : LO), F rest items ep h = some (P, o) → P → ∀ (prog : Program) (w : World) (A : Around) (R : Result → Shared → Prop) (s : Shared), s.heap.get? l = some (listX items ep) → o.out l items ep R s →
      wpAny (model prog w) A.in1 (b ⟨.ref l :: rest, []⟩) (fun fin s' => match fin with | .done f => R (.ok f) s' | .again c' => c'.quiet = true ∧ codeAny (model prog w) A c' R s') (fun e s' => R (.error e) s') s) : BCut B where
  id := id
  code := code
  d := 0
  f := lcutF F
  hid := by rw [← S.code_S]; exact hid
  ok := by
    intro args V hs K h A s _ D
    unfold lcutF at h
    split at h
    · split at h
      · split at h
        · split at h
          · split at h
            · cases h
            · rename_i i _ hh hs _ p hp'
              split at h
              · cases h
              · rename_i q hq
                split at h
                rename_i items ep
                split at h
                · cases h
                · rename_i r hr
                  split at h
                  rename_i P o
                  obtain ⟨rfl, hP, h⟩ := h
                  rw [nth_eq] at hp'
                  have ho := D.has _ (List.mem_of_getElem? hp')
                  have hi := listParts_is hq
                  rw [hi] at ho
                  refine codeAny_builtin he ?_
                  rw [Around.under_plainId hp]
                  refine ok p.1 _ items ep hh P o hr hP _ _ _ (fun r s' => AK B V s K r s') _ ho ?_
                  cases o with
                  | ret v => exact fun k => ⟨V, hs, h, D.toks' k, ext_toks' k⟩
                  | int v => exact fun t k => ⟨V, hs, h t, D.toks' k, ext_toks' k⟩
                  | upd xs ep' =>
                    intro f k hf
                    dsimp only at h
                    rw [setAt_eq] at h
                    have z := D.update (i := i) (a := p.1) (o := p.2) (f := f) hp' (by rw [hi, hf]; rfl) (by rw [hi]; exact notCode_list _) (by rw [hi, hf]; exact notCode_list _)
                    rw [hi, hf] at z
                    rw [hi] at h
                    exact ⟨_, hs, h, z.1.toks' k, z.2.trans (ext_toks' k)⟩
                  | new xs =>
                    intro k
                    have z := D.alloc (o := listX xs 0) rfl
                    have hc : p.2.cls = .type "list" := by rw [hi]
                    dsimp only at h
                    rw [hc] at h
                    exact ⟨_, hs, h s.heap.objs.size, z.1.toks' k, z.2.trans (ext_toks' k)⟩
          · cases h
        · cases h
      · cases h
    · cases h
theorem itemAt_get {l : List Value} {i : Nat} {v : Value} (h : i < l.length) (e : itemAt l i = v) : (⟨l⟩ : Array Value)[i]? = some v := by
  rw [← Array.getElem?_toList]; rw [itemAt_eq h, e]
noncomputable def getF : List Value → List Value → Nat → Nat → Option (Prop × LO)
  | [.int k _], items, _, h => some ((0 ≤ k ∧ k.toNat < items.length ∧ items.length ≤ sizeLine) ∧ itemAt items k.toNat = shape h (itemAt items k.toNat), .ret (shape h (itemAt items k.toNat)))
  | _, _, _, _ => none
theorem getF_some {rest items : List Value} {ep h : Nat} {P : Prop} {o : LO} (e : getF rest items ep h = some (P, o)) : ∃ k t, rest = [.int k t] ∧ P = ((0 ≤ k ∧ k.toNat < items.length ∧ items.length ≤ sizeLine) ∧ itemAt items k.toNat = shape h (itemAt items k.toNat)) ∧ o = .ret (shape h (itemAt items k.toNat)) := by
  unfold getF at e
  split at e
  · cases e; exact ⟨_, _, rfl, rfl, rfl⟩
  · cases e
theorem line63 : sizeLine < 2 ^ 62 := by decide
noncomputable def getL (B : Bs) : BCut B := lcut B "list.__getitem__" 128106587276438692081757506308484131437 Builtin.«list.__getitem__» getF (by decide +kernel) (entryFor_of_tree (by kernel_rfl)) (by decide +kernel) (by
  intro l rest items ep h P o e hP prog w A R s ho hR
  obtain ⟨k, t, rfl, rfl, rfl⟩ := getF_some e
  · obtain ⟨⟨h0, h1, h2⟩, h3⟩ := hP
    have hfit : Builtin.List.listFitsIndex k = true := fitsIndex_of h0 (by have := line63; lia)
    show wpAny _ _ (PySem.Builtin.List.listSubscript? (.int k t) >>= _) _ _ s
    refine wpAny_bind (wpAny_listSubscript_int hfit ?_)
    obtain ⟨j, rfl⟩ := Int.eq_ofNat_of_zero_le h0
    show wpAny _ _ ((seqItemAt l j >>= fun r => pure (r.map (j, ·))) >>= _) _ _ s
    refine wpAny_bind (wpAny_bind (wpAny_seqItemAt ho rfl (wpAny_pure ?_)))
    have h1' : j < items.length := h1
    have h3' : itemAt items j = shape h (itemAt items j) := h3
    rw [itemAt_get h1' h3']
    exact wpAny_pure (hR s.toks))
noncomputable def setV : List Value → Nat → Value → List Value
  | [], _, _ => []
  | _ :: l, 0, v => v :: l
  | x :: l, i + 1, v => x :: setV l i v
theorem setV_eq : ∀ (l : List Value) (i : Nat) (v : Value), setV l i v = l.set i v
  | [], _, _ => by simp [setV]
  | _ :: _, 0, _ => by simp [setV]
  | _ :: l, i + 1, v => by simp [setV, setV_eq l i v]
noncomputable def setF : List Value → List Value → Nat → Nat → Option (Prop × LO)
  | [.int k _, v], items, ep, _ => some (0 ≤ k ∧ k.toNat < items.length ∧ items.length ≤ sizeLine, .upd (setV items k.toNat v) ep)
  | _, _, _, _ => none
theorem setF_some {rest items : List Value} {ep h : Nat} {P : Prop} {o : LO} (e : setF rest items ep h = some (P, o)) : ∃ k t v, rest = [.int k t, v] ∧ P = (0 ≤ k ∧ k.toNat < items.length ∧ items.length ≤ sizeLine) ∧ o = .upd (setV items k.toNat v) ep := by
  unfold setF at e
  split at e
  · cases e; exact ⟨_, _, _, rfl, rfl, rfl⟩
  · cases e
noncomputable def setL (B : Bs) : BCut B := lcut B "list.__setitem__" 128106587276438692082622197436939266669 Builtin.«list.__setitem__» setF (by decide +kernel) (entryFor_of_tree (by kernel_rfl)) (by decide +kernel) (by
  intro l rest items ep h P o e hP prog w A R s ho hR
  obtain ⟨k, t, v, rfl, rfl, rfl⟩ := setF_some e
  · obtain ⟨h0, h1, h2⟩ := hP
    have hfit : Builtin.List.listFitsIndex k = true := fitsIndex_of h0 (by have := line63; lia)
    show wpAny _ _ (PySem.Builtin.List.listSubscript? (.int k t) >>= _) _ _ s
    refine wpAny_bind (wpAny_listSubscript_int hfit ?_)
    obtain ⟨j, rfl⟩ := Int.eq_ofNat_of_zero_le h0
    show wpAny _ _ ((seqItemAt l j >>= fun r => pure (r.map (j, ·))) >>= _) _ _ s
    refine wpAny_bind (wpAny_bind (wpAny_seqItemAt ho rfl (wpAny_pure ?_)))
    have h1' : j < items.length := h1
    rw [itemAt_get (v := itemAt items j) h1' rfl]
    show wpAny _ _ (setSeqItemAt l j v >>= _) _ _ s
    refine wpAny_bind (wpAny_setSeqItemAt ho rfl ?_)
    refine wpAny_pure ?_
    exact hR _ s.toks (by
      show Obj.mapSeq _ _ = _
      rw [mapSeq_ep ⟨items⟩ ⟨setV items j v⟩ _ ep (by
        apply Array.ext'
        simp [setV_eq, Array.setIfInBounds, h1'])]
      have : ((⟨setV items j v⟩ : Array Value).size == (⟨items⟩ : Array Value).size) = true := by simp [setV_eq]
      rw [this]; rfl))
noncomputable def repV (items : List Value) : Nat → List Value
  | 0 => []
  | n + 1 => items ++ repV items n
theorem repV_len (items : List Value) : ∀ n, (repV items n).length = items.length * n
  | 0 => rfl
  | n + 1 => by rw [repV, List.length_append, repV_len items n, Nat.mul_succ]; lia
noncomputable def mulF : List Value → List Value → Nat → Nat → Option (Prop × LO)
  | [.int k _], items, _, _ => some (0 ≤ k ∧ k ≤ sizeLine ∧ items.length * k.toNat ≤ sizeLine ∧ items ≠ [], .new (repV items k.toNat))
  | _, _, _, _ => none
theorem fold_rep (items : List Value) : ∀ (n : Nat) (acc : Array Value), (List.foldl (fun x1 x2 => x1 ++ x2) acc (List.replicate n (⟨items⟩ : Array Value))) = acc ++ (⟨repV items n⟩ : Array Value)
  | 0, acc => by simp [repV]
  | n + 1, acc => by
    rw [List.replicate_succ, List.foldl_cons, fold_rep items n]
    apply Array.ext'
    simp [repV]
theorem mulF_some {rest items : List Value} {ep h : Nat} {P : Prop} {o : LO} (e : mulF rest items ep h = some (P, o)) : ∃ k t, rest = [.int k t] ∧ P = (0 ≤ k ∧ k ≤ sizeLine ∧ items.length * k.toNat ≤ sizeLine ∧ items ≠ []) ∧ o = .new (repV items k.toNat) := by
  unfold mulF at e
  split at e
  · cases e; exact ⟨_, _, rfl, rfl, rfl⟩
  · cases e
theorem line8 : (2 ^ 63 - 1) / 8 ≥ sizeLine := by decide
noncomputable def mulL (B : Bs) : BCut B := lcut B "list.__mul__" 29827134744148027186292746861 Builtin.«list.__mul__» mulF (by decide +kernel) (entryFor_of_tree (by kernel_rfl)) (by decide +kernel) (by
  intro l rest items ep h P o e hP prog w A R s ho hR
  obtain ⟨k, t, rfl, rfl, rfl⟩ := mulF_some e
  · obtain ⟨h0, h1, h2, h3⟩ := hP
    have hl := line63
    refine AutoListH.list___mul___list_int_3 l ⟨items⟩ ep k t (by rw [fitsIndex_of h0 (by lia)]; simp) (by have := line8; show ¬ items.length * _ > _; lia) (by unfold Builtin.List.listTooLong; show ¬ _; simp only [List.size_toArray]; simpa using h2) prog w A R s ⟨ho, ?_⟩
    have e : List.foldl (fun x1 x2 => x1 ++ x2) #[] (List.replicate (if (⟨items⟩ : Array Value).isEmpty = true then 0 else k.toNat) (⟨items⟩ : Array Value)) = ⟨repV items k.toNat⟩ := by
      have : ((⟨items⟩ : Array Value).isEmpty = true) = False := by
        cases items with
        | nil => exact absurd rfl h3
        | cons => simp
      simp only [this, if_false]
      rw [fold_rep]
      simp
    rw [e]
    exact hR s.toks)
noncomputable def revF : List Value → List Value → Nat → Nat → Option (Prop × LO)
  | [], items, ep, _ => some (items.length ≤ sizeLine, .upd items.reverse ep)
  | _, _, _, _ => none
noncomputable def revL (B : Bs) : BCut B := lcut B "list.reverse" 31708251359169610307576556141 Builtin.«list.reverse» revF (by decide +kernel) (entryFor_of_tree (by kernel_rfl)) (by decide +kernel) (by
  intro l rest items ep h P o e hP prog w A R s ho hR
  unfold revF at e
  split at e
  · cases e
    refine AutoListH.list_reverse_list_0 l ⟨items⟩ ep hP prog w A R s ⟨ho, ?_⟩
    exact hR _ s.toks (by
      rw [mapSeq_ep ⟨items⟩ ⟨items.reverse⟩ _ ep (by simp)]
      have : ((⟨items.reverse⟩ : Array Value).size == (⟨items⟩ : Array Value).size) = true := by simp
      rw [this]; rfl)
  · cases e)
theorem meets_divmod (a : Int) (t : Tok) (b : Int) (u : Tok) (hc0 : ¬(b == 0) = true) (hc1 : ¬(Builtin.divisionGoesByPylong a b) = true) :
    Meets (Builtin.«int.__divmod__» ⟨[.int a t, .int b u], []⟩) (fun _ R s => R (.ok (.ret (.ref s.heap.objs.size))) { s with heap := s.heap.push { cls := .type "tuple", data := .seq #[.int (a.fdiv b) s.toks, .int (a.fmod b) (s.toks + 1)] }, toks := s.toks + 2 }) :=
  .of_wp fun prog w A R s h => by obtain ⟨hp, g, d, tk, os⟩ := s; wp_walk; exact ⟨_, rfl, h⟩
noncomputable def idivF (args : List Value) (V : View) (hs : List Nat) (K : Result → View → List Nat → VC) : VC := match args with
  | [.int a _, .int b _] => .ob ((b ≠ 0 ∧ Builtin.divisionGoesByPylong a b = false)) <| .al fun t1 => .al fun t2 => .al fun a' => K (.ok (.ret (.ref a'))) ((a', { cls := .type "tuple", data := .seq ⟨[.int (a.fdiv b) t1, .int (a.fmod b) t2]⟩ }) :: V) hs
  | _ => .ff
noncomputable def idivC (B : Bs) : BCut B where
  id := "int.__divmod__"
  code := 1954748619459276632098664420306794
  d := 0
  f := idivF
  hid := by rw [← S.code_S]; decide +kernel
  ok := by
    intro args V hs K h A s _ D
    unfold idivF at h
    split at h
    · rename_i a t b u
      obtain ⟨⟨h0, h1⟩, h⟩ := h
      refine codeAny_builtin (b := Builtin.«int.__divmod__») (entryFor_of_tree (by kernel_rfl)) ?_
      rw [Around.under_plainId (by decide +kernel)]
      refine meets_divmod a t b u (by simpa using h0) (by rw [h1]; simp) _ _ _ (fun r s' => AK B V s K r s') s ?_
      have z := D.alloc (o := { cls := .type "tuple", data := .seq ⟨[.int (a.fdiv b) s.toks, .int (a.fmod b) (s.toks + 1)]⟩ }) rfl
      exact ⟨_, hs, h s.toks (s.toks + 1) s.heap.objs.size, z.1.toks' _, z.2.trans (ext_toks' _)⟩
    · cases h
theorem gives_int_bool (a : Int) (t : Tok) : Gives (Builtin.«int.__bool__» ⟨[.int a t], []⟩) (.val (.bool (a != 0))) := .of_wp fun M A E s Q h => by obtain ⟨hp, g, d, tk, os⟩ := s; wp_walk; exact ⟨_, rfl, h⟩
noncomputable def F1b (P : Int → Prop) (v : Bool) : List Value → Option (Prop × Res)
  | [.int a _] => some (P a, .val (.bool v))
  | _ => none
noncomputable def ibool (B : Bs) (P : Int → Prop) (v : Bool) (hP : ∀ a, P a → (a != 0) = v) : BCut B :=
  pureCut B "int.__bool__" 29827134633612522566320484202 Builtin.«int.__bool__» (F1b P v) (by decide +kernel) (entryFor_of_tree (by kernel_rfl)) (by decide +kernel) (by
    intro args Q r e hQ V hs K h s D
    unfold F1b at e
    split at e
    · cases e
      rename_i a t
      have g := gives_int_bool a t
      rw [hP a hQ] at g
      exact ⟨_, g, post_val D h⟩
    · cases e)
noncomputable def iboolT (B : Bs) : BCut B := ibool B (fun a => a ≠ 0) true (fun a h => by simpa using h)
noncomputable def iboolF (B : Bs) : BCut B := ibool B (fun a => a = 0) false (fun a h => by simpa using h)
noncomputable def stdL (B : Bs) : List (BCut B) := stdD B ++ [getL B, setL B, mulL B, revL B, idivC B, iboolT B, iboolF B]
end Mine
end
section
namespace Mine
open PySem PySem.Spec PySem.Calls PyProof.Rows PySem.W PySem.W.X
noncomputable def li {α : Type} (d : α) : List α → Nat → α
  | [], _ => d
  | a :: _, 0 => a
  | _ :: l, n + 1 => li d l n
noncomputable def lt (a t : List Nat) (i : List Int) (s : List Str) (v : List Value) (l : List (List Value)) (f : List FuncData) : Lt :=
  ⟨li 0 a, li 0 t, li 0 i, li ⟨#[]⟩ s, li .none v, li [] l, li default f⟩
structure Sp (B : Bs) where
  d : Nat
  c : Lt → Code
  P : Lt → Prop
  pre : Lt → View
  R : Lt → Lt → Prop
  res : Lt → Lt → Result
  out : Lt → Lt → View
noncomputable def Sp.post {B : Bs} (S : Sp B) (q : Lt) (r : Result) (V : View) : Prop := ∃ e, S.R q e ∧ r = S.res q e ∧ V = S.out q e
noncomputable def Sp.Ok {B : Bs} (S : Sp B) : Prop := ∀ q, S.P q → Tri B S.d (S.c q) (S.pre q) (S.post q)
noncomputable def Sp.con {B : Bs} (S : Sp B) (h : S.Ok) : Con B := { d := S.d, c := S.c, P := S.P, pre := S.pre, R := S.R, res := S.res, out := S.out, ok := h }
theorem fin {B : Bs} (S : Sp B) (q e : Lt) (h : S.R q e) : S.post q (S.res q e) (S.out q e) := ⟨e, h, rfl, rfl⟩
noncomputable def nthO : View → Nat → Obj
  | [], _ => ⟨.none, none, .plain, #[]⟩
  | p :: _, 0 => p.2
  | _ :: l, i + 1 => nthO l i
noncomputable def nthV : List Value → Nat → Value
  | [], _ => .none
  | v :: _, 0 => v
  | _ :: l, i + 1 => nthV l i
noncomputable def nthE : List DictEntry → Nat → DictEntry
  | [], _ => ⟨0, .none, .none⟩
  | e :: _, 0 => e
  | _ :: l, i + 1 => nthE l i
noncomputable def valS : Value → Str
  | .str s _ => s
  | _ => ⟨#[]⟩
noncomputable def valT : Value → Tok
  | .str _ t => t
  | .int _ t => t
  | _ => 0
noncomputable def valI : Value → Int
  | .int i _ => i
  | _ => 0
noncomputable def valA : Value → Nat
  | .ref a => a
  | _ => 0
noncomputable def dictVal (o : Obj) (i : Nat) : Value := match o.data with
  | .dict es _ => (nthE es.toList i).val
  | _ => .none
noncomputable def dictKT (o : Obj) (i : Nat) : Nat := match o.data with
  | .dict es _ => valT (nthE es.toList i).key
  | _ => 0
noncomputable def seqs (o : Obj) : List Value := match o.data with
  | .seq xs _ => xs.toList
  | .fields xs => xs.toList
  | _ => []
noncomputable def seqEp (o : Obj) : Nat := match o.data with
  | .seq _ n => n
  | _ => 0
noncomputable def cellV (o : Obj) : Value := match o.data with
  | .cell v => v.getD .none
  | _ => .none
noncomputable def dropV : Nat → List Value → List Value
  | 0, l => l
  | _ + 1, [] => []
  | n + 1, _ :: l => dropV n l
noncomputable def objD (o : Obj) : Nat := o.dict.getD 0
noncomputable def fdO (o : Obj) : FuncData := match o.data with
  | .func fd => fd
  | _ => default
noncomputable def fdClos (fd : FuncData) (i : Nat) : Nat := match fd.closure[i]? with
  | some p => p.2
  | none => 0
noncomputable def fdCode (fd : FuncData) : Nat := valA fd.code
noncomputable def fdTup (fd : FuncData) : Nat := valA fd.closureTuple
noncomputable def cPos : Code → List Value
  | .call _ as => as.pos
  | .builtin _ as => as.pos
  | _ => []
noncomputable def cFun : Code → Value
  | .call f _ => f
  | _ => .none
noncomputable def cIt : Code → Value
  | .forLoop _ it _ _ _ => it
  | .compStart _ _ it _ _ => it
  | .compLoop _ _ it _ _ => it
  | _ => .none
noncomputable def cAcc : Code → Value
  | .compStart _ _ _ acc _ => acc
  | .compLoop _ _ _ acc _ => acc
  | _ => .none
noncomputable def cEnv : Code → Env
  | .forLoop _ _ _ _ e => e
  | .whileLoop _ _ _ e => e
  | .compStart _ _ _ _ e => e
  | .compLoop _ _ _ _ e => e
  | .func _ e => e
  | .expr _ e => e
  | .body _ e => e
  | .block _ e => e
  | _ => default
noncomputable def forOf : Stmt → Expr × List Stmt × List Stmt
  | .For t _ b o _ => (t, b, o)
  | _ => (.Constant .none 0 default, [], [])
noncomputable def sub1 : Stmt → Nat → List Stmt
  | .For _ _ b _ _, 0 => b
  | .For _ _ _ o _, _ => o
  | .While _ b _ _, 0 => b
  | .While _ _ o _, _ => o
  | .If _ b _ _, 0 => b
  | .If _ _ o _, _ => o
  | .FunctionDef _ _ b _ _ _ _ _ _ _, _ => b
  | _, _ => []
noncomputable def nthS : List Stmt → Nat → Stmt
  | [], _ => .Pass default
  | s :: _, 0 => s
  | _ :: l, i + 1 => nthS l i
noncomputable def pathS : List Stmt → List Nat → Stmt
  | l, [] => .Pass default
  | l, [i] => nthS l i
  | l, i :: b :: r => pathS (sub1 (nthS l i) b) r
noncomputable def dropS : Nat → List Stmt → List Stmt
  | 0, l => l
  | _ + 1, [] => []
  | n + 1, _ :: l => dropS n l
noncomputable def takeS : Nat → List Stmt → List Stmt
  | 0, _ => []
  | _ + 1, [] => []
  | n + 1, s :: l => s :: takeS n l
noncomputable def exOf : Stmt → Expr
  | .Assign _ v _ => v
  | .AugAssign _ _ v _ => v
  | .Return v _ => v.getD (.Constant .none 0 default)
  | .Expr v _ => v
  | .If t _ _ _ => t
  | .While t _ _ _ => t
  | .For _ it _ _ _ => it
  | _ => .Constant .none 0 default
noncomputable def nthX : List Expr → Nat → Expr
  | [], _ => .Constant .none 0 default
  | s :: _, 0 => s
  | _ :: l, i + 1 => nthX l i
noncomputable def kid : Expr → Nat → Expr
  | .BinOp l _ _ _, 0 => l
  | .BinOp _ _ r _, _ => r
  | .UnaryOp _ x _, _ => x
  | .IfExp t _ _ _, 0 => t
  | .IfExp _ b _ _, 1 => b
  | .IfExp _ _ o _, _ => o
  | .ListComp e _ _ _, 0 => e
  | .ListComp _ gs _ _, i + 1 => match gs[i]? with
    | some g => g.iter
    | none => .Constant .none 0 default
  | .GeneratorExp e _ _ _, 0 => e
  | .Compare l _ _ _, 0 => l
  | .Compare _ _ rs _, i + 1 => nthX rs i
  | .Call f _ _ _, 0 => f
  | .Call _ as _ _, i + 1 => nthX as i
  | .Attribute v _ _, _ => v
  | .Subscript v _ _, 0 => v
  | .Subscript _ s _, _ => s
  | .List es _, i => nthX es i
  | .Tuple es _ _, i => nthX es i
  | .BoolOp _ es _, i => nthX es i
  | _, _ => .Constant .none 0 default
noncomputable def kids : Expr → List Nat → Expr
  | e, [] => e
  | e, i :: r => kids (kid e i) r
noncomputable def stmtsOf (fd : FuncData) : List Stmt := match fd.body with
  | .stmts b => b
  | .expr _ => []
noncomputable def forC (st : Stmt) (it : Addr) (env : Env) : Code := .forLoop (forOf st).1 (.ref it) (forOf st).2.1 (forOf st).2.2 env
noncomputable abbrev tList : Value := .type PySem.W.SZ.s9222952809800978799x4
noncomputable abbrev tDict : Value := .type PySem.W.SZ.s14018661285674007319x4
noncomputable abbrev tCell : Value := .type PySem.W.SZ.s15660640913423913556x4
noncomputable abbrev tFrame : Value := .type PySem.W.SZ.s658472552662922059x5
noncomputable abbrev tFunc : Value := .type PySem.W.SZ.s7174869446012820540x8
noncomputable abbrev tCI : Value := .type PySem.W.SZ.s12148877158373987119x17
noncomputable abbrev tMeth : Value := .type PySem.W.SZ.s6181755712446570794x6
noncomputable def kv (B : Bs) (n : Str) (t : Tok) (v : Value) : DictEntry := ⟨PySem.W.ZFast.zw12210062019545310541 (B.params.strHash n.cps), .str n t, v⟩
noncomputable def dictO (es : List DictEntry) (n : Nat) : Obj := ⟨tDict, none, .dict ⟨es⟩ n, #[]⟩
noncomputable def frameO (es : List DictEntry) (n : Nat) : Obj := ⟨tFrame, none, .dict ⟨es⟩ n, #[]⟩
noncomputable def listO (xs : List Value) (n : Nat) : Obj := ⟨tList, none, .seq ⟨xs⟩ n, #[]⟩
noncomputable def cellO (v : Value) : Obj := ⟨tCell, none, .cell (some v), #[]⟩
noncomputable def instO (c d : Addr) : Obj := ⟨.ref c, some d, .plain, #[]⟩
noncomputable def methO (f l : Value) : Obj := ⟨tMeth, none, .fields ⟨[f, l]⟩, #[]⟩
noncomputable def fieldsO (c : Value) (xs : List Value) : Obj := ⟨c, none, .fields ⟨xs⟩, #[]⟩
noncomputable def funcO (fd : FuncData) (dict : Option Addr) : Obj := ⟨tFunc, dict, .func fd, #[]⟩
noncomputable def codeZ (q : Str) (t : Tok) (v : Value) (rest : List Value) : Obj := { cls := .type PySem.W.SZ.s5856160107412720595x4, data := .fields ⟨v :: .str q t :: rest⟩ }
end Mine
end
namespace Mine
open PySem PySem.Spec PySem.Calls PyProof.Rows PySem.W PySem.W.X
noncomputable def U {B : Bs} (S : Sp B) (h : S.Ok) (f : Code → View → Lt) : Use B := { k := S.con h, on := f }
noncomputable abbrev At {B : Bs} (S : Sp B) (d : Nat) (q : Lt) : Prop := Tri B d (S.c q) (S.pre q) (S.post q)
noncomputable def sl {α : Type} (f : Nat → α) (i : Nat) : Nat → List α
  | 0 => []
  | n + 1 => f i :: sl f (i + 1) n
noncomputable def rq (f : Nat → Nat) : List Nat → List Nat
  | [] => []
  | i :: l => f i :: rq f l
noncomputable def hx : Nat → Nat → List Nat
  | 0, _ => []
  | k + 1, n => n % 64 :: hx k (n / 64)
noncomputable abbrev Nn := Nat
noncomputable def p_ab {α : Type} : Bool → List α → List α
  | false, a :: b :: k :: n :: t :: r => a :: b :: n :: t :: k :: r
  | _, l => l
noncomputable def i_ab : Bool → Nat → Nat
  | false, 2 => 4
  | false, 3 => 2
  | false, 4 => 3
  | _, i => i
noncomputable def p_mw {α : Type} : Bool → List α → List α
  | false, a :: b :: c :: d :: t :: m :: w :: r => a :: b :: c :: d :: m :: w :: t :: r
  | _, l => l
noncomputable def i_mw : Bool → Nat → Nat
  | false, 4 => 6
  | false, 5 => 4
  | false, 6 => 5
  | _, i => i
noncomputable def toStart : Code → Code
  | .compLoop e d i a v => .compStart e d i a v
  | c => c
noncomputable def Sp.start {B : Bs} (S : Sp B) : Sp B := { S with c := fun q => toStart (S.c q) }
noncomputable def dA (V : View) (i j : Nat) := valA (dictVal (nthO V i) j)
noncomputable def dT (V : View) (i j : Nat) := valT (dictVal (nthO V i) j)
noncomputable def dI (V : View) (i j : Nat) := valI (dictVal (nthO V i) j)
noncomputable def dV (V : View) (i j : Nat) := dictVal (nthO V i) j
noncomputable def kT (V : View) (i j : Nat) := dictKT (nthO V i) j
noncomputable def qT (V : View) (i j : Nat) := valT (nthV (seqs (nthO V i)) j)
noncomputable def qI (V : View) (i j : Nat) := valI (nthV (seqs (nthO V i)) j)
noncomputable def cA (V : View) (i : Nat) := valA (cellV (nthO V i))
noncomputable def cT (V : View) (i : Nat) := valT (cellV (nthO V i))
noncomputable def eP (V : View) (i : Nat) := seqEp (nthO V i)
noncomputable def oD (V : View) (i : Nat) := objD (nthO V i)
noncomputable def sQ (V : View) (i : Nat) := seqs (nthO V i)
noncomputable def fC (V : View) (i j : Nat) := fdClos (fdO (nthO V i)) j
noncomputable def xA (V : View) (i : Nat) : List Nat := [oD V i, dA V (i + 1) 1, dA V (i + 1) 3, oD V (i + 3), dA V (i + 4) 0, fC V (i + 5) 0, fC V (i + 5) 1, fdTup (fdO (nthO V (i + 5))), fdCode (fdO (nthO V (i + 5))), cA V (i + 8)]
noncomputable def xT (V : View) (i : Nat) : List Nat := [kT V i 0, dT V i 0, kT V i 1, kT V i 2, dT V i 2, kT V i 3, eP V (i + 1), kT V (i + 3) 0, qT V (i + 5) 1, cT V (i + 6), qT V (i + 8) 0]
noncomputable abbrev mS (l : List Nat) : Str := ⟨⟨l⟩⟩
end Mine
section
namespace Mine
open PySem PySem.Builtin PySem.Builtin.Str
noncomputable def rem (text : Str) (p : Int) : List Nat := text.cps.toList.drop p.toNat
noncomputable def chS (text : Str) (p : Int) : Str := sliceV text (some (p + 1 - 1, 0)) (some (p + 1, 0))
theorem rem_cons {text : Str} {p : Int} {c : Nat} {r : List Nat} (h0 : 0 ≤ p) (h : rem text p = c :: r) : rem text (p + 1) = r ∧ p.toNat < text.cps.size ∧ text.cps[p.toNat]? = some c := by
  unfold rem at h ⊢
  have hl : p.toNat < text.cps.toList.length := by
    apply Nat.lt_of_not_le
    intro hh
    rw [List.drop_eq_nil_of_le hh] at h
    cases h
  rw [List.drop_eq_getElem_cons hl] at h
  have e : (p + 1).toNat = p.toNat + 1 := by lia
  injection h with h1 h2
  refine ⟨by rw [e]; exact h2, by simpa using hl, ?_⟩
  rw [← h1]
  simp
theorem slice_idx (p : Int) (n : Nat) (h0 : 0 ≤ p) (h : p.toNat < n) : strSliceIndices (some (p + 1 - 1)) (some (p + 1)) 1 n = [p.toNat] := by
  unfold strSliceIndices sliceRange
  have e1 : ¬ (p + 1 - 1 < 0) := by lia
  have e2 : ¬ (p + 1 < 0) := by lia
  have e3 : max 0 (min (p + 1 - 1) (n : Int)) = p := by lia
  have e4 : max 0 (min (p + 1) (n : Int)) = p + 1 := by lia
  simp only [e1, e2, if_false, if_true, show ((1 : Int) > 0) = True from by simp, e3, e4]
  have e5 : p < p + 1 := by lia
  simp only [e5, if_true]
  have e6 : (p + 1 - p + 1 - 1) / 1 = (1 : Int) := by lia
  rw [e6]
  simp
theorem slice_idx_nil (p : Int) (n : Nat) (h0 : 0 ≤ p) (h : n ≤ p.toNat) : strSliceIndices (some (p + 1 - 1)) (some (p + 1)) 1 n = [] := by
  unfold strSliceIndices sliceRange
  have e1 : ¬ (p + 1 - 1 < 0) := by lia
  have e2 : ¬ (p + 1 < 0) := by lia
  have e3 : max 0 (min (p + 1 - 1) (n : Int)) = (n : Int) := by lia
  have e4 : max 0 (min (p + 1) (n : Int)) = (n : Int) := by lia
  simp only [e1, e2, if_false, if_true, show ((1 : Int) > 0) = True from by simp, e3, e4]
  simp
theorem chS_cons {text : Str} {p : Int} {c : Nat} {r : List Nat} (h0 : 0 ≤ p) (h : rem text p = c :: r) : chS text p = ⟨#[c]⟩ := by
  obtain ⟨_, hl, hc⟩ := rem_cons h0 h
  unfold chS sliceV
  have e : slicePicked text (some (p + 1 - 1, 0)) (some (p + 1, 0)) none = [p.toNat] := slice_idx p text.length h0 hl
  rw [e]
  split
  · rename_i hw
    have hw : 1 = text.length := by simpa using hw
    have hp : p.toNat = 0 := by
      have : text.length = text.cps.size := rfl
      lia
    rw [hp] at hc
    cases text with
    | mk a =>
      congr 1
      apply Array.ext'
      have : a.toList.length = 1 := by
        have : (Str.mk a).length = a.size := rfl
        simpa [this] using hw.symm
      match hh : a.toList, this with
      | [z], _ =>
        have hz : a[0]? = some z := by rw [← Array.getElem?_toList, hh]; rfl
        have : some z = some c := hz.symm.trans hc
        cases this
        rfl
  · simp [hc]
theorem chS_nil {text : Str} {p : Int} (h0 : 0 ≤ p) (h : rem text p = []) : chS text p = ⟨#[]⟩ := by
  have hl : text.cps.size ≤ p.toNat := by
    unfold rem at h
    have := List.drop_eq_nil_iff.mp h
    simpa using this
  unfold chS sliceV
  have e : slicePicked text (some (p + 1 - 1, 0)) (some (p + 1, 0)) none = [] := slice_idx_nil p text.length h0 hl
  rw [e]
  split
  · rename_i hw
    have hw : 0 = text.length := by simpa using hw
    cases text with
    | mk a =>
      congr 1
      exact Array.eq_empty_of_size_eq_zero hw.symm
  · rfl
theorem rem_nil {text : Str} {p : Int} (h0 : 0 ≤ p) (h : rem text p = []) : rem text (p + 1) = [] := by
  unfold rem at h ⊢
  have := List.drop_eq_nil_iff.mp h
  exact List.drop_eq_nil_of_le (by lia)
noncomputable def isWs (c : Nat) : Bool := c == 10 || c == 9 || c == 13 || c == 32
inductive Lx3 : List Nat → List Nat → List Nat → Prop where
  | ws {c : Nat} {r : List Nat} : isWs (c + 1) = true → Lx3 ((c + 1) :: r) [] r
  | esc {c : Nat} {r tk rest : List Nat} : Lx3 r tk rest → Lx3 (92 :: (c + 1) :: r) ((c + 1) :: tk) rest
  | chr {c : Nat} {r tk rest : List Nat} : isWs (c + 1) = false → c + 1 ≠ 92 → Lx3 r tk rest → Lx3 ((c + 1) :: r) ((c + 1) :: tk) rest
inductive Lx2 : List Nat → List Nat → List Nat → Prop where
  | q {r : List Nat} : Lx2 (34 :: r) [] r
  | esc {c : Nat} {r tk rest : List Nat} : Lx2 r tk rest → Lx2 (92 :: (c + 1) :: r) ((c + 1) :: tk) rest
  | chr {c : Nat} {r tk rest : List Nat} : c + 1 ≠ 34 → c + 1 ≠ 92 → Lx2 r tk rest → Lx2 ((c + 1) :: r) ((c + 1) :: tk) rest
inductive Lx1 : List Nat → List Nat → List Nat → Prop where
  | fin : Lx1 [] [] []
  | ws {c : Nat} {r tk rest : List Nat} : isWs (c + 1) = true → Lx1 r tk rest → Lx1 ((c + 1) :: r) tk rest
  | quo {r tk rest : List Nat} : Lx2 r tk rest → Lx1 (34 :: r) tk rest
  | esc {c : Nat} {r tk rest : List Nat} : Lx3 r tk rest → Lx1 (92 :: (c + 1) :: r) ((c + 1) :: tk) rest
  | chr {c : Nat} {r tk rest : List Nat} : isWs (c + 1) = false → c + 1 ≠ 34 → c + 1 ≠ 92 → Lx3 r tk rest → Lx1 ((c + 1) :: r) ((c + 1) :: tk) rest
noncomputable def nls (l : List Nat) : Int := ((l.filter (· == 10)).length : Int)
end Mine
end
section
open PySem PySem.W PySem.W.X PyProof.Rows
local macro_rules | `(tactic| k_head) => `(tactic| z_head)
namespace Mine
open_top hd for PySem.Challenge.rw_pw0018_02
open PySem.Spec PySem.Calls
theorem hd_W (H : ∀ (w : World) (s₁ : Shared) (vs : List Value) (ns : List Int), KT.Holds s₁.heap 1 0 (Mine.hd.ktop_311 w.params) → s₁.heap.NoLimit → s₁.gens = #[] → s₁.heap.objs.size = 158 → s₁.heap.get? 157 = some { cls := .type "list", data := .seq vs.toArray } → IntsAre vs ns → ns.length ≤ 63 →
    codeAny (model PySem.Challenge.pw_pw0018_02 w) callerA (.call (.ref 156) ⟨[.ref 157], []⟩) (fun r s' => r = .ok (.ret (.bool true)) ∧ OldK s₁.heap s'.heap ∧ s'.os = s₁.os ∧ s'.gens = s₁.gens) s₁) : PySem.Challenge.rw_pw0018_02.Holds := by
  refine Mine.hd ?_
  k_fill
  intro w s₀ s₁ mg mb G y fa o pm cd doc dV kV ho hd hcd hD hmg hg args vals as L hpre hlay hrd hwl hlo
  z_open y L KX ZH ZN ZT
  refine Ground.open G ?_
  intro T B D TE TW
  wrow_args hpre hlay hrd hwl hlo
  obtain ⟨hat, hsz⟩ := script_at L
  rw [ZN] at hat hsz
  subst hat
  x_fa T KX hmg
  refine wpAny_call (codeAny_mono (H w s₁ _ _ ZH T.nolimit hg hsz (script_obj L (by assumption)) (by assumption) (by lia)) ?_)
  rintro r s' ⟨rfl, h1, h2, h3⟩
  obtain ⟨hp, g, d, t, os⟩ := s'
  have h2 : os = s₁.os := h2
  have h4 : g = s₁.gens := h3
  have hb : AllBare g := by rw [h4, hg]; exact AllBare.empty
  subst h2
  exact ⟨.inl ⟨_, _, [], rfl, (fun _ => rfl), ReadsW.bool true, (by first | rfl | wrow_post), fun _ => ⟨List.nodup_nil, fun _ hm => (nomatch hm)⟩⟩, h1, rfl, hb⟩
end Mine
end
section
namespace Mine
open PySem PySem.Spec PySem.Calls PyProof.Rows PySem.W PySem.W.X
structure Wd where
  w : World
  h₀ : Heap
  b1 : Bool
  b2 : Bool
  g : Array GenState
  d : Drawn
  os : OsState
noncomputable def BBg (tabs : List Tab) (loose : List Addr) (W : Wd) : Bs :=
  { prog := PySem.Challenge.pw_pw0018_02, w := W.w, h₀ := W.h₀, b1 := W.b1, b2 := W.b2, kt := Mine.hd.ktop_311 W.w.params, tabs, loose, g := W.g, d := W.d, os := W.os }
noncomputable def ktw (w : World) : KT := Mine.hd.ktop_311 w.params
noncomputable def fdAt (w : World) (a : Addr) : FuncData := match (ktw w).get a with
  | some o => match o.data with
    | .func fd => fd
    | _ => default
  | none => default
noncomputable def envF (w : World) (f L : Addr) (q : Str) (cells : List (Str × Addr)) : Env := { scope := (fdAt w f).scope, locals := L, globals := 3, cells, qual := q, func := some f, code := (fdAt w f).code, frame := some L, builtins := 0 }
theorem y_0 {motive : Wd → Prop} (t : ∀ w h b g d os, motive ⟨w, h, true, b, g, d, os⟩) (f : ∀ w h b g d os, motive ⟨w, h, false, b, g, d, os⟩) (W : Wd) : motive W := by
  obtain ⟨w, h, a, b, g, d, os⟩ := W
  cases a
  · exact f w h b g d os
  · exact t w h b g d os
theorem y_true {motive : (W : Wd) → W.b2 = true → Prop} (t : ∀ w h g d os, motive ⟨w, h, true, true, g, d, os⟩ rfl) (f : ∀ w h g d os, motive ⟨w, h, false, true, g, d, os⟩ rfl) (W : Wd) (hb : W.b2 = true) : motive W hb := by
  obtain ⟨w, h, a, b, g, d, os⟩ := W
  have hb' : b = true := hb
  subst hb'
  cases a
  · exact f w h g d os
  · exact t w h g d os
theorem y_false {motive : (W : Wd) → W.b2 = false → Prop} (t : ∀ w h g d os, motive ⟨w, h, true, false, g, d, os⟩ rfl) (f : ∀ w h g d os, motive ⟨w, h, false, false, g, d, os⟩ rfl) (W : Wd) (hb : W.b2 = false) : motive W hb := by
  obtain ⟨w, h, a, b, g, d, os⟩ := W
  have hb' : b = false := hb
  subst hb'
  cases a
  · exact f w h g d os
  · exact t w h g d os
end Mine
end
section

namespace Mine
open PySem PySem.Spec PySem.Calls PyProof.Rows PySem.W PySem.W.X PySem.Builtin.Str
noncomputable def s_lineno : Str := ⟨#[108, 105, 110, 101, 110, 111]⟩
noncomputable def s_instream : Str := ⟨#[105, 110, 115, 116, 114, 101, 97, 109]⟩
noncomputable def s_whitespace : Str := ⟨#[119, 104, 105, 116, 101, 115, 112, 97, 99, 101]⟩
noncomputable def s_pushback : Str := ⟨#[112, 117, 115, 104, 98, 97, 99, 107]⟩
noncomputable def s_self : Str := ⟨#[115, 101, 108, 102]⟩
noncomputable def s_token : Str := ⟨#[116, 111, 107, 101, 110]⟩
noncomputable def s_fiter : Str := ⟨#[102, 105, 116, 101, 114]⟩
noncomputable def s_ch : Str := ⟨#[99, 104]⟩
noncomputable def s_read : Str := ⟨#[114, 101, 97, 100]⟩
noncomputable def s_size : Str := ⟨#[115, 105, 122, 101]⟩
noncomputable def s_place : Str := ⟨#[112, 108, 97, 99, 101]⟩
noncomputable def s_text : Str := ⟨#[116, 101, 120, 116]⟩
noncomputable def s_ws : Str := ⟨#[10, 9, 13, 32]⟩
noncomputable def s_nl : Str := ⟨#[10]⟩
noncomputable def s_readq : Str := ⟨#[95, 108, 97, 119, 95, 115, 116, 114, 101, 97, 109, 46, 60, 108, 111, 99, 97, 108, 115, 62, 46, 114, 101, 97, 100]⟩
noncomputable def s_lamq : Str := ⟨#[95, 108, 97, 119, 95, 115, 116, 114, 101, 97, 109, 46, 60, 108, 111, 99, 97, 108, 115, 62, 46, 60, 108, 97, 109, 98, 100, 97, 62]⟩
noncomputable def defOf : Stmt → Arguments × List Stmt × Scope
  | .FunctionDef _ args body _ _ _ scope _ _ _ => (args, body, scope)
  | _ => (default, [], default)
noncomputable def readFd (w : World) (cT cP ct co : Addr) : FuncData :=
  { name := s_read, qualname := s_readq, params := (defOf (nthS (stmtsOf (fdAt w 146)) 1)).1, body := .stmts (defOf (nthS (stmtsOf (fdAt w 146)) 1)).2.1, scope := (defOf (nthS (stmtsOf (fdAt w 146)) 1)).2.2,
    globals := 3, closure := [(s_text, cT), (s_place, cP)], defaults := .none, kwdefaults := .none, doc := .none, pyModule := (fdAt w 146).pyModule, annotations := none, code := .ref co, closureTuple := .ref ct, builtins := 0 }
noncomputable def theTabs : List Tab := [⟨141, [(134, 4, s_readq), (137, 13, s_lamq)]⟩, ⟨71, [(42, 4, ⟨#[95, 105, 110, 116, 50, 100, 105, 103, 105, 116, 115, 46, 60, 108, 111, 99, 97, 108, 115, 62, 46, 105, 110, 110, 101, 114]⟩)]⟩, ⟨78, [(57, 4, ⟨#[95, 100, 105, 103, 105, 116, 115, 50, 105, 110, 116, 46, 60, 108, 111, 99, 97, 108, 115, 62, 46, 105, 110, 110, 101, 114]⟩)]⟩]
noncomputable def BB (W : Wd) : Bs := BBg theTabs [] W
noncomputable def stdE (B : Bs) : List (BCut B) := stdL B
theorem y_1 {motive : Wd → Bool → Prop} (t : ∀ w h b g d os, motive ⟨w, h, true, b, g, d, os⟩ true) (f : ∀ w h b g d os, motive ⟨w, h, false, b, g, d, os⟩ true) (t' : ∀ w h b g d os, motive ⟨w, h, true, b, g, d, os⟩ false) (f' : ∀ w h b g d os, motive ⟨w, h, false, b, g, d, os⟩ false) (W : Wd) (z : Bool) : motive W z := by
  cases z
  · exact y_0 (motive := fun W => motive W false) t' f' W
  · exact y_0 (motive := fun W => motive W true) t f W
noncomputable def lxV (W : Wd) (x d t0 : Nat) (n : Int) (t1 t2 s t3 t4 t5 b : Nat) (L : List Value) (ep : Nat) (f : FuncData) (sd t6 r cT cP ct co t7 : Nat) (v : Value) (l : List Value) (tx : Str) (t8 pl : Nat) (p : Int) (t9 : Nat) : View :=
  let B := BB W
  [(x, instO 135 d), (d, dictO [kv B s_lineno t0 (.int n t1), kv B s_instream t2 (.ref s), kv B s_whitespace t3 (.str s_ws t4), kv B s_pushback t5 (.ref b)] 4), (b, listO L ep), (s, funcO f (some sd)), (sd, dictO [kv B s_read t6 (.ref r)] 1), (r, funcO (readFd W.w cT cP ct co) none), (co, codeZ s_readq t7 v l), (cT, cellO (.str tx t8)), (cP, cellO (.ref pl)), (pl, listO [(.int p t9)] 0)]
noncomputable def lxQ (W : Wd) (q : Lt) (a t i v l s : Nat) : View := lxV W (q.a a) (q.a (a + 1)) (q.t t) (q.i i) (q.t (t + 1)) (q.t (t + 2)) (q.a (a + 2)) (q.t (t + 3)) (q.t (t + 4)) (q.t (t + 5)) (q.a (a + 3)) (q.l l) (q.t (t + 6)) (q.f 0) (q.a (a + 4)) (q.t (t + 7)) (q.a (a + 5)) (q.a (a + 6)) (q.a (a + 7)) (q.a (a + 8)) (q.a (a + 9)) (q.t (t + 8)) (q.v v) (q.l (l + 1)) (q.s s) (q.t (t + 9)) (q.a (a + 10)) (q.i (i + 1)) (q.t (t + 10))
end Mine
end
section

namespace Mine
open PySem PySem.Spec PySem.Calls PyProof.Rows PySem.W PySem.W.X PySem.Builtin.Str
noncomputable def S_rc (W : Wd) : Sp (BB W) :=
  let B := BB W
  { d := 30
    c := fun q => .call (.ref 118) ⟨[.ref (q.a 0)], []⟩
    P := fun q => (chS (q.s 0) (q.i 1)).length ≤ sizeLine
    pre := fun q => lxQ W q 0 0 0 0 0 0
    R := fun q e => (e.i 0) = (if chS (q.s 0) (q.i 1) = s_nl then (q.i 0) + 1 else (q.i 0))
    res := fun q e => .ok (.ret (.str (chS (q.s 0) (q.i 1)) (e.t 2)))
    out := fun q e => lxV W (q.a 0) (q.a 1) (q.t 0) (e.i 0) (e.t 0) (q.t 2) (q.a 2) (q.t 3) (q.t 4) (q.t 5) (q.a 3) (q.l 0) (q.t 6) (q.f 0) (q.a 4) (q.t 7) (q.a 5) (q.a 6) (q.a 7) (q.a 8) (q.a 9) (q.t 8) (q.v 0) (q.l 1) (q.s 0) (q.t 9) (q.a 10) ((q.i 1) + 1) (e.t 1) }
theorem rc_no (W : Wd) (O : (BB W).Ok) (q : Lt) (hl : (chS (q.s 0) (q.i 1)).length ≤ sizeLine) (hne : chS (q.s 0) (q.i 1) ≠ s_nl) : At (S_rc W) 30 q := by
  refine tri_f O (stdE _) [] 2000 30 (hs := hx 87 0x33420030c301308030030030c30b00004c00c00c30c2ca30c30030030c00004c00c00c30b0010481c11c61451401401451450c0082000002000000081001040001) (is := [3,3,3,3,3,3,3,3,3,3])
    (fun (ρ : Rho) => ob hl <| ob hne <| fin (S_rc W) q (lt [] [q.2 1,ρ.1 8,ρ.1 13] [(q.i 0)] [] [] [] []) ((if_neg hne).symm) :) ?_
  induction W using y_0 <;> kernel_rfl
theorem rc_nl (W : Wd) (O : (BB W).Ok) (q : Lt) (hl : (chS (q.s 0) (q.i 1)).length ≤ sizeLine) (hne : chS (q.s 0) (q.i 1) = s_nl) : At (S_rc W) 30 q := by
  refine tri_f O (stdE _) [] 2000 30 (hs := hx 122 0xc51450040000040040001000000040001401040000040000001033020030c301308030030030c30b00004c00c00c30c2ca30c30030030c00004c00c00c30b0010481c11c61451401401451450c0082000002000000081001040001) (is := [3,3,3,3,3,3,3,3,3,3])
    (fun (ρ : Rho) => ob hl <| ob hne <| fin (S_rc W) q (lt [] [ρ.1 18,ρ.1 8,ρ.1 13] [(q.i 0) + 1] [] [] [] []) ((if_pos hne).symm) :) ?_
  induction W using y_0 <;> kernel_rfl
theorem rc_ok (W : Wd) (O : (BB W).Ok) : (S_rc W).Ok := fun q hl => by
  by_cases h : chS (q.s 0) (q.i 1) = s_nl
  · exact rc_nl W O q hl h
  · exact rc_no W O q hl h
end Mine
end
section

namespace Mine
open PySem PySem.Spec PySem.Calls PyProof.Rows PySem.W PySem.W.X PySem.Builtin.Str
theorem sIn_ws (c : Nat) : sIn s_ws ⟨#[c]⟩ = isWs c := by
  unfold sIn
  rw [StrLaws.found_one]
  unfold isWs s_ws
  simp only [List.mem_cons, List.not_mem_nil, or_false]
  by_cases h1 : c = 10 <;> by_cases h2 : c = 9 <;> by_cases h3 : c = 13 <;> by_cases h4 : c = 32 <;> simp [h1, h2, h3, h4]
theorem str1_ne {a b : Nat} (h : a ≠ b) : (⟨#[a]⟩ : Str) ≠ ⟨#[b]⟩ := fun e => h (by injection e with e; injection e with e; injection e)
theorem str0_ne (a : Nat) : (⟨#[]⟩ : Str) ≠ ⟨#[a]⟩ := fun e => by injection e with e; injection e with e; cases e
theorem nls_cons (c : Nat) (l : List Nat) : nls (c :: l) = nls [c] + nls l := by
  simp only [nls, List.filter]
  cases c == 10 <;> simp <;> lia
theorem rc_nls {text : Str} {p n n' : Int} {c : Nat} (hc : chS text p = ⟨#[c]⟩) (h : n' = if chS text p = s_nl then n + 1 else n) : n' = n + nls [c] := by
  rw [hc] at h
  by_cases hn : c = 10
  · subst hn; rw [if_pos (show (⟨#[10]⟩ : Str) = s_nl from rfl)] at h; rw [h]; rfl
  · rw [if_neg (show ¬ (⟨#[c]⟩ : Str) = s_nl from str1_ne hn)] at h
    have : (c == 10) = false := by simpa using hn
    rw [h]; simp [nls, List.filter, this]
noncomputable def GP (text : Str) (p : Int) (tok : Str) (l : List Nat) : Prop := 0 ≤ p ∧ rem text p = l ∧ tok.length + l.length ≤ sizeLine
noncomputable def GR (text : Str) (n : Int) (tok : Str) (l tk rest : List Nat) (p' n' : Int) (tok' : Str) : Prop := 0 ≤ p' ∧ rem text p' = rest ∧ tok' = tok ++ ⟨tk.toArray⟩ ∧ n' = n + nls l - nls rest
theorem app_nil (tok : Str) : tok = tok ++ ⟨([] : List Nat).toArray⟩ := (Str.append_empty tok).symm
theorem app_cons (tok : Str) (k : Nat) (tk : List Nat) : (tok ++ ⟨#[k]⟩) ++ ⟨tk.toArray⟩ = tok ++ (⟨(k :: tk).toArray⟩ : Str) := by
  cases tok with
  | mk a =>
  show (⟨_⟩ : Str) = ⟨_⟩
  congr 1
  apply Array.ext'
  show ((a ++ #[k]) ++ tk.toArray).toList = (a ++ (k :: tk).toArray).toList
  simp
theorem len_one (tok : Str) (k : Nat) : (tok ++ (⟨#[k]⟩ : Str)).length = tok.length + 1 := by
  show (tok.cps ++ #[k]).size = tok.cps.size + 1
  simp
section
variable {text : Str} {p n n' : Int} {tok : Str} {k : Nat} {l r tk rest : List Nat}
theorem g_ch (h : GP text p tok (k :: r)) : chS text p = ⟨#[k]⟩ := chS_cons h.1 h.2.1
theorem g_skip (h : GP text p tok (k :: r)) : GP text (p + 1) tok r := ⟨by have := h.1; lia, (rem_cons h.1 h.2.1).1, by have := h.2.2; simp only [List.length_cons] at this; lia⟩
theorem g_len (h : GP text p tok (k :: r)) (j : Nat) : (tok ++ (⟨#[j]⟩ : Str)).length ≤ sizeLine := by have := h.2.2; simp only [List.length_cons] at this; rw [len_one]; lia
theorem g_next (h : GP text p tok (k :: r)) (j : Nat) : GP text (p + 1) (tok ++ ⟨#[j]⟩) r := ⟨by have := h.1; lia, (rem_cons h.1 h.2.1).1, by have := h.2.2; simp only [List.length_cons] at this; rw [len_one]; lia⟩
theorem g_ws (h : GP text p tok (k :: r)) (he : n' = n + nls [k]) : GR text n tok (k :: r) [] r (p + 1) n' tok := ⟨(g_skip h).1, (g_skip h).2.1, app_nil tok, by rw [nls_cons k r]; lia⟩
theorem g_step (he : n' = n + nls [k]) {j : Nat} {p1 n1 : Int} {tok1 : Str} (h1 : GR text n' (tok ++ ⟨#[j]⟩) r tk rest p1 n1 tok1) : GR text n tok (k :: r) (j :: tk) rest p1 n1 tok1 :=
  ⟨h1.1, h1.2.1, by rw [h1.2.2.1, app_cons], by rw [h1.2.2.2, nls_cons k r]; lia⟩
theorem g_lift (he : n' = n + nls [k]) {p1 n1 : Int} {tok1 : Str} (h1 : GR text n' tok r tk rest p1 n1 tok1) : GR text n tok (k :: r) tk rest p1 n1 tok1 :=
  ⟨h1.1, h1.2.1, h1.2.2.1, by rw [h1.2.2.2, nls_cons k r]; lia⟩
end
noncomputable def gtEnv (w : World) (L : Addr) : Env := envF w 125 L ⟨#[95, 110, 101, 116, 114, 99, 108, 101, 120, 46, 103, 101, 116, 95, 116, 111, 107, 101, 110, 46, 60, 108, 111, 99, 97, 108, 115, 62, 46]⟩ []
noncomputable def gtSt (w : World) (p : List Nat) : Stmt := pathS (stmtsOf (fdAt w 125)) p
noncomputable def S_rcK (W : Wd) (k : Nat) : Sp (BB W) :=
  let B := BB W
  { d := 30
    c := fun q => .call (.ref 118) ⟨[.ref (q.a 0)], []⟩
    P := fun q => chS (q.s 0) (q.i 1) = ⟨#[k + 1]⟩
    pre := fun q => lxQ W q 0 0 0 0 0 0
    R := fun q e => (e.i 0) = (q.i 0) + nls [k + 1]
    res := fun q e => .ok (.ret (.str ⟨#[k + 1]⟩ (e.t 2)))
    out := fun q e => lxV W (q.a 0) (q.a 1) (q.t 0) (e.i 0) (e.t 0) (q.t 2) (q.a 2) (q.t 3) (q.t 4) (q.t 5) (q.a 3) (q.l 0) (q.t 6) (q.f 0) (q.a 4) (q.t 7) (q.a 5) (q.a 6) (q.a 7) (q.a 8) (q.a 9) (q.t 8) (q.v 0) (q.l 1) (q.s 0) (q.t 9) (q.a 10) ((q.i 1) + 1) (e.t 1) }
noncomputable def on_rcK : Code → View → Lt := fun c V => lt ([valA (nthV (cPos c) 0)]++xA V 0) ([]++xT V 1) [dI V 1 0,qI V 9 0] [valS (cellV (nthO V 7))] [nthV (sQ V 6) 0] [sQ V 2,dropV 2 (sQ V 6)] [fdO (nthO V 3)]
noncomputable def S_rcE (W : Wd) : Sp (BB W) :=
  let B := BB W
  { d := 30
    c := fun q => .call (.ref 118) ⟨[.ref (q.a 0)], []⟩
    P := fun q => chS (q.s 0) (q.i 1) = ⟨#[]⟩
    pre := fun q => lxQ W q 0 0 0 0 0 0
    R := fun q e => (e.i 0) = (q.i 0)
    res := fun q e => .ok (.ret (.str ⟨#[]⟩ (e.t 2)))
    out := fun q e => lxV W (q.a 0) (q.a 1) (q.t 0) (e.i 0) (e.t 0) (q.t 2) (q.a 2) (q.t 3) (q.t 4) (q.t 5) (q.a 3) (q.l 0) (q.t 6) (q.f 0) (q.a 4) (q.t 7) (q.a 5) (q.a 6) (q.a 7) (q.a 8) (q.a 9) (q.t 8) (q.v 0) (q.l 1) (q.s 0) (q.t 9) (q.a 10) ((q.i 1) + 1) (e.t 1) }
noncomputable def on_rcE : Code → View → Lt := fun c V => lt ([valA (nthV (cPos c) 0)]++xA V 0) ([]++xT V 1) [dI V 1 0,qI V 9 0] [valS (cellV (nthO V 7))] [nthV (sQ V 6) 0] [sQ V 2,dropV 2 (sQ V 6)] [fdO (nthO V 3)]
theorem rcK_ok (W : Wd) (O : (BB W).Ok) (k : Nat) : (S_rcK W k).Ok := fun q (h : chS _ _ = _) => (rc_ok W O q (by show (chS _ _).length ≤ sizeLine; rw [h]; exact Nat.le_of_ble_eq_true rfl)).mono (Nat.le_refl _) fun r V ⟨e, hR, hr, hV⟩ =>
  ⟨e, rc_nls h hR, hr.trans (by show Except.ok (Flow.ret (Value.str (chS _ _) _)) = _; rw [h]; rfl), hV⟩
theorem rcE_ok (W : Wd) (O : (BB W).Ok) : (S_rcE W).Ok := fun q (h : chS _ _ = _) => (rc_ok W O q (by show (chS _ _).length ≤ sizeLine; rw [h]; exact Nat.le_of_ble_eq_true rfl)).mono (Nat.le_refl _) fun r V ⟨e, hR, hr, hV⟩ =>
  ⟨e, by have z : e.i 0 = _ := hR; rw [h, if_neg (show ¬ (⟨#[]⟩ : Str) = s_nl from str0_ne 10)] at z; exact z, hr.trans (by show Except.ok (Flow.ret (Value.str (chS _ _) _)) = _; rw [h]; rfl), hV⟩
noncomputable def S_gl (W : Wd) (st : Stmt) (dd : Nat) (l tk rest : List Nat) : Sp (BB W) :=
  let B := BB W
  { d := dd
    c := fun q => forC st (q.a 1) (gtEnv W.w (q.a 0))
    P := fun q => GP (q.s 1) (q.i 1) (q.s 0) l
    pre := fun q => [((q.a 0),frameO [kv B s_self (q.t 0) (.ref (q.a 2)),kv B s_token (q.t 1) (.str (q.s 0) (q.t 2)),kv B s_fiter (q.t 3) (.ref (q.a 1)),kv B s_ch (q.t 4) (q.v 0)] 4),((q.a 1),fieldsO tCI [(.ref (q.a 3)),(.str ⟨#[]⟩ (q.t 5)),(.bool false)]),((q.a 3),methO (.ref 118) (.ref (q.a 2)))]++lxV W (q.a 2) (q.a 4) (q.t 6) (q.i 0) (q.t 7) (q.t 8) (q.a 5) (q.t 9) (q.t 10) (q.t 11) (q.a 6) (q.l 0) (q.t 12) (q.f 0) (q.a 7) (q.t 13) (q.a 8) (q.a 9) (q.a 10) (q.a 11) (q.a 12) (q.t 14) (q.v 1) (q.l 1) (q.s 1) (q.t 15) (q.a 13) (q.i 1) (q.t 16)
    R := fun q e => GR (q.s 1) (q.i 0) (q.s 0) l tk rest (e.i 0) (e.i 1) (e.s 0)
    res := fun q e => .ok (.ret (.str (e.s 0) (e.t 2)))
    out := fun q e => lxV W (q.a 2) (q.a 4) (q.t 6) (e.i 1) (e.t 0) (q.t 8) (q.a 5) (q.t 9) (q.t 10) (q.t 11) (q.a 6) (q.l 0) (q.t 12) (q.f 0) (q.a 7) (q.t 13) (q.a 8) (q.a 9) (q.a 10) (q.a 11) (q.a 12) (q.t 14) (q.v 1) (q.l 1) (q.s 1) (q.t 15) (q.a 13) (e.i 0) (e.t 1) }
noncomputable def on_gl : Code → View → Lt := fun c V => lt ([(cEnv c).locals,valA (cIt c),dA V 0 0,valA (nthV (sQ V 1) 0)]++xA V 3) ([kT V 0 0,kT V 0 1,dT V 0 1,kT V 0 2,kT V 0 3,qT V 1 1]++xT V 4) [dI V 4 0,qI V 12 0] [valS (dV V 0 1),valS (cellV (nthO V 10))] [dV V 0 3,nthV (sQ V 9) 0] [sQ V 5,dropV 2 (sQ V 9)] [fdO (nthO V 6)]
theorem l3_ws (W : Wd) (O : (BB W).Ok) (k : Nat) (r : List Nat) (q : Lt) (hq : (S_gl W (gtSt W.w [3, 0, 1, 1, 2]) 60 ((k + 1) :: r) [] r).P q) (hw : isWs (k + 1) = true) : At (S_gl W (gtSt W.w [3, 0, 1, 1, 2]) 60 ((k + 1) :: r) [] r) 60 q := by
  refine tri_f O (stdE _) [U (S_rcK W k) (rcK_ok W O k) on_rcK] 2000 60 (hs := hx 48 0x2d008008004100000100000004b2cb2cc3030c30c30c30c30ca0030c0003082004080080) (is := [0,0,0,0,0,0,0,0,0,0])
    (fun (ρ : Rho) => ob (g_ch hq) <| fun he0 : ((ρ.2 0).i 0) = (q.i 0) + nls [k + 1] => ob (A := ((⟨#[]⟩ : Str) ≠ ⟨#[k + 1]⟩)) (str0_ne _) <| ob (A := (sIn s_ws ⟨#[k + 1]⟩ = true)) ((sIn_ws _).trans hw) <| fin (S_gl W (gtSt W.w [3,0,1,1,2]) 60 ((k + 1)::r) [] r) q (lt [] [(ρ.2 0).2 0,(ρ.2 0).2 1,q.2 2] [q.i 1 + 1,(ρ.2 0).i 0] [q.s 0] [] [] []) (g_ws hq he0) :) ?_
  induction W using y_0 <;> kernel_rfl
theorem l3_chr (W : Wd) (O : (BB W).Ok) (k : Nat) (r tk rest : List Nat) (ih : (S_gl W (gtSt W.w [3, 0, 1, 1, 2]) 60 r tk rest).Ok) (q : Lt) (hq : (S_gl W (gtSt W.w [3, 0, 1, 1, 2]) 60 ((k + 1) :: r) ((k + 1) :: tk) rest).P q) (hw : isWs (k + 1) = false) (hk : k + 1 ≠ 92) : At (S_gl W (gtSt W.w [3, 0, 1, 1, 2]) 60 ((k + 1) :: r) ((k + 1) :: tk) rest) 60 q := by
  refine tri_f O (stdE _) [U (S_rcK W k) (rcK_ok W O k) on_rcK,U (S_gl W (gtSt W.w [3,0,1,1,2]) 60 r tk rest) ih on_gl] 2000 60 (hs := hx 74 0x28a28d0432cb48200b2cd0802d108008004100000100000004b2cb2cc3030c30c30c30c30ca0030c0003082004080080) (is := [0,0,0,0,0,0,0,0,0,0])
    (fun (ρ : Rho) => ob (g_ch hq) <| fun he0 : ((ρ.2 0).i 0) = (q.i 0) + nls [k + 1] => ob (A := ((⟨#[]⟩ : Str) ≠ ⟨#[k + 1]⟩)) (str0_ne _) <| ob (A := (sIn s_ws ⟨#[k + 1]⟩ = false)) ((sIn_ws _).trans hw) <| ob (A := ((⟨#[k + 1]⟩ : Str) ≠ ⟨#[92]⟩)) (str1_ne hk) <| ob (A := ((q.s 0++(⟨#[k + 1]⟩ : Str)).length ≤ sizeLine)) (g_len hq _) <| ob (A := (GP (q.s 1) (q.i 1 + 1 : Int) (q.s 0++Str.mk #[k + 1]) r)) (g_next hq _) <| fun he1 : GR (q.s 1) ((ρ.2 0).i 0 : Int) (q.s 0++Str.mk #[k + 1]) r tk rest ((ρ.2 1).i 0) ((ρ.2 1).i 1) ((ρ.2 1).s 0) => fin (S_gl W (gtSt W.w [3,0,1,1,2]) 60 ((k + 1)::r) ((k + 1)::tk) rest) q (lt [] [(ρ.2 1).2 0,(ρ.2 1).2 1,(ρ.2 1).2 2] [(ρ.2 1).i 0,(ρ.2 1).i 1] [(ρ.2 1).s 0] [] [] []) (g_step he0 he1) :) ?_
  induction W using y_0 <;> kernel_rfl
theorem l3_esc (W : Wd) (O : (BB W).Ok) (k : Nat) (r tk rest : List Nat) (ih : (S_gl W (gtSt W.w [3, 0, 1, 1, 2]) 60 r tk rest).Ok) (q : Lt) (hq : (S_gl W (gtSt W.w [3, 0, 1, 1, 2]) 60 (92 :: (k + 1) :: r) ((k + 1) :: tk) rest).P q) : At (S_gl W (gtSt W.w [3, 0, 1, 1, 2]) 60 (92 :: (k + 1) :: r) ((k + 1) :: tk) rest) 60 q := by
  refine tri_f O (stdE _) [U (S_rcK W 91) (rcK_ok W O 91) on_rcK,U (S_rcK W k) (rcK_ok W O k) on_rcK,U (S_gl W (gtSt W.w [3,0,1,1,2]) 60 r tk rest) ih on_gl] 2000 60 (hs := hx 104 0x28a28d0832cb48200b2cb2c000000000000000a0430020400000010000010000012c000b00008004100000100000004b2cb2cc3030c30c30c30c30ca0030c0003082004080080) (is := [0,0,0,0,0,0,0,0,0,0])
    (fun (ρ : Rho) => ob (g_ch hq) <| fun he0 : ((ρ.2 0).i 0) = (q.i 0) + nls [91 + 1] => ob (A := ((⟨#[]⟩ : Str) ≠ ⟨#[92]⟩)) (str0_ne _) <| ob (g_ch (g_skip hq)) <| fun he1 : ((ρ.2 1).i 0) = ((ρ.2 0).i 0 : Int) + nls [k + 1] => ob (A := ((q.s 0++(⟨#[k + 1]⟩ : Str)).length ≤ sizeLine)) (g_len (g_skip hq) _) <| ob (A := (GP (q.s 1) (q.i 1 + 1 + 1 : Int) (q.s 0++Str.mk #[k + 1]) r)) (g_next (g_skip hq) _) <| fun he2 : GR (q.s 1) ((ρ.2 1).i 0 : Int) (q.s 0++Str.mk #[k + 1]) r tk rest ((ρ.2 2).i 0) ((ρ.2 2).i 1) ((ρ.2 2).s 0) => fin (S_gl W (gtSt W.w [3,0,1,1,2]) 60 (92::(k + 1)::r) ((k + 1)::tk) rest) q (lt [] [(ρ.2 2).2 0,(ρ.2 2).2 1,(ρ.2 2).2 2] [(ρ.2 2).i 0,(ρ.2 2).i 1] [(ρ.2 2).s 0] [] [] []) (g_lift he0 (g_step he1 he2)) :) ?_
  induction W using y_0 <;> kernel_rfl
theorem l2_q (W : Wd) (O : (BB W).Ok) (r : List Nat) (q : Lt) (hq : (S_gl W (gtSt W.w [3, 0, 1, 0, 0]) 60 (34 :: r) [] r).P q) : At (S_gl W (gtSt W.w [3, 0, 1, 0, 0]) 60 (34 :: r) [] r) 60 q := by
  refine tri_f O (stdE _) [U (S_rcK W 33) (rcK_ok W O 33) on_rcK] 2000 60 (hs := hx 33 0xb0002cb2cc3030c30c30c30c30ca0030c0003082004080080) (is := [0,0,0,0,0,0,0,0,0,0])
    (fun (ρ : Rho) => ob (g_ch hq) <| fun he0 : ((ρ.2 0).i 0) = (q.i 0) + nls [33 + 1] => ob (A := ((⟨#[]⟩ : Str) ≠ ⟨#[34]⟩)) (str0_ne _) <| fin (S_gl W (gtSt W.w [3,0,1,0,0]) 60 (34::r) [] r) q (lt [] [(ρ.2 0).2 0,(ρ.2 0).2 1,q.2 2] [q.i 1 + 1,(ρ.2 0).i 0] [q.s 0] [] [] []) (g_ws hq he0) :) ?_
  induction W using y_0 <;> kernel_rfl
theorem l2_chr (W : Wd) (O : (BB W).Ok) (k : Nat) (r tk rest : List Nat) (ih : (S_gl W (gtSt W.w [3, 0, 1, 0, 0]) 60 r tk rest).Ok) (q : Lt) (hq : (S_gl W (gtSt W.w [3, 0, 1, 0, 0]) 60 ((k + 1) :: r) ((k + 1) :: tk) rest).P q) (h34 : k + 1 ≠ 34) (hk : k + 1 ≠ 92) : At (S_gl W (gtSt W.w [3, 0, 1, 0, 0]) 60 ((k + 1) :: r) ((k + 1) :: tk) rest) 60 q := by
  refine tri_f O (stdE _) [U (S_rcK W k) (rcK_ok W O k) on_rcK,U (S_gl W (gtSt W.w [3,0,1,0,0]) 60 r tk rest) ih on_gl] 2000 60 (hs := hx 60 0x28a28d0432cb48200b2cd0802cd0802cb2cc3030c30c30c30c30ca0030c0003082004080080) (is := [0,0,0,0,0,0,0,0,0,0])
    (fun (ρ : Rho) => ob (g_ch hq) <| fun he0 : ((ρ.2 0).i 0) = (q.i 0) + nls [k + 1] => ob (A := ((⟨#[]⟩ : Str) ≠ ⟨#[k + 1]⟩)) (str0_ne _) <| ob (A := ((⟨#[k + 1]⟩ : Str) ≠ ⟨#[34]⟩)) (str1_ne h34) <| ob (A := ((⟨#[k + 1]⟩ : Str) ≠ ⟨#[92]⟩)) (str1_ne hk) <| ob (A := ((q.s 0++(⟨#[k + 1]⟩ : Str)).length ≤ sizeLine)) (g_len hq _) <| ob (A := (GP (q.s 1) (q.i 1 + 1 : Int) (q.s 0++Str.mk #[k + 1]) r)) (g_next hq _) <| fun he1 : GR (q.s 1) ((ρ.2 0).i 0 : Int) (q.s 0++Str.mk #[k + 1]) r tk rest ((ρ.2 1).i 0) ((ρ.2 1).i 1) ((ρ.2 1).s 0) => fin (S_gl W (gtSt W.w [3,0,1,0,0]) 60 ((k + 1)::r) ((k + 1)::tk) rest) q (lt [] [(ρ.2 1).2 0,(ρ.2 1).2 1,(ρ.2 1).2 2] [(ρ.2 1).i 0,(ρ.2 1).i 1] [(ρ.2 1).s 0] [] [] []) (g_step he0 he1) :) ?_
  induction W using y_0 <;> kernel_rfl
theorem l2_esc (W : Wd) (O : (BB W).Ok) (k : Nat) (r tk rest : List Nat) (ih : (S_gl W (gtSt W.w [3, 0, 1, 0, 0]) 60 r tk rest).Ok) (q : Lt) (hq : (S_gl W (gtSt W.w [3, 0, 1, 0, 0]) 60 (92 :: (k + 1) :: r) ((k + 1) :: tk) rest).P q) : At (S_gl W (gtSt W.w [3, 0, 1, 0, 0]) 60 (92 :: (k + 1) :: r) ((k + 1) :: tk) rest) 60 q := by
  refine tri_f O (stdE _) [U (S_rcK W 91) (rcK_ok W O 91) on_rcK,U (S_rcK W k) (rcK_ok W O k) on_rcK,U (S_gl W (gtSt W.w [3,0,1,0,0]) 60 r tk rest) ih on_gl] 2000 60 (hs := hx 90 0x28a28d0832cb48200b2cb2c000000000000000a0430020400000010000010000012c000b0002cb2cc3030c30c30c30c30ca0030c0003082004080080) (is := [0,0,0,0,0,0,0,0,0,0])
    (fun (ρ : Rho) => ob (g_ch hq) <| fun he0 : ((ρ.2 0).i 0) = (q.i 0) + nls [91 + 1] => ob (A := ((⟨#[]⟩ : Str) ≠ ⟨#[92]⟩)) (str0_ne _) <| ob (g_ch (g_skip hq)) <| fun he1 : ((ρ.2 1).i 0) = ((ρ.2 0).i 0 : Int) + nls [k + 1] => ob (A := ((q.s 0++(⟨#[k + 1]⟩ : Str)).length ≤ sizeLine)) (g_len (g_skip hq) _) <| ob (A := (GP (q.s 1) (q.i 1 + 1 + 1 : Int) (q.s 0++Str.mk #[k + 1]) r)) (g_next (g_skip hq) _) <| fun he2 : GR (q.s 1) ((ρ.2 1).i 0 : Int) (q.s 0++Str.mk #[k + 1]) r tk rest ((ρ.2 2).i 0) ((ρ.2 2).i 1) ((ρ.2 2).s 0) => fin (S_gl W (gtSt W.w [3,0,1,0,0]) 60 (92::(k + 1)::r) ((k + 1)::tk) rest) q (lt [] [(ρ.2 2).2 0,(ρ.2 2).2 1,(ρ.2 2).2 2] [(ρ.2 2).i 0,(ρ.2 2).i 1] [(ρ.2 2).s 0] [] [] []) (g_lift he0 (g_step he1 he2)) :) ?_
  induction W using y_0 <;> kernel_rfl
theorem l3_tri (W : Wd) (O : (BB W).Ok) {l tk rest : List Nat} (z : Lx3 l tk rest) : (S_gl W (gtSt W.w [3, 0, 1, 1, 2]) 60 l tk rest).Ok := by
  induction z with
  | ws hw => exact fun q hq => l3_ws W O _ _ q hq hw
  | esc _ ih => exact fun q hq => l3_esc W O _ _ _ _ ih q hq
  | chr hw hk _ ih => exact fun q hq => l3_chr W O _ _ _ _ ih q hq hw hk
theorem l2_tri (W : Wd) (O : (BB W).Ok) {l tk rest : List Nat} (z : Lx2 l tk rest) : (S_gl W (gtSt W.w [3, 0, 1, 0, 0]) 60 l tk rest).Ok := by
  induction z with
  | q => exact fun q hq => l2_q W O _ q hq
  | esc _ ih => exact fun q hq => l2_esc W O _ _ _ _ ih q hq
  | chr hw hk _ ih => exact fun q hq => l2_chr W O _ _ _ _ ih q hq hw hk
end Mine
end
section

namespace Mine
open PySem PySem.Spec PySem.Calls PyProof.Rows PySem.W PySem.W.X PySem.Builtin.Str
noncomputable def S_g0 (W : Wd) (st : Stmt) (dd : Nat) (l tk rest : List Nat) : Sp (BB W) :=
  let B := BB W
  { d := dd
    c := fun q => forC st (q.a 1) (gtEnv W.w (q.a 0))
    P := fun q => GP (q.s 1) (q.i 1) (q.s 0) l
    pre := fun q => [((q.a 0),frameO [kv B s_self (q.t 0) (.ref (q.a 2)),kv B s_token (q.t 1) (.str (q.s 0) (q.t 2)),kv B s_fiter (q.t 3) (.ref (q.a 1))] 3),((q.a 1),fieldsO tCI [(.ref (q.a 3)),(.str ⟨#[]⟩ (q.t 4)),(.bool false)]),((q.a 3),methO (.ref 118) (.ref (q.a 2)))]++lxV W (q.a 2) (q.a 4) (q.t 5) (q.i 0) (q.t 6) (q.t 7) (q.a 5) (q.t 8) (q.t 9) (q.t 10) (q.a 6) (q.l 0) (q.t 11) (q.f 0) (q.a 7) (q.t 12) (q.a 8) (q.a 9) (q.a 10) (q.a 11) (q.a 12) (q.t 13) (q.v 0) (q.l 1) (q.s 1) (q.t 14) (q.a 13) (q.i 1) (q.t 15)
    R := fun q e => GR (q.s 1) (q.i 0) (q.s 0) l tk rest (e.i 0) (e.i 1) (e.s 0)
    res := fun q e => .ok (.ret (.str (e.s 0) (e.t 2)))
    out := fun q e => lxV W (q.a 2) (q.a 4) (q.t 5) (e.i 1) (e.t 0) (q.t 7) (q.a 5) (q.t 8) (q.t 9) (q.t 10) (q.a 6) (q.l 0) (q.t 11) (q.f 0) (q.a 7) (q.t 12) (q.a 8) (q.a 9) (q.a 10) (q.a 11) (q.a 12) (q.t 13) (q.v 0) (q.l 1) (q.s 1) (q.t 14) (q.a 13) (e.i 0) (e.t 1) }
noncomputable def on_g0 : Code → View → Lt := fun c V => lt ([(cEnv c).locals,valA (cIt c),dA V 0 0,valA (nthV (sQ V 1) 0)]++xA V 3) ([kT V 0 0,kT V 0 1,dT V 0 1,kT V 0 2,qT V 1 1]++xT V 4) [dI V 4 0,qI V 12 0] [valS (dV V 0 1),valS (cellV (nthO V 10))] [nthV (sQ V 9) 0] [sQ V 5,dropV 2 (sQ V 9)] [fdO (nthO V 6)]
inductive Ly1 : List Nat → List Nat → List Nat → Prop where
  | ws {c : Nat} {r tk rest : List Nat} : isWs (c + 1) = true → Ly1 r tk rest → Ly1 ((c + 1) :: r) tk rest
  | quo {r tk rest : List Nat} : Lx2 r tk rest → Ly1 (34 :: r) tk rest
  | esc {c : Nat} {r tk rest : List Nat} : Lx3 r tk rest → Ly1 (92 :: (c + 1) :: r) ((c + 1) :: tk) rest
  | chr {c : Nat} {r tk rest : List Nat} : isWs (c + 1) = false → c + 1 ≠ 34 → c + 1 ≠ 92 → Lx3 r tk rest → Ly1 ((c + 1) :: r) ((c + 1) :: tk) rest
inductive Le1 : List Nat → Prop where
  | fin : Le1 []
  | ws {c : Nat} {r : List Nat} : isWs (c + 1) = true → Le1 r → Le1 ((c + 1) :: r)
theorem lx1_cases {l tk rest : List Nat} (h : Lx1 l tk rest) : Ly1 l tk rest ∨ (Le1 l ∧ tk = [] ∧ rest = []) := by
  induction h with
  | fin => exact .inr ⟨.fin, rfl, rfl⟩
  | ws hw _ ih => exact ih.elim (fun z => .inl (.ws hw z)) (fun z => .inr ⟨.ws hw z.1, z.2⟩)
  | quo h => exact .inl (.quo h)
  | esc h => exact .inl (.esc h)
  | chr a b c h => exact .inl (.chr a b c h)
theorem l1_ws (W : Wd) (O : (BB W).Ok) (k : Nat) (r tk rest : List Nat) (ih : (S_gl W (gtSt W.w [3]) 70 r tk rest).Ok) (q : Lt) (hq : (S_gl W (gtSt W.w [3]) 70 ((k + 1) :: r) tk rest).P q) (hw : isWs (k + 1) = true) : At (S_gl W (gtSt W.w [3]) 70 ((k + 1) :: r) tk rest) 70 q := by
  refine tri_f O (stdE _) [U (S_rcK W k) (rcK_ok W O k) on_rcK,U (S_gl W (gtSt W.w [3]) 70 r tk rest) ih on_gl] 2000 70 (hs := hx 63 0xa28a3410d008008004100000100000004b2cb2cc3030c30c30c30c30ca0030c0003082004080080) (is := [0,0,0,0,0,0,0,0,0,0])
    (fun (ρ : Rho) => ob (g_ch hq) <| fun he0 : ((ρ.2 0).i 0) = (q.i 0) + nls [k + 1] => ob (A := ((⟨#[]⟩ : Str) ≠ ⟨#[k + 1]⟩)) (str0_ne _) <| ob (A := (sIn s_ws ⟨#[k + 1]⟩ = true)) ((sIn_ws _).trans hw) <| ob (g_skip hq) <| fun he1 : GR (q.s 1) ((ρ.2 0).i 0 : Int) (q.s 0) r tk rest ((ρ.2 1).i 0) ((ρ.2 1).i 1) ((ρ.2 1).s 0) => fin (S_gl W (gtSt W.w [3]) 70 ((k + 1)::r) tk rest) q (lt [] [(ρ.2 1).2 0,(ρ.2 1).2 1,(ρ.2 1).2 2] [(ρ.2 1).i 0,(ρ.2 1).i 1] [(ρ.2 1).s 0] [] [] []) (g_lift he0 he1) :) ?_
  induction W using y_0 <;> kernel_rfl
theorem l1_quo (W : Wd) (O : (BB W).Ok) (r tk rest : List Nat) (hz : Lx2 r tk rest) (q : Lt) (hq : (S_gl W (gtSt W.w [3]) 70 (34 :: r) tk rest).P q) : At (S_gl W (gtSt W.w [3]) 70 (34 :: r) tk rest) 70 q := by
  refine tri_f O (stdE _) [U (S_rcK W 33) (rcK_ok W O 33) on_rcK,U (S_gl W (gtSt W.w [3,0,1,0,0]) 60 r tk rest) (l2_tri W O hz) on_gl] 2000 70 (hs := hx 72 0x28a28d04330030030c2c000b00008004100000100000004b2cb2cc3030c30c30c30c30ca0030c0003082004080080) (is := [0,0,0,0,0,0,0,0,0,0])
    (fun (ρ : Rho) => ob (g_ch hq) <| fun he0 : ((ρ.2 0).i 0) = (q.i 0) + nls [33 + 1] => ob (A := ((⟨#[]⟩ : Str) ≠ ⟨#[34]⟩)) (str0_ne _) <| ob (g_skip hq) <| fun he1 : GR (q.s 1) ((ρ.2 0).i 0 : Int) (q.s 0) r tk rest ((ρ.2 1).i 0) ((ρ.2 1).i 1) ((ρ.2 1).s 0) => fin (S_gl W (gtSt W.w [3]) 70 (34::r) tk rest) q (lt [] [(ρ.2 1).2 0,(ρ.2 1).2 1,(ρ.2 1).2 2] [(ρ.2 1).i 0,(ρ.2 1).i 1] [(ρ.2 1).s 0] [] [] []) (g_lift he0 he1) :) ?_
  induction W using y_0 <;> kernel_rfl
theorem l1_chr (W : Wd) (O : (BB W).Ok) (k : Nat) (r tk rest : List Nat) (hz : Lx3 r tk rest) (q : Lt) (hq : (S_gl W (gtSt W.w [3]) 70 ((k + 1) :: r) ((k + 1) :: tk) rest).P q) (hw : isWs (k + 1) = false) (h34 : k + 1 ≠ 34) (hk : k + 1 ≠ 92) : At (S_gl W (gtSt W.w [3]) 70 ((k + 1) :: r) ((k + 1) :: tk) rest) 70 q := by
  refine tri_f O (stdE _) [U (S_rcK W k) (rcK_ok W O k) on_rcK,U (S_gl W (gtSt W.w [3,0,1,1,2]) 60 r tk rest) (l3_tri W O hz) on_gl] 2000 70 (hs := hx 85 0xa28a3410cc00c00c30b2cb48200b2cd0802cd0802d108008004100000100000004b2cb2cc3030c30c30c30c30ca0030c0003082004080080) (is := [0,0,0,0,0,0,0,0,0,0])
    (fun (ρ : Rho) => ob (g_ch hq) <| fun he0 : ((ρ.2 0).i 0) = (q.i 0) + nls [k + 1] => ob (A := ((⟨#[]⟩ : Str) ≠ ⟨#[k + 1]⟩)) (str0_ne _) <| ob (A := (sIn s_ws ⟨#[k + 1]⟩ = false)) ((sIn_ws _).trans hw) <| ob (A := ((⟨#[k + 1]⟩ : Str) ≠ ⟨#[34]⟩)) (str1_ne h34) <| ob (A := ((⟨#[k + 1]⟩ : Str) ≠ ⟨#[92]⟩)) (str1_ne hk) <| ob (A := ((q.s 0++(⟨#[k + 1]⟩ : Str)).length ≤ sizeLine)) (g_len hq _) <| ob (A := (GP (q.s 1) (q.i 1 + 1 : Int) (q.s 0++Str.mk #[k + 1]) r)) (g_next hq _) <| fun he1 : GR (q.s 1) ((ρ.2 0).i 0 : Int) (q.s 0++Str.mk #[k + 1]) r tk rest ((ρ.2 1).i 0) ((ρ.2 1).i 1) ((ρ.2 1).s 0) => fin (S_gl W (gtSt W.w [3]) 70 ((k + 1)::r) ((k + 1)::tk) rest) q (lt [] [(ρ.2 1).2 0,(ρ.2 1).2 1,(ρ.2 1).2 2] [(ρ.2 1).i 0,(ρ.2 1).i 1] [(ρ.2 1).s 0] [] [] []) (g_step he0 he1) :) ?_
  induction W using y_0 <;> kernel_rfl
theorem l1_esc (W : Wd) (O : (BB W).Ok) (k : Nat) (r tk rest : List Nat) (hz : Lx3 r tk rest) (q : Lt) (hq : (S_gl W (gtSt W.w [3]) 70 (92 :: (k + 1) :: r) ((k + 1) :: tk) rest).P q) : At (S_gl W (gtSt W.w [3]) 70 (92 :: (k + 1) :: r) ((k + 1) :: tk) rest) 70 q := by
  refine tri_f O (stdE _) [U (S_rcK W 91) (rcK_ok W O 91) on_rcK,U (S_rcK W k) (rcK_ok W O k) on_rcK,U (S_gl W (gtSt W.w [3,0,1,1,2]) 60 r tk rest) (l3_tri W O hz) on_gl] 2000 70 (hs := hx 114 0x28a28d08330030030c2cb2d20802cb2cb0000000000000002810c008100000004000004000004b0002c000b00008004100000100000004b2cb2cc3030c30c30c30c30ca0030c0003082004080080) (is := [0,0,0,0,0,0,0,0,0,0])
    (fun (ρ : Rho) => ob (g_ch hq) <| fun he0 : ((ρ.2 0).i 0) = (q.i 0) + nls [91 + 1] => ob (A := ((⟨#[]⟩ : Str) ≠ ⟨#[92]⟩)) (str0_ne _) <| ob (g_ch (g_skip hq)) <| fun he1 : ((ρ.2 1).i 0) = ((ρ.2 0).i 0 : Int) + nls [k + 1] => ob (A := ((q.s 0++(⟨#[k + 1]⟩ : Str)).length ≤ sizeLine)) (g_len (g_skip hq) _) <| ob (A := (GP (q.s 1) (q.i 1 + 1 + 1 : Int) (q.s 0++Str.mk #[k + 1]) r)) (g_next (g_skip hq) _) <| fun he2 : GR (q.s 1) ((ρ.2 1).i 0 : Int) (q.s 0++Str.mk #[k + 1]) r tk rest ((ρ.2 2).i 0) ((ρ.2 2).i 1) ((ρ.2 2).s 0) => fin (S_gl W (gtSt W.w [3]) 70 (92::(k + 1)::r) ((k + 1)::tk) rest) q (lt [] [(ρ.2 2).2 0,(ρ.2 2).2 1,(ρ.2 2).2 2] [(ρ.2 2).i 0,(ρ.2 2).i 1] [(ρ.2 2).s 0] [] [] []) (g_lift he0 (g_step he1 he2)) :) ?_
  induction W using y_0 <;> kernel_rfl
theorem l0_ws (W : Wd) (O : (BB W).Ok) (k : Nat) (r tk rest : List Nat) (ih : (S_gl W (gtSt W.w [3]) 70 r tk rest).Ok) (q : Lt) (hq : (S_g0 W (gtSt W.w [3]) 70 ((k + 1) :: r) tk rest).P q) (hw : isWs (k + 1) = true) : At (S_g0 W (gtSt W.w [3]) 70 ((k + 1) :: r) tk rest) 70 q := by
  refine tri_f O (stdE _) [U (S_rcK W k) (rcK_ok W O k) on_rcK,U (S_gl W (gtSt W.w [3]) 70 r tk rest) ih on_gl] 2000 70 (hs := hx 63 0xa28a3410d008008004100000100000004b2cb2cc3030c30c30c30c30ca0030c0003082004080080) (is := [0,0,0,0,0,0,0,0,0,0])
    (fun (ρ : Rho) => ob (g_ch hq) <| fun he0 : ((ρ.2 0).i 0) = (q.i 0) + nls [k + 1] => ob (A := ((⟨#[]⟩ : Str) ≠ ⟨#[k + 1]⟩)) (str0_ne _) <| ob (A := (sIn s_ws ⟨#[k + 1]⟩ = true)) ((sIn_ws _).trans hw) <| ob (g_skip hq) <| fun he1 : GR (q.s 1) ((ρ.2 0).i 0 : Int) (q.s 0) r tk rest ((ρ.2 1).i 0) ((ρ.2 1).i 1) ((ρ.2 1).s 0) => fin (S_g0 W (gtSt W.w [3]) 70 ((k + 1)::r) tk rest) q (lt [] [(ρ.2 1).2 0,(ρ.2 1).2 1,(ρ.2 1).2 2] [(ρ.2 1).i 0,(ρ.2 1).i 1] [(ρ.2 1).s 0] [] [] []) (g_lift he0 he1) :) ?_
  induction W using y_0 <;> kernel_rfl
theorem l0_quo (W : Wd) (O : (BB W).Ok) (r tk rest : List Nat) (hz : Lx2 r tk rest) (q : Lt) (hq : (S_g0 W (gtSt W.w [3]) 70 (34 :: r) tk rest).P q) : At (S_g0 W (gtSt W.w [3]) 70 (34 :: r) tk rest) 70 q := by
  refine tri_f O (stdE _) [U (S_rcK W 33) (rcK_ok W O 33) on_rcK,U (S_gl W (gtSt W.w [3,0,1,0,0]) 60 r tk rest) (l2_tri W O hz) on_gl] 2000 70 (hs := hx 72 0x28a28d04330030030c2c000b00008004100000100000004b2cb2cc3030c30c30c30c30ca0030c0003082004080080) (is := [0,0,0,0,0,0,0,0,0,0])
    (fun (ρ : Rho) => ob (g_ch hq) <| fun he0 : ((ρ.2 0).i 0) = (q.i 0) + nls [33 + 1] => ob (A := ((⟨#[]⟩ : Str) ≠ ⟨#[34]⟩)) (str0_ne _) <| ob (g_skip hq) <| fun he1 : GR (q.s 1) ((ρ.2 0).i 0 : Int) (q.s 0) r tk rest ((ρ.2 1).i 0) ((ρ.2 1).i 1) ((ρ.2 1).s 0) => fin (S_g0 W (gtSt W.w [3]) 70 (34::r) tk rest) q (lt [] [(ρ.2 1).2 0,(ρ.2 1).2 1,(ρ.2 1).2 2] [(ρ.2 1).i 0,(ρ.2 1).i 1] [(ρ.2 1).s 0] [] [] []) (g_lift he0 he1) :) ?_
  induction W using y_0 <;> kernel_rfl
theorem l0_chr (W : Wd) (O : (BB W).Ok) (k : Nat) (r tk rest : List Nat) (hz : Lx3 r tk rest) (q : Lt) (hq : (S_g0 W (gtSt W.w [3]) 70 ((k + 1) :: r) ((k + 1) :: tk) rest).P q) (hw : isWs (k + 1) = false) (h34 : k + 1 ≠ 34) (hk : k + 1 ≠ 92) : At (S_g0 W (gtSt W.w [3]) 70 ((k + 1) :: r) ((k + 1) :: tk) rest) 70 q := by
  refine tri_f O (stdE _) [U (S_rcK W k) (rcK_ok W O k) on_rcK,U (S_gl W (gtSt W.w [3,0,1,1,2]) 60 r tk rest) (l3_tri W O hz) on_gl] 2000 70 (hs := hx 85 0xa28a3410cc00c00c30b2cb48200b2cd0802cd0802d108008004100000100000004b2cb2cc3030c30c30c30c30ca0030c0003082004080080) (is := [0,0,0,0,0,0,0,0,0,0])
    (fun (ρ : Rho) => ob (g_ch hq) <| fun he0 : ((ρ.2 0).i 0) = (q.i 0) + nls [k + 1] => ob (A := ((⟨#[]⟩ : Str) ≠ ⟨#[k + 1]⟩)) (str0_ne _) <| ob (A := (sIn s_ws ⟨#[k + 1]⟩ = false)) ((sIn_ws _).trans hw) <| ob (A := ((⟨#[k + 1]⟩ : Str) ≠ ⟨#[34]⟩)) (str1_ne h34) <| ob (A := ((⟨#[k + 1]⟩ : Str) ≠ ⟨#[92]⟩)) (str1_ne hk) <| ob (A := ((q.s 0++(⟨#[k + 1]⟩ : Str)).length ≤ sizeLine)) (g_len hq _) <| ob (A := (GP (q.s 1) (q.i 1 + 1 : Int) (q.s 0++Str.mk #[k + 1]) r)) (g_next hq _) <| fun he1 : GR (q.s 1) ((ρ.2 0).i 0 : Int) (q.s 0++Str.mk #[k + 1]) r tk rest ((ρ.2 1).i 0) ((ρ.2 1).i 1) ((ρ.2 1).s 0) => fin (S_g0 W (gtSt W.w [3]) 70 ((k + 1)::r) ((k + 1)::tk) rest) q (lt [] [(ρ.2 1).2 0,(ρ.2 1).2 1,(ρ.2 1).2 2] [(ρ.2 1).i 0,(ρ.2 1).i 1] [(ρ.2 1).s 0] [] [] []) (g_step he0 he1) :) ?_
  induction W using y_0 <;> kernel_rfl
theorem l0_esc (W : Wd) (O : (BB W).Ok) (k : Nat) (r tk rest : List Nat) (hz : Lx3 r tk rest) (q : Lt) (hq : (S_g0 W (gtSt W.w [3]) 70 (92 :: (k + 1) :: r) ((k + 1) :: tk) rest).P q) : At (S_g0 W (gtSt W.w [3]) 70 (92 :: (k + 1) :: r) ((k + 1) :: tk) rest) 70 q := by
  refine tri_f O (stdE _) [U (S_rcK W 91) (rcK_ok W O 91) on_rcK,U (S_rcK W k) (rcK_ok W O k) on_rcK,U (S_gl W (gtSt W.w [3,0,1,1,2]) 60 r tk rest) (l3_tri W O hz) on_gl] 2000 70 (hs := hx 114 0x28a28d08330030030c2cb2d20802cb2cb0000000000000002810c008100000004000004000004b0002c000b00008004100000100000004b2cb2cc3030c30c30c30c30ca0030c0003082004080080) (is := [0,0,0,0,0,0,0,0,0,0])
    (fun (ρ : Rho) => ob (g_ch hq) <| fun he0 : ((ρ.2 0).i 0) = (q.i 0) + nls [91 + 1] => ob (A := ((⟨#[]⟩ : Str) ≠ ⟨#[92]⟩)) (str0_ne _) <| ob (g_ch (g_skip hq)) <| fun he1 : ((ρ.2 1).i 0) = ((ρ.2 0).i 0 : Int) + nls [k + 1] => ob (A := ((q.s 0++(⟨#[k + 1]⟩ : Str)).length ≤ sizeLine)) (g_len (g_skip hq) _) <| ob (A := (GP (q.s 1) (q.i 1 + 1 + 1 : Int) (q.s 0++Str.mk #[k + 1]) r)) (g_next (g_skip hq) _) <| fun he2 : GR (q.s 1) ((ρ.2 1).i 0 : Int) (q.s 0++Str.mk #[k + 1]) r tk rest ((ρ.2 2).i 0) ((ρ.2 2).i 1) ((ρ.2 2).s 0) => fin (S_g0 W (gtSt W.w [3]) 70 (92::(k + 1)::r) ((k + 1)::tk) rest) q (lt [] [(ρ.2 2).2 0,(ρ.2 2).2 1,(ρ.2 2).2 2] [(ρ.2 2).i 0,(ρ.2 2).i 1] [(ρ.2 2).s 0] [] [] []) (g_lift he0 (g_step he1 he2)) :) ?_
  induction W using y_0 <;> kernel_rfl
theorem l1_tri (W : Wd) (O : (BB W).Ok) {l tk rest : List Nat} (z : Ly1 l tk rest) : (S_gl W (gtSt W.w [3]) 70 l tk rest).Ok := by
  induction z with
  | ws hw _ ih => exact fun q hq => l1_ws W O _ _ _ _ ih q hq hw
  | quo hz => exact fun q hq => l1_quo W O _ _ _ hz q hq
  | esc hz => exact fun q hq => l1_esc W O _ _ _ _ hz q hq
  | chr hw h34 hk hz => exact fun q hq => l1_chr W O _ _ _ _ hz q hq hw h34 hk
theorem l0_tri (W : Wd) (O : (BB W).Ok) {l tk rest : List Nat} (z : Ly1 l tk rest) : (S_g0 W (gtSt W.w [3]) 70 l tk rest).Ok := by
  cases z with
  | ws hw z => exact fun q hq => l0_ws W O _ _ _ _ (l1_tri W O z) q hq hw
  | quo hz => exact fun q hq => l0_quo W O _ _ _ hz q hq
  | esc hz => exact fun q hq => l0_esc W O _ _ _ _ hz q hq
  | chr hw h34 hk hz => exact fun q hq => l0_chr W O _ _ _ _ hz q hq hw h34 hk
noncomputable def S_ge (W : Wd) (l : List Nat) : Sp (BB W) :=
  let B := BB W
  { d := 70
    c := fun q => forC (gtSt W.w [3]) (q.a 1) (gtEnv W.w (q.a 0))
    P := fun q => GP (q.s 1) (q.i 1) (q.s 0) l
    pre := fun q => [((q.a 0),frameO [kv B s_self (q.t 0) (.ref (q.a 2)),kv B s_token (q.t 1) (.str (q.s 0) (q.t 2)),kv B s_fiter (q.t 3) (.ref (q.a 1)),kv B s_ch (q.t 4) (q.v 0)] 4),((q.a 1),fieldsO tCI [(.ref (q.a 3)),(.str ⟨#[]⟩ (q.t 5)),(.bool false)]),((q.a 3),methO (.ref 118) (.ref (q.a 2)))]++lxV W (q.a 2) (q.a 4) (q.t 6) (q.i 0) (q.t 7) (q.t 8) (q.a 5) (q.t 9) (q.t 10) (q.t 11) (q.a 6) (q.l 0) (q.t 12) (q.f 0) (q.a 7) (q.t 13) (q.a 8) (q.a 9) (q.a 10) (q.a 11) (q.a 12) (q.t 14) (q.v 1) (q.l 1) (q.s 1) (q.t 15) (q.a 13) (q.i 1) (q.t 16)
    R := fun q e => GR (q.s 1) (q.i 0) (q.s 0) l [] [] (e.i 0) (e.i 1) (q.s 0)
    res := fun q e => .ok .next
    out := fun q e => [((q.a 0),frameO [kv B s_self (q.t 0) (.ref (q.a 2)),kv B s_token (q.t 1) (.str (q.s 0) (q.t 2)),kv B s_fiter (q.t 3) (.ref (q.a 1)),kv B s_ch (q.t 4) (e.v 0)] 4)]++lxV W (q.a 2) (q.a 4) (q.t 6) (e.i 1) (e.t 0) (q.t 8) (q.a 5) (q.t 9) (q.t 10) (q.t 11) (q.a 6) (q.l 0) (q.t 12) (q.f 0) (q.a 7) (q.t 13) (q.a 8) (q.a 9) (q.a 10) (q.a 11) (q.a 12) (q.t 14) (q.v 1) (q.l 1) (q.s 1) (q.t 15) (q.a 13) (e.i 0) (e.t 1) }
noncomputable def on_ge : Code → View → Lt := fun c V => lt ([(cEnv c).locals,valA (cIt c),dA V 0 0,valA (nthV (sQ V 1) 0)]++xA V 3) ([kT V 0 0,kT V 0 1,dT V 0 1,kT V 0 2,kT V 0 3,qT V 1 1]++xT V 4) [dI V 4 0,qI V 12 0] [valS (dV V 0 1),valS (cellV (nthO V 10))] [dV V 0 3,nthV (sQ V 9) 0] [sQ V 5,dropV 2 (sQ V 9)] [fdO (nthO V 6)]
theorem g_fin {text : Str} {p n n' : Int} {tok : Str} (h : GP text p tok []) (he : n' = n) : GR text n tok [] [] [] (p + 1) n' tok := ⟨by have := h.1; lia, rem_nil h.1 h.2.1, app_nil tok, by lia⟩
theorem e1_fin (W : Wd) (O : (BB W).Ok) (q : Lt) (hq : (S_ge W []).P q) : At (S_ge W []) 70 q := by
  refine tri_f O (stdE _) [U (S_rcE W) (rcE_ok W O) on_rcE] 2000 70 (hs := hx 38 0x130c30c30c00d30c3030c30c30c30c30ca0030c0003082044080080) (is := [12,2,2,2,2,2,2,2,2,2,2])
    (fun (ρ : Rho) => ob (chS_nil hq.1 hq.2.1) <| fun he0 : ((ρ.2 0).i 0) = (q.i 0) => ob (A := ((⟨#[]⟩ : Str) = ⟨#[]⟩)) (rfl) <| fin (S_ge W []) q (lt [] [(ρ.2 0).2 0,(ρ.2 0).2 1] [q.i 1 + 1,(ρ.2 0).i 0] [] [q.5 0] [] []) (g_fin hq he0) :) ?_
  induction W using y_0 <;> kernel_rfl
theorem e1_ws (W : Wd) (O : (BB W).Ok) (k : Nat) (r : List Nat) (ih : (S_ge W r).Ok) (q : Lt) (hq : (S_ge W ((k + 1) :: r)).P q) (hw : isWs (k + 1) = true) : At (S_ge W ((k + 1) :: r)) 70 q := by
  refine tri_f O (stdE _) [U (S_rcK W k) (rcK_ok W O k) on_rcK,U (S_ge W r) ih on_ge] 2000 70 (hs := hx 63 0xa28a3410d008008004100000100000004b2cb2cc3030c30c30c30c30ca0030c0003082004080080) (is := [0,0,0,0,0,0,0,0,0,0,0])
    (fun (ρ : Rho) => ob (g_ch hq) <| fun he0 : ((ρ.2 0).i 0) = (q.i 0) + nls [k + 1] => ob (A := ((⟨#[]⟩ : Str) ≠ ⟨#[k + 1]⟩)) (str0_ne _) <| ob (A := (sIn s_ws ⟨#[k + 1]⟩ = true)) ((sIn_ws _).trans hw) <| ob (g_skip hq) <| fun he1 : GR (q.s 1) ((ρ.2 0).i 0 : Int) (q.s 0) r [] [] ((ρ.2 1).i 0) ((ρ.2 1).i 1) (q.s 0) => fin (S_ge W ((k + 1)::r)) q (lt [] [(ρ.2 1).2 0,(ρ.2 1).2 1] [(ρ.2 1).i 0,(ρ.2 1).i 1] [] [(ρ.2 1).5 0] [] []) (g_lift he0 he1) :) ?_
  induction W using y_0 <;> kernel_rfl
theorem ge_tri (W : Wd) (O : (BB W).Ok) {l : List Nat} (z : Le1 l) : (S_ge W l).Ok := by
  induction z with
  | fin => exact fun q hq => e1_fin W O q hq
  | ws hw _ ih => exact fun q hq => e1_ws W O _ _ ih q hq hw
noncomputable def S_gt (W : Wd) (l tk rest : List Nat) : Sp (BB W) :=
  let B := BB W
  { d := 80
    c := fun q => .call (.ref 125) ⟨[.ref (q.a 0)], []⟩
    P := fun q => GP (q.s 0) (q.i 1) ⟨#[]⟩ l
    pre := fun q => lxV W (q.a 0) (q.a 1) (q.t 0) (q.i 0) (q.t 1) (q.t 2) (q.a 2) (q.t 3) (q.t 4) (q.t 5) (q.a 3) [] (q.t 6) (q.f 0) (q.a 4) (q.t 7) (q.a 5) (q.a 6) (q.a 7) (q.a 8) (q.a 9) (q.t 8) (q.v 0) (q.l 0) (q.s 0) (q.t 9) (q.a 10) (q.i 1) (q.t 10)
    R := fun q e => GR (q.s 0) (q.i 0) ⟨#[]⟩ l tk rest (e.i 0) (e.i 1) (e.s 0)
    res := fun q e => .ok (.ret (.str (e.s 0) (e.t 2)))
    out := fun q e => lxV W (q.a 0) (q.a 1) (q.t 0) (e.i 1) (e.t 0) (q.t 2) (q.a 2) (q.t 3) (q.t 4) (q.t 5) (q.a 3) [] (q.t 6) (q.f 0) (q.a 4) (q.t 7) (q.a 5) (q.a 6) (q.a 7) (q.a 8) (q.a 9) (q.t 8) (q.v 0) (q.l 0) (q.s 0) (q.t 9) (q.a 10) (e.i 0) (e.t 1) }
noncomputable def on_gt : Code → View → Lt := fun c V => lt ([valA (nthV (cPos c) 0)]++xA V 0) ([]++xT V 1) [dI V 1 0,qI V 9 0] [valS (cellV (nthO V 7))] [nthV (sQ V 6) 0] [dropV 2 (sQ V 6)] [fdO (nthO V 3)]
theorem gt_word (W : Wd) (O : (BB W).Ok) (l tk rest : List Nat) (hz : Ly1 l tk rest) (q : Lt) (hq : (S_gt W l tk rest).P q) : At (S_gt W l tk rest) 80 q := by
  refine tri_f O (stdE _) [U (S_g0 W (gtSt W.w [3]) 70 l tk rest) (l0_tri W O hz) on_g0] 2000 80 (hs := hx 83 0x23400c10010010430c30400000000000030020800000000020000000810000411001001001040c0082000002000000081001040001) (is := [0,0,0,0,0,0,0,0,0,0])
    (fun (ρ : Rho) => ob hq <| fun he0 : GR (q.s 0) (q.i 0) (⟨#[]⟩) l tk rest ((ρ.2 0).i 0) ((ρ.2 0).i 1) ((ρ.2 0).s 0) => fin (S_gt W l tk rest) q (lt [] [(ρ.2 0).2 0,(ρ.2 0).2 1,(ρ.2 0).2 2] [(ρ.2 0).i 0,(ρ.2 0).i 1] [(ρ.2 0).s 0] [] [] []) (he0) :) ?_
  induction W using y_0 <;> kernel_rfl
theorem gt_end0 (W : Wd) (O : (BB W).Ok) (q : Lt) (hq : (S_gt W [] [] []).P q) : At (S_gt W [] [] []) 80 q := by
  refine tri_f O (stdE _) [U (S_rcE W) (rcE_ok W O) on_rcE] 2000 80 (hs := hx 106 0x3c004b2cb2cb2c030b2cb0c30c30c30c30c32800c20000810411010010010010010430c30400000000000030020800000000020000000810000411001001001040c0082000002000000081001040001) (is := [2,2,2,2,2,2,2,2,2,2])
    (fun (ρ : Rho) => ob (chS_nil hq.1 hq.2.1) <| fun he0 : ((ρ.2 0).i 0) = (q.i 0) => ob (A := ((⟨#[]⟩ : Str) = ⟨#[]⟩)) (rfl) <| fin (S_gt W [] [] []) q (lt [] [(ρ.2 0).2 0,(ρ.2 0).2 1,ρ.1 5] [q.i 1 + 1,(ρ.2 0).i 0] [⟨#[]⟩] [] [] []) (g_fin hq he0) :) ?_
  induction W using y_0 <;> kernel_rfl
theorem gt_end1 (W : Wd) (O : (BB W).Ok) (k : Nat) (r : List Nat) (hz : Le1 r) (q : Lt) (hq : (S_gt W ((k + 1) :: r) [] []).P q) (hw : isWs (k + 1) = true) : At (S_gt W ((k + 1) :: r) [] []) 80 q := by
  refine tri_f O (stdE _) [U (S_rcK W k) (rcK_ok W O k) on_rcK,U (S_ge W r) (ge_tri W O hz) on_ge] 2000 80 (hs := hx 131 0x100000000000000028a30d04340200200104000004000000134d34d2cb0c30c30c30c30c32800c20000810401010010010010010430c30400000000000030020800000000020000000810000411001001001040c0082000002000000081001040001) (is := [1,1,1,1,1,1,1,1,1,1])
    (fun (ρ : Rho) => ob (g_ch hq) <| fun he0 : ((ρ.2 0).i 0) = (q.i 0) + nls [k + 1] => ob (A := ((⟨#[]⟩ : Str) ≠ ⟨#[k + 1]⟩)) (str0_ne _) <| ob (A := (sIn s_ws ⟨#[k + 1]⟩ = true)) ((sIn_ws _).trans hw) <| ob (g_skip hq) <| fun he1 : GR (q.s 0) ((ρ.2 0).i 0 : Int) (⟨#[]⟩) r [] [] ((ρ.2 1).i 0) ((ρ.2 1).i 1) (⟨#[]⟩) => fin (S_gt W ((k + 1)::r) [] []) q (lt [] [(ρ.2 1).2 0,(ρ.2 1).2 1,ρ.1 5] [(ρ.2 1).i 0,(ρ.2 1).i 1] [⟨#[]⟩] [] [] []) (g_lift he0 he1) :) ?_
  induction W using y_0 <;> kernel_rfl
theorem gt_tri (W : Wd) (O : (BB W).Ok) {l tk rest : List Nat} (z : Lx1 l tk rest) : (S_gt W l tk rest).Ok := by
  rcases lx1_cases z with h | ⟨h, rfl, rfl⟩
  · exact fun q hq => gt_word W O _ _ _ h q hq
  · cases h with
    | fin => exact fun q hq => gt_end0 W O q hq
    | ws hw h => exact fun q hq => gt_end1 W O _ _ h q hq hw
end Mine
end
section
namespace Mine
open PySem PySem.Spec PySem.Calls PyProof.Rows PySem.W PySem.W.X
noncomputable def Bs.loosen (B : Bs) (T : Tab) (tabs' : List Tab) : Bs := { B with tabs := tabs', loose := [T.addr] }
noncomputable def codeVs : List (Int × Int × Str) → List Addr → (Nat → Tok) → (Nat → Value) → (Nat → List Value) → Nat → View
  | m :: ms, a :: as, t, v, r, i => (a, codeO m.2.2 (t i) (v i) (r i)) :: codeVs ms as t v r (i + 1)
  | _, _, _, _, _, _ => []
theorem notCode_table (xs : Array Value) : isCodeO (tableObj xs) = false := by
  unfold tableObj isCodeO
  first | rfl | (show Nat.beq (S.codeS _) codeN = false; rw [← S.code_S]; decide +kernel)
theorem codeVs_code : ∀ (ms : List (Int × Int × Str)) (as : List Addr) (t v r i), ∀ p ∈ codeVs ms as t v r i, isCodeO p.2 = true
  | [], _, _, _, _, _ => fun p h => by simp [codeVs] at h
  | _ :: _, [], _, _, _, _ => fun p h => by simp [codeVs] at h
  | m :: ms, a :: as, t, v, r, i => fun p h => by
    unfold codeVs at h
    rcases List.mem_cons.mp h with rfl | h
    · exact isCodeO_codeO ..
    · exact codeVs_code ms as t v r (i + 1) p h
theorem excl_code {V : View} (h : ∀ p ∈ V, isCodeO p.2 = true) : excl V = [] := by
  unfold excl
  rw [List.filter_eq_nil_iff.mpr (fun p hp => by rw [h p hp]; simp)]
  rfl
theorem codeVs_zip : ∀ (ms : List (Int × Int × Str)) (as : List Addr) (t v r i), ∀ p ∈ as.zip (ms.map (·.2.2)), ∃ tk vv rest, (p.1, codeO p.2 tk vv rest) ∈ codeVs ms as t v r i
  | [], as, _, _, _, _ => fun p h => by simp at h
  | _ :: _, [], _, _, _, _ => fun p h => by simp at h
  | m :: ms, a :: as, t, v, r, i => fun p h => by
    simp only [List.map_cons, List.zip_cons_cons] at h
    rcases List.mem_cons.mp h with rfl | h
    · exact ⟨_, _, _, by unfold codeVs; exact .head _⟩
    · obtain ⟨x, y, z, e⟩ := codeVs_zip ms as t v r (i + 1) p h
      exact ⟨x, y, z, by unfold codeVs; exact .tail _ e⟩
theorem codeVs_has {h : Heap} : ∀ (ms : List (Int × Int × Str)) (as : List Addr) (i : Nat), (∀ p ∈ as.zip (ms.map (·.2.2)), ∃ tk v rest, h.get? p.1 = some (codeO p.2 tk v rest)) →
    ∃ t v r, ∀ p ∈ codeVs ms as t v r i, h.get? p.1 = some p.2
  | [], _, _, _ => ⟨fun _ => 0, fun _ => .none, fun _ => [], fun p h => by simp [codeVs] at h⟩
  | _ :: _, [], _, _ => ⟨fun _ => 0, fun _ => .none, fun _ => [], fun p h => by simp [codeVs] at h⟩
  | m :: ms, a :: as, i, hh => by
    simp only [List.map_cons, List.zip_cons_cons] at hh
    obtain ⟨tk, v, rest, e⟩ := hh _ (.head _)
    obtain ⟨t1, v1, r1, ih⟩ := codeVs_has ms as (i + 1) (fun p hp => hh p (.tail _ hp))
    have cong : ∀ (ms : List (Int × Int × Str)) (as : List Addr) (j : Nat) (t v r) (t' v' r'), (∀ k, j ≤ k → t k = t' k ∧ v k = v' k ∧ r k = r' k) → codeVs ms as t v r j = codeVs ms as t' v' r' j := by
      intro ms
      induction ms with
      | nil => intros; simp [codeVs]
      | cons m ms ihm =>
        intro as j t v r t' v' r' hk
        cases as with
        | nil => simp [codeVs]
        | cons a as =>
          unfold codeVs
          obtain ⟨e1, e2, e3⟩ := hk j (Nat.le_refl _)
          rw [e1, e2, e3, ihm as (j + 1) t v r t' v' r' (fun k hk' => hk k (by lia))]
    refine ⟨fun k => if k = i then tk else t1 k, fun k => if k = i then v else v1 k, fun k => if k = i then rest else r1 k, fun p hp => ?_⟩
    unfold codeVs at hp
    rcases List.mem_cons.mp hp with rfl | hp
    · simp only [if_true]; exact e
    · rw [cong ms as (i + 1) _ _ _ t1 v1 r1 (fun k hk => by
        have : ¬ k = i := by lia
        simp only [if_neg this, true_and])] at hp
      exact ih p hp
theorem Rep.loosen {B : Bs} {T : Tab} {tabs' : List Tab} {pre : View} {s : Shared} (hl : B.loose = []) (hm : ∀ t, t ∈ B.tabs ↔ t = T ∨ t ∈ tabs') (hne : ∀ t ∈ tabs', t.addr ≠ T.addr) (D : Rep B pre s)
    {as : List Addr} {t v r} (e : s.heap.get? T.addr = some (tableObj ⟨tabVals T.marks as⟩)) (hc : ∀ p ∈ codeVs T.marks as t v r 0, s.heap.get? p.1 = some p.2) :
    Rep (B.loosen T tabs') ((T.addr, tableObj ⟨tabVals T.marks as⟩) :: (codeVs T.marks as t v r 0 ++ pre)) s := by
  have ex : excl ((T.addr, tableObj ⟨tabVals T.marks as⟩) :: (codeVs T.marks as t v r 0 ++ pre)) = T.addr :: excl pre := by
    rw [excl_cons, if_neg (by rw [notCode_table]; simp), excl_append, excl_code (codeVs_code _ _ _ _ _ _)]
    rfl
  have priv : ∀ a ∈ excl pre, a ≠ T.addr := fun a ha h => (D.own a ha).2 ⟨T, (hm T).mpr (.inl rfl), h⟩
  refine ⟨⟨D.good.g, D.good.d, D.good.os, fun b o h1 h2 h3 => ?_, fun b hb => ?_, fun t ht => D.good.tabs t ((hm t).mpr (.inr ht))⟩, ?_, ?_, ?_⟩
  · refine D.good.kept b o h1 (by rw [hl]; simp) (fun t ht => ?_)
    rcases (hm t).mp ht with rfl | ht
    · exact fun h => h2 (by show b ∈ [_]; rw [h]; simp)
    · exact h3 t ht
  · have hb : b ∈ [T.addr] := hb
    have : b = T.addr := by simpa using hb
    subst this
    exact ⟨_, e⟩
  · intro p hp
    rcases List.mem_cons.mp hp with rfl | hp
    · exact e
    · rcases List.mem_append.mp hp with hp | hp
      · exact hc p hp
      · exact D.has p hp
  · rw [ex, List.nodup_cons]
    exact ⟨fun h => priv _ h rfl, D.nd⟩
  · intro a ha
    rw [ex] at ha
    rcases List.mem_cons.mp ha with rfl | ha
    · exact ⟨.inr (by show _ ∈ [T.addr]; simp), fun ⟨t, ht, h⟩ => hne t ht h.symm⟩
    · obtain ⟨h1, h2⟩ := D.own a ha
      refine ⟨?_, fun ⟨t, ht, h⟩ => h2 ⟨t, (hm t).mpr (.inr ht), h⟩⟩
      rcases h1 with h1 | h1
      · exact .inl h1
      · rw [hl] at h1; simp at h1
theorem Rep.tighten {B : Bs} {T : Tab} {tabs' : List Tab} {V1 : View} {s : Shared} (hl : B.loose = []) (hm : ∀ t, t ∈ B.tabs ↔ t = T ∨ t ∈ tabs')
    {as : List Addr} {t v r} {cs : View} (hlen : as = [] ∨ as.length = T.marks.length) (hcs : ∀ p ∈ codeVs T.marks as t v r 0, p ∈ cs)
    (D : Rep (B.loosen T tabs') ((T.addr, tableObj ⟨tabVals T.marks as⟩) :: (cs ++ V1)) s) : Rep B V1 s := by
  have nd := D.nd
  rw [excl_cons, if_neg (by rw [notCode_table]; simp), excl_append, List.nodup_cons, List.nodup_append] at nd
  have hE : ∀ a ∈ excl V1, a ≠ T.addr := fun a ha h => nd.1 (by rw [← h]; exact List.mem_append_right _ ha)
  have hin : ∀ p ∈ V1, p ∈ ((T.addr, tableObj ⟨tabVals T.marks as⟩) :: (cs ++ V1) : View) := fun p hp => .tail _ (List.mem_append_right _ hp)
  have eT : s.heap.get? T.addr = some (tableObj ⟨tabVals T.marks as⟩) := D.has _ (.head _)
  refine ⟨⟨D.good.g, D.good.d, D.good.os, fun b o h1 _ h3 => ?_, fun b hb => ?_, fun t' ht => ?_⟩, fun p hp => D.has p (hin p hp), nd.2.2.1, fun a ha => ?_⟩
  · exact D.good.kept b o h1 (by show b ∉ [T.addr]; simp; exact h3 T ((hm T).mpr (.inl rfl))) (fun t ht => h3 t ((hm t).mpr (.inr ht)))
  · rw [hl] at hb; simp at hb
  · rcases (hm t').mp ht with rfl | ht
    · refine ⟨as, hlen, eT, fun p hp => ?_⟩
      obtain ⟨tk, vv, rest, hmem⟩ := codeVs_zip t'.marks as t v r 0 p hp
      exact ⟨tk, vv, rest, D.has _ (.tail _ (List.mem_append_left _ (hcs _ hmem)))⟩
    · exact D.good.tabs t' ht
  · obtain ⟨h1, h2⟩ := D.own a (by rw [excl_cons, if_neg (by rw [notCode_table]; simp), excl_append]; exact .tail _ (List.mem_append_right _ ha))
    refine ⟨?_, fun ⟨t', ht, h⟩ => ?_⟩
    · rcases h1 with h1 | h1
      · exact .inl h1
      · have : a = T.addr := by simpa [Bs.loosen] using h1
        exact absurd this (hE a ha)
    · rcases (hm t').mp ht with rfl | ht
      · exact hE a ha h
      · exact h2 ⟨t', ht, h⟩
theorem tri_loose {B : Bs} {T : Tab} {tabs' : List Tab} (hl : B.loose = []) (hm : ∀ t, t ∈ B.tabs ↔ t = T ∨ t ∈ tabs') (hne : ∀ t ∈ tabs', t.addr ≠ T.addr) {d : Nat} {c : Code} {pre : View} {post : Result → View → Prop}
    (h : ∀ as t v r, (as = [] ∨ as.length = T.marks.length) → Tri (B.loosen T tabs') d c ((T.addr, tableObj ⟨tabVals T.marks as⟩) :: (codeVs T.marks as t v r 0 ++ pre))
      (fun res V => ∃ as' t' v' r' cs V0 V1, (as' = [] ∨ as'.length = T.marks.length) ∧ (∀ p ∈ codeVs T.marks as' t' v' r' 0, p ∈ cs) ∧ V = (T.addr, tableObj ⟨tabVals T.marks as'⟩) :: (cs ++ V0) ∧ (∀ p ∈ V1, p ∈ cs ++ V0) ∧ excl V1 = excl V0 ∧ post res V1)) :
    Tri B d c pre post := fun A s R D => by
  obtain ⟨as, hlen, e, hcd⟩ := D.good.tabs T ((hm T).mpr (.inl rfl))
  obtain ⟨t, v, r, hc⟩ := codeVs_has T.marks as 0 hcd
  have D' := D.loosen hl hm hne e hc
  refine codeAny_mono (h as t v r hlen A s R D') ?_
  rintro res s' ⟨V, ⟨as', t', v', r', cs, V0, V1, hl', hcs, rfl, hsub, hex, hp⟩, D1, x1⟩
  have D0 := D1.tighten hl hm hl' hcs
  have D2 : Rep B V1 s' := ⟨D0.good, fun p hp => D1.has p (.tail _ (hsub p hp)), by rw [hex]; exact D0.nd, fun a ha => D0.own a (by rw [← hex]; exact ha)⟩
  have ex : excl ((T.addr, tableObj ⟨tabVals T.marks as⟩) :: (codeVs T.marks as t v r 0 ++ pre)) = T.addr :: excl pre := by
    rw [excl_cons, if_neg (by rw [notCode_table]; simp), excl_append, excl_code (codeVs_code _ _ _ _ _ _)]
    rfl
  refine ⟨V1, hp, D2, fun a o e hn hp' => x1.same a o e ?_ ?_, fun a ha => ?_, x1.there⟩
  · rw [ex]
    intro hh
    rcases List.mem_cons.mp hh with rfl | hh
    · exact hp' ⟨T, (hm T).mpr (.inl rfl), rfl⟩
    · exact hn hh
  · exact fun ⟨t, ht, h⟩ => hp' ⟨t, (hm t).mpr (.inr ht), h⟩
  · have := x1.new a (by rw [excl_cons, if_neg (by rw [notCode_table]; simp), excl_append]; exact .tail _ (List.mem_append_right _ (by rw [← hex]; exact ha)))
    rw [ex] at this
    rcases this with h | h
    · rcases List.mem_cons.mp h with rfl | h
      · exact ((D2.own _ ha).2 ⟨T, (hm T).mpr (.inl rfl), rfl⟩).elim
      · exact .inl h
    · exact .inr h
end Mine
end
section

namespace Mine
open PySem PySem.Spec PySem.Calls PyProof.Rows PySem.W PySem.W.X PySem.Builtin.Str
noncomputable def tS : Tab := ⟨141, [(134, 4, s_readq), (137, 13, s_lamq)]⟩
noncomputable def tI : Tab := ⟨71, [(42, 4, ⟨#[95, 105, 110, 116, 50, 100, 105, 103, 105, 116, 115, 46, 60, 108, 111, 99, 97, 108, 115, 62, 46, 105, 110, 110, 101, 114]⟩)]⟩
noncomputable def tD : Tab := ⟨78, [(57, 4, ⟨#[95, 100, 105, 103, 105, 116, 115, 50, 105, 110, 116, 46, 60, 108, 111, 99, 97, 108, 115, 62, 46, 105, 110, 110, 101, 114]⟩)]⟩
noncomputable def BS (W : Wd) : Bs := (BB W).loosen tS [tI, tD]
noncomputable def BI (W : Wd) : Bs := (BB W).loosen tI [tS, tD]
noncomputable def BD (W : Wd) : Bs := (BB W).loosen tD [tS, tI]
theorem Ok_loosen {B : Bs} (O : B.Ok) {T : Tab} {tabs' : List Tab} (h1 : cStatics ≠ T.addr) (h2 : ∀ t ∈ tabs', cStatics ≠ t.addr) : (B.loosen T tabs').Ok := ⟨O.kt, O.b1, O.b2, O.lim, by show cStatics ∉ [T.addr]; simp [h1], h2⟩
noncomputable def lamFd (w : World) (co : Addr) : FuncData := match exOf (nthS (stmtsOf (fdAt w 146)) 2) with
  | .Lambda args body scope _ => { name := ⟨#[60, 108, 97, 109, 98, 100, 97, 62]⟩, qualname := s_lamq, params := args, body := .expr body, scope, globals := 3, closure := [], defaults := .none, kwdefaults := .none, doc := .none, pyModule := (fdAt w 146).pyModule, annotations := none, code := .ref co, closureTuple := .none, builtins := 0 }
  | _ => default
noncomputable def S_ls0 (W : Wd) : Sp (BS W) :=
  let B := BS W
  { d := 40
    c := fun q => .call (.ref 146) ⟨[.str (q.s 0) (q.t 0)], []⟩
    P := fun q => True
    pre := fun q => [(141,tableObj ⟨tabVals tS.marks []⟩)]
    R := fun q e => True
    res := fun q e => .ok (.ret (.ref (e.a 2)))
    out := fun q e => [(141,tableObj ⟨tabVals tS.marks [(e.a 0),(e.a 1)]⟩),((e.a 0),codeZ s_readq (e.t 0) (e.v 0) (e.l 0)),((e.a 1),codeZ s_lamq (e.t 1) (e.v 1) (e.l 1)),((e.a 2),funcO (e.f 0) (some (e.a 3))),((e.a 3),dictO [kv B s_read (e.t 2) (.ref (e.a 4))] 1),((e.a 4),funcO (readFd W.w (e.a 5) (e.a 6) (e.a 7) (e.a 0)) none),((e.a 5),cellO (.str (q.s 0) (q.t 0))),((e.a 6),cellO (.ref (e.a 8))),((e.a 8),listO [(.int 0 (e.t 3))] 0)] }
theorem ls0_run (W : Wd) (O : (BS W).Ok) (q : Lt) : Tri (BS W) 40 ((S_ls0 W).c q) ((S_ls0 W).pre q) ((S_ls0 W).post q) := by
  refine tri_f O (stdE _) [] 2000 40 (hs := hx 42 0x5010410810410010014d34d30000134d334030c00000c30c180082002080001) (is := [20,9,2,1,0,5,13,12,11])
    (fun (ρ : Rho) => fin (S_ls0 W) q (lt [ρ.1 19,ρ.1 32,ρ.1 33,ρ.1 36,ρ.1 20,ρ.1 1,ρ.1 2,ρ.1 5,ρ.1 4] [ρ.1 7,ρ.1 23,ρ.1 37,ρ.1 3] [] [] [(.str (⟨#[114,101,97,100]⟩) (ρ.1 6)),(.str (⟨#[60,108,97,109,98,100,97,62]⟩) (ρ.1 22))] [[(.str (⟨#[47,99,108,97,105,109,47,99,117,116,46,112,121]⟩) (ρ.1 8)),(.int (134) (0)),(.int (1) (0)),(.int (0) (0)),(.int (0) (0)),(.int (19) (0)),(.ref (ρ.1 11)),(.bool true),(.int (276) (0)),(.ref (ρ.1 12)),.none,(.ref (ρ.1 14)),(.ref (ρ.1 15)),(.ref (ρ.1 16)),(.int (↑(ρ.n 17)) (0)),(.int (134) (0)),(.str (⟨#[47,99,108,97,105,109,47,99,117,116,46,112,121]⟩) (ρ.1 18))],[(.str (⟨#[47,99,108,97,105,109,47,99,117,116,46,112,121]⟩) (ρ.1 24)),(.int (137) (0)),(.int (0) (0)),(.int (0) (0)),(.int (0) (0)),(.int (19) (0)),(.ref (ρ.1 25)),(.bool true),(.int (276) (0)),(.ref (ρ.1 26)),.none,(.ref (ρ.1 27)),(.ref (ρ.1 28)),(.ref (ρ.1 29)),(.int (↑(ρ.n 30)) (0)),(.int (137) (0)),(.str (⟨#[47,99,108,97,105,109,47,99,117,116,46,112,121]⟩) (ρ.1 31))]] [lamFd W.w (ρ.1 32)]) (trivial) :) ?_
  induction W using y_0 <;> kernel_rfl
noncomputable def S_ls1 (W : Wd) : Sp (BS W) :=
  let B := BS W
  { d := 40
    c := fun q => .call (.ref 146) ⟨[.str (q.s 0) (q.t 0)], []⟩
    P := fun q => True
    pre := fun q => [(141,tableObj ⟨tabVals tS.marks [(q.a 0),(q.a 1)]⟩),((q.a 0),codeZ s_readq (q.t 1) (q.v 0) (q.l 0)),((q.a 1),codeZ s_lamq (q.t 2) (q.v 1) (q.l 1))]
    R := fun q e => True
    res := fun q e => .ok (.ret (.ref (e.a 0)))
    out := fun q e => [(141,tableObj ⟨tabVals tS.marks [(q.a 0),(q.a 1)]⟩),((q.a 0),codeZ s_readq (q.t 1) (q.v 0) (q.l 0)),((q.a 1),codeZ s_lamq (q.t 2) (q.v 1) (q.l 1)),((e.a 0),funcO (e.f 0) (some (e.a 1))),((e.a 1),dictO [kv B s_read (e.t 0) (.ref (e.a 2))] 1),((e.a 2),funcO (readFd W.w (e.a 3) (e.a 4) (e.a 5) (q.a 0)) none),((e.a 3),cellO (.str (q.s 0) (q.t 0))),((e.a 4),cellO (.ref (e.a 6))),((e.a 6),listO [(.int 0 (e.t 1))] 0)] }
theorem ls1_run (W : Wd) (O : (BS W).Ok) (q : Lt) : Tri (BS W) 40 ((S_ls1 W).c q) ((S_ls1 W).pre q) ((S_ls1 W).post q) := by
  refine tri_f O (stdE _) [] 2000 40 (hs := hx 36 0x2010410810410010011c71c7000007006180000180082002080001) (is := [8,8,8,1,0,0,3,2,1])
    (fun (ρ : Rho) => fin (S_ls1 W) q (lt [ρ.1 8,ρ.1 11,ρ.1 6,ρ.1 1,ρ.1 2,ρ.1 5,ρ.1 4] [ρ.1 12,ρ.1 3] [] [] [] [] [lamFd W.w (q.a 1)]) (trivial) :) ?_
  induction W using y_0 <;> kernel_rfl
noncomputable def S_ls (W : Wd) : Sp (BB W) :=
  let B := BB W
  { d := 40
    c := fun q => .call (.ref 146) ⟨[.str (q.s 0) (q.t 0)], []⟩
    P := fun q => True
    pre := fun q => []
    R := fun q e => True
    res := fun q e => .ok (.ret (.ref (e.a 0)))
    out := fun q e => [((e.a 0),funcO (e.f 0) (some (e.a 1))),((e.a 1),dictO [kv B s_read (e.t 0) (.ref (e.a 2))] 1),((e.a 2),funcO (readFd W.w (e.a 3) (e.a 4) (e.a 5) (e.a 6)) none),((e.a 6),codeZ s_readq (e.t 1) (e.v 0) (e.l 0)),((e.a 3),cellO (.str (q.s 0) (q.t 0))),((e.a 4),cellO (.ref (e.a 7))),((e.a 7),listO [(.int 0 (e.t 2))] 0)] }
noncomputable def on_ls : Code → View → Lt := fun c V => lt [] [valT (nthV (cPos c) 0)] [] [valS (nthV (cPos c) 0)] [] [] []
theorem ls_ok (W : Wd) (O : (BB W).Ok) : (S_ls W).Ok := fun q hq => by
  refine tri_loose (B := BB W) (T := tS) (tabs' := [tI, tD]) rfl (fun t => by show t ∈ [tS, tI, tD] ↔ _; simp) (by intro t ht; simp only [List.mem_cons, List.not_mem_nil, or_false] at ht; rcases ht with rfl | rfl <;> decide) ?_
  intro as t v r hlen
  have OS : (BS W).Ok := Ok_loosen O (by decide) (by intro t ht; simp only [List.mem_cons, List.not_mem_nil, or_false] at ht; rcases ht with rfl | rfl <;> decide)
  rcases hlen with rfl | hlen
  · let q0 : Lt := lt [] [q.t 0] [] [q.s 0] [] [] []
    exact (ls0_run W OS q0).mono (Nat.le_refl _) (fun res V hV => by
      obtain ⟨e, _, hr, rfl⟩ := hV
      exact ⟨[(e.a 0), (e.a 1)], (li 0 [(e.t 0), (e.t 1)]), (li .none [(e.v 0), (e.v 1)]), (li [] [(e.l 0), (e.l 1)]), [((e.a 0), codeZ s_readq (e.t 0) (e.v 0) (e.l 0)), ((e.a 1), codeZ s_lamq (e.t 1) (e.v 1) (e.l 1))], [((e.a 2), funcO (e.f 0) (some (e.a 3))), ((e.a 3), dictO [kv (BB W) s_read (e.t 2) (.ref (e.a 4))] 1), ((e.a 4), funcO (readFd W.w (e.a 5) (e.a 6) (e.a 7) (e.a 0)) none), ((e.a 5), cellO (.str (q0.s 0) (q0.t 0))), ((e.a 6), cellO (.ref (e.a 8))), ((e.a 8), listO [(.int 0 (e.t 3))] 0)], [((e.a 2), funcO (e.f 0) (some (e.a 3))), ((e.a 3), dictO [kv (BB W) s_read (e.t 2) (.ref (e.a 4))] 1), ((e.a 4), funcO (readFd W.w (e.a 5) (e.a 6) (e.a 7) (e.a 0)) none), ((e.a 0), codeZ s_readq (e.t 0) (e.v 0) (e.l 0)), ((e.a 5), cellO (.str (q0.s 0) (q0.t 0))), ((e.a 6), cellO (.ref (e.a 8))), ((e.a 8), listO [(.int 0 (e.t 3))] 0)], .inr rfl,
        fun p hp => hp, rfl, fun p hp => by simp only [List.mem_cons, List.mem_append, List.not_mem_nil, or_false] at hp ⊢; rcases hp with h | h | h | h | h | h | h <;> subst h <;> simp, rfl, lt [e.a 2, e.a 3, e.a 4, e.a 5, e.a 6, e.a 7, e.a 0, e.a 8] [e.t 2, e.t 0, e.t 3] [] [] [e.v 0] [e.l 0] [e.f 0], trivial, hr, rfl⟩)
  · match as, hlen with
    | [x, y], _ =>
    let q0 : Lt := lt [x, y] [q.t 0, t 0, t 1] [] [q.s 0] [v 0, v 1] [r 0, r 1] []
    exact (ls1_run W OS q0).mono (Nat.le_refl _) (fun res V hV => by
      obtain ⟨e, _, hr, rfl⟩ := hV
      exact ⟨[(q0.a 0), (q0.a 1)], (li 0 [(q0.t 1), (q0.t 2)]), (li .none [(q0.v 0), (q0.v 1)]), (li [] [(q0.l 0), (q0.l 1)]), [((q0.a 0), codeZ s_readq (q0.t 1) (q0.v 0) (q0.l 0)), ((q0.a 1), codeZ s_lamq (q0.t 2) (q0.v 1) (q0.l 1))], [((e.a 0), funcO (e.f 0) (some (e.a 1))), ((e.a 1), dictO [kv (BB W) s_read (e.t 0) (.ref (e.a 2))] 1), ((e.a 2), funcO (readFd W.w (e.a 3) (e.a 4) (e.a 5) (q0.a 0)) none), ((e.a 3), cellO (.str (q0.s 0) (q0.t 0))), ((e.a 4), cellO (.ref (e.a 6))), ((e.a 6), listO [(.int 0 (e.t 1))] 0)], [((e.a 0), funcO (e.f 0) (some (e.a 1))), ((e.a 1), dictO [kv (BB W) s_read (e.t 0) (.ref (e.a 2))] 1), ((e.a 2), funcO (readFd W.w (e.a 3) (e.a 4) (e.a 5) (q0.a 0)) none), ((q0.a 0), codeZ s_readq (q0.t 1) (q0.v 0) (q0.l 0)), ((e.a 3), cellO (.str (q0.s 0) (q0.t 0))), ((e.a 4), cellO (.ref (e.a 6))), ((e.a 6), listO [(.int 0 (e.t 1))] 0)], .inr rfl,
        fun p hp => hp, rfl, fun p hp => by simp only [List.mem_cons, List.mem_append, List.not_mem_nil, or_false] at hp ⊢; rcases hp with h | h | h | h | h | h | h <;> subst h <;> simp, rfl, lt [e.a 0, e.a 1, e.a 2, e.a 3, e.a 4, e.a 5, q0.a 0, e.a 6] [e.t 0, q0.t 1, e.t 1] [] [] [q0.v 0] [q0.l 0] [e.f 0], trivial, hr, rfl⟩)
end Mine
end
section

namespace Mine
open PySem PySem.Spec PySem.Calls PyProof.Rows PySem.W PySem.W.X PySem.Builtin.Str
noncomputable def S_nl (W : Wd) : Sp (BB W) :=
  let B := BB W
  let pr := fun q : Lt => [((q.a 0),funcO (q.f 0) (some (q.a 1))),((q.a 1),dictO [kv B s_read (q.t 0) (.ref (q.a 2))] 1),((q.a 2),funcO (readFd W.w (q.a 3) (q.a 4) (q.a 5) (q.a 6)) none),((q.a 6),codeZ s_readq (q.t 1) (q.v 0) (q.l 0)),((q.a 3),cellO (.str (q.s 0) (q.t 2))),((q.a 4),cellO (.ref (q.a 7))),((q.a 7),listO [(.int (q.i 0) (q.t 3))] 0)]
  { d := 40
    c := fun q => .call (.ref 135) ⟨[.ref (q.a 0)], []⟩
    P := fun q => True
    pre := pr
    R := fun q e => True
    res := fun q e => .ok (.ret (.ref (e.a 0)))
    out := fun q e => [((e.a 0),instO 135 (e.a 1)),((e.a 1),dictO [kv B s_lineno (e.t 0) (.int 1 (e.t 1)),kv B s_instream (e.t 2) (.ref (q.a 0)),kv B s_whitespace (e.t 3) (.str s_ws (e.t 4)),kv B s_pushback (e.t 5) (.ref (e.a 2))] 4),((e.a 2),listO [] (e.t 6))]++(pr q).drop 0 }
noncomputable def on_nl : Code → View → Lt := fun c V => lt [valA (nthV (cPos c) 0),oD V 0,dA V 1 0,fC V 2 0,fC V 2 1,fdTup (fdO (nthO V 2)),fdCode (fdO (nthO V 2)),cA V 5] [kT V 1 0,qT V 3 1,cT V 4,qT V 6 0] [qI V 6 0] [valS (cellV (nthO V 4))] [nthV (sQ V 3) 0] [dropV 2 (sQ V 3)] [fdO (nthO V 0)]
theorem nl_run (W : Wd) (O : (BB W).Ok) (q : Lt) : At (S_nl W) 40 q := by
  refine tri_f O (stdE _) [] 2000 40 (hs := hx 127 0x41040030000030030000c00000030830c30020000020020000800000020430c30020000020020000800000020410c30c0080000080080002000000081001041040001000000040040000000000000000000000000000000000000000000000) (is := [2,2,0,1,1,1,1,1,1,1])
    (fun (ρ : Rho) => fin (S_nl W) q (lt [ρ.1 1,ρ.1 0,ρ.1 13] [ρ.1 7,ρ.1 5,ρ.1 9,ρ.1 12,ρ.1 10,ρ.1 15,0] [] [] [] [] []) (trivial) :) ?_
  induction W using y_0 <;> kernel_rfl
theorem nl_ok (W : Wd) (O : (BB W).Ok) : (S_nl W).Ok := fun q hq => nl_run W O q
end Mine
end
section
namespace Mine
open PySem PySem.Spec PySem.Calls PyProof.Rows PySem.W PySem.W.X PySem.Builtin.Re
open PySem.Sre (M)
noncomputable def code1 : Array Nat := #[14, 4, 0, 1, 1, 6, 1, 16, 46, 1]
noncomputable def code2 : Array Nat := #[14, 9, 4, 1, 2, 16, 10, 16, 13, 0, 7, 7, 16, 13, 16, 10, 15, 18, 5, 16, 10, 15, 13, 11, 16, 13, 5, 5, 0, 16, 10, 1, 15, 2, 0, 1]
theorem runFor_zero (m : M) : m.runFor 0 = m := rfl
theorem runFor_succ (n : Nat) (m : M) : m.runFor (n + 1) = if m.outcome.isSome then m else m.step.runFor n := rfl
theorem runFor_done {m : M} (h : m.outcome.isSome = true) : ∀ n, m.runFor n = m
  | 0 => rfl
  | n + 1 => by rw [runFor_succ, if_pos h]
theorem runFor_add : ∀ (a b : Nat) (m : M), m.runFor (a + b) = (m.runFor a).runFor b
  | 0, b, m => by rw [Nat.zero_add]; rfl
  | a + 1, b, m => by
    rw [Nat.succ_add, runFor_succ, runFor_succ]
    split
    · rename_i h; rw [runFor_done h]
    · exact runFor_add a b _
noncomputable def at1 (text : Array Nat) (L s : Nat) (seen : Sre.Seen) (first : Bool) : M :=
  { code := code1, text, lim := L, start := s, lastStart := L, pc := 5, pos := s, handed := s, outermost := first, marks := #[], frames := [{ wait := .nextStart, pc := 5, pos := s, outermost := first }], weight := 1, seen }
noncomputable def bol (text : Array Nat) (s : Nat) : Bool := s == 0 || text.getD (s - 1) 0 == 10
noncomputable def sn1 (seen : Sre.Seen) : Sre.Seen := (seen.add 6).add 44
theorem at1_step (text : Array Nat) (L s : Nat) (seen : Sre.Seen) (first : Bool) : (at1 text L s seen first).step =
    if bol text s = true then { at1 text L s (sn1 seen) first with pc := 7 } else (at1 text L s (sn1 seen) first).say false := by
  rfl
theorem lit1_step (text : Array Nat) (L s : Nat) (seen : Sre.Seen) (first : Bool) : ({ at1 text L s seen first with pc := 7 } : M).step =
    if s ≥ L then ({ at1 text L s (seen.add 16) first with pc := 7 } : M).say false else
    match (text.getD s 0 == 46) with
    | false => ({ at1 text L s (seen.add 16) first with pc := 7 } : M).say false
    | true => { at1 text L s (seen.add 16) first with pc := 9, pos := s + 1 } := by
  cases h : (text.getD s 0 == 46) with
  | false =>
    show (if s ≥ L then _ else match Sre.accepts code1 7 (text.getD s 0) (seen.add 16) with | .error why => _ | .ok (false, seen) => _ | .ok (true, seen) => _) = _
    have e : Sre.accepts code1 7 (text.getD s 0) (seen.add 16) = .ok (false, seen.add 16) := by
      show Except.ok (text.getD s 0 == 46, seen.add 16) = _
      rw [h]
    rw [e]
    rfl
  | true =>
    show (if s ≥ L then _ else match Sre.accepts code1 7 (text.getD s 0) (seen.add 16) with | .error why => _ | .ok (false, seen) => _ | .ok (true, seen) => _) = _
    have e : Sre.accepts code1 7 (text.getD s 0) (seen.add 16) = .ok (true, seen.add 16) := by
      show Except.ok (text.getD s 0 == 46, seen.add 16) = _
      rw [h]
    rw [e]
    rfl
theorem suc1_step (text : Array Nat) (L s : Nat) (seen : Sre.Seen) (first : Bool) : ({ at1 text L s seen first with pc := 9, pos := s + 1 } : M).step =
    ({ at1 text L s (seen.add 1) first with pc := 9, pos := s + 1, handed := s + 1 } : M).say true := by
  cases first <;> rfl
theorem no1_step (text : Array Nat) (L s : Nat) (seen : Sre.Seen) (first : Bool) (pc : Nat) : (({ at1 text L s seen first with pc } : M).say false).step =
    if s < L then at1 text L (s + 1) seen false else { at1 text L s seen first with frames := [], weight := 0, answer := some false } := by
  show (if s < L then _ else _) = _
  split
  · rfl
  · rfl
theorem yes1_end (text : Array Nat) (L s : Nat) (seen : Sre.Seen) (first : Bool) (pc pos h : Nat) :
    ((({ at1 text L s seen first with pc, pos, handed := h } : M).say true).runFor 2).outcome = some .matched ∧ ((({ at1 text L s seen first with pc, pos, handed := h } : M).say true).runFor 2).start = s ∧
    ((({ at1 text L s seen first with pc, pos, handed := h } : M).say true).runFor 2).handed = h := ⟨rfl, rfl, rfl⟩
noncomputable def hit1 (text : Array Nat) (L s : Nat) : Bool := bol text s && (decide (s < L) && text.getD s 0 == 46)
theorem run1 (n : Nat) (m : M) (h : m.outcome.isSome = false) : m.runFor (n + 1) = m.step.runFor n := by rw [runFor_succ, if_neg (by rw [h]; simp)]
theorem at1_hit {text : Array Nat} {L s : Nat} {seen : Sre.Seen} {first : Bool} (h : hit1 text L s = true) : ∃ n, n ≤ 8 ∧ ((at1 text L s seen first).runFor n).outcome = some .matched ∧ ((at1 text L s seen first).runFor n).start = s ∧ ((at1 text L s seen first).runFor n).handed = s + 1 := by
  unfold hit1 at h
  simp only [Bool.and_eq_true, decide_eq_true_eq] at h
  obtain ⟨h1, h2, h3⟩ := h
  refine ⟨5, by lia, ?_⟩
  rw [run1 _ _ rfl, at1_step, if_pos h1, run1 _ _ rfl, lit1_step, if_neg (by lia), h3]
  dsimp only
  rw [run1 _ _ rfl, suc1_step]
  exact yes1_end ..
theorem at1_miss {text : Array Nat} {L s : Nat} {seen : Sre.Seen} {first : Bool} (h : hit1 text L s = false) : ∃ n seen', n ≤ 8 ∧ (at1 text L s seen first).runFor n = if s < L then at1 text L (s + 1) seen' false else { at1 text L s seen' first with frames := [], weight := 0, answer := some false } := by
  cases h1 : bol text s with
  | false =>
    refine ⟨2, sn1 seen, by lia, ?_⟩
    rw [run1 _ _ rfl, at1_step, if_neg (by rw [h1]; simp), run1 _ _ rfl]
    exact (congrArg (M.runFor 0) (no1_step text L s (sn1 seen) first 5)).trans (by rw [runFor_zero])
  | true =>
    refine ⟨3, (sn1 seen).add 16, by lia, ?_⟩
    rw [run1 _ _ rfl, at1_step, if_pos h1, run1 _ _ rfl, lit1_step]
    unfold hit1 at h
    rw [h1, Bool.true_and] at h
    by_cases hl : s ≥ L
    · rw [if_pos hl, run1 _ _ rfl]
      exact (congrArg (M.runFor 0) (no1_step text L s _ first 7)).trans (by rw [runFor_zero])
    · have h3 : (text.getD s 0 == 46) = false := by
        rw [decide_eq_true (show s < L by lia), Bool.true_and] at h
        exact h
      rw [if_neg hl, h3]
      dsimp only
      rw [run1 _ _ rfl]
      exact (congrArg (M.runFor 0) (no1_step text L s _ first 7)).trans (by rw [runFor_zero])
theorem scan1 {text : Array Nat} {L : Nat} : ∀ (k s : Nat) (seen : Sre.Seen) (first : Bool), s + k = L →
    (∃ n i, n ≤ 8 * (k + 2) ∧ s ≤ i ∧ i < L ∧ hit1 text L i = true ∧ (∀ j, s ≤ j → j < i → hit1 text L j = false) ∧ ((at1 text L s seen first).runFor n).outcome = some .matched ∧ ((at1 text L s seen first).runFor n).start = i ∧ ((at1 text L s seen first).runFor n).handed = i + 1) ∨
    (∃ n, n ≤ 8 * (k + 2) ∧ (∀ j, s ≤ j → j < L → hit1 text L j = false) ∧ ((at1 text L s seen first).runFor n).outcome = some .failed)
  | 0, s, seen, first, e => by
    have hm : hit1 text L s = false := by
      unfold hit1
      rw [decide_eq_false (by lia)]
      simp
    obtain ⟨n, seen', hn, hr⟩ := at1_miss (seen := seen) (first := first) hm
    rw [if_neg (by lia)] at hr
    refine .inr ⟨n + 1, by lia, fun j h1 h2 => by lia, ?_⟩
    rw [runFor_add, hr]
    rfl
  | k + 1, s, seen, first, e => by
    cases hh : hit1 text L s with
    | true =>
      obtain ⟨n, hn, h1, h2, h3⟩ := at1_hit (seen := seen) (first := first) hh
      refine .inl ⟨n, s, ?_, Nat.le_refl _, ?_, hh, ?_, h1, h2, h3⟩
      · lia
      · lia
      · intro j h1 h2; lia
    | false =>
      obtain ⟨n, seen', hn, hr⟩ := at1_miss (seen := seen) (first := first) hh
      rw [if_pos (by lia)] at hr
      rcases scan1 (text := text) (L := L) k (s + 1) seen' false (by lia) with ⟨n', i, a1, a2, a3, a4, a5, a6, a7, a8⟩ | ⟨n', a1, a2, a3⟩
      · refine .inl ⟨n + n', i, by lia, by lia, a3, a4, fun j h1 h2 => ?_, ?_, ?_, ?_⟩
        · by_cases hj : j = s
          · rw [hj]; exact hh
          · exact a5 j (by lia) h2
        all_goals rw [runFor_add, hr]
        · exact a6
        · exact a7
        · exact a8
      · refine .inr ⟨n + n', by lia, fun j h1 h2 => ?_, ?_⟩
        · by_cases hj : j = s
          · rw [hj]; exact hh
          · exact a2 j (by lia) h2
        · rw [runFor_add, hr]; exact a3
noncomputable def Finds (code text : Array Nat) (b L : Nat) (r : Option (Nat × Nat)) : Prop := ∃ n, n ≤ 8 * (L + 4) ∧ match r with
  | some (i, j) => ((Sre.forSearch code text 0 b L false).runFor n).outcome = some .matched ∧ ((Sre.forSearch code text 0 b L false).runFor n).start = i ∧ ((Sre.forSearch code text 0 b L false).runFor n).handed = j
  | none => ((Sre.forSearch code text 0 b L false).runFor n).outcome = some .failed
theorem search1_start {text : Array Nat} {b L : Nat} (h : b < L) : ∃ seen, Sre.forSearch code1 text 0 b L false = at1 text L b seen true := by
  refine ⟨({} : Sre.Seen).add 14, ?_⟩
  show (if (decide (b > L) || decide (L - b < 1)) = true then _ else _) = _
  rw [if_neg (by simp; lia)]
  rfl
theorem search1_over {text : Array Nat} {b L : Nat} (h : ¬ b < L) : ((Sre.forSearch code1 text 0 b L false).runFor 1).outcome = some .failed := by
  have e : Sre.forSearch code1 text 0 b L false = ({ code := code1, text, lim := L, start := b, pc := 5, pos := b, handed := b, marks := #[], seen := ({} : Sre.Seen).add 14 } : M).say false := by
    show (if (decide (b > L) || decide (L - b < 1)) = true then _ else _) = _
    rw [if_pos (by simp; lia)]
    rfl
  rw [e]
  rfl
theorem finds1 (text : Array Nat) (b L : Nat) : (∃ i, b ≤ i ∧ i < L ∧ hit1 text L i = true ∧ (∀ j, b ≤ j → j < i → hit1 text L j = false) ∧ Finds code1 text b L (some (i, i + 1))) ∨
    ((∀ j, b ≤ j → j < L → hit1 text L j = false) ∧ Finds code1 text b L none) := by
  by_cases h : b < L
  · obtain ⟨seen, e⟩ := search1_start (text := text) h
    rcases scan1 (text := text) (L := L) (L - b) b seen true (by lia) with ⟨n, i, a1, a2, a3, a4, a5, a6⟩ | ⟨n, a1, a2, a3⟩
    · exact .inl ⟨i, a2, a3, a4, a5, n, by lia, by rw [e]; exact a6⟩
    · exact .inr ⟨a2, n, by lia, by rw [e]; exact a3⟩
  · exact .inr ⟨fun j h1 h2 => by lia, 1, by lia, search1_over h⟩
theorem lit_step (m : M) (h0 : m.outcome = none) (h1 : m.answer = none) (h2 : m.pc < m.code.size) (h3 : Sre.ops[m.word 0]? = some .LITERAL) : m.step =
    if m.pos ≥ m.lim then ({ m with seen := m.seen.add (m.word 0) } : M).say false else
    if (m.text.getD m.pos 0 == m.word 1) = true then { m with seen := m.seen.add (m.word 0), pc := m.pc + 2, pos := m.pos + 1 } else ({ m with seen := m.seen.add (m.word 0) } : M).say false := by
  obtain ⟨code, text, lim, start, lastStart, wholeText, mustAdvance, pc, pos, handed, outermost, marks, lastmark, lastindex, loops, inner, frames, weight, answer, seen, outcome⟩ := m
  dsimp only at h0 h1
  subst h0 h1
  generalize hm : (⟨code, text, lim, start, lastStart, wholeText, mustAdvance, pc, pos, handed, outermost, marks, lastmark, lastindex, loops, inner, frames, weight, none, seen, none⟩ : M) = m at *
  have hs : m.step = if m.pc < m.code.size then m.exec else m.stick "code:ran-off" := by subst hm; rfl
  rw [hs, if_pos h2]
  unfold M.exec
  dsimp only
  rw [h3]
  dsimp only
  have h3' : Sre.ops[m.code.getD m.pc 0]? = some .LITERAL := h3
  have ha : Sre.accepts m.code m.pc (m.text.getD m.pos 0) (m.seen.add (m.word 0)) = .ok (m.text.getD m.pos 0 == m.word 1, m.seen.add (m.word 0)) := by
    unfold Sre.accepts
    dsimp only
    rw [h3']
    rfl
  have hw : Sre.itemWidth m.code m.pc = 2 := by
    unfold Sre.itemWidth
    rw [h3']
  rw [ha, hw]
  split
  · rfl
  · cases (m.text.getD m.pos 0 == m.word 1)
    · exact (if_neg (by simp)).symm
    · exact (if_pos rfl).symm
noncomputable def at2 (text : Array Nat) (L s : Nat) (seen : Sre.Seen) (first : Bool) : M :=
  { code := code2, text, lim := L, start := s, lastStart := L, pc := 10, pos := s, handed := s, outermost := first, marks := #[], frames := [{ wait := .nextStart, pc := 10, pos := s, outermost := first }], weight := 1, seen }
noncomputable def eol (c : Nat) : Bool := c == 10 || c == 13
theorem inSet2 (c : Nat) (seen : Sre.Seen) : ∃ seen', Sre.inSet code2 c 36 5 true seen = .ok (eol c, seen') := by
  unfold eol
  show ∃ seen', (if (c == 10) = true then _ else Sre.inSet code2 c 35 7 true _) = _
  cases c == 10
  · show ∃ seen', (if (c == 13) = true then _ else Sre.inSet code2 c 34 9 true _) = _
    cases c == 13 <;> exact ⟨_, rfl⟩
  · exact ⟨_, rfl⟩
theorem admitted2 (m : M) (hc : m.code = code2) : ∀ (fuel s : Nat) (seen : Sre.Seen), m.lim < s + fuel →
    (∃ i seen', s ≤ i ∧ i < m.lim ∧ eol (m.text.getD i 0) = true ∧ (∀ j, s ≤ j → j < i → eol (m.text.getD j 0) = false) ∧ m.admitted fuel s seen = .ok (some i, seen')) ∨
    (∃ seen', (∀ j, s ≤ j → j < m.lim → eol (m.text.getD j 0) = false) ∧ m.admitted fuel s seen = .ok (none, seen'))
  | 0, s, seen, h => .inr ⟨seen, fun j h1 h2 => by lia, rfl⟩
  | fuel + 1, s, seen, h => by
    unfold M.admitted
    by_cases hl : s ≥ m.lim
    · rw [if_pos hl]
      exact .inr ⟨seen, fun j h1 h2 => by lia, rfl⟩
    · rw [if_neg hl, hc]
      obtain ⟨seen', e⟩ := inSet2 (m.text.getD s 0) seen
      have e : Sre.inSet code2 (m.text.getD s 0) code2.size 5 true seen = .ok (eol (m.text.getD s 0), seen') := e
      rw [e]
      cases he : eol (m.text.getD s 0) with
      | true => exact .inl ⟨s, seen', Nat.le_refl _, by lia, he, fun j h1 h2 => by lia, rfl⟩
      | false =>
        dsimp only
        rcases admitted2 m hc fuel (s + 1) seen' (by lia) with ⟨i, sn, a1, a2, a3, a4, a5⟩ | ⟨sn, a1, a2⟩
        · refine .inl ⟨i, sn, by lia, a2, a3, fun j h1 h2 => ?_, a5⟩
          by_cases hj : j = s
          · rw [hj]; exact he
          · exact a4 j (by lia) h2
        · refine .inr ⟨sn, fun j h1 h2 => ?_, a2⟩
          by_cases hj : j = s
          · rw [hj]; exact he
          · exact a1 j (by lia) h2
noncomputable def eolEnd (text : Array Nat) (L s : Nat) : Nat := if text.getD s 0 = 13 ∧ s + 1 < L ∧ text.getD (s + 1) 0 = 10 then s + 2 else s + 1
noncomputable def WonS (i j k : Nat) (m : M) : Prop := ∃ n, n ≤ k ∧ (m.runFor n).outcome = some .matched ∧ (m.runFor n).start = i ∧ (m.runFor n).handed = j
theorem WonS.step {m m' : M} {i j k : Nat} (h0 : m.outcome.isSome = false) (e : m.step = m') (h : WonS i j k m') : WonS i j (k + 1) m := by
  obtain ⟨n, h1, h2⟩ := h
  refine ⟨n + 1, by lia, ?_⟩
  rw [run1 _ _ h0, e]
  exact h2
noncomputable def g2 (text : Array Nat) (L s pc pos handed alt : Nat) (seen : Sre.Seen) : M :=
  { code := code2, text, lim := L, start := s, lastStart := L, pc, pos, handed, outermost := true, marks := #[], frames := [{ wait := .nextBranch, pc := alt, pos := s, outermost := true }, { wait := .nextStart, pc := 10, pos := s, outermost := true }], weight := 2, seen }
section
variable {text : Array Nat} {L s pc pos handed alt c i j k : Nat} {seen : Sre.Seen}
theorem g2_ok (h2 : pc < 36) (h3 : Sre.ops[code2.getD pc 0]? = some .LITERAL) (h4 : code2.getD (pc + 1) 0 = c) (hl : pos < L) (hc : text.getD pos 0 = c) : (g2 text L s pc pos handed alt seen).step = g2 text L s (pc + 2) (pos + 1) handed alt (seen.add (code2.getD pc 0)) := by
  rw [lit_step (g2 text L s pc pos handed alt seen) rfl rfl h2 h3, if_neg (by show ¬ pos ≥ L; lia), if_pos (by show (text.getD pos 0 == code2.getD (pc + 1) 0) = true; rw [h4, hc]; simp)]
  rfl
theorem g2_no (h2 : pc < 36) (h3 : Sre.ops[code2.getD pc 0]? = some .LITERAL) (h4 : code2.getD (pc + 1) 0 = c) (h : ¬ (pos < L ∧ text.getD pos 0 = c)) : (g2 text L s pc pos handed alt seen).step = (g2 text L s pc pos handed alt (seen.add (code2.getD pc 0))).say false := by
  rw [lit_step (g2 text L s pc pos handed alt seen) rfl rfl h2 h3]
  by_cases hl : pos ≥ L
  · rw [if_pos (show (g2 text L s pc pos handed alt seen).pos ≥ (g2 text L s pc pos handed alt seen).lim from hl)]; rfl
  · rw [if_neg (show ¬ (g2 text L s pc pos handed alt seen).pos ≥ (g2 text L s pc pos handed alt seen).lim from hl), if_neg (by
      show ¬ (text.getD pos 0 == code2.getD (pc + 1) 0) = true
      rw [h4]
      intro h'
      exact h ⟨by lia, by simpa using h'⟩)]
    rfl
theorem g2_next11 : ((g2 text L s pc pos handed 11 seen).say false).step = g2 text L s 19 s s 18 seen := rfl
theorem g2_next18 : ((g2 text L s pc pos handed 18 seen).say false).step = g2 text L s 24 s s 23 seen := rfl
theorem g2_jump16 : WonS s pos 6 (g2 text L s 16 pos handed alt seen) := ⟨5, by lia, by kernel_rfl, by kernel_rfl, by kernel_rfl⟩
theorem g2_jump21 : WonS s pos 6 (g2 text L s 21 pos handed alt seen) := ⟨5, by lia, by kernel_rfl, by kernel_rfl, by kernel_rfl⟩
theorem at2_branch : (at2 text L s seen true).step = g2 text L s 12 s s 11 (seen.add 7) := rfl
noncomputable def a2 (text : Array Nat) (L s pc pos handed p0 : Nat) (seen : Sre.Seen) (om : Bool) : M :=
  { code := code2, text, lim := L, start := s, lastStart := L, pc, pos, handed, outermost := om, marks := #[], frames := [{ wait := .lookNot, pc := 26, pos := p0, outermost := true }, { wait := .nextBranch, pc := 23, pos := s, outermost := true }, { wait := .nextStart, pc := 10, pos := s, outermost := true }], weight := 3, seen }
theorem g2_look : (g2 text L s 26 pos handed 23 seen).step = a2 text L s 29 pos pos pos (seen.add 5) false := by
  kernel_rfl
theorem a2_no (h : ¬ (pos < L ∧ text.getD pos 0 = 10)) : (a2 text L s 29 pos handed i seen false).step = (a2 text L s 29 pos handed i (seen.add 16) false).say false := by
  rw [lit_step (a2 text L s 29 pos handed i seen false) rfl rfl (by show 29 < 36; lia) rfl]
  by_cases hl : pos ≥ L
  · rw [if_pos (show (a2 text L s 29 pos handed i seen false).pos ≥ (a2 text L s 29 pos handed i seen false).lim from hl)]; rfl
  · rw [if_neg (show ¬ (a2 text L s 29 pos handed i seen false).pos ≥ (a2 text L s 29 pos handed i seen false).lim from hl), if_neg (by
      show ¬ (text.getD pos 0 == 10) = true
      intro h'
      exact h ⟨by lia, by simpa using h'⟩)]
    rfl
theorem a2_back : WonS s pos 7 ((a2 text L s 29 pos handed pos seen false).say false) := ⟨6, by lia, by kernel_rfl, by kernel_rfl, by kernel_rfl⟩
end
theorem WonS.le {i j k k' : Nat} {m : M} (h : WonS i j k m) (hk : k ≤ k') : WonS i j k' m := let ⟨n, h1, h2⟩ := h; ⟨n, by lia, h2⟩
theorem at2_crlf {text : Array Nat} {L s : Nat} {seen : Sre.Seen} (h0 : s < L) (h1 : text.getD s 0 = 13) (h2 : s + 1 < L) (h3 : text.getD (s + 1) 0 = 10) : WonS s (s + 2) 20 (at2 text L s seen true) :=
  (WonS.step rfl at2_branch (.step rfl (g2_ok (by lia) rfl rfl h0 h1) (.step rfl (g2_ok (by lia) rfl rfl h2 h3) g2_jump16))).le (by lia)
theorem at2_lf {text : Array Nat} {L s : Nat} {seen : Sre.Seen} (h0 : s < L) (h1 : text.getD s 0 = 10) : WonS s (s + 1) 20 (at2 text L s seen true) :=
  (WonS.step rfl at2_branch (.step rfl (g2_no (by lia) rfl (c := 13) rfl (by rw [h1]; lia)) (.step rfl g2_next11 (.step rfl (g2_ok (by lia) rfl rfl h0 h1) g2_jump21)))).le (by lia)
theorem at2_cr {text : Array Nat} {L s : Nat} {seen : Sre.Seen} (h0 : s < L) (h1 : text.getD s 0 = 13) (h2 : ¬ (s + 1 < L ∧ text.getD (s + 1) 0 = 10)) : WonS s (s + 1) 20 (at2 text L s seen true) :=
  (WonS.step rfl at2_branch (.step rfl (g2_ok (by lia) rfl rfl h0 h1) (.step rfl (g2_no (by lia) rfl (c := 10) rfl h2) (.step rfl g2_next11 (.step rfl (g2_no (by lia) rfl (c := 10) rfl (by rw [h1]; lia)) (.step rfl g2_next18
    (.step rfl (g2_ok (by lia) rfl rfl h0 h1) (.step rfl g2_look (.step rfl (a2_no h2) a2_back))))))))).le (by lia)
theorem at2_won {text : Array Nat} {L s : Nat} {seen : Sre.Seen} (h0 : s < L) (h : eol (text.getD s 0) = true) : WonS s (eolEnd text L s) 20 (at2 text L s seen true) := by
  unfold eolEnd
  by_cases h1 : text.getD s 0 = 13
  · by_cases h2 : s + 1 < L ∧ text.getD (s + 1) 0 = 10
    · rw [if_pos ⟨h1, h2⟩]; exact at2_crlf h0 h1 h2.1 h2.2
    · rw [if_neg (fun x => h2 x.2)]; exact at2_cr h0 h1 h2
  · rw [if_neg (fun x => h1 x.1)]
    refine at2_lf h0 ?_
    simp only [eol, Bool.or_eq_true, beq_iff_eq] at h
    exact h.resolve_right h1
theorem finds2 (text : Array Nat) (b L : Nat) : (∃ i, b ≤ i ∧ i < L ∧ eol (text.getD i 0) = true ∧ (∀ j, b ≤ j → j < i → eol (text.getD j 0) = false) ∧ Finds code2 text b L (some (i, eolEnd text L i))) ∨
    ((∀ j, b ≤ j → j < L → eol (text.getD j 0) = false) ∧ Finds code2 text b L none) := by
  let m0 : M := { code := code2, text, lim := L, start := b, lastStart := L, pc := 10, pos := b, handed := b, marks := #[], seen := ({} : Sre.Seen).add 14 }
  by_cases h : b < L
  · have e : Sre.forSearch code2 text 0 b L false = match m0.admitted (L + 1 - b) b m0.seen with
      | .ok (some s, seen) => ({ m0 with mustAdvance := false, seen } : M).attemptAt s true
      | .ok (none, seen) => ({ m0 with seen } : M).say false
      | .error why => m0.stick why := by
      show (if (decide (b > L) || decide (L - b < 1)) = true then _ else _) = _
      rw [if_neg (by simp; lia)]
      rfl
    rcases admitted2 m0 rfl (L + 1 - b) b m0.seen (by show L < _; lia) with ⟨i, sn, a1, a2, a3, a4, a5⟩ | ⟨sn, a1, a2⟩
    · rw [a5] at e
      obtain ⟨n, hn, hw⟩ := at2_won (seen := sn) a2 a3
      exact .inl ⟨i, a1, a2, a3, a4, n, by lia, by rw [e]; exact hw⟩
    · rw [a2] at e
      exact .inr ⟨a1, 1, by lia, by rw [e]; rfl⟩
  · refine .inr ⟨fun j h1 h2 => by lia, 1, by lia, ?_⟩
    have e : Sre.forSearch code2 text 0 b L false = ({ m0 with lastStart := 0 } : M).say false := by
      show (if (decide (b > L) || decide (L - b < 1)) = true then _ else _) = _
      rw [if_pos (by simp; lia)]
      rfl
    show ((Sre.forSearch code2 text 0 b L false).runFor 1).outcome = _
    rw [e]
    rfl
open PySem.Sre (M)
theorem wp_drive {Mo : Model} {A : Around} {E : Value → Shared → Prop} {s : Shared} {Q : M → Shared → Prop} : ∀ (turns : Nat) (m : M) (n : Nat), n + 1 ≤ 4 * turns → (m.runFor n).outcome.isSome = true → Q (m.runFor n) s → wpAny Mo A (reDrive turns m) Q E s
  | 0, m, n, h, _, _ => by lia
  | turns + 1, m, n, h, ho, hq => by
    unfold reDrive
    show wpAny Mo A (if (m.runFor 4).outcome.isSome = true then _ else _) Q E s
    by_cases h4 : (m.runFor 4).outcome.isSome = true
    · rw [if_pos h4]
      have e : m.runFor 4 = m.runFor n := by
        by_cases hn : 4 ≤ n
        · obtain ⟨k, rfl⟩ : ∃ k, n = 4 + k := ⟨n - 4, by lia⟩
          rw [runFor_add, runFor_done h4]
        · obtain ⟨k, hk⟩ : ∃ k, 4 = n + k := ⟨4 - n, by lia⟩
          rw [hk, runFor_add, runFor_done ho]
      refine wpAny_pure ?_
      show Q (m.runFor 4) s
      rw [e]
      exact hq
    · rw [if_neg h4]
      have hn : 4 ≤ n := by
        apply Classical.byContradiction
        intro hn
        obtain ⟨k, hk⟩ : ∃ k, 4 = n + k := ⟨4 - n, by lia⟩
        apply h4
        rw [hk, runFor_add, runFor_done ho]
        exact ho
      obtain ⟨k, rfl⟩ : ∃ k, n = 4 + k := ⟨n - 4, by lia⟩
      rw [runFor_add] at ho hq
      exact wpAny_bind (wpAny_rule (wp_drive turns (m.runFor 4) k (by lia) ho hq))
theorem wp_rules {Mo : Model} {A : Around} {E : Value → Shared → Prop} {s : Shared} {Q : PUnit → Shared → Prop} {f : Nat → PUnit → Sem (ForInStep PUnit)} (hf : ∀ i u (Q' : ForInStep PUnit → Shared → Prop), Q' (.yield ⟨⟩) s → wpAny Mo A (f i u) Q' E s) (h : Q ⟨⟩ s) : ∀ (l : List Nat), wpAny Mo A (forIn l PUnit.unit f) Q E s
  | [] => wpAny_pure h
  | i :: l => by
    rw [List.forIn_cons]
    exact wpAny_bind (hf i _ _ (wp_rules hf h l))
theorem wp_found {Mo : Model} {A : Around} {E : Value → Shared → Prop} {s : Shared} {Q : Option M → Shared → Prop} {code text : Array Nat} {b L : Nat} {r : Option (Nat × Nat)} (hL : L ≤ sizeLine) (hf : Finds code text b L r) (t : ReTarget) (hc : t.code = code) (ht : t.text = text) (hg : t.groups = 0) (hl : t.lim = L)
    (hq : match r with
      | some (i, j) => ∀ m : M, m.start = i → m.handed = j → Q (some m) s
      | none => Q none s) : wpAny Mo A (reNextFound t b false) Q E s := by
  unfold reNextFound reRunToEnd
  rw [hc, ht, hg, hl]
  obtain ⟨n, hn, hr⟩ := hf
  have hb : n + 1 ≤ 4 * 2 ^ 64 := by
    have : sizeLine ≤ 2 ^ 40 := by decide
    lia
  have ho : ((Sre.forSearch code text 0 b L false).runFor n).outcome.isSome = true := by
    cases r with
    | none => rw [show _ = _ from hr]; rfl
    | some p => rw [hr.1]; rfl
  refine wpAny_bind (wp_drive _ _ n hb ho ?_)
  refine wpAny_bind (wp_rules ?_ ?_ _)
  · intro i u Q' hQ
    split
    · exact wpAny_bind (wpAny_rule (wpAny_pure hQ))
    · exact wpAny_pure hQ
  · cases r with
    | none =>
      rw [show _ = _ from hr]
      exact wpAny_pure hq
    | some p =>
      rw [hr.1]
      exact wpAny_pure (hq _ hr.2.1 hr.2.2)
end Mine
end
section
namespace Mine
open PySem PySem.Spec PySem.Calls PyProof.Rows PySem.W PySem.W.X PySem.Builtin.Re PySem.Builtin.Str
open PySem.Sre (M)
noncomputable def catS (l : List (Str × Tok)) : Str := Txt.join ⟨#[]⟩ (l.map (·.1))
theorem Rep.toks {B : Bs} {V : View} {s : Shared} (D : Rep B V s) (k : Nat) : Rep B V { s with toks := k } :=
  ⟨⟨D.good.g, D.good.d, D.good.os, D.good.kept, D.good.loose, D.good.tabs⟩, D.has, D.nd, D.own⟩
theorem ext_toks {B : Bs} {V : View} {s : Shared} (k : Nat) : Ext B V V s { s with toks := k } := ⟨fun _ _ e _ _ => e, fun _ h => .inl h, fun a o e => ⟨o, e⟩⟩
structure Pat (B : Bs) (PA : Addr) (code : Array Nat) where
  po : Obj
  co : Obj
  CA : Addr
  fs : Array Value
  items : Array Value
  n0 : Nat
  hp : topGet B PA = some po
  hpd : po.data = .fields fs
  f2 : reRawNat (fs.getD 2 .none) = 0
  f5 : fs.getD 5 .none = .ref CA
  f6 : reRawNat (fs.getD 6 .none) = 0
  hc : topGet B CA = some co
  hcd : co.data = .seq items n0
  hcode : (items.map reRawOf).map (·.toNat) = code
noncomputable def extS (x : Str) (b e : Nat) : Str := ⟨x.cps.extract b e⟩
structure Subst (x : Str) (repl : Str) (code : Array Nat) (F : Nat → Str) : Prop where
  step : ∀ b, b ≤ x.cps.size → (∃ i j, b ≤ i ∧ i < j ∧ j ≤ x.cps.size ∧ Finds code x.cps b x.cps.size (some (i, j)) ∧ F b = (if b < i then extS x b i else ⟨#[]⟩) ++ (repl ++ F j)) ∨
    (Finds code x.cps b x.cps.size none ∧ F b = if b < x.cps.size then extS x b x.cps.size else ⟨#[]⟩)
theorem wp_target {B : Bs} (O : B.Ok) {PA : Addr} {code : Array Nat} (P : Pat B PA code) {V : View} {s : Shared} (D : Rep B V s) {A : Around} {E : Value → Shared → Prop} {x : Str} {tx : Tok} {Q : ReTarget → Shared → Prop}
    (h : ∀ t : ReTarget, t.code = code → t.text = x.cps → t.groups = 0 → t.lim = x.cps.size → t.kind = 0 → Q t s) : wpAny (model B.prog B.w) A (reWholeTarget (.ref PA) (.str x tx)) Q E s := by
  unfold reWholeTarget
  refine wpAny_bind (wpAny_fieldsOf (D.top O P.hp) P.hpd ?_)
  refine wpAny_bind ?_
  unfold reTextOf
  refine wpAny_bind (wpAny_pure ?_)
  dsimp only
  refine wpAny_pure ?_
  dsimp only
  rw [P.f6]
  simp only [beq_self_eq_true, Bool.true_and, Bool.and_true, Bool.false_eq_true, if_false, show ((0 : Nat) == 1) = false from rfl]
  refine wpAny_bind ?_
  unfold reNoCollectionInside
  rw [if_neg (by decide)]
  refine wpAny_pure ?_
  refine wpAny_bind ?_
  unfold reRawItems
  rw [P.f5]
  refine wpAny_bind (wpAny_seqItems (D.top O P.hc) P.hcd ?_)
  refine wpAny_pure (wpAny_pure (h _ ?_ rfl P.f2 rfl rfl))
  exact P.hcode
noncomputable abbrev slArgs (PA a : Addr) (x : Str) (tx : Tok) (repl : Str) (tr : Tok) (n b : Nat) : Args := ⟨[.ref PA, .str x tx, .str repl tr, .int 0 0, .int 0 0, .int n 0, .int b 0, .int b 0, .bool false, .ref a, .bool false], []⟩
noncomputable abbrev lo (l : List (Str × Tok)) (ep : Nat) : Obj := { cls := .type "list", dict := none, data := .seq ⟨strValues l⟩ ep, slots := #[] }
theorem strValues_snoc (l : List (Str × Tok)) (y : Str) (t : Tok) : strValues l ++ [.str y t] = strValues (l ++ [(y, t)]) := by simp [strValues]
theorem wp_push {B : Bs} {a : Addr} {l : List (Str × Tok)} {ep : Nat} {y : Str} {t : Tok} {s : Shared} {A : Around} {E : Value → Shared → Prop} {Q : Unit → Shared → Prop} (D : Rep B [(a, lo l ep)] s) (hl : l.length ≤ sizeLine)
    (h : ∀ s', Rep B [(a, lo (l ++ [(y, t)]) (ep + 1))] s' → Ext B [(a, lo l ep)] [(a, lo (l ++ [(y, t)]) (ep + 1))] s s' → Q () s') : wpAny (model B.prog B.w) A (updateSeq a fun xs => xs.push (.str y t)) Q E s := by
  have ho := D.has _ (.head _)
  refine wpAny_updateSeq ho rfl ?_ (by simpa [strValues] using hl) (by simp [strValues]; exact hl)
  have z := D.update (i := 0) (a := a) (o := lo l ep) (f := Obj.mapSeq (fun a => a.push (.str y t))) rfl (by rw [push_ep]; rfl) (notCode_list _) (by rw [push_ep]; exact notCode_list _)
  rw [push_ep, strValues_snoc] at z
  exact h _ z.1 z.2
theorem wp_slice {Mo : Model} {A : Around} {E : Value → Shared → Prop} {s : Shared} {x : Str} {b e : Nat} {Q : Value → Shared → Prop} (hs : (extS x b e).length ≤ sizeLine) (h : Q (.str (extS x b e) s.toks) { s with toks := s.toks + 1 }) : wpAny Mo A (reSlice x.cps 0 b e) Q E s := by
  unfold reSlice
  exact wpAny_mkStr h hs
theorem glued_nil_cons (y : Str) (l : List Str) : glued ⟨#[]⟩ (y :: l) = y ++ glued ⟨#[]⟩ l := by
  have key : ∀ (l : List Str) (acc : Array Nat), l.foldl (fun acc p => acc ++ (#[] : Array Nat) ++ p.cps) acc = acc ++ (l.foldl (fun acc p => acc ++ (#[] : Array Nat) ++ p.cps) #[]) := by
    intro l
    induction l with
    | nil => intro acc; simp
    | cons z l ih =>
      intro acc
      rw [List.foldl_cons, List.foldl_cons, ih, ih (#[] ++ #[] ++ z.cps)]
      simp [Array.append_assoc]
  unfold glued
  cases l with
  | nil => simp; rfl
  | cons z l =>
    show (⟨_⟩ : Str) = ⟨_⟩
    congr 1
    show (z :: l).foldl _ y.cps = y.cps ++ l.foldl _ z.cps
    rw [List.foldl_cons, key, key l z.cps]
    simp [Array.append_assoc]
theorem catS_nil : catS [] = ⟨#[]⟩ := rfl
theorem catS_cons (p : Str × Tok) (l : List (Str × Tok)) : catS (p :: l) = p.1 ++ catS l := glued_nil_cons _ _
theorem strL (a b : Str) : (a ++ b).length = a.length + b.length := by
  show (a.cps ++ b.cps).size = a.cps.size + b.cps.size
  simp
theorem strA (a b c : Str) : a ++ b ++ c = a ++ (b ++ c) := by
  show (⟨_⟩ : Str) = ⟨_⟩
  congr 1
  exact Array.append_assoc
theorem catS_app (l m : List (Str × Tok)) : catS (l ++ m) = catS l ++ catS m := by
  induction l with
  | nil => exact (Str.empty_append _).symm
  | cons p l ih => rw [List.cons_append, catS_cons, catS_cons, ih, strA]
theorem joinOk_cat {l : List (Str × Tok)} (h : (l.map (·.1.length)).sum ≤ sizeLine) : JoinOk ⟨#[]⟩ (l.map (·.1)) = true := by
  unfold JoinOk tooLong
  have e : ∀ (l : List (Str × Tok)) (k : Nat), (l.map (·.1)).foldl (fun (n : Nat) (p : Str) => n + p.length + (⟨#[]⟩ : Str).length) k = k + (l.map (·.1.length)).sum := by
    intro l
    induction l with
    | nil => intro k; simp
    | cons p l ih => intro k; rw [List.map_cons, List.foldl_cons, ih]; simp [show (⟨#[]⟩ : Str).length = 0 from rfl]; lia
  have : ((l.map (·.1)).toArray.foldl (fun (n : Nat) (p : Str) => n + p.length + (⟨#[]⟩ : Str).length) 0) = (l.map (·.1.length)).sum := by
    rw [List.foldl_toArray', e]
    · lia
    · rfl
  rw [this]
  simpa using h
noncomputable def slPost (B : Bs) (a : Addr) (l : List (Str × Tok)) (ep : Nat) (fb : Str) (s : Shared) (r : Result) (s' : Shared) : Prop := ∃ t, r = .ok (.ret (.str (catS l ++ fb) t)) ∧ Rep B [] s' ∧ Ext B [(a, lo l ep)] [] s s'
theorem sub_end {B : Bs} (O : B.Ok) {t : ReTarget} {x : Str} {a : Addr} {l : List (Str × Tok)} {ep : Nat} {A : Around} {s : Shared} {R : Fin → Shared → Prop} {E : Value → Shared → Prop} (hkind : t.kind = 0) (ht : t.text = x.cps) (hs : (l.map (·.1.length)).sum ≤ sizeLine) (D : Rep B [(a, lo l ep)] s)
    (h : ∀ tk s', Rep B [] s' → Ext B [(a, lo l ep)] [] s s' → R (.done (.ret (.str (catS l) tk))) s') :
    wpAny (model B.prog B.w) A (do
      let joiner ← reSlice t.text t.kind 0 0
      let text ← if ((← seqItems? (.ref a)).getD #[]).isEmpty then pure joiner else call (.builtin (if t.kind == 0 then "str.join" else "bytes.join")) [joiner, .ref a]
      if false then ret (← holding [text] do newTuple [text, ← mkInt 0]) else ret text) R E s := by
  rw [hkind, ht]
  have drop : ∀ k, Rep B [] { s with toks := k } ∧ Ext B [(a, lo l ep)] [] s { s with toks := k } := fun k =>
    ⟨⟨(D.toks k).good, fun p hp => by simp at hp, by simp [excl], fun a ha => by simp [excl] at ha⟩, ⟨fun _ _ e _ _ => e, fun _ h => by simp [excl] at h, fun a o e => ⟨o, e⟩⟩⟩
  have e0 : extS x 0 0 = ⟨#[]⟩ := by unfold extS; simp
  refine wpAny_bind (wp_slice (by rw [e0]; exact Nat.zero_le _) ?_)
  rw [e0]
  have ho := (D.toks (s.toks + 1)).has _ (.head _)
  refine wpAny_bind (wpAny_seqItems ho rfl ?_)
  cases l with
  | nil =>
    refine wpAny_bind (wpAny_pure ?_)
    show wpAny _ _ (ret _) _ _ _
    refine wpAny_pure ?_
    exact h _ _ (drop _).1 (drop _).2
  | cons p l =>
    refine wpAny_bind ?_
    refine SC.join (l := p :: l) ⟨_, ho, rfl, _, rfl⟩ rfl (joinOk_cat hs) ?_
    intro t' k
    show wpAny _ _ (ret _) _ _ _
    refine wpAny_pure ?_
    exact h _ _ (drop _).1 (drop _).2
theorem ne_none_str (y : Str) (t : Tok) : ((Value.str y t : Value) != Value.none) = true := by
  simp [bne]
theorem sub_loop {B : Bs} (O : B.Ok) {PA : Addr} {code : Array Nat} (P : Pat B PA code) {x : Str} {tx : Tok} {repl : Str} {tr : Tok} {F : Nat → Str} (hF : Subst x repl code F) {a : Addr} (hx : x.cps.size ≤ sizeLine) :
    ∀ (k b : Nat) (n : Nat) (l : List (Str × Tok)) (ep : Nat) (A : Around) (s : Shared), x.cps.size - b < k → b ≤ x.cps.size → l.length + 2 * (x.cps.size - b) + 2 ≤ sizeLine → ((l.map (·.1.length)).sum + (F b).length ≤ sizeLine) → Rep B [(a, lo l ep)] s →
    codeAny (model B.prog B.w) A (.builtin "re.Pattern.sub.loop" (slArgs PA a x tx repl tr n b)) (slPost B a l ep (F b) s) s := by
  intro k
  induction k with
  | zero => intro b n l ep A s hk; lia
  | succ k ih =>
  intro b n l ep A s hk hb hl hs D
  refine codeAny_builtin (b := Builtin.«re.Pattern.sub.loop») (entryFor_of_tree (by kernel_rfl)) ?_
  unfold Builtin.«re.Pattern.sub.loop»
  dsimp only [slArgs]
  refine wpAny_bind (wp_target O P D ?_)
  intro t hc ht hg hlim hkind
  rw [if_pos (by decide)]
  unfold reLiteralCannotBeTurned
  refine wpAny_bind (wpAny_bind (wpAny_pure ?_))
  rw [if_neg (by simp)]
  refine wpAny_pure ?_
  rw [if_neg (by simp)]
  have eb : ((b : Int)).toNat = b := by lia
  rw [eb]
  rcases hF.step b hb with ⟨i, j, h1, h2, h3, hf, he⟩ | ⟨hf, he⟩
  · -- a place is found
    refine wpAny_bind (wp_found hx hf t hc ht hg hlim ?_)
    intro m hm1 hm2
    have last : ∀ (l' : List (Str × Tok)) (ep' : Nat) (s' : Shared), (l'.map (·.1.length)).sum + (repl ++ F j).length ≤ sizeLine → l'.length + 2 * (x.cps.size - j) + 3 ≤ sizeLine → catS l' ++ (repl ++ F j) = catS l ++ F b → Rep B [(a, lo l' ep')] s' → Ext B [(a, lo l ep)] [(a, lo l' ep')] s s' →
        wpAny (model B.prog B.w) (A.under (.builtin "re.Pattern.sub.loop" (slArgs PA a x tx repl tr n b))) (do
          updateSeq a fun xs => xs.push (Value.str repl tr)
          again (Code.builtin "re.Pattern.sub.loop" ⟨[.ref PA, .str x tx, .str repl tr, rawInt 0, rawInt 0, rawInt ((n : Int) + 1), rawInt (m.handed : Int), rawInt (m.handed : Int), .bool (m.handed == m.start), .ref a, .bool false], []⟩))
        (fun fin s' => match fin with | .done f => slPost B a l ep (F b) s (.ok f) s' | .again c' => c'.quiet = true ∧ codeAny (model B.prog B.w) A c' (slPost B a l ep (F b) s) s') (fun e s' => slPost B a l ep (F b) s (.error e) s') s' := by
      intro l' ep' s' z1 z2 z3 D' x'
      refine wpAny_bind (wp_push D' (by lia) ?_)
      intro s2 D2 x2
      show wpAny _ _ (pure _) _ _ _
      refine wpAny_pure ?_
      refine ⟨plainId_quiet (by decide +kernel) _, ?_⟩
      have e1 : (m.handed == m.start) = false := by rw [hm1, hm2]; simp; lia
      rw [e1, hm2]
      refine codeAny_mono (ih j (n + 1) (l' ++ [(repl, tr)]) (ep' + 1) A s2 (by lia) h3 (by simp; lia) (by
        rw [strL] at z1
        simp only [List.map_append, List.map_cons, List.map_nil, List.sum_append, List.sum_cons, List.sum_nil]
        lia) D2) ?_
      rintro r s3 ⟨tk, e, D3, x3⟩
      refine ⟨tk, ?_, D3, (x'.trans x2).trans x3⟩
      rw [e, catS_app, strA, show catS [(repl, tr)] = repl from by rw [catS_cons, catS_nil]; exact Str.append_empty _, z3]
    rw [he, strL] at hs
    dsimp only
    rw [hm1, ht, hkind]
    by_cases hbi : b < i
    · rw [if_pos hbi] at hs he ⊢
      have el : (extS x b i).length ≤ sizeLine := by lia
      refine wpAny_bind (wp_slice el ?_)
      have D0 := D.toks (s.toks + 1)
      refine wpAny_bind (wp_push D0 (by lia) ?_)
      intro s1 D1 x1
      rw [if_pos (show ((0 : Int) == 0) = true from rfl)]
      refine wpAny_bind (wpAny_pure ?_)
      rw [if_pos (ne_none_str repl tr)]
      have := last (l ++ [(extS x b i, s.toks)]) (ep + 1) s1 (by
        simp only [List.map_append, List.map_cons, List.map_nil, List.sum_append, List.sum_cons, List.sum_nil]
        lia) (by simp; lia) (by rw [catS_app, strA, he, show catS [(extS x b i, s.toks)] = extS x b i from by rw [catS_cons, catS_nil]; exact Str.append_empty _]) D1 ((ext_toks _).trans x1)
      rw [hm1] at this
      exact this
    · rw [if_neg hbi] at hs he ⊢
      rw [if_pos (show ((0 : Int) == 0) = true from rfl)]
      refine wpAny_bind (wpAny_pure ?_)
      rw [if_pos (ne_none_str repl tr)]
      have := last l ep s (by
        have : (⟨#[]⟩ : Str).length = 0 := rfl
        lia) (by lia) (by rw [he]; congr 1; exact (Str.empty_append _).symm) D (Ext.refl _ _)
      rw [hm1] at this
      exact this
  · -- none is left
    refine wpAny_bind (wp_found hx hf t hc ht hg hlim ?_)
    dsimp only
    rw [hlim]
    have fin : ∀ (l' : List (Str × Tok)) (ep' : Nat) (s' : Shared), (l'.map (·.1.length)).sum ≤ sizeLine → catS l' = catS l ++ F b → Rep B [(a, lo l' ep')] s' → Ext B [(a, lo l ep)] [(a, lo l' ep')] s s' →
        ∀ tk s2, Rep B [] s2 → Ext B [(a, lo l' ep')] [] s' s2 → slPost B a l ep (F b) s (.ok (.ret (.str (catS l') tk))) s2 := fun l' ep' s' z1 z2 D' x' tk s2 D2 x2 => ⟨tk, by rw [z2], D2, x'.trans x2⟩
    by_cases hbi : b < x.cps.size
    · rw [if_pos hbi] at he ⊢
      rw [he] at hs
      rw [ht, hkind]
      refine wpAny_bind (wp_slice (by lia) ?_)
      have D0 := D.toks (s.toks + 1)
      refine wpAny_bind (wp_push D0 (by lia) ?_)
      intro s1 D1 x1
      have hz : ((l ++ [(extS x b x.cps.size, s.toks)]).map (·.1.length)).sum ≤ sizeLine := by
        simp only [List.map_append, List.map_cons, List.map_nil, List.sum_append, List.sum_cons, List.sum_nil]
        lia
      have z := sub_end O (t := t) hkind ht hz D1 (A := A.under (.builtin "re.Pattern.sub.loop" (slArgs PA a x tx repl tr n b))) (E := fun e s' => slPost B a l ep (F b) s (.error e) s')
        (R := fun fin s' => match fin with | .done f => slPost B a l ep (F b) s (.ok f) s' | .again c' => c'.quiet = true ∧ codeAny (model B.prog B.w) A c' (slPost B a l ep (F b) s) s')
        (fin _ _ s1 hz (by rw [catS_app, he, show catS [(extS x b x.cps.size, s.toks)] = extS x b x.cps.size from by rw [catS_cons, catS_nil]; exact Str.append_empty _]) D1 ((ext_toks _).trans x1))
      rw [ht, hkind] at z
      exact z
    · rw [if_neg hbi] at he ⊢
      have hz : (l.map (·.1.length)).sum ≤ sizeLine := by lia
      exact sub_end O (t := t) hkind ht hz D (A := A.under (.builtin "re.Pattern.sub.loop" (slArgs PA a x tx repl tr n b))) (E := fun e s' => slPost B a l ep (F b) s (.error e) s')
        (R := fun fin s' => match fin with | .done f => slPost B a l ep (F b) s (.ok f) s' | .again c' => c'.quiet = true ∧ codeAny (model B.prog B.w) A c' (slPost B a l ep (F b) s) s')
        (fin _ _ s hz (by rw [he]; exact (Str.append_empty _).symm) D (Ext.refl _ _))
end Mine
end
section
namespace Mine
open PySem PySem.Spec PySem.Calls PyProof.Rows PySem.W PySem.W.X PySem.Builtin.Re
noncomputable def crlf : List Nat → List Nat
  | [] => []
  | 13 :: 10 :: r => 13 :: 10 :: crlf r
  | c :: r => if eol c = true then 13 :: 10 :: crlf r else c :: crlf r
noncomputable def dots : Bool → List Nat → List Nat
  | _, [] => []
  | f, c :: r => if (f && c == 46) = true then 46 :: 46 :: dots (c == 10) r else c :: dots (c == 10) r
noncomputable def sL (l : List Nat) : Str := ⟨l.toArray⟩
theorem sL_app (a b : List Nat) : sL a ++ sL b = sL (a ++ b) := by
  show (⟨_⟩ : Str) = ⟨_⟩
  congr 1
  show a.toArray ++ b.toArray = _
  simp
noncomputable def F1 (x : Str) (b : Nat) : Str := sL (dots (bol x.cps b) (x.cps.toList.drop b))
noncomputable def F2 (x : Str) (b : Nat) : Str := sL (crlf (x.cps.toList.drop b))
theorem extS_eq (x : Str) (b i : Nat) : extS x b i = sL ((x.cps.toList.drop b).take (i - b)) := by
  unfold extS sL
  congr 1
  apply Array.ext'
  simp [Array.toList_extract, List.extract]
theorem getD_eq (x : Array Nat) (i : Nat) (h : i < x.size) : x.toList[i]'(by simpa using h) = x.getD i 0 := by
  simp [Array.getD, h]
theorem drop_cons (x : Array Nat) (i : Nat) (h : i < x.size) : x.toList.drop i = x.getD i 0 :: x.toList.drop (i + 1) := by
  rw [List.drop_eq_getElem_cons (by simpa using h), getD_eq x i h]
theorem ext_split (x : Str) (b i : Nat) : (if b < i then extS x b i else ⟨#[]⟩) = sL ((x.cps.toList.drop b).take (i - b)) := by
  split
  · exact extS_eq ..
  · rename_i h
    rw [show i - b = 0 by lia, List.take_zero]
    rfl
theorem crlf_plain {c : Nat} (h : eol c = false) (r : List Nat) : crlf (c :: r) = c :: crlf r := by
  have hc : c ≠ 13 := by rintro rfl; cases h
  rw [crlf.eq_3 c r (fun r' h1 _ => hc h1), if_neg (by rw [h]; simp)]
theorem crlf_run (x : Array Nat) : ∀ (n b : Nat), b + n ≤ x.size → (∀ j, b ≤ j → j < b + n → eol (x.getD j 0) = false) → crlf (x.toList.drop b) = (x.toList.drop b).take n ++ crlf (x.toList.drop (b + n))
  | 0, b, _, _ => by simp
  | n + 1, b, h, hj => by
    have e := drop_cons x b (by lia)
    rw [e, crlf_plain (hj b (Nat.le_refl _) (by lia)), crlf_run x n (b + 1) (by lia) (fun j h1 h2 => hj j (by lia) (by lia)), List.take_succ_cons]
    rw [show b + 1 + n = b + (n + 1) by lia]
    rfl
theorem crlf_eol (x : Array Nat) (i : Nat) (h : i < x.size) (he : eol (x.getD i 0) = true) : crlf (x.toList.drop i) = 13 :: 10 :: crlf (x.toList.drop (eolEnd x x.size i)) := by
  rw [drop_cons x i h]
  unfold eolEnd
  by_cases hh : x.getD i 0 = 13 ∧ i + 1 < x.size ∧ x.getD (i + 1) 0 = 10
  · rw [if_pos hh, drop_cons x (i + 1) hh.2.1, hh.1, hh.2.2]
    rw [crlf]
  · rw [if_neg hh]
    generalize hr : x.toList.drop (i + 1) = r
    have hn : ¬ (x.getD i 0 = 13 ∧ ∃ r', r = 10 :: r') := by
      rintro ⟨h1, r', h2⟩
      apply hh
      have hl : i + 1 < x.size := by
        apply Classical.byContradiction
        intro hl
        rw [List.drop_eq_nil_of_le (by simp; lia)] at hr
        rw [← hr] at h2
        cases h2
      refine ⟨h1, hl, ?_⟩
      rw [drop_cons x (i + 1) hl, h2] at hr
      injection hr
    generalize hc : x.getD i 0 = c at he hn
    rw [crlf.eq_3 c r (fun r' h1 h2 => hn ⟨h1, r', h2⟩), if_pos he]
theorem eolEnd_bounds {x : Array Nat} {L i : Nat} (h : i < L) : i < eolEnd x L i ∧ eolEnd x L i ≤ L := by
  unfold eolEnd
  split
  · rename_i h; lia
  · lia
theorem subst2 (x : Str) : Subst x ⟨#[13, 10]⟩ code2 (F2 x) := ⟨fun b hb => by
  rcases finds2 x.cps b x.cps.size with ⟨i, h1, h2, h3, h4, h5⟩ | ⟨h1, h2⟩
  · refine .inl ⟨i, eolEnd x.cps x.cps.size i, h1, (eolEnd_bounds h2).1, (eolEnd_bounds h2).2, h5, ?_⟩
    · rw [ext_split]
      unfold F2
      have := crlf_run x.cps (i - b) b (by lia) (fun j a c => h4 j a (by lia))
      rw [this, show b + (i - b) = i by lia, crlf_eol x.cps i h2 h3, show (⟨#[13, 10]⟩ : Str) = sL [13, 10] from rfl, sL_app, sL_app]
      rfl
  · refine .inr ⟨h2, ?_⟩
    rw [ext_split]
    unfold F2
    have := crlf_run x.cps (x.cps.size - b) b (by lia) (fun j a c => h1 j a (by lia))
    rw [this, show b + (x.cps.size - b) = x.cps.size by lia, show List.drop x.cps.size x.cps.toList = [] from List.drop_eq_nil_of_le (by simp)]
    simp [crlf]⟩
theorem bol_succ (x : Array Nat) (b : Nat) : bol x (b + 1) = (x.getD b 0 == 10) := by
  unfold bol
  simp
theorem dots_run (x : Array Nat) : ∀ (n b : Nat), b + n ≤ x.size → (∀ j, b ≤ j → j < b + n → hit1 x x.size j = false) → dots (bol x b) (x.toList.drop b) = (x.toList.drop b).take n ++ dots (bol x (b + n)) (x.toList.drop (b + n))
  | 0, b, _, _ => by simp
  | n + 1, b, h, hj => by
    have e := drop_cons x b (by lia)
    have h0 := hj b (Nat.le_refl _) (by lia)
    have h0 : (bol x b && x.getD b 0 == 46) = false := by
      unfold hit1 at h0
      rw [decide_eq_true (show b < x.size by lia), Bool.true_and] at h0
      exact h0
    rw [e, dots, if_neg (by rw [h0]; simp), ← bol_succ, dots_run x n (b + 1) (by lia) (fun j h1 h2 => hj j (by lia) (by lia)), List.take_succ_cons]
    rw [show b + 1 + n = b + (n + 1) by lia]
    rfl
theorem subst1 (x : Str) : Subst x ⟨#[46, 46]⟩ code1 (F1 x) := ⟨fun b hb => by
  rcases finds1 x.cps b x.cps.size with ⟨i, h1, h2, h3, h4, h5⟩ | ⟨h1, h2⟩
  · refine .inl ⟨i, i + 1, h1, by lia, by lia, h5, ?_⟩
    rw [ext_split]
    unfold F1
    have := dots_run x.cps (i - b) b (by lia) (fun j a c => h4 j a (by lia))
    unfold hit1 at h3
    simp only [Bool.and_eq_true, decide_eq_true_eq] at h3
    rw [this, show b + (i - b) = i by lia, drop_cons x.cps i h2, dots, if_pos (by rw [h3.1, h3.2.2]; rfl), bol_succ, show (⟨#[46, 46]⟩ : Str) = sL [46, 46] from rfl, sL_app, sL_app]
    rfl
  · refine .inr ⟨h2, ?_⟩
    rw [ext_split]
    unfold F1
    have := dots_run x.cps (x.cps.size - b) b (by lia) (fun j a c => h1 j a (by lia))
    rw [this, show b + (x.cps.size - b) = x.cps.size by lia, show List.drop x.cps.size x.cps.toList = [] from List.drop_eq_nil_of_le (by simp)]
    simp [dots]⟩
end Mine
end
section

namespace Mine
open PySem PySem.Spec PySem.Calls PyProof.Rows PySem.W PySem.W.X PySem.Builtin.Str
noncomputable def objAt (W : Wd) (a : Addr) : Obj := (topGet (BB W) a).getD ⟨.none, none, .plain, #[]⟩
noncomputable def fieldsA (o : Obj) : Array Value := match o.data with
  | .fields a => a
  | _ => #[]
noncomputable def seqA (o : Obj) : Array Value := match o.data with
  | .seq a _ => a
  | _ => #[]
noncomputable def pat1 (W : Wd) : Pat (BB W) 43 code1 :=
  { po := objAt W 43, co := objAt W 42, CA := 42, fs := fieldsA (objAt W 43), items := seqA (objAt W 42), n0 := seqEp (objAt W 42),
    hp := by kernel_rfl, hpd := by kernel_rfl, f2 := by kernel_rfl, f5 := by kernel_rfl, f6 := by kernel_rfl, hc := by kernel_rfl, hcd := by kernel_rfl, hcode := by kernel_rfl }
noncomputable def pat2 (W : Wd) : Pat (BB W) 48 code2 :=
  { po := objAt W 48, co := objAt W 47, CA := 47, fs := fieldsA (objAt W 48), items := seqA (objAt W 47), n0 := seqEp (objAt W 47),
    hp := by kernel_rfl, hpd := by kernel_rfl, f2 := by kernel_rfl, f5 := by kernel_rfl, f6 := by kernel_rfl, hc := by kernel_rfl, hcd := by kernel_rfl, hcode := by kernel_rfl }
noncomputable def quotedL (l : List Nat) : List Nat := dots true (crlf l)
noncomputable def quoted (x : Str) : Str := sL (quotedL x.cps.toList)
theorem crlf_len : ∀ l : List Nat, (crlf l).length ≤ 2 * l.length
  | [] => Nat.le_refl _
  | [c] => by
    by_cases h : eol c = true
    · rw [crlf.eq_3 c [] (fun r' _ h2 => by cases h2), if_pos h]; simp [crlf]
    · rw [crlf_plain (by simpa using h)]; simp [crlf]
  | c :: d :: r => by
    by_cases h : c = 13 ∧ d = 10
    · obtain ⟨rfl, rfl⟩ := h
      have := crlf_len r
      rw [crlf]
      simp only [List.length_cons]; lia
    · have := crlf_len (d :: r)
      rw [crlf.eq_3 c (d :: r) (fun r' h1 h2 => h ⟨h1, by injection h2⟩)]
      split <;> simp only [List.length_cons] at * <;> lia
theorem dots_len : ∀ (l : List Nat) (f : Bool), (dots f l).length ≤ 2 * l.length
  | [], _ => Nat.le_refl _
  | c :: r, f => by
    have := dots_len r (c == 10)
    rw [dots]
    split <;> simp only [List.length_cons] <;> lia
theorem sL_len (l : List Nat) : (sL l).length = l.length := by
  show l.toArray.size = _
  simp
noncomputable def S_sl1 (W : Wd) : Sp (BB W) :=
  let B := BB W
  { d := 0
    c := fun q => .builtin "re.Pattern.sub.loop" ⟨[.ref 43, .str (q.s 0) (q.t 0), .str ⟨#[46, 46]⟩ (q.t 1), .int 0 0, .int 0 0, .int 0 0, .int 0 0, .int 0 0, .bool false, .ref (q.a 0), .bool false], []⟩
    P := fun q => 2 * (q.s 0).length + 2 ≤ sizeLine
    pre := fun q => [((q.a 0),listO [] (q.t 2))]
    R := fun q e => True
    res := fun q e => .ok (.ret (.str (F1 (q.s 0) 0) (e.t 0)))
    out := fun q e => [] }
noncomputable def on_sl1 : Code → View → Lt := fun c V => lt [valA (nthV (cPos c) 9)] [valT (nthV (cPos c) 1),valT (nthV (cPos c) 2),eP V 0] [] [valS (nthV (cPos c) 1)] [] [] []
theorem sl1_ok (W : Wd) (O : (BB W).Ok) : (S_sl1 W).Ok := fun q (hq : 2 * (q.s 0).length + 2 ≤ sizeLine) A s R D => by
  have hx : (q.s 0).length = (q.s 0).cps.size := rfl
  have hl : (F1 (q.s 0) 0).length ≤ sizeLine := by
    unfold F1
    rw [sL_len]
    have := dots_len ((q.s 0).cps.toList.drop 0) (bol (q.s 0).cps 0)
    simp only [List.drop_zero] at this ⊢
    have h2 : (q.s 0).cps.toList.length = (q.s 0).cps.size := by simp
    lia
  refine codeAny_mono (sub_loop O (pat1 W) (tx := q.t 0) (tr := q.t 1) (subst1 (q.s 0)) (a := q.a 0) (by lia) ((q.s 0).cps.size + 1) 0 0 [] (q.t 2) A s (by lia) (Nat.zero_le _) (by simp; lia) (by simpa using hl) D) ?_
  rintro r s' ⟨tk, e, D', x'⟩
  refine ⟨[], ⟨lt [] [tk] [] [] [] [] [], trivial, ?_, rfl⟩, D', x'⟩
  rw [e, catS_nil, show (⟨#[]⟩ : Str) = Str.empty from rfl, Str.empty_append]
  rfl
noncomputable def S_sl2 (W : Wd) : Sp (BB W) :=
  let B := BB W
  { d := 0
    c := fun q => .builtin "re.Pattern.sub.loop" ⟨[.ref 48, .str (q.s 0) (q.t 0), .str ⟨#[13, 10]⟩ (q.t 1), .int 0 0, .int 0 0, .int 0 0, .int 0 0, .int 0 0, .bool false, .ref (q.a 0), .bool false], []⟩
    P := fun q => 2 * (q.s 0).length + 2 ≤ sizeLine
    pre := fun q => [((q.a 0),listO [] (q.t 2))]
    R := fun q e => True
    res := fun q e => .ok (.ret (.str (F2 (q.s 0) 0) (e.t 0)))
    out := fun q e => [] }
noncomputable def on_sl2 : Code → View → Lt := fun c V => lt [valA (nthV (cPos c) 9)] [valT (nthV (cPos c) 1),valT (nthV (cPos c) 2),eP V 0] [] [valS (nthV (cPos c) 1)] [] [] []
theorem sl2_ok (W : Wd) (O : (BB W).Ok) : (S_sl2 W).Ok := fun q (hq : 2 * (q.s 0).length + 2 ≤ sizeLine) A s R D => by
  have hx : (q.s 0).length = (q.s 0).cps.size := rfl
  have hl : (F2 (q.s 0) 0).length ≤ sizeLine := by
    unfold F2
    rw [sL_len]
    have := crlf_len ((q.s 0).cps.toList.drop 0)
    simp only [List.drop_zero] at this ⊢
    have h2 : (q.s 0).cps.toList.length = (q.s 0).cps.size := by simp
    lia
  refine codeAny_mono (sub_loop O (pat2 W) (tx := q.t 0) (tr := q.t 1) (subst2 (q.s 0)) (a := q.a 0) (by lia) ((q.s 0).cps.size + 1) 0 0 [] (q.t 2) A s (by lia) (Nat.zero_le _) (by simp; lia) (by simpa using hl) D) ?_
  rintro r s' ⟨tk, e, D', x'⟩
  refine ⟨[], ⟨lt [] [tk] [] [] [] [] [], trivial, ?_, rfl⟩, D', x'⟩
  rw [e, catS_nil, show (⟨#[]⟩ : Str) = Str.empty from rfl, Str.empty_append]
  rfl
noncomputable def S_qd (W : Wd) : Sp (BB W) :=
  let B := BB W
  { d := 40
    c := fun q => .call (.ref 55) ⟨[.str (q.s 0) (q.t 0)], []⟩
    P := fun q => 8 * (q.s 0).length + 8 ≤ sizeLine
    pre := fun q => []
    R := fun q e => True
    res := fun q e => .ok (.ret (.str (quoted (q.s 0)) (e.t 0)))
    out := fun q e => [] }
noncomputable def on_qd : Code → View → Lt := fun c V => lt [] [valT (nthV (cPos c) 0)] [] [valS (nthV (cPos c) 0)] [] [] []
theorem F_quoted (x : Str) : F1 (F2 x 0) 0 = quoted x := by
  unfold F1 quoted quotedL F2 sL
  simp [bol]
noncomputable def S_qd0 (W : Wd) : Sp (BB W) :=
  let B := BB W
  { d := 40
    c := fun q => .call (.ref 55) ⟨[.str (q.s 0) (q.t 0)], []⟩
    P := fun q => 8 * (q.s 0).length + 8 ≤ sizeLine
    pre := fun q => []
    R := fun q e => True
    res := fun q e => .ok (.ret (.str (F1 (F2 (q.s 0) 0) 0) (e.t 0)))
    out := fun q e => [] }
theorem qd_run (W : Wd) (O : (BB W).Ok) (q : Lt) (hq : (S_qd0 W).P q) : At (S_qd0 W) 40 q := by
  refine tri_f O (stdE _) [U (S_sl1 W) (sl1_ok W O) on_sl1,U (S_sl2 W) (sl2_ok W O) on_sl2] 2000 40 (hs := hx 36 0x10030000000000410c0000000040000000000000000001040001) (is := [])
    (fun (ρ : Rho) => ob (A := (2 * (q.s 0).length + 2 ≤ sizeLine)) (by have h : 8 * (q.s 0).length + 8 ≤ sizeLine := hq; show 2 * (q.s 0).length + 2 ≤ sizeLine; lia) <| fun _ : True => ob (A := (2 * (F2 (q.s 0) 0).length + 2 ≤ sizeLine)) (by
    have h : 8 * (q.s 0).length + 8 ≤ sizeLine := hq
    show 2 * (F2 (q.s 0) 0).length + 2 ≤ sizeLine
    unfold F2
    rw [sL_len]
    have := crlf_len ((q.s 0).cps.toList.drop 0)
    simp only [List.drop_zero] at this ⊢
    have h2 : (q.s 0).cps.toList.length = (q.s 0).length := by simp; rfl
    lia) <| fun _ : True => fin (S_qd0 W) q (lt [] [(ρ.2 1).2 0] [] [] [] [] []) (trivial) :) ?_
  induction W using y_0 <;> kernel_rfl
theorem qd_ok (W : Wd) (O : (BB W).Ok) : (S_qd W).Ok := fun q hq => (qd_run W O q hq).mono (Nat.le_refl _) fun r V ⟨e, hR, hr, hV⟩ => ⟨e, hR, hr.trans (by show Except.ok (Flow.ret (Value.str (F1 (F2 _ 0) 0) _)) = _; rw [F_quoted]; rfl), hV⟩
end Mine
end
section
namespace Mine
open PySem PySem.Spec PySem.Calls PyProof.Rows PySem.W PySem.W.X PySem.Builtin.Int
theorem land_high (x k : Nat) : x &&& (x / 2 ^ k * 2 ^ k) = x / 2 ^ k * 2 ^ k := by
  apply Nat.eq_of_testBit_eq
  intro i
  rw [Nat.testBit_and, Nat.testBit_mul_two_pow, Nat.testBit_div_two_pow]
  by_cases h : k ≤ i
  · simp [h, Nat.sub_add_cancel h]
  · simp [h]
theorem fdiv_nat (x k : Nat) : ((x : Int)).fdiv (2 ^ k) = ((x / 2 ^ k : Nat) : Int) := by
  rw [Int.fdiv_eq_ediv_of_nonneg _ (Int.le_of_lt (Int.pow_pos (by decide)))]
  norm_cast
theorem xor_low (x k : Nat) : bXor (x : Int) (((x : Int)).fdiv (2 ^ k) * 2 ^ k) = ((x % 2 ^ k : Nat) : Int) := by
  have e : ((x : Int)).fdiv (2 ^ k) * 2 ^ k = ((x / 2 ^ k * 2 ^ k : Nat) : Int) := by rw [fdiv_nat]; norm_cast
  rw [e]
  unfold bXor
  rw [bitXor_and]
  have ha : PySem.Builtin.bitAnd (x : Int) ((x / 2 ^ k * 2 ^ k : Nat) : Int) = ((x &&& (x / 2 ^ k * 2 ^ k) : Nat) : Int) := by
    unfold PySem.Builtin.bitAnd
    rw [decide_eq_true (Int.natCast_nonneg x), decide_eq_true (Int.natCast_nonneg _)]
    rfl
  rw [ha, land_high]
  have := Nat.div_add_mod x (2 ^ k)
  rw [Nat.mul_comm] at this
  lia
theorem setV_len (xs : List Value) (i : Nat) (v : Value) : (setV xs i v).length = xs.length := by rw [setV_eq]; simp
theorem itemAt_setV : ∀ (xs : List Value) (i j : Nat) (v : Value), i < xs.length → itemAt (setV xs i v) j = if j = i then v else itemAt xs j
  | [], i, j, v, h => by simp at h
  | x :: xs, 0, 0, v, _ => rfl
  | x :: xs, 0, j + 1, v, _ => rfl
  | x :: xs, i + 1, 0, v, _ => rfl
  | x :: xs, i + 1, j + 1, v, h => by
    have := itemAt_setV xs i j v (by simpa using h)
    simp only [setV, itemAt, this, Nat.add_right_cancel_iff]
structure IP (x L R n : Int) (xs : List Value) (m : Nat) : Prop where
  x0 : 0 ≤ x
  L0 : 0 ≤ L
  LR : L < R
  Rl : R ≤ xs.length
  km : R - L ≤ ((2 ^ m : Nat) : Int)
  n0 : 0 < n
  n1 : n ≤ 4000
  xl : x < 2 ^ ((n * (R - L)).toNat)
  len : xs.length ≤ 5000
structure IR (x L R n : Int) (xs ys : List Value) : Prop where
  len : ys.length = xs.length
  out : ∀ i : Nat, i < L.toNat ∨ R.toNat ≤ i → itemAt ys i = itemAt xs i
  dig : ∀ j : Nat, L.toNat + j < R.toNat → ∃ t, itemAt ys (L.toNat + j) = .int ((x.toNat / 2 ^ (n.toNat * j) % 2 ^ n.toNat : Nat) : Int) t
theorem IP.lift {x L R n : Int} {xs : List Value} {m : Nat} (h : IP x L R n xs m) : ∃ X l k N : Nat, x = X ∧ L = l ∧ R = l + k ∧ n = N ∧ 0 < k ∧ k ≤ 2 ^ m ∧ 0 < N ∧ N ≤ 4000 ∧ X < 2 ^ (N * k) ∧ l + k ≤ xs.length := by
  obtain ⟨a1, a2, a3, a4, a5, a6, a7, a8, a9⟩ := h
  obtain ⟨X, rfl⟩ := Int.eq_ofNat_of_zero_le a1
  obtain ⟨l, rfl⟩ := Int.eq_ofNat_of_zero_le a2
  obtain ⟨N, rfl⟩ := Int.eq_ofNat_of_zero_le (Int.le_of_lt a6)
  obtain ⟨k, hk⟩ := Int.eq_ofNat_of_zero_le (show 0 ≤ R - l by lia)
  obtain rfl : R = l + k := by lia
  refine ⟨X, l, k, N, rfl, rfl, rfl, rfl, by lia, by lia, by lia, by lia, ?_, by lia⟩
  rw [show ((N : Int) * ((l : Int) + k - l)).toNat = N * k by rw [show ((l : Int) + k - l) = k by lia]; norm_cast] at a8
  exact_mod_cast a8
theorem IR.leaf {x L R n : Int} {xs : List Value} {m : Nat} (h : IP x L R n xs m) (e : L + 1 = R) (t : Tok) : IR x L R n xs (setV xs L.toNat (.int x t)) := by
  obtain ⟨X, l, k, N, rfl, rfl, rfl, rfl, k0, _, N0, _, hX, hl⟩ := h.lift
  obtain rfl : k = 1 := by lia
  simp only [Int.toNat_natCast]
  have hR : ((l : Int) + (1 : Nat)).toNat = l + 1 := by lia
  refine ⟨setV_len .., fun i hi => ?_, fun j hj => ?_⟩
  · rw [itemAt_setV _ _ _ _ (by lia), if_neg (by simp only [Int.toNat_natCast, hR] at hi; lia)]
  · simp only [Int.toNat_natCast, hR] at hj ⊢
    obtain rfl : j = 0 := by lia
    rw [itemAt_setV _ _ _ _ (by lia), if_pos (by lia)]
    refine ⟨t, ?_⟩
    rw [Nat.mul_zero, Nat.pow_zero, Nat.div_one, Nat.mod_eq_of_lt (by simpa using hX)]
structure Mid (L R mid n : Int) (l k1 k2 N : Nat) : Prop where
  hL : L = l
  hR : R = l + k1 + k2
  hm : mid = l + k1
  hn : n = N
  p1 : 0 < k1
  p2 : 0 < k2
  h1 : k1 ≤ k2
  h2 : k2 ≤ k1 + 1
theorem mid_of {L R n : Int} (h0 : 0 ≤ L) (h1 : L < R) (h2 : L + 1 ≠ R) (hn : 0 < n) : ∃ l k1 k2 N : Nat, Mid L R (Int.fdiv (L + R) (2 ^ Int.toNat 1)) n l k1 k2 N := by
  have e : Int.fdiv (L + R) (2 ^ Int.toNat 1) = (L + R) / 2 := by
    rw [Int.fdiv_eq_ediv_of_nonneg _ (by decide)]
    rfl
  rw [e]
  have b1 : L < (L + R) / 2 := by lia
  have b2 : (L + R) / 2 < R := by lia
  obtain ⟨l, rfl⟩ := Int.eq_ofNat_of_zero_le h0
  obtain ⟨N, rfl⟩ := Int.eq_ofNat_of_zero_le (Int.le_of_lt hn)
  obtain ⟨k1, hk1⟩ := Int.eq_ofNat_of_zero_le (show 0 ≤ ((l : Int) + R) / 2 - l by lia)
  obtain ⟨k2, hk2⟩ := Int.eq_ofNat_of_zero_le (show 0 ≤ R - ((l : Int) + R) / 2 by lia)
  exact ⟨l, k1, k2, N, rfl, by lia, by lia, rfl, by lia, by lia, by lia, by lia⟩
theorem mod_div_mod {X s a N : Nat} (h : a + N ≤ s) : X % 2 ^ s / 2 ^ a % 2 ^ N = X / 2 ^ a % 2 ^ N := by
  have e : (2 : Nat) ^ s = 2 ^ a * 2 ^ (s - a) := by rw [← Nat.pow_add]; congr 1; lia
  rw [e, Nat.mod_mul_right_div_self, Nat.mod_mod_of_dvd]
  exact Nat.pow_dvd_pow 2 (by lia)
section node
variable {x L R n mid : Int} {xs ys zs : List Value} {m l k1 k2 N : Nat}
theorem shift_eq (M : Mid L R mid n l k1 k2 N) : ((mid - L) * n).toNat = N * k1 := by
  obtain ⟨rfl, rfl, rfl, rfl, _, _, _, _⟩ := M
  rw [show ((l : Int) + k1 - l) = k1 by lia, Nat.mul_comm]
  norm_cast
theorem low_eq (M : Mid L R mid n l k1 k2 N) (h0 : 0 ≤ x) : bXor x (x.fdiv (2 ^ ((mid - L) * n).toNat) * 2 ^ ((mid - L) * n).toNat) = ((x.toNat % 2 ^ (N * k1) : Nat) : Int) := by
  obtain ⟨X, rfl⟩ := Int.eq_ofNat_of_zero_le h0
  rw [shift_eq M, xor_low]
  rfl
theorem up_eq (M : Mid L R mid n l k1 k2 N) (h0 : 0 ≤ x) : x.fdiv (2 ^ ((mid - L) * n).toNat) = ((x.toNat / 2 ^ (N * k1) : Nat) : Int) := by
  obtain ⟨X, rfl⟩ := Int.eq_ofNat_of_zero_le h0
  rw [shift_eq M, fdiv_nat]
  rfl
theorem node_low (h : IP x L R n xs (m + 1)) (M : Mid L R mid n l k1 k2 N) : IP (bXor x (x.fdiv (2 ^ ((mid - L) * n).toNat) * 2 ^ ((mid - L) * n).toNat)) L mid n xs m := by
  rw [low_eq M h.x0]
  have hs := shift_eq M
  have h' := h
  obtain ⟨hL, hR, hm, hn, p1, p2, p3, p4⟩ := M
  obtain ⟨a1, a2, a3, a4, a5, a6, a7, a8, a9⟩ := h
  have hp := Nat.pow_succ (n := 2) (m := m)
  refine ⟨Int.natCast_nonneg _, a2, by lia, by lia, by lia, a6, a7, ?_, a9⟩
  rw [show (n * (mid - L)).toNat = N * k1 by rw [Int.mul_comm]; exact hs]
  have := Nat.mod_lt x.toNat (Nat.pow_pos (n := N * k1) (show 0 < 2 by decide))
  exact_mod_cast this
theorem node_up (h : IP x L R n xs (m + 1)) (M : Mid L R mid n l k1 k2 N) (hlen : ys.length = xs.length) : IP (x.fdiv (2 ^ ((mid - L) * n).toNat)) mid R n ys m := by
  rw [up_eq M h.x0]
  obtain ⟨X, l', k, N', rfl, e1, e2, e3, _, _, _, _, hX, _⟩ := h.lift
  obtain ⟨hL, hR, hm, hn, p1, p2, p3, p4⟩ := M
  obtain ⟨a1, a2, a3, a4, a5, a6, a7, a8, a9⟩ := h
  have hp := Nat.pow_succ (n := 2) (m := m)
  refine ⟨Int.natCast_nonneg _, by lia, by lia, by lia, by lia, a6, a7, ?_, by lia⟩
  obtain rfl : N' = N := by lia
  obtain rfl : k = k1 + k2 := by lia
  rw [show (n * (R - mid)).toNat = N' * k2 by rw [hn, show R - mid = k2 by lia]; norm_cast]
  have : X / 2 ^ (N' * k1) < 2 ^ (N' * k2) := by
    rw [Nat.div_lt_iff_lt_mul (Nat.pow_pos (by decide)), ← Nat.pow_add, ← Nat.mul_add, Nat.add_comm k2 k1]
    exact hX
  exact_mod_cast this
theorem IR.node (h : IP x L R n xs (m + 1)) (M : Mid L R mid n l k1 k2 N) (h1 : IR (bXor x (x.fdiv (2 ^ ((mid - L) * n).toNat) * 2 ^ ((mid - L) * n).toNat)) L mid n xs ys)
    (h2 : IR (x.fdiv (2 ^ ((mid - L) * n).toNat)) mid R n ys zs) : IR x L R n xs zs := by
  rw [low_eq M h.x0] at h1
  rw [up_eq M h.x0] at h2
  obtain ⟨hL, hR, hm, hn, p1, p2, p3, p4⟩ := M
  subst hL hR hm hn
  have tL : ((l : Int)).toNat = l := by lia
  have tm : ((l : Int) + k1).toNat = l + k1 := by lia
  have tR : ((l : Int) + k1 + k2).toNat = l + k1 + k2 := by lia
  have tn : ((N : Int)).toNat = N := by lia
  obtain ⟨b1, b2, b3⟩ := h1
  obtain ⟨c1, c2, c3⟩ := h2
  simp only [tL, tm, tR, tn, Int.toNat_natCast] at b2 b3 c2 c3
  refine ⟨c1.trans b1, fun i hi => ?_, fun j hj => ?_⟩
  · simp only [tL, tR] at hi
    rw [c2 i (by lia), b2 i (by lia)]
  · simp only [tL, tR, tn] at hj ⊢
    by_cases hj1 : j < k1
    · obtain ⟨t, e⟩ := b3 j (by lia)
      refine ⟨t, ?_⟩
      rw [c2 (l + j) (by lia), e, mod_div_mod]
      have : N * (j + 1) ≤ N * k1 := Nat.mul_le_mul_left _ hj1
      rw [Nat.mul_succ] at this
      exact this
    · obtain ⟨t, e⟩ := c3 (j - k1) (by lia)
      refine ⟨t, ?_⟩
      rw [show l + k1 + (j - k1) = l + j by lia] at e
      rw [e, Nat.div_div_eq_div_mul, ← Nat.pow_add, ← Nat.mul_add, show k1 + (j - k1) = j by lia]
end node
noncomputable def dv (N : Nat) (xs : List Value) : Nat → Nat → Int
  | _, 0 => 0
  | L, k + 1 => shI (itemAt xs L) + 2 ^ N * dv N xs (L + 1) k
theorem dv_split (N : Nat) (xs : List Value) : ∀ (a b L : Nat), dv N xs L (a + b) = dv N xs L a + 2 ^ (N * a) * dv N xs (L + a) b
  | 0, b, L => by simp [dv]
  | a + 1, b, L => by
    rw [show a + 1 + b = (a + b) + 1 by lia, dv, dv, dv_split N xs a b (L + 1), Nat.mul_succ, Int.pow_add, show L + 1 + a = L + (a + 1) by lia]
    rw [Int.mul_add, Int.add_assoc, ← Int.mul_assoc, Int.mul_comm (2 ^ N) (2 ^ (N * a))]
theorem dv_digits {N X : Nat} {ys : List Value} : ∀ (k L j : Nat), (∀ i, i < k → ∃ t, itemAt ys (L + i) = .int ((X / 2 ^ (N * (j + i)) % 2 ^ N : Nat) : Int) t) → dv N ys L k = ((X / 2 ^ (N * j) % 2 ^ (N * k) : Nat) : Int)
  | 0, L, j, _ => by simp [dv, Nat.mod_one]
  | k + 1, L, j, h => by
    obtain ⟨t, e⟩ := h 0 (by lia)
    have ih := dv_digits (N := N) (X := X) (ys := ys) k (L + 1) (j + 1) (fun i hi => by
      obtain ⟨t, e⟩ := h (i + 1) (by lia)
      exact ⟨t, by rw [show L + 1 + i = L + (i + 1) by lia, e, show j + 1 + i = j + (i + 1) by lia]⟩)
    rw [dv, ih, show L = L + 0 by lia, e]
    show ((X / 2 ^ (N * (j + 0)) % 2 ^ N : Nat) : Int) + _ = _
    rw [Nat.add_zero, Nat.mul_succ, Nat.pow_add, ← Nat.div_div_eq_div_mul, Nat.mul_succ, show (2 : Nat) ^ (N * k + N) = 2 ^ N * 2 ^ (N * k) from by rw [Nat.pow_add, Nat.mul_comm], Nat.mod_mul]
    push_cast
    rfl
noncomputable def Digs (N : Nat) (xs : List Value) (L k : Nat) : Prop := ∀ i, i < k → ∃ v t, itemAt xs (L + i) = .int v t ∧ 0 ≤ v ∧ v < 2 ^ N
theorem dv_bound {N : Nat} {xs : List Value} : ∀ (k L : Nat), Digs N xs L k → 0 ≤ dv N xs L k ∧ dv N xs L k < 2 ^ (N * k)
  | 0, L, _ => by simp [dv]
  | k + 1, L, h => by
    obtain ⟨v, t, e, h0, h1⟩ := h 0 (by lia)
    have ih := dv_bound k (L + 1) (fun i hi => by
      obtain ⟨v, t, e, h0, h1⟩ := h (i + 1) (by lia)
      exact ⟨v, t, by rw [show L + 1 + i = L + (i + 1) by lia]; exact e, h0, h1⟩)
    rw [dv, show itemAt xs L = itemAt xs (L + 0) by rfl, e]
    have hp : (0 : Int) < 2 ^ N := Int.pow_pos (by decide)
    refine ⟨Int.add_nonneg h0 (Int.mul_nonneg (Int.le_of_lt hp) ih.1), ?_⟩
    rw [Nat.mul_succ, Int.pow_add, Int.mul_comm (2 ^ (N * k))]
    have : 2 ^ N * (dv N xs (L + 1) k + 1) ≤ 2 ^ N * 2 ^ (N * k) := Int.mul_le_mul_of_nonneg_left (by lia) (Int.le_of_lt hp)
    rw [Int.mul_add] at this
    show v + _ < _
    lia
structure DP (L R n : Int) (xs : List Value) (m : Nat) : Prop where
  L0 : 0 ≤ L
  LR : L < R
  Rl : R ≤ xs.length
  km : R - L ≤ ((2 ^ m : Nat) : Int)
  n0 : 0 < n
  n1 : n ≤ 4000
  len : xs.length ≤ 5000
  dg : Digs n.toNat xs 0 xs.length
theorem DP.leaf {L R n : Int} {xs : List Value} {m : Nat} (h : DP L R n xs m) (e : L + 1 = R) : shI (itemAt xs L.toNat) = dv n.toNat xs L.toNat (R - L).toNat := by
  rw [show (R - L).toNat = 0 + 1 by lia, dv, dv]
  simp
theorem DP.item {L R n : Int} {xs : List Value} {m : Nat} (h : DP L R n xs m) : itemAt xs L.toNat = shape 1 (itemAt xs L.toNat) := by
  obtain ⟨v, t, e, _⟩ := h.dg L.toNat (by have := h.L0; have := h.LR; have := h.Rl; lia)
  rw [Nat.zero_add] at e
  rw [e]; rfl
section
variable {L R n mid : Int} {xs : List Value} {m l k1 k2 N : Nat}
theorem DP.low (h : DP L R n xs (m + 1)) (M : Mid L R mid n l k1 k2 N) : DP L mid n xs m := by
  obtain ⟨hL, hR, hm, hn, p1, p2, p3, p4⟩ := M
  obtain ⟨a2, a3, a4, a5, a6, a7, a8, a9⟩ := h
  have hp := Nat.pow_succ (n := 2) (m := m)
  exact ⟨a2, by lia, by lia, by lia, a6, a7, a8, a9⟩
theorem DP.up (h : DP L R n xs (m + 1)) (M : Mid L R mid n l k1 k2 N) : DP mid R n xs m := by
  obtain ⟨hL, hR, hm, hn, p1, p2, p3, p4⟩ := M
  obtain ⟨a2, a3, a4, a5, a6, a7, a8, a9⟩ := h
  have hp := Nat.pow_succ (n := 2) (m := m)
  exact ⟨by lia, by lia, by lia, by lia, a6, a7, a8, a9⟩
theorem DP.sum (h : DP L R n xs (m + 1)) (M : Mid L R mid n l k1 k2 N) : dv n.toNat xs mid.toNat (R - mid).toNat * 2 ^ ((mid - L) * n).toNat + dv n.toNat xs L.toNat (mid - L).toNat = dv n.toNat xs L.toNat (R - L).toNat := by
  rw [shift_eq M]
  obtain ⟨hL, hR, hm, hn, p1, p2, p3, p4⟩ := M
  subst hL hR hm hn
  rw [show ((l : Int) + k1 + k2 - (l + k1)).toNat = k2 by lia, show ((l : Int) + k1 - l).toNat = k1 by lia, show ((l : Int) + k1 + k2 - l).toNat = k1 + k2 by lia,
    show ((l : Int) + k1).toNat = l + k1 by lia, Int.toNat_natCast, Int.toNat_natCast, dv_split, Int.mul_comm, Int.add_comm]
theorem DP.bits (h : DP L R n xs m) (h12 : m ≤ 3) : (intBits (dv n.toNat xs L.toNat (R - L).toNat) : Int) ≤ 32000 := by
  have b := dv_bound (R - L).toNat L.toNat (N := n.toNat) (xs := xs) (fun i hi => by
    obtain ⟨v, t, e, h0, h1⟩ := h.dg (L.toNat + i) (by have := h.L0; have := h.LR; have := h.Rl; lia)
    exact ⟨v, t, by rw [← e, Nat.zero_add], h0, h1⟩)
  have hk : (R - L).toNat ≤ 8 := by
    have := h.km
    have : (2 : Nat) ^ m ≤ 2 ^ 3 := Nat.pow_le_pow_right (by decide) h12
    lia
  have hN : n.toNat * (R - L).toNat ≤ 32000 := by
    have := h.n1
    have := h.n0
    calc n.toNat * (R - L).toNat ≤ 4000 * 8 := Nat.mul_le_mul (by lia) hk
      _ = 32000 := rfl
  have : intBits (dv n.toNat xs L.toNat (R - L).toNat) ≤ n.toNat * (R - L).toNat := intBits_le_iff.mpr (by
    obtain ⟨b0, b1⟩ := b
    have : ((dv n.toNat xs L.toNat (R - L).toNat).natAbs : Int) < ((2 ^ (n.toNat * (R - L).toNat) : Nat) : Int) := by
      rw [Int.natAbs_of_nonneg b0]; push_cast; exact b1
    exact_mod_cast this)
  lia
end
section
variable {x L R n mid : Int} {xs ys zs : List Value} {m l k1 k2 N : Nat}
theorem ob_mul (M : Mid L R mid n l k1 k2 N) (hR : R ≤ 5000) : IntMulOk (mid - L) n := by
  refine IntMulOk.of_left (intBits_le_64 ?_ ?_) <;> (obtain ⟨hL, hR, hm, hn, p1, p2, p3, p4⟩ := M; lia)
theorem ob_sh (M : Mid L R mid n l k1 k2 N) : 0 ≤ (mid - L) * n := by
  obtain ⟨hL, hR, hm, hn, p1, p2, p3, p4⟩ := M
  exact Int.mul_nonneg (by lia) (by lia)
theorem sh_le (M : Mid L R mid n l k1 k2 N) (hR : R ≤ 5000) (hn : n ≤ 4000) : (mid - L) * n ≤ 20000000 := by
  have hz := ob_sh M
  have e := shift_eq M
  obtain ⟨hL, hR', hm, hn', p1, p2, p3, p4⟩ := M
  have : N * k1 ≤ 4000 * 5000 := Nat.mul_le_mul (by lia) (by lia)
  lia
theorem ob_lsh (h : IP x L R n xs (m + 1)) (M : Mid L R mid n l k1 k2 N) : 0 ≤ (mid - L) * n ∧ (intBits (x.fdiv (2 ^ ((mid - L) * n).toNat)) : Int) + (mid - L) * n ≤ 2 ^ 27 := by
  have hR : R ≤ 5000 := by have := h.Rl; have := h.len; lia
  refine ⟨ob_sh M, ?_⟩
  have h2 := node_up h M rfl
  have h3 := sh_le M hR h.n1
  obtain ⟨X, l', k, N', e0, e1, e2, e3, p1', _, p3', p4', hX, _⟩ := h2.lift
  rw [e0]
  have : intBits (X : Int) ≤ N' * k := intBits_le_iff.mpr (by simpa using hX)
  have hk : N' * k ≤ 4000 * 5000 := Nat.mul_le_mul p4' (by have := h2.Rl; have := h2.L0; have := h2.len; lia)
  lia
end
noncomputable def cntI (a n : Int) : Int := Int.fdiv ((intBits a : Nat) + n - 1) n
structure I2P (a n : Int) : Prop where
  a0 : 0 ≤ a
  n0 : 0 < n
  n1 : n ≤ 4000
  k : cntI a n ≤ 8
structure I2R (a n : Int) (xs : List Value) : Prop where
  len : xs.length ≤ 8
  v : dv n.toNat xs 0 xs.length = a
  d : Digs n.toNat xs 0 xs.length
  ne : a = 0 → xs = []
theorem intBits_zero : intBits 0 = 0 := by decide
theorem cnt_lift {a n : Int} (h : I2P a n) : ∃ X N K : Nat, a = X ∧ n = N ∧ cntI a n = K ∧ 0 < N ∧ K ≤ 8 ∧ X < 2 ^ (N * K) ∧ (0 < X → 0 < K) ∧ (X = 0 → K = 0) := by
  obtain ⟨h1, h2, h3, h4⟩ := h
  obtain ⟨X, rfl⟩ := Int.eq_ofNat_of_zero_le h1
  obtain ⟨N, rfl⟩ := Int.eq_ofNat_of_zero_le (Int.le_of_lt h2)
  have hN : 0 < N := by lia
  have e : cntI X N = (((intBits (X : Int) + N - 1) / N : Nat) : Int) := by
    unfold cntI
    rw [show (((intBits (X : Int) : Nat) : Int) + (N : Int) - 1) = ((intBits (X : Int) + N - 1 : Nat) : Int) by lia, Int.fdiv_eq_ediv_of_nonneg _ (by lia)]
    norm_cast
  rw [e] at h4 ⊢
  refine ⟨X, N, _, rfl, rfl, rfl, hN, by exact_mod_cast h4, ?_, ?_, ?_⟩
  · have hb := intBits_le_iff (m := intBits (X : Int)) (x := (X : Int)) |>.mp (Nat.le_refl _)
    have hb : X < 2 ^ intBits (X : Int) := by simpa using hb
    refine Nat.lt_of_lt_of_le hb (Nat.pow_le_pow_right (by decide) ?_)
    have := Nat.div_add_mod (intBits (X : Int) + N - 1) N
    have := Nat.mod_lt (intBits (X : Int) + N - 1) hN
    lia
  · intro hX
    have : 0 < intBits (X : Int) := by
      apply Nat.pos_of_ne_zero
      intro h0
      have := (intBits_le_iff (m := 0) (x := (X : Int))).mp (by lia)
      simp at this
      lia
    exact Nat.div_pos (by lia) hN
  · rintro rfl
    rw [show ((0 : Nat) : Int) = 0 from rfl, intBits_zero, Nat.zero_add]
    exact Nat.div_eq_of_lt (by lia)
theorem repV_one (v : Value) (k : Nat) : repV ([v] ++ []) k = List.replicate k v := by
  induction k with
  | zero => rfl
  | succ k ih => rw [repV, ih]; rfl
theorem i2_mul {a n : Int} (h : I2P a n) (v : Value) : 0 ≤ cntI a n ∧ cntI a n ≤ sizeLine ∧ List.length ([v] ++ []) * (cntI a n).toNat ≤ sizeLine ∧ [v] ++ [] ≠ [] := by
  obtain ⟨X, N, K, _, _, e, _, hK, _⟩ := cnt_lift h
  rw [e]
  have : (8 : Nat) ≤ sizeLine := by decide
  refine ⟨by lia, by lia, ?_, by simp⟩
  simp
  lia
theorem i2_zero {a n : Int} (h : I2P a n) (ha : a = 0) (v : Value) : I2R a n (repV ([v] ++ []) (cntI a n).toNat) := by
  obtain ⟨X, N, K, e1, e2, e, _, hK, _, _, h0⟩ := cnt_lift h
  have : K = 0 := h0 (by lia)
  rw [e, this, ha]
  exact ⟨by simp [repV], by simp [repV, dv], fun i hi => by simp [repV] at hi, fun _ => by simp [repV]⟩
theorem i2_IP {a n : Int} (h : I2P a n) (ha : a ≠ 0) (v : Value) : IP a 0 ((repV ([v] ++ []) (cntI a n).toNat).length : Int) n (repV ([v] ++ []) (cntI a n).toNat) 3 := by
  obtain ⟨X, N, K, e1, e2, e, hN, hK, hX, hp, _⟩ := cnt_lift h
  rw [e, repV_one, Int.toNat_natCast, List.length_replicate]
  have := hp (by have := h.a0; lia)
  refine ⟨h.a0, Int.le_refl _, by lia, by simp, by show (K : Int) - 0 ≤ ((8 : Nat) : Int); lia, h.n0, h.n1, ?_, by simp; lia⟩
  rw [e1, e2, show ((N : Int) * ((K : Int) - 0)).toNat = N * K by rw [Int.sub_zero]; norm_cast]
  exact_mod_cast hX
theorem i2_len {a n : Int} (h : I2P a n) (v : Value) : List.length (repV ([v] ++ []) (cntI a n).toNat) ≤ sizeLine := by
  obtain ⟨X, N, K, e1, e2, e, hN, hK, hX, hp, _⟩ := cnt_lift h
  have : (8 : Nat) ≤ sizeLine := by decide
  rw [e, repV_one, Int.toNat_natCast, List.length_replicate]
  lia
theorem i2_done {a n : Int} (h : I2P a n) (ha : a ≠ 0) {v : Value} {ys : List Value} (hr : IR a 0 ((repV ([v] ++ []) (cntI a n).toNat).length : Int) n (repV ([v] ++ []) (cntI a n).toNat) ys) : I2R a n ys := by
  obtain ⟨X, N, K, e1, e2, e, hN, hK, hX, hp, _⟩ := cnt_lift h
  rw [e, repV_one, Int.toNat_natCast, List.length_replicate] at hr
  obtain ⟨b1, b2, b3⟩ := hr
  rw [List.length_replicate] at b1
  subst e1 e2
  simp only [Int.toNat_natCast, show ((0 : Int)).toNat = 0 from rfl, Nat.zero_add] at b3
  have hd : ∀ i, i < K → ∃ t, itemAt ys (0 + i) = .int ((X / 2 ^ (N * (0 + i)) % 2 ^ N : Nat) : Int) t := fun i hi => by
    obtain ⟨t, e⟩ := b3 i hi
    exact ⟨t, by rw [Nat.zero_add, e]⟩
  refine ⟨by lia, ?_, ?_, fun h => absurd h ha⟩
  · rw [b1, Int.toNat_natCast, dv_digits K 0 0 hd, Nat.mul_zero, Nat.pow_zero, Nat.div_one, Nat.mod_eq_of_lt hX]
  · rw [b1, Int.toNat_natCast]
    intro i hi
    obtain ⟨t, e⟩ := hd i hi
    refine ⟨_, t, e, Int.natCast_nonneg _, ?_⟩
    have := Nat.mod_lt (X / 2 ^ (N * (0 + i))) (Nat.pow_pos (n := N) (show 0 < 2 by decide))
    exact_mod_cast this
theorem noPy {x y : Int} {k : Nat} (hk : k ≤ 9000) (h : y.natAbs < 2 ^ k) : Builtin.divisionGoesByPylong x y = false := by
  refine PyProof.noPylong_of_log2 ?_
  by_cases h0 : y.natAbs = 0
  · rw [h0]; decide +kernel
  · exact Nat.lt_of_lt_of_le ((Nat.log2_lt h0).mpr h) hk
theorem noPy_n {a n : Int} (h : I2P a n) (x : Int) : n ≠ 0 ∧ Builtin.divisionGoesByPylong x n = false := by
  have := h.n0; have := h.n1
  exact ⟨by lia, noPy (k := 12) (by decide) (by lia)⟩
theorem ob_lshD {L R n mid : Int} {xs : List Value} {m l k1 k2 N : Nat} (h : DP L R n xs (m + 1)) (hm : m ≤ 3) (M : Mid L R mid n l k1 k2 N) {v : Int} (hv : v = dv n.toNat xs mid.toNat (R - mid).toNat) :
    0 ≤ (mid - L) * n ∧ (intBits v : Int) + (mid - L) * n ≤ 2 ^ 27 := by
  have h1 := (h.up M).bits hm
  have h2 := sh_le M (by have := h.Rl; have := h.len; lia) h.n1
  rw [← hv] at h1
  exact ⟨ob_sh M, by lia⟩
theorem DP.len' {L R n : Int} {xs : List Value} {m : Nat} (h : DP L R n xs m) : (0 ≤ L ∧ L.toNat < xs.length ∧ xs.length ≤ sizeLine) ∧ itemAt xs L.toNat = shape 1 (itemAt xs L.toNat) := by
  have h5 : (5000 : Nat) ≤ sizeLine := by decide
  have := h.L0; have := h.LR; have := h.Rl; have := h.len
  exact ⟨⟨h.L0, by lia, by lia⟩, h.item⟩
theorem d2_DP {n : Int} {xs : List Value} (hn : 0 < n) (h1 : n ≤ 4000) (hl : xs.length ≤ 8) (h0 : 0 < xs.length) (hd : Digs n.toNat xs 0 xs.length) : DP 0 (xs.length : Int) n xs 3 :=
  ⟨Int.le_refl _, by lia, by lia, by show (xs.length : Int) - 0 ≤ ((8 : Nat) : Int); lia, hn, h1, by lia, hd⟩
structure D2P (n : Int) (xs : List Value) : Prop where
  n0 : 0 < n
  n1 : n ≤ 4000
  len : xs.length ≤ 8
  dg : Digs n.toNat xs 0 xs.length
theorem DP.sum' {L R n mid : Int} {xs : List Value} {m l k1 k2 N : Nat} (h : DP L R n xs (m + 1)) (M : Mid L R mid n l k1 k2 N) {v1 v2 : Int} (e1 : v1 = dv n.toNat xs mid.toNat (R - mid).toNat) (e2 : v2 = dv n.toNat xs L.toNat (mid - L).toNat) :
    v1 * 2 ^ ((mid - L) * n).toNat + v2 = dv n.toNat xs L.toNat (R - L).toNat := by
  rw [e1, e2, DP.sum h M]
end Mine
end
section

namespace Mine
open PySem PySem.Spec PySem.Calls PyProof.Rows PySem.W PySem.W.X PySem.Builtin.Str
noncomputable def s_inner : Str := ⟨#[105, 110, 110, 101, 114]⟩
noncomputable def s_a_digits : Str := ⟨#[97, 95, 100, 105, 103, 105, 116, 115]⟩
noncomputable def s_digits : Str := ⟨#[100, 105, 103, 105, 116, 115]⟩
noncomputable def s_a : Str := ⟨#[97]⟩
noncomputable def s_n : Str := ⟨#[110]⟩
noncomputable def s_x : Str := ⟨#[120]⟩
noncomputable def s_b : Str := ⟨#[98]⟩
noncomputable def s_r : Str := ⟨#[114]⟩
noncomputable def s_q_digits : Str := ⟨#[113, 95, 100, 105, 103, 105, 116, 115]⟩
noncomputable def s_a_digit : Str := ⟨#[97, 95, 100, 105, 103, 105, 116]⟩
noncomputable def s_q_digit : Str := ⟨#[113, 95, 100, 105, 103, 105, 116]⟩
noncomputable def s_innIq : Str := ⟨#[95, 105, 110, 116, 50, 100, 105, 103, 105, 116, 115, 46, 60, 108, 111, 99, 97, 108, 115, 62, 46, 105, 110, 110, 101, 114]⟩
noncomputable def s_innDq : Str := ⟨#[95, 100, 105, 103, 105, 116, 115, 50, 105, 110, 116, 46, 60, 108, 111, 99, 97, 108, 115, 62, 46, 105, 110, 110, 101, 114]⟩
noncomputable def innI (w : World) (cn ci ca ct co : Addr) : FuncData :=
  { name := s_inner, qualname := s_innIq, params := (defOf (nthS (stmtsOf (fdAt w 76)) 1)).1, body := .stmts (defOf (nthS (stmtsOf (fdAt w 76)) 1)).2.1, scope := (defOf (nthS (stmtsOf (fdAt w 76)) 1)).2.2,
    globals := 3, closure := [(s_n, cn), (s_inner, ci), (s_a_digits, ca)], defaults := .none, kwdefaults := .none, doc := .none, pyModule := (fdAt w 146).pyModule, annotations := none, code := .ref co, closureTuple := .ref ct, builtins := 0 }
noncomputable def innD (w : World) (cn ci ca ct co : Addr) : FuncData :=
  { name := s_inner, qualname := s_innDq, params := (defOf (nthS (stmtsOf (fdAt w 83)) 0)).1, body := .stmts (defOf (nthS (stmtsOf (fdAt w 83)) 0)).2.1, scope := (defOf (nthS (stmtsOf (fdAt w 83)) 0)).2.2,
    globals := 3, closure := [(s_n, cn), (s_inner, ci), (s_digits, ca)], defaults := .none, kwdefaults := .none, doc := .none, pyModule := (fdAt w 146).pyModule, annotations := none, code := .ref co, closureTuple := .ref ct, builtins := 0 }
noncomputable def S_ii (W : Wd) (dd m : Nat) : Sp (BI W) :=
  let B := BI W
  { d := dd
    c := fun q => .call (.ref (q.a 0)) ⟨[.int (q.i 0) (q.t 0), .int (q.i 1) (q.t 1), .int (q.i 2) (q.t 2)], []⟩
    P := fun q => IP (q.i 0) (q.i 1) (q.i 2) (q.i 3) (q.l 1) m
    pre := fun q => [((q.a 0),funcO (innI W.w (q.a 1) (q.a 2) (q.a 3) (q.a 4) (q.a 5)) none),((q.a 5),codeZ s_innIq (q.t 3) (q.v 0) (q.l 0)),((q.a 1),cellO (.int (q.i 3) (q.t 4))),((q.a 2),cellO (.ref (q.a 0))),((q.a 3),cellO (.ref (q.a 6))),((q.a 6),listO (q.l 1) (q.t 5))]
    R := fun q e => IR (q.i 0) (q.i 1) (q.i 2) (q.i 3) (q.l 1) (e.l 0)
    res := fun q e => .ok (.ret .none)
    out := fun q e => [((q.a 0),funcO (innI W.w (q.a 1) (q.a 2) (q.a 3) (q.a 4) (q.a 5)) none),((q.a 5),codeZ s_innIq (q.t 3) (q.v 0) (q.l 0)),((q.a 1),cellO (.int (q.i 3) (q.t 4))),((q.a 2),cellO (.ref (q.a 0))),((q.a 3),cellO (.ref (q.a 6))),((q.a 6),listO (e.l 0) (q.t 5))] }
noncomputable def on_ii : Code → View → Lt := fun c V => lt [valA (cFun c),fC V 0 0,fC V 0 1,fC V 0 2,fdTup (fdO (nthO V 0)),fdCode (fdO (nthO V 0)),cA V 4] [valT (nthV (cPos c) 0),valT (nthV (cPos c) 1),valT (nthV (cPos c) 2),qT V 1 1,cT V 2,eP V 5] [valI (nthV (cPos c) 0),valI (nthV (cPos c) 1),valI (nthV (cPos c) 2),valI (cellV (nthO V 2))] [] [nthV (sQ V 1) 0] [dropV 2 (sQ V 1),sQ V 5] []
theorem ii_leaf (W : Wd) (O : (BI W).Ok) (m : Nat) (q : Lt) (hq : (S_ii W 40 m).P q) (he : (q.i 1) + 1 = (q.i 2)) : Tri (BI W) 40 ((S_ii W 40 m).c q) ((S_ii W 40 m).pre q) ((S_ii W 40 m).post q) := by
  refine tri_f O (stdE _) [] 2000 40 (hs := hx 28 0x68421c01c7046048080040001001041041042041) (is := [1,1,1,1,1,1])
    (fun (ρ : Rho) => ob he <| ob (A := ((0 : Int) ≤ q.i 1 ∧ (q.i 1).toNat < List.length (q.l 1) ∧ List.length (q.l 1) ≤ sizeLine)) (⟨hq.L0,by have := hq.L0; have := hq.LR; have := hq.Rl; lia,by have := hq.len; exact Nat.le_trans this (by decide)⟩) <| fin (S_ii W 40 m) q (lt [] [] [] [] [] [setV (q.l 1) ((q.i 1)).toNat (.int (q.i 0) (q.t 0))] []) (IR.leaf hq he _) :) ?_
  induction W using y_0 <;> kernel_rfl
theorem ii_node1 (W : Wd) (O : (BI W).Ok) (ih : (S_ii W 40 0).Ok) (q : Lt) (l k1 k2 N : Nat) (M : Mid (q.i 1) (q.i 2) (Int.fdiv ((q.i 1) + (q.i 2)) (2 ^ Int.toNat 1)) (q.i 3) l k1 k2 N) (hq : (S_ii W 44 1).P q) (he : (q.i 1) + 1 ≠ (q.i 2)) : Tri (BI W) 44 ((S_ii W 44 1).c q) ((S_ii W 44 1).pre q) ((S_ii W 44 1).post q) := by
  refine tri_f O (stdE _) [U (S_ii W 40 0) ih on_ii] 2000 44 (hs := hx 82 0x1800c11c71c40410410411800c204104504164201b0800410410570800410415820040000410415c2000001049080040001001041041042041) (is := [0,0,0,0,0,0])
    (fun (ρ : Rho) => ob he <| ob (A := ((0 : Int) ≤ (1 : Int))) (by decide) <| ob (ob_mul M (by have := hq.Rl; have := hq.len; lia)) <| ob (ob_sh M) <| ob (ob_lsh hq M) <| ob (A := (True)) (trivial) <| ob (node_low hq M) <| fun he0 : IR (bXor (q.i 0) (Int.fdiv (q.i 0) (2 ^ Int.toNat ((Int.fdiv (q.i 1 + q.i 2) (2 ^ Int.toNat 1) - q.i 1) * q.i 3)) * 2 ^ Int.toNat ((Int.fdiv (q.i 1 + q.i 2) (2 ^ Int.toNat 1) - q.i 1) * q.i 3)) : Int) (q.i 1) (Int.fdiv (q.i 1 + q.i 2) (2 ^ Int.toNat 1) : Int) (q.i 3) (q.l 1) ((ρ.2 0).l 0) => ob (node_up hq M he0.len) <| fun he1 : IR (Int.fdiv (q.i 0) (2 ^ Int.toNat ((Int.fdiv (q.i 1 + q.i 2) (2 ^ Int.toNat 1) - q.i 1) * q.i 3)) : Int) (Int.fdiv (q.i 1 + q.i 2) (2 ^ Int.toNat 1) : Int) (q.i 2) (q.i 3) ((ρ.2 0).l 0) ((ρ.2 1).l 0) => fin (S_ii W 44 1) q (lt [] [] [] [] [] [(ρ.2 1).6 0] []) (IR.node hq M he0 he1) :) ?_
  induction W using y_0 <;> kernel_rfl
theorem ii_node2 (W : Wd) (O : (BI W).Ok) (ih : (S_ii W 44 1).Ok) (q : Lt) (l k1 k2 N : Nat) (M : Mid (q.i 1) (q.i 2) (Int.fdiv ((q.i 1) + (q.i 2)) (2 ^ Int.toNat 1)) (q.i 3) l k1 k2 N) (hq : (S_ii W 48 2).P q) (he : (q.i 1) + 1 ≠ (q.i 2)) : Tri (BI W) 48 ((S_ii W 48 2).c q) ((S_ii W 48 2).pre q) ((S_ii W 48 2).post q) := by
  refine tri_f O (stdE _) [U (S_ii W 44 1) ih on_ii] 2000 48 (hs := hx 82 0x1800c11c71c40410410411800c204104504164201b0800410410570800410415820040000410415c2000001049080040001001041041042041) (is := [0,0,0,0,0,0])
    (fun (ρ : Rho) => ob he <| ob (A := ((0 : Int) ≤ (1 : Int))) (by decide) <| ob (ob_mul M (by have := hq.Rl; have := hq.len; lia)) <| ob (ob_sh M) <| ob (ob_lsh hq M) <| ob (A := (True)) (trivial) <| ob (node_low hq M) <| fun he0 : IR (bXor (q.i 0) (Int.fdiv (q.i 0) (2 ^ Int.toNat ((Int.fdiv (q.i 1 + q.i 2) (2 ^ Int.toNat 1) - q.i 1) * q.i 3)) * 2 ^ Int.toNat ((Int.fdiv (q.i 1 + q.i 2) (2 ^ Int.toNat 1) - q.i 1) * q.i 3)) : Int) (q.i 1) (Int.fdiv (q.i 1 + q.i 2) (2 ^ Int.toNat 1) : Int) (q.i 3) (q.l 1) ((ρ.2 0).l 0) => ob (node_up hq M he0.len) <| fun he1 : IR (Int.fdiv (q.i 0) (2 ^ Int.toNat ((Int.fdiv (q.i 1 + q.i 2) (2 ^ Int.toNat 1) - q.i 1) * q.i 3)) : Int) (Int.fdiv (q.i 1 + q.i 2) (2 ^ Int.toNat 1) : Int) (q.i 2) (q.i 3) ((ρ.2 0).l 0) ((ρ.2 1).l 0) => fin (S_ii W 48 2) q (lt [] [] [] [] [] [(ρ.2 1).6 0] []) (IR.node hq M he0 he1) :) ?_
  induction W using y_0 <;> kernel_rfl
theorem ii_node3 (W : Wd) (O : (BI W).Ok) (ih : (S_ii W 48 2).Ok) (q : Lt) (l k1 k2 N : Nat) (M : Mid (q.i 1) (q.i 2) (Int.fdiv ((q.i 1) + (q.i 2)) (2 ^ Int.toNat 1)) (q.i 3) l k1 k2 N) (hq : (S_ii W 52 3).P q) (he : (q.i 1) + 1 ≠ (q.i 2)) : Tri (BI W) 52 ((S_ii W 52 3).c q) ((S_ii W 52 3).pre q) ((S_ii W 52 3).post q) := by
  refine tri_f O (stdE _) [U (S_ii W 48 2) ih on_ii] 2000 52 (hs := hx 82 0x1800c11c71c40410410411800c204104504164201b0800410410570800410415820040000410415c2000001049080040001001041041042041) (is := [0,0,0,0,0,0])
    (fun (ρ : Rho) => ob he <| ob (A := ((0 : Int) ≤ (1 : Int))) (by decide) <| ob (ob_mul M (by have := hq.Rl; have := hq.len; lia)) <| ob (ob_sh M) <| ob (ob_lsh hq M) <| ob (A := (True)) (trivial) <| ob (node_low hq M) <| fun he0 : IR (bXor (q.i 0) (Int.fdiv (q.i 0) (2 ^ Int.toNat ((Int.fdiv (q.i 1 + q.i 2) (2 ^ Int.toNat 1) - q.i 1) * q.i 3)) * 2 ^ Int.toNat ((Int.fdiv (q.i 1 + q.i 2) (2 ^ Int.toNat 1) - q.i 1) * q.i 3)) : Int) (q.i 1) (Int.fdiv (q.i 1 + q.i 2) (2 ^ Int.toNat 1) : Int) (q.i 3) (q.l 1) ((ρ.2 0).l 0) => ob (node_up hq M he0.len) <| fun he1 : IR (Int.fdiv (q.i 0) (2 ^ Int.toNat ((Int.fdiv (q.i 1 + q.i 2) (2 ^ Int.toNat 1) - q.i 1) * q.i 3)) : Int) (Int.fdiv (q.i 1 + q.i 2) (2 ^ Int.toNat 1) : Int) (q.i 2) (q.i 3) ((ρ.2 0).l 0) ((ρ.2 1).l 0) => fin (S_ii W 52 3) q (lt [] [] [] [] [] [(ρ.2 1).6 0] []) (IR.node hq M he0 he1) :) ?_
  induction W using y_0 <;> kernel_rfl
theorem ii_ok0 (W : Wd) (O : (BI W).Ok) : (S_ii W 40 0).Ok := fun q hq => ii_leaf W O 0 q hq (by have h : IP _ _ _ _ _ _ := hq; have := h.km; have := h.LR; have : ((2 ^ 0 : Nat) : Int) = 1 := rfl; lia)
theorem ii_ok1 (W : Wd) (O : (BI W).Ok) : (S_ii W 44 1).Ok := fun q hq => by
  by_cases he : (q.i 1) + 1 = (q.i 2)
  · exact (ii_leaf W O 1 q hq he).mono (by show 40 ≤ 44; decide) (fun _ _ h => h)
  · have h : IP _ _ _ _ _ _ := hq
    obtain ⟨l, k1, k2, N, M⟩ := mid_of h.L0 h.LR he h.n0
    exact ii_node1 W O (ii_ok0 W O) q l k1 k2 N M hq he
theorem ii_ok2 (W : Wd) (O : (BI W).Ok) : (S_ii W 48 2).Ok := fun q hq => by
  by_cases he : (q.i 1) + 1 = (q.i 2)
  · exact (ii_leaf W O 2 q hq he).mono (by show 40 ≤ 48; decide) (fun _ _ h => h)
  · have h : IP _ _ _ _ _ _ := hq
    obtain ⟨l, k1, k2, N, M⟩ := mid_of h.L0 h.LR he h.n0
    exact ii_node2 W O (ii_ok1 W O) q l k1 k2 N M hq he
theorem ii_ok3 (W : Wd) (O : (BI W).Ok) : (S_ii W 52 3).Ok := fun q hq => by
  by_cases he : (q.i 1) + 1 = (q.i 2)
  · exact (ii_leaf W O 3 q hq he).mono (by show 40 ≤ 52; decide) (fun _ _ h => h)
  · have h : IP _ _ _ _ _ _ := hq
    obtain ⟨l, k1, k2, N, M⟩ := mid_of h.L0 h.LR he h.n0
    exact ii_node3 W O (ii_ok2 W O) q l k1 k2 N M hq he
end Mine
end
section

namespace Mine
open PySem PySem.Spec PySem.Calls PyProof.Rows PySem.W PySem.W.X PySem.Builtin.Str
noncomputable def S_i20 (W : Wd) : Sp (BI W) :=
  let B := BI W
  { d := 60
    c := fun q => .call (.ref 76) ⟨[.int (q.i 0) (q.t 0), .int (q.i 1) (q.t 1)], []⟩
    P := fun q => I2P (q.i 0) (q.i 1)
    pre := fun q => [(71,tableObj ⟨tabVals tI.marks []⟩)]
    R := fun q e => I2R (q.i 0) (q.i 1) (e.l 0)
    res := fun q e => .ok (.ret (.ref (e.a 1)))
    out := fun q e => [(71,tableObj ⟨tabVals tI.marks [(e.a 0)]⟩),((e.a 0),codeZ s_innIq (e.t 0) (e.v 0) (e.l 1)),((e.a 1),listO (e.l 0) (e.t 1))] }
noncomputable def S_i21 (W : Wd) : Sp (BI W) :=
  let B := BI W
  { d := 60
    c := fun q => .call (.ref 76) ⟨[.int (q.i 0) (q.t 0), .int (q.i 1) (q.t 1)], []⟩
    P := fun q => I2P (q.i 0) (q.i 1)
    pre := fun q => [(71,tableObj ⟨tabVals tI.marks [(q.a 0)]⟩),((q.a 0),codeZ s_innIq (q.t 2) (q.v 0) (q.l 0))]
    R := fun q e => I2R (q.i 0) (q.i 1) (e.l 0)
    res := fun q e => .ok (.ret (.ref (e.a 0)))
    out := fun q e => [(71,tableObj ⟨tabVals tI.marks [(q.a 0)]⟩),((q.a 0),codeZ s_innIq (q.t 2) (q.v 0) (q.l 0)),((e.a 0),listO (e.l 0) (e.t 0))] }
theorem i20_z (W : Wd) (O : (BI W).Ok) (q : Lt) (hq : (S_i20 W).P q) (ha : (q.i 0) = 0) : Tri (BI W) 60 ((S_i20 W).c q) ((S_i20 W).pre q) ((S_i20 W).post q) := by
  refine tri_f O (stdE _) [] 2000 60 (hs := hx 49 0xc98200e2cb00000e38e2001040008820400410000550801000000046820050030c4100001) (is := [14,1,7])
    (fun (ρ : Rho) => ob (A := (True)) (trivial) <| ob (A := (q.i 1 ≠ (0 : Int) ∧ Builtin.divisionGoesByPylong (↑(Builtin.Int.intBits (q.i 0)) + q.i 1 - (1 : Int)) (q.i 1) = false)) (noPy_n hq _) <| ob (A := ((0 : Int) ≤ Int.fdiv (↑(Builtin.Int.intBits (q.i 0)) + q.i 1 - (1 : Int)) (q.i 1) ∧ Int.fdiv (↑(Builtin.Int.intBits (q.i 0)) + q.i 1 - (1 : Int)) (q.i 1) ≤ ↑sizeLine ∧ List.length ([Value.int (0 : Int) (ρ.1 5)]++[]) * Int.toNat (Int.fdiv (↑(Builtin.Int.intBits (q.i 0)) + q.i 1 - (1 : Int)) (q.i 1)) ≤ sizeLine ∧ [Value.int (0 : Int) (ρ.1 5)]++[] ≠ [])) (i2_mul hq _) <| ob ha <| fin (S_i20 W) q (lt [ρ.1 34,ρ.1 12] [ρ.1 15,0] [] [] [(.str (⟨#[105,110,110,101,114]⟩) (ρ.1 14))] [(repV ([Value.int 0 (ρ.1 5)]++[]) (cntI (q.i 0) (q.i 1)).toNat),[(.str (⟨#[47,99,108,97,105,109,47,99,117,116,46,112,121]⟩) (ρ.1 16)),(.int (42) (0)),(.int (3) (0)),(.int (0) (0)),(.int (0) (0)),(.int (19) (0)),(.ref (ρ.1 20)),(.bool true),(.int (276) (0)),(.ref (ρ.1 21)),.none,(.ref (ρ.1 29)),(.ref (ρ.1 30)),(.ref (ρ.1 31)),(.int (↑(ρ.n 32)) (0)),(.int (42) (0)),(.str (⟨#[47,99,108,97,105,109,47,99,117,116,46,112,121]⟩) (ρ.1 33))]] []) (i2_zero hq ha _) :) ?_
  induction W using y_0 <;> kernel_rfl
theorem i20_p (W : Wd) (O : (BI W).Ok) (q : Lt) (hq : (S_i20 W).P q) (ha : (q.i 0) ≠ 0) : Tri (BI W) 60 ((S_i20 W).c q) ((S_i20 W).pre q) ((S_i20 W).post q) := by
  refine tri_f O (stdE _) [U (S_ii W 52 3) (ii_ok3 W O) on_ii] 2000 60 (hs := hx 68 0x14620828000600304874200c00038b94200e2cb00000e38e2001040008820400410000550801000000046820050030c4100001) (is := [14,1,4])
    (fun (ρ : Rho) => ob (A := (True)) (trivial) <| ob (A := (q.i 1 ≠ (0 : Int) ∧ Builtin.divisionGoesByPylong (↑(Builtin.Int.intBits (q.i 0)) + q.i 1 - (1 : Int)) (q.i 1) = false)) (noPy_n hq _) <| ob (A := ((0 : Int) ≤ Int.fdiv (↑(Builtin.Int.intBits (q.i 0)) + q.i 1 - (1 : Int)) (q.i 1) ∧ Int.fdiv (↑(Builtin.Int.intBits (q.i 0)) + q.i 1 - (1 : Int)) (q.i 1) ≤ ↑sizeLine ∧ List.length ([Value.int (0 : Int) (ρ.1 5)]++[]) * Int.toNat (Int.fdiv (↑(Builtin.Int.intBits (q.i 0)) + q.i 1 - (1 : Int)) (q.i 1)) ≤ sizeLine ∧ [Value.int (0 : Int) (ρ.1 5)]++[] ≠ [])) (i2_mul hq _) <| ob ha <| ob (A := (List.length (repV ([Value.int (0 : Int) (ρ.1 5)]++[]) (Int.toNat (Int.fdiv (↑(Builtin.Int.intBits (q.i 0)) + q.i 1 - (1 : Int)) (q.i 1)))) ≤ sizeLine)) (i2_len hq _) <| ob (A := (IP (q.i 0) (0 : Int) (↑(List.length (repV ([Value.int 0 (ρ.n 5)]++[]) (Int.toNat (Int.fdiv (↑(Builtin.Int.intBits (q.i 0)) + q.i 1 - 1) (q.i 1))))) : Int) (q.i 1) ((repV ([Value.int 0 (ρ.1 5)]++[]) (cntI (q.i 0) (q.i 1)).toNat)) 3)) (i2_IP hq ha _) <| fun he0 : IR (q.i 0) (0 : Int) (↑(List.length (repV ([Value.int 0 (ρ.n 5)]++[]) (Int.toNat (Int.fdiv (↑(Builtin.Int.intBits (q.i 0)) + q.i 1 - 1) (q.i 1))))) : Int) (q.i 1) ((repV ([Value.int 0 (ρ.1 5)]++[]) (cntI (q.i 0) (q.i 1)).toNat)) ((ρ.2 0).l 0) => fin (S_i20 W) q (lt [ρ.1 34,ρ.1 12] [ρ.1 15,0] [] [] [(.str (⟨#[105,110,110,101,114]⟩) (ρ.1 14))] [(ρ.2 0).6 0,[(.str (⟨#[47,99,108,97,105,109,47,99,117,116,46,112,121]⟩) (ρ.1 16)),(.int (42) (0)),(.int (3) (0)),(.int (0) (0)),(.int (0) (0)),(.int (19) (0)),(.ref (ρ.1 20)),(.bool true),(.int (276) (0)),(.ref (ρ.1 21)),.none,(.ref (ρ.1 29)),(.ref (ρ.1 30)),(.ref (ρ.1 31)),(.int (↑(ρ.n 32)) (0)),(.int (42) (0)),(.str (⟨#[47,99,108,97,105,109,47,99,117,116,46,112,121]⟩) (ρ.1 33))]] []) (i2_done hq ha he0) :) ?_
  induction W using y_0 <;> kernel_rfl
theorem i20_run (W : Wd) (O : (BI W).Ok) : (S_i20 W).Ok := fun q hq => by
  by_cases ha : (q.i 0) = 0
  · exact i20_z W O q hq ha
  · exact i20_p W O q hq ha
theorem i21_z (W : Wd) (O : (BI W).Ok) (q : Lt) (hq : (S_i21 W).P q) (ha : (q.i 0) = 0) : Tri (BI W) 60 ((S_i21 W).c q) ((S_i21 W).pre q) ((S_i21 W).post q) := by
  refine tri_f O (stdE _) [] 2000 60 (hs := hx 46 0x1a60802051400002001040008820400410000550801000000046820050030c4100001) (is := [8,8,2])
    (fun (ρ : Rho) => ob (A := (True)) (trivial) <| ob (A := (q.i 1 ≠ (0 : Int) ∧ Builtin.divisionGoesByPylong (↑(Builtin.Int.intBits (q.i 0)) + q.i 1 - (1 : Int)) (q.i 1) = false)) (noPy_n hq _) <| ob (A := ((0 : Int) ≤ Int.fdiv (↑(Builtin.Int.intBits (q.i 0)) + q.i 1 - (1 : Int)) (q.i 1) ∧ Int.fdiv (↑(Builtin.Int.intBits (q.i 0)) + q.i 1 - (1 : Int)) (q.i 1) ≤ ↑sizeLine ∧ List.length ([Value.int (0 : Int) (ρ.1 5)]++[]) * Int.toNat (Int.fdiv (↑(Builtin.Int.intBits (q.i 0)) + q.i 1 - (1 : Int)) (q.i 1)) ≤ sizeLine ∧ [Value.int (0 : Int) (ρ.1 5)]++[] ≠ [])) (i2_mul hq _) <| ob ha <| fin (S_i21 W) q (lt [ρ.1 12] [0] [] [] [] [(repV ([Value.int 0 (ρ.1 5)]++[]) (cntI (q.i 0) (q.i 1)).toNat)] []) (i2_zero hq ha _) :) ?_
  induction W using y_0 <;> kernel_rfl
theorem i21_p (W : Wd) (O : (BI W).Ok) (q : Lt) (hq : (S_i21 W).P q) (ha : (q.i 0) ≠ 0) : Tri (BI W) 60 ((S_i21 W).c q) ((S_i21 W).pre q) ((S_i21 W).post q) := by
  refine tri_f O (stdE _) [U (S_ii W 52 3) (ii_ok3 W O) on_ii] 2000 60 (hs := hx 65 0x50430c52001800c109d0801800081650802051400002001040008820400410000550801000000046820050030c4100001) (is := [9,1,4])
    (fun (ρ : Rho) => ob (A := (True)) (trivial) <| ob (A := (q.i 1 ≠ (0 : Int) ∧ Builtin.divisionGoesByPylong (↑(Builtin.Int.intBits (q.i 0)) + q.i 1 - (1 : Int)) (q.i 1) = false)) (noPy_n hq _) <| ob (A := ((0 : Int) ≤ Int.fdiv (↑(Builtin.Int.intBits (q.i 0)) + q.i 1 - (1 : Int)) (q.i 1) ∧ Int.fdiv (↑(Builtin.Int.intBits (q.i 0)) + q.i 1 - (1 : Int)) (q.i 1) ≤ ↑sizeLine ∧ List.length ([Value.int (0 : Int) (ρ.1 5)]++[]) * Int.toNat (Int.fdiv (↑(Builtin.Int.intBits (q.i 0)) + q.i 1 - (1 : Int)) (q.i 1)) ≤ sizeLine ∧ [Value.int (0 : Int) (ρ.1 5)]++[] ≠ [])) (i2_mul hq _) <| ob ha <| ob (A := (List.length (repV ([Value.int (0 : Int) (ρ.1 5)]++[]) (Int.toNat (Int.fdiv (↑(Builtin.Int.intBits (q.i 0)) + q.i 1 - (1 : Int)) (q.i 1)))) ≤ sizeLine)) (i2_len hq _) <| ob (A := (IP (q.i 0) (0 : Int) (↑(List.length (repV ([Value.int 0 (ρ.n 5)]++[]) (Int.toNat (Int.fdiv (↑(Builtin.Int.intBits (q.i 0)) + q.i 1 - 1) (q.i 1))))) : Int) (q.i 1) ((repV ([Value.int 0 (ρ.1 5)]++[]) (cntI (q.i 0) (q.i 1)).toNat)) 3)) (i2_IP hq ha _) <| fun he0 : IR (q.i 0) (0 : Int) (↑(List.length (repV ([Value.int 0 (ρ.n 5)]++[]) (Int.toNat (Int.fdiv (↑(Builtin.Int.intBits (q.i 0)) + q.i 1 - 1) (q.i 1))))) : Int) (q.i 1) ((repV ([Value.int 0 (ρ.1 5)]++[]) (cntI (q.i 0) (q.i 1)).toNat)) ((ρ.2 0).l 0) => fin (S_i21 W) q (lt [ρ.1 12] [0] [] [] [] [(ρ.2 0).6 0] []) (i2_done hq ha he0) :) ?_
  induction W using y_0 <;> kernel_rfl
theorem i21_run (W : Wd) (O : (BI W).Ok) : (S_i21 W).Ok := fun q hq => by
  by_cases ha : (q.i 0) = 0
  · exact i21_z W O q hq ha
  · exact i21_p W O q hq ha
noncomputable def S_i2 (W : Wd) : Sp (BB W) :=
  let B := BB W
  { d := 60
    c := fun q => .call (.ref 76) ⟨[.int (q.i 0) (q.t 0), .int (q.i 1) (q.t 1)], []⟩
    P := fun q => I2P (q.i 0) (q.i 1)
    pre := fun q => []
    R := fun q e => I2R (q.i 0) (q.i 1) (e.l 0)
    res := fun q e => .ok (.ret (.ref (e.a 0)))
    out := fun q e => [((e.a 0),listO (e.l 0) (e.t 0))] }
noncomputable def on_i2 : Code → View → Lt := fun c V => lt [] [valT (nthV (cPos c) 0),valT (nthV (cPos c) 1)] [valI (nthV (cPos c) 0),valI (nthV (cPos c) 1)] [] [] [] []
theorem i2_ok (W : Wd) (O : (BB W).Ok) : (S_i2 W).Ok := fun q hq => by
  refine tri_loose (B := BB W) (T := tI) (tabs' := [tS, tD]) rfl (fun t => by show t ∈ [tS, tI, tD] ↔ _; simp; try exact ⟨fun h => by rcases h with h | h | h <;> simp [h], fun h => by rcases h with h | h | h <;> simp [h]⟩) (by intro t ht; simp only [List.mem_cons, List.not_mem_nil, or_false] at ht; rcases ht with rfl | rfl <;> decide) ?_
  intro as t v r hlen
  have OS : (BI W).Ok := Ok_loosen O (by decide) (by intro t ht; simp only [List.mem_cons, List.not_mem_nil, or_false] at ht; rcases ht with rfl | rfl <;> decide)
  rcases hlen with rfl | hlen
  · let q0 : Lt := lt [] [q.t 0, q.t 1] [q.i 0, q.i 1] [] [] [] []
    exact (i20_run W OS q0 hq).mono (Nat.le_refl _) (fun res V hV => by
      obtain ⟨e, hR, hr, rfl⟩ := hV
      exact ⟨[(e.a 0)], (li 0 [(e.t 0)]), (li .none [(e.v 0)]), (li [] [(e.l 1)]), [((e.a 0), codeZ s_innIq (e.t 0) (e.v 0) (e.l 1))], [((e.a 1), listO (e.l 0) (e.t 1))], [((e.a 1), listO (e.l 0) (e.t 1))], .inr rfl,
        fun p hp => hp, rfl, fun p hp => List.mem_append_right _ hp, rfl, lt [e.a 1] [e.t 1] [] [] [] [e.l 0] [], hR, hr, rfl⟩)
  · match as, hlen with
    | [x], _ =>
    let q0 : Lt := lt [x] [q.t 0, q.t 1, t 0] [q.i 0, q.i 1] [] [v 0] [r 0] []
    exact (i21_run W OS q0 hq).mono (Nat.le_refl _) (fun res V hV => by
      obtain ⟨e, hR, hr, rfl⟩ := hV
      exact ⟨[(q0.a 0)], (li 0 [(q0.t 2)]), (li .none [(q0.v 0)]), (li [] [(q0.l 0)]), [((q0.a 0), codeZ s_innIq (q0.t 2) (q0.v 0) (q0.l 0))], [((e.a 0), listO (e.l 0) (e.t 0))], [((e.a 0), listO (e.l 0) (e.t 0))], .inr rfl,
        fun p hp => hp, rfl, fun p hp => List.mem_append_right _ hp, rfl, lt [e.a 0] [e.t 0] [] [] [] [e.l 0] [], hR, hr, rfl⟩)
end Mine
end
section

namespace Mine
open PySem PySem.Spec PySem.Calls PyProof.Rows PySem.W PySem.W.X PySem.Builtin.Str
noncomputable def S_di (W : Wd) (dd m : Nat) : Sp (BD W) :=
  let B := BD W
  let pr := fun q : Lt => [((q.a 0),funcO (innD W.w (q.a 1) (q.a 2) (q.a 3) (q.a 4) (q.a 5)) none),((q.a 5),codeZ s_innDq (q.t 2) (q.v 0) (q.l 0)),((q.a 1),cellO (.int (q.i 2) (q.t 3))),((q.a 2),cellO (.ref (q.a 0))),((q.a 3),cellO (.ref (q.a 6))),((q.a 6),listO (q.l 1) (q.t 4))]
  { d := dd
    c := fun q => .call (.ref (q.a 0)) ⟨[.int (q.i 0) (q.t 0), .int (q.i 1) (q.t 1)], []⟩
    P := fun q => DP (q.i 0) (q.i 1) (q.i 2) (q.l 1) m
    pre := pr
    R := fun q e => (e.i 0) = dv (q.i 2).toNat (q.l 1) (q.i 0).toNat ((q.i 1) - (q.i 0)).toNat
    res := fun q e => .ok (.ret (.int (e.i 0) (e.t 0)))
    out := fun q e => []++(pr q).drop 0 }
noncomputable def on_di : Code → View → Lt := fun c V => lt [valA (cFun c),fC V 0 0,fC V 0 1,fC V 0 2,fdTup (fdO (nthO V 0)),fdCode (fdO (nthO V 0)),cA V 4] [valT (nthV (cPos c) 0),valT (nthV (cPos c) 1),qT V 1 1,cT V 2,eP V 5] [valI (nthV (cPos c) 0),valI (nthV (cPos c) 1),valI (cellV (nthO V 2))] [] [nthV (sQ V 1) 0] [dropV 2 (sQ V 1),sQ V 5] []
theorem di_leaf (W : Wd) (O : (BD W).Ok) (m : Nat) (q : Lt) (hq : (S_di W 40 m).P q) (he : (q.i 0) + 1 = (q.i 1)) : Tri (BD W) 40 ((S_di W 40 m).c q) ((S_di W 40 m).pre q) ((S_di W 40 m).post q) := by
  refine tri_f O (stdE _) [] 2000 40 (hs := hx 26 0x468021c01c71c1188080040001001041042041) (is := [1,1,1,1,1,1])
    (fun (ρ : Rho) => ob he <| ob (DP.len' hq) <| fin (S_di W 40 m) q (lt [] [shT (itemAt (q.l 1) ((q.i 0)).toNat)] [shI (itemAt (q.l 1) ((q.i 0)).toNat)] [] [] [] []) (DP.leaf hq he) :) ?_
  induction W using y_0 <;> kernel_rfl
theorem di_node1 (W : Wd) (O : (BD W).Ok) (ih : (S_di W 40 0).Ok) (q : Lt) (l k1 k2 N : Nat) (M : Mid (q.i 0) (q.i 1) (Int.fdiv ((q.i 0) + (q.i 1)) (2 ^ Int.toNat 1)) (q.i 2) l k1 k2 N) (hq : (S_di W 44 1).P q) (he : (q.i 0) + 1 ≠ (q.i 1)) : Tri (BD W) 44 ((S_di W 44 1).c q) ((S_di W 44 1).pre q) ((S_di W 44 1).post q) := by
  refine tri_f O (stdE _) [U (S_di W 40 0) ih on_di] 2000 44 (hs := hx 66 0x1800c11c711b0801c10410410460030810450415820040000410415c2000001049080040001001041042041) (is := [0,0,0,0,0,0])
    (fun (ρ : Rho) => ob he <| ob (A := ((0 : Int) ≤ (1 : Int))) (by decide) <| ob (ob_mul M (by have := hq.Rl; have := hq.len; lia)) <| ob (DP.up hq M) <| fun he0 : ((ρ.2 0).i 0) = dv (q.i 2).toNat (q.l 1) (Int.fdiv (q.i 0 + q.i 1) (2 ^ Int.toNat 1) : Int).toNat ((q.i 1) - (Int.fdiv (q.i 0 + q.i 1) (2 ^ Int.toNat 1) : Int)).toNat => ob (ob_lshD hq (by decide) M he0) <| ob (DP.low hq M) <| fun he1 : ((ρ.2 1).i 0) = dv (q.i 2).toNat (q.l 1) (q.i 0).toNat ((Int.fdiv (q.i 0 + q.i 1) (2 ^ Int.toNat 1) : Int) - (q.i 0)).toNat => fin (S_di W 44 1) q (lt [] [ρ.1 13] [(ρ.2 0).i 0 * 2 ^ Int.toNat ((Int.fdiv (q.i 0 + q.i 1) (2 ^ Int.toNat 1) - q.i 0) * q.i 2) + (ρ.2 1).i 0] [] [] [] []) ((DP.sum' hq M he0 he1)) :) ?_
  induction W using y_0 <;> kernel_rfl
theorem di_node2 (W : Wd) (O : (BD W).Ok) (ih : (S_di W 44 1).Ok) (q : Lt) (l k1 k2 N : Nat) (M : Mid (q.i 0) (q.i 1) (Int.fdiv ((q.i 0) + (q.i 1)) (2 ^ Int.toNat 1)) (q.i 2) l k1 k2 N) (hq : (S_di W 48 2).P q) (he : (q.i 0) + 1 ≠ (q.i 1)) : Tri (BD W) 48 ((S_di W 48 2).c q) ((S_di W 48 2).pre q) ((S_di W 48 2).post q) := by
  refine tri_f O (stdE _) [U (S_di W 44 1) ih on_di] 2000 48 (hs := hx 66 0x1800c11c711b0801c10410410460030810450415820040000410415c2000001049080040001001041042041) (is := [0,0,0,0,0,0])
    (fun (ρ : Rho) => ob he <| ob (A := ((0 : Int) ≤ (1 : Int))) (by decide) <| ob (ob_mul M (by have := hq.Rl; have := hq.len; lia)) <| ob (DP.up hq M) <| fun he0 : ((ρ.2 0).i 0) = dv (q.i 2).toNat (q.l 1) (Int.fdiv (q.i 0 + q.i 1) (2 ^ Int.toNat 1) : Int).toNat ((q.i 1) - (Int.fdiv (q.i 0 + q.i 1) (2 ^ Int.toNat 1) : Int)).toNat => ob (ob_lshD hq (by decide) M he0) <| ob (DP.low hq M) <| fun he1 : ((ρ.2 1).i 0) = dv (q.i 2).toNat (q.l 1) (q.i 0).toNat ((Int.fdiv (q.i 0 + q.i 1) (2 ^ Int.toNat 1) : Int) - (q.i 0)).toNat => fin (S_di W 48 2) q (lt [] [ρ.1 13] [(ρ.2 0).i 0 * 2 ^ Int.toNat ((Int.fdiv (q.i 0 + q.i 1) (2 ^ Int.toNat 1) - q.i 0) * q.i 2) + (ρ.2 1).i 0] [] [] [] []) ((DP.sum' hq M he0 he1)) :) ?_
  induction W using y_0 <;> kernel_rfl
theorem di_node3 (W : Wd) (O : (BD W).Ok) (ih : (S_di W 48 2).Ok) (q : Lt) (l k1 k2 N : Nat) (M : Mid (q.i 0) (q.i 1) (Int.fdiv ((q.i 0) + (q.i 1)) (2 ^ Int.toNat 1)) (q.i 2) l k1 k2 N) (hq : (S_di W 52 3).P q) (he : (q.i 0) + 1 ≠ (q.i 1)) : Tri (BD W) 52 ((S_di W 52 3).c q) ((S_di W 52 3).pre q) ((S_di W 52 3).post q) := by
  refine tri_f O (stdE _) [U (S_di W 48 2) ih on_di] 2000 52 (hs := hx 66 0x1800c11c711b0801c10410410460030810450415820040000410415c2000001049080040001001041042041) (is := [0,0,0,0,0,0])
    (fun (ρ : Rho) => ob he <| ob (A := ((0 : Int) ≤ (1 : Int))) (by decide) <| ob (ob_mul M (by have := hq.Rl; have := hq.len; lia)) <| ob (DP.up hq M) <| fun he0 : ((ρ.2 0).i 0) = dv (q.i 2).toNat (q.l 1) (Int.fdiv (q.i 0 + q.i 1) (2 ^ Int.toNat 1) : Int).toNat ((q.i 1) - (Int.fdiv (q.i 0 + q.i 1) (2 ^ Int.toNat 1) : Int)).toNat => ob (ob_lshD hq (by decide) M he0) <| ob (DP.low hq M) <| fun he1 : ((ρ.2 1).i 0) = dv (q.i 2).toNat (q.l 1) (q.i 0).toNat ((Int.fdiv (q.i 0 + q.i 1) (2 ^ Int.toNat 1) : Int) - (q.i 0)).toNat => fin (S_di W 52 3) q (lt [] [ρ.1 13] [(ρ.2 0).i 0 * 2 ^ Int.toNat ((Int.fdiv (q.i 0 + q.i 1) (2 ^ Int.toNat 1) - q.i 0) * q.i 2) + (ρ.2 1).i 0] [] [] [] []) ((DP.sum' hq M he0 he1)) :) ?_
  induction W using y_0 <;> kernel_rfl
theorem di_ok0 (W : Wd) (O : (BD W).Ok) : (S_di W 40 0).Ok := fun q hq => di_leaf W O 0 q hq (by have h : DP _ _ _ _ _ := hq; have := h.km; have := h.LR; have : ((2 ^ 0 : Nat) : Int) = 1 := rfl; lia)
theorem di_ok1 (W : Wd) (O : (BD W).Ok) : (S_di W 44 1).Ok := fun q hq => by
  by_cases he : (q.i 0) + 1 = (q.i 1)
  · exact (di_leaf W O 1 q hq he).mono (by show 40 ≤ 44; decide) (fun _ _ h => h)
  · have h : DP _ _ _ _ _ := hq
    obtain ⟨l, k1, k2, N, M⟩ := mid_of h.L0 h.LR he h.n0
    exact di_node1 W O (di_ok0 W O) q l k1 k2 N M hq he
theorem di_ok2 (W : Wd) (O : (BD W).Ok) : (S_di W 48 2).Ok := fun q hq => by
  by_cases he : (q.i 0) + 1 = (q.i 1)
  · exact (di_leaf W O 2 q hq he).mono (by show 40 ≤ 48; decide) (fun _ _ h => h)
  · have h : DP _ _ _ _ _ := hq
    obtain ⟨l, k1, k2, N, M⟩ := mid_of h.L0 h.LR he h.n0
    exact di_node2 W O (di_ok1 W O) q l k1 k2 N M hq he
theorem di_ok3 (W : Wd) (O : (BD W).Ok) : (S_di W 52 3).Ok := fun q hq => by
  by_cases he : (q.i 0) + 1 = (q.i 1)
  · exact (di_leaf W O 3 q hq he).mono (by show 40 ≤ 52; decide) (fun _ _ h => h)
  · have h : DP _ _ _ _ _ := hq
    obtain ⟨l, k1, k2, N, M⟩ := mid_of h.L0 h.LR he h.n0
    exact di_node3 W O (di_ok2 W O) q l k1 k2 N M hq he
noncomputable def S_d20n (W : Wd) : Sp (BD W) :=
  let B := BD W
  { d := 60
    c := fun q => .call (.ref 83) ⟨[.ref (q.a 0), .int (q.i 0) (q.t 0)], []⟩
    P := fun q => D2P (q.i 0) ((q.v 0) :: (q.l 0))
    pre := fun q => [(78,tableObj ⟨tabVals tD.marks []⟩),((q.a 0),listO ((q.v 0)::(q.l 0)) (q.t 1))]
    R := fun q e => (e.i 0) = dv (q.i 0).toNat ((q.v 0) :: (q.l 0)) 0 ((q.v 0) :: (q.l 0)).length
    res := fun q e => .ok (.ret (.int (e.i 0) (e.t 1)))
    out := fun q e => [(78,tableObj ⟨tabVals tD.marks [(e.a 0)]⟩),((e.a 0),codeZ s_innDq (e.t 0) (e.v 0) (e.l 0)),((q.a 0),listO ((q.v 0)::(q.l 0)) (q.t 1))] }
noncomputable def S_d21n (W : Wd) : Sp (BD W) :=
  let B := BD W
  { d := 60
    c := fun q => .call (.ref 83) ⟨[.ref (q.a 0), .int (q.i 0) (q.t 0)], []⟩
    P := fun q => D2P (q.i 0) ((q.v 1) :: (q.l 1))
    pre := fun q => [(78,tableObj ⟨tabVals tD.marks [(q.a 1)]⟩),((q.a 1),codeZ s_innDq (q.t 1) (q.v 0) (q.l 0)),((q.a 0),listO ((q.v 1)::(q.l 1)) (q.t 2))]
    R := fun q e => (e.i 0) = dv (q.i 0).toNat ((q.v 1) :: (q.l 1)) 0 ((q.v 1) :: (q.l 1)).length
    res := fun q e => .ok (.ret (.int (e.i 0) (e.t 0)))
    out := fun q e => [(78,tableObj ⟨tabVals tD.marks [(q.a 1)]⟩),((q.a 1),codeZ s_innDq (q.t 1) (q.v 0) (q.l 0)),((q.a 0),listO ((q.v 1)::(q.l 1)) (q.t 2))] }
noncomputable def S_d20e (W : Wd) : Sp (BD W) :=
  let B := BD W
  { d := 60
    c := fun q => .call (.ref 83) ⟨[.ref (q.a 0), .int (q.i 0) (q.t 0)], []⟩
    P := fun q => True
    pre := fun q => [(78,tableObj ⟨tabVals tD.marks []⟩),((q.a 0),listO [] (q.t 1))]
    R := fun q e => (e.i 0) = 0
    res := fun q e => .ok (.ret (.int (e.i 0) (e.t 1)))
    out := fun q e => [(78,tableObj ⟨tabVals tD.marks [(e.a 0)]⟩),((e.a 0),codeZ s_innDq (e.t 0) (e.v 0) (e.l 0)),((q.a 0),listO [] (q.t 1))] }
noncomputable def S_d21e (W : Wd) : Sp (BD W) :=
  let B := BD W
  { d := 60
    c := fun q => .call (.ref 83) ⟨[.ref (q.a 0), .int (q.i 0) (q.t 0)], []⟩
    P := fun q => True
    pre := fun q => [(78,tableObj ⟨tabVals tD.marks [(q.a 1)]⟩),((q.a 1),codeZ s_innDq (q.t 1) (q.v 0) (q.l 0)),((q.a 0),listO [] (q.t 2))]
    R := fun q e => (e.i 0) = 0
    res := fun q e => .ok (.ret (.int (e.i 0) (e.t 0)))
    out := fun q e => [(78,tableObj ⟨tabVals tD.marks [(q.a 1)]⟩),((q.a 1),codeZ s_innDq (q.t 1) (q.v 0) (q.l 0)),((q.a 0),listO [] (q.t 2))] }
theorem d20n_run0 (W : Wd) (O : (BD W).Ok) (q : Lt) (hq : (S_d20n W).P q) : Tri (BD W) 60 ((S_d20n W).c q) ((S_d20n W).pre q) ((S_d20n W).post q) := by
  refine tri_f O (stdE _) [U (S_di W 52 3) (di_ok3 W O) on_di] 2000 60 (hs := hx 42 0x2061870001800c135d0802c000935d08e38b24900000c30c1800020830c0001) (is := [13,1,4])
    (fun (ρ : Rho) => ob (A := (List.length (q.v 0::q.l 0) ≤ sizeLine)) (by have h : D2P _ _ := hq; have := h.len; exact Nat.le_trans this (by decide)) <| ob (A := (List.length (q.v 0::q.l 0) ≤ sizeLine)) (by have h : D2P _ _ := hq; have := h.len; exact Nat.le_trans this (by decide)) <| ob (A := (DP (0 : Int) (↑(List.length (q.v 0::q.l 0)) : Int) (q.i 0) (((q.v 0)::(q.l 0))) 3)) (by have h : D2P _ _ := hq; exact d2_DP h.n0 h.n1 h.len (Nat.succ_pos _) h.dg) <| fun he0 : ((ρ.2 0).i 0) = dv (q.i 0).toNat (((q.v 0)::(q.l 0))) (0 : Int).toNat ((↑(List.length (q.v 0::q.l 0)) : Int) - (0 : Int)).toNat => fin (S_d20n W) q (lt [ρ.1 22] [ρ.1 6,(ρ.2 0).2 0] [(ρ.2 0).i 0] [] [(.str (⟨#[105,110,110,101,114]⟩) (ρ.1 5))] [[(.str (⟨#[47,99,108,97,105,109,47,99,117,116,46,112,121]⟩) (ρ.1 7)),(.int (57) (0)),(.int (2) (0)),(.int (0) (0)),(.int (0) (0)),(.int (19) (0)),(.ref (ρ.1 11)),(.bool true),(.int (276) (0)),(.ref (ρ.1 12)),.none,(.ref (ρ.1 17)),(.ref (ρ.1 18)),(.ref (ρ.1 19)),(.int (↑(ρ.n 20)) (0)),(.int (57) (0)),(.str (⟨#[47,99,108,97,105,109,47,99,117,116,46,112,121]⟩) (ρ.1 21))]] []) ((by have z : _ = _ := he0; exact z.trans (by rfl))) :) ?_
  induction W using y_0 <;> kernel_rfl
theorem d20n_run (W : Wd) (O : (BD W).Ok) : (S_d20n W).Ok := fun q hq => d20n_run0 W O q hq
theorem d21n_run0 (W : Wd) (O : (BD W).Ok) (q : Lt) (hq : (S_d21n W).P q) : Tri (BD W) 60 ((S_d21n W).c q) ((S_d21n W).pre q) ((S_d21n W).post q) := by
  refine tri_f O (stdE _) [U (S_di W 52 3) (di_ok3 W O) on_di] 2000 60 (hs := hx 39 0x30410860060030487420050000c87422491430c00001800020830c0001) (is := [8,1,4])
    (fun (ρ : Rho) => ob (A := (List.length (q.v 1::q.l 1) ≤ sizeLine)) (by have h : D2P _ _ := hq; have := h.len; exact Nat.le_trans this (by decide)) <| ob (A := (List.length (q.v 1::q.l 1) ≤ sizeLine)) (by have h : D2P _ _ := hq; have := h.len; exact Nat.le_trans this (by decide)) <| ob (A := (DP (0 : Int) (↑(List.length (q.v 1::q.l 1)) : Int) (q.i 0) (((q.v 1)::(q.l 1))) 3)) (by have h : D2P _ _ := hq; exact d2_DP h.n0 h.n1 h.len (Nat.succ_pos _) h.dg) <| fun he0 : ((ρ.2 0).i 0) = dv (q.i 0).toNat (((q.v 1)::(q.l 1))) (0 : Int).toNat ((↑(List.length (q.v 1::q.l 1)) : Int) - (0 : Int)).toNat => fin (S_d21n W) q (lt [] [(ρ.2 0).2 0] [(ρ.2 0).i 0] [] [] [] []) ((by have z : _ = _ := he0; exact z.trans (by rfl))) :) ?_
  induction W using y_0 <;> kernel_rfl
theorem d21n_run (W : Wd) (O : (BD W).Ok) : (S_d21n W).Ok := fun q hq => d21n_run0 W O q hq
theorem d20e_run0 (W : Wd) (O : (BD W).Ok) (q : Lt) : Tri (BD W) 60 ((S_d20e W).c q) ((S_d20e W).pre q) ((S_d20e W).post q) := by
  refine tri_f O (stdE _) [] 2000 60 (hs := hx 27 0xe00e00e00e38b24900000c30c1800020830c0001) (is := [12,1,11])
    (fun (ρ : Rho) => fin (S_d20e W) q (lt [ρ.1 22] [ρ.1 6,ρ.1 26] [0] [] [(.str (⟨#[105,110,110,101,114]⟩) (ρ.1 5))] [[(.str (⟨#[47,99,108,97,105,109,47,99,117,116,46,112,121]⟩) (ρ.1 7)),(.int (57) (0)),(.int (2) (0)),(.int (0) (0)),(.int (0) (0)),(.int (19) (0)),(.ref (ρ.1 11)),(.bool true),(.int (276) (0)),(.ref (ρ.1 12)),.none,(.ref (ρ.1 17)),(.ref (ρ.1 18)),(.ref (ρ.1 19)),(.int (↑(ρ.n 20)) (0)),(.int (57) (0)),(.str (⟨#[47,99,108,97,105,109,47,99,117,116,46,112,121]⟩) (ρ.1 21))]] []) (rfl) :) ?_
  induction W using y_0 <;> kernel_rfl
theorem d20e_run (W : Wd) (O : (BD W).Ok) : (S_d20e W).Ok := fun q hq => d20e_run0 W O q
theorem d21e_run0 (W : Wd) (O : (BD W).Ok) (q : Lt) : Tri (BD W) 60 ((S_d21e W).c q) ((S_d21e W).pre q) ((S_d21e W).post q) := by
  refine tri_f O (stdE _) [] 2000 60 (hs := hx 24 0x2402402402491430c00001800020830c0001) (is := [6,6,6])
    (fun (ρ : Rho) => fin (S_d21e W) q (lt [] [ρ.1 8] [0] [] [] [] []) (rfl) :) ?_
  induction W using y_0 <;> kernel_rfl
theorem d21e_run (W : Wd) (O : (BD W).Ok) : (S_d21e W).Ok := fun q hq => d21e_run0 W O q
noncomputable def S_d2n (W : Wd) : Sp (BB W) :=
  let B := BB W
  { d := 60
    c := fun q => .call (.ref 83) ⟨[.ref (q.a 0), .int (q.i 0) (q.t 0)], []⟩
    P := fun q => D2P (q.i 0) ((q.v 0) :: (q.l 0))
    pre := fun q => [((q.a 0),listO ((q.v 0)::(q.l 0)) (q.t 1))]
    R := fun q e => (e.i 0) = dv (q.i 0).toNat ((q.v 0) :: (q.l 0)) 0 ((q.v 0) :: (q.l 0)).length
    res := fun q e => .ok (.ret (.int (e.i 0) (e.t 0)))
    out := fun q e => [((q.a 0),listO ((q.v 0)::(q.l 0)) (q.t 1))] }
noncomputable def S_d2e (W : Wd) : Sp (BB W) :=
  let B := BB W
  { d := 60
    c := fun q => .call (.ref 83) ⟨[.ref (q.a 0), .int (q.i 0) (q.t 0)], []⟩
    P := fun q => True
    pre := fun q => [((q.a 0),listO [] (q.t 1))]
    R := fun q e => (e.i 0) = 0
    res := fun q e => .ok (.ret (.int (e.i 0) (e.t 0)))
    out := fun q e => [((q.a 0),listO [] (q.t 1))] }
noncomputable def on_d2e : Code → View → Lt := fun c V => lt [valA (nthV (cPos c) 0)] [valT (nthV (cPos c) 1),eP V 0] [valI (nthV (cPos c) 1)] [] [] [] []
theorem d2n_ok (W : Wd) (O : (BB W).Ok) : (S_d2n W).Ok := fun q hq => by
  refine tri_loose (B := BB W) (T := tD) (tabs' := [tS, tI]) rfl (fun t => by show t ∈ [tS, tI, tD] ↔ _; simp; try exact ⟨fun h => by rcases h with h | h | h <;> simp [h], fun h => by rcases h with h | h | h <;> simp [h]⟩) (by intro t ht; simp only [List.mem_cons, List.not_mem_nil, or_false] at ht; rcases ht with rfl | rfl <;> decide) ?_
  intro as t v r hlen
  have OS : (BD W).Ok := Ok_loosen O (by decide) (by intro t ht; simp only [List.mem_cons, List.not_mem_nil, or_false] at ht; rcases ht with rfl | rfl <;> decide)
  rcases hlen with rfl | hlen
  · let q0 : Lt := lt [q.a 0] [q.t 0, q.t 1] [q.i 0] [] [q.v 0] [q.l 0] []
    exact (d20n_run W OS q0 hq).mono (Nat.le_refl _) (fun res V hV => by
      obtain ⟨e, hR, hr, rfl⟩ := hV
      exact ⟨[(e.a 0)], (li 0 [(e.t 0)]), (li .none [(e.v 0)]), (li [] [(e.l 0)]), [((e.a 0), codeZ s_innDq (e.t 0) (e.v 0) (e.l 0))], [((q0.a 0), listO ((q0.v 0) :: (q0.l 0)) (q0.t 1))], [((q0.a 0), listO ((q0.v 0) :: (q0.l 0)) (q0.t 1))], .inr rfl,
        fun p hp => hp, rfl, fun p hp => List.mem_append_right _ hp, rfl, lt [] [e.t 1] [e.i 0] [] [] [] [], hR, hr, rfl⟩)
  · match as, hlen with
    | [x], _ =>
    let q0 : Lt := lt [q.a 0, x] [q.t 0, t 0, q.t 1] [q.i 0] [] [v 0, q.v 0] [r 0, q.l 0] []
    exact (d21n_run W OS q0 hq).mono (Nat.le_refl _) (fun res V hV => by
      obtain ⟨e, hR, hr, rfl⟩ := hV
      exact ⟨[(q0.a 1)], (li 0 [(q0.t 1)]), (li .none [(q0.v 0)]), (li [] [(q0.l 0)]), [((q0.a 1), codeZ s_innDq (q0.t 1) (q0.v 0) (q0.l 0))], [((q0.a 0), listO ((q0.v 1) :: (q0.l 1)) (q0.t 2))], [((q0.a 0), listO ((q0.v 1) :: (q0.l 1)) (q0.t 2))], .inr rfl,
        fun p hp => hp, rfl, fun p hp => List.mem_append_right _ hp, rfl, lt [] [e.t 0] [e.i 0] [] [] [] [], hR, hr, rfl⟩)
theorem d2e_ok (W : Wd) (O : (BB W).Ok) : (S_d2e W).Ok := fun q hq => by
  refine tri_loose (B := BB W) (T := tD) (tabs' := [tS, tI]) rfl (fun t => by show t ∈ [tS, tI, tD] ↔ _; simp; try exact ⟨fun h => by rcases h with h | h | h <;> simp [h], fun h => by rcases h with h | h | h <;> simp [h]⟩) (by intro t ht; simp only [List.mem_cons, List.not_mem_nil, or_false] at ht; rcases ht with rfl | rfl <;> decide) ?_
  intro as t v r hlen
  have OS : (BD W).Ok := Ok_loosen O (by decide) (by intro t ht; simp only [List.mem_cons, List.not_mem_nil, or_false] at ht; rcases ht with rfl | rfl <;> decide)
  rcases hlen with rfl | hlen
  · let q0 : Lt := lt [q.a 0] [q.t 0, q.t 1] [q.i 0] [] [] [] []
    exact (d20e_run W OS q0 hq).mono (Nat.le_refl _) (fun res V hV => by
      obtain ⟨e, hR, hr, rfl⟩ := hV
      exact ⟨[(e.a 0)], (li 0 [(e.t 0)]), (li .none [(e.v 0)]), (li [] [(e.l 0)]), [((e.a 0), codeZ s_innDq (e.t 0) (e.v 0) (e.l 0))], [((q0.a 0), listO [] (q0.t 1))], [((q0.a 0), listO [] (q0.t 1))], .inr rfl,
        fun p hp => hp, rfl, fun p hp => List.mem_append_right _ hp, rfl, lt [] [e.t 1] [e.i 0] [] [] [] [], hR, hr, rfl⟩)
  · match as, hlen with
    | [x], _ =>
    let q0 : Lt := lt [q.a 0, x] [q.t 0, t 0, q.t 1] [q.i 0] [] [v 0] [r 0] []
    exact (d21e_run W OS q0 hq).mono (Nat.le_refl _) (fun res V hV => by
      obtain ⟨e, hR, hr, rfl⟩ := hV
      exact ⟨[(q0.a 1)], (li 0 [(q0.t 1)]), (li .none [(q0.v 0)]), (li [] [(q0.l 0)]), [((q0.a 1), codeZ s_innDq (q0.t 1) (q0.v 0) (q0.l 0))], [((q0.a 0), listO [] (q0.t 2))], [((q0.a 0), listO [] (q0.t 2))], .inr rfl,
        fun p hp => hp, rfl, fun p hp => List.mem_append_right _ hp, rfl, lt [] [e.t 0] [e.i 0] [] [] [] [], hR, hr, rfl⟩)
end Mine
end
section
namespace Mine
open PySem PySem.Spec PySem.Calls PyProof.Rows PySem.W PySem.W.X PySem.Builtin.Int
noncomputable def tupO (xs : List Value) : Obj := ⟨.type "tuple", none, .seq ⟨xs⟩ 0, #[]⟩
noncomputable def hv (N : Nat) : List Value → Int
  | [] => 0
  | v :: vs => shI v * 2 ^ (N * vs.length) + hv N vs
structure DLP (b n r i : Int) (ys qs : List Value) : Prop where
  b0 : 0 < b
  n0 : 0 < n
  n1 : n ≤ 4000
  bn : b < 2 ^ n.toNat
  r0 : 0 ≤ r
  rb : r < b
  i0 : -1 ≤ i
  il : i < ys.length
  yl : ys.length ≤ 8
  dg : Digs n.toNat ys 0 ys.length
  ql : (qs.length : Int) + (i + 1) ≤ 8
structure DLR (b n r i : Int) (ys qs : List Value) (r' : Int) (qs' : List Value) : Prop where
  ex : ∃ new : List Value, qs' = qs ++ new ∧ new.length = (i + 1).toNat ∧ Digs n.toNat new 0 new.length ∧ hv n.toNat new * b + r' = r * 2 ^ (n.toNat * (i + 1).toNat) + dv n.toNat ys 0 (i + 1).toNat
  r0 : 0 ≤ r'
  rb : r' < b
theorem DLR.fin {b n r i : Int} {ys qs : List Value} (h : DLP b n r i ys qs) (hi : i < 0) : DLR b n r i ys qs r qs := by
  have : i = -1 := by have := h.i0; lia
  subst this
  exact ⟨⟨[], by simp, rfl, fun i hi => by simp at hi, by simp [hv, dv]⟩, h.r0, h.rb⟩
section
variable {b n r i r' : Int} {ys qs qs' : List Value} {tq : Tok}
theorem DLP.digit (h : DLP b n r i ys qs) (hi : ¬ i < 0) : (itemAt ys i.toNat = shape 1 (itemAt ys i.toNat) ∧ i.toNat < ys.length) ∧ 0 ≤ shI (itemAt ys i.toNat) ∧ shI (itemAt ys i.toNat) < 2 ^ n.toNat := by
  have hl : i.toNat < ys.length := by have := h.il; lia
  obtain ⟨v, t, e, h0, h1⟩ := h.dg i.toNat hl
  rw [Nat.zero_add] at e
  rw [e]
  exact ⟨⟨rfl, hl⟩, h0, h1⟩
theorem DLP.big (h : DLP b n r i ys qs) (hi : ¬ i < 0) : 0 ≤ r * 2 ^ n.toNat + shI (itemAt ys i.toNat) ∧ r * 2 ^ n.toNat + shI (itemAt ys i.toNat) < b * 2 ^ n.toNat := by
  obtain ⟨_, h0, h1⟩ := h.digit hi
  have hp : (0 : Int) < 2 ^ n.toNat := Int.pow_pos (by decide)
  have := Int.mul_nonneg h.r0 (Int.le_of_lt hp)
  have h2 : (r + 1) * 2 ^ n.toNat ≤ b * 2 ^ n.toNat := Int.mul_le_mul_of_nonneg_right (by have := h.rb; lia) (Int.le_of_lt hp)
  rw [Int.add_mul, Int.one_mul] at h2
  lia
theorem fdiv_pos {x b : Int} (hb : 0 < b) : x.fdiv b = x / b := Int.fdiv_eq_ediv_of_nonneg _ (Int.le_of_lt hb)
theorem fmod_pos {x b : Int} (hb : 0 < b) : x.fmod b = x % b := Int.fmod_eq_emod_of_nonneg _ (Int.le_of_lt hb)
theorem DLP.quot (h : DLP b n r i ys qs) (hi : ¬ i < 0) : 0 ≤ (r * 2 ^ n.toNat + shI (itemAt ys i.toNat)).fdiv b ∧ (r * 2 ^ n.toNat + shI (itemAt ys i.toNat)).fdiv b < 2 ^ n.toNat := by
  obtain ⟨h0, h1⟩ := h.big hi
  rw [fdiv_pos h.b0]
  exact ⟨Int.ediv_nonneg h0 (Int.le_of_lt h.b0), Int.ediv_lt_of_lt_mul h.b0 (by rw [Int.mul_comm (2 ^ n.toNat) b]; exact h1)⟩
theorem DLP.next (h : DLP b n r i ys qs) (hi : ¬ i < 0) : DLP b n ((r * 2 ^ n.toNat + shI (itemAt ys i.toNat)).fmod b) (i - 1) ys (qs ++ [.int ((r * 2 ^ n.toNat + shI (itemAt ys i.toNat)).fdiv b) tq]) := by
  rw [fmod_pos h.b0]
  exact ⟨h.b0, h.n0, h.n1, h.bn, Int.emod_nonneg _ (by have := h.b0; lia), Int.emod_lt_of_pos _ h.b0, by lia, by have := h.il; lia, h.yl, h.dg, by have := h.ql; simp; lia⟩
theorem DLR.step (h : DLP b n r i ys qs) (hi : ¬ i < 0) (h1 : DLR b n ((r * 2 ^ n.toNat + shI (itemAt ys i.toNat)).fmod b) (i - 1) ys (qs ++ [.int ((r * 2 ^ n.toNat + shI (itemAt ys i.toNat)).fdiv b) tq]) r' qs') : DLR b n r i ys qs r' qs' := by
  obtain ⟨⟨new, e, hl, hd, hv1⟩, r0, rb⟩ := h1
  obtain ⟨q0, q1⟩ := h.quot hi
  generalize hx : r * 2 ^ n.toNat + shI (itemAt ys i.toNat) = x at *
  refine ⟨⟨.int (x.fdiv b) tq :: new, by rw [e]; simp, by simp [hl]; lia, ?_, ?_⟩, r0, rb⟩
  · intro j hj
    cases j with
    | zero => exact ⟨_, _, rfl, q0, q1⟩
    | succ j =>
      obtain ⟨v, t, e, h0, h1⟩ := hd j (by simpa using hj)
      exact ⟨v, t, by rw [Nat.zero_add] at e ⊢; exact e, h0, h1⟩
  · have ei : (i - 1 + 1).toNat = i.toNat := by lia
    have ei2 : (i + 1).toNat = i.toNat + 1 := by lia
    rw [ei] at hv1 hl
    rw [ei2, dv_split, Nat.zero_add]
    show (x.fdiv b * 2 ^ (n.toNat * new.length) + hv n.toNat new) * b + r' = _
    have hm : x.fdiv b * b + x.fmod b = x := by
      have := Int.mul_fdiv_add_fmod x b
      rw [Int.mul_comm]; exact this
    rw [hl, Int.add_mul, Int.add_assoc, hv1, ← Int.add_assoc]
    have e1 : x.fdiv b * 2 ^ (n.toNat * i.toNat) * b + x.fmod b * 2 ^ (n.toNat * i.toNat) = x * 2 ^ (n.toNat * i.toNat) := by
      rw [Int.mul_right_comm, ← Int.add_mul, hm]
    rw [e1, ← hx]
    show _ = r * 2 ^ (n.toNat * (i.toNat + 1)) + (dv n.toNat ys 0 i.toNat + 2 ^ (n.toNat * i.toNat) * (shI (itemAt ys i.toNat) + 2 ^ n.toNat * 0))
    rw [Nat.mul_succ, Int.pow_add, Int.add_mul, Int.mul_zero, Int.add_zero, Int.mul_assoc, Int.mul_comm (2 ^ n.toNat) (2 ^ (n.toNat * i.toNat)), Int.mul_comm (shI _)]
    lia
theorem DLP.ob_lsh (h : DLP b n r i ys qs) : 0 ≤ n ∧ (intBits r : Int) + n ≤ 2 ^ 27 := by
  have : intBits r ≤ n.toNat := intBits_le_iff.mpr (by
    have h1 := h.rb; have h2 := h.bn; have h0 := h.r0
    have : (r.natAbs : Int) < ((2 ^ n.toNat : Nat) : Int) := by rw [Int.natAbs_of_nonneg h0]; push_cast; lia
    exact_mod_cast this)
  have := h.n0; have := h.n1
  exact ⟨by lia, by lia⟩
theorem DLP.ob_le (h : DLP b n r i ys qs) (hi : ¬ i < 0) : (intBits (r * 2 ^ n.toNat + shI (itemAt ys i.toNat)) : Int) - n ≤ 4000 := by
  obtain ⟨h0, h1⟩ := h.big hi
  have : intBits (r * 2 ^ n.toNat + shI (itemAt ys i.toNat)) ≤ n.toNat + n.toNat := intBits_le_iff.mpr (by
    have hp : (0 : Int) < 2 ^ n.toNat := Int.pow_pos (by decide)
    have h2 : b * 2 ^ n.toNat ≤ 2 ^ n.toNat * 2 ^ n.toNat := Int.mul_le_mul_of_nonneg_right (Int.le_of_lt h.bn) (Int.le_of_lt hp)
    have : ((r * 2 ^ n.toNat + shI (itemAt ys i.toNat)).natAbs : Int) < ((2 ^ (n.toNat + n.toNat) : Nat) : Int) := by
      rw [Int.natAbs_of_nonneg h0]; push_cast; rw [Int.pow_add]; lia
    exact_mod_cast this)
  have := h.n0; have := h.n1
  lia
theorem DLP.ob_div (h : DLP b n r i ys qs) (x : Int) : b ≠ 0 ∧ Builtin.divisionGoesByPylong x b = false := by
  have := h.b0; have := h.n1
  refine ⟨by lia, noPy (k := n.toNat) (by lia) ?_⟩
  have : (b.natAbs : Int) < ((2 ^ n.toNat : Nat) : Int) := by rw [Int.natAbs_of_nonneg (by lia)]; push_cast; exact h.bn
  exact_mod_cast this
theorem DLP.ob_len (h : DLP b n r i ys qs) : qs.length ≤ sizeLine := by
  have h5 : (8 : Nat) ≤ sizeLine := by decide
  have := h.ql; have := h.i0
  lia
end
theorem itemAt_rev : ∀ (l : List Value) (i : Nat), i < l.length → itemAt l.reverse i = itemAt l (l.length - 1 - i) := by
  intro l i h
  have a := itemAt_eq (l := l.reverse) (i := i) (by simpa using h)
  have b := itemAt_eq (l := l) (i := l.length - 1 - i) (by lia)
  rw [List.getElem?_reverse h] at a
  exact Option.some.inj (a.symm.trans b)
theorem dv_ext {N : Nat} {xs ys : List Value} : ∀ (k L M : Nat), (∀ i, i < k → itemAt xs (L + i) = itemAt ys (M + i)) → dv N xs L k = dv N ys M k
  | 0, _, _, _ => rfl
  | k + 1, L, M, h => by
    rw [dv, dv, dv_ext k (L + 1) (M + 1) (fun i hi => by have := h (i + 1) (by lia); rw [show L + 1 + i = L + (i + 1) by lia, show M + 1 + i = M + (i + 1) by lia]; exact this)]
    have := h 0 (by lia)
    rw [Nat.add_zero, Nat.add_zero] at this
    rw [this]
theorem itemAt_app_left : ∀ (l m : List Value) (i : Nat), i < l.length → itemAt (l ++ m) i = itemAt l i
  | [], m, i, h => by simp at h
  | v :: l, m, 0, _ => rfl
  | v :: l, m, i + 1, h => itemAt_app_left l m i (by simpa using h)
theorem itemAt_app_right : ∀ (l m : List Value) (i : Nat), itemAt (l ++ m) (l.length + i) = itemAt m i
  | [], m, i => by simp
  | v :: l, m, i => by
    rw [List.length_cons, show l.length + 1 + i = (l.length + i) + 1 by lia]
    exact itemAt_app_right l m i
theorem hv_rev (N : Nat) : ∀ l : List Value, dv N l.reverse 0 l.length = hv N l
  | [] => rfl
  | v :: l => by
    rw [List.reverse_cons, List.length_cons, dv_split, hv, Nat.zero_add]
    have e1 : dv N (l.reverse ++ [v]) 0 l.length = dv N l.reverse 0 l.length := dv_ext _ _ _ (fun i hi => by rw [Nat.zero_add]; exact itemAt_app_left _ _ _ (by simpa using hi))
    have e2 : itemAt (l.reverse ++ [v]) l.length = v := by
      have := itemAt_app_right l.reverse [v] 0
      rw [List.length_reverse, Nat.add_zero] at this
      rw [this]; rfl
    rw [e1, hv_rev N l]
    show hv N l + 2 ^ (N * l.length) * (shI (itemAt (l.reverse ++ [v]) l.length) + 2 ^ N * 0) = _
    rw [e2, Int.mul_zero, Int.add_zero, Int.mul_comm, Int.add_comm]
theorem Digs.rev {N : Nat} {l : List Value} (h : Digs N l 0 l.length) : Digs N l.reverse 0 l.reverse.length := by
  intro i hi
  rw [List.length_reverse] at hi
  obtain ⟨v, t, e, h0, h1⟩ := h (l.length - 1 - i) (by lia)
  refine ⟨v, t, ?_, h0, h1⟩
  rw [Nat.zero_add] at e ⊢
  rw [itemAt_rev l i hi, e]
end Mine
namespace Mine
open PySem PySem.Spec PySem.Calls PyProof.Rows PySem.W PySem.W.X PySem.Builtin.Int
structure DPP (a b : Int) : Prop where
  a0 : 0 ≤ a
  b0 : 0 < b
  bb : intBits b ≤ 4000
  k : cntI a ((intBits b : Nat) : Int) ≤ 8
theorem bits_pos {b : Int} (h : 0 < b) : 0 < intBits b := by
  apply Nat.pos_of_ne_zero
  intro h0
  have := (intBits_le_iff (m := 0) (x := b)).mp (by lia)
  simp at this
  lia
theorem DPP.i2 {a b : Int} (h : DPP a b) : I2P a ((intBits b : Nat) : Int) := ⟨h.a0, by have := bits_pos h.b0; lia, by have := h.bb; lia, h.k⟩
theorem bits_lt {b : Int} (h : 0 < b) : b < 2 ^ (((intBits b : Nat) : Int)).toNat := by
  have := (intBits_le_iff (m := intBits b) (x := b)).mp (Nat.le_refl _)
  rw [Int.toNat_natCast]
  have h2 : (b.natAbs : Int) < ((2 ^ intBits b : Nat) : Int) := by exact_mod_cast this
  rw [Int.natAbs_of_nonneg (Int.le_of_lt h)] at h2
  push_cast at h2
  exact h2
theorem I2R.pos {a n : Int} {xs : List Value} (h : I2R a n xs) (ha : a ≠ 0) : 0 < xs.length := by
  apply Nat.pos_of_ne_zero
  intro h0
  have := h.v
  rw [h0] at this
  exact ha this.symm
theorem DPP.dl {a b : Int} (h : DPP a b) (ha : a ≠ 0) {xs : List Value} (hx : I2R a ((intBits b : Nat) : Int) xs) : DLP b ((intBits b : Nat) : Int) 0 ((xs.length : Int) - 1) xs [] ∧ ¬ ((xs.length : Int) - 1 < 0) := by
  have hp := hx.pos ha
  have := hx.len
  refine ⟨⟨h.b0, by have := bits_pos h.b0; lia, by have := h.bb; lia, bits_lt h.b0, Int.le_refl _, h.b0, by lia, by lia, hx.len, hx.d, by simp; lia⟩, by lia⟩
theorem divmod_unique {a b q r : Int} (hb : 0 < b) (h : q * b + r = a) (h0 : 0 ≤ r) (h1 : r < b) : q = a.fdiv b ∧ r = a.fmod b := by
  rw [fdiv_pos hb, fmod_pos hb]
  have e : a = r + b * q := by rw [Int.mul_comm]; lia
  subst e
  rw [Int.add_mul_ediv_left _ _ (by lia), Int.add_mul_emod_self_left, Int.ediv_eq_zero_of_lt h0 h1, Int.emod_eq_of_lt h0 h1]
  exact ⟨by lia, rfl⟩
theorem DPP.done {a b : Int} (h : DPP a b) (ha : a ≠ 0) {xs : List Value} (hx : I2R a ((intBits b : Nat) : Int) xs) {r' : Int} {qs : List Value} (hr : DLR b ((intBits b : Nat) : Int) 0 ((xs.length : Int) - 1) xs [] r' qs)
    {v : Int} (hv' : v = dv (((intBits b : Nat) : Int)).toNat qs.reverse 0 qs.reverse.length) : v = a.fdiv b ∧ r' = a.fmod b := by
  obtain ⟨⟨new, e, hl, hd, hh⟩, r0, rb⟩ := hr
  rw [List.nil_append] at e
  subst e
  refine divmod_unique h.b0 ?_ r0 rb
  rw [hv', List.length_reverse, hv_rev, hh, Int.zero_mul, Int.zero_add, show ((xs.length : Int) - 1 + 1).toNat = xs.length by lia]
  exact hx.v
theorem DPP.d2 {a b : Int} (h : DPP a b) {xs : List Value} (hx : I2R a ((intBits b : Nat) : Int) xs) {r' : Int} {qs : List Value} (hr : DLR b ((intBits b : Nat) : Int) 0 ((xs.length : Int) - 1) xs [] r' qs) : D2P ((intBits b : Nat) : Int) qs.reverse := by
  obtain ⟨⟨new, e, hl, hd, hh⟩, r0, rb⟩ := hr
  rw [List.nil_append] at e
  subst e
  have := hx.len
  exact ⟨by have := bits_pos h.b0; lia, by have := h.bb; lia, by rw [List.length_reverse, hl]; lia, hd.rev⟩
theorem DPP.len {a b : Int} {xs : List Value} (hx : I2R a ((intBits b : Nat) : Int) xs) {r' : Int} {qs : List Value} (hr : DLR b ((intBits b : Nat) : Int) 0 ((xs.length : Int) - 1) xs [] r' qs) : qs.length ≤ sizeLine := by
  obtain ⟨⟨new, e, hl, hd, hh⟩, r0, rb⟩ := hr
  rw [List.nil_append] at e
  subst e
  have := hx.len
  have h5 : (8 : Nat) ≤ sizeLine := by decide
  lia
structure IDP (a b : Int) : Prop where
  b0 : b ≠ 0
  bb : intBits b ≤ 4000
  k : a.natAbs < 2 ^ (8 * intBits b)
theorem IDP.dp {a b : Int} (h : IDP a b) (ha : 0 ≤ a) (hb : 0 < b) : DPP a b := by
  refine ⟨ha, hb, h.bb, ?_⟩
  have hp := bits_pos hb
  have h1 : intBits a ≤ 8 * intBits b := intBits_le_iff.mpr h.k
  unfold cntI
  rw [Int.fdiv_eq_ediv_of_nonneg _ (by lia)]
  generalize intBits a = x at *
  generalize intBits b = n at *
  have : (x : Int) + n - 1 < 9 * n := by lia
  have := Int.ediv_lt_of_lt_mul (by lia) this
  lia
theorem bits_neg (b : Int) : intBits (-b) = intBits b := by
  have e : ∀ m, intBits (-b) ≤ m ↔ intBits b ≤ m := fun m => by rw [intBits_le_iff, intBits_le_iff, Int.natAbs_neg]
  have h1 := (e (intBits b)).mpr (Nat.le_refl _)
  have h2 := (e (intBits (-b))).mp (Nat.le_refl _)
  lia
theorem IDP.neg {a b : Int} (h : IDP a b) : IDP (-a) (-b) := ⟨by have := h.b0; lia, by rw [bits_neg]; exact h.bb, by rw [bits_neg, Int.natAbs_neg]; exact h.k⟩
theorem IDP.inv {a b : Int} (h : IDP a b) (ha : a < 0) : IDP (-a - 1) b := ⟨h.b0, h.bb, Nat.lt_of_le_of_lt (by lia) h.k⟩
theorem inv_div {a b q r : Int} (hb : 0 < b) (hq : q = (-a - 1).fdiv b) (hr : r = (-a - 1).fmod b) : -q - 1 = a.fdiv b ∧ b + (-r - 1) = a.fmod b := by
  have h1 := Int.mul_fdiv_add_fmod (-a - 1) b
  rw [← hq, ← hr] at h1
  have h2 : 0 ≤ r ∧ r < b := by rw [hr, fmod_pos hb]; exact ⟨Int.emod_nonneg _ (by lia), Int.emod_lt_of_pos _ hb⟩
  refine divmod_unique hb ?_ (by lia) (by lia)
  rw [show (-q - 1) * b = -(b * q) - b by rw [Int.sub_mul, Int.neg_mul, Int.mul_comm q b, Int.one_mul]]
  lia
theorem neg_div {a b q r : Int} (hq : q = (-a).fdiv (-b)) (hr : r = (-a).fmod (-b)) : q = a.fdiv b ∧ -r = a.fmod b := by
  refine ⟨by rw [hq, Int.neg_fdiv_neg], ?_⟩
  have h1 := Int.mul_fdiv_add_fmod (-a) (-b)
  have h2 := Int.mul_fdiv_add_fmod a b
  rw [Int.neg_fdiv_neg, ← hr, Int.neg_mul] at h1
  lia
end Mine
end
section

namespace Mine
open PySem PySem.Spec PySem.Calls PyProof.Rows PySem.W PySem.W.X PySem.Builtin.Str
noncomputable def dpEnv (w : World) (L : Addr) : Env := envF w 90 L ⟨#[95, 100, 105, 118, 109, 111, 100, 95, 112, 111, 115, 46, 60, 108, 111, 99, 97, 108, 115, 62, 46]⟩ []
noncomputable abbrev tRI : Value := .type "list_reverseiterator"
noncomputable def S_dl (W : Wd) (m : Nat) : Sp (BB W) :=
  let B := BB W
  { d := 60
    c := fun q => forC (pathS (stmtsOf (fdAt W.w 90)) [4]) (q.a 1) (dpEnv W.w (q.a 0))
    P := fun q => DLP (q.i 0) (q.i 1) (q.i 2) (q.i 3) (q.l 0) (q.l 1) ∧ (q.i 3) < m
    pre := fun q => [((q.a 0),frameO [kv B s_a (q.t 0) (q.v 0),kv B s_b (q.t 1) (.int (q.i 0) (q.t 2)),kv B s_n (q.t 3) (.int (q.i 1) (q.t 4)),kv B s_a_digits (q.t 5) (q.v 1),kv B s_r (q.t 6) (.int (q.i 2) (q.t 7)),kv B s_q_digits (q.t 8) (.ref (q.a 2)),kv B s_a_digit (q.t 9) (q.v 2),kv B s_q_digit (q.t 10) (q.v 3)] 8),((q.a 1),fieldsO tRI [(.ref (q.a 3)),(.int (q.i 3) (q.t 11))]),((q.a 3),listO (q.l 0) (q.t 12)),((q.a 2),listO (q.l 1) (q.t 13))]
    R := fun q e => DLR (q.i 0) (q.i 1) (q.i 2) (q.i 3) (q.l 0) (q.l 1) (e.i 0) (e.l 0)
    res := fun q e => .ok .next
    out := fun q e => [((q.a 0),frameO [kv B s_a (q.t 0) (q.v 0),kv B s_b (q.t 1) (.int (q.i 0) (q.t 2)),kv B s_n (q.t 3) (.int (q.i 1) (q.t 4)),kv B s_a_digits (q.t 5) (q.v 1),kv B s_r (q.t 6) (.int (e.i 0) (e.t 0)),kv B s_q_digits (q.t 8) (.ref (q.a 2)),kv B s_a_digit (q.t 9) (e.v 0),kv B s_q_digit (q.t 10) (e.v 1)] 8),((q.a 2),listO (e.l 0) (e.t 1))] }
noncomputable def on_dl : Code → View → Lt := fun c V => lt [(cEnv c).locals,valA (cIt c),dA V 0 5,valA (nthV (sQ V 1) 0)] [kT V 0 0,kT V 0 1,dT V 0 1,kT V 0 2,dT V 0 2,kT V 0 3,kT V 0 4,dT V 0 4,kT V 0 5,kT V 0 6,kT V 0 7,qT V 1 1,eP V 2,eP V 3] [dI V 0 1,dI V 0 2,dI V 0 4,qI V 1 1] [] [dV V 0 0,dV V 0 3,dV V 0 6,dV V 0 7] [sQ V 2,sQ V 3] []
noncomputable def S_dl0 (W : Wd) (m : Nat) : Sp (BB W) :=
  let B := BB W
  { d := 64
    c := fun q => forC (pathS (stmtsOf (fdAt W.w 90)) [4]) (q.a 1) (dpEnv W.w (q.a 0))
    P := fun q => DLP (q.i 0) (q.i 1) (q.i 2) (q.i 3) (q.l 0) (q.l 1) ∧ ¬ (q.i 3) < 0
    pre := fun q => [((q.a 0),frameO [kv B s_a (q.t 0) (q.v 0),kv B s_b (q.t 1) (.int (q.i 0) (q.t 2)),kv B s_n (q.t 3) (.int (q.i 1) (q.t 4)),kv B s_a_digits (q.t 5) (q.v 1),kv B s_r (q.t 6) (.int (q.i 2) (q.t 7)),kv B s_q_digits (q.t 8) (.ref (q.a 2))] 6),((q.a 1),fieldsO tRI [(.ref (q.a 3)),(.int (q.i 3) (q.t 9))]),((q.a 3),listO (q.l 0) (q.t 10)),((q.a 2),listO (q.l 1) (q.t 11))]
    R := fun q e => DLR (q.i 0) (q.i 1) (q.i 2) (q.i 3) (q.l 0) (q.l 1) (e.i 0) (e.l 0)
    res := fun q e => .ok .next
    out := fun q e => [((q.a 0),frameO [kv B s_a (q.t 0) (q.v 0),kv B s_b (q.t 1) (.int (q.i 0) (q.t 2)),kv B s_n (q.t 3) (.int (q.i 1) (q.t 4)),kv B s_a_digits (q.t 5) (q.v 1),kv B s_r (q.t 6) (.int (e.i 0) (e.t 0)),kv B s_q_digits (q.t 8) (.ref (q.a 2)),kv B s_a_digit (e.t 1) (e.v 0),kv B s_q_digit (e.t 2) (e.v 1)] 8),((q.a 2),listO (e.l 0) (e.t 3))] }
noncomputable def on_dl0 : Code → View → Lt := fun c V => lt [(cEnv c).locals,valA (cIt c),dA V 0 5,valA (nthV (sQ V 1) 0)] [kT V 0 0,kT V 0 1,dT V 0 1,kT V 0 2,dT V 0 2,kT V 0 3,kT V 0 4,dT V 0 4,kT V 0 5,qT V 1 1,eP V 2,eP V 3] [dI V 0 1,dI V 0 2,dI V 0 4,qI V 1 1] [] [dV V 0 0,dV V 0 3] [sQ V 2,sQ V 3] []
theorem dl_end (W : Wd) (O : (BB W).Ok) (m : Nat) (q : Lt) (hq : (S_dl W m).P q) (hi : (q.i 3) < 0) : At (S_dl W m) 60 q := by
  refine tri_f O (stdE _) [] 2000 60 (hs := [0,2,0,2,7,0,2,1,0]) (is := [2,4])
    (fun (ρ : Rho) => ob hi <| fin (S_dl W m) q (lt [] [q.2 7,q.2 13] [q.i 2] [] [q.5 2,q.5 3] [q.6 1] []) (DLR.fin hq.1 hi) :) ?_
  induction W using y_0 <;> kernel_rfl
theorem dl_step (W : Wd) (O : (BB W).Ok) (m : Nat) (ih : (S_dl W m).Ok) (q : Lt) (hq : (S_dl W (m + 1)).P q) (hi : ¬ (q.i 3) < 0) : At (S_dl W (m + 1)) 60 q := by
  refine tri_f O (stdE _) [U (S_dl W m) ih on_dl] 2000 60 (hs := hx 112 0x1451451000c878224018924924618618604104204100100104108104004004104204100100104004004106408000004100010200000005a08004004104104100004004100005b080041001042083082087080080) (is := [0,0])
    (fun (ρ : Rho) => ob hi <| ob ((DLP.digit hq.1 hi).1) <| ob (DLP.ob_lsh hq.1) <| ob (A := (True)) (trivial) <| ob (DLP.ob_le hq.1 hi) <| ob (A := (q.i 0 ≠ (0 : Int) ∧ Builtin.divisionGoesByPylong (q.i 2 * (2 : Int) ^ (q.i 1).toNat + shI (itemAt (q.l 0) ((q.i 3).toNat))) (q.i 0) = false)) (DLP.ob_div hq.1 _) <| ob (DLP.ob_len hq.1) <| ob (A := (DLP (q.i 0) (q.i 1) (Int.fmod (q.i 2 * 2 ^ (q.i 1).toNat + shI (itemAt (q.l 0) ((q.i 3).toNat))) (q.i 0) : Int) (q.i 3 - 1 : Int) (q.l 0) (((q.l 1)++[Value.int (((q.i 2) * 2 ^ (q.i 1).toNat + shI (itemAt (q.l 0) (q.i 3).toNat)).fdiv (q.i 0)) (ρ.1 9)])) ∧ (q.i 3 - 1 : Int) < m)) (⟨DLP.next hq.1 hi,(by have h := hq.2; have : (q.i 3) < ((m + 1 : Nat) : Int) := h; show (q.i 3) - 1 < (m : Int); lia)⟩) <| fun he0 : DLR (q.i 0) (q.i 1) (Int.fmod (q.i 2 * 2 ^ Int.toNat (q.i 1) + shI (itemAt (q.l 0) (Int.toNat (q.i 3)))) (q.i 0) : Int) (q.i 3 - 1 : Int) (q.l 0) (((q.l 1)++[Value.int (((q.i 2) * 2 ^ (q.i 1).toNat + shI (itemAt (q.l 0) (q.i 3).toNat)).fdiv (q.i 0)) (ρ.1 9)])) ((ρ.2 0).i 0) ((ρ.2 0).l 0) => fin (S_dl W (m + 1)) q (lt [] [(ρ.2 0).2 0,(ρ.2 0).2 1] [(ρ.2 0).i 0] [] [(ρ.2 0).5 0,(ρ.2 0).5 1] [(ρ.2 0).6 0] []) (DLR.step hq.1 hi he0) :) ?_
  induction W using y_0 <;> kernel_rfl
theorem dl0_step (W : Wd) (O : (BB W).Ok) (m : Nat) (ih : (S_dl W m).Ok) (q : Lt) (hq : (S_dl0 W m).P q) (hi : ¬ (q.i 3) < 0) (hm : (q.i 3) ≤ m) : At (S_dl0 W m) 64 q := by
  refine tri_f O (stdE _) [U (S_dl W m) ih on_dl] 2000 64 (hs := hx 112 0x1451451000c878224018924924618618604104204100100104108104004004104204100100104004004106408000004100010200000005a08004004104104100004004100005b080041001042083082087080080) (is := [0,0])
    (fun (ρ : Rho) => ob hi <| ob ((DLP.digit hq.1 hi).1) <| ob (DLP.ob_lsh hq.1) <| ob (A := (True)) (trivial) <| ob (DLP.ob_le hq.1 hi) <| ob (A := (q.i 0 ≠ (0 : Int) ∧ Builtin.divisionGoesByPylong (q.i 2 * (2 : Int) ^ (q.i 1).toNat + shI (itemAt (q.l 0) ((q.i 3).toNat))) (q.i 0) = false)) (DLP.ob_div hq.1 _) <| ob (DLP.ob_len hq.1) <| ob (A := (DLP (q.i 0) (q.i 1) (Int.fmod (q.i 2 * 2 ^ (q.i 1).toNat + shI (itemAt (q.l 0) ((q.i 3).toNat))) (q.i 0) : Int) (q.i 3 - 1 : Int) (q.l 0) (((q.l 1)++[Value.int (((q.i 2) * 2 ^ (q.i 1).toNat + shI (itemAt (q.l 0) (q.i 3).toNat)).fdiv (q.i 0)) (ρ.1 9)])) ∧ (q.i 3 - 1 : Int) < m)) (⟨DLP.next hq.1 hi,(by show (q.i 3) - 1 < (m : Int); lia)⟩) <| fun he0 : DLR (q.i 0) (q.i 1) (Int.fmod (q.i 2 * 2 ^ Int.toNat (q.i 1) + shI (itemAt (q.l 0) (Int.toNat (q.i 3)))) (q.i 0) : Int) (q.i 3 - 1 : Int) (q.l 0) (((q.l 1)++[Value.int (((q.i 2) * 2 ^ (q.i 1).toNat + shI (itemAt (q.l 0) (q.i 3).toNat)).fdiv (q.i 0)) (ρ.1 9)])) ((ρ.2 0).i 0) ((ρ.2 0).l 0) => fin (S_dl0 W m) q (lt [] [(ρ.2 0).2 0,ρ.1 0,ρ.1 15,(ρ.2 0).2 1] [(ρ.2 0).i 0] [] [(ρ.2 0).5 0,(ρ.2 0).5 1] [(ρ.2 0).6 0] []) (DLR.step hq.1 hi he0) :) ?_
  induction W using y_0 <;> kernel_rfl
theorem dl_ok (W : Wd) (O : (BB W).Ok) : ∀ m, (S_dl W m).Ok
  | 0 => fun q hq => dl_end W O 0 q hq (by have h : q.i 3 < ((0 : Nat) : Int) := hq.2; exact h)
  | m + 1 => fun q hq => by
    by_cases hi : q.i 3 < 0
    · exact (dl_end W O (m + 1) q hq hi)
    · exact dl_step W O m (dl_ok W O m) q hq hi
end Mine
end
section

namespace Mine
open PySem PySem.Spec PySem.Calls PyProof.Rows PySem.W PySem.W.X PySem.Builtin.Str
noncomputable def S_i2z (W : Wd) : Sp (BB W) :=
  let B := BB W
  { d := 60
    c := fun q => .call (.ref 76) ⟨[.int (q.i 0) (q.t 0), .int (q.i 1) (q.t 1)], []⟩
    P := fun q => I2P (q.i 0) (q.i 1) ∧ (q.i 0) = 0
    pre := fun q => []
    R := fun q e => True
    res := fun q e => .ok (.ret (.ref (e.a 0)))
    out := fun q e => [((e.a 0),listO [] (e.t 0))] }
noncomputable def on_i2z : Code → View → Lt := fun c V => lt [] [valT (nthV (cPos c) 0),valT (nthV (cPos c) 1)] [valI (nthV (cPos c) 0),valI (nthV (cPos c) 1)] [] [] [] []
theorem i2z_ok (W : Wd) (O : (BB W).Ok) : (S_i2z W).Ok := fun q hq => (i2_ok W O q hq.1).mono (Nat.le_refl _) fun r V ⟨e, hR, hr, hV⟩ => by
  have hx : (e.l 0) = [] := hR.ne hq.2
  refine ⟨lt [e.a 0] [e.t 0] [] [] [] [] [], trivial, hr, hV.trans ?_⟩
  show [((e.a 0), listO (e.l 0) (e.t 0))] = _
  rw [hx]
  rfl
noncomputable def S_d2 (W : Wd) : Sp (BB W) :=
  let B := BB W
  { d := 60
    c := fun q => .call (.ref 83) ⟨[.ref (q.a 0), .int (q.i 0) (q.t 0)], []⟩
    P := fun q => D2P (q.i 0) (q.l 0)
    pre := fun q => [((q.a 0),listO (q.l 0) (q.t 1))]
    R := fun q e => (e.i 0) = dv (q.i 0).toNat (q.l 0) 0 (q.l 0).length
    res := fun q e => .ok (.ret (.int (e.i 0) (e.t 0)))
    out := fun q e => [((q.a 0),listO (q.l 0) (q.t 1))] }
noncomputable def on_d2 : Code → View → Lt := fun c V => lt [valA (nthV (cPos c) 0)] [valT (nthV (cPos c) 1),eP V 0] [valI (nthV (cPos c) 1)] [] [] [sQ V 0] []
theorem d2_ok (W : Wd) (O : (BB W).Ok) : (S_d2 W).Ok := fun q hq => by
  have hq : D2P (q.i 0) (q.l 0) := hq
  cases h : (q.l 0) with
  | nil =>
    let q1 : Lt := lt [q.a 0] [q.t 0, q.t 1] [q.i 0] [] [] [] []
    show Tri _ _ _ [((q.a 0), listO (q.l 0) (q.t 1))] _
    rw [h]
    refine (d2e_ok W O q1 trivial).mono (Nat.le_refl _) fun r V ⟨e, hR, hr, hV⟩ => ⟨lt [] [e.t 0] [e.i 0] [] [] [] [], ?_, hr, hV.trans ?_⟩
    · show _ = dv _ (q.l 0) 0 (q.l 0).length
      rw [h]; exact hR
    · show _ = [((q.a 0), listO (q.l 0) (q.t 1))]
      rw [h]; rfl
  | cons x0 xs =>
    let q1 : Lt := lt [q.a 0] [q.t 0, q.t 1] [q.i 0] [] [x0] [xs] []
    show Tri _ _ _ [((q.a 0), listO (q.l 0) (q.t 1))] _
    rw [h] at hq ⊢
    refine (d2n_ok W O q1 hq).mono (Nat.le_refl _) fun r V ⟨e, hR, hr, hV⟩ => ⟨lt [] [e.t 0] [e.i 0] [] [] [] [], ?_, hr, hV.trans ?_⟩
    · show _ = dv _ (q.l 0) 0 (q.l 0).length
      rw [h]; exact hR
    · show _ = [((q.a 0), listO (q.l 0) (q.t 1))]
      rw [h]; rfl
noncomputable def S_dp (W : Wd) : Sp (BB W) :=
  let B := BB W
  { d := 75
    c := fun q => .call (.ref 90) ⟨[.int (q.i 0) (q.t 0), .int (q.i 1) (q.t 1)], []⟩
    P := fun q => DPP (q.i 0) (q.i 1)
    pre := fun q => []
    R := fun q e => (e.i 0) = (q.i 0).fdiv (q.i 1) ∧ (e.i 1) = (q.i 0).fmod (q.i 1)
    res := fun q e => .ok (.ret (.ref (e.a 0)))
    out := fun q e => [((e.a 0),tupO [(.int (e.i 0) (e.t 0)),(.int (e.i 1) (e.t 1))])] }
noncomputable def on_dp : Code → View → Lt := fun c V => lt [] [valT (nthV (cPos c) 0),valT (nthV (cPos c) 1)] [valI (nthV (cPos c) 0),valI (nthV (cPos c) 1)] [] [] [] []
theorem dp_z (W : Wd) (O : (BB W).Ok) (q : Lt) (hq : (S_dp W).P q) (ha : (q.i 0) = 0) : At (S_dp W) 75 q := by
  refine tri_f O (stdE _) [U (S_i2z W) (i2z_ok W O) on_i2z,U (S_d2e W) (d2e_ok W O) on_d2e] 2000 75 (hs := hx 77 0x61861830410c01860041040040041041060010400400400400400410420020020000000c00030c2082080003001040041682001001041040001) (is := [0])
    (fun (ρ : Rho) => ob (A := (True)) (by first | assumption | lia | decide | (constructor <;> first | assumption | lia | decide)) <| ob (A := (I2P (q.i 0) (↑(Builtin.Int.intBits (q.i 1)) : Int) ∧ (q.i 0) = 0)) (⟨hq.i2,ha⟩) <| fun _ : True => ob trivial <| fun he1 : ((ρ.2 1).i 0) = 0 => fin (S_dp W) q (lt [ρ.1 14] [(ρ.2 1).2 0,ρ.1 6] [(ρ.2 1).i 0,0] [] [] [] []) ((by have z : _ = (0 : Int) := he1; show _ = _ ∧ (0 : Int) = _; rw [ha,Int.zero_fdiv,Int.zero_fmod]; exact ⟨z,rfl⟩)) :) ?_
  induction W using y_0 <;> kernel_rfl
theorem dp_p (W : Wd) (O : (BB W).Ok) (q : Lt) (hq : (S_dp W).P q) (ha : (q.i 0) ≠ 0) : At (S_dp W) 75 q := by
  refine tri_f O (stdE _) [U (S_i2 W) (i2_ok W O) on_i2,U (S_dl0 W 8) (fun q hq => dl0_step W O 8 (dl_ok W O 8) q hq hq.2 (by have h := hq.1.il; have h2 := hq.1.yl; lia)) on_dl0,U (S_d2 W) (d2_ok W O) on_d2] 2000 75 (hs := hx 76 0x820820410830010400018c20800820820400400c40430400400410420020020000000c00030c2082080003001040041682001001041040001) (is := [0])
    (fun (ρ : Rho) => ob (A := (True)) (trivial) <| ob hq.i2 <| fun he0 : I2R (q.i 0) (↑(Builtin.Int.intBits (q.i 1)) : Int) ((ρ.2 0).l 0) => ob (DPP.dl hq ha he0) <| fun he1 : DLR (q.i 1) (↑(Builtin.Int.intBits (q.i 1)) : Int) (0 : Int) (((List.length ((ρ.2 0).l 0) : Nat) : Int) - 1) ((ρ.2 0).l 0) ([] : List Value) ((ρ.2 1).i 0) ((ρ.2 1).l 0) => ob (DPP.len he0 he1) <| ob (DPP.d2 hq he0 he1) <| fun he2 : ((ρ.2 2).i 0) = dv (↑(Builtin.Int.intBits (q.i 1)) : Int).toNat (List.reverse ((ρ.2 1).l 0)) 0 (List.reverse ((ρ.2 1).l 0)).length => fin (S_dp W) q (lt [ρ.1 12] [(ρ.2 2).2 0,(ρ.2 1).2 0] [(ρ.2 2).i 0,(ρ.2 1).i 0] [] [] [] []) ((DPP.done hq ha he0 he1 he2)) :) ?_
  induction W using y_0 <;> kernel_rfl
theorem dp_ok (W : Wd) (O : (BB W).Ok) : (S_dp W).Ok := fun q hq => by
  by_cases ha : (q.i 0) = 0
  · exact dp_z W O q hq ha
  · exact dp_p W O q hq ha
noncomputable def S_idm1 (W : Wd) : Sp (BB W) :=
  let B := BB W
  { d := 80
    c := fun q => .call (.ref 97) ⟨[.int (q.i 0) (q.t 0), .int (q.i 1) (q.t 1)], []⟩
    P := fun q => IDP (q.i 0) (q.i 1) ∧ 0 ≤ (q.i 0) ∧ 0 < (q.i 1)
    pre := fun q => []
    R := fun q e => (e.i 0) = (q.i 0).fdiv (q.i 1) ∧ (e.i 1) = (q.i 0).fmod (q.i 1)
    res := fun q e => .ok (.ret (.ref (e.a 0)))
    out := fun q e => [((e.a 0),tupO [(.int (e.i 0) (e.t 0)),(.int (e.i 1) (e.t 1))])] }
noncomputable def on_idm1 : Code → View → Lt := fun c V => lt [] [valT (nthV (cPos c) 0),valT (nthV (cPos c) 1)] [valI (nthV (cPos c) 0),valI (nthV (cPos c) 1)] [] [] [] []
noncomputable def S_idm2 (W : Wd) : Sp (BB W) :=
  let B := BB W
  { d := 84
    c := fun q => .call (.ref 97) ⟨[.int (q.i 0) (q.t 0), .int (q.i 1) (q.t 1)], []⟩
    P := fun q => IDP (q.i 0) (q.i 1) ∧ 0 < (q.i 1)
    pre := fun q => []
    R := fun q e => (e.i 0) = (q.i 0).fdiv (q.i 1) ∧ (e.i 1) = (q.i 0).fmod (q.i 1)
    res := fun q e => .ok (.ret (.ref (e.a 0)))
    out := fun q e => [((e.a 0),tupO [(.int (e.i 0) (e.t 0)),(.int (e.i 1) (e.t 1))])] }
noncomputable def on_idm2 : Code → View → Lt := fun c V => lt [] [valT (nthV (cPos c) 0),valT (nthV (cPos c) 1)] [valI (nthV (cPos c) 0),valI (nthV (cPos c) 1)] [] [] [] []
noncomputable def S_idm (W : Wd) : Sp (BB W) :=
  let B := BB W
  { d := 88
    c := fun q => .call (.ref 97) ⟨[.int (q.i 0) (q.t 0), .int (q.i 1) (q.t 1)], []⟩
    P := fun q => IDP (q.i 0) (q.i 1)
    pre := fun q => []
    R := fun q e => (e.i 0) = (q.i 0).fdiv (q.i 1) ∧ (e.i 1) = (q.i 0).fmod (q.i 1)
    res := fun q e => .ok (.ret (.ref (e.a 0)))
    out := fun q e => [((e.a 0),tupO [(.int (e.i 0) (e.t 0)),(.int (e.i 1) (e.t 1))])] }
noncomputable def on_idm : Code → View → Lt := fun c V => lt [] [valT (nthV (cPos c) 0),valT (nthV (cPos c) 1)] [valI (nthV (cPos c) 0),valI (nthV (cPos c) 1)] [] [] [] []
theorem idm_pos (W : Wd) (O : (BB W).Ok) (q : Lt) (hq : (S_idm1 W).P q) : At (S_idm1 W) 80 q := by
  refine tri_f O (stdE _) [U (S_dp W) (dp_ok W O) on_dp] 2000 80 (hs := hx 27 0x3001040042001042001242001001041040001) (is := [0])
    (fun (ρ : Rho) => ob hq.1.b0 <| ob (A := (¬q.i 1 < (0 : Int))) (by have := hq.2.2; show ¬ _; lia) <| ob (A := (¬q.i 0 < (0 : Int))) (by have := hq.2.1; show ¬ _; lia) <| ob (hq.1.dp hq.2.1 hq.2.2) <| fun he0 : ((ρ.2 0).i 0) = (q.i 0).fdiv (q.i 1) ∧ ((ρ.2 0).i 1) = (q.i 0).fmod (q.i 1) => fin (S_idm1 W) q (lt [(ρ.2 0).1 0] [(ρ.2 0).2 0,(ρ.2 0).2 1] [(ρ.2 0).i 0,(ρ.2 0).i 1] [] [] [] []) (he0) :) ?_
  induction W using y_0 <;> kernel_rfl
theorem idm1_ok (W : Wd) (O : (BB W).Ok) : (S_idm1 W).Ok := fun q hq => idm_pos W O q hq
theorem idm_nega (W : Wd) (O : (BB W).Ok) (q : Lt) (hq : (S_idm2 W).P q) (ha : (q.i 0) < 0) : At (S_idm2 W) 84 q := by
  refine tri_f O (stdE _) [U (S_idm1 W) (idm1_ok W O) on_idm1] 2000 84 (hs := hx 77 0x5140005145145041042041001001041081040040041042041001001040040041040003001000040002001042001242001001041040001) (is := [0])
    (fun (ρ : Rho) => ob hq.1.b0 <| ob (A := (¬q.i 1 < (0 : Int))) (by have := hq.2; show ¬ _; lia) <| ob ha <| ob (A := (IDP (Builtin.bitNot (q.i 0) : Int) (q.i 1) ∧ 0 ≤ (Builtin.bitNot (q.i 0) : Int) ∧ 0 < (q.i 1))) (⟨hq.1.inv ha,by show 0 ≤ -_ - 1; lia,hq.2⟩) <| fun he0 : ((ρ.2 0).i 0) = (Builtin.bitNot (q.i 0) : Int).fdiv (q.i 1) ∧ ((ρ.2 0).i 1) = (Builtin.bitNot (q.i 0) : Int).fmod (q.i 1) => fin (S_idm2 W) q (lt [ρ.1 15] [ρ.1 12,ρ.1 14] [Builtin.bitNot ((ρ.2 0).i 0),q.i 1 + Builtin.bitNot ((ρ.2 0).i 1)] [] [] [] []) (inv_div hq.2 he0.1 he0.2) :) ?_
  induction W using y_0 <;> kernel_rfl
theorem idm2_ok (W : Wd) (O : (BB W).Ok) : (S_idm2 W).Ok := fun q hq => by
  by_cases ha : (q.i 0) < 0
  · exact idm_nega W O q hq ha
  · exact (idm1_ok W O q ⟨hq.1, by lia, hq.2⟩).mono (by show 80 ≤ 84; decide) fun r V h => h
theorem idm_negb (W : Wd) (O : (BB W).Ok) (q : Lt) (hq : (S_idm W).P q) (hb : (q.i 1) < 0) : At (S_idm W) 88 q := by
  refine tri_f O (stdE _) [U (S_idm2 W) (idm2_ok W O) on_idm2] 2000 88 (hs := hx 70 0x145145145041042041001001041081040040041042041001001040040041040003000001000040002001242001001041040001) (is := [0])
    (fun (ρ : Rho) => ob hq.b0 <| ob hb <| ob (A := (IDP (-q.i 0 : Int) (-q.i 1 : Int) ∧ 0 < (-q.i 1 : Int))) (⟨hq.neg,by show 0 < -_; lia⟩) <| fun he0 : ((ρ.2 0).i 0) = (-q.i 0 : Int).fdiv (-q.i 1 : Int) ∧ ((ρ.2 0).i 1) = (-q.i 0 : Int).fmod (-q.i 1 : Int) => fin (S_idm W) q (lt [ρ.1 13] [(ρ.2 0).2 0,ρ.1 12] [(ρ.2 0).i 0,-(ρ.2 0).i 1] [] [] [] []) (neg_div he0.1 he0.2) :) ?_
  induction W using y_0 <;> kernel_rfl
theorem idm_ok (W : Wd) (O : (BB W).Ok) : (S_idm W).Ok := fun q hq => by
  by_cases hb : (q.i 1) < 0
  · exact idm_negb W O q hq hb
  · exact (idm2_ok W O q ⟨hq, by have : IDP (q.i 0) (q.i 1) := hq; have := this.b0; show 0 < (q.i 1); lia⟩).mono (by show 84 ≤ 88; decide) fun r V h => h
end Mine
end
section
namespace Mine
open PySem PySem.Spec PySem.Calls PyProof.Rows PySem.W PySem.W.X PySem.Builtin PySem.Builtin.Str
noncomputable def AllStr (xs : List Value) : Prop := ∀ v ∈ xs, v = .str (shS v) (shT v)
noncomputable def prs (xs : List Value) : List (Str × Tok) := xs.map fun v => (shS v, shT v)
theorem AllStr.eq : ∀ {xs : List Value}, AllStr xs → strValues (prs xs) = xs
  | [], _ => rfl
  | v :: xs, h => by
    have := AllStr.eq (xs := xs) (fun x hx => h x (.tail _ hx))
    have hv := h v (.head _)
    unfold strValues prs at *
    rw [List.map_cons, List.map_cons, this, ← hv]
noncomputable def joinV (sep : Str) (xs : List Value) : Str := Txt.join sep (xs.map shS)
noncomputable def joinF (args : List Value) (V : View) (hs : List Nat) (K : Result → View → List Nat → VC) : VC := match args with
  | [.str sep _, .ref a] => match hs with
    | [] => .ff
    | i :: hs => match nth V i with
      | none => .ff
      | some p => match listParts p.2 with
        | none => .ff
        | some q => .eq a p.1 <| .ob ((AllStr q.1 ∧ JoinOk sep (q.1.map shS) = true)) <| .al fun t' => K (.ok (.ret (.str (joinV sep q.1) t'))) V hs
  | _ => .ff
noncomputable def joinC (B : Bs) : BCut B where
  id := "str.join"
  code := 8028352891401237876
  d := 0
  f := joinF
  hid := by rw [← S.code_S]; decide +kernel
  ok := by
    intro args V hs K h A s _ D
    unfold joinF at h
    split at h
    · rename_i sep ts a
      split at h
      · cases h
      · rename_i i hs
        split at h
        · cases h
        · rename_i p hp
          split at h
          · cases h
          · rename_i q hq
            obtain ⟨rfl, ⟨hA, hJ⟩, h⟩ := h
            rw [nth_eq] at hp
            have ho := D.has _ (List.mem_of_getElem? hp)
            rw [listParts_is hq] at ho
            have e := hA.eq
            have his : s.heap.IsList p.1 (strValues (prs q.1)).toArray := by rw [e]; exact ⟨_, ho, rfl, _, rfl⟩
            have em : (prs q.1).map (·.1) = q.1.map shS := by unfold prs; rw [List.map_map]; rfl
            unfold JoinOk at hJ
            rw [Bool.not_eq_true', ← em] at hJ
            refine codeAny_builtin (b := Builtin.«str.join») (entryFor_of_tree (by kernel_rfl)) ?_
            rw [Around.under_plainId (by decide +kernel)]
            refine meets_str_join_list sep ts p.1 (prs q.1) hJ _ _ _ (fun r s' => AK B V s K r s') s ⟨his, post_join _ ⟨joinFit_length hJ, fun t' k => ?_⟩⟩
            refine ⟨V, hs, ?_, D.toks' k, ext_toks' k⟩
            rw [em]
            exact h t'
    · cases h
noncomputable def cntS (x y : Str) : Nat := (occurrences x y 0 x.length (x.length + 1)).length
noncomputable def countF : List Value → Option (Prop × Res)
  | [.str x _, .str y _] => some (True, .int (cntS x y : Nat))
  | _ => none
noncomputable def countC (B : Bs) : BCut B := pureCut B "str.count" 2166300787185074533748 Builtin.«str.count» countF (by decide +kernel) (entryFor_of_tree (by kernel_rfl)) (by decide +kernel) (by
  intro args P r e hP V hs K h s D
  unfold countF at e
  split at e
  · cases e
    exact ⟨_, gives_str_count _ _ _ _, post_int D h⟩
  · cases e)
noncomputable def chAt (x : Str) (i : Int) : Str := ⟨#[x.cps.getD i.toNat 0]⟩
noncomputable def sgetF : List Value → Option (Prop × Res)
  | [.str x _, .int i _] => some (0 ≤ i ∧ i.toNat < x.length ∧ x.length ≤ sizeLine, .str (chAt x i))
  | _ => none
theorem sget_gives {x : Str} {i : Int} (t u : Tok) (h0 : 0 ≤ i) (h1 : i.toNat < x.length) (h2 : x.length ≤ sizeLine) : Gives (Builtin.«str.__getitem__» ⟨[.str x t, .int i u], []⟩) (.str (chAt x i)) := by
  have hl := line63
  have hs : x.cps.size = x.length := rfl
  refine gives_str_getitem x i t u _ (by simp; lia) ?_
  rw [StrLaws.seqIndex_nonneg h0 (by lia)]
  show x.cps[i.toNat]? = _
  rw [Array.getElem?_eq_getElem (by lia)]
  simp [Array.getD, show i.toNat < x.cps.size by lia]
noncomputable def sgetC (B : Bs) : BCut B := pureCut B "str.__getitem__" 500416356548588640944365259017385332 Builtin.«str.__getitem__» sgetF (by decide +kernel) (entryFor_of_tree (by kernel_rfl)) (by decide +kernel) (by
  intro args P r e hP V hs K h s D
  unfold sgetF at e
  split at e
  · cases e
    exact ⟨_, sget_gives _ _ hP.1 hP.2.1 hP.2.2, post_str D (by show 1 ≤ sizeLine; decide) h⟩
  · cases e)
noncomputable def repS (x : Str) (n : Int) : Str := ⟨(List.replicate n.toNat x.cps.toList).flatten.toArray⟩
theorem fold_arr (x : Array Nat) : ∀ (n : Nat) (acc : Array Nat), (List.replicate n x).foldl (· ++ ·) acc = acc ++ (List.replicate n x.toList).flatten.toArray
  | 0, acc => by simp
  | n + 1, acc => by
    rw [List.replicate_succ, List.foldl_cons, fold_arr x n, List.replicate_succ, List.flatten_cons]
    apply Array.ext'
    simp
theorem smul_gives (x : Str) (n : Int) (t u : Tok) (h1 : n ≤ sizeLine) (h2 : x.length * n.toNat ≤ sizeLine) (h3 : -(2 ^ 62) ≤ n) : ∃ m, Gives (Builtin.«str.__mul__» ⟨[.str x t, .int n u], []⟩) m ∧ ∀ {B : Bs} {V : View} {hs : List Nat} {K : Result → View → List Nat → VC} {s : Shared}, Rep B V s → (∀ t', N (K (.ok (.ret (.str (repS x n) t'))) V hs)) → m.post (fun v s' => AK B V s K (.ok (.ret v)) s') s := by
  have hl := line63
  refine ⟨_, gives_str_mul x n t u (by simp; lia) (fun _ _ => ?_) (fun _ _ => by unfold tooLong; simpa using h2), fun D h => ?_⟩
  · have h5 : (x.length : Int) * n ≤ sizeLine := by
      have e : ((n.toNat : Nat) : Int) = n := by lia
      rw [← e]
      exact_mod_cast h2
    intro hh
    have h4 : ((x.length : Nat) : Int) ≤ (2 ^ 63 - 1) / n := by
      rw [Int.le_ediv_iff_mul_le (by lia)]
      lia
    lia
  · split
    · rename_i hn
      have e : repS x n = Str.empty := by unfold repS; rw [show n.toNat = 0 by lia]; rfl
      rw [e] at h
      exact post_str D (Nat.zero_le _) h
    · split
      · rename_i hn h4
        have e : repS x n = x := by
          simp only [Bool.or_eq_true, beq_iff_eq] at h4
          unfold repS
          rcases h4 with h4 | h4
          · subst h4
            apply Str.ext'
            simp
          · have : x.cps = #[] := Array.eq_empty_of_size_eq_zero h4
            apply Str.ext'
            rw [this]
            simp
        rw [e] at h
        exact post_val D (h t)
      · have e : (⟨(List.replicate n.toNat x.cps).foldl (· ++ ·) #[]⟩ : Str) = repS x n := by
          rw [fold_arr]
          unfold repS
          simp
        rw [e]
        refine post_str D ?_ h
        show (List.replicate n.toNat x.cps.toList).flatten.toArray.size ≤ sizeLine
        have hs : x.cps.toList.length = x.length := by simp; rfl
        simp only [List.size_toArray, List.length_flatten, List.map_replicate, List.sum_replicate_nat, hs]
        rw [Nat.mul_comm]; exact h2
noncomputable def smulC (B : Bs) : BCut B := pureCut B "str.__mul__" 116512245094328231196325236 Builtin.«str.__mul__» (fun args => match args with
  | [.str x _, .int n _] => some ((n ≤ sizeLine ∧ x.length * n.toNat ≤ sizeLine) ∧ -(2 ^ 62) ≤ n, .str (repS x n))
  | _ => none) (by decide +kernel) (entryFor_of_tree (by kernel_rfl)) (by decide +kernel) (by
  intro args P r e hP V hs K h s D
  split at e
  · cases e
    rename_i x t n u
    obtain ⟨m, g, q⟩ := smul_gives x n t u hP.1.1 hP.1.2 hP.2
    exact ⟨m, g, q D h⟩
  · cases e)
end Mine
end
section
namespace Mine
open PySem PySem.Spec PySem.Calls PyProof.Rows PySem.W PySem.W.X PySem.Builtin PySem.Builtin.Range
noncomputable def rangeTN : Nat := 439838794355
theorem rangeT_code : S.codeS "range" = rangeTN := by rw [← S.code_S]; decide +kernel
noncomputable def rangeParts (o : Obj) : Option (Int × Int × Int) := match o with
  | ⟨c, dc, dt, sl⟩ => match c with
    | .type n => match Nat.beq (S.codeS n) rangeTN with
      | false => none
      | true => match dc with
        | some _ => none
        | none => match sl.toList with
          | _ :: _ => none
          | [] => match dt with
            | .fields xs => match xs.toList with
              | [.int a _, .int b _, .int c _] => some (a, b, c)
              | _ => none
            | _ => none
    | _ => none
theorem rangeParts_is {o : Obj} {a b c : Int} (e : rangeParts o = some (a, b, c)) : ∃ t u v, o = { cls := .type "range", dict := none, data := .fields #[.int a t, .int b u, .int c v], slots := #[] } := by
  obtain ⟨cl, dc, dt, sl⟩ := o
  unfold rangeParts at e
  dsimp only at e
  split at e
  · rename_i n
    split at e
    · cases e
    · rename_i hn
      have hn := Nat.eq_of_beq_eq_true hn
      rw [← rangeT_code] at hn
      have hn := codeS_inj hn
      subst hn
      split at e
      · cases e
      · split at e
        · cases e
        · rename_i hs
          have hs : sl = #[] := Array.ext' hs
          subst hs
          split at e
          · rename_i xs
            split at e
            · rename_i a' t b' u c' v hx
              cases e
              refine ⟨t, u, v, ?_⟩
              have hx : xs = #[.int a t, .int b u, .int c v] := Array.ext' hx
              rw [hx]
            · cases e
          · cases e
  · cases e
noncomputable def rlen (a b : Int) : Int := if a < b then b - a else 0
theorem rlen_size (a b : Int) : rangeSize a b 1 = rlen a b := by
  unfold rangeSize rlen
  rw [if_pos (by decide)]
  split
  · rw [Int.ediv_one]; lia
  · rfl
noncomputable def riterF (args : List Value) (V : View) (hs : List Nat) (K : Result → View → List Nat → VC) : VC := match args with
  | [.ref a] => match hs with
    | [] => .ff
    | i :: hs => match nth V i with
      | none => .ff
      | some p => match rangeParts p.2 with
        | none => .ff
        | some q => match q with
          | (x, y, z) => .eq a p.1 <| .ob ((z = 1 ∧ (-(2 ^ 62) ≤ x ∧ x < 2 ^ 62) ∧ -(2 ^ 62) ≤ y ∧ y < 2 ^ 62)) <| .al fun a' => K (.ok (.ret (.ref a'))) ((a', { cls := .type "range_iterator", data := .fields ⟨[.int x 0, .int (rlen x y) 0, .int 1 0]⟩ }) :: V) hs
  | _ => .ff
noncomputable def riterC (B : Bs) : BCut B where
  id := "range.__iter__"
  code := 1954752940192971970453299505619571
  d := 0
  f := riterF
  hid := by rw [← S.code_S]; decide +kernel
  ok := by
    intro args V hs K h A s _ D
    unfold riterF at h
    split at h
    · rename_i a
      split at h
      · cases h
      · rename_i i hs
        split at h
        · cases h
        · rename_i p hp
          split at h
          · cases h
          · rename_i q hq
            split at h
            rename_i x y z
            obtain ⟨rfl, ⟨rfl, ⟨h1, h2⟩, h3, h4⟩, h⟩ := h
            rw [nth_eq] at hp
            have ho := D.has _ (List.mem_of_getElem? hp)
            obtain ⟨t, u, v, e⟩ := rangeParts_is hq
            rw [e] at ho
            have hl : rlen x y ≤ 2 ^ 63 - 1 ∧ 0 ≤ rlen x y := by unfold rlen; split <;> lia
            have hsm : (rangeFitsLong x && rangeFitsLong y && rangeFitsLong 1 && rangeFitsLong (rangeSize x y 1) && (rangeSize x y 1 == 0 || if (1 : Int) > 0 then rangeFitsLong (y + (1 - 1)) else rangeFitsLong (y + (1 + 1)))) = true := by
              rw [rlen_size, if_pos (by decide)]
              unfold rangeFitsLong
              simp only [Bool.and_eq_true, Bool.or_eq_true, decide_eq_true_eq]
              refine ⟨⟨⟨⟨⟨by lia, by lia⟩, by lia, by lia⟩, by lia, by lia⟩, by lia, by lia⟩, .inr ⟨by lia, by lia⟩⟩
            refine codeAny_builtin (b := Builtin.«range.__iter__») (entryFor_of_tree (by kernel_rfl)) ?_
            rw [Around.under_plainId (by decide +kernel)]
            refine AutoRange.range___iter___range_1 p.1 x y 1 t u v (by rw [hsm]; simp) _ _ _ (fun r s' => AK B V s K r s') s ⟨ho, ?_⟩
            rw [if_pos hsm, rlen_size]
            have z := D.alloc (o := { cls := .type "range_iterator", data := .fields ⟨[.int x 0, .int (rlen x y) 0, .int 1 0]⟩ }) rfl
            exact ⟨_, hs, h s.heap.objs.size, z.1.toks' _, z.2.trans (ext_toks' _)⟩
    · cases h
end Mine
end
section
namespace Mine
open PySem PySem.Spec PySem.Calls PyProof.Rows PySem.W PySem.W.X PySem.Builtin
noncomputable def partL (lo hi : Option Int) (l : List Value) : List Value :=
  let l1 := match hi with
    | some h => l.take h.toNat
    | none => l
  match lo with
    | some k => l1.drop k.toNat
    | none => l1
noncomputable def ptI : Option (Int × Tok) → Option Int
  | some p => some p.1
  | none => none
noncomputable def nonneg : Option Int → Prop
  | some i => 0 ≤ i
  | none => True
theorem clip (h : Int) (n : Nat) (hh : 0 ≤ h) : max 0 (min h (n : Int)) = ((min h.toNat n : Nat) : Int) := by lia
theorem partL_pick (items : List Value) {lo hi : Option Int} (h1 : nonneg lo) (h2 : nonneg hi) : (slicePick ⟨items⟩ lo hi none) = ⟨partL lo hi items⟩ := by
  have clipU : ∀ (h : Int), 0 ≤ h → slicePick ⟨items⟩ lo (some h) none = slicePick ⟨items⟩ lo (some ((min h.toNat items.length : Nat) : Int)) none := by
    intro h hh
    unfold slicePick sliceBounds
    have : (max 0 (min h (items.length : Int))) = max 0 (min ((min h.toNat items.length : Nat) : Int) (items.length : Int)) := by rw [clip h _ hh, clip _ _ (Int.natCast_nonneg _), Int.toNat_natCast, Nat.min_assoc, Nat.min_self]
    simp only [Option.getD_none, show (1 : Int) > 0 from by decide, if_true, show ¬ h < 0 from Int.not_lt.mpr hh, if_false, show ¬ ((min h.toNat items.length : Nat) : Int) < 0 from Int.not_lt.mpr (Int.natCast_nonneg _), List.size_toArray]
    rw [this]
  have clipL : ∀ (hi : Option Int) (h : Int), 0 ≤ h → slicePick ⟨items⟩ (some h) hi none = slicePick ⟨items⟩ (some ((min h.toNat items.length : Nat) : Int)) hi none := by
    intro hi h hh
    unfold slicePick sliceBounds
    have : (max 0 (min h (items.length : Int))) = max 0 (min ((min h.toNat items.length : Nat) : Int) (items.length : Int)) := by rw [clip h _ hh, clip _ _ (Int.natCast_nonneg _), Int.toNat_natCast, Nat.min_assoc, Nat.min_self]
    simp only [Option.getD_none, show (1 : Int) > 0 from by decide, if_true, show ¬ h < 0 from Int.not_lt.mpr hh, if_false, show ¬ ((min h.toNat items.length : Nat) : Int) < 0 from Int.not_lt.mpr (Int.natCast_nonneg _), List.size_toArray]
    rw [this]
  have tk : ∀ n : Nat, items.take (min n items.length) = items.take n := fun n => by
    by_cases h : n ≤ items.length
    · rw [Nat.min_eq_left h]
    · rw [Nat.min_eq_right (by lia), List.take_of_length_le (by lia : items.length ≤ n), List.take_of_length_le (Nat.le_refl _)]
  have dr : ∀ n : Nat, items.drop (min n items.length) = items.drop n := fun n => by
    by_cases h : n ≤ items.length
    · rw [Nat.min_eq_left h]
    · rw [Nat.min_eq_right (by lia), List.drop_of_length_le (by lia : items.length ≤ n), List.drop_of_length_le (Nat.le_refl _)]
  cases lo with
  | none =>
    cases hi with
    | none => exact slicePick_all _
    | some h =>
      rw [clipU h h2, slicePick_upto _ _ (by simp; lia)]
      show _ = (⟨items.take h.toNat⟩ : Array Value)
      rw [tk]
  | some a =>
    cases hi with
    | none =>
      rw [clipL none a h1, slicePick_from _ _ (by simp; lia)]
      show _ = (⟨items.drop a.toNat⟩ : Array Value)
      rw [dr]
    | some h =>
      have h1 : 0 ≤ a := h1
      have h2 : 0 ≤ h := h2
      rw [clipU h h2, clipL _ a h1]
      show _ = (⟨(items.take h.toNat).drop a.toNat⟩ : Array Value)
      by_cases hab : min a.toNat items.length ≤ min h.toNat items.length
      · rw [slicePick_run _ _ _ (by simp; lia) hab]
        congr 1
        rw [dr, ← tk h.toNat, List.drop_take]
        by_cases ha : a.toNat ≤ items.length
        · rw [Nat.min_eq_left ha]
        · rw [List.drop_of_length_le (by lia : items.length ≤ a.toNat)]; simp
      · unfold slicePick sliceBounds
        have e0 : ∀ k : Nat, (max 0 (min ((min k items.length : Nat) : Int) (items.length : Int))) = ((min k items.length : Nat) : Int) := fun k => by rw [clip _ _ (Int.natCast_nonneg _), Int.toNat_natCast, Nat.min_assoc, Nat.min_self]
        have e1 := e0 a.toNat
        have e2 := e0 h.toNat
        simp only [Option.getD_none, show (1 : Int) > 0 from by decide, if_true, show ¬ ((min a.toNat items.length : Nat) : Int) < 0 from Int.not_lt.mpr (Int.natCast_nonneg _), show ¬ ((min h.toNat items.length : Nat) : Int) < 0 from Int.not_lt.mpr (Int.natCast_nonneg _), if_false, List.size_toArray]
        rw [e1, e2, sliceRange_one]
        have : (min h.toNat items.length) - (min a.toNat items.length) = 0 := by lia
        rw [this]
        have : (items.take h.toNat).drop a.toNat = [] := List.drop_of_length_le (by rw [List.length_take]; lia)
        rw [this]
        rfl
noncomputable def lsliceF (args : List Value) (V : View) (hs : List Nat) (K : Result → View → List Nat → VC) : VC := match args with
  | [.ref l, .ref a] => match hs with
    | i :: hs => match hs with
      | j :: hs => match nth V i with
        | none => .ff
        | some p => match listParts p.2 with
          | none => .ff
          | some q => match q with
            | (items, ep) => match nth V j with
              | none => .ff
              | some p2 => match sliceParts p2.2 with
                | none => .ff
                | some r => .eq l p.1 <| .eq a p2.1 <| .ob ((nonneg (ptI r.1) ∧ nonneg (ptI r.2) ∧ items.length ≤ sizeLine)) <| .al fun a' => K (.ok (.ret (.ref a'))) ((a', ⟨p.2.cls, none, .seq ⟨partL (ptI r.1) (ptI r.2) items⟩ 0, #[]⟩) :: V) hs
      | [] => .ff
    | [] => .ff
  | _ => .ff
theorem part_is {p : Option (Int × Tok)} : IsPart (partValue p) (ptI p) := by
  cases p with
  | none => exact .none
  | some p => exact .int _ _
noncomputable def lsliceC (B : Bs) : BCut B where
  id := "list.__getitem__"
  code := 128106587276438692081757506308484131437
  d := 0
  f := lsliceF
  hid := by rw [← S.code_S]; decide +kernel
  ok := by
    intro args V hs K h A s _ D
    unfold lsliceF at h
    split at h
    · rename_i l a
      split at h
      · rename_i i hs'
        split at h
        · rename_i j hs
          split at h
          · cases h
          · rename_i p hp
            split at h
            · cases h
            · rename_i q hq
              split at h
              rename_i items ep
              split at h
              · cases h
              · rename_i p2 hp2
                split at h
                · cases h
                · rename_i r hr
                  obtain ⟨rfl, rfl, ⟨h1, h2, hsz⟩, h⟩ := h
                  rw [nth_eq] at hp hp2
                  have ho := D.has _ (List.mem_of_getElem? hp)
                  rw [listParts_is hq] at ho
                  obtain ⟨os, hos, hcs, hds⟩ := sliceParts_is (D.has _ (List.mem_of_getElem? hp2)) hr
                  have hTs : s.TypeIs (.ref p2.1) "slice" := ⟨os, hos, hcs⟩
                  have hc : p.2.cls = .type "list" := by rw [listParts_is hq]
                  have hl : s.heap.IsList p.1 ⟨items⟩ := ⟨_, ho, rfl, _, rfl⟩
                  refine codeAny_builtin (b := Builtin.«list.__getitem__») (entryFor_of_tree (by kernel_rfl)) ?_
                  rw [Around.under_plainId (by decide +kernel)]
                  show wpAny _ _ (Builtin.List.listSubscript? (.ref p2.1) >>= _) _ _ s
                  refine wpAny_bind ?_
                  unfold Builtin.List.listSubscript?
                  refine wpAny_bind (wpAny_specialOf hTs slice_no_index ?_)
                  simp only [Option.isNone_none, if_true]
                  refine wpAny_pure ?_
                  show wpAny _ _ (typeOf (.ref p2.1) >>= _) _ _ s
                  refine wpAny_bind (wpAny_typeOf hTs ?_)
                  rw [if_neg (by decide)]
                  rw [listSliceParts_eq]
                  have pl := part_is (p := r.1)
                  have pu := part_is (p := r.2)
                  refine wpAny_bind (wpAny_bind (wpAny_field hos hds (x := .none) rfl (wpAny_bind (wpAny_listPart .none ?_))))
                  rw [if_neg (show ¬ ((rawPart none == rawInt 0) = true) from Bool.false_ne_true)]
                  refine wpAny_bind (wpAny_field hos hds (x := partValue r.1) rfl (wpAny_bind (wpAny_listPart pl ?_)))
                  refine wpAny_bind (wpAny_field hos hds (x := partValue r.2) rfl (wpAny_bind (wpAny_listPart pu (wpAny_pure ?_))))
                  refine wpAny_bind (m := Builtin.List.listItems (.ref p.1)) ?_
                  unfold Builtin.List.listItems
                  refine wpAny_bind (wpAny_seqItems ho rfl (wpAny_pure ?_))
                  refine wpAny_bind (wpAny_of_eq (sliceIndices_raw (ptI r.1) (ptI r.2) none _ (by simp)) ?_)
                  have e := partL_pick items h1 h2
                  have z := D.alloc (o := listX (partL (ptI r.1) (ptI r.2) items) 0) rfl
                  rw [hc] at h
                  refine wpAny_bind (wpAny_newObj_type (wpAny_pure ?_) (Nat.le_trans (slicePick_size_le ⟨items⟩ (ptI r.1) (ptI r.2) none) hsz))
                  refine ⟨_, hs, h s.heap.objs.size, ?_, ?_⟩
                  · show Rep B _ { s with heap := s.heap.push (listX (slicePick ⟨items⟩ (ptI r.1) (ptI r.2) none).toList 0) }
                    rw [e]; exact z.1
                  · show Ext B _ _ _ { s with heap := s.heap.push (listX (slicePick ⟨items⟩ (ptI r.1) (ptI r.2) none).toList 0) }
                    rw [e]; exact z.2
        · cases h
      · cases h
    · cases h
noncomputable def AllInt (xs : List Value) : Prop := ∀ v ∈ xs, v = .int (shI v) (shT v)
end Mine
end
section
namespace Mine
open PySem PySem.Spec PySem.Calls PyProof.Rows PySem.W PySem.W.X PySem.Builtin PySem.Builtin.Range
end Mine
end
section
namespace Mine
open PySem PySem.Spec PySem.Calls PyProof.Rows PySem.W PySem.W.X
noncomputable def execsZ : List Stmt → Env → Sem Flow := PySem.W.ZFast.zw12563942051412417395
theorem execsZ_eq : execs = execsZ := PySem.W.ZFast.ze12563942051412417395
noncomputable def Seg (B : Bs) (d : Nat) (sts : List Stmt) (env : Env) (pre : View) (post : Result → View → Prop) : Prop :=
  ∀ A s, Room A d → Rep B pre s → wpAny (model B.prog B.w) A (execs sts env) (fun f s' => ∃ V', post (.ok f) V' ∧ Rep B V' s' ∧ Ext B pre V' s s') (fun e s' => ∃ V', post (.error e) V' ∧ Rep B V' s' ∧ Ext B pre V' s s') s
noncomputable def blkS : Code → List Stmt
  | .block sts _ => sts
  | _ => []
noncomputable def blkE : Code → Env
  | .block _ env => env
  | _ => default
noncomputable abbrev SegC (B : Bs) (d : Nat) (c : Code) (pre : View) (post : Result → View → Prop) : Prop := Seg B d (blkS c) (blkE c) pre post
theorem seg_of_run_end {B : Bs} (O : B.Ok) (bc : List (BCut B)) (cs : List (Use B)) (n d : Nat) {sts : List Stmt} {env : Env} {pre : View} {hs is : List Nat} {post : Result → View → Prop}
    (h : N (run B bc cs n d (.tree Flow (execsZ sts env) (endK post is)) pre hs)) : Seg B d sts env pre post := fun A s R D => by
  have z := run_sound O bc cs n d _ pre hs h A s R D
  rw [execsZ_eq]
  have key : ∀ (r : Result) (s' : Shared), (∃ V' hs', N (endK post is r V' hs') ∧ Rep B V' s' ∧ Ext B pre V' s s') → ∃ V', post r V' ∧ Rep B V' s' ∧ Ext B pre V' s s' := by
    rintro r s' ⟨V', _, q, D', x⟩
    unfold endK at q
    split at q
    · rename_i q' e
      obtain ⟨ps, rest⟩ := q'
      have pm := pull_perm e
      refine ⟨ps, q, (D'.perm pm).left, ⟨x.same, fun a ha => x.new a ?_, x.there⟩⟩
      have pe : (excl V').Perm (excl (ps ++ rest)) := (pm.filter _).map _
      exact pe.mem_iff.mpr (by rw [excl_append]; exact List.mem_append_left _ ha)
    · cases q
  exact wpAny_mono z (fun f s' h => key _ _ h) (fun e s' h => key _ _ h)
theorem execs_app' {M : Model} {Γ : PySem.Ctx} {env : Env} {Q : Flow → Pos → Shared → Prop} {E : Value → Pos → Shared → Prop} (b : List Stmt) : ∀ (a : List Stmt) {p : Pos} {s : Shared},
    Sem.wp M Γ (execs a env) (fun f p' s' => match f with | .next => Sem.wp M Γ (execs b env) Q E p' s' | f => Q f p' s') E p s → Sem.wp M Γ (execs (a ++ b) env) Q E p s
  | [], p, s, h => h
  | st :: a, p, s, h => by
    rw [execs_cons, Sem.wp_bind'] at h
    rw [List.cons_append, execs_cons, Sem.wp_bind']
    refine Sem.wp_mono M Γ _ (fun f p' s' h' => ?_) (fun _ _ _ h' => h') _ _ h
    cases f with
    | next => exact execs_app' b a h'
    | _ => exact h'
theorem execs_app {M : Model} {A : Around} {env : Env} {Q : Flow → Shared → Prop} {E : Value → Shared → Prop} (a b : List Stmt) {s : Shared}
    (h : wpAny M A (execs a env) (fun f s' => match f with | .next => wpAny M A (execs b env) Q E s' | f => Q f s') E s) : wpAny M A (execs (a ++ b) env) Q E s := fun Γ p hΓ =>
  execs_app' b a (by
    have z := h Γ p hΓ
    refine Sem.wp_mono M Γ _ ?_ (fun _ _ _ x => x) _ _ z
    intro f p' s' h'
    cases f with
    | next => exact h' Γ p' hΓ
    | _ => exact h')
theorem Seg.app {B : Bs} {d : Nat} {a b : List Stmt} {env : Env} {pre : View} {mid : Result → View → Prop} {post : Result → View → Prop} (h : Seg B d a env pre mid)
    (hf : ∀ r V, mid r V → r = .ok .next) (k : ∀ V, mid (.ok .next) V → Seg B d b env V post) : Seg B d (a ++ b) env pre post := fun A s R D => by
  refine execs_app a b (wpAny_mono (h A s R D) (fun f s' ⟨V', q, D', x⟩ => ?_) (fun e s' ⟨V', q, _⟩ => by cases hf _ _ q))
  have := hf _ _ q
  injection this with this
  subst this
  exact wpAny_mono (k V' q A s' R D') (fun f s2 ⟨V2, q2, D2, x2⟩ => ⟨V2, q2, D2, x.trans x2⟩) (fun f s2 ⟨V2, q2, D2, x2⟩ => ⟨V2, q2, D2, x.trans x2⟩)
theorem Seg.mono {B : Bs} {d d' : Nat} {sts : List Stmt} {env : Env} {pre : View} {post post' : Result → View → Prop} (h : Seg B d sts env pre post) (hd : d ≤ d') (k : ∀ f V, post f V → post' f V) : Seg B d' sts env pre post' := fun A s R D =>
  wpAny_mono (h A s (R.le hd) D) (fun f s' ⟨V', q, D', x⟩ => ⟨V', k _ _ q, D', x⟩) (fun f s' ⟨V', q, D', x⟩ => ⟨V', k _ _ q, D', x⟩)
noncomputable def flowV : Flow → Value
  | .ret v => v
  | _ => .none
theorem tri_func {B : Bs} {d : Nat} {body : List Stmt} {env : Env} {pre : View} {post : Result → View → Prop} (h : Seg B d body env pre post) (hf : ∀ e V, ¬ post (.error e) V) :
    Tri B (d + 1) (.func body env) pre (fun r V => ∃ f, post (.ok f) V ∧ r = .ok (.ret (flowV f))) := fun A s R D => by
  refine codeAny_of_tree ?_
  refine wpAny_bind (wpAny_point ?_)
  refine wpAny_bind (wpAny_onRaise (wpAny_mono (h _ s (R.under rfl) D) (fun f s' ⟨V', q, D', x⟩ => ?_) (fun _ _ ⟨_, q, _⟩ => (hf _ _ q).elim)))
  cases f <;> exact wpAny_pure ⟨V', ⟨_, q, rfl⟩, D', x⟩
theorem seg_f {B : Bs} (O : B.Ok) (bc : List (BCut B)) (cs : List (Use B)) (n d : Nat) {sts : List Stmt} {env : Env} {pre : View} {hs is : List Nat} {post : Result → View → Prop} {T : Rho → Prop} (p : ∀ r, T r) (e : Eqn (run B bc cs n d (.tree Flow (execsZ sts env) (endK post is)) pre hs) T) : Seg B d sts env pre post := seg_of_run_end O bc cs n d (flat_N p e)
end Mine
end
section
namespace Mine
open PySem PySem.Spec PySem.Calls PyProof.Rows PySem.W PySem.W.X PySem.SeqAt
noncomputable def evalZ : Expr → Env → Sem Value := PySem.W.ZFast.zw14044960220447912780
theorem evalZ_eq : eval = evalZ := PySem.W.ZFast.ze14044960220447912780
noncomputable def eqW : Value → Value → Prop
  | .int i _, .int j _ => i = j
  | .str x _, .str y _ => x = y
  | _, _ => False
noncomputable def EqLs (P : Value → Value → Prop) : List Value → List Value → Prop
  | [], [] => True
  | x :: xs, y :: ys => P x y ∧ EqLs P xs ys
  | _, _ => False
theorem EqLs.len {P : Value → Value → Prop} : ∀ {xs ys : List Value}, EqLs P xs ys → xs.length = ys.length
  | [], [], _ => rfl
  | x :: xs, y :: ys, h => by simp [EqLs.len h.2]
  | [], y :: ys, h => h.elim
  | x :: xs, [], h => h.elim
theorem EqLs.at {P : Value → Value → Prop} : ∀ {xs ys : List Value}, EqLs P xs ys → ∀ j (h1 : j < xs.length) (h2 : j < ys.length), P xs[j] ys[j]
  | [], _, _, j, h1, _ => absurd h1 (Nat.not_lt_zero _)
  | x :: xs, [], h, _, _, _ => h.elim
  | x :: xs, y :: ys, h, 0, _, _ => h.1
  | x :: xs, y :: ys, h, j + 1, h1, h2 => EqLs.at h.2 j (by simpa using h1) (by simpa using h2)
theorem eqW_at {A : Around} {s : Shared} {x y : Value} (h : eqW x y) : EqAt A s x y true := by
  unfold eqW at h
  split at h
  · subst h
    rename_i i t u
    have z := EqAt.int_int (A := A) (s := s) i t i u
    rw [beq_self_eq_true] at z
    exact z
  · subst h
    rename_i i t u
    have z := EqAt.str_str (A := A) (s := s) i t i u
    rw [beq_self_eq_true] at z
    exact z
  · cases h
theorem tList_eq : tList = .type "list" := by unfold tList; kernel_rfl
theorem all_true (n : Nat) : (List.range n).all (fun _ => true) = true := by simp
end Mine
end
section
namespace Mine
open PySem PySem.Spec PySem.Calls PyProof.Rows PySem.W PySem.W.X PySem.Builtin PySem.SeqAt
noncomputable def eqN (c : Addr) (zs : List Value) (d : Addr) (ws : List Value) : Value → Value → Prop
  | .int i _, .int j _ => i = j
  | .str x _, .str y _ => x = y
  | .ref a, .ref b => (a = c ∧ b = d) ∧ EqLs eqW zs ws
  | _, _ => False
noncomputable def neF' (args : List Value) (V : View) (hs : List Nat) (K : Result → View → List Nat → VC) : VC := match args with
  | [.ref a, .ref b] => match hs with
    | i :: hs => match hs with
      | j :: hs => match hs with
        | k :: hs => match hs with
          | l :: hs => match nth V i with
            | none => .ff
            | some p => match listParts p.2 with
              | none => .ff
              | some q => match nth V j with
                | none => .ff
                | some p2 => match listParts p2.2 with
                  | none => .ff
                  | some q2 => match nth V k with
                    | none => .ff
                    | some p3 => match listParts p3.2 with
                      | none => .ff
                      | some q3 => match nth V l with
                        | none => .ff
                        | some p4 => match listParts p4.2 with
                          | none => .ff
                          | some q4 => .eq a p.1 <| .eq b p2.1 <| .ob (EqLs (eqN p3.1 q3.1 p4.1 q4.1) q.1 q2.1) <| K (.ok (.ret (.bool false))) V hs
          | [] => .ff
        | [] => .ff
      | [] => .ff
    | [] => .ff
  | _ => .ff
theorem eqN_at {B : Bs} {V : View} {A : Around} {s : Shared} (D : Rep B V s) (hu : A.units < cLine) {c d : Addr} {zs ws : List Value} {n m : Nat} (hc : s.heap.get? c = some (listX zs n)) (hd : s.heap.get? d = some (listX ws m)) {x y : Value} (h : eqN c zs d ws x y) : EqAt A s x y true := by
  unfold eqN at h
  split at h
  · exact eqW_at (show eqW _ _ from h)
  · exact eqW_at (show eqW _ _ from h)
  · obtain ⟨⟨rfl, rfl⟩, he⟩ := h
    rename_i a b
    by_cases e : a = b
    · subst e; exact EqAt.same _
    · refine EqAt.of_refs e ?_
      have z := RcAt.lists (e := fun _ => true) (l := a) (b := b) ⟨_, hc, rfl, n, rfl⟩ ⟨_, hd, rfl, m, rfl⟩ he.len hu (fun j h1 h2 => eqW_at (he.at j h1 h2))
      rw [all_true] at z
      exact z
  · cases h
noncomputable def neC (B : Bs) : BCut B where
  id := "list.__ne__"
  code := 116512115458775698011089517
  d := 1
  f := neF'
  hid := by rw [← S.code_S]; decide +kernel
  ok := by
    intro args V hs K h A s R D
    unfold neF' at h
    repeat' split at h
    all_goals first | exact False.elim h | skip
    rename_i a b _ i _ j _ k _ l hs p hp _ q hq _ p2 hp2 _ q2 hq2 _ p3 hp3 _ q3 hq3 _ p4 hp4 _ q4 hq4
    obtain ⟨rfl, rfl, he, h⟩ := h
    rw [nth_eq] at hp hp2 hp3 hp4
    have ho := D.has _ (List.mem_of_getElem? hp)
    have ho2 := D.has _ (List.mem_of_getElem? hp2)
    have ho3 := D.has _ (List.mem_of_getElem? hp3)
    have ho4 := D.has _ (List.mem_of_getElem? hp4)
    rw [listParts_is hq] at ho
    rw [listParts_is hq2] at ho2
    rw [listParts_is hq3] at ho3
    rw [listParts_is hq4] at ho4
    have hu : A.units + 1 < cLine := by have := R.units; lia
    refine codeAny_builtin (b := Builtin.«list.__ne__») (entryFor_of_tree (by kernel_rfl)) ?_
    rw [Around.under_plainId (by decide +kernel)]
    have z := list_neAt p.1 p2.1 ⟨q.1⟩ ⟨q2.1⟩ q.2 q2.2 none none #[] #[] he.len (fun _ => true) B.prog B.w A (fun r s' => AK B V s K r s') s
    refine z ⟨ho, ho2, fun j h1 h2 => eqN_at D (A := A.in1) hu ho3 ho4 (he.at j h1 h2), ?_⟩
    rw [all_true]
    exact ⟨V, _, h, D, Ext.refl V s⟩
end Mine
end
section
namespace Mine
open PySem PySem.Spec PySem.Calls PyProof.Rows PySem.W PySem.W.X PySem.Builtin PySem.Builtin.Str
end Mine
end
section
namespace Mine
open PySem PySem.Spec PySem.Calls PyProof.Rows PySem.W PySem.W.X PySem.Builtin
section
variable {B : Bs} {V : View} {s : Shared}
theorem Rep.keep (D : Rep B V s) {h' : Heap} (tk : Nat) (k : ∀ b o, s.heap.get? b = some o → h'.get? b = some o) : Rep B V { s with heap := h', toks := tk } ∧ Ext B V V s { s with heap := h', toks := tk } :=
  ⟨⟨⟨D.good.g, D.good.d, D.good.os, fun b o e h1 h2 => k _ _ (D.good.kept b o e h1 h2), fun b h => let ⟨o, e⟩ := D.good.loose b h; ⟨o, k b o e⟩, fun t ht => (D.good.tabs t ht).keeps k⟩, fun p hp => k _ _ (D.has p hp), D.nd, D.own⟩,
    ⟨fun _ _ e _ _ => k _ _ e, fun _ h => .inl h, fun a o e => ⟨o, k _ _ e⟩⟩⟩
theorem Rep.keep_new (D : Rep B V s) {h' : Heap} (tk : Nat) (k : ∀ b o, s.heap.get? b = some o → h'.get? b = some o) {a : Addr} {o : Obj} (hn : s.heap.get? a = none) (ha : h'.get? a = some o) (hc : isCodeO o = false) :
    Rep B ((a, o) :: V) { s with heap := h', toks := tk } ∧ Ext B V ((a, o) :: V) s { s with heap := h', toks := tk } := by
  obtain ⟨D2, x2⟩ := D.keep tk k
  have no : ∀ o', s.heap.get? a = some o' → False := fun o' e => by rw [hn] at e; cases e
  have ex : excl ((a, o) :: V) = a :: excl V := by rw [excl_cons, if_neg (by rw [hc]; simp)]
  refine ⟨⟨D2.good, fun p hp => ?_, ?_, fun b hb => ?_⟩, ⟨x2.same, fun b hb => ?_, x2.there⟩⟩
  · rcases List.mem_cons.mp hp with rfl | hp
    · exact ha
    · exact D2.has p hp
  · rw [ex, List.nodup_cons]
    refine ⟨fun hm => ?_, D.nd⟩
    obtain ⟨o', ho', _⟩ := excl_mem hm
    exact no _ (D.has _ ho')
  · rw [ex] at hb
    rcases List.mem_cons.mp hb with rfl | hb
    · refine ⟨?_, fun ⟨t, ht, e⟩ => ?_⟩
      · cases q : B.h₀.get? b with
        | none => exact .inl rfl
        | some o' =>
          by_cases hl : b ∈ B.loose
          · exact .inr hl
          · by_cases ht : ∀ t ∈ B.tabs, b ≠ t.addr
            · exact (no _ (D.good.kept _ _ q hl ht)).elim
            · simp only [Classical.not_forall] at ht
              obtain ⟨t, ht, hne⟩ := ht
              have e : b = t.addr := Classical.not_not.mp hne
              obtain ⟨as, _, e2, _⟩ := D.good.tabs t ht
              rw [← e] at e2
              exact (no _ e2).elim
      · obtain ⟨as, _, e2, _⟩ := D.good.tabs t ht
        have e : b = t.addr := e
        rw [← e] at e2
        exact no _ e2
    · exact D.own b hb
  · rw [ex] at hb
    rcases List.mem_cons.mp hb with rfl | hb
    · exact .inr hn
    · exact .inl hb
end
noncomputable def intsV : List Value → List Int
  | [] => []
  | v :: l => shI v :: intsV l
noncomputable def sumV : List Value → Int
  | [] => 0
  | v :: l => shI v + sumV l
theorem AllInt.intsAre : ∀ {l : List Value}, AllInt l → IntsAre l (intsV l)
  | [], _ => .nil
  | v :: l, h => by
    have e := h v (.head _)
    have z := AllInt.intsAre (l := l) (fun x hx => h x (.tail _ hx))
    rw [intsV, show v :: l = Value.int (shI v) (shT v) :: l by rw [← e]]
    exact .cons _ _ z
theorem sumV_eq : ∀ (l : List Value), sumV l = (intsV l).sum
  | [] => rfl
  | v :: l => by rw [sumV, sumV_eq l, intsV, List.sum_cons]
theorem AllInt.items {l : List Value} (h : AllInt l) : ∃ xs : Array (Int × Tok), (⟨l⟩ : Array Value) = intItems xs ∧ xs.toList.map (·.1) = intsV l := by
  have hi := h.intsAre
  obtain ⟨xs, e⟩ := hi.allInts.items
  refine ⟨xs, e, ?_⟩
  have e2 := nums_intItems xs
  rw [← e] at e2
  rw [← e2, show (l.toArray).toList = l from rfl, hi.numsOf]
noncomputable def aggF (P : List Value → Prop) (f : List Value → Int) (args : List Value) (V : View) (hs : List Nat) (K : Result → View → List Nat → VC) : VC := match args with
  | [] => .ff
  | v :: rest => match rest with
    | _ :: _ => .ff
    | [] => match v with
      | .ref a => match hs with
        | [] => .ff
        | i :: hs => match nth V i with
          | none => .ff
          | some p => match listParts p.2 with
            | none => .ff
            | some q => .eq a p.1 <| .ob (P q.1) <| .al fun t' => K (.ok (.ret (.int (f q.1) t'))) V hs
      | _ => .ff
noncomputable def aggC (B : Bs) (id : String) (code : Nat) (P : List Value → Prop) (f : List Value → Int) (hid : PySem.code id = code)
    (ok : ∀ (prog : Program) (w : World) (A : Around) (s : Shared) (l : Addr) (items : List Value) (R : Result → Shared → Prop), A.handled = none → s.heap.IsList l ⟨items⟩ → P items →
      (∀ h' tk t', (∀ b o, s.heap.get? b = some o → h'.get? b = some o) → R (.ok (.ret (.int (f items) t'))) { s with heap := h', toks := tk }) → codeAny (model prog w) A (.builtin id ⟨[.ref l], []⟩) R s) : BCut B where
  id := id
  code := code
  d := 0
  f := aggF P f
  hid := by rw [← S.code_S]; exact hid
  ok := by
    intro args V hs K h A s Rm D
    cases args with
    | nil => cases h
    | cons v rest =>
      cases rest with
      | cons => cases h
      | nil =>
        cases v with
        | ref a =>
          cases hs with
          | nil => cases h
          | cons i hs =>
            unfold aggF at h
            dsimp only at h
            cases hp : nth V i with
            | none => rw [hp] at h; cases h
            | some p =>
              rw [hp] at h
              dsimp only at h
              cases hq : listParts p.2 with
              | none => rw [hq] at h; cases h
              | some q =>
                rw [hq] at h
                obtain ⟨rfl, hI, h⟩ := h
                rw [nth_eq] at hp
                have hg := D.has p (List.mem_of_getElem? hp)
                rw [listParts_is hq] at hg
                exact ok _ _ A s p.1 q.1 _ Rm.handled ⟨_, hg, rfl, _, rfl⟩ hI fun h' tk t' k => ⟨V, hs, h t', D.keep tk k⟩
        | _ => cases h
noncomputable def sumC (B : Bs) : BCut B := aggC B "sum" 7239284 AllInt sumV (by decide +kernel) (by
  intro prog w A s l items R hh hl hI hR
  obtain ⟨xs, e, e2⟩ := hI.items
  rw [e] at hl
  refine codeAny_builtin F.entry_sum ?_
  rw [Around.under_plainId F.plain_sum]
  unfold Builtin.«sum»
  simp only [List.length_cons, List.length_nil]
  rw [if_neg (by decide)]
  refine wpAny_bind (wpAny_of_eq (show Builtins.bindParams "sum" ["start"] 0 { } = pure [none] from rfl) ?_)
  refine wpAny_bind (iter_intList hl fun s₂ e' st hfp hlI => ?_)
  subst e'
  refine wpAny_bind (wpAny_mkInt ?_)
  refine wpAny_bind (wpAny_pure ?_)
  simp only [List.forIn_cons, List.forIn_nil]
  refine wpAny_bind (wpAny_bind (wpAny_bind (wpAny_isInstance (T := "int") (b := false) (typeIs_int _ _ _) PySem.sub_int_str ?_)))
  simp only [Bool.false_eq_true, if_false]
  refine wpAny_pure (wpAny_bind (wpAny_bind (wpAny_isInstance (T := "int") (b := false) (typeIs_int _ _ _) PySem.sub_int_bytes ?_)))
  simp only [Bool.false_eq_true, if_false]
  refine wpAny_pure (wpAny_bind (wpAny_bind (wpAny_isInstance (T := "int") (b := false) (typeIs_int _ _ _) PySem.sub_int_bytearray ?_)))
  simp only [Bool.false_eq_true, if_false]
  refine wpAny_pure (wpAny_pure ?_)
  refine wpAny_bind (wpAny_newObj_type ?_)
  have W := Walks.list (prog := prog) (w := w) (A := A.in1) hh s.heap.objs.size l hlI (intItems xs)
  refine wpAny_pure ⟨plainId_quiet F.plain_sum_loop _, codeAny_sum_loopG W (numAt xs) (fun _ _ => intItems_at) _ (fun hm => Nat.lt_irrefl _ (hfp _ hm)) (intItems xs).size 0 _ s.toks 0 0 (.inl rfl) rfl (Nat.zero_le _)
    (W.frame _ _ _ st fun b _ o e => Heap.get?_push_of_some _ e) (Heap.get?_push_size _ rfl) fun h' tk t' hk => ?_⟩
  have e3 : preSum (numAt xs) (intItems xs).size = sumV items := by
    rw [sumV_eq, ← e2, preSum_eq, List.take_of_length_le (by simp [intItems])]
  rw [e3]
  exact hR h' tk t' (old_kept fun b o hb e => hk b o hb (Nat.ne_of_lt (Heap.lt_size e)) (Heap.get?_push_of_some _ e)))
noncomputable def maxL : List Int → Int
  | [] => 0
  | a :: l => match l with
    | [] => a
    | _ :: _ => max a (maxL l)
theorem maxL_is : ∀ (l : List Int) (m : Int), m ∈ l → (∀ a, a ∈ l → a ≤ m) → m = maxL l
  | [], m, h, _ => by cases h
  | [a], m, h, _ => by
    rcases List.mem_cons.mp h with h | h
    · exact h
    · cases h
  | a :: b :: l, m, h, h2 => by
    rw [maxL]
    have ha := h2 a (.head _)
    rcases List.mem_cons.mp h with h | h
    · subst h
      have : maxL (b :: l) ≤ m := by
        have hm : maxL (b :: l) ∈ b :: l := by
          clear h2 ha h
          induction l generalizing b with
          | nil => exact .head _
          | cons c l ih =>
            rw [maxL]
            rcases Int.le_total b (maxL (c :: l)) with q | q
            · rw [Int.max_eq_right q]; exact .tail _ (ih c)
            · rw [Int.max_eq_left q]; exact .head _
        exact h2 _ (.tail _ hm)
      rw [Int.max_eq_left this]
    · have := maxL_is (b :: l) m h (fun x hx => h2 x (.tail _ hx))
      rw [← this, Int.max_eq_right ha]
noncomputable def maxV (l : List Value) : Int := maxL (intsV l)
noncomputable def maxC (B : Bs) : BCut B := aggC B "max" 7955054 (fun l => AllInt l ∧ 0 < l.length) maxV (by decide +kernel) (by
  intro prog w A s l items R hh hl ⟨hI, h0⟩ hR
  obtain ⟨xs, e, e2⟩ := hI.items
  have hsz : 0 < (intItems xs).size := by rw [← e]; exact h0
  have hs2 : (intItems xs).size = xs.size := by simp [intItems]
  rw [e] at hl
  refine codeAny_builtin F.entry_max ?_
  rw [Around.under_plainId F.plain_max]
  show wpAny _ A.in1 (Builtins.bindParams "max" ["key", "default"] 0 ⟨[], []⟩ >>= _) _ _ s
  refine wpAny_bind (wpAny_of_eq (show Builtins.bindParams "max" ["key", "default"] 0 ⟨[], []⟩ = pure [none, none] from rfl) ?_)
  refine wpAny_bind (wpAny_pure ?_)
  refine wpAny_bind (iter_intList hl fun s₂ e' st hfp hlI => ?_)
  subst e'
  refine wpAny_bind (wpAny_newObj_type ?_)
  rw [show (toString "max" ++ toString ".loop" : String) = "max.loop" by decide]
  have W := Walks.list (prog := prog) (w := w) (A := A.in1) hh s.heap.objs.size l hlI (intItems xs)
  refine wpAny_pure ⟨plainId_quiet F.plain_max_loop _, codeAny_max_loop_first W _ (CmpOf.ints_gt (numAt xs) fun _ _ => intItems_at) _ (fun hm => Nat.lt_irrefl _ (hfp _ hm)) hsz
    (W.frame _ _ _ st fun b _ o e => Heap.get?_push_of_some _ e) (Heap.get?_push_size _ rfl) fun v h' tk hP hk => ?_⟩
  obtain ⟨t, rfl⟩ := intItems_at hP
  obtain ⟨h1, h2⟩ := argBest_gt (numAt xs) ((intItems xs).size - 1)
  have e3 : numAt xs (argBest (fun i j => decide (numAt xs i > numAt xs j)) ((intItems xs).size - 1)) = maxV items := by
    unfold maxV
    rw [← e2]
    refine maxL_is _ _ ?_ fun a ha => ?_
    · rw [numAt_eq]; exact getD_mem (by rw [List.length_map, Array.length_toList]; lia)
    · obtain ⟨j, hj, rfl⟩ := mem_getD ha
      rw [List.length_map, Array.length_toList] at hj
      rw [← numAt_eq]; exact h2 j (by lia)
  rw [e3]
  exact hR h' tk t (old_kept fun b o hb e => hk b o hb (Nat.ne_of_lt (Heap.lt_size e)) (Heap.get?_push_of_some _ e)))
noncomputable def twoF (F : View → Nat → Addr → List Value → Nat → List Value → (Result → View → List Nat → VC) → List Nat → VC) (P : List Value → List Value → Prop) (args : List Value) (V : View) (hs : List Nat) (K : Result → View → List Nat → VC) : VC := match args with
  | [] => .ff
  | v :: rest => match rest with
    | [] => .ff
    | u :: rest => match rest with
      | _ :: _ => .ff
      | [] => match v with
        | .ref a => match u with
          | .ref b => match hs with
            | [] => .ff
            | i :: hs => match hs with
              | [] => .ff
              | j :: hs => match nth V i with
                | none => .ff
                | some p => match listParts p.2 with
                  | none => .ff
                  | some q => match nth V j with
                    | none => .ff
                    | some p2 => match listParts p2.2 with
                      | none => .ff
                      | some q2 => .eq a p.1 <| .eq b p2.1 <| .ob (P q.1 q2.1) <| F V i p.1 q.1 q.2 q2.1 K hs
          | _ => .ff
        | _ => .ff
theorem twoF_some {F : View → Nat → Addr → List Value → Nat → List Value → (Result → View → List Nat → VC) → List Nat → VC} {P : List Value → List Value → Prop} {args : List Value} {V : View} {hs : List Nat} {K : Result → View → List Nat → VC} (h : N (twoF F P args V hs K)) :
    ∃ a b hs' i xs n ys m, args = [.ref a, .ref b] ∧ V[i]? = some (a, listX xs n) ∧ (b, listX ys m) ∈ V ∧ P xs ys ∧ N (F V i a xs n ys K hs') := by
  cases args with
  | nil => cases h
  | cons v rest =>
    cases rest with
    | nil => cases h
    | cons u rest =>
      cases rest with
      | cons => cases h
      | nil =>
        cases v with
        | ref a =>
          cases u with
          | ref b =>
            cases hs with
            | nil => cases h
            | cons i hs =>
              cases hs with
              | nil => cases h
              | cons j hs =>
                unfold twoF at h
                dsimp only at h
                cases hp : nth V i with
                | none => rw [hp] at h; cases h
                | some p =>
                  rw [hp] at h
                  dsimp only at h
                  cases hq : listParts p.2 with
                  | none => rw [hq] at h; cases h
                  | some q =>
                    rw [hq] at h
                    dsimp only at h
                    cases hp2 : nth V j with
                    | none => rw [hp2] at h; cases h
                    | some p2 =>
                      rw [hp2] at h
                      dsimp only at h
                      cases hq2 : listParts p2.2 with
                      | none => rw [hq2] at h; cases h
                      | some q2 =>
                        rw [hq2] at h
                        obtain ⟨rfl, rfl, hP, h⟩ := h
                        rw [nth_eq] at hp hp2
                        refine ⟨p.1, p2.1, hs, i, q.1, q.2, q2.1, q2.2, rfl, ?_, ?_, hP, h⟩
                        · rw [hp]; exact congrArg some (Prod.ext rfl (listParts_is hq))
                        · have z := List.mem_of_getElem? hp2
                          have e : p2 = (p2.1, listX q2.1 q2.2) := Prod.ext rfl (listParts_is hq2)
                          rw [← e]; exact z
          | _ => cases h
        | _ => cases h
noncomputable def laddF (V : View) (_ : Nat) (_ : Addr) (xs : List Value) (_ : Nat) (ys : List Value) (K : Result → View → List Nat → VC) (hs : List Nat) : VC :=
  .al fun a' => K (.ok (.ret (.ref a'))) ((a', listX (xs ++ ys) 0) :: V) hs
noncomputable def laddC (B : Bs) : BCut B where
  id := "list.__add__"
  code := 29827096650756823847613524589
  d := 0
  f := twoF laddF fun xs ys => xs.length + ys.length ≤ sizeLine
  hid := by rw [← S.code_S]; decide +kernel
  ok := by
    intro args V hs K h A s Rm D
    obtain ⟨a, b, hs', i, xs, n, ys, m, rfl, hi, hj, hP, h⟩ := twoF_some h
    refine codeAny_builtin (b := Builtin.«list.__add__») (entryFor_of_tree (by kernel_rfl)) ?_
    rw [Around.under_plainId (by decide +kernel)]
    have z := D.alloc (o := listX (xs ++ ys) 0) rfl
    refine AutoSeq1.list___add___list_list_0 a ⟨xs⟩ n b ⟨ys⟩ m hP _ _ _ (fun r s' => AK B V s K r s') s ⟨D.has _ (List.mem_of_getElem? hi), D.has _ hj, ?_⟩
    have e : ((⟨xs⟩ : Array Value) ++ (⟨ys⟩ : Array Value)) = ⟨xs ++ ys⟩ := by apply Array.ext'; simp
    rw [e]
    exact ⟨_, hs', h s.heap.objs.size, z.1.toks' _, z.2.trans (ext_toks' _)⟩
noncomputable def epA (n : Nat) (ys : List Value) : Nat := match ys with
  | [] => n
  | _ :: _ => n + 1
noncomputable def liaddF (V : View) (i : Nat) (a : Addr) (xs : List Value) (n : Nat) (ys : List Value) (K : Result → View → List Nat → VC) (hs : List Nat) : VC :=
  K (.ok (.ret (.ref a))) (setAt V i (a, listX (xs ++ ys) (epA n ys))) hs
noncomputable def liaddC (B : Bs) : BCut B where
  id := "list.__iadd__"
  code := 7635736742594467534504881056365
  d := 0
  f := twoF liaddF fun xs ys => xs.length + ys.length ≤ 1000
  hid := by rw [← S.code_S]; decide +kernel
  ok := by
    intro args V hs K h A s Rm D
    obtain ⟨a, b, hs', i, xs, n, ys, m, rfl, hi, hj, hP, h⟩ := twoF_some h
    refine codeAny_builtin (b := Builtin.«list.__iadd__») (entryFor_of_tree (by kernel_rfl)) ?_
    rw [Around.under_plainId (by decide +kernel)]
    have hk : (1000 : Nat) ≤ sizeLine := by decide
    have ep : Obj.mapSeq (fun x => x ++ (⟨ys⟩ : Array Value)) (listX xs n) = listX (xs ++ ys) (epA n ys) := by
      rw [mapSeq_ep ⟨xs⟩ ⟨xs ++ ys⟩ _ n (by apply Array.ext'; simp)]
      cases ys with
      | nil => simp [epA]
      | cons y ys => simp [epA]
    have z := D.update (f := Obj.mapSeq fun x => x ++ (⟨ys⟩ : Array Value)) hi (by rw [ep]; rfl) (notCode_list _) (by rw [ep]; exact notCode_list _)
    rw [ep] at z
    refine AutoSeq1.list___iadd___list_list_0 a ⟨xs⟩ n b ⟨ys⟩ m (by
      have : Builtin.List.listTooLong ((⟨xs⟩ : Array Value).size + (⟨ys⟩ : Array Value).size) = false := by
        unfold Builtin.List.listTooLong
        simp only [List.size_toArray, decide_eq_false_iff_not]
        lia
      rw [this]; simp) (by show xs.length ≤ _; lia) (by show xs.length + ys.length ≤ _; lia) _ _ _ (fun r s' => AK B V s K r s') s ⟨D.has _ (List.mem_of_getElem? hi), D.has _ hj, ?_⟩
    unfold liaddF at h
    rw [setAt_eq] at h
    exact ⟨_, hs', h, z.1.toks' _, z.2.trans (ext_toks' _)⟩
noncomputable def insZ (x : Int) : List Int → List Int
  | [] => [x]
  | y :: l => match decide (x < y) with
    | true => x :: y :: l
    | false => y :: insZ x l
noncomputable def sortZ : List Int → List Int
  | [] => []
  | x :: l => insZ x (sortZ l)
theorem insZ_perm (x : Int) : ∀ l : List Int, (insZ x l).Perm (x :: l)
  | [] => .refl _
  | y :: l => by
    rw [insZ]
    cases decide (x < y) with
    | true => exact .refl _
    | false => exact ((insZ_perm x l).cons y).trans (.swap _ _ _)
theorem sortZ_perm : ∀ l : List Int, (sortZ l).Perm l
  | [] => .refl _
  | x :: l => (insZ_perm x _).trans ((sortZ_perm l).cons x)
theorem insZ_sorted (x : Int) : ∀ {l : List Int}, l.Pairwise (· ≤ ·) → (insZ x l).Pairwise (· ≤ ·)
  | [], _ => by simp [insZ]
  | y :: l, h => by
    have ⟨h1, h2⟩ := List.pairwise_cons.mp h
    rw [insZ]
    cases e : decide (x < y) with
    | true =>
      have e : x < y := of_decide_eq_true e
      exact List.pairwise_cons.mpr ⟨fun z hz => by rcases List.mem_cons.mp hz with rfl | hz; exact Int.le_of_lt e; exact Int.le_trans (Int.le_of_lt e) (h1 z hz), h⟩
    | false =>
      have e : ¬ x < y := of_decide_eq_false e
      exact List.pairwise_cons.mpr ⟨fun z hz => by rcases List.mem_cons.mp ((insZ_perm x l).mem_iff.mp hz) with rfl | hz; exact Int.not_lt.mp e; exact h1 z hz, insZ_sorted x h2⟩
theorem sortZ_sorted : ∀ l : List Int, (sortZ l).Pairwise (· ≤ ·)
  | [] => .nil
  | x :: l => insZ_sorted x (sortZ_sorted l)
theorem sortZ_is {l l' : List Int} (h : l'.Perm l) (h2 : l'.Pairwise (· ≤ ·)) : l' = sortZ l :=
  List.Perm.eq_of_pairwise (le := (· ≤ ·)) (fun a b _ _ => Int.le_antisymm) h2 (sortZ_sorted l) (h.trans (sortZ_perm l).symm)
noncomputable def intsF (f : Nat → Tok) : List Int → Nat → List Value
  | [], _ => []
  | x :: xs, i => .int x (f i) :: intsF f xs (i + 1)
noncomputable def shiftT (t : Tok) (f : Nat → Tok) : Nat → Tok
  | 0 => t
  | j + 1 => f j
theorem intsF_shift (t : Tok) (f : Nat → Tok) (k : Nat) : ∀ (l : List Int) (j : Nat), k + 1 ≤ j → intsF (fun i => f (i - (k + 1))) l j = intsF (fun i => shiftT t f (i - k)) l j
  | [], _, _ => rfl
  | x :: l, j, hj => by
    rw [intsF, intsF, intsF_shift t f k l (j + 1) (by lia)]
    obtain ⟨c, rfl⟩ : ∃ c, j = k + 1 + c := ⟨j - (k + 1), by lia⟩
    rw [show k + 1 + c - (k + 1) = c by lia, show k + 1 + c - k = c + 1 by lia]
    rfl
theorem intsF_of {vs : List Value} {ns : List Int} (h : IntsAre vs ns) : ∃ f : Nat → Tok, ∀ k, vs = intsF (fun i => f (i - k)) ns k := by
  induction h with
  | nil => exact ⟨fun _ => 0, fun _ => rfl⟩
  | cons n t h ih =>
    obtain ⟨f, e⟩ := ih
    refine ⟨shiftT t f, fun k => ?_⟩
    rw [intsF, ← intsF_shift t f k _ (k + 1) (Nat.le_refl _), ← e (k + 1), Nat.sub_self]
    rfl
theorem sortedAll_none {h : Heap} : h.get? (h.objs.size + 1) = none := by
  cases q : h.get? (h.objs.size + 1) with
  | none => rfl
  | some o => exact absurd (Heap.lt_size q) (by exact Nat.not_lt.mpr (Nat.le_succ _))
noncomputable def sortF (args : List Value) (V : View) (hs : List Nat) (K : Result → View → List Nat → VC) : VC := match args with
  | [] => .ff
  | v :: rest => match rest with
    | _ :: _ => .ff
    | [] => match v with
      | .ref a => match hs with
        | [] => .ff
        | i :: hs => match nth V i with
          | none => .ff
          | some p => match listParts p.2 with
            | none => .ff
            | some q => .eq a p.1 <| .ob (AllInt q.1 ∧ q.1.length < 64) <| .cn True (fun _ => True) fun e_ => .al fun a' => .al fun ep => K (.ok (.ret (.ref a'))) ((a', listX (intsF e_.t (sortZ (intsV q.1)) 0) ep) :: V) hs
      | _ => .ff
noncomputable def sortC (B : Bs) : BCut B where
  id := "sorted"
  code := 111490731569268
  d := 0
  f := sortF
  hid := by rw [← S.code_S]; decide +kernel
  ok := by
    intro args V hs K h A s Rm D
    cases args with
    | nil => cases h
    | cons v rest =>
      cases rest with
      | cons => cases h
      | nil =>
        cases v with
        | ref a =>
          cases hs with
          | nil => cases h
          | cons i hs =>
            unfold sortF at h
            dsimp only at h
            cases hp : nth V i with
            | none => rw [hp] at h; cases h
            | some p =>
              rw [hp] at h
              dsimp only at h
              cases hq : listParts p.2 with
              | none => rw [hq] at h; cases h
              | some q =>
                rw [hq] at h
                obtain ⟨rfl, ⟨hI, h64⟩, h⟩ := h
                rw [nth_eq] at hp
                have hg := D.has p (List.mem_of_getElem? hp)
                rw [listParts_is hq] at hg
                have hl : s.heap.IsList p.1 q.1.toArray := ⟨_, hg, rfl, _, rfl⟩
                refine codeAny_builtin entry_sorted ?_
                rw [Around.under_plainId plain_sorted]
                unfold Builtin.«sorted»
                refine wpAny_bind (m := checkCount "sorted" 1 1 _) (wpAny_pure ?_)
                refine wpAny_bind (collect_list hl ?_)
                refine wpAny_bind (wpAny_newList ?_)
                have hsz : ((s.heap.push (seqObj "list" #[] 0)).update s.heap.objs.size (Obj.mapSeq (· ++ q.1.toArray))).objs.size = s.heap.objs.size + 1 := by
                  rw [Heap.size_update, size_push']
                have hoL : (((s.heap.push (seqObj "list" #[] 0)).update s.heap.objs.size (Obj.mapSeq (· ++ q.1.toArray))).push (seqObj "list" q.1.toArray 0)).get? (s.heap.objs.size + 1) = some (seqObj "list" q.1.toArray 0) := by
                  rw [← hsz]; exact Heap.get?_push_size _ rfl
                show wpAny _ _ _ _ _ { s with heap := ((s.heap.push (seqObj "list" #[] 0)).update s.heap.objs.size (Obj.mapSeq (· ++ q.1.toArray))).push (seqObj "list" q.1.toArray 0) }
                rw [hsz]
                refine wpAny_bind (wpAny_holding (wpAny_call_entry slot_list_sort ⟨_, hoL, rfl⟩ entry_list_sort (list_sort_tree hoL hI.intsAre h64 fun out ns' a1 a2 a3 => ⟨_, rfl, ?_⟩) (args_list_sort _)))
                refine wpAny_pure ?_
                obtain ⟨f, e⟩ := intsF_of a1
                have e := e 0
                rw [sortZ_is a2 a3] at e
                obtain ⟨ep, he⟩ := sortedAll_at s.heap q.1 out
                have z := D.keep_new s.toks (fun b o => sortedAll_old (vs := q.1) (out := out)) sortedAll_none he (notCode_list _)
                have eo : seqObj "list" out ep = listX (intsF (fun i => f (i - 0)) (sortZ (intsV q.1)) 0) ep := by
                  rw [← e]
                rw [eo] at z
                exact ⟨_, hs, h.2 ⟨fun _ => 0, fun i => f (i - 0), fun _ => 0, fun _ => ⟨#[]⟩, fun _ => .none, fun _ => [], fun _ => default⟩ trivial _ _, z⟩
        | _ => cases h
end Mine
end
section
namespace Mine
noncomputable def nI : List Int → Nat → Int
  | [], _ => 0
  | a :: _, 0 => a
  | _ :: l, i + 1 => nI l i
noncomputable def setI : List Int → Nat → Int → List Int
  | [], _, _ => []
  | _ :: l, 0, v => v :: l
  | a :: l, i + 1, v => a :: setI l i v
noncomputable def rowS (hs ws : List Int) (col : Int) (t : Nat) (fs : List Int) (r : Nat) : List Int :=
  match decide (nI hs r > col) && Nat.beq ((t / 2 ^ r) % 2) 0 with
  | true => setI fs (t + 2 ^ r) (nI fs (t + 2 ^ r) + nI ws t)
  | false => fs
noncomputable def rowsF (hs ws : List Int) (col : Int) (t : Nat) : Nat → Nat → List Int → List Int
  | 0, _, fs => fs
  | left + 1, r, fs => rowsF hs ws col t left (r + 1) (rowS hs ws col t fs r)
noncomputable def takS (hs ws : List Int) (col : Int) (fs : List Int) (t : Nat) : List Int :=
  match decide (nI ws t > 0) with
  | true => rowsF hs ws col t hs.length 0 fs
  | false => fs
noncomputable def takF (hs ws : List Int) (col : Int) : Nat → Nat → List Int → List Int
  | 0, _, fs => fs
  | left + 1, t, fs => takF hs ws col left (t + 1) (takS hs ws col fs t)
noncomputable def colF (hs : List Int) : Nat → Nat → List Int → List Int
  | 0, _, ws => ws
  | left + 1, c, ws => colF hs left (c + 1) (takF hs ws (c : Int) (2 ^ hs.length) 0 ws)
noncomputable def popN (t : Nat) : Nat → Nat → Nat
  | 0, _ => 0
  | left + 1, r => (t / 2 ^ r) % 2 + popN t left (r + 1)
noncomputable def toldF (n : Nat) (ws : List Int) : Nat → Nat → List Int → List Int
  | 0, _, ts => ts
  | left + 1, t, ts => toldF n ws left (t + 1) (setI ts (popN t n 0) (nI ts (popN t n 0) + nI ws t))
noncomputable def zer : Nat → List Int
  | 0 => []
  | n + 1 => 0 :: zer n
noncomputable def rooks (hs : List Int) : List Int :=
  toldF hs.length (colF hs (maxL hs).toNat 0 (1 :: zer (2 ^ hs.length - 1))) (2 ^ hs.length) 0 (zer (hs.length + 1))
end Mine
end
section
namespace Mine
open PySem PySem.Spec PySem.Calls PyProof.Rows PySem.W PySem.W.X PySem.Builtin PySem.Builtin.Int
theorem line1k : (1000 : Nat) < sizeLine := by decide
structure RgP (cur left : Int) (m : Nat) : Prop where
  c0 : 0 ≤ cur
  l0 : 0 ≤ left
  lm : left ≤ m
theorem RgP.next {cur left : Int} {m : Nat} (h : RgP cur left (m + 1)) (h0 : 0 < left) : RgP (cur + 1) (left - 1) m := by
  have := h.c0; have := h.lm; exact ⟨by lia, by lia, by lia⟩
theorem RgP.m0 {cur left : Int} (h : RgP cur left 0) : left ≤ 0 := by have := h.lm; lia
theorem RgP.ls {cur left : Int} {m : Nat} (h : RgP cur left m) (h0 : 0 < left) : left.toNat = (left - 1).toNat + 1 ∧ (cur + 1).toNat = cur.toNat + 1 := by
  have := h.c0; lia
theorem rlenP {x : Int} (h : 0 ≤ x) : rlen 0 x = x := by unfold rlen; split <;> lia
theorem itI {l : List Value} (h : AllInt l) {i : Nat} (hi : i < l.length) : itemAt l i = .int (shI (itemAt l i)) (shT (itemAt l i)) := h _ (List.mem_of_getElem? (itemAt_eq hi))
theorem gtOb {l : List Value} (h : AllInt l) {k : Int} (h0 : 0 ≤ k) (h1 : k.toNat < l.length) (h2 : l.length ≤ 1000) : (0 ≤ k ∧ k.toNat < l.length ∧ l.length ≤ sizeLine) ∧ itemAt l k.toNat = .int (shI (itemAt l k.toNat)) (shT (itemAt l k.toNat)) := by
  have := line1k
  exact ⟨⟨h0, h1, by lia⟩, itI h h1⟩
theorem intsV_len : ∀ l : List Value, (intsV l).length = l.length
  | [] => rfl
  | _ :: l => by rw [intsV, List.length_cons, List.length_cons, intsV_len l]
theorem nI_at : ∀ (l : List Value) (i : Nat), i < l.length → nI (intsV l) i = shI (itemAt l i)
  | [], i, h => by simp at h
  | v :: l, 0, _ => rfl
  | v :: l, i + 1, h => nI_at l i (by simpa using h)
theorem intsV_set : ∀ (l : List Value) (i : Nat) (v : Int) (t : Tok), intsV (setV l i (.int v t)) = setI (intsV l) i v
  | [], _, _, _ => rfl
  | _ :: _, 0, _, _ => rfl
  | w :: l, i + 1, v, t => by
    show shI w :: intsV (setV l i (.int v t)) = shI w :: setI (intsV l) i v
    rw [intsV_set l i v t]
theorem intsV_app : ∀ (l m : List Value), intsV (l ++ m) = intsV l ++ intsV m
  | [], _ => rfl
  | v :: l, m => by rw [List.cons_append, intsV, intsV_app l m, intsV, List.cons_append]
theorem AllInt.set {l : List Value} (h : AllInt l) (i : Nat) (v : Int) (t : Tok) : AllInt (setV l i (.int v t)) := fun w hw => by
  rw [setV_eq] at hw
  rcases List.mem_or_eq_of_mem_set hw with hw | rfl
  · exact h w hw
  · rfl
theorem AllInt.one (i : Int) (t : Tok) : AllInt [.int i t] := fun v hv => by
  rcases List.mem_cons.mp hv with rfl | hv
  · rfl
  · simp at hv
theorem AllInt.app {l m : List Value} (h : AllInt l) (h' : AllInt m) : AllInt (l ++ m) := fun x hx => by
  rcases List.mem_append.mp hx with hx | hx
  · exact h x hx
  · exact h' x hx
theorem AllInt.nil : AllInt [] := fun v hv => by simp at hv
theorem bAnd1 {a : Int} (h : 0 ≤ a) : bAnd a 1 = ((a.toNat % 2 : Nat) : Int) := by
  obtain ⟨n, rfl⟩ := Int.eq_ofNat_of_zero_le h
  show ((n &&& 1 : Nat) : Int) = _
  rw [Nat.and_one_is_mod]; rfl
theorem bitI {t r : Int} (h : 0 ≤ t) (hr : 0 ≤ r) : bAnd (t.fdiv (2 ^ r.toNat)) 1 = (((t.toNat / 2 ^ r.toNat) % 2 : Nat) : Int) := by
  have hp : (0 : Int) < 2 ^ r.toNat := Int.pow_pos (by decide)
  obtain ⟨n, rfl⟩ := Int.eq_ofNat_of_zero_le h
  have e : ((n : Int)).fdiv (2 ^ r.toNat) = ((n / 2 ^ r.toNat : Nat) : Int) := by
    rw [Int.fdiv_eq_ediv_of_nonneg _ (Int.le_of_lt hp)]
    norm_cast
  rw [e, bAnd1 (Int.natCast_nonneg _)]
  rfl
theorem bit_room {n r t : Nat} (hn : n ≤ 4) (hr : r < n) (ht : t < 2 ^ n) (hb : (t / 2 ^ r) % 2 = 0) : t + 2 ^ r < 2 ^ n := by
  have key : ∀ n, n ≤ 4 → ∀ r, r < n → ∀ t, t < 2 ^ n → (t / 2 ^ r) % 2 = 0 → t + 2 ^ r < 2 ^ n := by
    intro n hn
    have : n = 0 ∨ n = 1 ∨ n = 2 ∨ n = 3 ∨ n = 4 := by lia
    rcases this with rfl | rfl | rfl | rfl | rfl <;> decide
  exact key n hn r hr t ht hb
theorem setI_len : ∀ (l : List Int) (i : Nat) (v : Int), (setI l i v).length = l.length
  | [], _, _ => rfl
  | _ :: _, 0, _ => rfl
  | _ :: l, i + 1, v => by simp [setI, setI_len l i v]
structure RwP (cur left tk : Int) (hs ws fs : List Value) (m : Nat) : Prop where
  rg : RgP cur left m
  cl : cur + left = hs.length
  h4 : hs.length ≤ 4
  t0 : 0 ≤ tk
  t1 : tk.toNat < 2 ^ hs.length
  ha : AllInt hs
  wa : AllInt ws
  fa : AllInt fs
  wl : ws.length = 2 ^ hs.length
  fl : fs.length = 2 ^ hs.length
structure RwR (cur left tk col : Int) (hs ws fs fs' : List Value) : Prop where
  fa : AllInt fs'
  fe : intsV fs' = rowsF (intsV hs) (intsV ws) col tk.toNat left.toNat cur.toNat (intsV fs)
theorem p4 {n : Nat} (h : n ≤ 4) : 2 ^ n ≤ 16 := by
  have : n = 0 ∨ n = 1 ∨ n = 2 ∨ n = 3 ∨ n = 4 := by lia
  rcases this with rfl | rfl | rfl | rfl | rfl <;> decide
section
variable {cur left tk col : Int} {hs ws fs fs' : List Value} {m : Nat}
theorem RwP.m0 (h : RwP cur left tk hs ws fs 0) : left ≤ 0 := h.rg.m0
theorem RwP.fin (h : RwP cur left tk hs ws fs m) (h0 : left ≤ 0) : RwR cur left tk col hs ws fs fs := ⟨h.fa, by rw [show left.toNat = 0 by lia]; rfl⟩
theorem RwP.gh (h : RwP cur left tk hs ws fs m) (h0 : 0 < left) : (0 ≤ cur ∧ cur.toNat < hs.length ∧ hs.length ≤ sizeLine) ∧ itemAt hs cur.toNat = .int (shI (itemAt hs cur.toNat)) (shT (itemAt hs cur.toNat)) := by
  have := h.rg.c0; have := h.cl; have := h.h4
  exact gtOb h.ha h.rg.c0 (by lia) (by lia)
theorem RwP.gw (h : RwP cur left tk hs ws fs m) : (0 ≤ tk ∧ tk.toNat < ws.length ∧ ws.length ≤ sizeLine) ∧ itemAt ws tk.toNat = .int (shI (itemAt ws tk.toNat)) (shT (itemAt ws tk.toNat)) := by
  have h1 := p4 h.h4; have h2 := h.wl
  exact gtOb h.wa h.t0 (by rw [h2]; exact h.t1) (by lia)
theorem RwP.ix (h : RwP cur left tk hs ws fs m) (h0 : 0 < left) (hb : bAnd (tk.fdiv (2 ^ cur.toNat)) 1 = 0) : 0 ≤ tk + 2 ^ cur.toNat ∧ (tk + 2 ^ cur.toNat).toNat = tk.toNat + 2 ^ cur.toNat ∧ (tk + 2 ^ cur.toNat).toNat < fs.length := by
  have h1 := h.rg.c0; have h2 := h.cl; have h3 := h.fl; have h4 := h.t0
  rw [bitI h4 h1] at hb
  have hr := bit_room h.h4 (r := cur.toNat) (by lia) h.t1 (by lia)
  obtain ⟨n, rfl⟩ := Int.eq_ofNat_of_zero_le h4
  have hp : (2 : Int) ^ cur.toNat = ((2 ^ cur.toNat : Nat) : Int) := by norm_cast
  rw [hp, h3]
  generalize (2 ^ cur.toNat : Nat) = P at *
  generalize (2 ^ hs.length : Nat) = Q at *
  have hr : n + P < Q := hr
  refine ⟨by lia, ?_, ?_⟩
  · show ((n : Int) + (P : Int)).toNat = n + P
    lia
  · lia
theorem RwP.gf (h : RwP cur left tk hs ws fs m) (h0 : 0 < left) (hb : bAnd (tk.fdiv (2 ^ cur.toNat)) 1 = 0) : (0 ≤ tk + 2 ^ cur.toNat ∧ (tk + 2 ^ cur.toNat).toNat < fs.length ∧ fs.length ≤ sizeLine) ∧ itemAt fs (tk + 2 ^ cur.toNat).toNat = .int (shI (itemAt fs (tk + 2 ^ cur.toNat).toNat)) (shT (itemAt fs (tk + 2 ^ cur.toNat).toNat)) := by
  have h1 := p4 h.h4; have h2 := h.fl
  have h3 := h.ix h0 hb
  exact gtOb h.fa h3.1 h3.2.2 (by lia)
theorem RwP.po (h : RwP cur left tk hs ws fs m) (h0 : 0 < left) : 0 ≤ cur ∧ ((2 : Int) = -1 ∨ (2 : Int) ≤ 2) ∧ (PySem.Builtin.Int.intBits 2 : Int) * cur ≤ 2 ^ 27 := by
  have h1 := h.rg.c0; have h2 := h.cl; have h3 := h.h4
  rw [show PySem.Builtin.Int.intBits 2 = 2 by decide]
  exact ⟨h1, .inr (by decide), by lia⟩
theorem RwP.next (h : RwP cur left tk hs ws fs (m + 1)) (h0 : 0 < left) : RwP (cur + 1) (left - 1) tk hs ws fs m := by
  have := h.cl
  exact ⟨h.rg.next h0, by lia, h.h4, h.t0, h.t1, h.ha, h.wa, h.fa, h.wl, h.fl⟩
theorem RwP.nextS (h : RwP cur left tk hs ws fs (m + 1)) (h0 : 0 < left) (i : Nat) (v : Int) (t : Tok) : RwP (cur + 1) (left - 1) tk hs ws (setV fs i (.int v t)) m := by
  have := h.cl
  exact ⟨h.rg.next h0, by lia, h.h4, h.t0, h.t1, h.ha, h.wa, h.fa.set _ _ _, h.wl, by rw [setV_len]; exact h.fl⟩
theorem RwP.row (h : RwP cur left tk hs ws fs m) (h0 : 0 < left) : rowS (intsV hs) (intsV ws) col tk.toNat (intsV fs) cur.toNat = match decide (shI (itemAt hs cur.toNat) > col) && Nat.beq ((tk.toNat / 2 ^ cur.toNat) % 2) 0 with
  | true => setI (intsV fs) (tk.toNat + 2 ^ cur.toNat) (nI (intsV fs) (tk.toNat + 2 ^ cur.toNat) + nI (intsV ws) tk.toNat)
  | false => intsV fs := by
  rw [rowS, nI_at hs _ (h.gh h0).1.2.1]
  try rfl
theorem RwP.rn (h : RwP cur left tk hs ws fs (m + 1)) (h0 : 0 < left) (hb : ¬ shI (itemAt hs cur.toNat) > col) (r : RwR (cur + 1) (left - 1) tk col hs ws fs fs') : RwR cur left tk col hs ws fs fs' := by
  obtain ⟨e1, e2⟩ := h.rg.ls h0
  refine ⟨r.fa, ?_⟩
  rw [r.fe, e1, e2, rowsF, h.row h0, decide_eq_false hb]
  rfl
theorem RwP.rb (h : RwP cur left tk hs ws fs (m + 1)) (h0 : 0 < left) (hb : bAnd (tk.fdiv (2 ^ cur.toNat)) 1 ≠ 0) (r : RwR (cur + 1) (left - 1) tk col hs ws fs fs') : RwR cur left tk col hs ws fs fs' := by
  obtain ⟨e1, e2⟩ := h.rg.ls h0
  rw [bitI h.t0 h.rg.c0] at hb
  refine ⟨r.fa, ?_⟩
  rw [r.fe, e1, e2, rowsF, h.row h0]
  have : Nat.beq ((tk.toNat / 2 ^ cur.toNat) % 2) 0 = false := by
    cases e : Nat.beq ((tk.toNat / 2 ^ cur.toNat) % 2) 0 with
    | false => rfl
    | true => exact absurd (by rw [Nat.eq_of_beq_eq_true e]; rfl) hb
  rw [this, Bool.and_false]
theorem RwP.rs (h : RwP cur left tk hs ws fs (m + 1)) (h0 : 0 < left) (hc : shI (itemAt hs cur.toNat) > col) (hb : bAnd (tk.fdiv (2 ^ cur.toNat)) 1 = 0) {t : Tok}
    (r : RwR (cur + 1) (left - 1) tk col hs ws (setV fs (tk + 2 ^ cur.toNat).toNat (.int (shI (itemAt fs (tk + 2 ^ cur.toNat).toNat) + shI (itemAt ws tk.toNat)) t)) fs') : RwR cur left tk col hs ws fs fs' := by
  obtain ⟨e1, e2⟩ := h.rg.ls h0
  have h3 := h.ix h0 hb
  have hb2 := hb
  rw [bitI h.t0 h.rg.c0] at hb2
  refine ⟨r.fa, ?_⟩
  rw [r.fe, e1, e2, rowsF, h.row h0, decide_eq_true hc]
  have : Nat.beq ((tk.toNat / 2 ^ cur.toNat) % 2) 0 = true := by rw [show (tk.toNat / 2 ^ cur.toNat) % 2 = 0 by lia]; rfl
  rw [this, Bool.and_self, intsV_set, ← nI_at fs _ h3.2.2, ← nI_at ws _ h.gw.1.2.1, h3.2.1]
end
structure TkP (cur left sz : Int) (hs ws fs : List Value) (m : Nat) : Prop where
  rg : RgP cur left m
  cl : cur.toNat + left.toNat = 2 ^ hs.length
  h4 : hs.length ≤ 4
  sz : sz = hs.length
  ha : AllInt hs
  wa : AllInt ws
  fa : AllInt fs
  wl : ws.length = 2 ^ hs.length
  fl : fs.length = 2 ^ hs.length
structure TkR (cur left col : Int) (hs ws fs fs' : List Value) : Prop where
  fa : AllInt fs'
  fl : fs'.length = fs.length
  fe : intsV fs' = takF (intsV hs) (intsV ws) col left.toNat cur.toNat (intsV fs)
theorem rowS_len (hs ws : List Int) (col : Int) (t : Nat) (fs : List Int) (r : Nat) : (rowS hs ws col t fs r).length = fs.length := by
  unfold rowS
  cases decide (nI hs r > col) && Nat.beq ((t / 2 ^ r) % 2) 0 with
  | true => exact setI_len _ _ _
  | false => rfl
theorem rowsF_len (hs ws : List Int) (col : Int) (t : Nat) : ∀ (left r : Nat) (fs : List Int), (rowsF hs ws col t left r fs).length = fs.length
  | 0, _, _ => rfl
  | left + 1, r, fs => by rw [rowsF, rowsF_len hs ws col t left (r + 1), rowS_len]
theorem RwR.len {cur left tk col : Int} {hs ws fs fs' : List Value} (r : RwR cur left tk col hs ws fs fs') : fs'.length = fs.length := by
  rw [← intsV_len, r.fe, rowsF_len, intsV_len]
section
variable {cur left sz tk col : Int} {hs ws fs fs' fs2 : List Value} {m : Nat}
theorem TkP.m0 (h : TkP cur left sz hs ws fs 0) : left ≤ 0 := h.rg.m0
theorem TkP.fin (h : TkP cur left sz hs ws fs m) (h0 : left ≤ 0) : TkR cur left col hs ws fs fs := ⟨h.fa, rfl, by rw [show left.toNat = 0 by lia]; rfl⟩
theorem TkP.gw (h : TkP cur left sz hs ws fs m) (h0 : 0 < left) : (0 ≤ cur ∧ cur.toNat < ws.length ∧ ws.length ≤ sizeLine) ∧ itemAt ws cur.toNat = .int (shI (itemAt ws cur.toNat)) (shT (itemAt ws cur.toNat)) := by
  have h1 := p4 h.h4; have h2 := h.wl; have h3 := h.cl; have h4 := h.rg.c0
  exact gtOb h.wa h4 (by rw [h2]; lia) (by lia)
theorem TkP.rg2 (h : TkP cur left sz hs ws fs m) : (1 : Int) = 1 ∧ (-(2 : Int) ^ 62 ≤ 0 ∧ (0 : Int) < 2 ^ 62) ∧ -(2 : Int) ^ 62 ≤ sz ∧ sz < (2 : Int) ^ 62 := by
  have := h.sz; have := h.h4; lia
theorem TkP.rw (h : TkP cur left sz hs ws fs m) (h0 : 0 < left) : RwP 0 (rlen 0 sz) cur hs ws fs 8 := by
  have h1 := h.sz; have h2 := h.h4; have h3 := h.cl; have h4 := h.rg.c0
  rw [rlenP (by lia)]
  exact ⟨⟨by lia, by lia, by lia⟩, by lia, h2, h4, by lia, h.ha, h.wa, h.fa, h.wl, h.fl⟩
theorem TkP.rwf (h : TkP cur left sz hs ws fs m) (h0 : 0 < left) (h1 : 1 ≤ hs.length) : RwP 0 (rlen 0 sz) cur hs ws fs 8 ∧ 0 < rlen 0 sz := by
  refine ⟨h.rw h0, ?_⟩
  have := h.sz
  rw [rlenP (by lia)]; lia
theorem TkP.next (h : TkP cur left sz hs ws fs (m + 1)) (h0 : 0 < left) (r : RwR 0 (rlen 0 sz) cur col hs ws fs fs') : TkP (cur + 1) (left - 1) sz hs ws fs' m := by
  have := h.cl; have := h.rg.c0
  exact ⟨h.rg.next h0, by lia, h.h4, h.sz, h.ha, h.wa, r.fa, h.wl, by rw [r.len]; exact h.fl⟩
theorem TkP.nextN (h : TkP cur left sz hs ws fs (m + 1)) (h0 : 0 < left) : TkP (cur + 1) (left - 1) sz hs ws fs m := by
  have := h.cl; have := h.rg.c0
  exact ⟨h.rg.next h0, by lia, h.h4, h.sz, h.ha, h.wa, h.fa, h.wl, h.fl⟩
theorem TkP.rt (h : TkP cur left sz hs ws fs (m + 1)) (h0 : 0 < left) (hb : shI (itemAt ws cur.toNat) > 0) (r : RwR 0 (rlen 0 sz) cur col hs ws fs fs') (r2 : TkR (cur + 1) (left - 1) col hs ws fs' fs2) : TkR cur left col hs ws fs fs2 := by
  obtain ⟨e1, e2⟩ := h.rg.ls h0
  have e3 := h.sz
  refine ⟨r2.fa, r2.fl.trans r.len, ?_⟩
  have e := r.fe
  rw [rlenP (by lia), show sz.toNat = (intsV hs).length by rw [intsV_len]; lia, show (0 : Int).toNat = 0 from rfl] at e
  rw [r2.fe, e, e1, e2, takF, takS, nI_at ws _ (h.gw h0).1.2.1, decide_eq_true hb]
theorem TkP.rf (h : TkP cur left sz hs ws fs (m + 1)) (h0 : 0 < left) (hb : ¬ shI (itemAt ws cur.toNat) > 0) (r2 : TkR (cur + 1) (left - 1) col hs ws fs fs2) : TkR cur left col hs ws fs fs2 := by
  obtain ⟨e1, e2⟩ := h.rg.ls h0
  refine ⟨r2.fa, r2.fl, ?_⟩
  rw [r2.fe, e1, e2, takF, takS, nI_at ws _ (h.gw h0).1.2.1, decide_eq_false hb]
end
structure ClP (cur left sz : Int) (hs ws : List Value) (m : Nat) : Prop where
  rg : RgP cur left m
  h4 : hs.length ≤ 4
  sz : sz = hs.length
  ha : AllInt hs
  wa : AllInt ws
  wl : ws.length = 2 ^ hs.length
structure ClR (cur left : Int) (hs ws ws' : List Value) : Prop where
  wa : AllInt ws'
  wl : ws'.length = ws.length
  we : intsV ws' = colF (intsV hs) left.toNat cur.toNat (intsV ws)
structure ClF (cur left sz : Int) (hs ws : List Value) (m : Nat) : Prop where
  cl : ClP cur left sz hs ws m
  l0 : 0 < left
  h1 : 1 ≤ hs.length
  w0 : shI (itemAt ws (0 : Int).toNat) > 0
theorem pw_int {sz : Int} {n : Nat} (h : sz = n) (h4 : n ≤ 4) : (2 : Int) ^ sz.toNat = ((2 ^ n : Nat) : Int) := by
  rw [h, Int.toNat_natCast]; norm_cast
theorem bits2 : PySem.Builtin.Int.intBits 2 = 2 := by decide
section
variable {cur left sz tk col : Int} {hs ws ws' ws2 fs fs' fs2 : List Value} {m : Nat}
theorem ClP.m0 (h : ClP cur left sz hs ws 0) : left ≤ 0 := h.rg.m0
theorem ClP.fin (h : ClP cur left sz hs ws m) (h0 : left ≤ 0) : ClR cur left hs ws ws := ⟨h.wa, rfl, by rw [show left.toNat = 0 by lia]; rfl⟩
theorem pow_ob {sz : Int} {n : Nat} (h : sz = n) (h4 : n ≤ 4) : 0 ≤ sz ∧ ((2 : Int) = -1 ∨ (2 : Int) ≤ 2) ∧ (PySem.Builtin.Int.intBits 2 : Int) * sz ≤ 2 ^ 27 := by
  rw [bits2]; refine ⟨by lia, .inr (by decide), by lia⟩
theorem rng_pw {sz : Int} {n : Nat} (h : sz = n) (h4 : n ≤ 4) : (1 : Int) = 1 ∧ (-(2 : Int) ^ 62 ≤ 0 ∧ (0 : Int) < 2 ^ 62) ∧ -(2 : Int) ^ 62 ≤ 2 ^ sz.toNat ∧ (2 : Int) ^ sz.toNat < (2 : Int) ^ 62 := by
  rw [pw_int h h4]
  have := p4 h4
  generalize (2 ^ n : Nat) = P at *
  lia
theorem ClP.sl (h : ClP cur left sz hs ws m) : (nonneg none ∧ nonneg none ∧ ws.length ≤ sizeLine) := by
  have := h.wl; have := p4 h.h4; have := line1k
  exact ⟨trivial, trivial, by lia⟩
theorem rlen_pw {sz : Int} {n : Nat} (h : sz = n) (h4 : n ≤ 4) : rlen 0 (2 ^ sz.toNat) = ((2 ^ n : Nat) : Int) := by
  rw [pw_int h h4, rlenP (Int.natCast_nonneg _)]
theorem ClP.tkP (h : ClP cur left sz hs ws m) : TkP 0 (rlen 0 (2 ^ sz.toNat)) sz hs ws (partL none none ws) 16 := by
  have h4 := p4 h.h4
  rw [rlen_pw h.sz h.h4]
  exact ⟨⟨by lia, Int.natCast_nonneg _, by lia⟩, by simp only [Int.toNat_natCast, Int.toNat_zero, Nat.zero_add], h.h4, h.sz, h.ha, h.wa, h.wa, h.wl, h.wl⟩
theorem ClF.tkP (h : ClF cur left sz hs ws m) : (TkP 0 (rlen 0 (2 ^ sz.toNat)) sz hs ws (partL none none ws) 16 ∧ 1 ≤ hs.length) ∧ 0 < rlen 0 (2 ^ sz.toNat) ∧ shI (itemAt ws (0 : Int).toNat) > 0 := by
  refine ⟨⟨h.cl.tkP, h.h1⟩, ?_, h.w0⟩
  rw [rlen_pw h.cl.sz h.cl.h4]
  have := Nat.pos_of_ne_zero (n := 2 ^ hs.length) (by simp)
  lia
theorem ClP.next (h : ClP cur left sz hs ws (m + 1)) (h0 : 0 < left) (r : TkR 0 (rlen 0 (2 ^ sz.toNat)) cur hs ws (partL none none ws) fs') : ClP (cur + 1) (left - 1) sz hs fs' m :=
  ⟨h.rg.next h0, h.h4, h.sz, h.ha, r.fa, r.fl.trans h.wl⟩
theorem ClP.rt (h : ClP cur left sz hs ws (m + 1)) (h0 : 0 < left) (r : TkR 0 (rlen 0 (2 ^ sz.toNat)) cur hs ws (partL none none ws) fs') (r2 : ClR (cur + 1) (left - 1) hs fs' ws2) : ClR cur left hs ws ws2 := by
  obtain ⟨e1, e2⟩ := h.rg.ls h0
  have hc := h.rg.c0
  refine ⟨r2.wa, r2.wl.trans r.fl, ?_⟩
  have e := r.fe
  rw [rlen_pw h.sz h.h4, Int.toNat_natCast, show (0 : Int).toNat = 0 from rfl, show intsV (partL none none ws) = intsV ws from rfl, ← intsV_len hs, show cur = ((cur.toNat : Nat) : Int) by lia] at e
  rw [r2.we, e, e1, e2, colF]
end
noncomputable def bitsF (t : Nat) : Nat → Nat → List Int
  | 0, _ => []
  | left + 1, r => (((t / 2 ^ r) % 2 : Nat) : Int) :: bitsF t left (r + 1)
theorem bitsF_sum (t : Nat) : ∀ (left r : Nat), (bitsF t left r).sum = (popN t left r : Nat)
  | 0, _ => rfl
  | left + 1, r => by
    rw [bitsF, List.sum_cons, bitsF_sum t left (r + 1), popN]
    lia
theorem popN_le (t : Nat) : ∀ (left r : Nat), popN t left r ≤ left
  | 0, _ => Nat.le_refl _
  | left + 1, r => by
    rw [popN]
    have := popN_le t left (r + 1)
    have := Nat.mod_lt (t / 2 ^ r) (show 0 < 2 by decide)
    lia
structure PcP (cur left tk : Int) (xs : List Value) (m : Nat) : Prop where
  rg : RgP cur left m
  t0 : 0 ≤ tk
  xa : AllInt xs
  xl : xs.length + left.toNat ≤ 1000
structure PcR (cur left tk : Int) (xs xs' : List Value) : Prop where
  xa : AllInt xs'
  xe : intsV xs' = intsV xs ++ bitsF tk.toNat left.toNat cur.toNat
section
variable {cur left sz tk : Int} {xs xs' ws ts ts' ts2 : List Value} {m : Nat}
theorem PcP.m0 (h : PcP cur left tk xs 0) : left ≤ 0 := h.rg.m0
theorem PcP.fin (h : PcP cur left tk xs m) (h0 : left ≤ 0) : PcR cur left tk xs xs := ⟨h.xa, by rw [show left.toNat = 0 by lia]; simp [bitsF]⟩
theorem PcP.ob (h : PcP cur left tk xs m) : xs.length ≤ sizeLine := by have := h.xl; have := line1k; lia
theorem PcP.next (h : PcP cur left tk xs (m + 1)) (h0 : 0 < left) {i : Int} {t : Tok} : PcP (cur + 1) (left - 1) tk (xs ++ [.int i t]) m := by
  have := h.xl
  exact ⟨h.rg.next h0, h.t0, h.xa.app (AllInt.one _ _), by simp; lia⟩
theorem PcP.step (h : PcP cur left tk xs (m + 1)) (h0 : 0 < left) {t : Tok} (r : PcR (cur + 1) (left - 1) tk (xs ++ [.int (bAnd (tk.fdiv (2 ^ cur.toNat)) 1) t]) xs') : PcR cur left tk xs xs' := by
  obtain ⟨e1, e2⟩ := h.rg.ls h0
  refine ⟨r.xa, ?_⟩
  rw [r.xe, intsV_app, e1, e2, bitsF, bitI h.t0 h.rg.c0]
  simp [intsV, shI]
structure TdP (cur left sz : Int) (ws ts : List Value) (m : Nat) : Prop where
  rg : RgP cur left m
  s0 : 0 ≤ sz
  s4 : sz.toNat ≤ 4
  cl : cur.toNat + left.toNat = 2 ^ sz.toNat
  wa : AllInt ws
  ta : AllInt ts
  wl : ws.length = 2 ^ sz.toNat
  tl : ts.length = sz.toNat + 1
structure TdR (cur left sz : Int) (ws ts ts' : List Value) : Prop where
  ta : AllInt ts'
  te : intsV ts' = toldF sz.toNat (intsV ws) left.toNat cur.toNat (intsV ts)
theorem TdP.m0 (h : TdP cur left sz ws ts 0) : left ≤ 0 := h.rg.m0
theorem TdP.fin (h : TdP cur left sz ws ts m) (h0 : left ≤ 0) : TdR cur left sz ws ts ts := ⟨h.ta, by rw [show left.toNat = 0 by lia]; rfl⟩
theorem TdP.rgo (h : TdP cur left sz ws ts m) : (1 : Int) = 1 ∧ (-(2 : Int) ^ 62 ≤ 0 ∧ (0 : Int) < 2 ^ 62) ∧ -(2 : Int) ^ 62 ≤ sz ∧ sz < (2 : Int) ^ 62 := by
  have := h.s0; have := h.s4; lia
theorem TdP.pc (h : TdP cur left sz ws ts m) (h1 : 0 < sz) : PcP 0 (rlen 0 sz) cur [] (8 + 1) ∧ 0 < rlen 0 sz := by
  have := h.s4
  rw [rlenP h.s0]
  exact ⟨⟨⟨by lia, by lia, by lia⟩, h.rg.c0, AllInt.nil, by simp; lia⟩, h1⟩
theorem TdP.sum (h : TdP cur left sz ws ts m) (r : PcR 0 (rlen 0 sz) cur [] xs') : sumV xs' = (popN cur.toNat sz.toNat 0 : Nat) := by
  have e := r.xe
  rw [rlenP h.s0] at e
  rw [sumV_eq, e, ← bitsF_sum]
  rfl
theorem TdP.gt (h : TdP cur left sz ws ts m) (r : PcR 0 (rlen 0 sz) cur [] xs') : (0 ≤ sumV xs' ∧ (sumV xs').toNat < ts.length ∧ ts.length ≤ sizeLine) ∧ itemAt ts (sumV xs').toNat = .int (shI (itemAt ts (sumV xs').toNat)) (shT (itemAt ts (sumV xs').toNat)) := by
  have e := h.sum r
  have h1 := popN_le cur.toNat sz.toNat 0
  have h2 := h.tl; have h3 := h.s4
  exact gtOb h.ta (by lia) (by lia) (by lia)
theorem TdP.gw (h : TdP cur left sz ws ts m) (h0 : 0 < left) : (0 ≤ cur ∧ cur.toNat < ws.length ∧ ws.length ≤ sizeLine) ∧ itemAt ws cur.toNat = .int (shI (itemAt ws cur.toNat)) (shT (itemAt ws cur.toNat)) := by
  have h1 := p4 h.s4; have h2 := h.wl; have h3 := h.cl; have h4 := h.rg.c0
  exact gtOb h.wa h4 (by rw [h2]; lia) (by lia)
theorem TdP.next (h : TdP cur left sz ws ts (m + 1)) (h0 : 0 < left) (i : Nat) (v : Int) (t : Tok) : TdP (cur + 1) (left - 1) sz ws (setV ts i (.int v t)) m := by
  have := h.cl; have := h.rg.c0
  exact ⟨h.rg.next h0, h.s0, h.s4, by lia, h.wa, h.ta.set _ _ _, h.wl, by rw [setV_len]; exact h.tl⟩
theorem TdP.step (h : TdP cur left sz ws ts (m + 1)) (h0 : 0 < left) (r : PcR 0 (rlen 0 sz) cur [] xs') {t : Tok}
    (r2 : TdR (cur + 1) (left - 1) sz ws (setV ts (sumV xs').toNat (.int (shI (itemAt ts (sumV xs').toNat) + shI (itemAt ws cur.toNat)) t)) ts2) : TdR cur left sz ws ts ts2 := by
  obtain ⟨e1, e2⟩ := h.rg.ls h0
  have e := h.sum r
  refine ⟨r2.ta, ?_⟩
  rw [r2.te, e1, e2, toldF, intsV_set, ← nI_at ts _ (h.gt r).1.2.1, ← nI_at ws _ (h.gw h0).1.2.1, e, Int.toNat_natCast]
end
structure RkP (hs : List Value) : Prop where
  ha : AllInt hs
  h1 : 1 ≤ hs.length
  h4 : hs.length ≤ 4
  bd : ∀ x ∈ intsV hs, 1 ≤ x ∧ x ≤ 5
structure RkR (hs ts : List Value) : Prop where
  ta : AllInt ts
  te : intsV ts = rooks (intsV hs)
theorem maxL_mem : ∀ (l : List Int), 0 < l.length → maxL l ∈ l
  | [], h => by simp at h
  | [a], _ => .head _
  | a :: b :: l, _ => by
    rw [maxL]
    rcases Int.le_total a (maxL (b :: l)) with q | q
    · rw [Int.max_eq_right q]; exact .tail _ (maxL_mem (b :: l) (by simp))
    · rw [Int.max_eq_left q]; exact .head _
theorem intsV_rep (t : Tok) : ∀ n, intsV (repV [.int 0 t] n) = zer n
  | 0 => rfl
  | n + 1 => by
    show 0 :: intsV (repV [.int 0 t] n) = 0 :: zer n
    rw [intsV_rep t n]
theorem AllInt.rep (t : Tok) : ∀ n, AllInt (repV [.int 0 t] n)
  | 0 => AllInt.nil
  | n + 1 => (AllInt.one 0 t).app (AllInt.rep t n)
section
variable {hs ws ts ts' : List Value}
theorem RkP.mx (h : RkP hs) : 1 ≤ maxV hs ∧ maxV hs ≤ 5 := h.bd _ (maxL_mem _ (by rw [intsV_len]; exact h.h1))
theorem RkP.len (h : RkP hs) : hs.length ≤ sizeLine := by have := h.h4; have := line1k; lia
theorem RkP.pw (h : RkP hs) : 0 ≤ (hs.length : Int) ∧ ((2 : Int) = -1 ∨ (2 : Int) ≤ 2) ∧ (PySem.Builtin.Int.intBits 2 : Int) * (hs.length : Int) ≤ 2 ^ 27 := pow_ob rfl h.h4
theorem RkP.pwv (h : RkP hs) : (2 : Int) ^ (hs.length : Int).toNat = ((2 ^ hs.length : Nat) : Int) ∧ 2 ^ hs.length ≤ 16 ∧ 1 ≤ 2 ^ hs.length := by
  refine ⟨pw_int rfl h.h4, p4 h.h4, Nat.pos_of_ne_zero (by simp)⟩
theorem RkP.mul (h : RkP hs) (t : Tok) : 0 ≤ (2 : Int) ^ (hs.length : Int).toNat - 1 ∧ (2 : Int) ^ (hs.length : Int).toNat - 1 ≤ sizeLine ∧ [Value.int 0 t].length * ((2 : Int) ^ (hs.length : Int).toNat - 1).toNat ≤ sizeLine ∧ [Value.int 0 t] ≠ [] := by
  obtain ⟨e, h1, h2⟩ := h.pwv
  rw [e]
  have := line1k
  generalize (2 ^ hs.length : Nat) = P at *
  simp only [List.length_cons, List.length_nil]
  refine ⟨by lia, by lia, by lia, by simp⟩
theorem RkP.add (h : RkP hs) (t u : Tok) : [Value.int 1 u].length + (repV [Value.int 0 t] ((2 : Int) ^ (hs.length : Int).toNat - 1).toNat).length ≤ sizeLine := by
  obtain ⟨e, h1, h2⟩ := h.pwv
  rw [e, repV_len]
  have := line1k
  generalize (2 ^ hs.length : Nat) = P at *
  simp only [List.length_cons, List.length_nil]
  lia
theorem RkP.mxo (h : RkP hs) : AllInt hs ∧ 0 < hs.length := ⟨h.ha, h.h1⟩
theorem RkP.rgo (h : RkP hs) : (1 : Int) = 1 ∧ (-(2 : Int) ^ 62 ≤ 0 ∧ (0 : Int) < 2 ^ 62) ∧ -(2 : Int) ^ 62 ≤ maxV hs ∧ maxV hs < (2 : Int) ^ 62 := by
  have := h.mx; lia
theorem RkP.cl (h : RkP hs) (t u : Tok) : ClF 0 (rlen 0 (maxV hs)) (hs.length : Int) hs ([Value.int 1 u] ++ repV [Value.int 0 t] ((2 : Int) ^ (hs.length : Int).toNat - 1).toNat) (8 + 1) := by
  have hm := h.mx
  obtain ⟨e, h1, h2⟩ := h.pwv
  rw [rlenP (by lia)]
  refine ⟨⟨⟨by lia, by lia, by lia⟩, h.h4, rfl, h.ha, (AllInt.one _ _).app (AllInt.rep _ _), ?_⟩, by lia, h.h1, by show (1 : Int) > 0; decide⟩
  rw [List.length_append, repV_len, e]
  generalize (2 ^ hs.length : Nat) = P at *
  simp only [List.length_cons, List.length_nil]
  lia
theorem RkP.mul2 (h : RkP hs) (t : Tok) : 0 ≤ (hs.length : Int) + 1 ∧ (hs.length : Int) + 1 ≤ sizeLine ∧ [Value.int 0 t].length * ((hs.length : Int) + 1).toNat ≤ sizeLine ∧ [Value.int 0 t] ≠ [] := by
  have := h.h4; have := line1k
  simp only [List.length_cons, List.length_nil]
  refine ⟨by lia, by lia, by lia, by simp⟩
theorem RkP.td (h : RkP hs) {ws0 : List Value} (e0 : ws0.length = 2 ^ hs.length) (t : Tok) (r : ClR 0 (rlen 0 (maxV hs)) hs ws0 ws) : TdP 0 (rlen 0 (2 ^ (hs.length : Int).toNat)) (hs.length : Int) ws (repV [Value.int 0 t] ((hs.length : Int) + 1).toNat) 16 := by
  have h4 := p4 h.h4
  rw [rlen_pw rfl h.h4]
  refine ⟨⟨by lia, Int.natCast_nonneg _, by lia⟩, by lia, by simpa using h.h4, by simp only [Int.toNat_natCast, Int.toNat_zero, Nat.zero_add], r.wa, AllInt.rep _ _, by rw [r.wl, e0, Int.toNat_natCast], by rw [repV_len]; simp only [List.length_cons, List.length_nil]; lia⟩
theorem RkP.w0len (h : RkP hs) (t u : Tok) : ([Value.int 1 u] ++ repV [Value.int 0 t] ((2 : Int) ^ (hs.length : Int).toNat - 1).toNat).length = 2 ^ hs.length := by
  obtain ⟨e, h1, h2⟩ := h.pwv
  rw [List.length_append, repV_len, e]
  generalize (2 ^ hs.length : Nat) = P at *
  simp only [List.length_cons, List.length_nil]
  lia
theorem RkP.s1 (h : RkP hs) : (0 : Int) < (hs.length : Int) := by have := h.h1; lia
theorem RkP.res (h : RkP hs) (t u v : Tok) (r : ClR 0 (rlen 0 (maxV hs)) hs ([Value.int 1 u] ++ repV [Value.int 0 t] ((2 : Int) ^ (hs.length : Int).toNat - 1).toNat) ws) (r2 : TdR 0 (rlen 0 (2 ^ (hs.length : Int).toNat)) (hs.length : Int) ws (repV [Value.int 0 v] ((hs.length : Int) + 1).toNat) ts) : RkR hs ts := by
  have hm := h.mx
  obtain ⟨e, h1, h2⟩ := h.pwv
  refine ⟨r2.ta, ?_⟩
  have e1 := r.we
  rw [rlenP (by lia), e, intsV_app, intsV_rep] at e1
  have e3 : ((2 ^ hs.length : Nat) : Int) - 1 = ((2 ^ hs.length - 1 : Nat) : Int) := by
    generalize (2 ^ hs.length : Nat) = P at *
    lia
  rw [e3, Int.toNat_natCast] at e1
  rw [r2.te, rlen_pw rfl h.h4, Int.toNat_natCast, Int.toNat_natCast, intsV_rep, e1, rooks, intsV_len]
  rfl
end
noncomputable def scOf : Expr → Scope
  | .ListComp _ _ s _ => s
  | _ => default
noncomputable def compScope (sc : Scope) (env : Env) : Scope := { sc with names := sc.names.map fun (n, k) => if (k == .free && env.scope.kind == .function && env.kindOf n == some .cell) then (n, .cell) else (n, k) }
noncomputable def compEnv (e : Expr) (env : Env) (L : Addr) (cells : List (Str × Addr)) : Env := { scope := compScope (scOf e) env, locals := L, globals := env.globals, cells, qual := env.qual, func := none, code := env.code, frame := env.frame, builtins := env.builtins }
noncomputable def envFrame (e : Env) : Addr := match e.frame with
  | some a => a
  | none => 0
noncomputable abbrev tRG : Value := .type "range_iterator"
noncomputable abbrev tLI : Value := .type "list_iterator"
end Mine
end
section

namespace Mine
open PySem PySem.Spec PySem.Calls PyProof.Rows PySem.W PySem.W.X PySem.Builtin.Str
noncomputable def s_heights : Str := ⟨#[104, 101, 105, 103, 104, 116, 115]⟩
noncomputable def s_ways : Str := ⟨#[119, 97, 121, 115]⟩
noncomputable def s_column : Str := ⟨#[99, 111, 108, 117, 109, 110]⟩
noncomputable def s_further : Str := ⟨#[102, 117, 114, 116, 104, 101, 114]⟩
noncomputable def s_taken : Str := ⟨#[116, 97, 107, 101, 110]⟩
noncomputable def s_row : Str := ⟨#[114, 111, 119]⟩
noncomputable def s_told : Str := ⟨#[116, 111, 108, 100]⟩
noncomputable def stdR (B : Bs) : List (BCut B) := stdE B ++ [riterC B, lsliceC B, sumC B, maxC B, laddC B]
noncomputable def rkEnv (w : World) (L ct : Addr) : Env := envF w 151 L ⟨#[95, 108, 97, 119, 95, 114, 111, 111, 107, 115, 46, 60, 108, 111, 99, 97, 108, 115, 62, 46]⟩ [(s_taken, ct)]
noncomputable def rkS (w : World) (p : List Nat) : Stmt := pathS (stmtsOf (fdAt w 151)) p
noncomputable def envCell (i : Nat) (e : Env) : Addr := match e.cells.drop i with
  | p :: _ => p.2
  | [] => 0
noncomputable def S_rw (W : Wd) (m : Nat) : Sp (BB W) :=
  let B := BB W
  { d := 100
    c := fun q => forC (rkS W.w [2, 0, 1, 0, 0, 0, 0]) (q.a 2) (rkEnv W.w (q.a 0) (q.a 1))
    P := fun q => RwP (q.i 2) (q.i 3) (q.i 1) (q.l 0) (q.l 1) (q.l 2) m
    pre := fun q => [((q.a 0),frameO [kv B s_heights (q.t 0) (.ref (q.a 3)),kv B s_size (q.t 1) (q.v 0),kv B s_ways (q.t 2) (.ref (q.a 4)),kv B s_column (q.t 3) (.int (q.i 0) (q.t 4)),kv B s_further (q.t 5) (.ref (q.a 5)),kv B s_row (q.t 6) (q.v 1)] 6),((q.a 1),cellO (.int (q.i 1) (q.t 7))),((q.a 2),fieldsO tRG [(.int (q.i 2) (q.t 8)),(.int (q.i 3) (q.t 9)),(.int 1 (q.t 10))]),((q.a 3),listO (q.l 0) (q.t 11)),((q.a 4),listO (q.l 1) (q.t 12)),((q.a 5),listO (q.l 2) (q.t 13))]
    R := fun q e => RwR (q.i 2) (q.i 3) (q.i 1) (q.i 0) (q.l 0) (q.l 1) (q.l 2) (e.l 0)
    res := fun q e => .ok .next
    out := fun q e => [((q.a 0),frameO [kv B s_heights (q.t 0) (.ref (q.a 3)),kv B s_size (q.t 1) (q.v 0),kv B s_ways (q.t 2) (.ref (q.a 4)),kv B s_column (q.t 3) (.int (q.i 0) (q.t 4)),kv B s_further (q.t 5) (.ref (q.a 5)),kv B s_row (q.t 6) (e.v 0)] 6),((q.a 1),cellO (.int (q.i 1) (q.t 7))),((q.a 3),listO (q.l 0) (q.t 11)),((q.a 4),listO (q.l 1) (q.t 12)),((q.a 5),listO (e.l 0) (e.t 0))] }
noncomputable def on_rw : Code → View → Lt := fun c V => lt [(cEnv c).locals,envCell 0 (cEnv c),valA (cIt c),dA V 0 0,dA V 0 2,dA V 0 4] [kT V 0 0,kT V 0 1,kT V 0 2,kT V 0 3,dT V 0 3,kT V 0 4,kT V 0 5,cT V 1,qT V 2 0,qT V 2 1,qT V 2 2,eP V 3,eP V 4,eP V 5] [dI V 0 3,valI (cellV (nthO V 1)),qI V 2 0,qI V 2 1] [] [dV V 0 1,dV V 0 5] [sQ V 3,sQ V 4,sQ V 5] []
noncomputable def S_rwf (W : Wd) (m : Nat) : Sp (BB W) :=
  let B := BB W
  { d := 100
    c := fun q => forC (rkS W.w [2, 0, 1, 0, 0, 0, 0]) (q.a 2) (rkEnv W.w (q.a 0) (q.a 1))
    P := fun q => RwP (q.i 2) (q.i 3) (q.i 1) (q.l 0) (q.l 1) (q.l 2) m ∧ 0 < (q.i 3)
    pre := fun q => [((q.a 0),frameO [kv B s_heights (q.t 0) (.ref (q.a 3)),kv B s_size (q.t 1) (q.v 0),kv B s_ways (q.t 2) (.ref (q.a 4)),kv B s_column (q.t 3) (.int (q.i 0) (q.t 4)),kv B s_further (q.t 5) (.ref (q.a 5))] 5),((q.a 1),cellO (.int (q.i 1) (q.t 6))),((q.a 2),fieldsO tRG [(.int (q.i 2) (q.t 7)),(.int (q.i 3) (q.t 8)),(.int 1 (q.t 9))]),((q.a 3),listO (q.l 0) (q.t 10)),((q.a 4),listO (q.l 1) (q.t 11)),((q.a 5),listO (q.l 2) (q.t 12))]
    R := fun q e => RwR (q.i 2) (q.i 3) (q.i 1) (q.i 0) (q.l 0) (q.l 1) (q.l 2) (e.l 0)
    res := fun q e => .ok .next
    out := fun q e => [((q.a 0),frameO [kv B s_heights (q.t 0) (.ref (q.a 3)),kv B s_size (q.t 1) (q.v 0),kv B s_ways (q.t 2) (.ref (q.a 4)),kv B s_column (q.t 3) (.int (q.i 0) (q.t 4)),kv B s_further (q.t 5) (.ref (q.a 5)),kv B s_row (e.t 0) (e.v 0)] 6),((q.a 1),cellO (.int (q.i 1) (q.t 6))),((q.a 3),listO (q.l 0) (q.t 10)),((q.a 4),listO (q.l 1) (q.t 11)),((q.a 5),listO (e.l 0) (e.t 1))] }
noncomputable def on_rwf : Code → View → Lt := fun c V => lt [(cEnv c).locals,envCell 0 (cEnv c),valA (cIt c),dA V 0 0,dA V 0 2,dA V 0 4] [kT V 0 0,kT V 0 1,kT V 0 2,kT V 0 3,dT V 0 3,kT V 0 4,cT V 1,qT V 2 0,qT V 2 1,qT V 2 2,eP V 3,eP V 4,eP V 5] [dI V 0 3,valI (cellV (nthO V 1)),qI V 2 0,qI V 2 1] [] [dV V 0 1] [sQ V 3,sQ V 4,sQ V 5] []
theorem rw_end (W : Wd) (O : (BB W).Ok) (m : Nat) (q : Lt) (hq : (S_rw W m).P q) (hl : (q.i 3) ≤ 0) : At (S_rw W m) 100 q := by
  refine tri_f O (stdR _) [] 2000 100 (hs := [0,3,0,3,6,0,3,3,3,1,0]) (is := [2,2,3,3,3])
    (fun (ρ : Rho) => ob hl <| fin (S_rw W m) q (lt [] [(q.t 13)] [] [] [(q.v 1)] [(q.l 2)] []) ((hq.fin hl)) :) ?_
  induction W using y_0 <;> kernel_rfl
theorem rw_n (W : Wd) (O : (BB W).Ok) (m : Nat) (ih : (S_rw W m).Ok) (q : Lt) (hq : (S_rw W (m + 1)).P q) (hl : 0 < (q.i 3)) (hc : ¬ shI (itemAt (q.l 0) (q.i 2).toNat) > (q.i 0)) : At (S_rw W (m + 1)) 100 q := by
  refine tri_f O (stdR _) [U (S_rw W m) ih on_rw] 2000 100 (hs := hx 39 0x60030c20010438021001041010410430c30c30c30460c00c0) (is := [0,0,0,0,0])
    (fun (ρ : Rho) => ob hl <| ob (hq.gh hl) <| ob hc <| ob (hq.next hl) <| fun he0 : RwR (q.i 2 + 1 : Int) (q.i 3 - 1 : Int) (q.i 1) (q.i 0) (q.l 0) (q.l 1) (q.l 2) ((ρ.2 0).l 0) => fin (S_rw W (m + 1)) q (lt [] [(ρ.2 0).2 0] [] [] [(ρ.2 0).5 0] [(ρ.2 0).6 0] []) ((hq.rn hl hc he0)) :) ?_
  induction W using y_0 <;> kernel_rfl
theorem rw_b (W : Wd) (O : (BB W).Ok) (m : Nat) (ih : (S_rw W m).Ok) (q : Lt) (hq : (S_rw W (m + 1)).P q) (hl : 0 < (q.i 3)) (hc : shI (itemAt (q.l 0) (q.i 2).toNat) > (q.i 0)) (hb : bAnd ((q.i 1).fdiv (2 ^ (q.i 2).toNat)) 1 ≠ 0) : At (S_rw W (m + 1)) 100 q := by
  refine tri_f O (stdR _) [U (S_rw W m) ih on_rw] 2000 100 (hs := hx 50 0x1800c90806020170800420820010438021001041010410430c30c30c30460c00c0) (is := [0,0,0,0,0])
    (fun (ρ : Rho) => ob hl <| ob (hq.gh hl) <| ob hc <| ob hq.rg.c0 <| ob (A := (True)) (trivial) <| ob hb <| ob (hq.next hl) <| fun he0 : RwR (q.i 2 + 1 : Int) (q.i 3 - 1 : Int) (q.i 1) (q.i 0) (q.l 0) (q.l 1) (q.l 2) ((ρ.2 0).l 0) => fin (S_rw W (m + 1)) q (lt [] [(ρ.2 0).2 0] [] [] [(ρ.2 0).5 0] [(ρ.2 0).6 0] []) ((hq.rb hl hb he0)) :) ?_
  induction W using y_0 <;> kernel_rfl
theorem rw_s (W : Wd) (O : (BB W).Ok) (m : Nat) (ih : (S_rw W m).Ok) (q : Lt) (hq : (S_rw W (m + 1)).P q) (hl : 0 < (q.i 3)) (hc : shI (itemAt (q.l 0) (q.i 2).toNat) > (q.i 0)) (hb : bAnd ((q.i 1).fdiv (2 ^ (q.i 2).toNat)) 1 = 0) : At (S_rw W (m + 1)) 100 q := by
  refine tri_f O (stdR _) [U (S_rw W m) ih on_rw] 2000 100 (hs := hx 87 0x600304584218018600004480214014514204116008600618001c0800420480806020170800420820010438021001041010410430c30c30c30460c00c0) (is := [0,0,0,0,0])
    (fun (ρ : Rho) => let z0 := Int.toNat (q.i 1 + 2 ^ Int.toNat (q.i 2)); let z1 := Int.toNat (q.i 1 + 2 ^ (q.i 2).toNat); ob hl <| ob (hq.gh hl) <| ob hc <| ob hq.rg.c0 <| ob (A := (True)) (trivial) <| ob hb <| ob (hq.po hl) <| ob (hq.gf hl hb) <| ob hq.gw <| ob ((hq.gf hl hb).1) <| ob (A := (RwP (q.i 2 + 1 : Int) (q.i 3 - 1 : Int) (q.i 1) (q.l 0) (q.l 1) (setV (q.l 2) z1 (Value.int (shI (itemAt (q.l 2) z1) + shI (itemAt (q.l 1) ((q.i 1).toNat))) (ρ.n 9))) m)) (hq.nextS hl _ _ _) <| fun he0 : RwR (q.i 2 + 1 : Int) (q.i 3 - 1 : Int) (q.i 1) (q.i 0) (q.l 0) (q.l 1) (setV (q.l 2) z0 (Value.int (shI (itemAt (q.l 2) z0) + shI (itemAt (q.l 1) (Int.toNat (q.i 1)))) (ρ.n 9))) ((ρ.2 0).l 0) => fin (S_rw W (m + 1)) q (lt [] [(ρ.2 0).2 0] [] [] [(ρ.2 0).5 0] [(ρ.2 0).6 0] []) ((hq.rs hl hc hb he0)) :) ?_
  induction W using y_0 <;> kernel_rfl
theorem rw_ok (W : Wd) (O : (BB W).Ok) : ∀ m, (S_rw W m).Ok
  | 0 => fun q hq => rw_end W O 0 q hq hq.m0
  | m + 1 => fun q hq => by
    by_cases hl : (q.i 3) ≤ 0
    · exact rw_end W O (m + 1) q hq hl
    · by_cases hc : shI (itemAt (q.l 0) (q.i 2).toNat) > (q.i 0)
      · by_cases hb : bAnd ((q.i 1).fdiv (2 ^ (q.i 2).toNat)) 1 = 0
        · exact rw_s W O m (rw_ok W O m) q hq (by lia) hc hb
        · exact rw_b W O m (rw_ok W O m) q hq (by lia) hc hb
      · exact rw_n W O m (rw_ok W O m) q hq (by lia) hc
theorem rwf_n (W : Wd) (O : (BB W).Ok) (m : Nat) (ih : (S_rw W m).Ok) (q : Lt) (hq : (S_rwf W (m + 1)).P q) (hl : 0 < (q.i 3)) (hc : ¬ shI (itemAt (q.l 0) (q.i 2).toNat) > (q.i 0)) : At (S_rwf W (m + 1)) 100 q := by
  refine tri_f O (stdR _) [U (S_rw W m) ih on_rw] 2000 100 (hs := hx 39 0x60030c20010438021001041010410430c30c30c30460c00c0) (is := [0,0,0,0,0])
    (fun (ρ : Rho) => ob hl <| ob (hq.1.gh hl) <| ob hc <| ob (hq.1.next hl) <| fun he0 : RwR (q.i 2 + 1 : Int) (q.i 3 - 1 : Int) (q.i 1) (q.i 0) (q.l 0) (q.l 1) (q.l 2) ((ρ.2 0).l 0) => fin (S_rwf W (m + 1)) q (lt [] [ρ.1 1,(ρ.2 0).2 0] [] [] [(ρ.2 0).5 0] [(ρ.2 0).6 0] []) ((hq.1.rn hl hc he0)) :) ?_
  induction W using y_0 <;> kernel_rfl
theorem rwf_b (W : Wd) (O : (BB W).Ok) (m : Nat) (ih : (S_rw W m).Ok) (q : Lt) (hq : (S_rwf W (m + 1)).P q) (hl : 0 < (q.i 3)) (hc : shI (itemAt (q.l 0) (q.i 2).toNat) > (q.i 0)) (hb : bAnd ((q.i 1).fdiv (2 ^ (q.i 2).toNat)) 1 ≠ 0) : At (S_rwf W (m + 1)) 100 q := by
  refine tri_f O (stdR _) [U (S_rw W m) ih on_rw] 2000 100 (hs := hx 50 0x1800c90806020170800420820010438021001041010410430c30c30c30460c00c0) (is := [0,0,0,0,0])
    (fun (ρ : Rho) => ob hl <| ob (hq.1.gh hl) <| ob hc <| ob hq.1.rg.c0 <| ob (A := (True)) (trivial) <| ob hb <| ob (hq.1.next hl) <| fun he0 : RwR (q.i 2 + 1 : Int) (q.i 3 - 1 : Int) (q.i 1) (q.i 0) (q.l 0) (q.l 1) (q.l 2) ((ρ.2 0).l 0) => fin (S_rwf W (m + 1)) q (lt [] [ρ.1 1,(ρ.2 0).2 0] [] [] [(ρ.2 0).5 0] [(ρ.2 0).6 0] []) ((hq.1.rb hl hb he0)) :) ?_
  induction W using y_0 <;> kernel_rfl
theorem rwf_s (W : Wd) (O : (BB W).Ok) (m : Nat) (ih : (S_rw W m).Ok) (q : Lt) (hq : (S_rwf W (m + 1)).P q) (hl : 0 < (q.i 3)) (hc : shI (itemAt (q.l 0) (q.i 2).toNat) > (q.i 0)) (hb : bAnd ((q.i 1).fdiv (2 ^ (q.i 2).toNat)) 1 = 0) : At (S_rwf W (m + 1)) 100 q := by
  refine tri_f O (stdR _) [U (S_rw W m) ih on_rw] 2000 100 (hs := hx 87 0x600304584218018600004480214014514204116008600618001c0800420480806020170800420820010438021001041010410430c30c30c30460c00c0) (is := [0,0,0,0,0])
    (fun (ρ : Rho) => let z0 := Int.toNat (q.i 1 + 2 ^ Int.toNat (q.i 2)); let z1 := Int.toNat (q.i 1 + 2 ^ (q.i 2).toNat); ob hl <| ob (hq.1.gh hl) <| ob hc <| ob hq.1.rg.c0 <| ob (A := (True)) (trivial) <| ob hb <| ob (hq.1.po hl) <| ob (hq.1.gf hl hb) <| ob hq.1.gw <| ob ((hq.1.gf hl hb).1) <| ob (A := (RwP (q.i 2 + 1 : Int) (q.i 3 - 1 : Int) (q.i 1) (q.l 0) (q.l 1) (setV (q.l 2) z1 (Value.int (shI (itemAt (q.l 2) z1) + shI (itemAt (q.l 1) ((q.i 1).toNat))) (ρ.n 9))) m)) (hq.1.nextS hl _ _ _) <| fun he0 : RwR (q.i 2 + 1 : Int) (q.i 3 - 1 : Int) (q.i 1) (q.i 0) (q.l 0) (q.l 1) (setV (q.l 2) z0 (Value.int (shI (itemAt (q.l 2) z0) + shI (itemAt (q.l 1) (Int.toNat (q.i 1)))) (ρ.n 9))) ((ρ.2 0).l 0) => fin (S_rwf W (m + 1)) q (lt [] [ρ.1 1,(ρ.2 0).2 0] [] [] [(ρ.2 0).5 0] [(ρ.2 0).6 0] []) ((hq.1.rs hl hc hb he0)) :) ?_
  induction W using y_0 <;> kernel_rfl
theorem rwf_ok (W : Wd) (O : (BB W).Ok) (m : Nat) : (S_rwf W (m + 1)).Ok := fun q hq => by
  by_cases hc : shI (itemAt (q.l 0) (q.i 2).toNat) > (q.i 0)
  · by_cases hb : bAnd ((q.i 1).fdiv (2 ^ (q.i 2).toNat)) 1 = 0
    · exact rwf_s W O m (rw_ok W O m) q hq hq.2 hc hb
    · exact rwf_b W O m (rw_ok W O m) q hq hq.2 hc hb
  · exact rwf_n W O m (rw_ok W O m) q hq hq.2 hc
end Mine
end
section

namespace Mine
open PySem PySem.Spec PySem.Calls PyProof.Rows PySem.W PySem.W.X PySem.Builtin.Str
noncomputable def S_tk (W : Wd) (m : Nat) : Sp (BB W) :=
  let B := BB W
  { d := 110
    c := fun q => forC (rkS W.w [2, 0, 1]) (q.a 2) (rkEnv W.w (q.a 0) (q.a 1))
    P := fun q => TkP (q.i 2) (q.i 3) (q.i 0) (q.l 0) (q.l 1) (q.l 2) m
    pre := fun q => [((q.a 0),frameO [kv B s_heights (q.t 0) (.ref (q.a 3)),kv B s_size (q.t 1) (.int (q.i 0) (q.t 2)),kv B s_ways (q.t 3) (.ref (q.a 4)),kv B s_column (q.t 4) (.int (q.i 1) (q.t 5)),kv B s_further (q.t 6) (.ref (q.a 5)),kv B s_row (q.t 7) (q.v 0)] 6),((q.a 1),cellO (q.v 1)),((q.a 2),fieldsO tRG [(.int (q.i 2) (q.t 8)),(.int (q.i 3) (q.t 9)),(.int 1 (q.t 10))]),((q.a 3),listO (q.l 0) (q.t 11)),((q.a 4),listO (q.l 1) (q.t 12)),((q.a 5),listO (q.l 2) (q.t 13))]
    R := fun q e => TkR (q.i 2) (q.i 3) (q.i 1) (q.l 0) (q.l 1) (q.l 2) (e.l 0)
    res := fun q e => .ok .next
    out := fun q e => [((q.a 0),frameO [kv B s_heights (q.t 0) (.ref (q.a 3)),kv B s_size (q.t 1) (.int (q.i 0) (q.t 2)),kv B s_ways (q.t 3) (.ref (q.a 4)),kv B s_column (q.t 4) (.int (q.i 1) (q.t 5)),kv B s_further (q.t 6) (.ref (q.a 5)),kv B s_row (q.t 7) (e.v 0)] 6),((q.a 1),cellO (e.v 1)),((q.a 3),listO (q.l 0) (q.t 11)),((q.a 4),listO (q.l 1) (q.t 12)),((q.a 5),listO (e.l 0) (e.t 0))] }
noncomputable def on_tk : Code → View → Lt := fun c V => lt [(cEnv c).locals,envCell 0 (cEnv c),valA (cIt c),dA V 0 0,dA V 0 2,dA V 0 4] [kT V 0 0,kT V 0 1,dT V 0 1,kT V 0 2,kT V 0 3,dT V 0 3,kT V 0 4,kT V 0 5,qT V 2 0,qT V 2 1,qT V 2 2,eP V 3,eP V 4,eP V 5] [dI V 0 1,dI V 0 3,qI V 2 0,qI V 2 1] [] [dV V 0 5,cellV (nthO V 1)] [sQ V 3,sQ V 4,sQ V 5] []
noncomputable def S_tkf (W : Wd) (m : Nat) : Sp (BB W) :=
  let B := BB W
  { d := 110
    c := fun q => forC (rkS W.w [2, 0, 1]) (q.a 2) (rkEnv W.w (q.a 0) (q.a 1))
    P := fun q => (TkP (q.i 2) (q.i 3) (q.i 0) (q.l 0) (q.l 1) (q.l 2) m ∧ 1 ≤ (q.l 0).length) ∧ 0 < (q.i 3) ∧ shI (itemAt (q.l 1) (q.i 2).toNat) > 0
    pre := fun q => [((q.a 0),frameO [kv B s_heights (q.t 0) (.ref (q.a 3)),kv B s_size (q.t 1) (.int (q.i 0) (q.t 2)),kv B s_ways (q.t 3) (.ref (q.a 4)),kv B s_column (q.t 4) (.int (q.i 1) (q.t 5)),kv B s_further (q.t 6) (.ref (q.a 5))] 5),((q.a 1),⟨tCell,none,.cell none,#[]⟩),((q.a 2),fieldsO tRG [(.int (q.i 2) (q.t 7)),(.int (q.i 3) (q.t 8)),(.int 1 (q.t 9))]),((q.a 3),listO (q.l 0) (q.t 10)),((q.a 4),listO (q.l 1) (q.t 11)),((q.a 5),listO (q.l 2) (q.t 12))]
    R := fun q e => TkR (q.i 2) (q.i 3) (q.i 1) (q.l 0) (q.l 1) (q.l 2) (e.l 0)
    res := fun q e => .ok .next
    out := fun q e => [((q.a 0),frameO [kv B s_heights (q.t 0) (.ref (q.a 3)),kv B s_size (q.t 1) (.int (q.i 0) (q.t 2)),kv B s_ways (q.t 3) (.ref (q.a 4)),kv B s_column (q.t 4) (.int (q.i 1) (q.t 5)),kv B s_further (q.t 6) (.ref (q.a 5)),kv B s_row (e.t 0) (e.v 0)] 6),((q.a 1),cellO (e.v 1)),((q.a 3),listO (q.l 0) (q.t 10)),((q.a 4),listO (q.l 1) (q.t 11)),((q.a 5),listO (e.l 0) (e.t 1))] }
noncomputable def on_tkf : Code → View → Lt := fun c V => lt [(cEnv c).locals,envCell 0 (cEnv c),valA (cIt c),dA V 0 0,dA V 0 2,dA V 0 4] [kT V 0 0,kT V 0 1,dT V 0 1,kT V 0 2,kT V 0 3,dT V 0 3,kT V 0 4,qT V 2 0,qT V 2 1,qT V 2 2,eP V 3,eP V 4,eP V 5] [dI V 0 1,dI V 0 3,qI V 2 0,qI V 2 1] [] [] [sQ V 3,sQ V 4,sQ V 5] []
theorem tk_end (W : Wd) (O : (BB W).Ok) (m : Nat) (q : Lt) (hq : (S_tk W m).P q) (hl : (q.i 3) ≤ 0) : At (S_tk W m) 110 q := by
  refine tri_f O (stdR _) [] 2000 110 (hs := [0,3,0,3,6,0,3,3,3,1,0]) (is := [2,2,3,3,3])
    (fun (ρ : Rho) => ob hl <| fin (S_tk W m) q (lt [] [(q.t 13)] [] [] [(q.v 0),(q.v 1)] [(q.l 2)] []) ((hq.fin hl)) :) ?_
  induction W using y_0 <;> kernel_rfl
theorem tk_t (W : Wd) (O : (BB W).Ok) (m : Nat) (ih : (S_tk W m).Ok) (q : Lt) (hq : (S_tk W (m + 1)).P q) (hl : 0 < (q.i 3)) (hb : shI (itemAt (q.l 1) (q.i 2).toNat) > 0) : At (S_tk W (m + 1)) 110 q := by
  refine tri_f O (stdR _) [U (S_rw W 8) (rw_ok W O 8) on_rw,U (S_tk W m) ih on_tk] 2000 110 (hs := hx 68 0x40001810c20820020860030409c20400410400400410000000400020800448021401451420420830c30c30c30460c00c0) (is := [0,0,0,0,0])
    (fun (ρ : Rho) => ob hl <| ob (hq.gw hl) <| ob hb <| ob hq.rg2 <| ob (hq.rw hl) <| fun he0 : RwR (0 : Int) (rlen 0 (q.i 0) : Int) (q.i 2) (q.i 1) (q.l 0) (q.l 1) (q.l 2) ((ρ.2 0).l 0) => ob (hq.next hl he0) <| fun he1 : TkR (q.i 2 + 1 : Int) (q.i 3 - 1 : Int) (q.i 1) (q.l 0) (q.l 1) ((ρ.2 0).l 0) ((ρ.2 1).l 0) => fin (S_tk W (m + 1)) q (lt [] [(ρ.2 1).2 0] [] [] [(ρ.2 1).5 0,(ρ.2 1).5 1] [(ρ.2 1).6 0] []) ((hq.rt hl hb he0 he1)) :) ?_
  induction W using y_0 <;> kernel_rfl
theorem tk_f (W : Wd) (O : (BB W).Ok) (m : Nat) (ih : (S_tk W m).Ok) (q : Lt) (hq : (S_tk W (m + 1)).P q) (hl : 0 < (q.i 3)) (hb : ¬ shI (itemAt (q.l 1) (q.i 2).toNat) > 0) : At (S_tk W (m + 1)) 110 q := by
  refine tri_f O (stdR _) [U (S_rw W 8) (rw_ok W O 8) on_rw,U (S_tk W m) ih on_tk] 2000 110 (hs := hx 38 0x1810c30800448021401451420420830c30c30c30460c00c0) (is := [0,0,0,0,0])
    (fun (ρ : Rho) => ob hl <| ob (hq.gw hl) <| ob hb <| ob (hq.nextN hl) <| fun he0 : TkR (q.i 2 + 1 : Int) (q.i 3 - 1 : Int) (q.i 1) (q.l 0) (q.l 1) (q.l 2) ((ρ.2 0).l 0) => fin (S_tk W (m + 1)) q (lt [] [(ρ.2 0).2 0] [] [] [(ρ.2 0).5 0,(ρ.2 0).5 1] [(ρ.2 0).6 0] []) ((hq.rf hl hb he0)) :) ?_
  induction W using y_0 <;> kernel_rfl
theorem tk_ok (W : Wd) (O : (BB W).Ok) : ∀ m, (S_tk W m).Ok
  | 0 => fun q hq => tk_end W O 0 q hq hq.m0
  | m + 1 => fun q hq => by
    by_cases hl : (q.i 3) ≤ 0
    · exact tk_end W O (m + 1) q hq hl
    · by_cases hb : shI (itemAt (q.l 1) (q.i 2).toNat) > 0
      · exact tk_t W O m (tk_ok W O m) q hq (by lia) hb
      · exact tk_f W O m (tk_ok W O m) q hq (by lia) hb
theorem tkf_t (W : Wd) (O : (BB W).Ok) (m : Nat) (ih : (S_tk W m).Ok) (q : Lt) (hq : (S_tkf W (m + 1)).P q) (hl : 0 < (q.i 3)) (hb : shI (itemAt (q.l 1) (q.i 2).toNat) > 0) : At (S_tkf W (m + 1)) 110 q := by
  refine tri_f O (stdR _) [U (S_rwf W (7 + 1)) (rwf_ok W O 7) on_rwf,U (S_tk W m) ih on_tk] 2000 110 (hs := hx 68 0x40001810c20820020860030409c20400410400400410000000400020800448021401451420420830c30c30c30460c00c0) (is := [0,0,0,0,0])
    (fun (ρ : Rho) => ob hl <| ob (hq.1.1.gw hl) <| ob hb <| ob hq.1.1.rg2 <| ob (hq.1.1.rwf hl hq.1.2) <| fun he0 : RwR (0 : Int) (rlen 0 (q.i 0) : Int) (q.i 2) (q.i 1) (q.l 0) (q.l 1) (q.l 2) ((ρ.2 0).l 0) => ob (hq.1.1.next hl he0) <| fun he1 : TkR (q.i 2 + 1 : Int) (q.i 3 - 1 : Int) (q.i 1) (q.l 0) (q.l 1) ((ρ.2 0).l 0) ((ρ.2 1).l 0) => fin (S_tkf W (m + 1)) q (lt [] [(ρ.2 0).2 0,(ρ.2 1).2 0] [] [] [(ρ.2 1).5 0,(ρ.2 1).5 1] [(ρ.2 1).6 0] []) ((hq.1.1.rt hl hb he0 he1)) :) ?_
  induction W using y_0 <;> kernel_rfl
theorem tkf_ok (W : Wd) (O : (BB W).Ok) (m : Nat) : (S_tkf W (m + 1)).Ok := fun q hq => by
  exact tkf_t W O m (tk_ok W O m) q hq hq.2.1 hq.2.2
end Mine
end
section

namespace Mine
open PySem PySem.Spec PySem.Calls PyProof.Rows PySem.W PySem.W.X PySem.Builtin.Str
noncomputable def S_cl (W : Wd) (m : Nat) : Sp (BB W) :=
  let B := BB W
  { d := 120
    c := fun q => forC (rkS W.w [2]) (q.a 2) (rkEnv W.w (q.a 0) (q.a 1))
    P := fun q => ClP (q.i 1) (q.i 2) (q.i 0) (q.l 0) (q.l 1) m
    pre := fun q => [((q.a 0),frameO [kv B s_heights (q.t 0) (.ref (q.a 3)),kv B s_size (q.t 1) (.int (q.i 0) (q.t 2)),kv B s_ways (q.t 3) (.ref (q.a 4)),kv B s_column (q.t 4) (q.v 0),kv B s_further (q.t 5) (q.v 1),kv B s_row (q.t 6) (q.v 2)] 6),((q.a 1),cellO (q.v 3)),((q.a 2),fieldsO tRG [(.int (q.i 1) (q.t 7)),(.int (q.i 2) (q.t 8)),(.int 1 (q.t 9))]),((q.a 3),listO (q.l 0) (q.t 10)),((q.a 4),listO (q.l 1) (q.t 11))]
    R := fun q e => ClR (q.i 1) (q.i 2) (q.l 0) (q.l 1) (e.l 0)
    res := fun q e => .ok .next
    out := fun q e => [((q.a 0),frameO [kv B s_heights (q.t 0) (.ref (q.a 3)),kv B s_size (q.t 1) (.int (q.i 0) (q.t 2)),kv B s_ways (q.t 3) (.ref (e.a 0)),kv B s_column (q.t 4) (e.v 0),kv B s_further (q.t 5) (e.v 1),kv B s_row (q.t 6) (e.v 2)] 6),((q.a 1),cellO (e.v 3)),((q.a 3),listO (q.l 0) (q.t 10)),((e.a 0),listO (e.l 0) (e.t 0))] }
noncomputable def on_cl : Code → View → Lt := fun c V => lt [(cEnv c).locals,envCell 0 (cEnv c),valA (cIt c),dA V 0 0,dA V 0 2] [kT V 0 0,kT V 0 1,dT V 0 1,kT V 0 2,kT V 0 3,kT V 0 4,kT V 0 5,qT V 2 0,qT V 2 1,qT V 2 2,eP V 3,eP V 4] [dI V 0 1,qI V 2 0,qI V 2 1] [] [dV V 0 3,dV V 0 4,dV V 0 5,cellV (nthO V 1)] [sQ V 3,sQ V 4] []
noncomputable def S_clf (W : Wd) (m : Nat) : Sp (BB W) :=
  let B := BB W
  { d := 120
    c := fun q => forC (rkS W.w [2]) (q.a 2) (rkEnv W.w (q.a 0) (q.a 1))
    P := fun q => ClF (q.i 1) (q.i 2) (q.i 0) (q.l 0) (q.l 1) m
    pre := fun q => [((q.a 0),frameO [kv B s_heights (q.t 0) (.ref (q.a 3)),kv B s_size (q.t 1) (.int (q.i 0) (q.t 2)),kv B s_ways (q.t 3) (.ref (q.a 4))] 3),((q.a 1),⟨tCell,none,.cell none,#[]⟩),((q.a 2),fieldsO tRG [(.int (q.i 1) (q.t 4)),(.int (q.i 2) (q.t 5)),(.int 1 (q.t 6))]),((q.a 3),listO (q.l 0) (q.t 7)),((q.a 4),listO (q.l 1) (q.t 8))]
    R := fun q e => ClR (q.i 1) (q.i 2) (q.l 0) (q.l 1) (e.l 0)
    res := fun q e => .ok .next
    out := fun q e => [((q.a 0),frameO [kv B s_heights (q.t 0) (.ref (q.a 3)),kv B s_size (q.t 1) (.int (q.i 0) (q.t 2)),kv B s_ways (q.t 3) (.ref (e.a 0)),kv B s_column (e.t 0) (e.v 0),kv B s_further (e.t 1) (e.v 1),kv B s_row (e.t 2) (e.v 2)] 6),((q.a 1),cellO (e.v 3)),((q.a 3),listO (q.l 0) (q.t 7)),((e.a 0),listO (e.l 0) (e.t 3))] }
noncomputable def on_clf : Code → View → Lt := fun c V => lt [(cEnv c).locals,envCell 0 (cEnv c),valA (cIt c),dA V 0 0,dA V 0 2] [kT V 0 0,kT V 0 1,dT V 0 1,kT V 0 2,qT V 2 0,qT V 2 1,qT V 2 2,eP V 3,eP V 4] [dI V 0 1,qI V 2 0,qI V 2 1] [] [] [sQ V 3,sQ V 4] []
theorem cl_end (W : Wd) (O : (BB W).Ok) (m : Nat) (q : Lt) (hq : (S_cl W m).P q) (hl : (q.i 2) ≤ 0) : At (S_cl W m) 120 q := by
  refine tri_f O (stdR _) [] 2000 120 (hs := [0,3,0,3,6,0,3,3,3,1,0]) (is := [2,2,3,3])
    (fun (ρ : Rho) => ob hl <| fin (S_cl W m) q (lt [(q.a 4)] [(q.t 11)] [] [] (sl q.v 0 4) [(q.l 1)] []) ((hq.fin hl)) :) ?_
  induction W using y_0 <;> kernel_rfl
theorem cl_step (W : Wd) (O : (BB W).Ok) (m : Nat) (ih : (S_cl W m).Ok) (q : Lt) (hq : (S_cl W (m + 1)).P q) (hl : 0 < (q.i 2)) : At (S_cl W (m + 1)) 120 q := by
  refine tri_f O (stdR _) [U (S_tk W 16) (tk_ok W O 16) on_tk,U (S_cl W m) ih on_cl] 2000 120 (hs := hx 71 0x10050001410c10410441001041800c102708100104100100104000001c0800c00030c01680860061860410430c30c30c30460c00c0) (is := [0,0,0,0])
    (fun (ρ : Rho) => ob hl <| ob hq.sl <| ob (pow_ob hq.sz hq.h4) <| ob (rng_pw hq.sz hq.h4) <| ob hq.tkP <| fun he0 : TkR (0 : Int) (rlen 0 (2 ^ Int.toNat (q.i 0)) : Int) (q.i 1) (q.l 0) (q.l 1) (partL (ptI none) (ptI none) (q.l 1)) ((ρ.2 0).l 0) => ob (hq.next hl he0) <| fun he1 : ClR (q.i 1 + 1 : Int) (q.i 2 - 1 : Int) (q.l 0) ((ρ.2 0).l 0) ((ρ.2 1).l 0) => fin (S_cl W (m + 1)) q (lt [(ρ.2 1).1 0] [(ρ.2 1).2 0] [] [] [(ρ.2 1).5 0,(ρ.2 1).5 1,(ρ.2 1).5 2,(ρ.2 1).5 3] [(ρ.2 1).6 0] []) ((hq.rt hl he0 he1)) :) ?_
  induction W using y_0 <;> kernel_rfl
theorem cl_ok (W : Wd) (O : (BB W).Ok) : ∀ m, (S_cl W m).Ok
  | 0 => fun q hq => cl_end W O 0 q hq hq.m0
  | m + 1 => fun q hq => by
    by_cases hl : (q.i 2) ≤ 0
    · exact cl_end W O (m + 1) q hq hl
    · exact cl_step W O m (cl_ok W O m) q hq (by lia)
theorem clf_step (W : Wd) (O : (BB W).Ok) (m : Nat) (ih : (S_cl W m).Ok) (q : Lt) (hq : (S_clf W (m + 1)).P q) (hl : 0 < (q.i 2)) : At (S_clf W (m + 1)) 120 q := by
  refine tri_f O (stdR _) [U (S_tkf W (15 + 1)) (tkf_ok W O 15) on_tkf,U (S_cl W m) ih on_cl] 2000 120 (hs := hx 71 0x10050001410c10410441001041800c102708100104100100104000001c0800c00030c01680860061860410430c30c30c30460c00c0) (is := [0,0,0,0])
    (fun (ρ : Rho) => ob hl <| ob hq.cl.sl <| ob (pow_ob hq.cl.sz hq.cl.h4) <| ob (rng_pw hq.cl.sz hq.cl.h4) <| ob hq.tkP <| fun he0 : TkR (0 : Int) (rlen 0 (2 ^ Int.toNat (q.i 0)) : Int) (q.i 1) (q.l 0) (q.l 1) (partL (ptI none) (ptI none) (q.l 1)) ((ρ.2 0).l 0) => ob (hq.cl.next hl he0) <| fun he1 : ClR (q.i 1 + 1 : Int) (q.i 2 - 1 : Int) (q.l 0) ((ρ.2 0).l 0) ((ρ.2 1).l 0) => fin (S_clf W (m + 1)) q (lt [(ρ.2 1).1 0] [ρ.1 1,ρ.1 4,(ρ.2 0).2 0,(ρ.2 1).2 0] [] [] [(ρ.2 1).5 0,(ρ.2 1).5 1,(ρ.2 1).5 2,(ρ.2 1).5 3] [(ρ.2 1).6 0] []) ((hq.cl.rt hl he0 he1)) :) ?_
  induction W using y_0 <;> kernel_rfl
theorem clf_ok (W : Wd) (O : (BB W).Ok) (m : Nat) : (S_clf W (m + 1)).Ok := fun q hq => clf_step W O m (cl_ok W O m) q hq hq.l0
end Mine
end
section

namespace Mine
open PySem PySem.Spec PySem.Calls PyProof.Rows PySem.W PySem.W.X PySem.Builtin.Str
noncomputable def tgtOf : Stmt → Expr
  | .AugAssign t _ _ _ => t
  | _ => .Constant .none 0 default
noncomputable def S_pc (W : Wd) (m : Nat) : Sp (BB W) :=
  let B := BB W
  { d := 100
    c := fun q => .compLoop (kids (tgtOf (rkS W.w [4, 0, 0])) [1, 1]) 0 (.ref (q.a 2)) (.ref (q.a 3)) (compEnv (kids (tgtOf (rkS W.w [4, 0, 0])) [1, 1]) (rkEnv W.w (q.a 1) 0) (q.a 0) [(s_taken, (q.a 4))])
    P := fun q => PcP (q.i 0) (q.i 1) (q.i 2) (q.l 0) m
    pre := fun q => [((q.a 0),dictO [kv B s_row (q.t 0) (q.v 0)] 1),((q.a 2),fieldsO tRG [(.int (q.i 0) (q.t 1)),(.int (q.i 1) (q.t 2)),(.int 1 (q.t 3))]),((q.a 3),listO (q.l 0) (q.t 4)),((q.a 4),cellO (.int (q.i 2) (q.t 5)))]
    R := fun q e => PcR (q.i 0) (q.i 1) (q.i 2) (q.l 0) (e.l 0)
    res := fun q e => .ok .next
    out := fun q e => [((q.a 0),dictO [kv B s_row (q.t 0) (e.v 0)] 1),((q.a 3),listO (e.l 0) (e.t 0)),((q.a 4),cellO (.int (q.i 2) (q.t 5)))] }
noncomputable def on_pc : Code → View → Lt := fun c V => lt [(cEnv c).locals,envFrame (cEnv c),valA (cIt c),valA (cAcc c),envCell 0 (cEnv c)] [kT V 0 0,qT V 1 0,qT V 1 1,qT V 1 2,eP V 2,cT V 3] [qI V 1 0,qI V 1 1,valI (cellV (nthO V 3))] [] [dV V 0 0] [sQ V 2] []
noncomputable def S_pcf (W : Wd) (m : Nat) : Sp (BB W) :=
  let B := BB W
  { d := 100
    c := fun q => .compLoop (kids (tgtOf (rkS W.w [4, 0, 0])) [1, 1]) 0 (.ref (q.a 2)) (.ref (q.a 3)) (compEnv (kids (tgtOf (rkS W.w [4, 0, 0])) [1, 1]) (rkEnv W.w (q.a 1) 0) (q.a 0) [(s_taken, (q.a 4))])
    P := fun q => PcP (q.i 0) (q.i 1) (q.i 2) (q.l 0) m ∧ 0 < (q.i 1)
    pre := fun q => [((q.a 0),dictO [] 0),((q.a 2),fieldsO tRG [(.int (q.i 0) (q.t 0)),(.int (q.i 1) (q.t 1)),(.int 1 (q.t 2))]),((q.a 3),listO (q.l 0) (q.t 3)),((q.a 4),cellO (.int (q.i 2) (q.t 4)))]
    R := fun q e => PcR (q.i 0) (q.i 1) (q.i 2) (q.l 0) (e.l 0)
    res := fun q e => .ok .next
    out := fun q e => [((q.a 0),dictO [kv B s_row (e.t 0) (e.v 0)] 1),((q.a 3),listO (e.l 0) (e.t 1)),((q.a 4),cellO (.int (q.i 2) (q.t 4)))] }
noncomputable def on_pcf : Code → View → Lt := fun c V => lt [(cEnv c).locals,envFrame (cEnv c),valA (cIt c),valA (cAcc c),envCell 0 (cEnv c)] [qT V 1 0,qT V 1 1,qT V 1 2,eP V 2,cT V 3] [qI V 1 0,qI V 1 1,valI (cellV (nthO V 3))] [] [] [sQ V 2] []
noncomputable def S_pca (W : Wd) (m : Nat) : Sp (BB W) := Sp.start (S_pcf W m)
noncomputable abbrev on_pca := on_pcf
theorem pc_end (W : Wd) (O : (BB W).Ok) (m : Nat) (q : Lt) (hq : (S_pc W m).P q) (hl : (q.i 1) ≤ 0) : At (S_pc W m) 100 q := by
  refine tri_f O (stdR _) [] 2000 100 (hs := [0,2,0,2,6,0,2,2,2,1]) (is := [2,3,3])
    (fun (ρ : Rho) => ob hl <| fin (S_pc W m) q (lt [] [(q.t 4)] [] [] [(q.v 0)] [(q.l 0)] []) ((hq.fin hl)) :) ?_
  induction W using y_0 <;> kernel_rfl
theorem pc_s (W : Wd) (O : (BB W).Ok) (m : Nat) (ih : (S_pc W m).Ok) (q : Lt) (hq : (S_pc W (m + 1)).P q) (hl : 0 < (q.i 1)) : At (S_pc W (m + 1)) 100 q := by
  refine tri_f O (stdR _) [U (S_pc W m) ih on_pc] 2000 100 (hs := hx 35 0x400309e0830180805c2001101042082082082046080080) (is := [0,0,0])
    (fun (ρ : Rho) => ob (A := (rngD (It.mk (Value.ref (q.a 2)) (q.i 0) (q.i 1) (1 : Int) #[]) (1))) (hl) <| ob (A := ((0 : Int) ≤ q.i 0)) (hq.rg.c0) <| ob (A := (True)) (trivial) <| ob (A := (List.length (q.l 0) ≤ sizeLine)) (hq.ob) <| ob (A := (PcP (q.i 0 + 1 : Int) (q.i 1 - 1 : Int) (q.i 2) (q.l 0++[Value.int (bAnd (Int.fdiv (q.i 2) (2 ^ (q.i 0).toNat)) 1) (ρ.n 4)]) m)) (hq.next hl) <| fun he0 : PcR (q.i 0 + 1 : Int) (q.i 1 - 1 : Int) (q.i 2) (q.l 0++[Value.int (bAnd (Int.fdiv (q.i 2) (2 ^ Int.toNat (q.i 0))) 1) (ρ.n 4)]) ((ρ.2 0).l 0) => fin (S_pc W (m + 1)) q (lt [] [(ρ.2 0).2 0] [] [] [(ρ.2 0).5 0] [(ρ.2 0).6 0] []) ((hq.step hl he0)) :) ?_
  induction W using y_0 <;> kernel_rfl
theorem pcf_s (W : Wd) (O : (BB W).Ok) (m : Nat) (ih : (S_pc W m).Ok) (q : Lt) (hq : (S_pcf W (m + 1)).P q) (hl : 0 < (q.i 1)) : At (S_pcf W (m + 1)) 100 q := by
  refine tri_f O (stdR _) [U (S_pc W m) ih on_pc] 2000 100 (hs := hx 35 0x400309e0830180805c2001101042082082082046080080) (is := [0,0,0])
    (fun (ρ : Rho) => ob (A := (rngD (It.mk (Value.ref (q.a 2)) (q.i 0) (q.i 1) (1 : Int) #[]) (1))) (hl) <| ob (A := ((0 : Int) ≤ q.i 0)) (hq.1.rg.c0) <| ob (A := (True)) (trivial) <| ob (A := (List.length (q.l 0) ≤ sizeLine)) (hq.1.ob) <| ob (A := (PcP (q.i 0 + 1 : Int) (q.i 1 - 1 : Int) (q.i 2) (q.l 0++[Value.int (bAnd (Int.fdiv (q.i 2) (2 ^ (q.i 0).toNat)) 1) (ρ.n 4)]) m)) (hq.1.next hl) <| fun he0 : PcR (q.i 0 + 1 : Int) (q.i 1 - 1 : Int) (q.i 2) (q.l 0++[Value.int (bAnd (Int.fdiv (q.i 2) (2 ^ Int.toNat (q.i 0))) 1) (ρ.n 4)]) ((ρ.2 0).l 0) => fin (S_pcf W (m + 1)) q (lt [] [ρ.1 1,(ρ.2 0).2 0] [] [] [(ρ.2 0).5 0] [(ρ.2 0).6 0] []) ((hq.1.step hl he0)) :) ?_
  induction W using y_0 <;> kernel_rfl
theorem pc_ok (W : Wd) (O : (BB W).Ok) : ∀ m, (S_pc W m).Ok
  | 0 => fun q hq => pc_end W O 0 q hq hq.m0
  | m + 1 => fun q hq => by
    by_cases hl : (q.i 1) ≤ 0
    · exact pc_end W O (m + 1) q hq hl
    · exact pc_s W O m (pc_ok W O m) q hq (by lia)
theorem pcf_ok (W : Wd) (O : (BB W).Ok) (m : Nat) : (S_pcf W (m + 1)).Ok := fun q hq => by
  exact pcf_s W O m (pc_ok W O m) q hq hq.2
theorem pca_true (W : Wd) (O : (BB W).Ok) (m : Nat) (q : Lt) (hq : (S_pca W (m + 1)).P q) (hb : W.b2 = true) : At (S_pca W (m + 1)) 100 q := by
  refine tri_f O (stdR _) [U (S_pcf W (m + 1)) (pcf_ok W O m) on_pcf] 2000 100 (hs := [0,3,0,4,0,0,0,0]) (is := [0,0,0])
    (fun (ρ : Rho) => ob hq <| fun he0 : PcR (q.i 0) (q.i 1) (q.i 2) (q.l 0) ((ρ.2 0).l 0) => fin (S_pca W (m + 1)) q (lt [] [(ρ.2 0).2 0,(ρ.2 0).2 1] [] [] [(ρ.2 0).5 0] [(ρ.2 0).6 0] []) (he0) :) ?_
  induction W, hb using y_true <;> kernel_rfl
theorem pca_false (W : Wd) (O : (BB W).Ok) (m : Nat) (q : Lt) (hq : (S_pca W (m + 1)).P q) (hb : W.b2 = false) : At (S_pca W (m + 1)) 100 q := by
  refine tri_f O (stdR _) [U (S_pcf W (m + 1)) (pcf_ok W O m) on_pcf] 2000 100 (hs := hx 14 0x1000c2002002080) (is := [0,0,0])
    (fun (ρ : Rho) => ob hq <| fun he0 : PcR (q.i 0) (q.i 1) (q.i 2) (q.l 0) ((ρ.2 0).l 0) => fin (S_pca W (m + 1)) q (lt [] [(ρ.2 0).2 0,(ρ.2 0).2 1] [] [] [(ρ.2 0).5 0] [(ρ.2 0).6 0] []) (he0) :) ?_
  induction W, hb using y_false <;> kernel_rfl
theorem pca_ok (W : Wd) (O : (BB W).Ok) (m : Nat) : (S_pca W (m + 1)).Ok := fun q hq => by
  cases hb : W.b2 with
  | true => exact pca_true W O m q hq hb
  | false => exact pca_false W O m q hq hb
noncomputable def S_td (W : Wd) (m : Nat) : Sp (BB W) :=
  let B := BB W
  { d := 120
    c := fun q => forC (rkS W.w [4]) (q.a 2) (rkEnv W.w (q.a 0) (q.a 1))
    P := fun q => TdP (q.i 1) (q.i 2) (q.i 0) (q.l 0) (q.l 1) m ∧ 0 < (q.i 0)
    pre := fun q => [((q.a 0),frameO [kv B s_heights (q.t 0) (q.v 0),kv B s_size (q.t 1) (.int (q.i 0) (q.t 2)),kv B s_ways (q.t 3) (.ref (q.a 3)),kv B s_column (q.t 4) (q.v 1),kv B s_further (q.t 5) (q.v 2),kv B s_row (q.t 6) (q.v 3),kv B s_told (q.t 7) (.ref (q.a 4))] 7),((q.a 1),cellO (q.v 4)),((q.a 2),fieldsO tRG [(.int (q.i 1) (q.t 8)),(.int (q.i 2) (q.t 9)),(.int 1 (q.t 10))]),((q.a 3),listO (q.l 0) (q.t 11)),((q.a 4),listO (q.l 1) (q.t 12))]
    R := fun q e => TdR (q.i 1) (q.i 2) (q.i 0) (q.l 0) (q.l 1) (e.l 0)
    res := fun q e => .ok .next
    out := fun q e => [((q.a 0),frameO [kv B s_heights (q.t 0) (q.v 0),kv B s_size (q.t 1) (.int (q.i 0) (q.t 2)),kv B s_ways (q.t 3) (.ref (q.a 3)),kv B s_column (q.t 4) (q.v 1),kv B s_further (q.t 5) (q.v 2),kv B s_row (q.t 6) (q.v 3),kv B s_told (q.t 7) (.ref (q.a 4))] 7),((q.a 1),cellO (e.v 0)),((q.a 3),listO (q.l 0) (q.t 11)),((q.a 4),listO (e.l 0) (e.t 0))] }
noncomputable def on_td : Code → View → Lt := fun c V => lt [(cEnv c).locals,envCell 0 (cEnv c),valA (cIt c),dA V 0 2,dA V 0 6] [kT V 0 0,kT V 0 1,dT V 0 1,kT V 0 2,kT V 0 3,kT V 0 4,kT V 0 5,kT V 0 6,qT V 2 0,qT V 2 1,qT V 2 2,eP V 3,eP V 4] [dI V 0 1,qI V 2 0,qI V 2 1] [] [dV V 0 0,dV V 0 3,dV V 0 4,dV V 0 5,cellV (nthO V 1)] [sQ V 3,sQ V 4] []
theorem td_end (W : Wd) (O : (BB W).Ok) (m : Nat) (q : Lt) (hq : (S_td W m).P q) (hl : (q.i 2) ≤ 0) : At (S_td W m) 120 q := by
  refine tri_f O (stdR _) [] 2000 120 (hs := [0,3,0,3,6,0,3,3,3,1,0]) (is := [2,2,3,3])
    (fun (ρ : Rho) => ob hl <| fin (S_td W m) q (lt [] [(q.t 12)] [] [] [(q.v 4)] [(q.l 1)] []) ((hq.1.fin hl)) :) ?_
  induction W using y_0 <;> kernel_rfl
theorem td_step (W : Wd) (O : (BB W).Ok) (m : Nat) (ih : (S_td W m).Ok) (q : Lt) (hq : (S_td W (m + 1)).P q) (hl : 0 < (q.i 2)) : At (S_td W (m + 1)) 120 q := by
  refine tri_f O (stdR _) [U (S_pca W (8 + 1)) (pca_ok W O 8) on_pca,U (S_td W m) ih on_td] 2000 120 (hs := hx 90 0xc30c21050430478422002080000468021c01c71c31411e0088008201a420010410800401000c10270810010410010010400000010000000420830c30c30c30460c00c0) (is := [0,0,0,0])
    (fun (ρ : Rho) => let z0 := Int.toNat (sumV ((ρ.2 0).l 0)); ob hl <| ob hq.1.rgo <| ob (hq.1.pc hq.2) <| fun he0 : PcR (0 : Int) (rlen 0 (q.i 0) : Int) (q.i 1) ([] : List Value) ((ρ.2 0).l 0) => ob he0.xa <| ob (hq.1.gt he0) <| ob (hq.1.gw hl) <| ob ((hq.1.gt he0).1) <| ob (A := (TdP (q.i 1 + 1 : Int) (q.i 2 - 1 : Int) (q.i 0) (q.l 0) (setV (q.l 1) z0 (Value.int (shI (itemAt (q.l 1) z0) + shI (itemAt (q.l 0) ((q.i 1).toNat))) (ρ.n 8))) m ∧ 0 < (q.i 0))) (⟨(hq.1.next hl _ _ _),hq.2⟩) <| fun he1 : TdR (q.i 1 + 1 : Int) (q.i 2 - 1 : Int) (q.i 0) (q.l 0) (setV (q.l 1) z0 (Value.int (shI (itemAt (q.l 1) z0) + shI (itemAt (q.l 0) (Int.toNat (q.i 1)))) (ρ.n 8))) ((ρ.2 1).l 0) => fin (S_td W (m + 1)) q (lt [] [(ρ.2 1).2 0] [] [] [(ρ.2 1).5 0] [(ρ.2 1).6 0] []) ((hq.1.step hl he0 he1)) :) ?_
  induction W using y_0 <;> kernel_rfl
theorem td_ok (W : Wd) (O : (BB W).Ok) : ∀ m, (S_td W m).Ok
  | 0 => fun q hq => td_end W O 0 q hq hq.1.m0
  | m + 1 => fun q hq => by
    by_cases hl : (q.i 2) ≤ 0
    · exact td_end W O (m + 1) q hq hl
    · exact td_step W O m (td_ok W O m) q hq (by lia)
end Mine
end
section

namespace Mine
open PySem PySem.Spec PySem.Calls PyProof.Rows PySem.W PySem.W.X PySem.Builtin.Str
noncomputable def S_rk (W : Wd) : Sp (BB W) :=
  let B := BB W
  { d := 130
    c := fun q => .call (.ref 151) ⟨[.ref (q.a 0)], []⟩
    P := fun q => RkP (q.l 0)
    pre := fun q => [((q.a 0),listO (q.l 0) (q.t 0))]
    R := fun q e => RkR (q.l 0) (e.l 0)
    res := fun q e => .ok (.ret (.ref (e.a 0)))
    out := fun q e => [((e.a 0),listO (e.l 0) (e.t 0)),((q.a 0),listO (q.l 0) (q.t 0))] }
noncomputable def on_rk : Code → View → Lt := fun c V => lt [valA (nthV (cPos c) 0)] [eP V 0] [] [] [] [sQ V 0] []
theorem rk_run (W : Wd) (O : (BB W).Ok) (q : Lt) (hq : (S_rk W).P q) : At (S_rk W) 130 q := by
  refine tri_f O (stdR _) [U (S_clf W (8 + 1)) (clf_ok W O 8) on_clf,U (S_td W 16) (td_ok W O 16) on_td] 2000 130 (hs := hx 127 0x10440041050430409c20400410400400410000007020030000c30008820400410000400020450061c50030409c20400410400400410000001aa0801800000061800ab08300304300088204004100004001c080102082742002000002080001) (is := [3,5])
    (fun (ρ : Rho) => let z0 := repV [Value.int 0 (ρ.1 21)] (((q.l 0).length : Int) + 1).toNat; let z1 : Int := rlen 0 (2 ^ Int.toNat ↑(List.length (q.l 0))); let z2 : Int := rlen 0 (maxV (q.l 0)); ob hq.len <| ob hq.pw <| ob (A := ((0 : Int) ≤ (2 : Int) ^ Int.toNat ↑(List.length (q.l 0)) - (1 : Int) ∧ (2 : Int) ^ Int.toNat ↑(List.length (q.l 0)) - (1 : Int) ≤ ↑sizeLine ∧ List.length ([Value.int (0 : Int) (ρ.1 7)]++[]) * Int.toNat ((2 : Int) ^ Int.toNat ↑(List.length (q.l 0)) - (1 : Int)) ≤ sizeLine ∧ [Value.int (0 : Int) (ρ.1 7)]++[] ≠ [])) (hq.mul _) <| ob (A := (List.length ([Value.int (1 : Int) (ρ.1 5)]++[]) + List.length (repV ([Value.int (0 : Int) (ρ.1 7)]++[]) (Int.toNat ((2 : Int) ^ Int.toNat ↑(List.length (q.l 0)) - (1 : Int)))) ≤ sizeLine)) (hq.add _ _) <| ob hq.mxo <| ob hq.rgo <| ob (A := (ClF (0 : Int) z2 (↑(List.length (q.l 0)) : Int) (q.l 0) (([Value.int 1 (ρ.1 5)]++repV [Value.int 0 (ρ.1 7)] ((2 : Int) ^ ((q.l 0).length : Int).toNat - 1).toNat)) (8 + 1))) (hq.cl _ _) <| fun he0 : ClR (0 : Int) z2 (q.l 0) (([Value.int 1 (ρ.1 5)]++repV [Value.int 0 (ρ.1 7)] ((2 : Int) ^ ((q.l 0).length : Int).toNat - 1).toNat)) ((ρ.2 0).l 0) => ob (A := ((0 : Int) ≤ ↑(List.length (q.l 0)) + (1 : Int) ∧ ↑(List.length (q.l 0)) + (1 : Int) ≤ ↑sizeLine ∧ List.length ([Value.int (0 : Int) (ρ.1 21)]++[]) * Int.toNat (↑(List.length (q.l 0)) + (1 : Int)) ≤ sizeLine ∧ [Value.int (0 : Int) (ρ.1 21)]++[] ≠ [])) (hq.mul2 _) <| ob hq.pw <| ob (A := ((1 : Int) = (1 : Int) ∧ (-(2 : Int) ^ 62 ≤ (0 : Int) ∧ (0 : Int) < (2 : Int) ^ 62) ∧ -(2 : Int) ^ 62 ≤ (2 : Int) ^ Int.toNat ↑(List.length (q.l 0)) ∧ (2 : Int) ^ Int.toNat ↑(List.length (q.l 0)) < (2 : Int) ^ 62)) (rng_pw rfl hq.h4) <| ob (A := (TdP (0 : Int) z1 (↑(List.length (q.l 0)) : Int) ((ρ.2 0).l 0) (z0) 16 ∧ 0 < (↑(List.length (q.l 0)) : Int))) (⟨(hq.td (hq.w0len _ _) _ he0),hq.s1⟩) <| fun he1 : TdR (0 : Int) z1 (↑(List.length (q.l 0)) : Int) ((ρ.2 0).l 0) (z0) ((ρ.2 1).l 0) => fin (S_rk W) q (lt [ρ.1 25] [(ρ.2 1).2 0] [] [] [] [(ρ.2 1).6 0] []) ((hq.res _ _ _ he0 he1)) :) ?_
  induction W using y_0 <;> kernel_rfl
theorem rk_ok (W : Wd) (O : (BB W).Ok) : (S_rk W).Ok := fun q hq => rk_run W O q hq
end Mine
end
section
namespace Mine
open PySem PySem.Spec PySem.Calls PyProof.Rows PySem.W PySem.W.X PySem.Builtin PySem.Builtin.Str PySem.StrLaws
noncomputable def goOcc (s sub : Str) (hi : Nat) : Nat → Nat → Nat → List Nat
  | 0, _, _ => []
  | m + 1, i, free => if (free ≤ i ∧ i + sub.length ≤ hi) ∧ subAt s sub i = true then i :: goOcc s sub hi m (i + 1) (i + sub.length) else goOcc s sub hi m (i + 1) free
theorem occ_go (s sub : Str) (hi limit : Nat) : ∀ (m i free : Nat) (found : Array Nat), found.size + m ≤ limit → (forIn (List.range' i m) (found, free) (occBody s sub hi limit)).run.fst.toList = found.toList ++ goOcc s sub hi m i free
  | 0, i, free, found, _ => by simp [goOcc, List.range']
  | m + 1, i, free, found, h => by
    rw [List.range'_succ, List.forIn_cons, goOcc]
    unfold occBody
    by_cases hc : (free ≤ i ∧ i + sub.length ≤ hi) ∧ subAt s sub i = true
    · rw [if_pos ⟨⟨⟨by show found.size < limit; lia, hc.1.1⟩, hc.1.2⟩, hc.2⟩, if_pos hc]
      exact (occ_go s sub hi limit m (i + 1) (i + sub.length) (found.push i) (by simp; lia)).trans (by simp)
    · rw [if_neg (fun x => hc ⟨⟨x.1.1.2, x.1.2⟩, x.2⟩), if_neg hc]
      exact occ_go s sub hi limit m (i + 1) free found (by lia)
theorem occ_is (s sub : Str) : occurrences s sub 0 s.length (s.length + 1) = goOcc s sub s.length (s.length + 1) 0 0 := by
  rw [occ_eq, occ_go _ _ _ _ _ _ _ _ (by simp)]
  simp
theorem goOcc_free (s sub : Str) (hi : Nat) : ∀ (m i f f' : Nat), f ≤ i → f' ≤ i → goOcc s sub hi m i f = goOcc s sub hi m i f'
  | 0, _, _, _, _, _ => rfl
  | m + 1, i, f, f', h, h' => by
    rw [goOcc, goOcc]
    by_cases hc : i + sub.length ≤ hi ∧ subAt s sub i = true
    · rw [if_pos ⟨⟨h, hc.1⟩, hc.2⟩, if_pos ⟨⟨h', hc.1⟩, hc.2⟩]
    · rw [if_neg (fun x => hc ⟨x.1.2, x.2⟩), if_neg (fun x => hc ⟨x.1.2, x.2⟩), goOcc_free s sub hi m (i + 1) f f' (by lia) (by lia)]
theorem goOcc_one (s : Str) (c : Nat) : ∀ (m i : Nat), i + m = s.length + 1 → i ≤ s.length → (goOcc s ⟨#[c]⟩ s.length m i i).length = (s.cps.toList.drop i).count c
  | 0, i, h, h2 => by lia
  | m + 1, i, h, h2 => by
    rw [goOcc]
    have hl : s.cps.toList.length = s.length := by simp; rfl
    have one : (⟨#[c]⟩ : Str).length = 1 := rfl
    rw [one]
    by_cases hi : i = s.length
    · subst hi
      rw [if_neg (by lia)]
      have : m = 0 := by lia
      subst this
      rw [List.drop_eq_nil_of_le (by lia)]
      rfl
    · have e : s.cps.toList.drop i = s.cps.toList[i]'(by lia) :: s.cps.toList.drop (i + 1) := List.drop_eq_getElem_cons (by lia)
      have hs := subAt_one s c i
      rw [one] at hs
      rw [e, List.count_cons]
      by_cases hc : s.cps.toList[i]'(by lia) = c
      · have := hs.mpr (by rw [List.getElem?_eq_getElem (by lia), hc])
        rw [if_pos ⟨⟨Nat.le_refl _, this.1⟩, this.2⟩, List.length_cons, goOcc_one s c m (i + 1) (by lia) (by lia), hc]
        simp
      · rw [if_neg (fun x => hc (by have := hs.mp ⟨x.1.2, x.2⟩; rw [List.getElem?_eq_getElem (by lia)] at this; exact Option.some.inj this)), goOcc_free s _ _ m (i + 1) i (i + 1) (by lia) (Nat.le_refl _), goOcc_one s c m (i + 1) (by lia) (by lia)]
        simp
        simpa using hc
  termination_by m => m
theorem count_one (s : Str) (c : Nat) : (occurrences s ⟨#[c]⟩ 0 s.length (s.length + 1)).length = s.cps.toList.count c := by
  rw [occ_is, goOcc_one s c _ _ (by lia) (Nat.zero_le _), List.drop_zero]
noncomputable def Pl (w : List Nat) : Prop := ∀ c ∈ w, c ≠ 10 ∧ c ≠ 13
theorem Pl.tail {c : Nat} {w : List Nat} (h : Pl (c :: w)) : Pl w := fun x hx => h x (.tail _ hx)
theorem Pl.eol {c : Nat} {w : List Nat} (h : Pl (c :: w)) : eol c = false := by
  obtain ⟨h1, h2⟩ := h c (.head _)
  unfold Mine.eol
  simp [h1, h2]
theorem crlf_pre : ∀ (w r : List Nat), Pl w → crlf (w ++ r) = w ++ crlf r
  | [], r, _ => rfl
  | c :: w, r, h => by rw [List.cons_append, crlf_plain h.eol, crlf_pre w r h.tail]; rfl
theorem dots_pre : ∀ (w r : List Nat), Pl w → dots false (w ++ r) = w ++ dots false r
  | [], r, _ => rfl
  | c :: w, r, h => by
    have : (c == 10) = false := by simpa using (h c (.head _)).1
    rw [List.cons_append, dots, if_neg (by simp), this, dots_pre w r h.tail]; rfl
theorem dots_head (w r : List Nat) (h : Pl w) : dots true (46 :: w ++ r) = 46 :: 46 :: (w ++ dots false r) := by
  rw [List.cons_append, dots, if_pos (by rfl)]
  show 46 :: 46 :: dots false (w ++ r) = _
  rw [dots_pre w r h]
theorem dots_end (r : List Nat) : dots false (13 :: 10 :: r) = 13 :: 10 :: dots true r := by
  rw [dots, if_neg (by simp)]
  show 13 :: dots false (10 :: r) = _
  rw [dots, if_neg (by simp)]
  rfl
noncomputable def joinL (sep : List Nat) : List (List Nat) → List Nat
  | [] => []
  | [w] => w
  | w :: v :: ws => w ++ sep ++ joinL sep (v :: ws)
noncomputable def Wd1 (w : List Nat) : Prop := ∃ w', w = 46 :: w' ∧ Pl w'
theorem Wd1.pl {w : List Nat} (h : Wd1 w) : Pl w := by
  obtain ⟨w', rfl, h⟩ := h
  intro c hc
  rcases List.mem_cons.mp hc with rfl | hc
  · decide
  · exact h c hc
theorem join_sL (sep : Str) : ∀ ws : List (List Nat), Txt.join sep (ws.map sL) = sL (joinL sep.cps.toList ws) := by
  intro ws
  show glued sep (ws.map sL) = _
  rw [glued_eq_join]
  induction ws with
  | nil => rfl
  | cons w ws ih =>
    cases ws with
    | nil => rfl
    | cons v ws =>
      show sL w ++ sep ++ Str.join sep ((v :: ws).map sL) = _
      rw [ih, joinL]
      apply Str.ext'
      apply Array.ext'
      simp [sL, Str.cps_append]
end Mine
end
section
namespace Mine
open PySem PySem.Spec PySem.Calls PyProof.Rows PySem.W PySem.W.X PySem.Builtin PySem.Builtin.Str PySem.Builtin.Int PySem.StrLaws
theorem AllStr.app {l m : List Value} (h : AllStr l) (h' : AllStr m) : AllStr (l ++ m) := fun x hx => by
  rcases List.mem_append.mp hx with hx | hx
  · exact h x hx
  · exact h' x hx
theorem AllStr.one (x : Str) (t : Tok) : AllStr [.str x t] := fun v hv => by
  rcases List.mem_cons.mp hv with rfl | hv
  · rfl
  · simp at hv
theorem AllStr.nil : AllStr [] := fun v hv => by simp at hv
theorem item_mem {l : List Value} {i : Nat} (hi : i < l.length) : itemAt l i ∈ l := List.mem_of_getElem? (itemAt_eq hi)
theorem drop_item {ys : List Value} {i : Int} (h0 : 0 ≤ i) (hi : i.toNat < ys.length) : ys.drop i.toNat = itemAt ys i.toNat :: ys.drop (i + 1).toNat := by
  have h3 := itemAt_eq hi
  rw [List.getElem?_eq_getElem hi] at h3
  rw [List.drop_eq_getElem_cons hi, Option.some.inj h3, show (i + 1).toNat = i.toNat + 1 by lia]
inductive Fa2 (g : Value → Value → Prop) : List Value → List Value → Prop where
  | nil : Fa2 g [] []
  | cons {v w : Value} {l m : List Value} : g v w → Fa2 g l m → Fa2 g (v :: l) (w :: m)
structure MpP (Q : Value → Prop) (i : Int) (ys xs : List Value) (m : Nat) : Prop where
  i0 : 0 ≤ i
  im : (ys.length : Int) ≤ i + m
  yl : ys.length ≤ 100
  qa : ∀ v ∈ ys, Q v
  xl : xs.length + ys.length ≤ 500 + i.toNat
  il : i ≤ ys.length
structure MpR (g : Value → Value → Prop) (i : Int) (ys xs xs' : List Value) : Prop where
  ex : ∃ zs, xs' = xs ++ zs ∧ Fa2 g (ys.drop i.toNat) zs
noncomputable def isIv (v : Value) : Prop := v = .int (shI v) (shT v)
noncomputable def isSv (v : Value) : Prop := v = .str (shS v) (shT v)
noncomputable def isRv (v : Value) : Prop := isSv v ∧ (shS v).length ≤ 10
noncomputable def gI (f : Int → Int) (v w : Value) : Prop := ∃ t, w = .int (f (shI v)) t
noncomputable def gS (f : Int → Str) (v w : Value) : Prop := ∃ t, w = .str (f (shI v)) t
noncomputable def gC (v w : Value) : Prop := ∃ t, w = .int (cntS (shS v) ⟨#[46]⟩) t
noncomputable def undot (x : Str) : Str := sL (match x.cps.toList with
  | 46 :: l => l
  | l => l)
noncomputable def gU (v w : Value) : Prop := ∃ t, w = .str (undot (shS v)) t
section
variable {Q : Value → Prop} {g : Value → Value → Prop} {i : Int} {ys xs xs' : List Value} {m : Nat}
theorem MpP.m0 (h : MpP Q i ys xs 0) : ys.length ≤ i.toNat := by have := h.im; have := h.i0; lia
theorem MpP.fin (h : MpP Q i ys xs m) (hi : ys.length ≤ i.toNat) : MpR g i ys xs xs := ⟨[], by simp, by rw [List.drop_eq_nil_of_le hi]; exact .nil⟩
theorem MpP.item (h : MpP Q i ys xs m) (hQ : ∀ {v}, Q v → isIv v) (hi : i.toNat < ys.length) : itemAt ys i.toNat = .int (shI (itemAt ys i.toNat)) (shT (itemAt ys i.toNat)) ∧ i.toNat < ys.length := ⟨hQ (h.qa _ (item_mem hi)), hi⟩
theorem MpP.itemS (h : MpP Q i ys xs m) (hQ : ∀ {v}, Q v → isSv v) (hi : i.toNat < ys.length) : itemAt ys i.toNat = .str (shS (itemAt ys i.toNat)) (shT (itemAt ys i.toNat)) ∧ i.toNat < ys.length := ⟨hQ (h.qa _ (item_mem hi)), hi⟩
theorem MpP.q (h : MpP Q i ys xs m) (hi : i.toNat < ys.length) : Q (itemAt ys i.toNat) := h.qa _ (item_mem hi)
theorem MpP.ob (h : MpP Q i ys xs m) : xs.length ≤ sizeLine := by have := h.xl; have := h.il; have := h.i0; have := h.yl; have := line1k; lia
theorem MpP.next (h : MpP Q i ys xs (m + 1)) (hi : i.toNat < ys.length) {v : Value} : MpP Q (i + 1) ys (xs ++ [v]) m := by
  have := h.xl; have := h.i0; have := h.im
  exact ⟨by lia, by lia, h.yl, h.qa, by simp; lia, by lia⟩
theorem MpP.step (h : MpP Q i ys xs (m + 1)) (hi : i.toNat < ys.length) {v : Value} (hg : g (itemAt ys i.toNat) v) (r : MpR g (i + 1) ys (xs ++ [v]) xs') : MpR g i ys xs xs' := by
  obtain ⟨zs, e, hz⟩ := r.ex
  refine ⟨v :: zs, by rw [e]; simp, ?_⟩
  rw [drop_item h.i0 hi]
  exact .cons hg hz
end
theorem Fa2.len {g : Value → Value → Prop} {l m : List Value} (h : Fa2 g l m) : m.length = l.length := by
  induction h with
  | nil => rfl
  | cons _ _ ih => simp [ih]
theorem Fa2.ints {f : Int → Int} {l m : List Value} (h : Fa2 (gI f) l m) : AllInt m ∧ intsV m = (intsV l).map f := by
  induction h with
  | nil => exact ⟨AllInt.nil, rfl⟩
  | cons h _ ih =>
    obtain ⟨t, rfl⟩ := h
    exact ⟨(AllInt.one _ _).app ih.1, by rw [intsV, intsV, ih.2]; rfl⟩
theorem Fa2.strs {f : Int → Str} {l m : List Value} (h : Fa2 (gS f) l m) : AllStr m ∧ m.map shS = (intsV l).map f := by
  induction h with
  | nil => exact ⟨AllStr.nil, rfl⟩
  | cons h _ ih =>
    obtain ⟨t, rfl⟩ := h
    exact ⟨(AllStr.one _ _).app ih.1, by rw [intsV, List.map_cons, List.map_cons, ih.2]; rfl⟩
theorem Fa2.cnts {l m : List Value} (h : Fa2 gC l m) : AllInt m ∧ intsV m = (l.map shS).map (fun x => (cntS x ⟨#[46]⟩ : Int)) := by
  induction h with
  | nil => exact ⟨AllInt.nil, rfl⟩
  | cons h _ ih =>
    obtain ⟨t, rfl⟩ := h
    exact ⟨(AllInt.one _ _).app ih.1, by rw [intsV, List.map_cons, List.map_cons, ih.2]; rfl⟩
theorem Fa2.undots {l m : List Value} (h : Fa2 gU l m) : AllStr m ∧ m.map shS = (l.map shS).map undot := by
  induction h with
  | nil => exact ⟨AllStr.nil, rfl⟩
  | cons h _ ih =>
    obtain ⟨t, rfl⟩ := h
    exact ⟨(AllStr.one _ _).app ih.1, by rw [List.map_cons, List.map_cons, List.map_cons, ih.2]; rfl⟩
noncomputable def mod6 (x : Int) : Int := x.fmod ((10 : Int) ^ (6 : Int).toNat)
noncomputable def hgt (x : Int) : Int := 1 + x.fmod 3
noncomputable def tlS (x : Int) : Str := chAt ⟨#[97, 34, 92, 32]⟩ ((x.fdiv 3).fmod 4)
noncomputable def sepL : Int → List Nat
  | 0 => [10]
  | 1 => [13]
  | _ => [13, 10]
noncomputable def enS (x : Int) : Str := sL (sepL ((x.fdiv 12).fmod 3))
noncomputable def rmL (f : Int → Str) : Nat → Int → List Str
  | 0, _ => []
  | m + 1, k => f k :: rmL f m (k + 1)
structure RmR (f : Int → Str) (cur left : Int) (xs xs' : List Value) : Prop where
  xa : AllStr xs'
  xm : xs'.map shS = xs.map shS ++ rmL f left.toNat cur
structure MlP (cur left : Int) (hs ts es xs : List Value) (m : Nat) : Prop where
  rg : RgP cur left m
  cl : cur + left = hs.length
  h4 : hs.length ≤ 4
  tl : ts.length = hs.length
  el : es.length = hs.length
  ha : AllInt hs
  hb : ∀ v ∈ hs, 0 ≤ shI v ∧ shI v ≤ 5
  ta : AllStr ts
  t2 : ∀ v ∈ ts, (shS v).length ≤ 2
  ea : AllStr es
  e2 : ∀ v ∈ es, (shS v).length ≤ 2
  xa : AllStr xs
  xl : xs.length + left.toNat ≤ 1000
structure WcP (o cur left : Int) (hs ts xs : List Value) (m : Nat) : Prop where
  ml : MlP cur left hs ts ts xs m
  ob : 1 ≤ o ∧ o ≤ 2
noncomputable def mlF (hs ts es : List Value) (k : Int) : Str := repS ⟨#[46]⟩ (shI (itemAt hs k.toNat)) ++ ⟨#[92]⟩ ++ shS (itemAt ts k.toNat) ++ shS (itemAt es k.toNat)
noncomputable def wcF (o : Int) (hs ts : List Value) (k : Int) : Str := repS ⟨#[46]⟩ (shI (itemAt hs k.toNat) + o) ++ shS (itemAt ts k.toNat)
structure QtP (cur left : Int) (s : Str) (m : Nat) : Prop where
  rg : RgP cur left m
  sl : s.length * 4 ^ left.toNat ≤ 10000
noncomputable def quotN : Nat → Str → Str
  | 0, s => s
  | n + 1, s => quotN n (quoted s)
structure QtR (left : Int) (s s' : Str) : Prop where
  e : s' = quotN left.toNat s
inductive Rd : List Nat → List (List Nat) → List Nat → Prop where
  | nil {l : List Nat} : Rd l [] l
  | cons {l l1 tk rest : List Nat} {ws : List (List Nat)} : Lx1 l tk l1 → Rd l1 ws rest → Rd l (tk :: ws) rest
structure WoP (text : Str) (p left : Int) (xs : List Value) (l : List Nat) (ws : List (List Nat)) : Prop where
  lw : left = ws.length
  gp : GP text p ⟨#[]⟩ l
  xa : AllStr xs
  xl : xs.length + ws.length ≤ 1000
structure WoR (text : Str) (n : Int) (xs : List Value) (l : List Nat) (ws : List (List Nat)) (rest : List Nat) (p' n' : Int) (xs' : List Value) : Prop where
  xa : AllStr xs'
  xm : xs'.map shS = xs.map shS ++ ws.map sL
  p0 : 0 ≤ p'
  rm : rem text p' = rest
  nl : n' = n + nls l - nls rest
structure PrP (base cur left : Int) (rs : List Value) (m : Nat) : Prop where
  rg : RgP cur left m
  cl : cur + left = rs.length
  r1 : rs.length ≤ 100
  ra : AllInt rs
  rb : ∀ v ∈ rs, 0 ≤ shI v ∧ shI v ≤ 100
  b0 : 100 ≤ base
  b1 : base ≤ 2 ^ 59
noncomputable def prodI (base : Int) (rs : List Value) : Nat → Int → Int → Int
  | 0, _, n => n
  | m + 1, k, n => prodI base rs m (k + 1) (n * (base + shI (itemAt rs k.toNat) - k))
structure PrR (base cur left : Int) (rs : List Value) (n n' : Int) : Prop where
  e : n' = prodI base rs left.toNat cur n
noncomputable def hvI (X : Int) (w : List Value) (n : Int) : Nat → Int
  | 0 => 1
  | j + 1 => (X - (n - ((j : Int) + 1))) * hvI X w n j + shI (itemAt w (j + 1))
structure DwP (base cnt cur left x : Int) (ws : List Value) (m : Nat) : Prop where
  rg : RgP cur left m
  cl : cur + left = cnt
  c5 : cnt ≤ 5
  pw : ∃ e : Nat, 20 ≤ e ∧ e ≤ 59 ∧ base = 2 ^ e
  wa : AllInt ws
  wl : cnt < ws.length
  w1 : ws.length ≤ 100
  wb : ∀ v ∈ ws, 0 ≤ shI v ∧ shI v ≤ 1000
  xe : x = hvI base ws cnt left.toNat
structure DvP (base often cnt cur left x y : Int) (er la : List Value) (m : Nat) : Prop where
  dw : DwP base cnt cur left x la m
  ob : 1 ≤ often ∧ often ≤ 2
  ea : AllInt er
  el : cnt < er.length
  e1 : er.length ≤ 100
  eb : ∀ v ∈ er, 0 ≤ shI v ∧ shI v ≤ 1000
  ye : y = -hvI (base + often) er cnt left.toNat - 1
structure CmP (cur left : Int) (rl cl : List Value) (m : Nat) : Prop where
  rg : RgP cur left m
  ra : AllStr rl
  r1 : rl.length ≤ 4
  r0 : 0 < rl.length
  rb : ∀ v ∈ rl, (shS v).length ≤ 10
  ca : AllInt cl
  c1 : cl.length + left.toNat ≤ 100
noncomputable def dotN (l : List Str) : Int := ((quoted (Txt.join ⟨#[13, 10]⟩ l)).length : Int) - ((Txt.join ⟨#[13, 10]⟩ l).length : Int)
noncomputable def colsF : Nat → List Str → List Int
  | 0, _ => []
  | m + 1, l => dotN l :: colsF m (l.map undot)
structure CmR (left : Int) (rl cl cl' : List Value) : Prop where
  ca : AllInt cl'
  ce : intsV cl' = intsV cl ++ colsF left.toNat (rl.map shS)
structure L1P (xs : List Value) : Prop where
  xi : AllInt xs
  xl : xs.length ≤ 63
structure L1R (ds : List Value) : Prop where
  da : AllInt ds
  dl : ds.length = 3 ∨ ds.length = 4
noncomputable def oftF (tot : Int) : Int := 1 + tot.fmod 2
noncomputable def rowL (o : Nat) (x : Int) : List Nat := List.replicate ((hgt x).toNat + o) 46 ++ 92 :: (tlS x).cps.toList
noncomputable def txtL (o : Nat) : List Int → List Nat
  | [] => []
  | x :: l => rowL o x ++ 13 :: 10 :: txtL o l
noncomputable def wrdL (o : Nat) (x : Int) : List Nat := List.replicate ((hgt x).toNat + o) 46 ++ (tlS x).cps.toList
structure L2P (tot : Int) (ds : List Value) (l : List Nat) (ws : List (List Nat)) (rest : List Nat) : Prop where
  l1 : L1R ds
  hl : l = txtL (oftF tot).toNat (intsV ds)
  hw : ws = (intsV ds).map (wrdL (oftF tot).toNat)
  hr : rest = [10]
theorem fmod_bd (a : Int) {b : Int} (h : 0 < b) : 0 ≤ a.fmod b ∧ a.fmod b < b := ⟨Int.fmod_nonneg_of_pos a h, Int.fmod_lt_of_pos a h⟩
theorem p106 : (0 : Int) ≤ (6 : Int) ∧ ((10 : Int) = (-1 : Int) ∨ (2 : Int) ≤ (10 : Int)) ∧ (Builtin.Int.intBits (10 : Int) : Int) * (6 : Int) ≤ (2 : Int) ^ (27 : Nat) := by decide +kernel
theorem n106 : (10 : Int) ^ Int.toNat (6 : Int) ≠ (0 : Int) := by decide
theorem c30 : (3 : Int) ≠ 0 := by decide
theorem c40 : (4 : Int) ≠ 0 := by decide
theorem dv3 (a : Int) : (3 : Int) ≠ 0 ∧ Builtin.divisionGoesByPylong a 3 = false := ⟨by decide, noPy (k := 4) (by decide) (by decide)⟩
theorem dv12 (a : Int) : (12 : Int) ≠ 0 ∧ Builtin.divisionGoesByPylong a 12 = false := ⟨by decide, noPy (k := 4) (by decide) (by decide)⟩
theorem tl_ob (a : Int) : (0 : Int) ≤ (a.fdiv 3).fmod 4 ∧ ((a.fdiv 3).fmod 4).toNat < Str.length ⟨#[97, 34, 92, 32]⟩ ∧ Str.length ⟨#[97, 34, 92, 32]⟩ ≤ sizeLine := by
  have h := fmod_bd (a.fdiv 3) (b := 4) (by decide)
  exact ⟨h.1, by show _ < 4; lia, by show 4 ≤ _; decide⟩
theorem en_ob (a : Int) (b c d : Tok) : ((0 : Int) ≤ (a.fdiv 12).fmod 3 ∧ ((a.fdiv 12).fmod 3).toNat < ([Value.str ⟨#[10]⟩ b] ++ ([Value.str ⟨#[13]⟩ c] ++ ([Value.str ⟨#[13, 10]⟩ d] ++ []))).length ∧ ([Value.str ⟨#[10]⟩ b] ++ ([Value.str ⟨#[13]⟩ c] ++ ([Value.str ⟨#[13, 10]⟩ d] ++ []))).length ≤ sizeLine) ∧
    itemAt ([Value.str ⟨#[10]⟩ b] ++ ([Value.str ⟨#[13]⟩ c] ++ ([Value.str ⟨#[13, 10]⟩ d] ++ []))) ((a.fdiv 12).fmod 3).toNat = .str (shS (itemAt ([Value.str ⟨#[10]⟩ b] ++ ([Value.str ⟨#[13]⟩ c] ++ ([Value.str ⟨#[13, 10]⟩ d] ++ []))) ((a.fdiv 12).fmod 3).toNat)) (shT (itemAt ([Value.str ⟨#[10]⟩ b] ++ ([Value.str ⟨#[13]⟩ c] ++ ([Value.str ⟨#[13, 10]⟩ d] ++ []))) ((a.fdiv 12).fmod 3).toNat)) := by
  have h := fmod_bd (a.fdiv 12) (b := 3) (by decide)
  have h3 : ((a.fdiv 12).fmod 3).toNat = 0 ∨ ((a.fdiv 12).fmod 3).toNat = 1 ∨ ((a.fdiv 12).fmod 3).toNat = 2 := by lia
  refine ⟨⟨h.1, by show _ < 3; lia, by show 3 ≤ _; decide⟩, ?_⟩
  rcases h3 with h3 | h3 | h3 <;> rw [h3] <;> rfl
theorem MpP.nextE {Q : Value → Prop} {i : Int} {ys xs : List Value} {m : Nat} (h : MpP Q i ys xs (m + 1)) (hi : i.toNat < ys.length) (b c d : Tok) :
    MpP Q (i + 1) ys (xs ++ [.str (shS (itemAt ([Value.str ⟨#[10]⟩ b] ++ ([Value.str ⟨#[13]⟩ c] ++ ([Value.str ⟨#[13, 10]⟩ d] ++ []))) (((shI (itemAt ys i.toNat)).fdiv 12).fmod 3).toNat)) (shT (itemAt ([Value.str ⟨#[10]⟩ b] ++ ([Value.str ⟨#[13]⟩ c] ++ ([Value.str ⟨#[13, 10]⟩ d] ++ []))) (((shI (itemAt ys i.toNat)).fdiv 12).fmod 3).toNat))]) m := h.next hi
theorem en_g (v : Value) (b c d t : Tok) : gS enS v (.str (shS (itemAt ([Value.str ⟨#[10]⟩ b] ++ ([Value.str ⟨#[13]⟩ c] ++ ([Value.str ⟨#[13, 10]⟩ d] ++ []))) (((shI v).fdiv 12).fmod 3).toNat)) t) := by
  have h := fmod_bd ((shI v).fdiv 12) (b := 3) (by decide)
  have key : ∀ z : Int, 0 ≤ z → z < 3 → shS (itemAt ([Value.str ⟨#[10]⟩ b] ++ ([Value.str ⟨#[13]⟩ c] ++ ([Value.str ⟨#[13, 10]⟩ d] ++ []))) z.toNat) = sL (sepL z) := by
    intro z h0 h1
    have h3 : z = 0 ∨ z = 1 ∨ z = 2 := by lia
    rcases h3 with rfl | rfl | rfl <;> rfl
  exact ⟨t, congrArg (fun s => Value.str s t) (key _ h.1 h.2)⟩
end Mine
end
section

namespace Mine
open PySem PySem.Spec PySem.Calls PyProof.Rows PySem.W PySem.W.X PySem.Builtin.Str
noncomputable def s_script : Str := ⟨#[115, 99, 114, 105, 112, 116]⟩
noncomputable def s_drawn : Str := ⟨#[100, 114, 97, 119, 110]⟩
noncomputable def s_total : Str := ⟨#[116, 111, 116, 97, 108]⟩
noncomputable def s_often : Str := ⟨#[111, 102, 116, 101, 110]⟩
noncomputable def s_base : Str := ⟨#[98, 97, 115, 101]⟩
noncomputable def s_count : Str := ⟨#[99, 111, 117, 110, 116]⟩
noncomputable def s_tails : Str := ⟨#[116, 97, 105, 108, 115]⟩
noncomputable def s_ends : Str := ⟨#[101, 110, 100, 115]⟩
noncomputable def s_mail : Str := ⟨#[109, 97, 105, 108]⟩
noncomputable def s_turn : Str := ⟨#[116, 117, 114, 110]⟩
noncomputable def s_lexer : Str := ⟨#[108, 101, 120, 101, 114]⟩
noncomputable def s_words : Str := ⟨#[119, 111, 114, 100, 115]⟩
noncomputable def s_earlier : Str := ⟨#[101, 97, 114, 108, 105, 101, 114]⟩
noncomputable def s_sent : Str := ⟨#[115, 101, 110, 116]⟩
noncomputable def s_later : Str := ⟨#[108, 97, 116, 101, 114]⟩
noncomputable def s_number : Str := ⟨#[110, 117, 109, 98, 101, 114]⟩
noncomputable def s_rising : Str := ⟨#[114, 105, 115, 105, 110, 103]⟩
noncomputable def s_k : Str := ⟨#[107]⟩
noncomputable def s_left : Str := ⟨#[108, 101, 102, 116]⟩
noncomputable def s_turned : Str := ⟨#[116, 117, 114, 110, 101, 100]⟩
noncomputable def s_rest : Str := ⟨#[114, 101, 115, 116]⟩
noncomputable def s_rows : Str := ⟨#[114, 111, 119, 115]⟩
noncomputable def s_columns : Str := ⟨#[99, 111, 108, 117, 109, 110, 115]⟩
noncomputable def s_word : Str := ⟨#[119, 111, 114, 100]⟩
noncomputable def stdT (B : Bs) : List (BCut B) := stdR B ++ [sortC B, liaddC B, joinC B, countC B, sgetC B, smulC B]
noncomputable def lwEnv (w : World) (L c0 c1 c2 c3 c4 : Addr) : Env := envF w 156 L ⟨#[108, 97, 119, 46, 60, 108, 111, 99, 97, 108, 115, 62, 46]⟩ [(s_lexer, c4), (s_ends, c3), (s_tails, c2), (s_heights, c1), (s_often, c0)]
noncomputable def lwS (w : World) (p : List Nat) : Stmt := pathS (stmtsOf (fdAt w 156)) p
noncomputable def S_dr (W : Wd) (m : Nat) : Sp (BB W) :=
  let B := BB W
  { d := 100
    c := fun q => .compLoop (exOf (lwS W.w [0])) 0 (.ref (q.a 2)) (.ref (q.a 3)) (compEnv (exOf (lwS W.w [0])) (lwEnv W.w (q.a 1) 0 0 0 0 0) (q.a 0) [])
    P := fun q => MpP isIv (q.i 0) (q.l 1) (q.l 0) m
    pre := fun q => [((q.a 0),dictO [kv B s_x (q.t 0) (q.v 0)] 1),((q.a 2),fieldsO tLI [(.ref (q.a 4)),(.int (q.i 0) (q.t 1))]),((q.a 3),listO (q.l 0) (q.t 2)),((q.a 4),listO (q.l 1) (q.t 3))]
    R := fun q e => MpR (gI mod6) (q.i 0) (q.l 1) (q.l 0) (e.l 0)
    res := fun q e => .ok .next
    out := fun q e => [((q.a 0),dictO [kv B s_x (q.t 0) (e.v 0)] 1),((q.a 3),listO (e.l 0) (e.t 0)),((q.a 4),listO (q.l 1) (q.t 3))] }
noncomputable def on_dr : Code → View → Lt := fun c V => lt [(cEnv c).locals,envFrame (cEnv c),valA (cIt c),valA (cAcc c),valA (nthV (sQ V 1) 0)] [kT V 0 0,qT V 1 1,eP V 2,eP V 3] [qI V 1 1] [] [dV V 0 0] [sQ V 2,sQ V 3] []
noncomputable def S_drf (W : Wd) (m : Nat) : Sp (BB W) :=
  let B := BB W
  { d := 100
    c := fun q => .compLoop (exOf (lwS W.w [0])) 0 (.ref (q.a 2)) (.ref (q.a 3)) (compEnv (exOf (lwS W.w [0])) (lwEnv W.w (q.a 1) 0 0 0 0 0) (q.a 0) [])
    P := fun q => MpP isIv (q.i 0) (q.l 1) (q.l 0) m ∧ (q.i 0).toNat < (q.l 1).length
    pre := fun q => [((q.a 0),dictO [] 0),((q.a 2),fieldsO tLI [(.ref (q.a 4)),(.int (q.i 0) (q.t 0))]),((q.a 3),listO (q.l 0) (q.t 1)),((q.a 4),listO (q.l 1) (q.t 2))]
    R := fun q e => MpR (gI mod6) (q.i 0) (q.l 1) (q.l 0) (e.l 0)
    res := fun q e => .ok .next
    out := fun q e => [((q.a 0),dictO [kv B s_x (e.t 0) (e.v 0)] 1),((q.a 3),listO (e.l 0) (e.t 1)),((q.a 4),listO (q.l 1) (q.t 2))] }
noncomputable def on_drf : Code → View → Lt := fun c V => lt [(cEnv c).locals,envFrame (cEnv c),valA (cIt c),valA (cAcc c),valA (nthV (sQ V 1) 0)] [qT V 1 1,eP V 2,eP V 3] [qI V 1 1] [] [] [sQ V 2,sQ V 3] []
noncomputable def S_dra (W : Wd) (m : Nat) : Sp (BB W) := Sp.start (S_drf W m)
noncomputable abbrev on_dra := on_drf
theorem dr_end (W : Wd) (O : (BB W).Ok) (m : Nat) (q : Lt) (hq : (S_dr W m).P q) (hl : (q.l 1).length ≤ (q.i 0).toNat) : At (S_dr W m) 100 q := by
  refine tri_f O (stdT _) [] 2000 100 (hs := hx 12 0x42084082005080080) (is := [2,3,3])
    (fun (ρ : Rho) => ob hl <| fin (S_dr W m) q (lt [] [(q.t 2)] [] [] [(q.v 0)] [(q.l 0)] []) ((hq.fin hl)) :) ?_
  induction W using y_0 <;> kernel_rfl
theorem dr_s (W : Wd) (O : (BB W).Ok) (m : Nat) (ih : (S_dr W m).Ok) (q : Lt) (hq : (S_dr W (m + 1)).P q) (hl : (q.i 0).toNat < (q.l 1).length) : At (S_dr W (m + 1)) 100 q := by
  refine tri_f O (stdT _) [U (S_dr W m) ih on_dr] 2000 100 (hs := hx 32 0x1000c27820c050201c080041042084082085080080) (is := [0,0,0])
    (fun (ρ : Rho) => ob (A := (risD (It.mk (Value.ref (q.a 2)) (q.i 0) (0 : Int) (0 : Int) (Array.mk (q.l 1))) (2))) (hq.item id hl) <| ob (A := ((0 : Int) ≤ (6 : Int) ∧ ((10 : Int) = (-1 : Int) ∨ (2 : Int) ≤ (10 : Int)) ∧ ↑(Builtin.Int.intBits (10 : Int)) * (6 : Int) ≤ (2 : Int) ^ 27)) (p106) <| ob (A := ((10 : Int) ^ Int.toNat (6 : Int) ≠ (0 : Int))) (n106) <| ob (A := (List.length (q.l 0) ≤ sizeLine)) (hq.ob) <| ob (A := (MpP isIv (q.i 0 + 1 : Int) (q.l 1) (q.l 0++[Value.int (Int.fmod (shI (itemAt (q.l 1) ((q.i 0).toNat))) (10 ^ Int.toNat 6)) (ρ.n 4)]) m)) (hq.next hl) <| fun he0 : MpR (gI mod6) (q.i 0 + 1 : Int) (q.l 1) (q.l 0++[Value.int (Int.fmod (shI (itemAt (q.l 1) (Int.toNat (q.i 0)))) (10 ^ Int.toNat 6)) (ρ.n 4)]) ((ρ.2 0).l 0) => fin (S_dr W (m + 1)) q (lt [] [(ρ.2 0).2 0] [] [] [(ρ.2 0).5 0] [(ρ.2 0).6 0] []) ((hq.step hl ⟨_,rfl⟩ he0)) :) ?_
  induction W using y_0 <;> kernel_rfl
theorem drf_s (W : Wd) (O : (BB W).Ok) (m : Nat) (ih : (S_dr W m).Ok) (q : Lt) (hq : (S_drf W (m + 1)).P q) (hl : (q.i 0).toNat < (q.l 1).length) : At (S_drf W (m + 1)) 100 q := by
  refine tri_f O (stdT _) [U (S_dr W m) ih on_dr] 2000 100 (hs := hx 32 0x1000c27820c050201c080041042084082085080080) (is := [0,0,0])
    (fun (ρ : Rho) => ob (A := (risD (It.mk (Value.ref (q.a 2)) (q.i 0) (0 : Int) (0 : Int) (Array.mk (q.l 1))) (2))) (hq.1.item id hl) <| ob (A := ((0 : Int) ≤ (6 : Int) ∧ ((10 : Int) = (-1 : Int) ∨ (2 : Int) ≤ (10 : Int)) ∧ ↑(Builtin.Int.intBits (10 : Int)) * (6 : Int) ≤ (2 : Int) ^ 27)) (p106) <| ob (A := ((10 : Int) ^ Int.toNat (6 : Int) ≠ (0 : Int))) (n106) <| ob (A := (List.length (q.l 0) ≤ sizeLine)) (hq.1.ob) <| ob (A := (MpP isIv (q.i 0 + 1 : Int) (q.l 1) (q.l 0++[Value.int (Int.fmod (shI (itemAt (q.l 1) ((q.i 0).toNat))) (10 ^ Int.toNat 6)) (ρ.n 4)]) m)) (hq.1.next hl) <| fun he0 : MpR (gI mod6) (q.i 0 + 1 : Int) (q.l 1) (q.l 0++[Value.int (Int.fmod (shI (itemAt (q.l 1) (Int.toNat (q.i 0)))) (10 ^ Int.toNat 6)) (ρ.n 4)]) ((ρ.2 0).l 0) => fin (S_drf W (m + 1)) q (lt [] [ρ.1 0,(ρ.2 0).2 0] [] [] [(ρ.2 0).5 0] [(ρ.2 0).6 0] []) ((hq.1.step hl ⟨_,rfl⟩ he0)) :) ?_
  induction W using y_0 <;> kernel_rfl
theorem dr_ok (W : Wd) (O : (BB W).Ok) : ∀ m, (S_dr W m).Ok
  | 0 => fun q hq => dr_end W O 0 q hq hq.m0
  | m + 1 => fun q hq => by
    by_cases hl : (q.l 1).length ≤ (q.i 0).toNat
    · exact dr_end W O (m + 1) q hq hl
    · exact dr_s W O m (dr_ok W O m) q hq (by lia)
theorem drf_ok (W : Wd) (O : (BB W).Ok) (m : Nat) : (S_drf W (m + 1)).Ok := fun q hq => by
  exact drf_s W O m (dr_ok W O m) q hq hq.2
theorem dra_true (W : Wd) (O : (BB W).Ok) (m : Nat) (q : Lt) (hq : (S_dra W (m + 1)).P q) (hb : W.b2 = true) : At (S_dra W (m + 1)) 100 q := by
  refine tri_f O (stdT _) [U (S_drf W (m + 1)) (drf_ok W O m) on_drf] 2000 100 (hs := [0,3,0,4,0,0,0,0]) (is := [0,0,0])
    (fun (ρ : Rho) => ob hq <| fun he0 : MpR (gI mod6) (q.i 0) (q.l 1) (q.l 0) ((ρ.2 0).l 0) => fin (S_dra W (m + 1)) q (lt [] [(ρ.2 0).2 0,(ρ.2 0).2 1] [] [] [(ρ.2 0).5 0] [(ρ.2 0).6 0] []) (he0) :) ?_
  induction W, hb using y_true <;> kernel_rfl
theorem dra_false (W : Wd) (O : (BB W).Ok) (m : Nat) (q : Lt) (hq : (S_dra W (m + 1)).P q) (hb : W.b2 = false) : At (S_dra W (m + 1)) 100 q := by
  refine tri_f O (stdT _) [U (S_drf W (m + 1)) (drf_ok W O m) on_drf] 2000 100 (hs := hx 14 0x1000c2002002080) (is := [0,0,0])
    (fun (ρ : Rho) => ob hq <| fun he0 : MpR (gI mod6) (q.i 0) (q.l 1) (q.l 0) ((ρ.2 0).l 0) => fin (S_dra W (m + 1)) q (lt [] [(ρ.2 0).2 0,(ρ.2 0).2 1] [] [] [(ρ.2 0).5 0] [(ρ.2 0).6 0] []) (he0) :) ?_
  induction W, hb using y_false <;> kernel_rfl
theorem dra_ok (W : Wd) (O : (BB W).Ok) (m : Nat) : (S_dra W (m + 1)).Ok := fun q hq => by
  cases hb : W.b2 with
  | true => exact dra_true W O m q hq hb
  | false => exact dra_false W O m q hq hb
noncomputable def S_dre (W : Wd) (m : Nat) : Sp (BB W) :=
  let B := BB W
  { d := 100
    c := fun q => .compStart (exOf (lwS W.w [0])) 0 (.ref (q.a 2)) (.ref (q.a 3)) (compEnv (exOf (lwS W.w [0])) (lwEnv W.w (q.a 1) 0 0 0 0 0) (q.a 0) [])
    P := fun q => MpP isIv (q.i 0) (q.l 1) (q.l 0) m ∧ (q.l 1).length ≤ (q.i 0).toNat
    pre := fun q => [((q.a 0),dictO [] 0),((q.a 2),fieldsO tLI [(.ref (q.a 4)),(.int (q.i 0) (q.t 0))]),((q.a 3),listO (q.l 0) (q.t 1)),((q.a 4),listO (q.l 1) (q.t 2))]
    R := fun q e => MpR (gI mod6) (q.i 0) (q.l 1) (q.l 0) (e.l 0)
    res := fun q e => .ok .next
    out := fun q e => [((q.a 0),dictO [] 0),((q.a 3),listO (e.l 0) (e.t 0)),((q.a 4),listO (q.l 1) (q.t 2))] }
noncomputable def on_dre : Code → View → Lt := fun c V => lt [(cEnv c).locals,envFrame (cEnv c),valA (cIt c),valA (cAcc c),valA (nthV (sQ V 1) 0)] [qT V 1 1,eP V 2,eP V 3] [qI V 1 1] [] [] [sQ V 2,sQ V 3] []
theorem dre_true (W : Wd) (O : (BB W).Ok) (m : Nat) (q : Lt) (hq : (S_dre W m).P q) (hb : W.b2 = true) : At (S_dre W m) 100 q := by
  refine tri_f O (stdT _) [] 2000 100 (hs := hx 13 0x1082102080142002000) (is := [2,3,3])
    (fun (ρ : Rho) => ob hq.2 <| fin (S_dre W m) q (lt [] [(q.t 1)] [] [] [] [(q.l 0)] []) ((hq.1.fin hq.2)) :) ?_
  induction W, hb using y_true <;> kernel_rfl
theorem dre_false (W : Wd) (O : (BB W).Ok) (m : Nat) (q : Lt) (hq : (S_dre W m).P q) (hb : W.b2 = false) : At (S_dre W m) 100 q := by
  refine tri_f O (stdT _) [] 2000 100 (hs := hx 19 0x1082102080142002002002002080) (is := [2,3,3])
    (fun (ρ : Rho) => ob hq.2 <| fin (S_dre W m) q (lt [] [(q.t 1)] [] [] [] [(q.l 0)] []) ((hq.1.fin hq.2)) :) ?_
  induction W, hb using y_false <;> kernel_rfl
theorem dre_ok (W : Wd) (O : (BB W).Ok) (m : Nat) : (S_dre W m).Ok := fun q hq => by
  cases hb : W.b2 with
  | true => exact dre_true W O m q hq hb
  | false => exact dre_false W O m q hq hb
noncomputable def S_sm (W : Wd) (m : Nat) : Sp (BB W) :=
  let B := BB W
  { d := 100
    c := fun q => .compLoop (kids (exOf (lwS W.w [2])) [1, 1]) 0 (.ref (q.a 2)) (.ref (q.a 3)) (compEnv (kids (exOf (lwS W.w [2])) [1, 1]) (lwEnv W.w (q.a 1) 0 0 0 0 0) (q.a 0) [])
    P := fun q => MpP isIv (q.i 0) (q.l 1) (q.l 0) m
    pre := fun q => [((q.a 0),dictO [kv B s_x (q.t 0) (q.v 0)] 1),((q.a 2),fieldsO tLI [(.ref (q.a 4)),(.int (q.i 0) (q.t 1))]),((q.a 3),listO (q.l 0) (q.t 2)),((q.a 4),listO (q.l 1) (q.t 3))]
    R := fun q e => MpR (gI mod6) (q.i 0) (q.l 1) (q.l 0) (e.l 0)
    res := fun q e => .ok .next
    out := fun q e => [((q.a 0),dictO [kv B s_x (q.t 0) (e.v 0)] 1),((q.a 3),listO (e.l 0) (e.t 0)),((q.a 4),listO (q.l 1) (q.t 3))] }
noncomputable def on_sm : Code → View → Lt := fun c V => lt [(cEnv c).locals,envFrame (cEnv c),valA (cIt c),valA (cAcc c),valA (nthV (sQ V 1) 0)] [kT V 0 0,qT V 1 1,eP V 2,eP V 3] [qI V 1 1] [] [dV V 0 0] [sQ V 2,sQ V 3] []
noncomputable def S_smf (W : Wd) (m : Nat) : Sp (BB W) :=
  let B := BB W
  { d := 100
    c := fun q => .compLoop (kids (exOf (lwS W.w [2])) [1, 1]) 0 (.ref (q.a 2)) (.ref (q.a 3)) (compEnv (kids (exOf (lwS W.w [2])) [1, 1]) (lwEnv W.w (q.a 1) 0 0 0 0 0) (q.a 0) [])
    P := fun q => MpP isIv (q.i 0) (q.l 1) (q.l 0) m ∧ (q.i 0).toNat < (q.l 1).length
    pre := fun q => [((q.a 0),dictO [] 0),((q.a 2),fieldsO tLI [(.ref (q.a 4)),(.int (q.i 0) (q.t 0))]),((q.a 3),listO (q.l 0) (q.t 1)),((q.a 4),listO (q.l 1) (q.t 2))]
    R := fun q e => MpR (gI mod6) (q.i 0) (q.l 1) (q.l 0) (e.l 0)
    res := fun q e => .ok .next
    out := fun q e => [((q.a 0),dictO [kv B s_x (e.t 0) (e.v 0)] 1),((q.a 3),listO (e.l 0) (e.t 1)),((q.a 4),listO (q.l 1) (q.t 2))] }
noncomputable def on_smf : Code → View → Lt := fun c V => lt [(cEnv c).locals,envFrame (cEnv c),valA (cIt c),valA (cAcc c),valA (nthV (sQ V 1) 0)] [qT V 1 1,eP V 2,eP V 3] [qI V 1 1] [] [] [sQ V 2,sQ V 3] []
noncomputable def S_sma (W : Wd) (m : Nat) : Sp (BB W) := Sp.start (S_smf W m)
noncomputable abbrev on_sma := on_smf
theorem sm_end (W : Wd) (O : (BB W).Ok) (m : Nat) (q : Lt) (hq : (S_sm W m).P q) (hl : (q.l 1).length ≤ (q.i 0).toNat) : At (S_sm W m) 100 q := by
  refine tri_f O (stdT _) [] 2000 100 (hs := hx 12 0x42084082005080080) (is := [2,3,3])
    (fun (ρ : Rho) => ob hl <| fin (S_sm W m) q (lt [] [(q.t 2)] [] [] [(q.v 0)] [(q.l 0)] []) ((hq.fin hl)) :) ?_
  induction W using y_0 <;> kernel_rfl
theorem sm_s (W : Wd) (O : (BB W).Ok) (m : Nat) (ih : (S_sm W m).Ok) (q : Lt) (hq : (S_sm W (m + 1)).P q) (hl : (q.i 0).toNat < (q.l 1).length) : At (S_sm W (m + 1)) 100 q := by
  refine tri_f O (stdT _) [U (S_sm W m) ih on_sm] 2000 100 (hs := hx 32 0x1000c27820c050201c080041042084082085080080) (is := [0,0,0])
    (fun (ρ : Rho) => ob (A := (risD (It.mk (Value.ref (q.a 2)) (q.i 0) (0 : Int) (0 : Int) (Array.mk (q.l 1))) (2))) (hq.item id hl) <| ob (A := ((0 : Int) ≤ (6 : Int) ∧ ((10 : Int) = (-1 : Int) ∨ (2 : Int) ≤ (10 : Int)) ∧ ↑(Builtin.Int.intBits (10 : Int)) * (6 : Int) ≤ (2 : Int) ^ 27)) (p106) <| ob (A := ((10 : Int) ^ Int.toNat (6 : Int) ≠ (0 : Int))) (n106) <| ob (A := (List.length (q.l 0) ≤ sizeLine)) (hq.ob) <| ob (A := (MpP isIv (q.i 0 + 1 : Int) (q.l 1) (q.l 0++[Value.int (Int.fmod (shI (itemAt (q.l 1) ((q.i 0).toNat))) (10 ^ Int.toNat 6)) (ρ.n 4)]) m)) (hq.next hl) <| fun he0 : MpR (gI mod6) (q.i 0 + 1 : Int) (q.l 1) (q.l 0++[Value.int (Int.fmod (shI (itemAt (q.l 1) (Int.toNat (q.i 0)))) (10 ^ Int.toNat 6)) (ρ.n 4)]) ((ρ.2 0).l 0) => fin (S_sm W (m + 1)) q (lt [] [(ρ.2 0).2 0] [] [] [(ρ.2 0).5 0] [(ρ.2 0).6 0] []) ((hq.step hl ⟨_,rfl⟩ he0)) :) ?_
  induction W using y_0 <;> kernel_rfl
theorem smf_s (W : Wd) (O : (BB W).Ok) (m : Nat) (ih : (S_sm W m).Ok) (q : Lt) (hq : (S_smf W (m + 1)).P q) (hl : (q.i 0).toNat < (q.l 1).length) : At (S_smf W (m + 1)) 100 q := by
  refine tri_f O (stdT _) [U (S_sm W m) ih on_sm] 2000 100 (hs := hx 32 0x1000c27820c050201c080041042084082085080080) (is := [0,0,0])
    (fun (ρ : Rho) => ob (A := (risD (It.mk (Value.ref (q.a 2)) (q.i 0) (0 : Int) (0 : Int) (Array.mk (q.l 1))) (2))) (hq.1.item id hl) <| ob (A := ((0 : Int) ≤ (6 : Int) ∧ ((10 : Int) = (-1 : Int) ∨ (2 : Int) ≤ (10 : Int)) ∧ ↑(Builtin.Int.intBits (10 : Int)) * (6 : Int) ≤ (2 : Int) ^ 27)) (p106) <| ob (A := ((10 : Int) ^ Int.toNat (6 : Int) ≠ (0 : Int))) (n106) <| ob (A := (List.length (q.l 0) ≤ sizeLine)) (hq.1.ob) <| ob (A := (MpP isIv (q.i 0 + 1 : Int) (q.l 1) (q.l 0++[Value.int (Int.fmod (shI (itemAt (q.l 1) ((q.i 0).toNat))) (10 ^ Int.toNat 6)) (ρ.n 4)]) m)) (hq.1.next hl) <| fun he0 : MpR (gI mod6) (q.i 0 + 1 : Int) (q.l 1) (q.l 0++[Value.int (Int.fmod (shI (itemAt (q.l 1) (Int.toNat (q.i 0)))) (10 ^ Int.toNat 6)) (ρ.n 4)]) ((ρ.2 0).l 0) => fin (S_smf W (m + 1)) q (lt [] [ρ.1 0,(ρ.2 0).2 0] [] [] [(ρ.2 0).5 0] [(ρ.2 0).6 0] []) ((hq.1.step hl ⟨_,rfl⟩ he0)) :) ?_
  induction W using y_0 <;> kernel_rfl
theorem sm_ok (W : Wd) (O : (BB W).Ok) : ∀ m, (S_sm W m).Ok
  | 0 => fun q hq => sm_end W O 0 q hq hq.m0
  | m + 1 => fun q hq => by
    by_cases hl : (q.l 1).length ≤ (q.i 0).toNat
    · exact sm_end W O (m + 1) q hq hl
    · exact sm_s W O m (sm_ok W O m) q hq (by lia)
theorem smf_ok (W : Wd) (O : (BB W).Ok) (m : Nat) : (S_smf W (m + 1)).Ok := fun q hq => by
  exact smf_s W O m (sm_ok W O m) q hq hq.2
theorem sma_true (W : Wd) (O : (BB W).Ok) (m : Nat) (q : Lt) (hq : (S_sma W (m + 1)).P q) (hb : W.b2 = true) : At (S_sma W (m + 1)) 100 q := by
  refine tri_f O (stdT _) [U (S_smf W (m + 1)) (smf_ok W O m) on_smf] 2000 100 (hs := [0,3,0,4,0,0,0,0]) (is := [0,0,0])
    (fun (ρ : Rho) => ob hq <| fun he0 : MpR (gI mod6) (q.i 0) (q.l 1) (q.l 0) ((ρ.2 0).l 0) => fin (S_sma W (m + 1)) q (lt [] [(ρ.2 0).2 0,(ρ.2 0).2 1] [] [] [(ρ.2 0).5 0] [(ρ.2 0).6 0] []) (he0) :) ?_
  induction W, hb using y_true <;> kernel_rfl
theorem sma_false (W : Wd) (O : (BB W).Ok) (m : Nat) (q : Lt) (hq : (S_sma W (m + 1)).P q) (hb : W.b2 = false) : At (S_sma W (m + 1)) 100 q := by
  refine tri_f O (stdT _) [U (S_smf W (m + 1)) (smf_ok W O m) on_smf] 2000 100 (hs := hx 14 0x1000c2002002080) (is := [0,0,0])
    (fun (ρ : Rho) => ob hq <| fun he0 : MpR (gI mod6) (q.i 0) (q.l 1) (q.l 0) ((ρ.2 0).l 0) => fin (S_sma W (m + 1)) q (lt [] [(ρ.2 0).2 0,(ρ.2 0).2 1] [] [] [(ρ.2 0).5 0] [(ρ.2 0).6 0] []) (he0) :) ?_
  induction W, hb using y_false <;> kernel_rfl
theorem sma_ok (W : Wd) (O : (BB W).Ok) (m : Nat) : (S_sma W (m + 1)).Ok := fun q hq => by
  cases hb : W.b2 with
  | true => exact sma_true W O m q hq hb
  | false => exact sma_false W O m q hq hb
noncomputable def S_sme (W : Wd) (m : Nat) : Sp (BB W) :=
  let B := BB W
  { d := 100
    c := fun q => .compStart (kids (exOf (lwS W.w [2])) [1, 1]) 0 (.ref (q.a 2)) (.ref (q.a 3)) (compEnv (kids (exOf (lwS W.w [2])) [1, 1]) (lwEnv W.w (q.a 1) 0 0 0 0 0) (q.a 0) [])
    P := fun q => MpP isIv (q.i 0) (q.l 1) (q.l 0) m ∧ (q.l 1).length ≤ (q.i 0).toNat
    pre := fun q => [((q.a 0),dictO [] 0),((q.a 2),fieldsO tLI [(.ref (q.a 4)),(.int (q.i 0) (q.t 0))]),((q.a 3),listO (q.l 0) (q.t 1)),((q.a 4),listO (q.l 1) (q.t 2))]
    R := fun q e => MpR (gI mod6) (q.i 0) (q.l 1) (q.l 0) (e.l 0)
    res := fun q e => .ok .next
    out := fun q e => [((q.a 0),dictO [] 0),((q.a 3),listO (e.l 0) (e.t 0)),((q.a 4),listO (q.l 1) (q.t 2))] }
noncomputable def on_sme : Code → View → Lt := fun c V => lt [(cEnv c).locals,envFrame (cEnv c),valA (cIt c),valA (cAcc c),valA (nthV (sQ V 1) 0)] [qT V 1 1,eP V 2,eP V 3] [qI V 1 1] [] [] [sQ V 2,sQ V 3] []
theorem sme_true (W : Wd) (O : (BB W).Ok) (m : Nat) (q : Lt) (hq : (S_sme W m).P q) (hb : W.b2 = true) : At (S_sme W m) 100 q := by
  refine tri_f O (stdT _) [] 2000 100 (hs := hx 13 0x1082102080142002000) (is := [2,3,3])
    (fun (ρ : Rho) => ob hq.2 <| fin (S_sme W m) q (lt [] [(q.t 1)] [] [] [] [(q.l 0)] []) ((hq.1.fin hq.2)) :) ?_
  induction W, hb using y_true <;> kernel_rfl
theorem sme_false (W : Wd) (O : (BB W).Ok) (m : Nat) (q : Lt) (hq : (S_sme W m).P q) (hb : W.b2 = false) : At (S_sme W m) 100 q := by
  refine tri_f O (stdT _) [] 2000 100 (hs := hx 19 0x1082102080142002002002002080) (is := [2,3,3])
    (fun (ρ : Rho) => ob hq.2 <| fin (S_sme W m) q (lt [] [(q.t 1)] [] [] [] [(q.l 0)] []) ((hq.1.fin hq.2)) :) ?_
  induction W, hb using y_false <;> kernel_rfl
theorem sme_ok (W : Wd) (O : (BB W).Ok) (m : Nat) : (S_sme W m).Ok := fun q hq => by
  cases hb : W.b2 with
  | true => exact sme_true W O m q hq hb
  | false => exact sme_false W O m q hq hb
noncomputable def S_ht (W : Wd) (m : Nat) : Sp (BB W) :=
  let B := BB W
  { d := 100
    c := fun q => .compLoop (exOf (lwS W.w [6])) 0 (.ref (q.a 2)) (.ref (q.a 3)) (compEnv (exOf (lwS W.w [6])) (lwEnv W.w (q.a 1) 0 0 0 0 0) (q.a 0) [])
    P := fun q => MpP isIv (q.i 0) (q.l 1) (q.l 0) m
    pre := fun q => [((q.a 0),dictO [kv B s_x (q.t 0) (q.v 0)] 1),((q.a 2),fieldsO tLI [(.ref (q.a 4)),(.int (q.i 0) (q.t 1))]),((q.a 3),listO (q.l 0) (q.t 2)),((q.a 4),listO (q.l 1) (q.t 3))]
    R := fun q e => MpR (gI hgt) (q.i 0) (q.l 1) (q.l 0) (e.l 0)
    res := fun q e => .ok .next
    out := fun q e => [((q.a 0),dictO [kv B s_x (q.t 0) (e.v 0)] 1),((q.a 3),listO (e.l 0) (e.t 0)),((q.a 4),listO (q.l 1) (q.t 3))] }
noncomputable def on_ht : Code → View → Lt := fun c V => lt [(cEnv c).locals,envFrame (cEnv c),valA (cIt c),valA (cAcc c),valA (nthV (sQ V 1) 0)] [kT V 0 0,qT V 1 1,eP V 2,eP V 3] [qI V 1 1] [] [dV V 0 0] [sQ V 2,sQ V 3] []
noncomputable def S_htf (W : Wd) (m : Nat) : Sp (BB W) :=
  let B := BB W
  { d := 100
    c := fun q => .compLoop (exOf (lwS W.w [6])) 0 (.ref (q.a 2)) (.ref (q.a 3)) (compEnv (exOf (lwS W.w [6])) (lwEnv W.w (q.a 1) 0 0 0 0 0) (q.a 0) [])
    P := fun q => MpP isIv (q.i 0) (q.l 1) (q.l 0) m ∧ (q.i 0).toNat < (q.l 1).length
    pre := fun q => [((q.a 0),dictO [] 0),((q.a 2),fieldsO tLI [(.ref (q.a 4)),(.int (q.i 0) (q.t 0))]),((q.a 3),listO (q.l 0) (q.t 1)),((q.a 4),listO (q.l 1) (q.t 2))]
    R := fun q e => MpR (gI hgt) (q.i 0) (q.l 1) (q.l 0) (e.l 0)
    res := fun q e => .ok .next
    out := fun q e => [((q.a 0),dictO [kv B s_x (e.t 0) (e.v 0)] 1),((q.a 3),listO (e.l 0) (e.t 1)),((q.a 4),listO (q.l 1) (q.t 2))] }
noncomputable def on_htf : Code → View → Lt := fun c V => lt [(cEnv c).locals,envFrame (cEnv c),valA (cIt c),valA (cAcc c),valA (nthV (sQ V 1) 0)] [qT V 1 1,eP V 2,eP V 3] [qI V 1 1] [] [] [sQ V 2,sQ V 3] []
noncomputable def S_hta (W : Wd) (m : Nat) : Sp (BB W) := Sp.start (S_htf W m)
noncomputable abbrev on_hta := on_htf
theorem ht_end (W : Wd) (O : (BB W).Ok) (m : Nat) (q : Lt) (hq : (S_ht W m).P q) (hl : (q.l 1).length ≤ (q.i 0).toNat) : At (S_ht W m) 100 q := by
  refine tri_f O (stdT _) [] 2000 100 (hs := hx 12 0x42084082005080080) (is := [2,3,3])
    (fun (ρ : Rho) => ob hl <| fin (S_ht W m) q (lt [] [(q.t 2)] [] [] [(q.v 0)] [(q.l 0)] []) ((hq.fin hl)) :) ?_
  induction W using y_0 <;> kernel_rfl
theorem ht_s (W : Wd) (O : (BB W).Ok) (m : Nat) (ih : (S_ht W m).Ok) (q : Lt) (hq : (S_ht W (m + 1)).P q) (hl : (q.i 0).toNat < (q.l 1).length) : At (S_ht W (m + 1)) 100 q := by
  refine tri_f O (stdT _) [U (S_ht W m) ih on_ht] 2000 100 (hs := hx 31 0x400309e083000014080041042084082085080080) (is := [0,0,0])
    (fun (ρ : Rho) => ob (A := (risD (It.mk (Value.ref (q.a 2)) (q.i 0) (0 : Int) (0 : Int) (Array.mk (q.l 1))) (2))) (hq.item id hl) <| ob (A := ((3 : Int) ≠ (0 : Int))) (c30) <| ob (A := (List.length (q.l 0) ≤ sizeLine)) (hq.ob) <| ob (A := (MpP isIv (q.i 0 + 1 : Int) (q.l 1) (q.l 0++[Value.int (1 + Int.fmod (shI (itemAt (q.l 1) ((q.i 0).toNat))) 3) (ρ.n 4)]) m)) (hq.next hl) <| fun he0 : MpR (gI hgt) (q.i 0 + 1 : Int) (q.l 1) (q.l 0++[Value.int (1 + Int.fmod (shI (itemAt (q.l 1) (Int.toNat (q.i 0)))) 3) (ρ.n 4)]) ((ρ.2 0).l 0) => fin (S_ht W (m + 1)) q (lt [] [(ρ.2 0).2 0] [] [] [(ρ.2 0).5 0] [(ρ.2 0).6 0] []) ((hq.step hl ⟨_,rfl⟩ he0)) :) ?_
  induction W using y_0 <;> kernel_rfl
theorem htf_s (W : Wd) (O : (BB W).Ok) (m : Nat) (ih : (S_ht W m).Ok) (q : Lt) (hq : (S_htf W (m + 1)).P q) (hl : (q.i 0).toNat < (q.l 1).length) : At (S_htf W (m + 1)) 100 q := by
  refine tri_f O (stdT _) [U (S_ht W m) ih on_ht] 2000 100 (hs := hx 31 0x400309e083000014080041042084082085080080) (is := [0,0,0])
    (fun (ρ : Rho) => ob (A := (risD (It.mk (Value.ref (q.a 2)) (q.i 0) (0 : Int) (0 : Int) (Array.mk (q.l 1))) (2))) (hq.1.item id hl) <| ob (A := ((3 : Int) ≠ (0 : Int))) (c30) <| ob (A := (List.length (q.l 0) ≤ sizeLine)) (hq.1.ob) <| ob (A := (MpP isIv (q.i 0 + 1 : Int) (q.l 1) (q.l 0++[Value.int (1 + Int.fmod (shI (itemAt (q.l 1) ((q.i 0).toNat))) 3) (ρ.n 4)]) m)) (hq.1.next hl) <| fun he0 : MpR (gI hgt) (q.i 0 + 1 : Int) (q.l 1) (q.l 0++[Value.int (1 + Int.fmod (shI (itemAt (q.l 1) (Int.toNat (q.i 0)))) 3) (ρ.n 4)]) ((ρ.2 0).l 0) => fin (S_htf W (m + 1)) q (lt [] [ρ.1 0,(ρ.2 0).2 0] [] [] [(ρ.2 0).5 0] [(ρ.2 0).6 0] []) ((hq.1.step hl ⟨_,rfl⟩ he0)) :) ?_
  induction W using y_0 <;> kernel_rfl
theorem ht_ok (W : Wd) (O : (BB W).Ok) : ∀ m, (S_ht W m).Ok
  | 0 => fun q hq => ht_end W O 0 q hq hq.m0
  | m + 1 => fun q hq => by
    by_cases hl : (q.l 1).length ≤ (q.i 0).toNat
    · exact ht_end W O (m + 1) q hq hl
    · exact ht_s W O m (ht_ok W O m) q hq (by lia)
theorem htf_ok (W : Wd) (O : (BB W).Ok) (m : Nat) : (S_htf W (m + 1)).Ok := fun q hq => by
  exact htf_s W O m (ht_ok W O m) q hq hq.2
theorem hta_true (W : Wd) (O : (BB W).Ok) (m : Nat) (q : Lt) (hq : (S_hta W (m + 1)).P q) (hb : W.b2 = true) : At (S_hta W (m + 1)) 100 q := by
  refine tri_f O (stdT _) [U (S_htf W (m + 1)) (htf_ok W O m) on_htf] 2000 100 (hs := [0,3,0,4,0,0,0,0]) (is := [0,0,0])
    (fun (ρ : Rho) => ob hq <| fun he0 : MpR (gI hgt) (q.i 0) (q.l 1) (q.l 0) ((ρ.2 0).l 0) => fin (S_hta W (m + 1)) q (lt [] [(ρ.2 0).2 0,(ρ.2 0).2 1] [] [] [(ρ.2 0).5 0] [(ρ.2 0).6 0] []) (he0) :) ?_
  induction W, hb using y_true <;> kernel_rfl
theorem hta_false (W : Wd) (O : (BB W).Ok) (m : Nat) (q : Lt) (hq : (S_hta W (m + 1)).P q) (hb : W.b2 = false) : At (S_hta W (m + 1)) 100 q := by
  refine tri_f O (stdT _) [U (S_htf W (m + 1)) (htf_ok W O m) on_htf] 2000 100 (hs := hx 14 0x1000c2002002080) (is := [0,0,0])
    (fun (ρ : Rho) => ob hq <| fun he0 : MpR (gI hgt) (q.i 0) (q.l 1) (q.l 0) ((ρ.2 0).l 0) => fin (S_hta W (m + 1)) q (lt [] [(ρ.2 0).2 0,(ρ.2 0).2 1] [] [] [(ρ.2 0).5 0] [(ρ.2 0).6 0] []) (he0) :) ?_
  induction W, hb using y_false <;> kernel_rfl
theorem hta_ok (W : Wd) (O : (BB W).Ok) (m : Nat) : (S_hta W (m + 1)).Ok := fun q hq => by
  cases hb : W.b2 with
  | true => exact hta_true W O m q hq hb
  | false => exact hta_false W O m q hq hb
end Mine
end
section

namespace Mine
open PySem PySem.Spec PySem.Calls PyProof.Rows PySem.W PySem.W.X PySem.Builtin.Str
noncomputable def S_ta (W : Wd) (m : Nat) : Sp (BB W) :=
  let B := BB W
  { d := 100
    c := fun q => .compLoop (exOf (lwS W.w [7])) 0 (.ref (q.a 2)) (.ref (q.a 3)) (compEnv (exOf (lwS W.w [7])) (lwEnv W.w (q.a 1) 0 0 0 0 0) (q.a 0) [])
    P := fun q => MpP isIv (q.i 0) (q.l 1) (q.l 0) m
    pre := fun q => [((q.a 0),dictO [kv B s_x (q.t 0) (q.v 0)] 1),((q.a 2),fieldsO tLI [(.ref (q.a 4)),(.int (q.i 0) (q.t 1))]),((q.a 3),listO (q.l 0) (q.t 2)),((q.a 4),listO (q.l 1) (q.t 3))]
    R := fun q e => MpR (gS tlS) (q.i 0) (q.l 1) (q.l 0) (e.l 0)
    res := fun q e => .ok .next
    out := fun q e => [((q.a 0),dictO [kv B s_x (q.t 0) (e.v 0)] 1),((q.a 3),listO (e.l 0) (e.t 0)),((q.a 4),listO (q.l 1) (q.t 3))] }
noncomputable def on_ta : Code → View → Lt := fun c V => lt [(cEnv c).locals,envFrame (cEnv c),valA (cIt c),valA (cAcc c),valA (nthV (sQ V 1) 0)] [kT V 0 0,qT V 1 1,eP V 2,eP V 3] [qI V 1 1] [] [dV V 0 0] [sQ V 2,sQ V 3] []
noncomputable def S_taf (W : Wd) (m : Nat) : Sp (BB W) :=
  let B := BB W
  { d := 100
    c := fun q => .compLoop (exOf (lwS W.w [7])) 0 (.ref (q.a 2)) (.ref (q.a 3)) (compEnv (exOf (lwS W.w [7])) (lwEnv W.w (q.a 1) 0 0 0 0 0) (q.a 0) [])
    P := fun q => MpP isIv (q.i 0) (q.l 1) (q.l 0) m ∧ (q.i 0).toNat < (q.l 1).length
    pre := fun q => [((q.a 0),dictO [] 0),((q.a 2),fieldsO tLI [(.ref (q.a 4)),(.int (q.i 0) (q.t 0))]),((q.a 3),listO (q.l 0) (q.t 1)),((q.a 4),listO (q.l 1) (q.t 2))]
    R := fun q e => MpR (gS tlS) (q.i 0) (q.l 1) (q.l 0) (e.l 0)
    res := fun q e => .ok .next
    out := fun q e => [((q.a 0),dictO [kv B s_x (e.t 0) (e.v 0)] 1),((q.a 3),listO (e.l 0) (e.t 1)),((q.a 4),listO (q.l 1) (q.t 2))] }
noncomputable def on_taf : Code → View → Lt := fun c V => lt [(cEnv c).locals,envFrame (cEnv c),valA (cIt c),valA (cAcc c),valA (nthV (sQ V 1) 0)] [qT V 1 1,eP V 2,eP V 3] [qI V 1 1] [] [] [sQ V 2,sQ V 3] []
noncomputable def S_taa (W : Wd) (m : Nat) : Sp (BB W) := Sp.start (S_taf W m)
noncomputable abbrev on_taa := on_taf
theorem ta_end (W : Wd) (O : (BB W).Ok) (m : Nat) (q : Lt) (hq : (S_ta W m).P q) (hl : (q.l 1).length ≤ (q.i 0).toNat) : At (S_ta W m) 100 q := by
  refine tri_f O (stdT _) [] 2000 100 (hs := hx 12 0x42084082005080080) (is := [2,3,3])
    (fun (ρ : Rho) => ob hl <| fin (S_ta W m) q (lt [] [(q.t 2)] [] [] [(q.v 0)] [(q.l 0)] []) ((hq.fin hl)) :) ?_
  induction W using y_0 <;> kernel_rfl
theorem ta_s (W : Wd) (O : (BB W).Ok) (m : Nat) (ih : (S_ta W m).Ok) (q : Lt) (hq : (S_ta W (m + 1)).P q) (hl : (q.i 0).toNat < (q.l 1).length) : At (S_ta W (m + 1)) 100 q := by
  refine tri_f O (stdT _) [U (S_ta W m) ih on_ta] 2000 100 (hs := hx 35 0x400309e083030080502015080041042084082085080080) (is := [0,0,0])
    (fun (ρ : Rho) => let z0 := shI (itemAt (q.l 1) ((q.i 0).toNat)); let z1 := shI (itemAt (q.l 1) (q.i 0).toNat); ob (A := (risD (It.mk (Value.ref (q.a 2)) (q.i 0) (0 : Int) (0 : Int) (Array.mk (q.l 1))) (2))) (hq.item id hl) <| ob (A := ((3 : Int) ≠ (0 : Int) ∧ Builtin.divisionGoesByPylong z0 (3 : Int) = false)) (dv3 z1) <| ob (A := ((4 : Int) ≠ (0 : Int))) (c40) <| ob (A := ((0 : Int) ≤ Int.fmod (Int.fdiv z0 (3 : Int)) (4 : Int) ∧ Int.toNat (Int.fmod (Int.fdiv z0 (3 : Int)) (4 : Int)) < Str.length (mS [97,34,92,32]) ∧ Str.length (mS [97,34,92,32]) ≤ sizeLine)) (tl_ob z1) <| ob (A := (List.length (q.l 0) ≤ sizeLine)) (hq.ob) <| ob (A := (MpP isIv (q.i 0 + 1 : Int) (q.l 1) (q.l 0++[Value.str (chAt (mS [97,34,92,32]) (Int.fmod (Int.fdiv z0 3) 4)) (ρ.n 6)]) m)) (hq.next hl) <| fun he0 : MpR (gS tlS) (q.i 0 + 1 : Int) (q.l 1) (q.l 0++[Value.str (chAt (mS [97,34,92,32]) (Int.fmod (Int.fdiv (shI (itemAt (q.l 1) (Int.toNat (q.i 0)))) 3) 4)) (ρ.n 6)]) ((ρ.2 0).l 0) => fin (S_ta W (m + 1)) q (lt [] [(ρ.2 0).2 0] [] [] [(ρ.2 0).5 0] [(ρ.2 0).6 0] []) ((hq.step hl ⟨_,rfl⟩ he0)) :) ?_
  induction W using y_0 <;> kernel_rfl
theorem taf_s (W : Wd) (O : (BB W).Ok) (m : Nat) (ih : (S_ta W m).Ok) (q : Lt) (hq : (S_taf W (m + 1)).P q) (hl : (q.i 0).toNat < (q.l 1).length) : At (S_taf W (m + 1)) 100 q := by
  refine tri_f O (stdT _) [U (S_ta W m) ih on_ta] 2000 100 (hs := hx 35 0x400309e083030080502015080041042084082085080080) (is := [0,0,0])
    (fun (ρ : Rho) => let z0 := shI (itemAt (q.l 1) ((q.i 0).toNat)); let z1 := shI (itemAt (q.l 1) (q.i 0).toNat); ob (A := (risD (It.mk (Value.ref (q.a 2)) (q.i 0) (0 : Int) (0 : Int) (Array.mk (q.l 1))) (2))) (hq.1.item id hl) <| ob (A := ((3 : Int) ≠ (0 : Int) ∧ Builtin.divisionGoesByPylong z0 (3 : Int) = false)) (dv3 z1) <| ob (A := ((4 : Int) ≠ (0 : Int))) (c40) <| ob (A := ((0 : Int) ≤ Int.fmod (Int.fdiv z0 (3 : Int)) (4 : Int) ∧ Int.toNat (Int.fmod (Int.fdiv z0 (3 : Int)) (4 : Int)) < Str.length (mS [97,34,92,32]) ∧ Str.length (mS [97,34,92,32]) ≤ sizeLine)) (tl_ob z1) <| ob (A := (List.length (q.l 0) ≤ sizeLine)) (hq.1.ob) <| ob (A := (MpP isIv (q.i 0 + 1 : Int) (q.l 1) (q.l 0++[Value.str (chAt (mS [97,34,92,32]) (Int.fmod (Int.fdiv z0 3) 4)) (ρ.n 6)]) m)) (hq.1.next hl) <| fun he0 : MpR (gS tlS) (q.i 0 + 1 : Int) (q.l 1) (q.l 0++[Value.str (chAt (mS [97,34,92,32]) (Int.fmod (Int.fdiv (shI (itemAt (q.l 1) (Int.toNat (q.i 0)))) 3) 4)) (ρ.n 6)]) ((ρ.2 0).l 0) => fin (S_taf W (m + 1)) q (lt [] [ρ.1 0,(ρ.2 0).2 0] [] [] [(ρ.2 0).5 0] [(ρ.2 0).6 0] []) ((hq.1.step hl ⟨_,rfl⟩ he0)) :) ?_
  induction W using y_0 <;> kernel_rfl
theorem ta_ok (W : Wd) (O : (BB W).Ok) : ∀ m, (S_ta W m).Ok
  | 0 => fun q hq => ta_end W O 0 q hq hq.m0
  | m + 1 => fun q hq => by
    by_cases hl : (q.l 1).length ≤ (q.i 0).toNat
    · exact ta_end W O (m + 1) q hq hl
    · exact ta_s W O m (ta_ok W O m) q hq (by lia)
theorem taf_ok (W : Wd) (O : (BB W).Ok) (m : Nat) : (S_taf W (m + 1)).Ok := fun q hq => by
  exact taf_s W O m (ta_ok W O m) q hq hq.2
theorem taa_true (W : Wd) (O : (BB W).Ok) (m : Nat) (q : Lt) (hq : (S_taa W (m + 1)).P q) (hb : W.b2 = true) : At (S_taa W (m + 1)) 100 q := by
  refine tri_f O (stdT _) [U (S_taf W (m + 1)) (taf_ok W O m) on_taf] 2000 100 (hs := [0,3,0,4,0,0,0,0]) (is := [0,0,0])
    (fun (ρ : Rho) => ob hq <| fun he0 : MpR (gS tlS) (q.i 0) (q.l 1) (q.l 0) ((ρ.2 0).l 0) => fin (S_taa W (m + 1)) q (lt [] [(ρ.2 0).2 0,(ρ.2 0).2 1] [] [] [(ρ.2 0).5 0] [(ρ.2 0).6 0] []) (he0) :) ?_
  induction W, hb using y_true <;> kernel_rfl
theorem taa_false (W : Wd) (O : (BB W).Ok) (m : Nat) (q : Lt) (hq : (S_taa W (m + 1)).P q) (hb : W.b2 = false) : At (S_taa W (m + 1)) 100 q := by
  refine tri_f O (stdT _) [U (S_taf W (m + 1)) (taf_ok W O m) on_taf] 2000 100 (hs := hx 14 0x1000c2002002080) (is := [0,0,0])
    (fun (ρ : Rho) => ob hq <| fun he0 : MpR (gS tlS) (q.i 0) (q.l 1) (q.l 0) ((ρ.2 0).l 0) => fin (S_taa W (m + 1)) q (lt [] [(ρ.2 0).2 0,(ρ.2 0).2 1] [] [] [(ρ.2 0).5 0] [(ρ.2 0).6 0] []) (he0) :) ?_
  induction W, hb using y_false <;> kernel_rfl
theorem taa_ok (W : Wd) (O : (BB W).Ok) (m : Nat) : (S_taa W (m + 1)).Ok := fun q hq => by
  cases hb : W.b2 with
  | true => exact taa_true W O m q hq hb
  | false => exact taa_false W O m q hq hb
noncomputable def S_en (W : Wd) (m : Nat) : Sp (BB W) :=
  let B := BB W
  { d := 100
    c := fun q => .compLoop (exOf (lwS W.w [8])) 0 (.ref (q.a 2)) (.ref (q.a 3)) (compEnv (exOf (lwS W.w [8])) (lwEnv W.w (q.a 1) 0 0 0 0 0) (q.a 0) [])
    P := fun q => MpP isIv (q.i 0) (q.l 1) (q.l 0) m
    pre := fun q => [((q.a 0),dictO [kv B s_x (q.t 0) (q.v 0)] 1),((q.a 2),fieldsO tLI [(.ref (q.a 4)),(.int (q.i 0) (q.t 1))]),((q.a 3),listO (q.l 0) (q.t 2)),((q.a 4),listO (q.l 1) (q.t 3))]
    R := fun q e => MpR (gS enS) (q.i 0) (q.l 1) (q.l 0) (e.l 0)
    res := fun q e => .ok .next
    out := fun q e => [((q.a 0),dictO [kv B s_x (q.t 0) (e.v 0)] 1),((q.a 3),listO (e.l 0) (e.t 0)),((q.a 4),listO (q.l 1) (q.t 3))] }
noncomputable def on_en : Code → View → Lt := fun c V => lt [(cEnv c).locals,envFrame (cEnv c),valA (cIt c),valA (cAcc c),valA (nthV (sQ V 1) 0)] [kT V 0 0,qT V 1 1,eP V 2,eP V 3] [qI V 1 1] [] [dV V 0 0] [sQ V 2,sQ V 3] []
noncomputable def S_enf (W : Wd) (m : Nat) : Sp (BB W) :=
  let B := BB W
  { d := 100
    c := fun q => .compLoop (exOf (lwS W.w [8])) 0 (.ref (q.a 2)) (.ref (q.a 3)) (compEnv (exOf (lwS W.w [8])) (lwEnv W.w (q.a 1) 0 0 0 0 0) (q.a 0) [])
    P := fun q => MpP isIv (q.i 0) (q.l 1) (q.l 0) m ∧ (q.i 0).toNat < (q.l 1).length
    pre := fun q => [((q.a 0),dictO [] 0),((q.a 2),fieldsO tLI [(.ref (q.a 4)),(.int (q.i 0) (q.t 0))]),((q.a 3),listO (q.l 0) (q.t 1)),((q.a 4),listO (q.l 1) (q.t 2))]
    R := fun q e => MpR (gS enS) (q.i 0) (q.l 1) (q.l 0) (e.l 0)
    res := fun q e => .ok .next
    out := fun q e => [((q.a 0),dictO [kv B s_x (e.t 0) (e.v 0)] 1),((q.a 3),listO (e.l 0) (e.t 1)),((q.a 4),listO (q.l 1) (q.t 2))] }
noncomputable def on_enf : Code → View → Lt := fun c V => lt [(cEnv c).locals,envFrame (cEnv c),valA (cIt c),valA (cAcc c),valA (nthV (sQ V 1) 0)] [qT V 1 1,eP V 2,eP V 3] [qI V 1 1] [] [] [sQ V 2,sQ V 3] []
noncomputable def S_ena (W : Wd) (m : Nat) : Sp (BB W) := Sp.start (S_enf W m)
noncomputable abbrev on_ena := on_enf
theorem en_end (W : Wd) (O : (BB W).Ok) (m : Nat) (q : Lt) (hq : (S_en W m).P q) (hl : (q.l 1).length ≤ (q.i 0).toNat) : At (S_en W m) 100 q := by
  refine tri_f O (stdT _) [] 2000 100 (hs := hx 12 0x42084082005080080) (is := [2,3,3])
    (fun (ρ : Rho) => ob hl <| fin (S_en W m) q (lt [] [(q.t 2)] [] [] [(q.v 0)] [(q.l 0)] []) ((hq.fin hl)) :) ?_
  induction W using y_0 <;> kernel_rfl
theorem en_s (W : Wd) (O : (BB W).Ok) (m : Nat) (ih : (S_en W m).Ok) (q : Lt) (hq : (S_en W (m + 1)).P q) (hl : (q.i 0).toNat < (q.l 1).length) : At (S_en W (m + 1)) 100 q := by
  refine tri_f O (stdT _) [U (S_en W m) ih on_en] 2000 100 (hs := hx 42 0x410411000c3782100002020081001041502015080081042084082085080080) (is := [0,0,0])
    (fun (ρ : Rho) => let z0 := itemAt ([Value.str (mS [10]) (ρ.n 1)]++([Value.str (mS [13]) (ρ.n 2)]++([Value.str (mS [13,10]) (ρ.n 3)]++[]))) (Int.toNat (Int.fmod (Int.fdiv (shI (itemAt (q.l 1) (Int.toNat (q.i 0)))) 12) 3)); let z1 := shI (itemAt (q.l 1) (q.i 0).toNat); ob (hq.item id hl) <| ob (dv12 z1) <| ob c30 <| ob (en_ob z1 (ρ.1 1) (ρ.1 2) (ρ.1 3)) <| ob hq.ob <| ob (hq.nextE hl (ρ.1 1) (ρ.1 2) (ρ.1 3)) <| fun he0 : MpR (gS enS) (q.i 0 + 1 : Int) (q.l 1) (q.l 0++[Value.str (shS z0) (shT z0)]) ((ρ.2 0).l 0) => fin (S_en W (m + 1)) q (lt [] [(ρ.2 0).2 0] [] [] [(ρ.2 0).5 0] [(ρ.2 0).6 0] []) ((hq.step hl (en_g _ (ρ.1 1) (ρ.1 2) (ρ.1 3) _) he0)) :) ?_
  induction W using y_0 <;> kernel_rfl
theorem enf_s (W : Wd) (O : (BB W).Ok) (m : Nat) (ih : (S_en W m).Ok) (q : Lt) (hq : (S_enf W (m + 1)).P q) (hl : (q.i 0).toNat < (q.l 1).length) : At (S_enf W (m + 1)) 100 q := by
  refine tri_f O (stdT _) [U (S_en W m) ih on_en] 2000 100 (hs := hx 42 0x410411000c3782100002020081001041502015080081042084082085080080) (is := [0,0,0])
    (fun (ρ : Rho) => let z0 := itemAt ([Value.str (mS [10]) (ρ.n 1)]++([Value.str (mS [13]) (ρ.n 2)]++([Value.str (mS [13,10]) (ρ.n 3)]++[]))) (Int.toNat (Int.fmod (Int.fdiv (shI (itemAt (q.l 1) (Int.toNat (q.i 0)))) 12) 3)); let z1 := shI (itemAt (q.l 1) (q.i 0).toNat); ob (hq.1.item id hl) <| ob (dv12 z1) <| ob c30 <| ob (en_ob z1 (ρ.1 1) (ρ.1 2) (ρ.1 3)) <| ob hq.1.ob <| ob (hq.1.nextE hl (ρ.1 1) (ρ.1 2) (ρ.1 3)) <| fun he0 : MpR (gS enS) (q.i 0 + 1 : Int) (q.l 1) (q.l 0++[Value.str (shS z0) (shT z0)]) ((ρ.2 0).l 0) => fin (S_enf W (m + 1)) q (lt [] [ρ.1 0,(ρ.2 0).2 0] [] [] [(ρ.2 0).5 0] [(ρ.2 0).6 0] []) ((hq.1.step hl (en_g _ (ρ.1 1) (ρ.1 2) (ρ.1 3) _) he0)) :) ?_
  induction W using y_0 <;> kernel_rfl
theorem en_ok (W : Wd) (O : (BB W).Ok) : ∀ m, (S_en W m).Ok
  | 0 => fun q hq => en_end W O 0 q hq hq.m0
  | m + 1 => fun q hq => by
    by_cases hl : (q.l 1).length ≤ (q.i 0).toNat
    · exact en_end W O (m + 1) q hq hl
    · exact en_s W O m (en_ok W O m) q hq (by lia)
theorem enf_ok (W : Wd) (O : (BB W).Ok) (m : Nat) : (S_enf W (m + 1)).Ok := fun q hq => by
  exact enf_s W O m (en_ok W O m) q hq hq.2
theorem ena_true (W : Wd) (O : (BB W).Ok) (m : Nat) (q : Lt) (hq : (S_ena W (m + 1)).P q) (hb : W.b2 = true) : At (S_ena W (m + 1)) 100 q := by
  refine tri_f O (stdT _) [U (S_enf W (m + 1)) (enf_ok W O m) on_enf] 2000 100 (hs := [0,3,0,4,0,0,0,0]) (is := [0,0,0])
    (fun (ρ : Rho) => ob hq <| fun he0 : MpR (gS enS) (q.i 0) (q.l 1) (q.l 0) ((ρ.2 0).l 0) => fin (S_ena W (m + 1)) q (lt [] [(ρ.2 0).2 0,(ρ.2 0).2 1] [] [] [(ρ.2 0).5 0] [(ρ.2 0).6 0] []) (he0) :) ?_
  induction W, hb using y_true <;> kernel_rfl
theorem ena_false (W : Wd) (O : (BB W).Ok) (m : Nat) (q : Lt) (hq : (S_ena W (m + 1)).P q) (hb : W.b2 = false) : At (S_ena W (m + 1)) 100 q := by
  refine tri_f O (stdT _) [U (S_enf W (m + 1)) (enf_ok W O m) on_enf] 2000 100 (hs := hx 14 0x1000c2002002080) (is := [0,0,0])
    (fun (ρ : Rho) => ob hq <| fun he0 : MpR (gS enS) (q.i 0) (q.l 1) (q.l 0) ((ρ.2 0).l 0) => fin (S_ena W (m + 1)) q (lt [] [(ρ.2 0).2 0,(ρ.2 0).2 1] [] [] [(ρ.2 0).5 0] [(ρ.2 0).6 0] []) (he0) :) ?_
  induction W, hb using y_false <;> kernel_rfl
theorem ena_ok (W : Wd) (O : (BB W).Ok) (m : Nat) : (S_ena W (m + 1)).Ok := fun q hq => by
  cases hb : W.b2 with
  | true => exact ena_true W O m q hq hb
  | false => exact ena_false W O m q hq hb
end Mine
end
section
namespace Mine
open PySem PySem.Spec PySem.Calls PyProof.Rows PySem.W PySem.W.X PySem.Builtin PySem.Builtin.Str PySem.Builtin.Int PySem.StrLaws
theorem getS {l : List Value} (h : AllStr l) {k : Int} (h0 : 0 ≤ k) (h1 : k.toNat < l.length) (h2 : l.length ≤ 1000) : (0 ≤ k ∧ k.toNat < l.length ∧ l.length ≤ sizeLine) ∧ itemAt l k.toNat = .str (shS (itemAt l k.toNat)) (shT (itemAt l k.toNat)) := by
  have := line1k
  exact ⟨⟨h0, h1, by lia⟩, h _ (item_mem h1)⟩
theorem rep46 : ∀ g : Nat, (List.replicate g [46]).flatten = List.replicate g 46
  | 0 => rfl
  | g + 1 => by rw [List.replicate_succ, List.flatten_cons, rep46 g]; rfl
theorem repS_eq (n : Int) : repS ⟨#[46]⟩ n = sL (List.replicate n.toNat 46) := by
  unfold repS sL
  congr 1
  show (List.flatten (List.replicate n.toNat [46])).toArray = _
  rw [rep46]
theorem repS_len (n : Int) : (repS ⟨#[46]⟩ n).length = n.toNat := by rw [repS_eq, sL_len, List.length_replicate]
theorem RmR.fin {f : Int → Str} {cur left : Int} {xs : List Value} (h : AllStr xs) (h0 : left ≤ 0) : RmR f cur left xs xs := ⟨h, by rw [show left.toNat = 0 by lia]; simp [rmL]⟩
theorem RmR.step {f : Int → Str} {cur left : Int} {xs xs' : List Value} (h0 : 0 < left) {t : Tok} (r : RmR f (cur + 1) (left - 1) (xs ++ [.str (f cur) t]) xs') : RmR f cur left xs xs' := by
  refine ⟨r.xa, ?_⟩
  rw [r.xm, show left.toNat = (left - 1).toNat + 1 by lia, rmL]
  simp [shS]
section
variable {cur left o : Int} {hs ts es xs xs' : List Value} {m : Nat}
theorem MlP.m0 (h : MlP cur left hs ts es xs 0) : left ≤ 0 := h.rg.m0
theorem MlP.fin {f : Int → Str} (h : MlP cur left hs ts es xs m) (h0 : left ≤ 0) : RmR f cur left xs xs := RmR.fin h.xa h0
theorem MlP.gh (h : MlP cur left hs ts es xs m) (h0 : 0 < left) : (0 ≤ cur ∧ cur.toNat < hs.length ∧ hs.length ≤ sizeLine) ∧ itemAt hs cur.toNat = .int (shI (itemAt hs cur.toNat)) (shT (itemAt hs cur.toNat)) := by
  have := h.rg.c0; have := h.cl; have := h.h4
  exact gtOb h.ha h.rg.c0 (by lia) (by lia)
theorem MlP.hbb (h : MlP cur left hs ts es xs m) (h0 : 0 < left) : 0 ≤ shI (itemAt hs cur.toNat) ∧ shI (itemAt hs cur.toNat) ≤ 5 := h.hb _ (item_mem (h.gh h0).1.2.1)
theorem MlP.gt (h : MlP cur left hs ts es xs m) (h0 : 0 < left) : (0 ≤ cur ∧ cur.toNat < ts.length ∧ ts.length ≤ sizeLine) ∧ itemAt ts cur.toNat = .str (shS (itemAt ts cur.toNat)) (shT (itemAt ts cur.toNat)) := by
  have := h.rg.c0; have := h.cl; have := h.h4; have := h.tl
  exact getS h.ta h.rg.c0 (by lia) (by lia)
theorem MlP.ge (h : MlP cur left hs ts es xs m) (h0 : 0 < left) : (0 ≤ cur ∧ cur.toNat < es.length ∧ es.length ≤ sizeLine) ∧ itemAt es cur.toNat = .str (shS (itemAt es cur.toNat)) (shT (itemAt es cur.toNat)) := by
  have := h.rg.c0; have := h.cl; have := h.h4; have := h.el
  exact getS h.ea h.rg.c0 (by lia) (by lia)
theorem mul46 {a : Int} (h : 0 ≤ a ∧ a ≤ 100) : (a ≤ (sizeLine : Int) ∧ Str.length ⟨#[46]⟩ * a.toNat ≤ sizeLine) ∧ -(2 : Int) ^ (62 : Nat) ≤ a := by
  have := line1k
  show (a ≤ (sizeLine : Int) ∧ 1 * a.toNat ≤ sizeLine) ∧ _
  lia
theorem MlP.mu (h : MlP cur left hs ts es xs m) (h0 : 0 < left) : (shI (itemAt hs cur.toNat) ≤ (sizeLine : Int) ∧ Str.length ⟨#[46]⟩ * (shI (itemAt hs cur.toNat)).toNat ≤ sizeLine) ∧ -(2 : Int) ^ (62 : Nat) ≤ shI (itemAt hs cur.toNat) := mul46 (by have := h.hbb h0; lia)
theorem MlP.l1 (h : MlP cur left hs ts es xs m) (h0 : 0 < left) : Str.length (repS ⟨#[46]⟩ (shI (itemAt hs cur.toNat)) ++ ⟨#[92]⟩) ≤ 6 := by
  have := h.hbb h0
  rw [Str.length_append, repS_len]
  show _ + 1 ≤ _
  lia
theorem MlP.l2 (h : MlP cur left hs ts es xs m) (h0 : 0 < left) : Str.length (repS ⟨#[46]⟩ (shI (itemAt hs cur.toNat)) ++ ⟨#[92]⟩ ++ shS (itemAt ts cur.toNat)) ≤ 8 := by
  have := h.l1 h0; have := h.t2 _ (item_mem (h.gt h0).1.2.1)
  rw [Str.length_append]; lia
theorem MlP.l3 (h : MlP cur left hs ts es xs m) (h0 : 0 < left) : Str.length (mlF hs ts es cur) ≤ 10 := by
  have := h.l2 h0; have := h.e2 _ (item_mem (h.ge h0).1.2.1)
  unfold mlF
  rw [Str.length_append]; lia
theorem le1k {a b : Nat} (h : a ≤ b) (hb : b ≤ 1000 := by decide) : a ≤ sizeLine := by have := line1k; lia
theorem MlP.ob (h : MlP cur left hs ts es xs m) : xs.length ≤ sizeLine := by have := h.xl; have := line1k; lia
theorem MlP.next (h : MlP cur left hs ts es xs (m + 1)) (h0 : 0 < left) {x : Str} {t : Tok} : MlP (cur + 1) (left - 1) hs ts es (xs ++ [.str x t]) m := by
  have := h.cl; have := h.xl
  exact ⟨h.rg.next h0, by lia, h.h4, h.tl, h.el, h.ha, h.hb, h.ta, h.t2, h.ea, h.e2, h.xa.app (AllStr.one _ _), by simp; lia⟩
theorem WcP.m0 (h : WcP o cur left hs ts xs 0) : left ≤ 0 := h.ml.m0
theorem WcP.fin {f : Int → Str} (h : WcP o cur left hs ts xs m) (h0 : left ≤ 0) : RmR f cur left xs xs := h.ml.fin h0
theorem WcP.mu (h : WcP o cur left hs ts xs m) (h0 : 0 < left) : (shI (itemAt hs cur.toNat) + o ≤ (sizeLine : Int) ∧ Str.length ⟨#[46]⟩ * (shI (itemAt hs cur.toNat) + o).toNat ≤ sizeLine) ∧ -(2 : Int) ^ (62 : Nat) ≤ shI (itemAt hs cur.toNat) + o := mul46 (by have := h.ml.hbb h0; have := h.ob; lia)
theorem WcP.w2 (h : WcP o cur left hs ts xs m) (h0 : 0 < left) : Str.length (wcF o hs ts cur) ≤ 10 := by
  have := h.ml.hbb h0; have := h.ml.t2 _ (item_mem (h.ml.gt h0).1.2.1); have := h.ob
  unfold wcF
  rw [Str.length_append, repS_len]; lia
theorem WcP.next (h : WcP o cur left hs ts xs (m + 1)) (h0 : 0 < left) {x : Str} {t : Tok} : WcP o (cur + 1) (left - 1) hs ts (xs ++ [.str x t]) m := ⟨h.ml.next h0, h.ob⟩
end
section
variable {cur left : Int} {s s' : Str} {m : Nat}
theorem QtP.m0 (h : QtP cur left s 0) : left ≤ 0 := h.rg.m0
theorem QtP.fin (h : QtP cur left s m) (h0 : left ≤ 0) : QtR left s s := ⟨by rw [show left.toNat = 0 by lia]; rfl⟩
theorem big_line : 100000 ≤ sizeLine := by decide
theorem QtP.ob (h : QtP cur left s m) : 8 * s.length + 8 ≤ sizeLine := by
  have := h.sl; have := big_line
  have : s.length * 1 ≤ s.length * 4 ^ left.toNat := Nat.mul_le_mul_left _ (Nat.pow_le_pow_right (by decide : 0 < 4) (Nat.zero_le _))
  lia
theorem quoted_len (x : Str) : (quoted x).length ≤ 4 * x.length := by
  unfold quoted quotedL
  rw [sL_len]
  have h1 := crlf_len x.cps.toList
  have h2 := dots_len (crlf x.cps.toList) true
  have h3 : x.cps.toList.length = x.length := by simp; rfl
  lia
theorem QtP.next (h : QtP cur left s (m + 1)) (h0 : 0 < left) : QtP (cur + 1) (left - 1) (quoted s) m := by
  have h1 := h.sl; have h2 := quoted_len s
  rw [show left.toNat = (left - 1).toNat + 1 by lia, Nat.pow_succ] at h1
  refine ⟨h.rg.next h0, ?_⟩
  generalize 4 ^ (left - 1).toNat = P at *
  calc (quoted s).length * P ≤ (4 * s.length) * P := Nat.mul_le_mul_right _ h2
    _ = s.length * (P * 4) := by rw [Nat.mul_comm 4, Nat.mul_assoc, Nat.mul_comm 4 P]
    _ ≤ _ := h1
theorem QtP.step (h : QtP cur left s (m + 1)) (h0 : 0 < left) (r : QtR (left - 1) (quoted s) s') : QtR left s s' := ⟨by
  rw [r.e, show left.toNat = (left - 1).toNat + 1 by lia]; rfl⟩
end
section
variable {text : Str} {p left n : Int} {xs : List Value} {l l1 tk rest : List Nat} {ws : List (List Nat)}
theorem WoP.l0 (h : WoP text p left xs l []) : left ≤ 0 := by have := h.lw; simp at this; lia
theorem WoP.lp (h : WoP text p left xs l (tk :: ws)) : 0 < left := by have := h.lw; simp at this; lia
theorem WoP.fin (h : WoP text p left xs l []) : WoR text n xs l [] l p n xs := ⟨h.xa, by simp, h.gp.1, h.gp.2.1, by lia⟩
theorem WoP.ob (h : WoP text p left xs l (tk :: ws)) : xs.length ≤ sizeLine := by have := h.xl; have := line1k; lia
theorem WoP.gt (h : WoP text p left xs l ws) : GP text p ⟨#[]⟩ l := h.gp
theorem lx3_len {l tk rest : List Nat} (z : Lx3 l tk rest) : rest.length ≤ l.length := by
  induction z with
  | ws _ => simp
  | esc _ ih => simp; lia
  | chr _ _ _ ih => simp; lia
theorem lx2_len {l tk rest : List Nat} (z : Lx2 l tk rest) : rest.length ≤ l.length := by
  induction z with
  | q => simp
  | esc _ ih => simp; lia
  | chr _ _ _ ih => simp; lia
theorem lx1_len {l tk rest : List Nat} (z : Lx1 l tk rest) : rest.length ≤ l.length := by
  induction z with
  | fin => simp
  | ws _ _ ih => simp; lia
  | quo h => have := lx2_len h; simp; lia
  | esc h => have := lx3_len h; simp; lia
  | chr _ _ _ h => have := lx3_len h; simp; lia
theorem WoP.next (h : WoP text p left xs l (tk :: ws)) (z : Lx1 l tk l1) {p1 n1 : Int} {tok : Str} {t : Tok} (r : GR text n ⟨#[]⟩ l tk l1 p1 n1 tok) : WoP text p1 (left - 1) (xs ++ [Value.str tok t]) l1 ws := by
  have h1 := h.lw; have h2 := h.xl; have h3 := lx1_len z; have h4 := h.gp.2.2
  simp only [List.length_cons] at h1 h2
  exact ⟨by lia, ⟨r.1, r.2.1, by lia⟩, h.xa.app (AllStr.one _ _), by simp; lia⟩
theorem WoP.step (h : WoP text p left xs l (tk :: ws)) {p1 n1 p2 n2 : Int} {tok : Str} {t : Tok} {xs' : List Value} (r : GR text n ⟨#[]⟩ l tk l1 p1 n1 tok) (r2 : WoR text n1 (xs ++ [Value.str tok t]) l1 ws rest p2 n2 xs') : WoR text n xs l (tk :: ws) rest p2 n2 xs' := by
  refine ⟨r2.xa, ?_, r2.p0, r2.rm, ?_⟩
  · rw [r2.xm, List.map_append, List.append_assoc]
    congr 1
    show shS (Value.str tok t) :: _ = _
    have e : tok = sL tk := r.2.2.1.trans (Str.empty_append _)
    rw [List.map_cons, ← e]
    rfl
  · have e1 := r2.nl; have e2 := r.2.2.2
    lia
end
end Mine
end
section

namespace Mine
open PySem PySem.Spec PySem.Calls PyProof.Rows PySem.W PySem.W.X PySem.Builtin.Str
noncomputable def S_ml (W : Wd) (m : Nat) : Sp (BB W) :=
  let B := BB W
  let pr := fun q : Lt => [((q.a 0),dictO [kv B s_k (q.t 0) (q.v 0)] 1),((q.a 2),fieldsO tRG [(.int (q.i 0) (q.t 1)),(.int (q.i 1) (q.t 2)),(.int 1 (q.t 3))]),((q.a 3),listO (q.l 0) (q.t 4)),((q.a 5),cellO (.ref (q.a 7))),((q.a 7),listO (q.l 1) (q.t 5)),((q.a 4),cellO (.ref (q.a 8))),((q.a 8),listO (q.l 2) (q.t 6)),((q.a 6),cellO (.ref (q.a 9))),((q.a 9),listO (q.l 3) (q.t 7))]
  { d := 100
    c := fun q => .compLoop (kids (exOf (lwS W.w [9])) [1]) 0 (.ref (q.a 2)) (.ref (q.a 3)) (compEnv (kids (exOf (lwS W.w [9])) [1]) (lwEnv W.w (q.a 1) 0 (q.a 5) (q.a 4) (q.a 6) 0) (q.a 0) [(s_tails, (q.a 4)), (s_heights, (q.a 5)), (s_ends, (q.a 6))])
    P := fun q => MlP (q.i 0) (q.i 1) (q.l 1) (q.l 2) (q.l 3) (q.l 0) m
    pre := pr
    R := fun q e => RmR (mlF (q.l 1) (q.l 2) (q.l 3)) (q.i 0) (q.i 1) (q.l 0) (e.l 0)
    res := fun q e => .ok .next
    out := fun q e => [((q.a 0),dictO [kv B s_k (q.t 0) (e.v 0)] 1),((q.a 3),listO (e.l 0) (e.t 0))]++(pr q).drop 3 }
noncomputable def on_ml : Code → View → Lt := fun c V => lt [(cEnv c).locals,envFrame (cEnv c),valA (cIt c),valA (cAcc c),envCell 0 (cEnv c),envCell 1 (cEnv c),envCell 2 (cEnv c),cA V 3,cA V 5,cA V 7] [kT V 0 0,qT V 1 0,qT V 1 1,qT V 1 2,eP V 2,eP V 4,eP V 6,eP V 8] [qI V 1 0,qI V 1 1] [] [dV V 0 0] [sQ V 2,sQ V 4,sQ V 6,sQ V 8] []
noncomputable def S_mlf (W : Wd) (m : Nat) : Sp (BB W) :=
  let B := BB W
  let pr := fun q : Lt => [((q.a 0),dictO [] 0),((q.a 2),fieldsO tRG [(.int (q.i 0) (q.t 0)),(.int (q.i 1) (q.t 1)),(.int 1 (q.t 2))]),((q.a 3),listO (q.l 0) (q.t 3)),((q.a 5),cellO (.ref (q.a 7))),((q.a 7),listO (q.l 1) (q.t 4)),((q.a 4),cellO (.ref (q.a 8))),((q.a 8),listO (q.l 2) (q.t 5)),((q.a 6),cellO (.ref (q.a 9))),((q.a 9),listO (q.l 3) (q.t 6))]
  { d := 100
    c := fun q => .compLoop (kids (exOf (lwS W.w [9])) [1]) 0 (.ref (q.a 2)) (.ref (q.a 3)) (compEnv (kids (exOf (lwS W.w [9])) [1]) (lwEnv W.w (q.a 1) 0 (q.a 5) (q.a 4) (q.a 6) 0) (q.a 0) [(s_tails, (q.a 4)), (s_heights, (q.a 5)), (s_ends, (q.a 6))])
    P := fun q => MlP (q.i 0) (q.i 1) (q.l 1) (q.l 2) (q.l 3) (q.l 0) m ∧ 0 < (q.i 1)
    pre := pr
    R := fun q e => RmR (mlF (q.l 1) (q.l 2) (q.l 3)) (q.i 0) (q.i 1) (q.l 0) (e.l 0)
    res := fun q e => .ok .next
    out := fun q e => [((q.a 0),dictO [kv B s_k (e.t 0) (e.v 0)] 1),((q.a 3),listO (e.l 0) (e.t 1))]++(pr q).drop 3 }
noncomputable def on_mlf : Code → View → Lt := fun c V => lt [(cEnv c).locals,envFrame (cEnv c),valA (cIt c),valA (cAcc c),envCell 0 (cEnv c),envCell 1 (cEnv c),envCell 2 (cEnv c),cA V 3,cA V 5,cA V 7] [qT V 1 0,qT V 1 1,qT V 1 2,eP V 2,eP V 4,eP V 6,eP V 8] [qI V 1 0,qI V 1 1] [] [] [sQ V 2,sQ V 4,sQ V 6,sQ V 8] []
noncomputable def S_mla (W : Wd) (m : Nat) : Sp (BB W) := Sp.start (S_mlf W m)
noncomputable abbrev on_mla := on_mlf
theorem ml_end (W : Wd) (O : (BB W).Ok) (m : Nat) (q : Lt) (hq : (S_ml W m).P q) (hl : (q.i 1) ≤ 0) : At (S_ml W m) 100 q := by
  refine tri_f O (stdT _) [] 2000 100 (hs := [0,2,0,2,6,0,2,2,2,1]) (is := [2,3,3,3,3,3,3,3])
    (fun (ρ : Rho) => ob hl <| fin (S_ml W m) q (lt [] [(q.t 4)] [] [] [(q.v 0)] [(q.l 0)] []) ((hq.fin hl)) :) ?_
  induction W using y_0 <;> kernel_rfl
theorem ml_s (W : Wd) (O : (BB W).Ok) (m : Nat) (ih : (S_ml W m).Ok) (q : Lt) (hq : (S_ml W (m + 1)).P q) (hl : 0 < (q.i 1)) : At (S_ml W (m + 1)) 100 q := by
  refine tri_f O (stdT _) [U (S_ml W m) ih on_ml] 2000 100 (hs := hx 79 0x2400c27820c04820022200890092490484820021a00870071c7046482031080000044802140145141101042082082082046080080) (is := [0,0,0,0,0,0,0,0])
    (fun (ρ : Rho) => let z0 := itemAt (q.l 1) ((q.i 0).toNat); let z1 := itemAt (q.l 2) ((q.i 0).toNat); let z2 := itemAt (q.l 3) ((q.i 0).toNat); ob (A := (rngD (It.mk (Value.ref (q.a 2)) (q.i 0) (q.i 1) (1 : Int) #[]) (1))) (hl) <| ob (A := (((0 : Int) ≤ q.i 0 ∧ (q.i 0).toNat < List.length (q.l 1) ∧ List.length (q.l 1) ≤ sizeLine) ∧ itemAt (q.l 1) ((q.i 0).toNat) = Value.int (shI z0) (shT z0))) (hq.gh hl) <| ob (A := ((shI z0 ≤ ↑sizeLine ∧ Str.length (mS [46]) * Int.toNat (shI z0) ≤ sizeLine) ∧ -(2 : Int) ^ 62 ≤ shI z0)) (hq.mu hl) <| ob (A := (Str.length (repS (mS [46]) (shI z0)++mS [92]) ≤ sizeLine)) (le1k (hq.l1 hl)) <| ob (A := (((0 : Int) ≤ q.i 0 ∧ (q.i 0).toNat < List.length (q.l 2) ∧ List.length (q.l 2) ≤ sizeLine) ∧ itemAt (q.l 2) ((q.i 0).toNat) = Value.str (shS z1) (shT z1))) (hq.gt hl) <| ob (A := (Str.length (repS (mS [46]) (shI z0)++mS [92]++shS z1) ≤ sizeLine)) (le1k (hq.l2 hl)) <| ob (A := (((0 : Int) ≤ q.i 0 ∧ (q.i 0).toNat < List.length (q.l 3) ∧ List.length (q.l 3) ≤ sizeLine) ∧ itemAt (q.l 3) ((q.i 0).toNat) = Value.str (shS z2) (shT z2))) (hq.ge hl) <| ob (A := (Str.length (repS (mS [46]) (shI z0)++mS [92]++shS z1++shS z2) ≤ sizeLine)) (le1k (hq.l3 hl)) <| ob (A := (List.length (q.l 0) ≤ sizeLine)) (hq.ob) <| ob (A := (MlP (q.i 0 + 1 : Int) (q.i 1 - 1 : Int) (q.l 1) (q.l 2) (q.l 3) (q.l 0++[Value.str (repS (mS [46]) (shI z0)++mS [92]++shS z1++shS z2) (ρ.n 7)]) m)) (hq.next hl) <| fun he0 : RmR (mlF (q.l 1) (q.l 2) (q.l 3)) (q.i 0 + 1 : Int) (q.i 1 - 1 : Int) (q.l 0++[Value.str (repS (mS [46]) (shI (itemAt (q.l 1) (Int.toNat (q.i 0))))++mS [92]++shS (itemAt (q.l 2) (Int.toNat (q.i 0)))++shS (itemAt (q.l 3) (Int.toNat (q.i 0)))) (ρ.n 7)]) ((ρ.2 0).l 0) => fin (S_ml W (m + 1)) q (lt [] [(ρ.2 0).2 0] [] [] [(ρ.2 0).5 0] [(ρ.2 0).6 0] []) ((RmR.step hl he0)) :) ?_
  induction W using y_0 <;> kernel_rfl
theorem mlf_s (W : Wd) (O : (BB W).Ok) (m : Nat) (ih : (S_ml W m).Ok) (q : Lt) (hq : (S_mlf W (m + 1)).P q) (hl : 0 < (q.i 1)) : At (S_mlf W (m + 1)) 100 q := by
  refine tri_f O (stdT _) [U (S_ml W m) ih on_ml] 2000 100 (hs := hx 79 0x2400c27820c04820022200890092490484820021a00870071c7046482031080000044802140145141101042082082082046080080) (is := [0,0,0,0,0,0,0,0])
    (fun (ρ : Rho) => let z0 := itemAt (q.l 1) ((q.i 0).toNat); let z1 := itemAt (q.l 2) ((q.i 0).toNat); let z2 := itemAt (q.l 3) ((q.i 0).toNat); ob (A := (rngD (It.mk (Value.ref (q.a 2)) (q.i 0) (q.i 1) (1 : Int) #[]) (1))) (hl) <| ob (A := (((0 : Int) ≤ q.i 0 ∧ (q.i 0).toNat < List.length (q.l 1) ∧ List.length (q.l 1) ≤ sizeLine) ∧ itemAt (q.l 1) ((q.i 0).toNat) = Value.int (shI z0) (shT z0))) (hq.1.gh hl) <| ob (A := ((shI z0 ≤ ↑sizeLine ∧ Str.length (mS [46]) * Int.toNat (shI z0) ≤ sizeLine) ∧ -(2 : Int) ^ 62 ≤ shI z0)) (hq.1.mu hl) <| ob (A := (Str.length (repS (mS [46]) (shI z0)++mS [92]) ≤ sizeLine)) (le1k (hq.1.l1 hl)) <| ob (A := (((0 : Int) ≤ q.i 0 ∧ (q.i 0).toNat < List.length (q.l 2) ∧ List.length (q.l 2) ≤ sizeLine) ∧ itemAt (q.l 2) ((q.i 0).toNat) = Value.str (shS z1) (shT z1))) (hq.1.gt hl) <| ob (A := (Str.length (repS (mS [46]) (shI z0)++mS [92]++shS z1) ≤ sizeLine)) (le1k (hq.1.l2 hl)) <| ob (A := (((0 : Int) ≤ q.i 0 ∧ (q.i 0).toNat < List.length (q.l 3) ∧ List.length (q.l 3) ≤ sizeLine) ∧ itemAt (q.l 3) ((q.i 0).toNat) = Value.str (shS z2) (shT z2))) (hq.1.ge hl) <| ob (A := (Str.length (repS (mS [46]) (shI z0)++mS [92]++shS z1++shS z2) ≤ sizeLine)) (le1k (hq.1.l3 hl)) <| ob (A := (List.length (q.l 0) ≤ sizeLine)) (hq.1.ob) <| ob (A := (MlP (q.i 0 + 1 : Int) (q.i 1 - 1 : Int) (q.l 1) (q.l 2) (q.l 3) (q.l 0++[Value.str (repS (mS [46]) (shI z0)++mS [92]++shS z1++shS z2) (ρ.n 7)]) m)) (hq.1.next hl) <| fun he0 : RmR (mlF (q.l 1) (q.l 2) (q.l 3)) (q.i 0 + 1 : Int) (q.i 1 - 1 : Int) (q.l 0++[Value.str (repS (mS [46]) (shI (itemAt (q.l 1) (Int.toNat (q.i 0))))++mS [92]++shS (itemAt (q.l 2) (Int.toNat (q.i 0)))++shS (itemAt (q.l 3) (Int.toNat (q.i 0)))) (ρ.n 7)]) ((ρ.2 0).l 0) => fin (S_mlf W (m + 1)) q (lt [] [ρ.1 1,(ρ.2 0).2 0] [] [] [(ρ.2 0).5 0] [(ρ.2 0).6 0] []) ((RmR.step hl he0)) :) ?_
  induction W using y_0 <;> kernel_rfl
theorem ml_ok (W : Wd) (O : (BB W).Ok) : ∀ m, (S_ml W m).Ok
  | 0 => fun q hq => ml_end W O 0 q hq hq.m0
  | m + 1 => fun q hq => by
    by_cases hl : (q.i 1) ≤ 0
    · exact ml_end W O (m + 1) q hq hl
    · exact ml_s W O m (ml_ok W O m) q hq (by lia)
theorem mlf_ok (W : Wd) (O : (BB W).Ok) (m : Nat) : (S_mlf W (m + 1)).Ok := fun q hq => by
  exact mlf_s W O m (ml_ok W O m) q hq hq.2
theorem mla_true (W : Wd) (O : (BB W).Ok) (m : Nat) (q : Lt) (hq : (S_mla W (m + 1)).P q) (hb : W.b2 = true) : At (S_mla W (m + 1)) 100 q := by
  refine tri_f O (stdT _) [U (S_mlf W (m + 1)) (mlf_ok W O m) on_mlf] 2000 100 (hs := hx 13 0x2400c0) (is := [0,0,0,0,0,0,0,0])
    (fun (ρ : Rho) => ob hq <| fun he0 : RmR (mlF (q.l 1) (q.l 2) (q.l 3)) (q.i 0) (q.i 1) (q.l 0) ((ρ.2 0).l 0) => fin (S_mla W (m + 1)) q (lt [] [(ρ.2 0).2 0,(ρ.2 0).2 1] [] [] [(ρ.2 0).5 0] [(ρ.2 0).6 0] []) (he0) :) ?_
  induction W, hb using y_true <;> kernel_rfl
theorem mla_false (W : Wd) (O : (BB W).Ok) (m : Nat) (q : Lt) (hq : (S_mla W (m + 1)).P q) (hb : W.b2 = false) : At (S_mla W (m + 1)) 100 q := by
  refine tri_f O (stdT _) [U (S_mlf W (m + 1)) (mlf_ok W O m) on_mlf] 2000 100 (hs := hx 19 0x2400c2002002080) (is := [0,0,0,0,0,0,0,0])
    (fun (ρ : Rho) => ob hq <| fun he0 : RmR (mlF (q.l 1) (q.l 2) (q.l 3)) (q.i 0) (q.i 1) (q.l 0) ((ρ.2 0).l 0) => fin (S_mla W (m + 1)) q (lt [] [(ρ.2 0).2 0,(ρ.2 0).2 1] [] [] [(ρ.2 0).5 0] [(ρ.2 0).6 0] []) (he0) :) ?_
  induction W, hb using y_false <;> kernel_rfl
theorem mla_ok (W : Wd) (O : (BB W).Ok) (m : Nat) : (S_mla W (m + 1)).Ok := fun q hq => by
  cases hb : W.b2 with
  | true => exact mla_true W O m q hq hb
  | false => exact mla_false W O m q hq hb
noncomputable def S_qt (W : Wd) (m : Nat) : Sp (BB W) :=
  let B := BB W
  { d := 100
    c := fun q => forC (lwS W.w [10]) (q.a 6) (lwEnv W.w (q.a 0) (q.a 1) (q.a 2) (q.a 3) (q.a 4) (q.a 5))
    P := fun q => QtP (q.i 0) (q.i 1) (q.s 0) m
    pre := fun q => [((q.a 0),frameO [kv B s_script (q.t 0) (q.v 0),kv B s_drawn (q.t 1) (q.v 1),kv B s_total (q.t 2) (q.v 2),kv B s_base (q.t 3) (q.v 3),kv B s_count (q.t 4) (q.v 4),kv B s_mail (q.t 5) (.str (q.s 0) (q.t 6)),kv B s_turn (q.t 7) (q.v 5)] 7),((q.a 6),fieldsO tRG [(.int (q.i 0) (q.t 8)),(.int (q.i 1) (q.t 9)),(.int 1 (q.t 10))])]
    R := fun q e => QtR (q.i 1) (q.s 0) (e.s 0)
    res := fun q e => .ok .next
    out := fun q e => [((q.a 0),frameO [kv B s_script (q.t 0) (q.v 0),kv B s_drawn (q.t 1) (q.v 1),kv B s_total (q.t 2) (q.v 2),kv B s_base (q.t 3) (q.v 3),kv B s_count (q.t 4) (q.v 4),kv B s_mail (q.t 5) (.str (e.s 0) (e.t 0)),kv B s_turn (q.t 7) (e.v 0)] 7)] }
noncomputable def on_qt : Code → View → Lt := fun c V => lt [(cEnv c).locals,envCell 4 (cEnv c),envCell 3 (cEnv c),envCell 2 (cEnv c),envCell 1 (cEnv c),envCell 0 (cEnv c),valA (cIt c)] [kT V 0 0,kT V 0 1,kT V 0 2,kT V 0 3,kT V 0 4,kT V 0 5,dT V 0 5,kT V 0 6,qT V 1 0,qT V 1 1,qT V 1 2] [qI V 1 0,qI V 1 1] [valS (dV V 0 5)] [dV V 0 0,dV V 0 1,dV V 0 2,dV V 0 3,dV V 0 4,dV V 0 6] [] []
theorem qt_end (W : Wd) (O : (BB W).Ok) (m : Nat) (q : Lt) (hq : (S_qt W m).P q) (hl : (q.i 1) ≤ 0) : At (S_qt W m) 100 q := by
  refine tri_f O (stdT _) [] 2000 100 (hs := [0,2,0,2,6,0,2,2,2,1,0]) (is := [2])
    (fun (ρ : Rho) => ob hl <| fin (S_qt W m) q (lt [] [(q.t 6)] [] [(q.s 0)] [(q.v 5)] [] []) ((hq.fin hl)) :) ?_
  induction W using y_0 <;> kernel_rfl
theorem qt_s (W : Wd) (O : (BB W).Ok) (m : Nat) (ih : (S_qt W m).Ok) (q : Lt) (hq : (S_qt W (m + 1)).P q) (hl : 0 < (q.i 1)) : At (S_qt W (m + 1)) 100 q := by
  refine tri_f O (stdT _) [U (S_qd W) (qd_ok W O) on_qd,U (S_qt W m) ih on_qt] 2000 100 (hs := hx 28 0x810c1040003001001042082082082046080080) (is := [0])
    (fun (ρ : Rho) => ob hl <| ob hq.ob <| fun _ : True => ob (hq.next hl) <| fun he1 : QtR (q.i 1 - 1 : Int) (quoted (q.s 0)) ((ρ.2 1).s 0) => fin (S_qt W (m + 1)) q (lt [] [(ρ.2 1).2 0] [] [(ρ.2 1).s 0] [(ρ.2 1).5 0] [] []) ((hq.step hl he1)) :) ?_
  induction W using y_0 <;> kernel_rfl
theorem qt_ok (W : Wd) (O : (BB W).Ok) : ∀ m, (S_qt W m).Ok
  | 0 => fun q hq => qt_end W O 0 q hq hq.m0
  | m + 1 => fun q hq => by
    by_cases hl : (q.i 1) ≤ 0
    · exact qt_end W O (m + 1) q hq hl
    · exact qt_s W O m (qt_ok W O m) q hq (by lia)
noncomputable def S_qtf (W : Wd) (m : Nat) : Sp (BB W) :=
  let B := BB W
  { d := 100
    c := fun q => forC (lwS W.w [10]) (q.a 6) (lwEnv W.w (q.a 0) (q.a 1) (q.a 2) (q.a 3) (q.a 4) (q.a 5))
    P := fun q => QtP (q.i 0) (q.i 1) (q.s 0) m ∧ 0 < (q.i 1)
    pre := fun q => [((q.a 0),frameO [kv B s_script (q.t 0) (q.v 0),kv B s_drawn (q.t 1) (q.v 1),kv B s_total (q.t 2) (q.v 2),kv B s_base (q.t 3) (q.v 3),kv B s_count (q.t 4) (q.v 4),kv B s_mail (q.t 5) (.str (q.s 0) (q.t 6))] 6),((q.a 6),fieldsO tRG [(.int (q.i 0) (q.t 7)),(.int (q.i 1) (q.t 8)),(.int 1 (q.t 9))])]
    R := fun q e => QtR (q.i 1) (q.s 0) (e.s 0)
    res := fun q e => .ok .next
    out := fun q e => [((q.a 0),frameO [kv B s_script (q.t 0) (q.v 0),kv B s_drawn (q.t 1) (q.v 1),kv B s_total (q.t 2) (q.v 2),kv B s_base (q.t 3) (q.v 3),kv B s_count (q.t 4) (q.v 4),kv B s_mail (q.t 5) (.str (e.s 0) (e.t 0)),kv B s_turn (e.t 1) (e.v 0)] 7)] }
noncomputable def on_qtf : Code → View → Lt := fun c V => lt [(cEnv c).locals,envCell 4 (cEnv c),envCell 3 (cEnv c),envCell 2 (cEnv c),envCell 1 (cEnv c),envCell 0 (cEnv c),valA (cIt c)] [kT V 0 0,kT V 0 1,kT V 0 2,kT V 0 3,kT V 0 4,kT V 0 5,dT V 0 5,qT V 1 0,qT V 1 1,qT V 1 2] [qI V 1 0,qI V 1 1] [valS (dV V 0 5)] [dV V 0 0,dV V 0 1,dV V 0 2,dV V 0 3,dV V 0 4] [] []
theorem qtf_s (W : Wd) (O : (BB W).Ok) (m : Nat) (ih : (S_qt W m).Ok) (q : Lt) (hq : (S_qtf W (m + 1)).P q) (hl : 0 < (q.i 1)) : At (S_qtf W (m + 1)) 100 q := by
  refine tri_f O (stdT _) [U (S_qd W) (qd_ok W O) on_qd,U (S_qt W m) ih on_qt] 2000 100 (hs := hx 28 0x810c1040003001001042082082082046080080) (is := [0])
    (fun (ρ : Rho) => ob hl <| ob hq.1.ob <| fun _ : True => ob (hq.1.next hl) <| fun he1 : QtR (q.i 1 - 1 : Int) (quoted (q.s 0)) ((ρ.2 1).s 0) => fin (S_qtf W (m + 1)) q (lt [] [(ρ.2 1).2 0,ρ.1 1] [] [(ρ.2 1).s 0] [(ρ.2 1).5 0] [] []) ((hq.1.step hl he1)) :) ?_
  induction W using y_0 <;> kernel_rfl
theorem qtf_ok (W : Wd) (O : (BB W).Ok) (m : Nat) : (S_qtf W (m + 1)).Ok := fun q hq => by
  exact qtf_s W O m (qt_ok W O m) q hq hq.2
end Mine
end
section

namespace Mine
open PySem PySem.Spec PySem.Calls PyProof.Rows PySem.W PySem.W.X PySem.Builtin.Str
noncomputable def S_wo (W : Wd) (l : List Nat) (ws : List (List Nat)) (rest : List Nat) : Sp (BB W) :=
  let B := BB W
  { d := 100
    c := fun q => .compLoop (exOf (lwS W.w [12])) 0 (.ref (q.a 2)) (.ref (q.a 3)) (compEnv (exOf (lwS W.w [12])) (lwEnv W.w (q.a 1) 0 0 0 0 (q.a 4)) (q.a 0) [(s_lexer, (q.a 4))])
    P := fun q => WoP (q.s 0) (q.i 3) (q.i 1) (q.l 0) l ws
    pre := fun q => [((q.a 0),dictO [kv B s_k (q.t 0) (q.v 0)] 1),((q.a 2),fieldsO tRG [(.int (q.i 0) (q.t 1)),(.int (q.i 1) (q.t 2)),(.int 1 (q.t 3))]),((q.a 3),listO (q.l 0) (q.t 4)),((q.a 4),cellO (.ref (q.a 5)))]++lxV W (q.a 5) (q.a 6) (q.t 5) (q.i 2) (q.t 6) (q.t 7) (q.a 7) (q.t 8) (q.t 9) (q.t 10) (q.a 8) [] (q.t 11) (q.f 0) (q.a 9) (q.t 12) (q.a 10) (q.a 11) (q.a 12) (q.a 13) (q.a 14) (q.t 13) (q.v 1) (q.l 1) (q.s 0) (q.t 14) (q.a 15) (q.i 3) (q.t 15)
    R := fun q e => WoR (q.s 0) (q.i 2) (q.l 0) l ws rest (e.i 0) (e.i 1) (e.l 0)
    res := fun q e => .ok .next
    out := fun q e => [((q.a 0),dictO [kv B s_k (q.t 0) (e.v 0)] 1),((q.a 3),listO (e.l 0) (e.t 0)),((q.a 4),cellO (.ref (q.a 5)))]++lxV W (q.a 5) (q.a 6) (q.t 5) (e.i 1) (e.t 1) (q.t 7) (q.a 7) (q.t 8) (q.t 9) (q.t 10) (q.a 8) [] (q.t 11) (q.f 0) (q.a 9) (q.t 12) (q.a 10) (q.a 11) (q.a 12) (q.a 13) (q.a 14) (q.t 13) (q.v 1) (q.l 1) (q.s 0) (q.t 14) (q.a 15) (e.i 0) (e.t 2) }
noncomputable def on_wo : Code → View → Lt := fun c V => lt ([(cEnv c).locals,envFrame (cEnv c),valA (cIt c),valA (cAcc c),envCell 0 (cEnv c),cA V 3]++xA V 4) ([kT V 0 0,qT V 1 0,qT V 1 1,qT V 1 2,eP V 2]++xT V 5) [qI V 1 0,qI V 1 1,dI V 5 0,qI V 13 0] [valS (cellV (nthO V 11))] [dV V 0 0,nthV (sQ V 10) 0] [sQ V 2,dropV 2 (sQ V 10)] [fdO (nthO V 7)]
noncomputable def S_wf (W : Wd) (l : List Nat) (ws : List (List Nat)) (rest : List Nat) : Sp (BB W) :=
  let B := BB W
  { d := 100
    c := fun q => .compLoop (exOf (lwS W.w [12])) 0 (.ref (q.a 2)) (.ref (q.a 3)) (compEnv (exOf (lwS W.w [12])) (lwEnv W.w (q.a 1) 0 0 0 0 (q.a 4)) (q.a 0) [(s_lexer, (q.a 4))])
    P := fun q => WoP (q.s 0) (q.i 3) (q.i 1) (q.l 0) l ws ∧ 0 < (q.i 1)
    pre := fun q => [((q.a 0),dictO [] 0),((q.a 2),fieldsO tRG [(.int (q.i 0) (q.t 0)),(.int (q.i 1) (q.t 1)),(.int 1 (q.t 2))]),((q.a 3),listO (q.l 0) (q.t 3)),((q.a 4),cellO (.ref (q.a 5)))]++lxV W (q.a 5) (q.a 6) (q.t 4) (q.i 2) (q.t 5) (q.t 6) (q.a 7) (q.t 7) (q.t 8) (q.t 9) (q.a 8) [] (q.t 10) (q.f 0) (q.a 9) (q.t 11) (q.a 10) (q.a 11) (q.a 12) (q.a 13) (q.a 14) (q.t 12) (q.v 0) (q.l 1) (q.s 0) (q.t 13) (q.a 15) (q.i 3) (q.t 14)
    R := fun q e => WoR (q.s 0) (q.i 2) (q.l 0) l ws rest (e.i 0) (e.i 1) (e.l 0)
    res := fun q e => .ok .next
    out := fun q e => [((q.a 0),dictO [kv B s_k (e.t 0) (e.v 0)] 1),((q.a 3),listO (e.l 0) (e.t 1)),((q.a 4),cellO (.ref (q.a 5)))]++lxV W (q.a 5) (q.a 6) (q.t 4) (e.i 1) (e.t 2) (q.t 6) (q.a 7) (q.t 7) (q.t 8) (q.t 9) (q.a 8) [] (q.t 10) (q.f 0) (q.a 9) (q.t 11) (q.a 10) (q.a 11) (q.a 12) (q.a 13) (q.a 14) (q.t 12) (q.v 0) (q.l 1) (q.s 0) (q.t 13) (q.a 15) (e.i 0) (e.t 3) }
noncomputable def on_wf : Code → View → Lt := fun c V => lt ([(cEnv c).locals,envFrame (cEnv c),valA (cIt c),valA (cAcc c),envCell 0 (cEnv c),cA V 3]++xA V 4) ([qT V 1 0,qT V 1 1,qT V 1 2,eP V 2]++xT V 5) [qI V 1 0,qI V 1 1,dI V 5 0,qI V 13 0] [valS (cellV (nthO V 11))] [nthV (sQ V 10) 0] [sQ V 2,dropV 2 (sQ V 10)] [fdO (nthO V 7)]
noncomputable def S_wa (W : Wd) (l : List Nat) (ws : List (List Nat)) (rest : List Nat) : Sp (BB W) := Sp.start (S_wf W l ws rest)
noncomputable abbrev on_wa := on_wf
theorem wo_end (W : Wd) (O : (BB W).Ok) (l : List Nat) (q : Lt) (hq : (S_wo W l [] l).P q) : At (S_wo W l [] l) 100 q := by
  refine tri_f O (stdT _) [] 2000 100 (hs := [0,2,0,2,6,0,2,2,2,1]) (is := hx 13 0x30c30c30c30c30c30c2)
    (fun (ρ : Rho) => ob hq.l0 <| fin (S_wo W l [] l) q (lt [] [(q.t 4),(q.t 6),(q.t 15)] [(q.i 3),(q.i 2)] [] [(q.v 0)] [(q.l 0)] []) (hq.fin) :) ?_
  induction W using y_0 <;> kernel_rfl
theorem wo_step (W : Wd) (O : (BB W).Ok) (l l1 tk rest : List Nat) (ws : List (List Nat)) (z : Lx1 l tk l1) (ih : (S_wo W l1 ws rest).Ok) (q : Lt) (hq : (S_wo W l (tk :: ws) rest).P q) : At (S_wo W l (tk :: ws) rest) 100 q := by
  refine tri_f O (stdT _) [U (S_gt W l tk l1) (gt_tri W O z) on_gt,U (S_wo W l1 ws rest) ih on_wo] 2000 100 (hs := hx 67 0xa28a28e04331e08d00410410410410410a003006140000005000005000005101042082082082046080080) (is := hx 13 0x0)
    (fun (ρ : Rho) => let z0 := q.l 0++[Value.str ((ρ.2 0).s 0) ((ρ.2 0).t 2)]; ob (A := (rngD (It.mk (Value.ref (q.a 2)) (q.i 0) (q.i 1) (1 : Int) #[]) (1))) (hq.lp) <| ob (A := (GP (q.s 0) (q.i 3) ⟨#[]⟩ l)) (hq.gt) <| fun he0 : GR (q.s 0) (q.i 2) ⟨#[]⟩ l tk l1 ((ρ.2 0).i 0) ((ρ.2 0).i 1) ((ρ.2 0).s 0) => ob (A := (List.length (q.l 0) ≤ sizeLine)) (hq.ob) <| ob (A := (WoP (q.s 0) ((ρ.2 0).i 0 : Int) (q.i 1 - 1 : Int) z0 l1 ws)) (hq.next z he0) <| fun he1 : WoR (q.s 0) ((ρ.2 0).i 1 : Int) z0 l1 ws rest ((ρ.2 1).i 0) ((ρ.2 1).i 1) ((ρ.2 1).l 0) => fin (S_wo W l (tk::ws) rest) q (lt [] [(ρ.2 1).2 0,(ρ.2 1).2 1,(ρ.2 1).2 2] [(ρ.2 1).i 0,(ρ.2 1).i 1] [] [(ρ.2 1).5 0] [(ρ.2 1).6 0] []) ((hq.step he0 he1)) :) ?_
  induction W using y_0 <;> kernel_rfl
theorem wf_step (W : Wd) (O : (BB W).Ok) (l l1 tk rest : List Nat) (ws : List (List Nat)) (z : Lx1 l tk l1) (ih : (S_wo W l1 ws rest).Ok) (q : Lt) (hq : (S_wf W l (tk :: ws) rest).P q) : At (S_wf W l (tk :: ws) rest) 100 q := by
  refine tri_f O (stdT _) [U (S_gt W l tk l1) (gt_tri W O z) on_gt,U (S_wo W l1 ws rest) ih on_wo] 2000 100 (hs := hx 67 0xa28a28e04331e08d00410410410410410a003006140000005000005000005101042082082082046080080) (is := hx 13 0x0)
    (fun (ρ : Rho) => let z0 := q.l 0++[Value.str ((ρ.2 0).s 0) ((ρ.2 0).t 2)]; ob (A := (rngD (It.mk (Value.ref (q.a 2)) (q.i 0) (q.i 1) (1 : Int) #[]) (1))) (hq.1.lp) <| ob (A := (GP (q.s 0) (q.i 3) ⟨#[]⟩ l)) (hq.1.gt) <| fun he0 : GR (q.s 0) (q.i 2) ⟨#[]⟩ l tk l1 ((ρ.2 0).i 0) ((ρ.2 0).i 1) ((ρ.2 0).s 0) => ob (A := (List.length (q.l 0) ≤ sizeLine)) (hq.1.ob) <| ob (A := (WoP (q.s 0) ((ρ.2 0).i 0 : Int) (q.i 1 - 1 : Int) z0 l1 ws)) (hq.1.next z he0) <| fun he1 : WoR (q.s 0) ((ρ.2 0).i 1 : Int) z0 l1 ws rest ((ρ.2 1).i 0) ((ρ.2 1).i 1) ((ρ.2 1).l 0) => fin (S_wf W l (tk::ws) rest) q (lt [] [ρ.1 1,(ρ.2 1).2 0,(ρ.2 1).2 1,(ρ.2 1).2 2] [(ρ.2 1).i 0,(ρ.2 1).i 1] [] [(ρ.2 1).5 0] [(ρ.2 1).6 0] []) ((hq.1.step he0 he1)) :) ?_
  induction W using y_0 <;> kernel_rfl
theorem wo_ok (W : Wd) (O : (BB W).Ok) {l rest : List Nat} {ws : List (List Nat)} (z : Rd l ws rest) : (S_wo W l ws rest).Ok := by
  induction z with
  | nil => exact fun q hq => wo_end W O _ q hq
  | cons z _ ih => exact fun q hq => wo_step W O _ _ _ _ _ z ih q hq
theorem wf_ok (W : Wd) (O : (BB W).Ok) {l rest : List Nat} {ws : List (List Nat)} (z : Rd l ws rest) : (S_wf W l ws rest).Ok := by
  cases z with
  | nil => exact fun q hq => absurd hq.2 (by have h := hq.1.l0; lia)
  | cons z h => exact fun q hq => wf_step W O _ _ _ _ _ z (wo_ok W O h) q hq
theorem wa_true (W : Wd) (O : (BB W).Ok) (l : List Nat) (ws : List (List Nat)) (rest : List Nat) (z : Rd l ws rest) (q : Lt) (hq : (S_wa W l ws rest).P q) (hb : W.b2 = true) : At (S_wa W l ws rest) 100 q := by
  refine tri_f O (stdT _) [U (S_wf W l ws rest) (wf_ok W O z) on_wf] 2000 100 (hs := hx 18 0x3800c0) (is := hx 13 0x0)
    (fun (ρ : Rho) => ob hq <| fun he0 : WoR (q.s 0) (q.i 2) (q.l 0) l ws rest ((ρ.2 0).i 0) ((ρ.2 0).i 1) ((ρ.2 0).l 0) => fin (S_wa W l ws rest) q (lt [] [(ρ.2 0).2 0,(ρ.2 0).2 1,(ρ.2 0).2 2,(ρ.2 0).2 3] [(ρ.2 0).i 0,(ρ.2 0).i 1] [] [(ρ.2 0).5 0] [(ρ.2 0).6 0] []) (he0) :) ?_
  induction W, hb using y_true <;> kernel_rfl
theorem wa_false (W : Wd) (O : (BB W).Ok) (l : List Nat) (ws : List (List Nat)) (rest : List Nat) (z : Rd l ws rest) (q : Lt) (hq : (S_wa W l ws rest).P q) (hb : W.b2 = false) : At (S_wa W l ws rest) 100 q := by
  refine tri_f O (stdT _) [U (S_wf W l ws rest) (wf_ok W O z) on_wf] 2000 100 (hs := hx 24 0x3800c2002002080) (is := hx 13 0x0)
    (fun (ρ : Rho) => ob hq <| fun he0 : WoR (q.s 0) (q.i 2) (q.l 0) l ws rest ((ρ.2 0).i 0) ((ρ.2 0).i 1) ((ρ.2 0).l 0) => fin (S_wa W l ws rest) q (lt [] [(ρ.2 0).2 0,(ρ.2 0).2 1,(ρ.2 0).2 2,(ρ.2 0).2 3] [(ρ.2 0).i 0,(ρ.2 0).i 1] [] [(ρ.2 0).5 0] [(ρ.2 0).6 0] []) (he0) :) ?_
  induction W, hb using y_false <;> kernel_rfl
theorem wa_ok (W : Wd) (O : (BB W).Ok) (l : List Nat) (ws : List (List Nat)) (rest : List Nat) (z : Rd l ws rest) : (S_wa W l ws rest).Ok := fun q hq => by
  cases hb : W.b2 with
  | true => exact wa_true W O l ws rest z q hq hb
  | false => exact wa_false W O l ws rest z q hq hb
noncomputable def S_wc (W : Wd) (m : Nat) : Sp (BB W) :=
  let B := BB W
  let pr := fun q : Lt => [((q.a 0),dictO [kv B s_k (q.t 0) (q.v 0)] 1),((q.a 2),fieldsO tRG [(.int (q.i 0) (q.t 1)),(.int (q.i 1) (q.t 2)),(.int 1 (q.t 3))]),((q.a 3),listO (q.l 0) (q.t 4)),((q.a 6),cellO (.ref (q.a 7))),((q.a 7),listO (q.l 1) (q.t 5)),((q.a 5),cellO (.int (q.i 2) (q.t 6))),((q.a 4),cellO (.ref (q.a 8))),((q.a 8),listO (q.l 2) (q.t 7))]
  { d := 100
    c := fun q => .compLoop (kids (exOf (lwS W.w [13])) [1]) 0 (.ref (q.a 2)) (.ref (q.a 3)) (compEnv (kids (exOf (lwS W.w [13])) [1]) (lwEnv W.w (q.a 1) (q.a 5) (q.a 6) (q.a 4) 0 0) (q.a 0) [(s_tails, (q.a 4)), (s_often, (q.a 5)), (s_heights, (q.a 6))])
    P := fun q => WcP (q.i 2) (q.i 0) (q.i 1) (q.l 1) (q.l 2) (q.l 0) m
    pre := pr
    R := fun q e => RmR (wcF (q.i 2) (q.l 1) (q.l 2)) (q.i 0) (q.i 1) (q.l 0) (e.l 0)
    res := fun q e => .ok .next
    out := fun q e => [((q.a 0),dictO [kv B s_k (q.t 0) (e.v 0)] 1),((q.a 3),listO (e.l 0) (e.t 0))]++(pr q).drop 3 }
noncomputable def on_wc : Code → View → Lt := fun c V => lt [(cEnv c).locals,envFrame (cEnv c),valA (cIt c),valA (cAcc c),envCell 0 (cEnv c),envCell 1 (cEnv c),envCell 2 (cEnv c),cA V 3,cA V 6] [kT V 0 0,qT V 1 0,qT V 1 1,qT V 1 2,eP V 2,eP V 4,cT V 5,eP V 7] [qI V 1 0,qI V 1 1,valI (cellV (nthO V 5))] [] [dV V 0 0] [sQ V 2,sQ V 4,sQ V 7] []
noncomputable def S_wcf (W : Wd) (m : Nat) : Sp (BB W) :=
  let B := BB W
  let pr := fun q : Lt => [((q.a 0),dictO [] 0),((q.a 2),fieldsO tRG [(.int (q.i 0) (q.t 0)),(.int (q.i 1) (q.t 1)),(.int 1 (q.t 2))]),((q.a 3),listO (q.l 0) (q.t 3)),((q.a 6),cellO (.ref (q.a 7))),((q.a 7),listO (q.l 1) (q.t 4)),((q.a 5),cellO (.int (q.i 2) (q.t 5))),((q.a 4),cellO (.ref (q.a 8))),((q.a 8),listO (q.l 2) (q.t 6))]
  { d := 100
    c := fun q => .compLoop (kids (exOf (lwS W.w [13])) [1]) 0 (.ref (q.a 2)) (.ref (q.a 3)) (compEnv (kids (exOf (lwS W.w [13])) [1]) (lwEnv W.w (q.a 1) (q.a 5) (q.a 6) (q.a 4) 0 0) (q.a 0) [(s_tails, (q.a 4)), (s_often, (q.a 5)), (s_heights, (q.a 6))])
    P := fun q => WcP (q.i 2) (q.i 0) (q.i 1) (q.l 1) (q.l 2) (q.l 0) m ∧ 0 < (q.i 1)
    pre := pr
    R := fun q e => RmR (wcF (q.i 2) (q.l 1) (q.l 2)) (q.i 0) (q.i 1) (q.l 0) (e.l 0)
    res := fun q e => .ok .next
    out := fun q e => [((q.a 0),dictO [kv B s_k (e.t 0) (e.v 0)] 1),((q.a 3),listO (e.l 0) (e.t 1))]++(pr q).drop 3 }
noncomputable def on_wcf : Code → View → Lt := fun c V => lt [(cEnv c).locals,envFrame (cEnv c),valA (cIt c),valA (cAcc c),envCell 0 (cEnv c),envCell 1 (cEnv c),envCell 2 (cEnv c),cA V 3,cA V 6] [qT V 1 0,qT V 1 1,qT V 1 2,eP V 2,eP V 4,cT V 5,eP V 7] [qI V 1 0,qI V 1 1,valI (cellV (nthO V 5))] [] [] [sQ V 2,sQ V 4,sQ V 7] []
noncomputable def S_wca (W : Wd) (m : Nat) : Sp (BB W) := Sp.start (S_wcf W m)
noncomputable abbrev on_wca := on_wcf
theorem wc_end (W : Wd) (O : (BB W).Ok) (m : Nat) (q : Lt) (hq : (S_wc W m).P q) (hl : (q.i 1) ≤ 0) : At (S_wc W m) 100 q := by
  refine tri_f O (stdT _) [] 2000 100 (hs := [0,2,0,2,6,0,2,2,2,1]) (is := [2,3,3,3,3,3,3])
    (fun (ρ : Rho) => ob hl <| fin (S_wc W m) q (lt [] [(q.t 4)] [] [] [(q.v 0)] [(q.l 0)] []) ((hq.fin hl)) :) ?_
  induction W using y_0 <;> kernel_rfl
theorem wc_s (W : Wd) (O : (BB W).Ok) (m : Nat) (ih : (S_wc W m).Ok) (q : Lt) (hq : (S_wc W (m + 1)).P q) (hl : 0 < (q.i 1)) : At (S_wc W (m + 1)) 100 q := by
  refine tri_f O (stdT _) [U (S_wc W m) ih on_wc] 2000 100 (hs := hx 64 0x2000c27820c04820021e0088008208047c42000000006044802140145141101042082082082046080080) (is := [0,0,0,0,0,0,0])
    (fun (ρ : Rho) => let z0 := itemAt (q.l 1) ((q.i 0).toNat); let z1 := itemAt (q.l 2) ((q.i 0).toNat); ob (A := (rngD (It.mk (Value.ref (q.a 2)) (q.i 0) (q.i 1) (1 : Int) #[]) (1))) (hl) <| ob (A := (((0 : Int) ≤ q.i 0 ∧ (q.i 0).toNat < List.length (q.l 1) ∧ List.length (q.l 1) ≤ sizeLine) ∧ itemAt (q.l 1) ((q.i 0).toNat) = Value.int (shI z0) (shT z0))) (hq.ml.gh hl) <| ob (A := ((shI z0 + q.i 2 ≤ ↑sizeLine ∧ Str.length (mS [46]) * Int.toNat (shI z0 + q.i 2) ≤ sizeLine) ∧ -(2 : Int) ^ 62 ≤ shI z0 + q.i 2)) (hq.mu hl) <| ob (A := (((0 : Int) ≤ q.i 0 ∧ (q.i 0).toNat < List.length (q.l 2) ∧ List.length (q.l 2) ≤ sizeLine) ∧ itemAt (q.l 2) ((q.i 0).toNat) = Value.str (shS z1) (shT z1))) (hq.ml.gt hl) <| ob (A := (Str.length (repS (mS [46]) (shI z0 + q.i 2)++shS z1) ≤ sizeLine)) (le1k (hq.w2 hl)) <| ob (A := (List.length (q.l 0) ≤ sizeLine)) (hq.ml.ob) <| ob (A := (WcP (q.i 2) (q.i 0 + 1 : Int) (q.i 1 - 1 : Int) (q.l 1) (q.l 2) (q.l 0++[Value.str (repS (mS [46]) (shI z0 + q.i 2)++shS z1) (ρ.n 5)]) m)) (hq.next hl) <| fun he0 : RmR (wcF (q.i 2) (q.l 1) (q.l 2)) (q.i 0 + 1 : Int) (q.i 1 - 1 : Int) (q.l 0++[Value.str (repS (mS [46]) (shI (itemAt (q.l 1) (Int.toNat (q.i 0))) + q.i 2)++shS (itemAt (q.l 2) (Int.toNat (q.i 0)))) (ρ.n 5)]) ((ρ.2 0).l 0) => fin (S_wc W (m + 1)) q (lt [] [(ρ.2 0).2 0] [] [] [(ρ.2 0).5 0] [(ρ.2 0).6 0] []) ((RmR.step hl he0)) :) ?_
  induction W using y_0 <;> kernel_rfl
theorem wcf_s (W : Wd) (O : (BB W).Ok) (m : Nat) (ih : (S_wc W m).Ok) (q : Lt) (hq : (S_wcf W (m + 1)).P q) (hl : 0 < (q.i 1)) : At (S_wcf W (m + 1)) 100 q := by
  refine tri_f O (stdT _) [U (S_wc W m) ih on_wc] 2000 100 (hs := hx 64 0x2000c27820c04820021e0088008208047c42000000006044802140145141101042082082082046080080) (is := [0,0,0,0,0,0,0])
    (fun (ρ : Rho) => let z0 := itemAt (q.l 1) ((q.i 0).toNat); let z1 := itemAt (q.l 2) ((q.i 0).toNat); ob (A := (rngD (It.mk (Value.ref (q.a 2)) (q.i 0) (q.i 1) (1 : Int) #[]) (1))) (hl) <| ob (A := (((0 : Int) ≤ q.i 0 ∧ (q.i 0).toNat < List.length (q.l 1) ∧ List.length (q.l 1) ≤ sizeLine) ∧ itemAt (q.l 1) ((q.i 0).toNat) = Value.int (shI z0) (shT z0))) (hq.1.ml.gh hl) <| ob (A := ((shI z0 + q.i 2 ≤ ↑sizeLine ∧ Str.length (mS [46]) * Int.toNat (shI z0 + q.i 2) ≤ sizeLine) ∧ -(2 : Int) ^ 62 ≤ shI z0 + q.i 2)) (hq.1.mu hl) <| ob (A := (((0 : Int) ≤ q.i 0 ∧ (q.i 0).toNat < List.length (q.l 2) ∧ List.length (q.l 2) ≤ sizeLine) ∧ itemAt (q.l 2) ((q.i 0).toNat) = Value.str (shS z1) (shT z1))) (hq.1.ml.gt hl) <| ob (A := (Str.length (repS (mS [46]) (shI z0 + q.i 2)++shS z1) ≤ sizeLine)) (le1k (hq.1.w2 hl)) <| ob (A := (List.length (q.l 0) ≤ sizeLine)) (hq.1.ml.ob) <| ob (A := (WcP (q.i 2) (q.i 0 + 1 : Int) (q.i 1 - 1 : Int) (q.l 1) (q.l 2) (q.l 0++[Value.str (repS (mS [46]) (shI z0 + q.i 2)++shS z1) (ρ.n 5)]) m)) (hq.1.next hl) <| fun he0 : RmR (wcF (q.i 2) (q.l 1) (q.l 2)) (q.i 0 + 1 : Int) (q.i 1 - 1 : Int) (q.l 0++[Value.str (repS (mS [46]) (shI (itemAt (q.l 1) (Int.toNat (q.i 0))) + q.i 2)++shS (itemAt (q.l 2) (Int.toNat (q.i 0)))) (ρ.n 5)]) ((ρ.2 0).l 0) => fin (S_wcf W (m + 1)) q (lt [] [ρ.1 1,(ρ.2 0).2 0] [] [] [(ρ.2 0).5 0] [(ρ.2 0).6 0] []) ((RmR.step hl he0)) :) ?_
  induction W using y_0 <;> kernel_rfl
theorem wc_ok (W : Wd) (O : (BB W).Ok) : ∀ m, (S_wc W m).Ok
  | 0 => fun q hq => wc_end W O 0 q hq hq.m0
  | m + 1 => fun q hq => by
    by_cases hl : (q.i 1) ≤ 0
    · exact wc_end W O (m + 1) q hq hl
    · exact wc_s W O m (wc_ok W O m) q hq (by lia)
theorem wcf_ok (W : Wd) (O : (BB W).Ok) (m : Nat) : (S_wcf W (m + 1)).Ok := fun q hq => by
  exact wcf_s W O m (wc_ok W O m) q hq hq.2
theorem wca_true (W : Wd) (O : (BB W).Ok) (m : Nat) (q : Lt) (hq : (S_wca W (m + 1)).P q) (hb : W.b2 = true) : At (S_wca W (m + 1)) 100 q := by
  refine tri_f O (stdT _) [U (S_wcf W (m + 1)) (wcf_ok W O m) on_wcf] 2000 100 (hs := hx 12 0x2000c0) (is := [0,0,0,0,0,0,0])
    (fun (ρ : Rho) => ob hq <| fun he0 : RmR (wcF (q.i 2) (q.l 1) (q.l 2)) (q.i 0) (q.i 1) (q.l 0) ((ρ.2 0).l 0) => fin (S_wca W (m + 1)) q (lt [] [(ρ.2 0).2 0,(ρ.2 0).2 1] [] [] [(ρ.2 0).5 0] [(ρ.2 0).6 0] []) (he0) :) ?_
  induction W, hb using y_true <;> kernel_rfl
theorem wca_false (W : Wd) (O : (BB W).Ok) (m : Nat) (q : Lt) (hq : (S_wca W (m + 1)).P q) (hb : W.b2 = false) : At (S_wca W (m + 1)) 100 q := by
  refine tri_f O (stdT _) [U (S_wcf W (m + 1)) (wcf_ok W O m) on_wcf] 2000 100 (hs := hx 18 0x2000c2002002080) (is := [0,0,0,0,0,0,0])
    (fun (ρ : Rho) => ob hq <| fun he0 : RmR (wcF (q.i 2) (q.l 1) (q.l 2)) (q.i 0) (q.i 1) (q.l 0) ((ρ.2 0).l 0) => fin (S_wca W (m + 1)) q (lt [] [(ρ.2 0).2 0,(ρ.2 0).2 1] [] [] [(ρ.2 0).5 0] [(ρ.2 0).6 0] []) (he0) :) ?_
  induction W, hb using y_false <;> kernel_rfl
theorem wca_ok (W : Wd) (O : (BB W).Ok) (m : Nat) : (S_wca W (m + 1)).Ok := fun q hq => by
  cases hb : W.b2 with
  | true => exact wca_true W O m q hq hb
  | false => exact wca_false W O m q hq hb
noncomputable def S_se (W : Wd) (m : Nat) : Sp (BB W) :=
  let B := BB W
  { d := 100
    c := fun q => .compLoop (exOf (lwS W.w [16])) 0 (.ref (q.a 2)) (.ref (q.a 3)) (compEnv (exOf (lwS W.w [16])) (lwEnv W.w (q.a 1) 0 0 0 0 0) (q.a 0) [])
    P := fun q => MpP isSv (q.i 0) (q.l 1) (q.l 0) m
    pre := fun q => [((q.a 0),dictO [kv B s_word (q.t 0) (q.v 0)] 1),((q.a 2),fieldsO tLI [(.ref (q.a 4)),(.int (q.i 0) (q.t 1))]),((q.a 3),listO (q.l 0) (q.t 2)),((q.a 4),listO (q.l 1) (q.t 3))]
    R := fun q e => MpR (gC) (q.i 0) (q.l 1) (q.l 0) (e.l 0)
    res := fun q e => .ok .next
    out := fun q e => [((q.a 0),dictO [kv B s_word (q.t 0) (e.v 0)] 1),((q.a 3),listO (e.l 0) (e.t 0)),((q.a 4),listO (q.l 1) (q.t 3))] }
noncomputable def on_se : Code → View → Lt := fun c V => lt [(cEnv c).locals,envFrame (cEnv c),valA (cIt c),valA (cAcc c),valA (nthV (sQ V 1) 0)] [kT V 0 0,qT V 1 1,eP V 2,eP V 3] [qI V 1 1] [] [dV V 0 0] [sQ V 2,sQ V 3] []
noncomputable def S_sef (W : Wd) (m : Nat) : Sp (BB W) :=
  let B := BB W
  { d := 100
    c := fun q => .compLoop (exOf (lwS W.w [16])) 0 (.ref (q.a 2)) (.ref (q.a 3)) (compEnv (exOf (lwS W.w [16])) (lwEnv W.w (q.a 1) 0 0 0 0 0) (q.a 0) [])
    P := fun q => MpP isSv (q.i 0) (q.l 1) (q.l 0) m ∧ (q.i 0).toNat < (q.l 1).length
    pre := fun q => [((q.a 0),dictO [] 0),((q.a 2),fieldsO tLI [(.ref (q.a 4)),(.int (q.i 0) (q.t 0))]),((q.a 3),listO (q.l 0) (q.t 1)),((q.a 4),listO (q.l 1) (q.t 2))]
    R := fun q e => MpR (gC) (q.i 0) (q.l 1) (q.l 0) (e.l 0)
    res := fun q e => .ok .next
    out := fun q e => [((q.a 0),dictO [kv B s_word (e.t 0) (e.v 0)] 1),((q.a 3),listO (e.l 0) (e.t 1)),((q.a 4),listO (q.l 1) (q.t 2))] }
noncomputable def on_sef : Code → View → Lt := fun c V => lt [(cEnv c).locals,envFrame (cEnv c),valA (cIt c),valA (cAcc c),valA (nthV (sQ V 1) 0)] [qT V 1 1,eP V 2,eP V 3] [qI V 1 1] [] [] [sQ V 2,sQ V 3] []
noncomputable def S_sea (W : Wd) (m : Nat) : Sp (BB W) := Sp.start (S_sef W m)
noncomputable abbrev on_sea := on_sef
theorem se_end (W : Wd) (O : (BB W).Ok) (m : Nat) (q : Lt) (hq : (S_se W m).P q) (hl : (q.l 1).length ≤ (q.i 0).toNat) : At (S_se W m) 100 q := by
  refine tri_f O (stdT _) [] 2000 100 (hs := hx 12 0x42084082005080080) (is := [2,3,3])
    (fun (ρ : Rho) => ob hl <| fin (S_se W m) q (lt [] [(q.t 2)] [] [] [(q.v 0)] [(q.l 0)] []) ((hq.fin hl)) :) ?_
  induction W using y_0 <;> kernel_rfl
theorem se_s (W : Wd) (O : (BB W).Ok) (m : Nat) (ih : (S_se W m).Ok) (q : Lt) (hq : (S_se W (m + 1)).P q) (hl : (q.i 0).toNat < (q.l 1).length) : At (S_se W (m + 1)) 100 q := by
  refine tri_f O (stdT _) [U (S_se W m) ih on_se] 2000 100 (hs := hx 29 0x400309e08302f0800410420840820c5080080) (is := [0,0,0])
    (fun (ρ : Rho) => ob (A := (risD (It.mk (Value.ref (q.a 2)) (q.i 0) (0 : Int) (0 : Int) (Array.mk (q.l 1))) (3))) (hq.itemS id hl) <| ob (A := (True)) (trivial) <| ob (A := (List.length (q.l 0) ≤ sizeLine)) (hq.ob) <| ob (A := (MpP isSv (q.i 0 + 1 : Int) (q.l 1) (q.l 0++[Value.int (↑(cntS (shS (itemAt (q.l 1) ((q.i 0).toNat))) (mS [46]))) (ρ.n 2)]) m)) (hq.next hl) <| fun he0 : MpR (gC) (q.i 0 + 1 : Int) (q.l 1) (q.l 0++[Value.int (↑(cntS (shS (itemAt (q.l 1) (Int.toNat (q.i 0)))) (mS [46]))) (ρ.n 2)]) ((ρ.2 0).l 0) => fin (S_se W (m + 1)) q (lt [] [(ρ.2 0).2 0] [] [] [(ρ.2 0).5 0] [(ρ.2 0).6 0] []) ((hq.step hl ⟨_,rfl⟩ he0)) :) ?_
  induction W using y_0 <;> kernel_rfl
theorem sef_s (W : Wd) (O : (BB W).Ok) (m : Nat) (ih : (S_se W m).Ok) (q : Lt) (hq : (S_sef W (m + 1)).P q) (hl : (q.i 0).toNat < (q.l 1).length) : At (S_sef W (m + 1)) 100 q := by
  refine tri_f O (stdT _) [U (S_se W m) ih on_se] 2000 100 (hs := hx 29 0x400309e08302f0800410420840820c5080080) (is := [0,0,0])
    (fun (ρ : Rho) => ob (A := (risD (It.mk (Value.ref (q.a 2)) (q.i 0) (0 : Int) (0 : Int) (Array.mk (q.l 1))) (3))) (hq.1.itemS id hl) <| ob (A := (True)) (trivial) <| ob (A := (List.length (q.l 0) ≤ sizeLine)) (hq.1.ob) <| ob (A := (MpP isSv (q.i 0 + 1 : Int) (q.l 1) (q.l 0++[Value.int (↑(cntS (shS (itemAt (q.l 1) ((q.i 0).toNat))) (mS [46]))) (ρ.n 2)]) m)) (hq.1.next hl) <| fun he0 : MpR (gC) (q.i 0 + 1 : Int) (q.l 1) (q.l 0++[Value.int (↑(cntS (shS (itemAt (q.l 1) (Int.toNat (q.i 0)))) (mS [46]))) (ρ.n 2)]) ((ρ.2 0).l 0) => fin (S_sef W (m + 1)) q (lt [] [ρ.1 0,(ρ.2 0).2 0] [] [] [(ρ.2 0).5 0] [(ρ.2 0).6 0] []) ((hq.1.step hl ⟨_,rfl⟩ he0)) :) ?_
  induction W using y_0 <;> kernel_rfl
theorem se_ok (W : Wd) (O : (BB W).Ok) : ∀ m, (S_se W m).Ok
  | 0 => fun q hq => se_end W O 0 q hq hq.m0
  | m + 1 => fun q hq => by
    by_cases hl : (q.l 1).length ≤ (q.i 0).toNat
    · exact se_end W O (m + 1) q hq hl
    · exact se_s W O m (se_ok W O m) q hq (by lia)
theorem sef_ok (W : Wd) (O : (BB W).Ok) (m : Nat) : (S_sef W (m + 1)).Ok := fun q hq => by
  exact sef_s W O m (se_ok W O m) q hq hq.2
theorem sea_true (W : Wd) (O : (BB W).Ok) (m : Nat) (q : Lt) (hq : (S_sea W (m + 1)).P q) (hb : W.b2 = true) : At (S_sea W (m + 1)) 100 q := by
  refine tri_f O (stdT _) [U (S_sef W (m + 1)) (sef_ok W O m) on_sef] 2000 100 (hs := [0,3,0,4,0,0,0,0]) (is := [0,0,0])
    (fun (ρ : Rho) => ob hq <| fun he0 : MpR (gC) (q.i 0) (q.l 1) (q.l 0) ((ρ.2 0).l 0) => fin (S_sea W (m + 1)) q (lt [] [(ρ.2 0).2 0,(ρ.2 0).2 1] [] [] [(ρ.2 0).5 0] [(ρ.2 0).6 0] []) (he0) :) ?_
  induction W, hb using y_true <;> kernel_rfl
theorem sea_false (W : Wd) (O : (BB W).Ok) (m : Nat) (q : Lt) (hq : (S_sea W (m + 1)).P q) (hb : W.b2 = false) : At (S_sea W (m + 1)) 100 q := by
  refine tri_f O (stdT _) [U (S_sef W (m + 1)) (sef_ok W O m) on_sef] 2000 100 (hs := hx 14 0x1000c2002002080) (is := [0,0,0])
    (fun (ρ : Rho) => ob hq <| fun he0 : MpR (gC) (q.i 0) (q.l 1) (q.l 0) ((ρ.2 0).l 0) => fin (S_sea W (m + 1)) q (lt [] [(ρ.2 0).2 0,(ρ.2 0).2 1] [] [] [(ρ.2 0).5 0] [(ρ.2 0).6 0] []) (he0) :) ?_
  induction W, hb using y_false <;> kernel_rfl
theorem sea_ok (W : Wd) (O : (BB W).Ok) (m : Nat) : (S_sea W (m + 1)).Ok := fun q hq => by
  cases hb : W.b2 with
  | true => exact sea_true W O m q hq hb
  | false => exact sea_false W O m q hq hb
end Mine
end
section
namespace Mine
open PySem PySem.Spec PySem.Calls PyProof.Rows PySem.W PySem.W.X PySem.Builtin PySem.Builtin.Str PySem.Builtin.Int PySem.StrLaws
section
variable {base cur left n n' : Int} {rs : List Value} {m : Nat}
theorem PrP.m0 (h : PrP base cur left rs 0) : left ≤ 0 := h.rg.m0
theorem PrP.fin (h : PrP base cur left rs m) (h0 : left ≤ 0) : PrR base cur left rs n n := ⟨by rw [show left.toNat = 0 by lia]; rfl⟩
theorem PrP.g (h : PrP base cur left rs m) (h0 : 0 < left) : (0 ≤ cur ∧ cur.toNat < rs.length ∧ rs.length ≤ sizeLine) ∧ itemAt rs cur.toNat = .int (shI (itemAt rs cur.toNat)) (shT (itemAt rs cur.toNat)) := by
  have := h.rg.c0; have := h.cl; have := h.r1
  exact gtOb h.ra h.rg.c0 (by lia) (by lia)
theorem PrP.mul (h : PrP base cur left rs m) (h0 : 0 < left) : IntMulOk n (base + shI (itemAt rs cur.toNat) - cur) := by
  have h1 := h.rb _ (item_mem (h.g h0).1.2.1)
  have := h.rg.c0; have := h.cl; have := h.r1; have := h.b0; have := h.b1
  exact IntMulOk.of_right (intBits_le_64 (by lia) (by lia))
theorem PrP.next (h : PrP base cur left rs (m + 1)) (h0 : 0 < left) : PrP base (cur + 1) (left - 1) rs m := by
  have := h.cl
  exact ⟨h.rg.next h0, by lia, h.r1, h.ra, h.rb, h.b0, h.b1⟩
theorem PrP.step (h : PrP base cur left rs (m + 1)) (h0 : 0 < left) (r : PrR base (cur + 1) (left - 1) rs (n * (base + shI (itemAt rs cur.toNat) - cur)) n') : PrR base cur left rs n n' := ⟨by
  rw [r.e, show left.toNat = (left - 1).toNat + 1 by lia]; rfl⟩
end
theorem fd_key {b h w : Int} (h0 : 0 ≤ w) (h1 : w < b) : (b * h + w).fdiv b = h ∧ (b * h + w).fmod b = w := by
  have hb : 0 < b := by lia
  have e : (b * h + w).fdiv b = h := by
    rw [Int.fdiv_eq_ediv_of_nonneg _ (Int.le_of_lt hb), Int.mul_comm, Int.add_comm, Int.add_mul_ediv_right _ _ (Int.ne_of_gt hb), Int.ediv_eq_zero_of_lt h0 h1, Int.zero_add]
  refine ⟨e, ?_⟩
  rw [Int.fmod_def, e]; lia
theorem idp_pw {a b : Int} {e : Nat} (e6 : e ≤ 60) (h0 : 2 ^ e ≤ b.natAbs) (h1 : b.natAbs < 2 ^ 61) (ha : a.natAbs < 2 ^ (8 * (e + 1))) : IDP a b := by
  have hp : 0 < 2 ^ e := Nat.pow_pos (by decide)
  have hn : b.natAbs ≠ 0 := by lia
  have l1 : e ≤ b.natAbs.log2 := (Nat.le_log2 hn).mpr h0
  have l2 : b.natAbs.log2 < 61 := (Nat.log2_lt hn).mpr h1
  have hb : b ≠ 0 := by lia
  have e1 : intBits b = b.natAbs.log2 + 1 := by
    unfold intBits
    rw [if_neg (by simpa using hb)]
  refine ⟨hb, by lia, ?_⟩
  rw [e1]
  exact Nat.lt_of_lt_of_le ha (Nat.pow_le_pow_right (by decide) (by lia))
theorem hv_bd {X P n : Int} {w : List Value} (hw : ∀ v ∈ w, 0 ≤ shI v ∧ shI v ≤ 1000) (hX : P ≤ X) (hX2 : X ≤ P + 2) (hP : 2000 ≤ P) (n5 : n ≤ 5) : ∀ j : Nat, (j : Int) ≤ n → j < w.length → 1 ≤ hvI X w n j ∧ hvI X w n j ≤ (2 * P) ^ j
  | 0, _, _ => by rw [hvI, Int.pow_zero]; decide
  | j + 1, h, hl => by
    obtain ⟨h1, h2⟩ := hv_bd hw hX hX2 hP n5 j (by lia) (by lia)
    have hv := hw _ (item_mem hl)
    have hc : 1 ≤ X - (n - ((j : Int) + 1)) := by lia
    have hc2 : X - (n - ((j : Int) + 1)) ≤ P + 2 := by lia
    rw [hvI, Int.pow_succ]
    generalize shI (itemAt w (j + 1)) = z at *
    generalize hvI X w n j = H at *
    generalize X - (n - ((j : Int) + 1)) = f at *
    have a1 : 1 * 1 ≤ f * H := Int.mul_le_mul hc h1 (by decide) (by lia)
    have a2 : f * H ≤ (P + 2) * H := Int.mul_le_mul_of_nonneg_right hc2 (by lia)
    have a3 : H * (2 * P) ≤ (2 * P) ^ j * (2 * P) := Int.mul_le_mul_of_nonneg_right h2 (by lia)
    have a4 : 1 * (P - 2) ≤ H * (P - 2) := Int.mul_le_mul_of_nonneg_right h1 (by lia)
    have a5 : H * (2 * P) = (P + 2) * H + H * (P - 2) := by
      rw [Int.mul_comm (P + 2), ← Int.mul_add]; congr 1; lia
    lia
theorem pow2P (e j : Nat) : (2 * (2 : Int) ^ e) ^ j = ((2 ^ ((e + 1) * j) : Nat) : Int) := by
  rw [show (2 : Int) * 2 ^ e = 2 ^ (e + 1) by rw [Int.pow_succ, Int.mul_comm], ← Int.pow_mul]
  norm_cast
theorem pwI (e : Nat) : (2 : Int) ^ e = ((2 ^ e : Nat) : Int) := by norm_cast
section
variable {base often cnt cur left x y q r q2 r2 : Int} {ws er la : List Value} {m : Nat}
theorem DwP.m0 (h : DwP base cnt cur left x ws 0) : left ≤ 0 := h.rg.m0
theorem DwP.one (h : DwP base cnt cur left x ws m) (h0 : left ≤ 0) : x = 1 := by rw [h.xe, show left.toNat = 0 by lia]; rfl
theorem DwP.ix (h : DwP base cnt cur left x ws m) (h0 : 0 < left) : (0 ≤ cnt - cur ∧ (cnt - cur).toNat < ws.length ∧ ws.length ≤ sizeLine) ∧ itemAt ws (cnt - cur).toNat = .int (shI (itemAt ws (cnt - cur).toNat)) (shT (itemAt ws (cnt - cur).toNat)) := by
  have := h.rg.c0; have := h.cl; have := h.wl; have := h.w1
  exact gtOb h.wa (by lia) (by lia) (by lia)
theorem DwP.pe (h : DwP base cnt cur left x ws m) : ∃ e : Nat, 20 ≤ e ∧ e ≤ 59 ∧ base = ((2 ^ e : Nat) : Int) ∧ 2 ^ 20 ≤ 2 ^ e ∧ 2 ^ e ≤ 2 ^ 59 ∧ 2 ^ e = 2 ^ (e - 1) + 2 ^ (e - 1) ∧ 2 ^ 19 ≤ 2 ^ (e - 1) := by
  obtain ⟨e, h1, h2, h3⟩ := h.pw
  refine ⟨e, h1, h2, by rw [h3, pwI], Nat.pow_le_pow_right (by decide) h1, Nat.pow_le_pow_right (by decide) h2, ?_, Nat.pow_le_pow_right (by decide) (by lia)⟩
  have : 2 ^ e = 2 ^ (e - 1 + 1) := by congr 1; lia
  rw [this, Nat.pow_succ]; lia
theorem hv_idp {X n a b : Int} {w : List Value} {e j : Nat} (e2 : 20 ≤ e) (e5 : e ≤ 59) (hw : ∀ v ∈ w, 0 ≤ shI v ∧ shI v ≤ 1000) (hX : ((2 ^ e : Nat) : Int) ≤ X) (hX2 : X ≤ ((2 ^ e : Nat) : Int) + 2) (n5 : n ≤ 5) (hj : (j : Int) ≤ n) (hl : j < w.length)
    (ha : a.natAbs ≤ (hvI X w n j).toNat + 1) (hb : (b.natAbs : Int) ≤ X) (hb2 : X ≤ (b.natAbs : Int) + 5) : IDP a b := by
  have p1 : 2 ^ 20 ≤ 2 ^ e := Nat.pow_le_pow_right (by decide) e2
  have p2 : 2 ^ e ≤ 2 ^ 59 := Nat.pow_le_pow_right (by decide) e5
  have p3 : 2 ^ e = 2 ^ (e - 1) + 2 ^ (e - 1) := by
    have : 2 ^ e = 2 ^ (e - 1 + 1) := by congr 1; lia
    rw [this, Nat.pow_succ]; lia
  have p4 : 2 ^ 19 ≤ 2 ^ (e - 1) := Nat.pow_le_pow_right (by decide) (by lia)
  have hbd := hv_bd hw hX hX2 (by lia) n5 j hj hl
  have ee : (2 * ((2 ^ e : Nat) : Int)) ^ j = ((2 ^ ((e + 1) * j) : Nat) : Int) := by rw [← pwI e, pow2P]
  rw [ee] at hbd
  have q1 : 2 ^ ((e + 1) * j) ≤ 2 ^ (8 * e - 1) := Nat.pow_le_pow_right (by decide) (by
    have : (e + 1) * j ≤ (e + 1) * 5 := Nat.mul_le_mul_left _ (by lia)
    lia)
  have q2 : 2 ^ (8 * e - 1) + 2 ^ (8 * e - 1) = 2 ^ (8 * e) := by
    have : 2 ^ (8 * e) = 2 ^ (8 * e - 1 + 1) := by congr 1; lia
    rw [this, Nat.pow_succ]; lia
  have q3 : 2 ^ 100 ≤ 2 ^ (8 * e - 1) := Nat.pow_le_pow_right (by decide) (by lia)
  refine idp_pw (e := e - 1) (by lia) ?_ ?_ ?_
  · generalize 2 ^ (e - 1) = P1 at *; generalize 2 ^ e = P at *; lia
  · generalize 2 ^ (e - 1) = P1 at *; generalize 2 ^ e = P at *; lia
  · rw [show e - 1 + 1 = e by lia]
    generalize 2 ^ ((e + 1) * j) = A at *
    generalize 2 ^ (8 * e - 1) = B at *
    lia
theorem DwP.xs (h : DwP base cnt cur left x ws m) (h0 : 0 < left) : x = (base - cur) * hvI base ws cnt (left - 1).toNat + shI (itemAt ws (cnt - cur).toNat) ∧ 0 ≤ shI (itemAt ws (cnt - cur).toNat) ∧ shI (itemAt ws (cnt - cur).toNat) < base - cur := by
  have h1 := h.rg.c0; have h2 := h.cl; have h3 := h.c5
  obtain ⟨e, _, _, hb, hp, _⟩ := h.pe
  have hv := h.wb _ (item_mem (h.ix h0).1.2.1)
  refine ⟨?_, hv.1, ?_⟩
  · rw [h.xe, show left.toNat = (left - 1).toNat + 1 by lia, hvI]
    congr 1
    · congr 1; lia
    · congr 2; lia
  · generalize 2 ^ e = P at *; lia
theorem DwP.idn (h : DwP base cnt cur left x ws m) (h0 : 0 < left) {a b : Int} (ha : a = x ∨ a = -x) (hb : b = base - cur ∨ b = cur - base) : IDP a b := by
  have h1 := h.rg.c0; have h2 := h.cl; have h3 := h.c5; have h4 := h.wl
  obtain ⟨e, e1, e2, hp, p1, _⟩ := h.pe
  refine hv_idp (X := base) (n := cnt) (w := ws) (j := left.toNat) e1 e2 h.wb (by lia) (by lia) h3 (by lia) (by lia) ?_ ?_ ?_
  · have hb := (hv_bd h.wb (X := base) (P := base) (n := cnt) (Int.le_refl _) (by lia) (by generalize 2 ^ e = P at *; lia) h3 left.toNat (by lia) (by lia)).1
    rw [← h.xe] at hb ⊢
    lia
  · generalize 2 ^ e = P at *; lia
  · generalize 2 ^ e = P at *; lia
theorem DwP.i (h : DwP base cnt cur left x ws m) (h0 : 0 < left) : IDP x (base - cur) := h.idn h0 (.inl rfl) (.inl rfl)
theorem DwP.d (h : DwP base cnt cur left x ws m) (h0 : 0 < left) (r0 : q = x.fdiv (base - cur) ∧ r = x.fmod (base - cur)) : q = hvI base ws cnt (left - 1).toNat ∧ r = shI (itemAt ws (cnt - cur).toNat) := by
  obtain ⟨e, h1, h2⟩ := h.xs h0
  have z := fd_key (h := hvI base ws cnt (left - 1).toNat) h1 h2
  rw [← e] at z
  exact ⟨r0.1.trans z.1, r0.2.trans z.2⟩
theorem DwP.nx (h : DwP base cnt cur left x ws (m + 1)) (h0 : 0 < left) (hq : q = hvI base ws cnt (left - 1).toNat) : DwP base cnt (cur + 1) (left - 1) q ws m := by
  have := h.cl
  exact ⟨h.rg.next h0, by lia, h.c5, h.pw, h.wa, h.wl, h.w1, h.wb, hq⟩
theorem DwP.g (h : DwP base cnt cur left x ws m) (h0 : 0 < left) : (0 ≤ cnt - cur ∧ (cnt - cur).toNat < ws.length ∧ ws.length ≤ sizeLine) ∧ itemAt ws (cnt - cur).toNat = .int (shI (itemAt ws (cnt - cur).toNat)) (shT (itemAt ws (cnt - cur).toNat)) := h.ix h0
theorem DwP.n (h : DwP base cnt cur left x ws m) (h0 : 0 < left) (r0 : q = x.fdiv (base - cur) ∧ r = x.fmod (base - cur)) : r = shI (itemAt ws (cnt - cur).toNat) := (h.d h0 r0).2
theorem DwP.next (h : DwP base cnt cur left x ws (m + 1)) (h0 : 0 < left) (r0 : q = x.fdiv (base - cur) ∧ r = x.fmod (base - cur)) : DwP base cnt (cur + 1) (left - 1) q ws m := h.nx h0 (h.d h0 r0).1
theorem DvP.m0 (h : DvP base often cnt cur left x y er la 0) : left ≤ 0 := h.dw.m0
structure DvR (x y : Int) : Prop where
  x1 : x = 1
  y2 : y = -2
theorem DvP.fin (h : DvP base often cnt cur left x y er la m) (h0 : left ≤ 0) : DvR x y := ⟨h.dw.one h0, by rw [h.ye, show left.toNat = 0 by lia]; rfl⟩
theorem DvP.g1 (h : DvP base often cnt cur left x y er la m) (h0 : 0 < left) : (0 ≤ cnt - cur ∧ (cnt - cur).toNat < la.length ∧ la.length ≤ sizeLine) ∧ itemAt la (cnt - cur).toNat = .int (shI (itemAt la (cnt - cur).toNat)) (shT (itemAt la (cnt - cur).toNat)) := h.dw.ix h0
theorem DvP.g2 (h : DvP base often cnt cur left x y er la m) (h0 : 0 < left) : (0 ≤ cnt - cur ∧ (cnt - cur).toNat < er.length ∧ er.length ≤ sizeLine) ∧ itemAt er (cnt - cur).toNat = .int (shI (itemAt er (cnt - cur).toNat)) (shT (itemAt er (cnt - cur).toNat)) := by
  have := h.dw.rg.c0; have := h.dw.cl; have := h.el; have := h.e1
  exact gtOb h.ea (by lia) (by lia) (by lia)
theorem DvP.i1 (h : DvP base often cnt cur left x y er la m) (h0 : 0 < left) : IDP (-x) (cur - base) := h.dw.idn h0 (.inr rfl) (.inr rfl)
theorem DvP.d1 (h : DvP base often cnt cur left x y er la m) (h0 : 0 < left) (r0 : q = (-x).fdiv (cur - base) ∧ r = (-x).fmod (cur - base)) : q = hvI base la cnt (left - 1).toNat ∧ r = -shI (itemAt la (cnt - cur).toNat) := by
  obtain ⟨e, h1, h2⟩ := h.dw.xs h0
  have z := fd_key (h := hvI base la cnt (left - 1).toNat) h1 h2
  rw [← e] at z
  rw [show cur - base = -(base - cur) by lia, Int.neg_fdiv_neg, Int.neg_fmod_neg, z.1, z.2] at r0
  exact r0
theorem DvP.n1 (h : DvP base often cnt cur left x y er la m) (h0 : 0 < left) (r0 : q = (-x).fdiv (cur - base) ∧ r = (-x).fmod (cur - base)) : r = -shI (itemAt la (cnt - cur).toNat) := (h.d1 h0 r0).2
theorem DvP.ys (h : DvP base often cnt cur left x y er la m) (h0 : 0 < left) : y = (base + often - cur) * (-hvI (base + often) er cnt (left - 1).toNat - 1) + (base + often - cur - 1 - shI (itemAt er (cnt - cur).toNat)) ∧ 0 ≤ base + often - cur - 1 - shI (itemAt er (cnt - cur).toNat) ∧ base + often - cur - 1 - shI (itemAt er (cnt - cur).toNat) < base + often - cur := by
  have h1 := h.dw.rg.c0; have h2 := h.dw.cl; have h3 := h.dw.c5; have h4 := h.ob
  obtain ⟨e, _, _, hb, hp, _⟩ := h.dw.pe
  have hv := h.eb _ (item_mem (h.g2 h0).1.2.1)
  refine ⟨?_, ?_, by lia⟩
  · rw [h.ye, show left.toNat = (left - 1).toNat + 1 by lia, hvI, show base + often - (cnt - (((left - 1).toNat : Int) + 1)) = base + often - cur by lia, show (left - 1).toNat + 1 = (cnt - cur).toNat by lia]
    generalize hvI (base + often) er cnt (left - 1).toNat = H
    generalize shI (itemAt er (cnt - cur).toNat) = w
    rw [Int.mul_sub, Int.mul_neg]; lia
  · generalize 2 ^ e = P at *; lia
theorem DvP.i2 (h : DvP base often cnt cur left x y er la m) (h0 : 0 < left) : IDP y (base + often - cur) := by
  have h1 := h.dw.rg.c0; have h2 := h.dw.cl; have h3 := h.dw.c5; have h4 := h.el; have h5 := h.ob
  obtain ⟨e, e1, e2, hp, p1, _⟩ := h.dw.pe
  refine hv_idp (X := base + often) (n := cnt) (w := er) (j := left.toNat) e1 e2 h.eb (by lia) (by lia) h3 (by lia) (by lia) ?_ ?_ ?_
  · have hb := (hv_bd h.eb (X := base + often) (P := base) (n := cnt) (by lia) (by lia) (by generalize 2 ^ e = P at *; lia) h3 left.toNat (by lia) (by lia)).1
    rw [h.ye]
    lia
  · generalize 2 ^ e = P at *; lia
  · generalize 2 ^ e = P at *; lia
theorem DvP.d2 (h : DvP base often cnt cur left x y er la m) (h0 : 0 < left) (r0 : q = y.fdiv (base + often - cur) ∧ r = y.fmod (base + often - cur)) : q = -hvI (base + often) er cnt (left - 1).toNat - 1 ∧ r = base + often - cur - 1 - shI (itemAt er (cnt - cur).toNat) := by
  obtain ⟨e, h1, h2⟩ := h.ys h0
  have z := fd_key (h := -hvI (base + often) er cnt (left - 1).toNat - 1) h1 h2
  rw [← e] at z
  exact ⟨r0.1.trans z.1, r0.2.trans z.2⟩
theorem DvP.n2 (h : DvP base often cnt cur left x y er la m) (h0 : 0 < left) (r0 : q = y.fdiv (base + often - cur) ∧ r = y.fmod (base + often - cur)) : r = base + often - cur - 1 - shI (itemAt er (cnt - cur).toNat) := (h.d2 h0 r0).2
theorem DvP.next (h : DvP base often cnt cur left x y er la (m + 1)) (h0 : 0 < left) (r0 : q = (-x).fdiv (cur - base) ∧ r = (-x).fmod (cur - base)) (r1 : q2 = y.fdiv (base + often - cur) ∧ r2 = y.fmod (base + often - cur)) : DvP base often cnt (cur + 1) (left - 1) q q2 er la m :=
  ⟨h.dw.nx h0 (h.d1 h0 r0).1, h.ob, h.ea, h.el, h.e1, h.eb, (h.d2 h0 r1).1⟩
end
end Mine
end
section

namespace Mine
open PySem PySem.Spec PySem.Calls PyProof.Rows PySem.W PySem.W.X PySem.Builtin.Str
noncomputable def S_pr (W : Wd) (m : Nat) : Sp (BB W) :=
  let B := BB W
  { d := 100
    c := fun q => forC (lwS W.w [20]) (q.a 6) (lwEnv W.w (q.a 0) (q.a 1) (q.a 2) (q.a 3) (q.a 4) (q.a 5))
    P := fun q => PrP (q.i 0) (q.i 2) (q.i 3) (q.l 0) m
    pre := fun q => [((q.a 0),frameO [kv B s_script (q.t 0) (q.v 0),kv B s_drawn (q.t 1) (q.v 1),kv B s_total (q.t 2) (q.v 2),kv B s_base (q.t 3) (.int (q.i 0) (q.t 4)),kv B s_count (q.t 5) (q.v 3),kv B s_mail (q.t 6) (q.v 4),kv B s_turn (q.t 7) (q.v 5),kv B s_words (q.t 8) (q.v 6),kv B s_earlier (q.t 9) (q.v 7),kv B s_sent (q.t 10) (q.v 8),kv B s_later (q.t 11) (q.v 9),kv B s_number (q.t 12) (.int (q.i 1) (q.t 13)),kv B s_rising (q.t 14) (.ref (q.a 7)),kv B s_k (q.t 15) (q.v 10)] 14),((q.a 6),fieldsO tRG [(.int (q.i 2) (q.t 16)),(.int (q.i 3) (q.t 17)),(.int 1 (q.t 18))]),((q.a 7),listO (q.l 0) (q.t 19))]
    R := fun q e => PrR (q.i 0) (q.i 2) (q.i 3) (q.l 0) (q.i 1) (e.i 0)
    res := fun q e => .ok .next
    out := fun q e => [((q.a 0),frameO [kv B s_script (q.t 0) (q.v 0),kv B s_drawn (q.t 1) (q.v 1),kv B s_total (q.t 2) (q.v 2),kv B s_base (q.t 3) (.int (q.i 0) (q.t 4)),kv B s_count (q.t 5) (q.v 3),kv B s_mail (q.t 6) (q.v 4),kv B s_turn (q.t 7) (q.v 5),kv B s_words (q.t 8) (q.v 6),kv B s_earlier (q.t 9) (q.v 7),kv B s_sent (q.t 10) (q.v 8),kv B s_later (q.t 11) (q.v 9),kv B s_number (q.t 12) (.int (e.i 0) (e.t 0)),kv B s_rising (q.t 14) (.ref (q.a 7)),kv B s_k (q.t 15) (e.v 0)] 14),((q.a 7),listO (q.l 0) (q.t 19))] }
noncomputable def on_pr : Code → View → Lt := fun c V => lt [(cEnv c).locals,envCell 4 (cEnv c),envCell 3 (cEnv c),envCell 2 (cEnv c),envCell 1 (cEnv c),envCell 0 (cEnv c),valA (cIt c),dA V 0 12] [kT V 0 0,kT V 0 1,kT V 0 2,kT V 0 3,dT V 0 3,kT V 0 4,kT V 0 5,kT V 0 6,kT V 0 7,kT V 0 8,kT V 0 9,kT V 0 10,kT V 0 11,dT V 0 11,kT V 0 12,kT V 0 13,qT V 1 0,qT V 1 1,qT V 1 2,eP V 2] [dI V 0 3,dI V 0 11,qI V 1 0,qI V 1 1] [] [dV V 0 0,dV V 0 1,dV V 0 2,dV V 0 4,dV V 0 5,dV V 0 6,dV V 0 7,dV V 0 8,dV V 0 9,dV V 0 10,dV V 0 13] [sQ V 2] []
theorem pr_end (W : Wd) (O : (BB W).Ok) (m : Nat) (q : Lt) (hq : (S_pr W m).P q) (hl : (q.i 3) ≤ 0) : At (S_pr W m) 100 q := by
  refine tri_f O (stdT _) [] 2000 100 (hs := [0,2,0,2,6,0,2,2,2,1,0]) (is := [2,3])
    (fun (ρ : Rho) => ob hl <| fin (S_pr W m) q (lt [] [(q.t 13)] [(q.i 1)] [] [(q.v 10)] [] []) ((hq.fin hl)) :) ?_
  induction W using y_0 <;> kernel_rfl
theorem pr_s (W : Wd) (O : (BB W).Ok) (m : Nat) (ih : (S_pr W m).Ok) (q : Lt) (hq : (S_pr W (m + 1)).P q) (hl : 0 < (q.i 3)) : At (S_pr W (m + 1)) 100 q := by
  refine tri_f O (stdT _) [U (S_pr W m) ih on_pr] 2000 100 (hs := hx 44 0x30030415820000010000428020c00c30c1041041042082082082046080080) (is := [0,0])
    (fun (ρ : Rho) => let z0 := itemAt (q.l 0) ((q.i 2).toNat); ob (A := (rngD (It.mk (Value.ref (q.a 6)) (q.i 2) (q.i 3) (1 : Int) #[]) (1))) (hl) <| ob (A := (((0 : Int) ≤ q.i 2 ∧ (q.i 2).toNat < List.length (q.l 0) ∧ List.length (q.l 0) ≤ sizeLine) ∧ itemAt (q.l 0) ((q.i 2).toNat) = Value.int (shI z0) (shT z0))) (hq.g hl) <| ob (A := (IntMulOk (q.i 1) (q.i 0 + shI z0 - q.i 2))) (hq.mul hl) <| ob (A := (PrP (q.i 0) (q.i 2 + 1 : Int) (q.i 3 - 1 : Int) (q.l 0) m)) (hq.next hl) <| fun he0 : PrR (q.i 0) (q.i 2 + 1 : Int) (q.i 3 - 1 : Int) (q.l 0) (q.i 1 * (q.i 0 + shI (itemAt (q.l 0) (Int.toNat (q.i 2))) - q.i 2) : Int) ((ρ.2 0).i 0) => fin (S_pr W (m + 1)) q (lt [] [(ρ.2 0).2 0] [(ρ.2 0).i 0] [] [(ρ.2 0).5 0] [] []) ((hq.step hl he0)) :) ?_
  induction W using y_0 <;> kernel_rfl
theorem pr_ok (W : Wd) (O : (BB W).Ok) : ∀ m, (S_pr W m).Ok
  | 0 => fun q hq => pr_end W O 0 q hq hq.m0
  | m + 1 => fun q hq => by
    by_cases hl : (q.i 3) ≤ 0
    · exact pr_end W O (m + 1) q hq hl
    · exact pr_s W O m (pr_ok W O m) q hq (by lia)
noncomputable def S_prf (W : Wd) (m : Nat) : Sp (BB W) :=
  let B := BB W
  { d := 100
    c := fun q => forC (lwS W.w [20]) (q.a 6) (lwEnv W.w (q.a 0) (q.a 1) (q.a 2) (q.a 3) (q.a 4) (q.a 5))
    P := fun q => PrP (q.i 0) (q.i 2) (q.i 3) (q.l 0) m ∧ 0 < (q.i 3)
    pre := fun q => [((q.a 0),frameO [kv B s_script (q.t 0) (q.v 0),kv B s_drawn (q.t 1) (q.v 1),kv B s_total (q.t 2) (q.v 2),kv B s_base (q.t 3) (.int (q.i 0) (q.t 4)),kv B s_count (q.t 5) (q.v 3),kv B s_mail (q.t 6) (q.v 4),kv B s_turn (q.t 7) (q.v 5),kv B s_words (q.t 8) (q.v 6),kv B s_earlier (q.t 9) (q.v 7),kv B s_sent (q.t 10) (q.v 8),kv B s_later (q.t 11) (q.v 9),kv B s_number (q.t 12) (.int (q.i 1) (q.t 13)),kv B s_rising (q.t 14) (.ref (q.a 7))] 13),((q.a 6),fieldsO tRG [(.int (q.i 2) (q.t 15)),(.int (q.i 3) (q.t 16)),(.int 1 (q.t 17))]),((q.a 7),listO (q.l 0) (q.t 18))]
    R := fun q e => PrR (q.i 0) (q.i 2) (q.i 3) (q.l 0) (q.i 1) (e.i 0)
    res := fun q e => .ok .next
    out := fun q e => [((q.a 0),frameO [kv B s_script (q.t 0) (q.v 0),kv B s_drawn (q.t 1) (q.v 1),kv B s_total (q.t 2) (q.v 2),kv B s_base (q.t 3) (.int (q.i 0) (q.t 4)),kv B s_count (q.t 5) (q.v 3),kv B s_mail (q.t 6) (q.v 4),kv B s_turn (q.t 7) (q.v 5),kv B s_words (q.t 8) (q.v 6),kv B s_earlier (q.t 9) (q.v 7),kv B s_sent (q.t 10) (q.v 8),kv B s_later (q.t 11) (q.v 9),kv B s_number (q.t 12) (.int (e.i 0) (e.t 0)),kv B s_rising (q.t 14) (.ref (q.a 7)),kv B s_k (e.t 1) (e.v 0)] 14),((q.a 7),listO (q.l 0) (q.t 18))] }
noncomputable def on_prf : Code → View → Lt := fun c V => lt [(cEnv c).locals,envCell 4 (cEnv c),envCell 3 (cEnv c),envCell 2 (cEnv c),envCell 1 (cEnv c),envCell 0 (cEnv c),valA (cIt c),dA V 0 12] [kT V 0 0,kT V 0 1,kT V 0 2,kT V 0 3,dT V 0 3,kT V 0 4,kT V 0 5,kT V 0 6,kT V 0 7,kT V 0 8,kT V 0 9,kT V 0 10,kT V 0 11,dT V 0 11,kT V 0 12,qT V 1 0,qT V 1 1,qT V 1 2,eP V 2] [dI V 0 3,dI V 0 11,qI V 1 0,qI V 1 1] [] [dV V 0 0,dV V 0 1,dV V 0 2,dV V 0 4,dV V 0 5,dV V 0 6,dV V 0 7,dV V 0 8,dV V 0 9,dV V 0 10] [sQ V 2] []
theorem prf_s (W : Wd) (O : (BB W).Ok) (m : Nat) (ih : (S_pr W m).Ok) (q : Lt) (hq : (S_prf W (m + 1)).P q) (hl : 0 < (q.i 3)) : At (S_prf W (m + 1)) 100 q := by
  refine tri_f O (stdT _) [U (S_pr W m) ih on_pr] 2000 100 (hs := hx 44 0x30030415820000010000428020c00c30c1041041042082082082046080080) (is := [0,0])
    (fun (ρ : Rho) => let z0 := itemAt (q.l 0) ((q.i 2).toNat); ob (A := (rngD (It.mk (Value.ref (q.a 6)) (q.i 2) (q.i 3) (1 : Int) #[]) (1))) (hl) <| ob (A := (((0 : Int) ≤ q.i 2 ∧ (q.i 2).toNat < List.length (q.l 0) ∧ List.length (q.l 0) ≤ sizeLine) ∧ itemAt (q.l 0) ((q.i 2).toNat) = Value.int (shI z0) (shT z0))) (hq.1.g hl) <| ob (A := (IntMulOk (q.i 1) (q.i 0 + shI z0 - q.i 2))) (hq.1.mul hl) <| ob (A := (PrP (q.i 0) (q.i 2 + 1 : Int) (q.i 3 - 1 : Int) (q.l 0) m)) (hq.1.next hl) <| fun he0 : PrR (q.i 0) (q.i 2 + 1 : Int) (q.i 3 - 1 : Int) (q.l 0) (q.i 1 * (q.i 0 + shI (itemAt (q.l 0) (Int.toNat (q.i 2))) - q.i 2) : Int) ((ρ.2 0).i 0) => fin (S_prf W (m + 1)) q (lt [] [(ρ.2 0).2 0,ρ.1 1] [(ρ.2 0).i 0] [] [(ρ.2 0).5 0] [] []) ((hq.1.step hl he0)) :) ?_
  induction W using y_0 <;> kernel_rfl
theorem prf_ok (W : Wd) (O : (BB W).Ok) (m : Nat) : (S_prf W (m + 1)).Ok := fun q hq => by
  exact prf_s W O m (pr_ok W O m) q hq hq.2
noncomputable def S_dv (W : Wd) (m : Nat) : Sp (BB W) :=
  let B := BB W
  let pr := fun q : Lt => [((q.a 0),frameO [kv B s_script (q.t 0) (q.v 0),kv B s_drawn (q.t 1) (q.v 1),kv B s_total (q.t 2) (q.v 2),kv B s_base (q.t 3) (.int (q.i 0) (q.t 4)),kv B s_count (q.t 5) (.int (q.i 1) (q.t 6)),kv B s_mail (q.t 7) (q.v 3),kv B s_turn (q.t 8) (q.v 4),kv B s_words (q.t 9) (q.v 5),kv B s_earlier (q.t 10) (.ref (q.a 7)),kv B s_sent (q.t 11) (q.v 6),kv B s_later (q.t 12) (.ref (q.a 8)),kv B s_number (q.t 13) (q.v 7),kv B s_rising (q.t 14) (q.v 8),kv B s_k (q.t 15) (q.v 9),kv B s_left (q.t 16) (.int (q.i 2) (q.t 17)),kv B s_turned (q.t 18) (.int (q.i 3) (q.t 19)),kv B s_rest (q.t 20) (q.v 10)] 17),((q.a 6),fieldsO tRG [(.int (q.i 4) (q.t 21)),(.int (q.i 5) (q.t 22)),(.int 1 (q.t 23))]),((q.a 1),cellO (.int (q.i 6) (q.t 24))),((q.a 7),listO (q.l 0) (q.t 25)),((q.a 8),listO (q.l 1) (q.t 26))]
  { d := 110
    c := fun q => forC (lwS W.w [23]) (q.a 6) (lwEnv W.w (q.a 0) (q.a 1) (q.a 2) (q.a 3) (q.a 4) (q.a 5))
    P := fun q => DvP (q.i 0) (q.i 6) (q.i 1) (q.i 4) (q.i 5) (q.i 2) (q.i 3) (q.l 0) (q.l 1) m
    pre := pr
    R := fun q e => DvR (e.i 0) (e.i 1)
    res := fun q e => .ok .next
    out := fun q e => [((q.a 0),frameO [kv B s_script (q.t 0) (q.v 0),kv B s_drawn (q.t 1) (q.v 1),kv B s_total (q.t 2) (q.v 2),kv B s_base (q.t 3) (.int (q.i 0) (q.t 4)),kv B s_count (q.t 5) (.int (q.i 1) (q.t 6)),kv B s_mail (q.t 7) (q.v 3),kv B s_turn (q.t 8) (q.v 4),kv B s_words (q.t 9) (q.v 5),kv B s_earlier (q.t 10) (.ref (q.a 7)),kv B s_sent (q.t 11) (q.v 6),kv B s_later (q.t 12) (.ref (q.a 8)),kv B s_number (q.t 13) (q.v 7),kv B s_rising (q.t 14) (q.v 8),kv B s_k (q.t 15) (e.v 0),kv B s_left (q.t 16) (.int (e.i 0) (e.t 0)),kv B s_turned (q.t 18) (.int (e.i 1) (e.t 1)),kv B s_rest (q.t 20) (e.v 1)] 17)]++(pr q).drop 2 }
noncomputable def on_dv : Code → View → Lt := fun c V => lt [(cEnv c).locals,envCell 4 (cEnv c),envCell 3 (cEnv c),envCell 2 (cEnv c),envCell 1 (cEnv c),envCell 0 (cEnv c),valA (cIt c),dA V 0 8,dA V 0 10] [kT V 0 0,kT V 0 1,kT V 0 2,kT V 0 3,dT V 0 3,kT V 0 4,dT V 0 4,kT V 0 5,kT V 0 6,kT V 0 7,kT V 0 8,kT V 0 9,kT V 0 10,kT V 0 11,kT V 0 12,kT V 0 13,kT V 0 14,dT V 0 14,kT V 0 15,dT V 0 15,kT V 0 16,qT V 1 0,qT V 1 1,qT V 1 2,cT V 2,eP V 3,eP V 4] [dI V 0 3,dI V 0 4,dI V 0 14,dI V 0 15,qI V 1 0,qI V 1 1,valI (cellV (nthO V 2))] [] [dV V 0 0,dV V 0 1,dV V 0 2,dV V 0 5,dV V 0 6,dV V 0 7,dV V 0 9,dV V 0 11,dV V 0 12,dV V 0 13,dV V 0 16] [sQ V 3,sQ V 4] []
theorem dv_end (W : Wd) (O : (BB W).Ok) (m : Nat) (q : Lt) (hq : (S_dv W m).P q) (hl : (q.i 5) ≤ 0) : At (S_dv W m) 110 q := by
  refine tri_f O (stdT _) [] 2000 110 (hs := [0,2,0,2,6,0,2,2,2,1,0]) (is := [2,3,3,3])
    (fun (ρ : Rho) => ob hl <| fin (S_dv W m) q (lt [] [(q.t 17),(q.t 19)] [(q.i 2),(q.i 3)] [] [(q.v 9),(q.v 10)] [] []) ((hq.fin hl)) :) ?_
  induction W using y_0 <;> kernel_rfl
theorem dv_s (W : Wd) (O : (BB W).Ok) (m : Nat) (ih : (S_dv W m).Ok) (q : Lt) (hq : (S_dv W (m + 1)).P q) (hl : 0 < (q.i 5)) : At (S_dv W (m + 1)) 110 q := by
  refine tri_f O (stdT _) [U (S_idm W) (idm_ok W O) on_idm,U (S_dv W m) ih on_dv] 2000 110 (hs := hx 175 0x82082081410cb08000004b80230030c30000924900000024000b2492492490410420410010010410810400400410420410010010400400410400030000050001c51402c2000001220089009249000145145145145041042041001001041081040040041042041001001040040041040003000001040001001042082082082046080080) (is := [0,0,0,0])
    (fun (ρ : Rho) => let z0 : Int := q.i 0 + q.i 6 - q.i 4; ob hl <| ob (hq.i1 hl) <| fun he0 : ((ρ.2 0).i 0) = (-q.i 2 : Int).fdiv (q.i 4 - q.i 0 : Int) ∧ ((ρ.2 0).i 1) = (-q.i 2 : Int).fmod (q.i 4 - q.i 0 : Int) => ob (hq.g1 hl) <| ob (hq.n1 hl he0) <| ob (hq.i2 hl) <| fun he1 : ((ρ.2 1).i 0) = (q.i 3).fdiv z0 ∧ ((ρ.2 1).i 1) = (q.i 3).fmod z0 => ob (hq.g2 hl) <| ob (hq.n2 hl he1) <| ob (hq.next hl he0 he1) <| fun he2 : DvR ((ρ.2 2).i 0) ((ρ.2 2).i 1) => fin (S_dv W (m + 1)) q (lt [] [(ρ.2 2).2 0,(ρ.2 2).2 1] [(ρ.2 2).i 0,(ρ.2 2).i 1] [] [(ρ.2 2).5 0,(ρ.2 2).5 1] [] []) (he2) :) ?_
  induction W using y_0 <;> kernel_rfl
theorem dv_ok (W : Wd) (O : (BB W).Ok) : ∀ m, (S_dv W m).Ok
  | 0 => fun q hq => dv_end W O 0 q hq hq.m0
  | m + 1 => fun q hq => by
    by_cases hl : (q.i 5) ≤ 0
    · exact dv_end W O (m + 1) q hq hl
    · exact dv_s W O m (dv_ok W O m) q hq (by lia)
noncomputable def S_dvf (W : Wd) (m : Nat) : Sp (BB W) :=
  let B := BB W
  let pr := fun q : Lt => [((q.a 0),frameO [kv B s_script (q.t 0) (q.v 0),kv B s_drawn (q.t 1) (q.v 1),kv B s_total (q.t 2) (q.v 2),kv B s_base (q.t 3) (.int (q.i 0) (q.t 4)),kv B s_count (q.t 5) (.int (q.i 1) (q.t 6)),kv B s_mail (q.t 7) (q.v 3),kv B s_turn (q.t 8) (q.v 4),kv B s_words (q.t 9) (q.v 5),kv B s_earlier (q.t 10) (.ref (q.a 7)),kv B s_sent (q.t 11) (q.v 6),kv B s_later (q.t 12) (.ref (q.a 8)),kv B s_number (q.t 13) (q.v 7),kv B s_rising (q.t 14) (q.v 8),kv B s_k (q.t 15) (q.v 9),kv B s_left (q.t 16) (.int (q.i 2) (q.t 17)),kv B s_turned (q.t 18) (.int (q.i 3) (q.t 19))] 16),((q.a 6),fieldsO tRG [(.int (q.i 4) (q.t 20)),(.int (q.i 5) (q.t 21)),(.int 1 (q.t 22))]),((q.a 1),cellO (.int (q.i 6) (q.t 23))),((q.a 7),listO (q.l 0) (q.t 24)),((q.a 8),listO (q.l 1) (q.t 25))]
  { d := 110
    c := fun q => forC (lwS W.w [23]) (q.a 6) (lwEnv W.w (q.a 0) (q.a 1) (q.a 2) (q.a 3) (q.a 4) (q.a 5))
    P := fun q => DvP (q.i 0) (q.i 6) (q.i 1) (q.i 4) (q.i 5) (q.i 2) (q.i 3) (q.l 0) (q.l 1) m ∧ 0 < (q.i 5)
    pre := pr
    R := fun q e => DvR (e.i 0) (e.i 1)
    res := fun q e => .ok .next
    out := fun q e => [((q.a 0),frameO [kv B s_script (q.t 0) (q.v 0),kv B s_drawn (q.t 1) (q.v 1),kv B s_total (q.t 2) (q.v 2),kv B s_base (q.t 3) (.int (q.i 0) (q.t 4)),kv B s_count (q.t 5) (.int (q.i 1) (q.t 6)),kv B s_mail (q.t 7) (q.v 3),kv B s_turn (q.t 8) (q.v 4),kv B s_words (q.t 9) (q.v 5),kv B s_earlier (q.t 10) (.ref (q.a 7)),kv B s_sent (q.t 11) (q.v 6),kv B s_later (q.t 12) (.ref (q.a 8)),kv B s_number (q.t 13) (q.v 7),kv B s_rising (q.t 14) (q.v 8),kv B s_k (q.t 15) (e.v 0),kv B s_left (q.t 16) (.int (e.i 0) (e.t 0)),kv B s_turned (q.t 18) (.int (e.i 1) (e.t 1)),kv B s_rest (e.t 2) (e.v 1)] 17)]++(pr q).drop 2 }
noncomputable def on_dvf : Code → View → Lt := fun c V => lt [(cEnv c).locals,envCell 4 (cEnv c),envCell 3 (cEnv c),envCell 2 (cEnv c),envCell 1 (cEnv c),envCell 0 (cEnv c),valA (cIt c),dA V 0 8,dA V 0 10] [kT V 0 0,kT V 0 1,kT V 0 2,kT V 0 3,dT V 0 3,kT V 0 4,dT V 0 4,kT V 0 5,kT V 0 6,kT V 0 7,kT V 0 8,kT V 0 9,kT V 0 10,kT V 0 11,kT V 0 12,kT V 0 13,kT V 0 14,dT V 0 14,kT V 0 15,dT V 0 15,qT V 1 0,qT V 1 1,qT V 1 2,cT V 2,eP V 3,eP V 4] [dI V 0 3,dI V 0 4,dI V 0 14,dI V 0 15,qI V 1 0,qI V 1 1,valI (cellV (nthO V 2))] [] [dV V 0 0,dV V 0 1,dV V 0 2,dV V 0 5,dV V 0 6,dV V 0 7,dV V 0 9,dV V 0 11,dV V 0 12,dV V 0 13] [sQ V 3,sQ V 4] []
theorem dvf_s (W : Wd) (O : (BB W).Ok) (m : Nat) (ih : (S_dv W m).Ok) (q : Lt) (hq : (S_dvf W (m + 1)).P q) (hl : 0 < (q.i 5)) : At (S_dvf W (m + 1)) 110 q := by
  refine tri_f O (stdT _) [U (S_idm W) (idm_ok W O) on_idm,U (S_dv W m) ih on_dv] 2000 110 (hs := hx 175 0x82082081410cb08000004b80230030c30000924900000024000b2492492490410420410010010410810400400410420410010010400400410400030000050001c51402c2000001220089009249000145145145145041042041001001041081040040041042041001001040040041040003000001040001001042082082082046080080) (is := [0,0,0,0])
    (fun (ρ : Rho) => let z0 : Int := q.i 0 + q.i 6 - q.i 4; ob hl <| ob (hq.1.i1 hl) <| fun he0 : ((ρ.2 0).i 0) = (-q.i 2 : Int).fdiv (q.i 4 - q.i 0 : Int) ∧ ((ρ.2 0).i 1) = (-q.i 2 : Int).fmod (q.i 4 - q.i 0 : Int) => ob (hq.1.g1 hl) <| ob (hq.1.n1 hl he0) <| ob (hq.1.i2 hl) <| fun he1 : ((ρ.2 1).i 0) = (q.i 3).fdiv z0 ∧ ((ρ.2 1).i 1) = (q.i 3).fmod z0 => ob (hq.1.g2 hl) <| ob (hq.1.n2 hl he1) <| ob (hq.1.next hl he0 he1) <| fun he2 : DvR ((ρ.2 2).i 0) ((ρ.2 2).i 1) => fin (S_dvf W (m + 1)) q (lt [] [(ρ.2 2).2 0,(ρ.2 2).2 1,ρ.1 8] [(ρ.2 2).i 0,(ρ.2 2).i 1] [] [(ρ.2 2).5 0,(ρ.2 2).5 1] [] []) (he2) :) ?_
  induction W using y_0 <;> kernel_rfl
theorem dvf_ok (W : Wd) (O : (BB W).Ok) (m : Nat) : (S_dvf W (m + 1)).Ok := fun q hq => by
  exact dvf_s W O m (dv_ok W O m) q hq hq.2
end Mine
end
section
namespace Mine
open PySem PySem.Spec PySem.Calls PyProof.Rows PySem.W PySem.W.X PySem.Builtin PySem.Builtin.Str
noncomputable def slenF (args : List Value) (V : View) (hs : List Nat) (K : Result → View → List Nat → VC) : VC := match args with
  | [] => .ff
  | v :: rest => match rest with
    | _ :: _ => .ff
    | [] => match v with
      | .str x _ => .ob (x.length ≤ sizeLine) <| .al fun t' => K (.ok (.ret (.int (x.length : Int) t'))) V hs
      | _ => .ff
noncomputable def slenC (B : Bs) : BCut B where
  id := "len"
  code := 7300717
  d := 0
  f := slenF
  hid := by rw [← S.code_S]; decide +kernel
  ok := by
    intro args V hs K h A s Rm D
    cases args with
    | nil => cases h
    | cons v rest =>
      cases rest with
      | cons => cases h
      | nil =>
        cases v with
        | str x t =>
          obtain ⟨hl, h⟩ := h
          have h2 : sizeLine < 2 ^ 63 := by decide
          refine codeAny_builtin (b := Builtin.«len») (entryFor_of_tree (by kernel_rfl)) ?_
          rw [Around.under_plainId (by decide +kernel)]
          unfold Builtin.«len»
          refine wpAny_bind (m := oneArg "len" _) (wpAny_pure ?_)
          have hT := typeIs_str s x t
          refine wpAny_bind (m := callSpecial? (.str x t) (Str.ofString "__len__")) (wpAny_callSpecial?_slot (name := Str.ofString "__len__") hT slot_str_len (call_gives slot_str_len hT entry_str_len (args_str_len _) (gives_str_len x t) ?_))
          show wpAny _ _ _ _ _ { s with toks := s.toks + 1 }
          refine wpAny_bind (wpAny_holding (wpAny_pure ?_))
          refine wpAny_bind (wpAny_letGo ?_)
          show wpAny _ _ (if ((x.length : Int)) < 0 then _ else _) _ _ _
          rw [if_neg (by lia)]
          show wpAny _ _ (if ((x.length : Int)) ≥ 2 ^ 63 then _ else _) _ _ _
          rw [if_neg (by lia)]
          exact wpAny_bind (wpAny_mkInt (wpAny_pure ⟨V, hs, h _, D.fresh.fresh, ext_fresh.trans ext_fresh⟩))
        | _ => cases h
end Mine
end
section
namespace Mine
open PySem PySem.Spec PySem.Calls PyProof.Rows PySem.W PySem.W.X PySem.Builtin PySem.Builtin.Str PySem.Builtin.Int PySem.StrLaws
theorem isRv.s {v : Value} (h : isRv v) : isSv v := h.1
theorem slice_hd (x : Str) (t : Tok) : sliceV x none (some (1, t)) = sL (x.cps.toList.take 1) := by
  have e : sliceV x none (some (1, t)) = sliceText x none (some 1) := rfl
  rw [e]
  rcases Nat.eq_zero_or_pos x.length with h | h
  · have hx : x = ⟨#[]⟩ := by
      obtain ⟨a⟩ := x
      have : a = #[] := Array.eq_empty_of_size_eq_zero h
      rw [this]
    subst hx
    rfl
  · have e2 : sliceText x none (some 1) = sliceText x (some ((0 : Nat) : Int)) (some ((1 : Nat) : Int)) := by
      unfold sliceText
      rw [sliceIdx_none_lo]
      rfl
    rw [e2, sliceText_nat x (by decide) h]
    rfl
theorem slice_tl (x : Str) (t : Tok) : sliceV x (some (1, t)) none = sL (x.cps.toList.drop 1) := by
  have e : sliceV x (some (1, t)) none = sliceText x (some 1) none := rfl
  rw [e]
  rcases Nat.eq_zero_or_pos x.length with h | h
  · have hx : x = ⟨#[]⟩ := by
      obtain ⟨a⟩ := x
      have : a = #[] := Array.eq_empty_of_size_eq_zero h
      rw [this]
    subst hx
    rfl
  · have e2 : sliceText x (some 1) none = sliceText x (some ((1 : Nat) : Int)) (some (x.length : Int)) := by
      unfold sliceText
      rw [sliceIdx_none_hi]
      rfl
    rw [e2, sliceText_nat x h (Nat.le_refl _)]
    unfold sL
    congr 1
    congr 1
    rw [List.take_of_length_le]
    rw [List.length_drop]
    exact Nat.le_refl _
theorem cpsLen (x : Str) : x.cps.toList.length = x.length := by simp; rfl
theorem gu_tt {x : Str} {t : Tok} (h : sliceV x none (some (1, t)) = ⟨#[46]⟩) (u : Tok) : undot x = sliceV x (some (1, u)) none := by
  rw [slice_hd] at h
  rw [slice_tl]
  unfold undot
  congr 1
  have h2 : x.cps.toList.take 1 = [46] := by
    have := congrArg (fun s : Str => s.cps.toList) h
    simpa [sL] using this
  match hx : x.cps.toList with
  | [] => rw [hx] at h2; simp at h2
  | c :: l =>
    rw [hx] at h2
    simp at h2
    subst h2
    rfl
theorem gu_ff {x : Str} {t : Tok} (h : sliceV x none (some (1, t)) ≠ ⟨#[46]⟩) : undot x = x := by
  rw [slice_hd] at h
  have e : sL x.cps.toList = x := rfl
  unfold undot
  match hx : x.cps.toList with
  | [] => rw [hx] at e; exact e
  | c :: l =>
    rw [hx] at h e
    by_cases hc : c = 46
    · subst hc
      exact absurd rfl h
    · split
      · rename_i l' e2
        injection e2 with e3 _
        exact absurd e3 hc
      · exact e
theorem gu_t {v : Value} {t u : Tok} (h : sliceV (shS v) none (some (1, t)) = ⟨#[46]⟩) {w : Tok} : gU v (.str (sliceV (shS v) (some (1, u)) none) w) := ⟨w, by rw [gu_tt h u]⟩
theorem gu_f {v : Value} {t : Tok} (h : sliceV (shS v) none (some (1, t)) ≠ ⟨#[46]⟩) : gU v (.str (shS v) (shT v)) := ⟨_, by rw [gu_ff h]⟩
section
variable {i : Int} {ys xs : List Value} {m : Nat}
theorem MpP.sl1 (h : MpP isRv i ys xs m) (hi : i.toNat < ys.length) (t : Tok) : Str.length (sliceV (shS (itemAt ys i.toNat)) none (some ((1 : Int), t))) ≤ sizeLine := by
  have := (h.q hi).2
  rw [slice_hd, sL_len, List.length_take, cpsLen]
  exact le1k (b := 10) (by lia)
theorem MpP.sl2 (h : MpP isRv i ys xs m) (hi : i.toNat < ys.length) (t : Tok) : Str.length (sliceV (shS (itemAt ys i.toNat)) (some ((1 : Int), t)) none) ≤ sizeLine := by
  have := (h.q hi).2
  rw [slice_tl, sL_len, List.length_drop, cpsLen]
  exact le1k (b := 10) (by lia)
theorem sl_is {x : Str} (t : Tok) (h : sliceV x none (some ((1 : Int), 0)) = ⟨#[46]⟩) : sliceV x none (some ((1 : Int), t)) = ⟨#[46]⟩ := by rw [slice_hd] at h ⊢; exact h
theorem sl_ne {x : Str} (t : Tok) (h : sliceV x none (some ((1 : Int), 0)) ≠ ⟨#[46]⟩) : sliceV x none (some ((1 : Int), t)) ≠ ⟨#[46]⟩ := by rw [slice_hd] at h ⊢; exact h
end
theorem cps_sL (x : Str) : sL x.cps.toList = x := rfl
theorem joinOk_small {sep : Str} (hs : sep.length ≤ 2) {l : List Str} {b : Nat} (h : ∀ x ∈ l, x.length ≤ b) (hn : l.length * (b + 2) ≤ sizeLine) : JoinOk sep l = true := by
  have e : ∀ (l : List Str) (k : Nat), (∀ x ∈ l, x.length ≤ b) → l.foldl (fun (n : Nat) (p : Str) => n + p.length + sep.length) k ≤ k + l.length * (b + 2) := by
    intro l
    induction l with
    | nil => intro k _; simp
    | cons p l ih =>
      intro k h
      have h1 := h p (.head _)
      have := ih (k + p.length + sep.length) (fun x hx => h x (.tail _ hx))
      rw [List.foldl_cons, List.length_cons, Nat.succ_mul]
      lia
  have := e l 0 h
  unfold JoinOk tooLong
  rw [List.foldl_toArray' _ _ _ (by rfl)]
  simp
  lia
theorem joinL_len (sep : List Nat) (b : Nat) : ∀ ws : List (List Nat), (∀ w ∈ ws, w.length ≤ b) → (joinL sep ws).length ≤ ws.length * (b + sep.length)
  | [], _ => by simp [joinL]
  | [w], h => by have := h w (.head _); simp [joinL]; lia
  | w :: v :: ws, h => by
    have h1 := h w (.head _)
    have h2 := joinL_len sep b (v :: ws) (fun x hx => h x (.tail _ hx))
    rw [joinL, List.length_append, List.length_append, List.length_cons, Nat.succ_mul]
    lia
theorem join_eq (sep : Str) (l : List Str) : Txt.join sep l = sL (joinL sep.cps.toList (l.map fun x => x.cps.toList)) := by
  have e1 : l = (l.map fun x => x.cps.toList).map sL := by
    rw [List.map_map]
    show l = l.map (fun x => sL x.cps.toList)
    simp [cps_sL]
  have z := join_sL sep (l.map fun x => x.cps.toList)
  rw [← e1] at z
  exact z
theorem join_len (sep : Str) (hs : sep.length ≤ 2) {l : List Str} {b : Nat} (h : ∀ x ∈ l, x.length ≤ b) : (Txt.join sep l).length ≤ l.length * (b + 2) := by
  rw [join_eq, sL_len]
  have z := joinL_len sep.cps.toList b (l.map fun x => x.cps.toList) (fun w hw => by
    obtain ⟨x, hx, rfl⟩ := List.mem_map.mp hw
    have := h x hx
    rw [cpsLen]; exact this)
  rw [List.length_map] at z
  rw [cpsLen] at z
  exact Nat.le_trans z (Nat.mul_le_mul_left _ (by lia))
theorem DwP.fin {base cnt cur left x : Int} {ws : List Value} {m : Nat} (h : DwP base cnt cur left x ws m) (h0 : left ≤ 0) : x = 1 := h.one h0
theorem DwP.ln {base cur left x : Int} {n : Nat} {ws : List Value} {m : Nat} (h : DwP base (n : Int) cur left x ws m) : n ≤ sizeLine := by have := h.c5; exact le1k (b := 5) (by lia)
section
variable {cur left : Int} {rl rl2 cl cl' : List Value} {m : Nat}
theorem CmP.m0 (h : CmP cur left rl cl 0) : left ≤ 0 := h.rg.m0
theorem CmP.fin (h : CmP cur left rl cl m) (h0 : left ≤ 0) : CmR left rl cl cl := ⟨h.ca, by rw [show left.toNat = 0 by lia]; simp [colsF]⟩
theorem CmP.b (h : CmP cur left rl cl m) : ∀ x ∈ rl.map shS, x.length ≤ 10 := fun x hx => by
  obtain ⟨v, hv, rfl⟩ := List.mem_map.mp hx
  exact h.rb v hv
theorem CmP.jo (h : CmP cur left rl cl m) : AllStr rl ∧ JoinOk ⟨#[13, 10]⟩ (rl.map shS) = true := ⟨h.ra, joinOk_small (by decide) h.b (by
  have := h.r1; rw [List.length_map]; exact le1k (b := 48) (by lia))⟩
theorem CmP.tl (h : CmP cur left rl cl m) : (joinV ⟨#[13, 10]⟩ rl).length ≤ 48 := by
  have z := join_len ⟨#[13, 10]⟩ (by decide) h.b
  rw [List.length_map] at z
  have := h.r1
  unfold joinV
  lia
theorem CmP.qd (h : CmP cur left rl cl m) : 8 * (joinV ⟨#[13, 10]⟩ rl).length + 8 ≤ sizeLine := by have := h.tl; exact le1k (b := 400) (by lia)
theorem CmP.lq (h : CmP cur left rl cl m) : (quoted (joinV ⟨#[13, 10]⟩ rl)).length ≤ sizeLine := by have := h.tl; have := quoted_len (joinV ⟨#[13, 10]⟩ rl); exact le1k (b := 400) (by lia)
theorem CmP.lt (h : CmP cur left rl cl m) : (joinV ⟨#[13, 10]⟩ rl).length ≤ sizeLine := le1k h.tl
theorem CmP.ap (h : CmP cur left rl cl m) : cl.length ≤ sizeLine := by have := h.c1; exact le1k (b := 100) (by lia)
theorem CmP.ro (h : CmP cur left rl cl m) : MpP isRv 0 rl [] (8 + 1) ∧ (0 : Int).toNat < rl.length := by
  have := h.r1
  exact ⟨⟨by lia, by lia, by lia, fun v hv => ⟨h.ra v hv, h.rb v hv⟩, by simp; lia, by lia⟩, h.r0⟩
theorem undot_len (x : Str) : (undot x).length ≤ x.length := by
  unfold undot
  rw [sL_len, ← cpsLen x]
  split
  · rename_i l e; rw [e]; simp
  · exact Nat.le_refl _
theorem CmP.un (h : CmP cur left rl cl m) (r : MpR gU 0 rl [] rl2) : AllStr rl2 ∧ rl2.map shS = (rl.map shS).map undot := by
  obtain ⟨zs, e, hz⟩ := r.ex
  rw [List.nil_append] at e
  subst e
  exact hz.undots
theorem CmP.next (h : CmP cur left rl cl (m + 1)) (h0 : 0 < left) (r : MpR gU 0 rl [] rl2) {a : Int} {t : Tok} : CmP (cur + 1) (left - 1) rl2 (cl ++ [.int a t]) m := by
  obtain ⟨e1, e2⟩ := h.un r
  have hl : rl2.length = rl.length := by have := congrArg List.length e2; simpa using this
  have := h.c1
  refine ⟨h.rg.next h0, e1, by rw [hl]; exact h.r1, by rw [hl]; exact h.r0, fun v hv => ?_, h.ca.app (AllInt.one _ _), by simp; lia⟩
  have hm : shS v ∈ rl2.map shS := List.mem_map_of_mem hv
  rw [e2] at hm
  obtain ⟨x, hx, e⟩ := List.mem_map.mp hm
  rw [← e]
  exact Nat.le_trans (undot_len x) (h.b x hx)
theorem CmP.step (h : CmP cur left rl cl (m + 1)) (h0 : 0 < left) (r : MpR gU 0 rl [] rl2) {t : Tok} (r2 : CmR (left - 1) rl2 (cl ++ [.int (((quoted (joinV ⟨#[13, 10]⟩ rl)).length : Int) - ((joinV ⟨#[13, 10]⟩ rl).length : Int)) t]) cl') : CmR left rl cl cl' := by
  obtain ⟨e1, e2⟩ := h.un r
  refine ⟨r2.ca, ?_⟩
  rw [r2.ce, show left.toNat = (left - 1).toNat + 1 by lia, colsF, e2, intsV_app]
  simp [intsV, shI]
  rfl
end
end Mine
end
section

namespace Mine
open PySem PySem.Spec PySem.Calls PyProof.Rows PySem.W PySem.W.X PySem.Builtin.Str
noncomputable def stdU (B : Bs) : List (BCut B) := stdT B ++ [slenC B]
noncomputable def S_ro (W : Wd) (m : Nat) : Sp (BB W) :=
  let B := BB W
  { d := 100
    c := fun q => .compLoop (exOf (lwS W.w [27, 0, 2])) 0 (.ref (q.a 2)) (.ref (q.a 3)) (compEnv (exOf (lwS W.w [27, 0, 2])) (lwEnv W.w (q.a 1) 0 0 0 0 0) (q.a 0) [])
    P := fun q => MpP isRv (q.i 0) (q.l 1) (q.l 0) m
    pre := fun q => [((q.a 0),dictO [kv B s_row (q.t 0) (q.v 0)] 1),((q.a 2),fieldsO tLI [(.ref (q.a 4)),(.int (q.i 0) (q.t 1))]),((q.a 3),listO (q.l 0) (q.t 2)),((q.a 4),listO (q.l 1) (q.t 3))]
    R := fun q e => MpR (gU) (q.i 0) (q.l 1) (q.l 0) (e.l 0)
    res := fun q e => .ok .next
    out := fun q e => [((q.a 0),dictO [kv B s_row (q.t 0) (e.v 0)] 1),((q.a 3),listO (e.l 0) (e.t 0)),((q.a 4),listO (q.l 1) (q.t 3))] }
noncomputable def on_ro : Code → View → Lt := fun c V => lt [(cEnv c).locals,envFrame (cEnv c),valA (cIt c),valA (cAcc c),valA (nthV (sQ V 1) 0)] [kT V 0 0,qT V 1 1,eP V 2,eP V 3] [qI V 1 1] [] [dV V 0 0] [sQ V 2,sQ V 3] []
noncomputable def S_rof (W : Wd) (m : Nat) : Sp (BB W) :=
  let B := BB W
  { d := 100
    c := fun q => .compLoop (exOf (lwS W.w [27, 0, 2])) 0 (.ref (q.a 2)) (.ref (q.a 3)) (compEnv (exOf (lwS W.w [27, 0, 2])) (lwEnv W.w (q.a 1) 0 0 0 0 0) (q.a 0) [])
    P := fun q => MpP isRv (q.i 0) (q.l 1) (q.l 0) m ∧ (q.i 0).toNat < (q.l 1).length
    pre := fun q => [((q.a 0),dictO [] 0),((q.a 2),fieldsO tLI [(.ref (q.a 4)),(.int (q.i 0) (q.t 0))]),((q.a 3),listO (q.l 0) (q.t 1)),((q.a 4),listO (q.l 1) (q.t 2))]
    R := fun q e => MpR (gU) (q.i 0) (q.l 1) (q.l 0) (e.l 0)
    res := fun q e => .ok .next
    out := fun q e => [((q.a 0),dictO [kv B s_row (e.t 0) (e.v 0)] 1),((q.a 3),listO (e.l 0) (e.t 1)),((q.a 4),listO (q.l 1) (q.t 2))] }
noncomputable def on_rof : Code → View → Lt := fun c V => lt [(cEnv c).locals,envFrame (cEnv c),valA (cIt c),valA (cAcc c),valA (nthV (sQ V 1) 0)] [qT V 1 1,eP V 2,eP V 3] [qI V 1 1] [] [] [sQ V 2,sQ V 3] []
noncomputable def S_roa (W : Wd) (m : Nat) : Sp (BB W) := Sp.start (S_rof W m)
noncomputable abbrev on_roa := on_rof
theorem ro_end (W : Wd) (O : (BB W).Ok) (m : Nat) (q : Lt) (hq : (S_ro W m).P q) (hl : (q.l 1).length ≤ (q.i 0).toNat) : At (S_ro W m) 100 q := by
  refine tri_f O (stdU _) [] 2000 100 (hs := hx 12 0x42084082005080080) (is := [2,3,3])
    (fun (ρ : Rho) => ob hl <| fin (S_ro W m) q (lt [] [(q.t 2)] [] [] [(q.v 0)] [(q.l 0)] []) ((hq.fin hl)) :) ?_
  induction W using y_0 <;> kernel_rfl
theorem ro_t (W : Wd) (O : (BB W).Ok) (m : Nat) (ih : (S_ro W m).Ok) (q : Lt) (hq : (S_ro W (m + 1)).P q) (hl : (q.i 0).toNat < (q.l 1).length) (hb : sliceV (shS (itemAt (q.l 1) (q.i 0).toNat)) none (some ((1 : Int), 0)) = ⟨#[46]⟩) : At (S_ro W (m + 1)) 100 q := by
  refine tri_f O (stdU _) [U (S_ro W m) ih on_ro] 2000 100 (hs := hx 38 0x820821000c478214001308008c0800130800410420840820c5080080) (is := [0,0,0])
    (fun (ρ : Rho) => let z0 := shS (itemAt (q.l 1) ((q.i 0).toNat)); ob (A := (risD (It.mk (Value.ref (q.a 2)) (q.i 0) (0 : Int) (0 : Int) (Array.mk (q.l 1))) (3))) (hq.itemS isRv.s hl) <| ob (A := (Str.length (sliceV z0 none (some ((1 : Int),ρ.1 1))) ≤ sizeLine)) (hq.sl1 hl (ρ.1 1)) <| ob (A := (sliceV z0 none (some ((1 : Int),ρ.1 1)) = mS [46])) (sl_is (ρ.1 1) hb) <| ob (A := (Str.length (sliceV z0 (some ((1 : Int),ρ.1 5)) none) ≤ sizeLine)) (hq.sl2 hl (ρ.1 5)) <| ob (A := (List.length (q.l 0) ≤ sizeLine)) (hq.ob) <| ob (A := (MpP isRv (q.i 0 + 1 : Int) (q.l 1) (q.l 0++[Value.str (sliceV z0 (some (1,ρ.n 5)) none) (ρ.n 7)]) m)) (hq.next hl) <| fun he0 : MpR (gU) (q.i 0 + 1 : Int) (q.l 1) (q.l 0++[Value.str (sliceV (shS (itemAt (q.l 1) (Int.toNat (q.i 0)))) (some (1,ρ.n 5)) none) (ρ.n 7)]) ((ρ.2 0).l 0) => fin (S_ro W (m + 1)) q (lt [] [(ρ.2 0).2 0] [] [] [(ρ.2 0).5 0] [(ρ.2 0).6 0] []) ((hq.step hl (gu_t hb) he0)) :) ?_
  induction W using y_0 <;> kernel_rfl
theorem ro_f (W : Wd) (O : (BB W).Ok) (m : Nat) (ih : (S_ro W m).Ok) (q : Lt) (hq : (S_ro W (m + 1)).P q) (hl : (q.i 0).toNat < (q.l 1).length) (hb : ¬ sliceV (shS (itemAt (q.l 1) (q.i 0).toNat)) none (some ((1 : Int), 0)) = ⟨#[46]⟩) : At (S_ro W (m + 1)) 100 q := by
  refine tri_f O (stdU _) [U (S_ro W m) ih on_ro] 2000 100 (hs := hx 34 0x410411000c378210008d0800130800410420840820c5080080) (is := [0,0,0])
    (fun (ρ : Rho) => let z0 := itemAt (q.l 1) ((q.i 0).toNat); let z1 := itemAt (q.l 1) (Int.toNat (q.i 0)); ob (A := (risD (It.mk (Value.ref (q.a 2)) (q.i 0) (0 : Int) (0 : Int) (Array.mk (q.l 1))) (3))) (hq.itemS isRv.s hl) <| ob (A := (Str.length (sliceV (shS z0) none (some ((1 : Int),ρ.1 1))) ≤ sizeLine)) (hq.sl1 hl (ρ.1 1)) <| ob (A := (sliceV (shS z0) none (some ((1 : Int),ρ.1 1)) ≠ mS [46])) (sl_ne (ρ.1 1) hb) <| ob (A := (List.length (q.l 0) ≤ sizeLine)) (hq.ob) <| ob (A := (MpP isRv (q.i 0 + 1 : Int) (q.l 1) (q.l 0++[Value.str (shS z0) (shT z0)]) m)) (hq.next hl) <| fun he0 : MpR (gU) (q.i 0 + 1 : Int) (q.l 1) (q.l 0++[Value.str (shS z1) (shT z1)]) ((ρ.2 0).l 0) => fin (S_ro W (m + 1)) q (lt [] [(ρ.2 0).2 0] [] [] [(ρ.2 0).5 0] [(ρ.2 0).6 0] []) ((hq.step hl (gu_f hb) he0)) :) ?_
  induction W using y_0 <;> kernel_rfl
theorem rof_t (W : Wd) (O : (BB W).Ok) (m : Nat) (ih : (S_ro W m).Ok) (q : Lt) (hq : (S_rof W (m + 1)).P q) (hl : (q.i 0).toNat < (q.l 1).length) (hb : sliceV (shS (itemAt (q.l 1) (q.i 0).toNat)) none (some ((1 : Int), 0)) = ⟨#[46]⟩) : At (S_rof W (m + 1)) 100 q := by
  refine tri_f O (stdU _) [U (S_ro W m) ih on_ro] 2000 100 (hs := hx 38 0x820821000c478214001308008c0800130800410420840820c5080080) (is := [0,0,0])
    (fun (ρ : Rho) => let z0 := shS (itemAt (q.l 1) ((q.i 0).toNat)); ob (A := (risD (It.mk (Value.ref (q.a 2)) (q.i 0) (0 : Int) (0 : Int) (Array.mk (q.l 1))) (3))) (hq.1.itemS isRv.s hl) <| ob (A := (Str.length (sliceV z0 none (some ((1 : Int),ρ.1 1))) ≤ sizeLine)) (hq.1.sl1 hl (ρ.1 1)) <| ob (A := (sliceV z0 none (some ((1 : Int),ρ.1 1)) = mS [46])) (sl_is (ρ.1 1) hb) <| ob (A := (Str.length (sliceV z0 (some ((1 : Int),ρ.1 5)) none) ≤ sizeLine)) (hq.1.sl2 hl (ρ.1 5)) <| ob (A := (List.length (q.l 0) ≤ sizeLine)) (hq.1.ob) <| ob (A := (MpP isRv (q.i 0 + 1 : Int) (q.l 1) (q.l 0++[Value.str (sliceV z0 (some (1,ρ.n 5)) none) (ρ.n 7)]) m)) (hq.1.next hl) <| fun he0 : MpR (gU) (q.i 0 + 1 : Int) (q.l 1) (q.l 0++[Value.str (sliceV (shS (itemAt (q.l 1) (Int.toNat (q.i 0)))) (some (1,ρ.n 5)) none) (ρ.n 7)]) ((ρ.2 0).l 0) => fin (S_rof W (m + 1)) q (lt [] [ρ.1 0,(ρ.2 0).2 0] [] [] [(ρ.2 0).5 0] [(ρ.2 0).6 0] []) ((hq.1.step hl (gu_t hb) he0)) :) ?_
  induction W using y_0 <;> kernel_rfl
theorem rof_f (W : Wd) (O : (BB W).Ok) (m : Nat) (ih : (S_ro W m).Ok) (q : Lt) (hq : (S_rof W (m + 1)).P q) (hl : (q.i 0).toNat < (q.l 1).length) (hb : ¬ sliceV (shS (itemAt (q.l 1) (q.i 0).toNat)) none (some ((1 : Int), 0)) = ⟨#[46]⟩) : At (S_rof W (m + 1)) 100 q := by
  refine tri_f O (stdU _) [U (S_ro W m) ih on_ro] 2000 100 (hs := hx 34 0x410411000c378210008d0800130800410420840820c5080080) (is := [0,0,0])
    (fun (ρ : Rho) => let z0 := itemAt (q.l 1) ((q.i 0).toNat); let z1 := itemAt (q.l 1) (Int.toNat (q.i 0)); ob (A := (risD (It.mk (Value.ref (q.a 2)) (q.i 0) (0 : Int) (0 : Int) (Array.mk (q.l 1))) (3))) (hq.1.itemS isRv.s hl) <| ob (A := (Str.length (sliceV (shS z0) none (some ((1 : Int),ρ.1 1))) ≤ sizeLine)) (hq.1.sl1 hl (ρ.1 1)) <| ob (A := (sliceV (shS z0) none (some ((1 : Int),ρ.1 1)) ≠ mS [46])) (sl_ne (ρ.1 1) hb) <| ob (A := (List.length (q.l 0) ≤ sizeLine)) (hq.1.ob) <| ob (A := (MpP isRv (q.i 0 + 1 : Int) (q.l 1) (q.l 0++[Value.str (shS z0) (shT z0)]) m)) (hq.1.next hl) <| fun he0 : MpR (gU) (q.i 0 + 1 : Int) (q.l 1) (q.l 0++[Value.str (shS z1) (shT z1)]) ((ρ.2 0).l 0) => fin (S_rof W (m + 1)) q (lt [] [ρ.1 0,(ρ.2 0).2 0] [] [] [(ρ.2 0).5 0] [(ρ.2 0).6 0] []) ((hq.1.step hl (gu_f hb) he0)) :) ?_
  induction W using y_0 <;> kernel_rfl
theorem ro_ok (W : Wd) (O : (BB W).Ok) : ∀ m, (S_ro W m).Ok
  | 0 => fun q hq => ro_end W O 0 q hq hq.m0
  | m + 1 => fun q hq => by
    by_cases hl : (q.l 1).length ≤ (q.i 0).toNat
    · exact ro_end W O (m + 1) q hq hl
    · by_cases hb : sliceV (shS (itemAt (q.l 1) (q.i 0).toNat)) none (some ((1 : Int), 0)) = ⟨#[46]⟩
      · exact ro_t W O m (ro_ok W O m) q hq (by lia) hb
      · exact ro_f W O m (ro_ok W O m) q hq (by lia) hb
theorem rof_ok (W : Wd) (O : (BB W).Ok) (m : Nat) : (S_rof W (m + 1)).Ok := fun q hq => by
  by_cases hb : sliceV (shS (itemAt (q.l 1) (q.i 0).toNat)) none (some ((1 : Int), 0)) = ⟨#[46]⟩
  · exact rof_t W O m (ro_ok W O m) q hq hq.2 hb
  · exact rof_f W O m (ro_ok W O m) q hq hq.2 hb
theorem roa_true (W : Wd) (O : (BB W).Ok) (m : Nat) (q : Lt) (hq : (S_roa W (m + 1)).P q) (hb : W.b2 = true) : At (S_roa W (m + 1)) 100 q := by
  refine tri_f O (stdU _) [U (S_rof W (m + 1)) (rof_ok W O m) on_rof] 2000 100 (hs := [0,3,0,4,0,0,0,0]) (is := [0,0,0])
    (fun (ρ : Rho) => ob hq <| fun he0 : MpR (gU) (q.i 0) (q.l 1) (q.l 0) ((ρ.2 0).l 0) => fin (S_roa W (m + 1)) q (lt [] [(ρ.2 0).2 0,(ρ.2 0).2 1] [] [] [(ρ.2 0).5 0] [(ρ.2 0).6 0] []) (he0) :) ?_
  induction W, hb using y_true <;> kernel_rfl
theorem roa_false (W : Wd) (O : (BB W).Ok) (m : Nat) (q : Lt) (hq : (S_roa W (m + 1)).P q) (hb : W.b2 = false) : At (S_roa W (m + 1)) 100 q := by
  refine tri_f O (stdU _) [U (S_rof W (m + 1)) (rof_ok W O m) on_rof] 2000 100 (hs := hx 14 0x1000c2002002080) (is := [0,0,0])
    (fun (ρ : Rho) => ob hq <| fun he0 : MpR (gU) (q.i 0) (q.l 1) (q.l 0) ((ρ.2 0).l 0) => fin (S_roa W (m + 1)) q (lt [] [(ρ.2 0).2 0,(ρ.2 0).2 1] [] [] [(ρ.2 0).5 0] [(ρ.2 0).6 0] []) (he0) :) ?_
  induction W, hb using y_false <;> kernel_rfl
theorem roa_ok (W : Wd) (O : (BB W).Ok) (m : Nat) : (S_roa W (m + 1)).Ok := fun q hq => by
  cases hb : W.b2 with
  | true => exact roa_true W O m q hq hb
  | false => exact roa_false W O m q hq hb
noncomputable def S_cm (W : Wd) (m : Nat) : Sp (BB W) :=
  let B := BB W
  { d := 110
    c := fun q => forC (lwS W.w [27]) (q.a 6) (lwEnv W.w (q.a 0) (q.a 1) (q.a 2) (q.a 3) (q.a 4) (q.a 5))
    P := fun q => CmP (q.i 0) (q.i 1) (q.l 0) (q.l 1) m
    pre := fun q => [((q.a 0),frameO [kv B s_script (q.t 0) (q.v 0),kv B s_drawn (q.t 1) (q.v 1),kv B s_total (q.t 2) (q.v 2),kv B s_base (q.t 3) (q.v 3),kv B s_count (q.t 4) (q.v 4),kv B s_mail (q.t 5) (q.v 5),kv B s_turn (q.t 6) (q.v 6),kv B s_words (q.t 7) (q.v 7),kv B s_earlier (q.t 8) (q.v 8),kv B s_sent (q.t 9) (q.v 9),kv B s_later (q.t 10) (q.v 10),kv B s_number (q.t 11) (q.v 11),kv B s_rising (q.t 12) (q.v 12),kv B s_k (q.t 13) (q.v 13),kv B s_left (q.t 14) (q.v 14),kv B s_turned (q.t 15) (q.v 15),kv B s_rest (q.t 16) (q.v 16),kv B s_rows (q.t 17) (.ref (q.a 7)),kv B s_columns (q.t 18) (.ref (q.a 8)),kv B s_text (q.t 19) (q.v 17)] 20),((q.a 6),fieldsO tRG [(.int (q.i 0) (q.t 20)),(.int (q.i 1) (q.t 21)),(.int 1 (q.t 22))]),((q.a 7),listO (q.l 0) (q.t 23)),((q.a 8),listO (q.l 1) (q.t 24))]
    R := fun q e => CmR (q.i 1) (q.l 0) (q.l 1) (e.l 0)
    res := fun q e => .ok .next
    out := fun q e => [((q.a 0),frameO [kv B s_script (q.t 0) (q.v 0),kv B s_drawn (q.t 1) (q.v 1),kv B s_total (q.t 2) (q.v 2),kv B s_base (q.t 3) (q.v 3),kv B s_count (q.t 4) (q.v 4),kv B s_mail (q.t 5) (q.v 5),kv B s_turn (q.t 6) (q.v 6),kv B s_words (q.t 7) (q.v 7),kv B s_earlier (q.t 8) (q.v 8),kv B s_sent (q.t 9) (q.v 9),kv B s_later (q.t 10) (q.v 10),kv B s_number (q.t 11) (q.v 11),kv B s_rising (q.t 12) (q.v 12),kv B s_k (q.t 13) (e.v 0),kv B s_left (q.t 14) (q.v 14),kv B s_turned (q.t 15) (q.v 15),kv B s_rest (q.t 16) (q.v 16),kv B s_rows (q.t 17) (.ref (e.a 0)),kv B s_columns (q.t 18) (.ref (q.a 8)),kv B s_text (q.t 19) (e.v 1)] 20),((e.a 0),listO (e.l 1) (e.t 0)),((q.a 8),listO (e.l 0) (e.t 1))] }
noncomputable def on_cm : Code → View → Lt := fun c V => lt [(cEnv c).locals,envCell 4 (cEnv c),envCell 3 (cEnv c),envCell 2 (cEnv c),envCell 1 (cEnv c),envCell 0 (cEnv c),valA (cIt c),dA V 0 17,dA V 0 18] [kT V 0 0,kT V 0 1,kT V 0 2,kT V 0 3,kT V 0 4,kT V 0 5,kT V 0 6,kT V 0 7,kT V 0 8,kT V 0 9,kT V 0 10,kT V 0 11,kT V 0 12,kT V 0 13,kT V 0 14,kT V 0 15,kT V 0 16,kT V 0 17,kT V 0 18,kT V 0 19,qT V 1 0,qT V 1 1,qT V 1 2,eP V 2,eP V 3] [qI V 1 0,qI V 1 1] [] [dV V 0 0,dV V 0 1,dV V 0 2,dV V 0 3,dV V 0 4,dV V 0 5,dV V 0 6,dV V 0 7,dV V 0 8,dV V 0 9,dV V 0 10,dV V 0 11,dV V 0 12,dV V 0 13,dV V 0 14,dV V 0 15,dV V 0 16,dV V 0 19] [sQ V 2,sQ V 3] []
theorem cm_end (W : Wd) (O : (BB W).Ok) (m : Nat) (q : Lt) (hq : (S_cm W m).P q) (hl : (q.i 1) ≤ 0) : At (S_cm W m) 110 q := by
  refine tri_f O (stdU _) [] 2000 110 (hs := [0,2,0,2,6,0,2,2,2,1,0]) (is := [2,3,3])
    (fun (ρ : Rho) => ob hl <| fin (S_cm W m) q (lt [(q.a 7)] [(q.t 23),(q.t 24)] [] [] [(q.v 13),(q.v 17)] [(q.l 1),(q.l 0)] []) ((hq.fin hl)) :) ?_
  induction W using y_0 <;> kernel_rfl
theorem cm_s (W : Wd) (O : (BB W).Ok) (m : Nat) (ih : (S_cm W m).Ok) (q : Lt) (hq : (S_cm W (m + 1)).P q) (hl : 0 < (q.i 1)) : At (S_cm W (m + 1)) 110 q := by
  refine tri_f O (stdU _) [U (S_qd W) (qd_ok W O) on_qd,U (S_roa W (8 + 1)) (roa_ok W O 8) on_roa,U (S_cm W m) ih on_cm] 2000 110 (hs := hx 77 0x20430c40830410441020010040430400c00c3043782100000c82001000c820000030010000041041010410ae080041042082082082046080080) (is := [0,0,0])
    (fun (ρ : Rho) => let z0 := joinV (mS [13,10]) (q.l 0); ob (A := (rngD (It.mk (Value.ref (q.a 6)) (q.i 0) (q.i 1) (1 : Int) #[]) (1))) (hl) <| ob (A := (AllStr (q.l 0) ∧ JoinOk (mS [13,10]) (List.map shS (q.l 0)) = true)) (hq.jo) <| ob (A := (8 * z0.length + 8 ≤ sizeLine)) (hq.qd) <| fun _ : True => ob (A := (Str.length (quoted z0) ≤ sizeLine)) (hq.lq) <| ob (A := (Str.length z0 ≤ sizeLine)) (hq.lt) <| ob (A := (List.length (q.l 1) ≤ sizeLine)) (hq.ap) <| ob (A := (MpP isRv (0 : Int) (q.l 0) ([] : List Value) (8 + 1) ∧ (0 : Int).toNat < (q.l 0).length)) (hq.ro) <| fun he1 : MpR (gU) (0 : Int) (q.l 0) ([] : List Value) ((ρ.2 1).l 0) => ob (A := (CmP (q.i 0 + 1 : Int) (q.i 1 - 1 : Int) ((ρ.2 1).l 0) (q.l 1++[Value.int (↑(Str.length (quoted z0)) - ↑(Str.length z0)) (ρ.n 7)]) m)) (hq.next hl he1) <| fun he2 : CmR (q.i 1 - 1 : Int) ((ρ.2 1).l 0) (q.l 1++[Value.int (↑(Str.length (quoted z0)) - ↑(Str.length z0)) (ρ.n 7)]) ((ρ.2 2).l 0) => fin (S_cm W (m + 1)) q (lt [(ρ.2 2).1 0] [(ρ.2 2).2 0,(ρ.2 2).2 1] [] [] [(ρ.2 2).5 0,(ρ.2 2).5 1] [(ρ.2 2).6 0,(ρ.2 2).6 1] []) ((hq.step hl he1 he2)) :) ?_
  induction W using y_0 <;> kernel_rfl
theorem cm_ok (W : Wd) (O : (BB W).Ok) : ∀ m, (S_cm W m).Ok
  | 0 => fun q hq => cm_end W O 0 q hq hq.m0
  | m + 1 => fun q hq => by
    by_cases hl : (q.i 1) ≤ 0
    · exact cm_end W O (m + 1) q hq hl
    · exact cm_s W O m (cm_ok W O m) q hq (by lia)
noncomputable def S_cmf (W : Wd) (m : Nat) : Sp (BB W) :=
  let B := BB W
  { d := 110
    c := fun q => forC (lwS W.w [27]) (q.a 6) (lwEnv W.w (q.a 0) (q.a 1) (q.a 2) (q.a 3) (q.a 4) (q.a 5))
    P := fun q => CmP (q.i 0) (q.i 1) (q.l 0) (q.l 1) m ∧ 0 < (q.i 1)
    pre := fun q => [((q.a 0),frameO [kv B s_script (q.t 0) (q.v 0),kv B s_drawn (q.t 1) (q.v 1),kv B s_total (q.t 2) (q.v 2),kv B s_base (q.t 3) (q.v 3),kv B s_count (q.t 4) (q.v 4),kv B s_mail (q.t 5) (q.v 5),kv B s_turn (q.t 6) (q.v 6),kv B s_words (q.t 7) (q.v 7),kv B s_earlier (q.t 8) (q.v 8),kv B s_sent (q.t 9) (q.v 9),kv B s_later (q.t 10) (q.v 10),kv B s_number (q.t 11) (q.v 11),kv B s_rising (q.t 12) (q.v 12),kv B s_k (q.t 13) (q.v 13),kv B s_left (q.t 14) (q.v 14),kv B s_turned (q.t 15) (q.v 15),kv B s_rest (q.t 16) (q.v 16),kv B s_rows (q.t 17) (.ref (q.a 7)),kv B s_columns (q.t 18) (.ref (q.a 8))] 19),((q.a 6),fieldsO tRG [(.int (q.i 0) (q.t 19)),(.int (q.i 1) (q.t 20)),(.int 1 (q.t 21))]),((q.a 7),listO (q.l 0) (q.t 22)),((q.a 8),listO (q.l 1) (q.t 23))]
    R := fun q e => CmR (q.i 1) (q.l 0) (q.l 1) (e.l 0)
    res := fun q e => .ok .next
    out := fun q e => [((q.a 0),frameO [kv B s_script (q.t 0) (q.v 0),kv B s_drawn (q.t 1) (q.v 1),kv B s_total (q.t 2) (q.v 2),kv B s_base (q.t 3) (q.v 3),kv B s_count (q.t 4) (q.v 4),kv B s_mail (q.t 5) (q.v 5),kv B s_turn (q.t 6) (q.v 6),kv B s_words (q.t 7) (q.v 7),kv B s_earlier (q.t 8) (q.v 8),kv B s_sent (q.t 9) (q.v 9),kv B s_later (q.t 10) (q.v 10),kv B s_number (q.t 11) (q.v 11),kv B s_rising (q.t 12) (q.v 12),kv B s_k (q.t 13) (e.v 0),kv B s_left (q.t 14) (q.v 14),kv B s_turned (q.t 15) (q.v 15),kv B s_rest (q.t 16) (q.v 16),kv B s_rows (q.t 17) (.ref (e.a 0)),kv B s_columns (q.t 18) (.ref (q.a 8)),kv B s_text (e.t 0) (e.v 1)] 20),((e.a 0),listO (e.l 1) (e.t 1)),((q.a 8),listO (e.l 0) (e.t 2))] }
noncomputable def on_cmf : Code → View → Lt := fun c V => lt [(cEnv c).locals,envCell 4 (cEnv c),envCell 3 (cEnv c),envCell 2 (cEnv c),envCell 1 (cEnv c),envCell 0 (cEnv c),valA (cIt c),dA V 0 17,dA V 0 18] [kT V 0 0,kT V 0 1,kT V 0 2,kT V 0 3,kT V 0 4,kT V 0 5,kT V 0 6,kT V 0 7,kT V 0 8,kT V 0 9,kT V 0 10,kT V 0 11,kT V 0 12,kT V 0 13,kT V 0 14,kT V 0 15,kT V 0 16,kT V 0 17,kT V 0 18,qT V 1 0,qT V 1 1,qT V 1 2,eP V 2,eP V 3] [qI V 1 0,qI V 1 1] [] [dV V 0 0,dV V 0 1,dV V 0 2,dV V 0 3,dV V 0 4,dV V 0 5,dV V 0 6,dV V 0 7,dV V 0 8,dV V 0 9,dV V 0 10,dV V 0 11,dV V 0 12,dV V 0 13,dV V 0 14,dV V 0 15,dV V 0 16] [sQ V 2,sQ V 3] []
theorem cmf_s (W : Wd) (O : (BB W).Ok) (m : Nat) (ih : (S_cm W m).Ok) (q : Lt) (hq : (S_cmf W (m + 1)).P q) (hl : 0 < (q.i 1)) : At (S_cmf W (m + 1)) 110 q := by
  refine tri_f O (stdU _) [U (S_qd W) (qd_ok W O) on_qd,U (S_roa W (8 + 1)) (roa_ok W O 8) on_roa,U (S_cm W m) ih on_cm] 2000 110 (hs := hx 77 0x20430c40830410441020010040430400c00c3043782100000c82001000c820000030010000041041010410ae080041042082082082046080080) (is := [0,0,0])
    (fun (ρ : Rho) => let z0 := joinV (mS [13,10]) (q.l 0); ob (A := (rngD (It.mk (Value.ref (q.a 6)) (q.i 0) (q.i 1) (1 : Int) #[]) (1))) (hl) <| ob (A := (AllStr (q.l 0) ∧ JoinOk (mS [13,10]) (List.map shS (q.l 0)) = true)) (hq.1.jo) <| ob (A := (8 * z0.length + 8 ≤ sizeLine)) (hq.1.qd) <| fun _ : True => ob (A := (Str.length (quoted z0) ≤ sizeLine)) (hq.1.lq) <| ob (A := (Str.length z0 ≤ sizeLine)) (hq.1.lt) <| ob (A := (List.length (q.l 1) ≤ sizeLine)) (hq.1.ap) <| ob (A := (MpP isRv (0 : Int) (q.l 0) ([] : List Value) (8 + 1) ∧ (0 : Int).toNat < (q.l 0).length)) (hq.1.ro) <| fun he1 : MpR (gU) (0 : Int) (q.l 0) ([] : List Value) ((ρ.2 1).l 0) => ob (A := (CmP (q.i 0 + 1 : Int) (q.i 1 - 1 : Int) ((ρ.2 1).l 0) (q.l 1++[Value.int (↑(Str.length (quoted z0)) - ↑(Str.length z0)) (ρ.n 7)]) m)) (hq.1.next hl he1) <| fun he2 : CmR (q.i 1 - 1 : Int) ((ρ.2 1).l 0) (q.l 1++[Value.int (↑(Str.length (quoted z0)) - ↑(Str.length z0)) (ρ.n 7)]) ((ρ.2 2).l 0) => fin (S_cmf W (m + 1)) q (lt [(ρ.2 2).1 0] [ρ.1 4,(ρ.2 2).2 0,(ρ.2 2).2 1] [] [] [(ρ.2 2).5 0,(ρ.2 2).5 1] [(ρ.2 2).6 0,(ρ.2 2).6 1] []) ((hq.1.step hl he1 he2)) :) ?_
  induction W using y_0 <;> kernel_rfl
theorem cmf_ok (W : Wd) (O : (BB W).Ok) (m : Nat) : (S_cmf W (m + 1)).Ok := fun q hq => by
  exact cmf_s W O m (cm_ok W O m) q hq hq.2
noncomputable def S_pq (W : Wd) (m : Nat) : Sp (BB W) :=
  let B := BB W
  { d := 100
    c := fun q => forC (lwS W.w [30]) (q.a 6) (lwEnv W.w (q.a 0) (q.a 1) (q.a 2) (q.a 3) (q.a 4) (q.a 5))
    P := fun q => PrP (q.i 0) (q.i 2) (q.i 3) (q.l 0) m
    pre := fun q => [((q.a 0),frameO [kv B s_script (q.t 0) (q.v 0),kv B s_drawn (q.t 1) (q.v 1),kv B s_total (q.t 2) (q.v 2),kv B s_base (q.t 3) (.int (q.i 0) (q.t 4)),kv B s_count (q.t 5) (q.v 3),kv B s_mail (q.t 6) (q.v 4),kv B s_turn (q.t 7) (q.v 5),kv B s_words (q.t 8) (q.v 6),kv B s_earlier (q.t 9) (q.v 7),kv B s_sent (q.t 10) (q.v 8),kv B s_later (q.t 11) (q.v 9),kv B s_number (q.t 12) (.int (q.i 1) (q.t 13)),kv B s_rising (q.t 14) (q.v 10),kv B s_k (q.t 15) (q.v 11),kv B s_left (q.t 16) (q.v 12),kv B s_turned (q.t 17) (q.v 13),kv B s_rest (q.t 18) (q.v 14),kv B s_rows (q.t 19) (q.v 15),kv B s_columns (q.t 20) (.ref (q.a 7)),kv B s_text (q.t 21) (q.v 16)] 20),((q.a 6),fieldsO tRG [(.int (q.i 2) (q.t 22)),(.int (q.i 3) (q.t 23)),(.int 1 (q.t 24))]),((q.a 7),listO (q.l 0) (q.t 25))]
    R := fun q e => PrR (q.i 0) (q.i 2) (q.i 3) (q.l 0) (q.i 1) (e.i 0)
    res := fun q e => .ok .next
    out := fun q e => [((q.a 0),frameO [kv B s_script (q.t 0) (q.v 0),kv B s_drawn (q.t 1) (q.v 1),kv B s_total (q.t 2) (q.v 2),kv B s_base (q.t 3) (.int (q.i 0) (q.t 4)),kv B s_count (q.t 5) (q.v 3),kv B s_mail (q.t 6) (q.v 4),kv B s_turn (q.t 7) (q.v 5),kv B s_words (q.t 8) (q.v 6),kv B s_earlier (q.t 9) (q.v 7),kv B s_sent (q.t 10) (q.v 8),kv B s_later (q.t 11) (q.v 9),kv B s_number (q.t 12) (.int (e.i 0) (e.t 0)),kv B s_rising (q.t 14) (q.v 10),kv B s_k (q.t 15) (e.v 0),kv B s_left (q.t 16) (q.v 12),kv B s_turned (q.t 17) (q.v 13),kv B s_rest (q.t 18) (q.v 14),kv B s_rows (q.t 19) (q.v 15),kv B s_columns (q.t 20) (.ref (q.a 7)),kv B s_text (q.t 21) (q.v 16)] 20),((q.a 7),listO (q.l 0) (q.t 25))] }
noncomputable def on_pq : Code → View → Lt := fun c V => lt [(cEnv c).locals,envCell 4 (cEnv c),envCell 3 (cEnv c),envCell 2 (cEnv c),envCell 1 (cEnv c),envCell 0 (cEnv c),valA (cIt c),dA V 0 18] [kT V 0 0,kT V 0 1,kT V 0 2,kT V 0 3,dT V 0 3,kT V 0 4,kT V 0 5,kT V 0 6,kT V 0 7,kT V 0 8,kT V 0 9,kT V 0 10,kT V 0 11,dT V 0 11,kT V 0 12,kT V 0 13,kT V 0 14,kT V 0 15,kT V 0 16,kT V 0 17,kT V 0 18,kT V 0 19,qT V 1 0,qT V 1 1,qT V 1 2,eP V 2] [dI V 0 3,dI V 0 11,qI V 1 0,qI V 1 1] [] [dV V 0 0,dV V 0 1,dV V 0 2,dV V 0 4,dV V 0 5,dV V 0 6,dV V 0 7,dV V 0 8,dV V 0 9,dV V 0 10,dV V 0 12,dV V 0 13,dV V 0 14,dV V 0 15,dV V 0 16,dV V 0 17,dV V 0 19] [sQ V 2] []
theorem pq_end (W : Wd) (O : (BB W).Ok) (m : Nat) (q : Lt) (hq : (S_pq W m).P q) (hl : (q.i 3) ≤ 0) : At (S_pq W m) 100 q := by
  refine tri_f O (stdU _) [] 2000 100 (hs := [0,2,0,2,6,0,2,2,2,1,0]) (is := [2,3])
    (fun (ρ : Rho) => ob hl <| fin (S_pq W m) q (lt [] [(q.t 13)] [(q.i 1)] [] [(q.v 11)] [] []) ((hq.fin hl)) :) ?_
  induction W using y_0 <;> kernel_rfl
theorem pq_s (W : Wd) (O : (BB W).Ok) (m : Nat) (ih : (S_pq W m).Ok) (q : Lt) (hq : (S_pq W (m + 1)).P q) (hl : 0 < (q.i 3)) : At (S_pq W (m + 1)) 100 q := by
  refine tri_f O (stdU _) [U (S_pq W m) ih on_pq] 2000 100 (hs := hx 44 0x30030415820000010000428020c00c30c1041041042082082082046080080) (is := [0,0])
    (fun (ρ : Rho) => let z0 := itemAt (q.l 0) ((q.i 2).toNat); ob (A := (rngD (It.mk (Value.ref (q.a 6)) (q.i 2) (q.i 3) (1 : Int) #[]) (1))) (hl) <| ob (A := (((0 : Int) ≤ q.i 2 ∧ (q.i 2).toNat < List.length (q.l 0) ∧ List.length (q.l 0) ≤ sizeLine) ∧ itemAt (q.l 0) ((q.i 2).toNat) = Value.int (shI z0) (shT z0))) (hq.g hl) <| ob (A := (IntMulOk (q.i 1) (q.i 0 + shI z0 - q.i 2))) (hq.mul hl) <| ob (A := (PrP (q.i 0) (q.i 2 + 1 : Int) (q.i 3 - 1 : Int) (q.l 0) m)) (hq.next hl) <| fun he0 : PrR (q.i 0) (q.i 2 + 1 : Int) (q.i 3 - 1 : Int) (q.l 0) (q.i 1 * (q.i 0 + shI (itemAt (q.l 0) (Int.toNat (q.i 2))) - q.i 2) : Int) ((ρ.2 0).i 0) => fin (S_pq W (m + 1)) q (lt [] [(ρ.2 0).2 0] [(ρ.2 0).i 0] [] [(ρ.2 0).5 0] [] []) ((hq.step hl he0)) :) ?_
  induction W using y_0 <;> kernel_rfl
theorem pq_ok (W : Wd) (O : (BB W).Ok) : ∀ m, (S_pq W m).Ok
  | 0 => fun q hq => pq_end W O 0 q hq hq.m0
  | m + 1 => fun q hq => by
    by_cases hl : (q.i 3) ≤ 0
    · exact pq_end W O (m + 1) q hq hl
    · exact pq_s W O m (pq_ok W O m) q hq (by lia)
noncomputable def S_dw (W : Wd) (m : Nat) : Sp (BB W) :=
  let B := BB W
  { d := 110
    c := fun q => forC (lwS W.w [32]) (q.a 6) (lwEnv W.w (q.a 0) (q.a 1) (q.a 2) (q.a 3) (q.a 4) (q.a 5))
    P := fun q => DwP (q.i 0) ((q.l 0).length : Int) (q.i 2) (q.i 3) (q.i 1) (q.l 1) m
    pre := fun q => [((q.a 0),frameO [kv B s_script (q.t 0) (q.v 0),kv B s_drawn (q.t 1) (q.v 1),kv B s_total (q.t 2) (q.v 2),kv B s_base (q.t 3) (.int (q.i 0) (q.t 4)),kv B s_count (q.t 5) (q.v 3),kv B s_mail (q.t 6) (q.v 4),kv B s_turn (q.t 7) (q.v 5),kv B s_words (q.t 8) (q.v 6),kv B s_earlier (q.t 9) (q.v 7),kv B s_sent (q.t 10) (q.v 8),kv B s_later (q.t 11) (q.v 9),kv B s_number (q.t 12) (.int (q.i 1) (q.t 13)),kv B s_rising (q.t 14) (q.v 10),kv B s_k (q.t 15) (q.v 11),kv B s_left (q.t 16) (q.v 12),kv B s_turned (q.t 17) (q.v 13),kv B s_rest (q.t 18) (q.v 14),kv B s_rows (q.t 19) (q.v 15),kv B s_columns (q.t 20) (.ref (q.a 7)),kv B s_text (q.t 21) (q.v 16),kv B s_ways (q.t 22) (.ref (q.a 8))] 21),((q.a 6),fieldsO tRG [(.int (q.i 2) (q.t 23)),(.int (q.i 3) (q.t 24)),(.int 1 (q.t 25))]),((q.a 7),listO (q.l 0) (q.t 26)),((q.a 8),listO (q.l 1) (q.t 27))]
    R := fun q e => (e.i 0) = 1
    res := fun q e => .ok .next
    out := fun q e => [((q.a 0),frameO [kv B s_script (q.t 0) (q.v 0),kv B s_drawn (q.t 1) (q.v 1),kv B s_total (q.t 2) (q.v 2),kv B s_base (q.t 3) (.int (q.i 0) (q.t 4)),kv B s_count (q.t 5) (q.v 3),kv B s_mail (q.t 6) (q.v 4),kv B s_turn (q.t 7) (q.v 5),kv B s_words (q.t 8) (q.v 6),kv B s_earlier (q.t 9) (q.v 7),kv B s_sent (q.t 10) (q.v 8),kv B s_later (q.t 11) (q.v 9),kv B s_number (q.t 12) (.int (e.i 0) (e.t 0)),kv B s_rising (q.t 14) (q.v 10),kv B s_k (q.t 15) (e.v 0),kv B s_left (q.t 16) (q.v 12),kv B s_turned (q.t 17) (q.v 13),kv B s_rest (q.t 18) (e.v 1),kv B s_rows (q.t 19) (q.v 15),kv B s_columns (q.t 20) (.ref (q.a 7)),kv B s_text (q.t 21) (q.v 16),kv B s_ways (q.t 22) (.ref (q.a 8))] 21),((q.a 7),listO (q.l 0) (q.t 26)),((q.a 8),listO (q.l 1) (q.t 27))] }
noncomputable def on_dw : Code → View → Lt := fun c V => lt [(cEnv c).locals,envCell 4 (cEnv c),envCell 3 (cEnv c),envCell 2 (cEnv c),envCell 1 (cEnv c),envCell 0 (cEnv c),valA (cIt c),dA V 0 18,dA V 0 20] [kT V 0 0,kT V 0 1,kT V 0 2,kT V 0 3,dT V 0 3,kT V 0 4,kT V 0 5,kT V 0 6,kT V 0 7,kT V 0 8,kT V 0 9,kT V 0 10,kT V 0 11,dT V 0 11,kT V 0 12,kT V 0 13,kT V 0 14,kT V 0 15,kT V 0 16,kT V 0 17,kT V 0 18,kT V 0 19,kT V 0 20,qT V 1 0,qT V 1 1,qT V 1 2,eP V 2,eP V 3] [dI V 0 3,dI V 0 11,qI V 1 0,qI V 1 1] [] [dV V 0 0,dV V 0 1,dV V 0 2,dV V 0 4,dV V 0 5,dV V 0 6,dV V 0 7,dV V 0 8,dV V 0 9,dV V 0 10,dV V 0 12,dV V 0 13,dV V 0 14,dV V 0 15,dV V 0 16,dV V 0 17,dV V 0 19] [sQ V 2,sQ V 3] []
theorem dw_end (W : Wd) (O : (BB W).Ok) (m : Nat) (q : Lt) (hq : (S_dw W m).P q) (hl : (q.i 3) ≤ 0) : At (S_dw W m) 110 q := by
  refine tri_f O (stdU _) [] 2000 110 (hs := [0,2,0,2,6,0,2,2,2,1,0]) (is := [2,3,3])
    (fun (ρ : Rho) => ob hl <| fin (S_dw W m) q (lt [] [(q.t 13)] [(q.i 1)] [] [(q.v 11),(q.v 14)] [] []) ((hq.fin hl)) :) ?_
  induction W using y_0 <;> kernel_rfl
theorem dw_s (W : Wd) (O : (BB W).Ok) (m : Nat) (ih : (S_dw W m).Ok) (q : Lt) (hq : (S_dw W (m + 1)).P q) (hl : 0 < (q.i 3)) : At (S_dw W (m + 1)) 110 q := by
  refine tri_f O (stdU _) [U (S_idm W) (idm_ok W O) on_idm,U (S_dw W m) ih on_dw] 2000 110 (hs := hx 95 0x41041040432c20011e0088008208000146742005000145145145041042041001001041081040040041042041001001040040041040003000001041001042082082082046080080) (is := [0,0,0])
    (fun (ρ : Rho) => ob hl <| ob (hq.i hl) <| fun he0 : ((ρ.2 0).i 0) = (q.i 1).fdiv (q.i 0 - q.i 2 : Int) ∧ ((ρ.2 0).i 1) = (q.i 1).fmod (q.i 0 - q.i 2 : Int) => ob hq.ln <| ob (hq.g hl) <| ob (hq.n hl he0) <| ob (hq.next hl he0) <| fun he1 : ((ρ.2 1).i 0) = 1 => fin (S_dw W (m + 1)) q (lt [] [(ρ.2 1).2 0] [(ρ.2 1).i 0] [] [(ρ.2 1).5 0,(ρ.2 1).5 1] [] []) (he1) :) ?_
  induction W using y_0 <;> kernel_rfl
theorem dw_ok (W : Wd) (O : (BB W).Ok) : ∀ m, (S_dw W m).Ok
  | 0 => fun q hq => dw_end W O 0 q hq hq.m0
  | m + 1 => fun q hq => by
    by_cases hl : (q.i 3) ≤ 0
    · exact dw_end W O (m + 1) q hq hl
    · exact dw_s W O m (dw_ok W O m) q hq (by lia)
end Mine
end
section
namespace Mine
open PySem PySem.Spec PySem.Calls PyProof.Rows PySem.W PySem.W.X PySem.SeqAt
noncomputable def isListB (o : Obj) : Bool := o.cls == .type "list"
noncomputable def lstT (a b : Value) : Sem Unit := match a, b with
  | .ref x, .ref y => do
    let o ← load x
    let o' ← load y
    if isListB o && isListB o' then pure () else unsupported "ne"
  | _, _ => unsupported "ne"
end Mine
lay_z Mine.isListB Mine.lstT
namespace Mine
open PySem PySem.Spec PySem.Calls PyProof.Rows PySem.W PySem.W.X PySem.SeqAt
noncomputable def lstTZ : Value → Value → Sem Unit := PySem.W.ZFast.zw1208679033682648827
theorem lstTZ_eq : lstT = lstTZ := PySem.W.ZFast.ze1208679033682648827
inductive Pc where
  | blk (sts : List Stmt)
  | ne (l r : Expr) (pos pos2 : Pos) (body : List Stmt)
noncomputable def Pc.sts : Pc → List Stmt
  | .blk s => s
  | .ne l r pos pos2 body => [.If (.Compare l [.NotEq] [r] pos) body [] pos2]
noncomputable def neCode (a b : Value) : Code := .call (.builtin "list.__ne__") ⟨[a, b], []⟩
noncomputable def runP (B : Bs) (bc : List (BCut B)) (cs : List (Use B)) (n d : Nat) (env : Env) (Q : Result → View → List Nat → VC) : List Pc → View → List Nat → VC
  | [], V, hs => Q (.ok .next) V hs
  | p :: ps, V, hs => match p with
    | .blk sts => run B bc cs n d (.tree Flow (execsZ sts env) fun r V1 hs1 => match r with
      | .ok f => match f with
        | .next => runP B bc cs n d env Q ps V1 hs1
        | .ret v => Q (.ok (.ret v)) V1 hs1
        | _ => .ff
      | .error _ => .ff) V hs
    | .ne l r _ _ _ => run B bc cs n d (.tree Value (evalZ l env) fun r1 V1 hs1 => match r1 with
      | .ok a => run B bc cs n d (.tree Value (evalZ r env) fun r2 V2 hs2 => match r2 with
        | .ok b => run B bc cs n d (.tree Unit (lstTZ a b) fun r3 V3 hs3 => match r3 with
          | .ok _ => run B bc cs n d (.code (neCode a b) fun r4 V4 hs4 => match r4 with
            | .ok f => match f with
              | .ret v => match v with
                | .bool t => match t with
                  | false => runP B bc cs n d env Q ps V4 hs4
                  | true => .ff
                | _ => .ff
              | _ => .ff
            | .error _ => .ff) V3 hs3
          | .error _ => .ff) V2 hs2
        | .error _ => .ff) V1 hs1
      | .error _ => .ff) V hs
noncomputable def pcsSts : List Pc → List Stmt
  | [] => []
  | p :: ps => p.sts ++ pcsSts ps
section
variable {prog : Program} {w : World} {A : Around} {E : Value → Shared → Prop} {s : Shared}
theorem neT_lists {a b : Value} {Q : Unit → Shared → Prop} {E' : Value → Shared → Prop} (hu : A.units < cLine) (h : wpAny (model prog w) A (lstT a b) Q E' s) {R : Value → Shared → Prop}
    (k : Q () s → wpAny (model prog w) A (PySem.call (.builtin "list.__ne__") [a, b]) (fun v s' => v ≠ .notImplemented ∧ R v s') E s) : wpAny (model prog w) A (compareOp .NotEq a b) R E s := by
  unfold lstT at h
  split at h
  · rename_i x y
    rcases hx : s.heap.get? x with _ | o
    · intro Γ p hΓ
      have z := h Γ p hΓ
      rw [Sem.wp_bind', Sem.wp_cmd_load] at z
      obtain ⟨o, ho, _⟩ := z
      rw [hx] at ho; cases ho
    · rcases hy : s.heap.get? y with _ | o'
      · intro Γ p hΓ
        have z := h Γ p hΓ
        rw [Sem.wp_bind', Sem.wp_cmd_load] at z
        obtain ⟨o1, ho, z⟩ := z
        rw [Sem.wp_bind', Sem.wp_cmd_load] at z
        obtain ⟨o2, ho, _⟩ := z
        rw [hy] at ho; cases ho
      · have h2 : wpAny (model prog w) A (if isListB o && isListB o' then pure () else unsupported "ne") Q E' s := fun Γ p hΓ => by
          have z := h Γ p hΓ
          rw [Sem.wp_bind', Sem.wp_cmd_load] at z
          obtain ⟨o1, ho, z⟩ := z
          rw [hx] at ho
          cases ho
          rw [Sem.wp_bind', Sem.wp_cmd_load] at z
          obtain ⟨o2, ho, z⟩ := z
          rw [hy] at ho
          cases ho
          exact z
        cases hc : (isListB o && isListB o') with
        | true =>
          rw [hc] at h2
          rw [Bool.and_eq_true] at hc
          have c1 : o.cls = .type "list" := eq_of_beq hc.1
          have c2 : o'.cls = .type "list" := eq_of_beq hc.2
          intro Γ p hΓ
          have hq : Q () s := h2 Γ p hΓ
          exact wpAny_richCompare_same_room (a := .ref x) (b := .ref y) (s := s) (op := .NotEq) (T := "list") (id := "list.__ne__") ⟨o, hx, c1⟩ ⟨o', hy, c2⟩ F.slot_list_ne (k hq) hu Γ p hΓ
        | false =>
          rw [hc] at h2
          intro Γ p hΓ
          exact (h2 Γ p hΓ : False).elim
  · intro Γ p hΓ
    exact (h Γ p hΓ : False).elim
end
theorem runP_sound {B : Bs} (O : B.Ok) (bc : List (BCut B)) (cs : List (Use B)) (n d : Nat) (hd : 1 ≤ d) {env : Env} {Q : Result → View → List Nat → VC} : ∀ (ps : List Pc) {V : View} {hs : List Nat}, N (runP B bc cs n d env Q ps V hs) →
    ∀ A s, Room A d → Rep B V s → wpAny (model B.prog B.w) A (execs (pcsSts ps) env) (fun f s' => AK B V s Q (.ok f) s') (fun e s' => AK B V s Q (.error e) s') s
  | [], V, hs, h, A, s, R, D => wpAny_pure ⟨V, hs, h, D, Ext.refl V s⟩
  | .blk sts :: ps, V, hs, h, A, s, R, D => by
    have z := run_sound O bc cs n d _ V hs h A s R D
    refine execs_app sts (pcsSts ps) ?_
    have e : execs sts env = execsZ sts env := by rw [execsZ_eq]
    rw [e]
    refine wpAny_mono z (fun f s1 ⟨V1, hs1, q, D1, x1⟩ => ?_) (fun e s1 ⟨V1, hs1, q, _⟩ => (q : False).elim)
    cases f with
    | next =>
      have q : N (runP B bc cs n d env Q ps V1 hs1) := q
      exact wpAny_mono (runP_sound O bc cs n d hd ps q A s1 R D1) (fun f s2 ⟨V2, hs2, q2, D2, x2⟩ => ⟨V2, hs2, q2, D2, x1.trans x2⟩) (fun e s2 ⟨V2, hs2, q2, D2, x2⟩ => ⟨V2, hs2, q2, D2, x1.trans x2⟩)
    | ret v => exact ⟨V1, hs1, q, D1, x1⟩
    | brk => exact (q : False).elim
    | cont => exact (q : False).elim
  | .ne l r pos pos2 body :: ps, V, hs, h, A, s, R, D => by
    have hu : A.units < cLine := by have := R.units; lia
    have hm : behindInMarks .NotEq r = false := by
      unfold behindInMarks
      split
      · simp
      · rfl
    refine execs_app _ (pcsSts ps) ?_
    have one : ∀ {st : Stmt} {Q : Flow → Shared → Prop} {E : Value → Shared → Prop} {s : Shared}, wpAny (model B.prog B.w) A (exec st env) (fun f s' => Q f s') E s → wpAny (model B.prog B.w) A (execs [st] env) Q E s := by
      intro st Q E s h
      rw [execs_cons]
      refine wpAny_bind (wpAny_mono h (fun f s' h' => ?_) (fun _ _ x => x))
      cases f <;> exact wpAny_pure h'
    refine one (wpAny_If (wpAny_isTrue_Compare1 ?_ hm))
    have z := run_sound O bc cs n d _ V hs h A s R D
    have el : eval l env = evalZ l env := by rw [evalZ_eq]
    have er : eval r env = evalZ r env := by rw [evalZ_eq]
    rw [el, er]
    refine wpAny_mono z (fun a s1 ⟨V1, hs1, q1, D1, x1⟩ => ?_) (fun e s1 ⟨V1, hs1, q, _⟩ => (q : False).elim)
    have z2 := run_sound O bc cs n d _ V1 hs1 q1 A s1 R D1
    refine wpAny_mono z2 (fun b s2 ⟨V2, hs2, q2, D2, x2⟩ => ?_) (fun e s1 ⟨V1, hs1, q, _⟩ => (q : False).elim)
    have z3 := run_sound O bc cs n d _ V2 hs2 q2 A s2 R D2
    have z3 : wpAny (model B.prog B.w) A (lstTZ a b) _ _ s2 := z3
    rw [← lstTZ_eq] at z3
    refine neT_lists hu z3 (fun ⟨V3, hs3, q3, D3, x3⟩ => ?_)
    have z4 := run_sound O bc cs n d _ V3 hs3 q3 A s2 R D3
    refine wpAny_call (codeAny_mono z4 ?_)
    rintro r4 s4 ⟨V4, hs4, q4, D4, x4⟩
    cases r4 with
    | error e => exact (q4 : False).elim
    | ok f =>
      cases f with
      | ret v =>
        cases v with
        | bool t =>
          cases t with
          | true => exact (q4 : False).elim
          | false =>
            have q4 : N (runP B bc cs n d env Q ps V4 hs4) := q4
            refine ⟨(fun x => nomatch x), wpAny_truthy_bool ?_⟩
            have x := ((x1.trans x2).trans x3).trans x4
            exact wpAny_pure (wpAny_mono (runP_sound O bc cs n d hd ps q4 A s4 R D4) (fun f s5 ⟨V5, hs5, q5, D5, x5⟩ => ⟨V5, hs5, q5, D5, x.trans x5⟩) (fun e s5 ⟨V5, hs5, q5, D5, x5⟩ => ⟨V5, hs5, q5, D5, x.trans x5⟩))
        | _ => exact (q4 : False).elim
      | _ => exact (q4 : False).elim
noncomputable def neOf : Stmt → Pc
  | .If (.Compare l [.NotEq] [r] pos) body [] pos2 => .ne l r pos pos2 body
  | st => .blk [st]
theorem pcs_of_run_end {B : Bs} (O : B.Ok) (bc : List (BCut B)) (cs : List (Use B)) (n d : Nat) (hd : 1 ≤ d) {sts : List Stmt} {env : Env} {pre : View} {hs is : List Nat} {post : Result → View → Prop}
    (hp : pcsSts (sts.map neOf) = sts) (h : N (runP B bc cs n d env (endK post is) (sts.map neOf) pre hs)) : Seg B d sts env pre post := fun A s R D => by
  have z := runP_sound O bc cs n d hd _ h A s R D
  rw [hp] at z
  have key : ∀ (r : Result) (s' : Shared), (∃ V' hs', N (endK post is r V' hs') ∧ Rep B V' s' ∧ Ext B pre V' s s') → ∃ V', post r V' ∧ Rep B V' s' ∧ Ext B pre V' s s' := by
    rintro r s' ⟨V', _, q, D', x⟩
    unfold endK at q
    split at q
    · rename_i q' e
      obtain ⟨ps, rest⟩ := q'
      have pm := pull_perm e
      refine ⟨ps, q, (D'.perm pm).left, ⟨x.same, fun a ha => x.new a ?_, x.there⟩⟩
      have pe : (excl V').Perm (excl (ps ++ rest)) := (pm.filter _).map _
      exact pe.mem_iff.mpr (by rw [excl_append]; exact List.mem_append_left _ ha)
    · cases q
  exact wpAny_mono z (fun f s' h => key _ _ h) (fun e s' h => key _ _ h)
theorem pcs_f {B : Bs} (O : B.Ok) (bc : List (BCut B)) (cs : List (Use B)) (n d : Nat) (hd : 1 ≤ d) {sts : List Stmt} {env : Env} {pre : View} {hs is : List Nat} {post : Result → View → Prop} (hp : pcsSts (sts.map neOf) = sts) {T : Rho → Prop} (p : ∀ r, T r) (e : Eqn (runP B bc cs n d env (endK post is) (sts.map neOf) pre hs) T) : Seg B d sts env pre post := pcs_of_run_end O bc cs n d hd hp (flat_N p e)
end Mine
end
section
namespace Mine
open PySem PySem.Spec PySem.Calls PyProof.Rows PySem.W PySem.W.X PySem.Builtin PySem.Builtin.Str PySem.Builtin.Int PySem.StrLaws
theorem take4 (xs : List Value) (t : Tok) : partL (ptI none) (ptI (some ((4 : Int), t))) xs = xs.take 4 := rfl
theorem AllInt.take {xs : List Value} (h : AllInt xs) (n : Nat) : AllInt (xs.take n) := fun v hv => h v (List.mem_of_mem_take hv)
theorem AllInt.drop {xs : List Value} (h : AllInt xs) (n : Nat) : AllInt (xs.drop n) := fun v hv => h v (List.mem_of_mem_drop hv)
theorem allInt_iv {xs : List Value} (h : AllInt xs) : ∀ v ∈ xs, isIv v := fun v hv => h v hv
section
variable {xs d0 s0 : List Value} {t : Tok}
theorem L1P.o1 (h : L1P xs) (t : Tok) : nonneg (ptI none) ∧ nonneg (ptI (some ((4 : Int), t))) ∧ xs.length ≤ sizeLine := by
  have := h.xl
  exact ⟨trivial, (by decide : (0 : Int) ≤ 4), le1k (b := 63) this⟩
theorem mp0 {ys : List Value} (h : AllInt ys) {m : Nat} (hm : ys.length ≤ m) (h1 : ys.length ≤ 100) : MpP isIv 0 ys [] m := ⟨by lia, by lia, h1, allInt_iv h, by simp; lia, by lia⟩
theorem L1P.c1 (h : L1P xs) {m : Nat} (hm : 63 ≤ m) : MpP isIv 0 (partL (ptI none) (ptI (some ((4 : Int), t))) xs) [] m := by
  rw [take4]
  have := h.xl
  exact mp0 (h.xi.take 4) (by rw [List.length_take]; lia) (by rw [List.length_take]; lia)
theorem L1P.c2 (h : L1P xs) {m : Nat} (hm : 63 ≤ m) : MpP isIv 0 xs [] m := by
  have := h.xl
  exact mp0 h.xi (by lia) (by lia)
theorem L1P.p1 (h : 0 < xs.length) : (0 : Int).toNat < (partL (ptI none) (ptI (some ((4 : Int), t))) xs).length := by
  rw [take4, List.length_take]; show 0 < _; lia
theorem L1P.e1 (h : xs.length ≤ 0) : (partL (ptI none) (ptI (some ((4 : Int), t))) xs).length ≤ (0 : Int).toNat := by
  rw [take4, List.length_take]; show _ ≤ 0; lia
theorem mpR_i {f : Int → Int} {ys zs : List Value} (r : MpR (gI f) 0 ys [] zs) : AllInt zs ∧ intsV zs = (intsV ys).map f ∧ zs.length = ys.length := by
  obtain ⟨ws, e, hz⟩ := r.ex
  rw [List.nil_append] at e
  subst e
  have h := hz.ints
  exact ⟨h.1, h.2, hz.len⟩
theorem mpR_s {f : Int → Str} {ys zs : List Value} (r : MpR (gS f) 0 ys [] zs) : AllStr zs ∧ zs.map shS = (intsV ys).map f ∧ zs.length = ys.length := by
  obtain ⟨ws, e, hz⟩ := r.ex
  rw [List.nil_append] at e
  subst e
  have h := hz.strs
  exact ⟨h.1, h.2, hz.len⟩
theorem mpR_c {ys zs : List Value} (r : MpR gC 0 ys [] zs) : AllInt zs ∧ intsV zs = (ys.map shS).map (fun x => (cntS x ⟨#[46]⟩ : Int)) ∧ zs.length = ys.length := by
  obtain ⟨ws, e, hz⟩ := r.ex
  rw [List.nil_append] at e
  subst e
  have h := hz.cnts
  exact ⟨h.1, h.2, hz.len⟩
variable (r : MpR (gI mod6) 0 (partL (ptI none) (ptI (some ((4 : Int), t))) xs) [] d0)
include r
theorem L1P.d (h : L1P xs) : AllInt d0 ∧ d0.length = min 4 xs.length := by
  obtain ⟨h1, _, h3⟩ := mpR_i r
  refine ⟨h1, ?_⟩
  rw [h3, take4, List.length_take]
theorem L1P.o2 (h : L1P xs) : d0.length ≤ sizeLine := by have := (h.d r).2; exact le1k (b := 4) (by lia)
theorem L1P.dr (h : L1P xs) (u a b c : Tok) : AllInt (partL (ptI (some ((d0.length : Int), u))) (ptI none) ([Value.int 53 a] ++ ([Value.int 6 b] ++ ([Value.int 34 c] ++ [])))) ∧ (partL (ptI (some ((d0.length : Int), u))) (ptI none) ([Value.int 53 a] ++ ([Value.int 6 b] ++ ([Value.int 34 c] ++ [])))).length = 3 - d0.length := by
  have e : partL (ptI (some ((d0.length : Int), u))) (ptI none) ([Value.int 53 a] ++ ([Value.int 6 b] ++ ([Value.int 34 c] ++ []))) = [Value.int 53 a, Value.int 6 b, Value.int 34 c].drop (d0.length : Int).toNat := rfl
  rw [e]
  refine ⟨AllInt.drop ?_ _, ?_⟩
  · intro v hv
    simp at hv
    rcases hv with rfl | rfl | rfl <;> rfl
  · rw [List.length_drop, Int.toNat_natCast]; rfl
theorem L1P.o3 (h : L1P xs) (u a b c : Tok) : nonneg (ptI (some ((d0.length : Int), u))) ∧ nonneg (ptI none) ∧ ([Value.int 53 a] ++ ([Value.int 6 b] ++ ([Value.int 34 c] ++ []))).length ≤ sizeLine :=
  ⟨Int.natCast_nonneg _, trivial, by show 3 ≤ _; decide⟩
theorem L1P.o4 (h : L1P xs) (u a b c : Tok) : d0.length + (partL (ptI (some ((d0.length : Int), u))) (ptI none) ([Value.int 53 a] ++ ([Value.int 6 b] ++ ([Value.int 34 c] ++ [])))).length ≤ 1000 := by
  have := (h.d r).2; have := (h.dr r u a b c).2; lia
omit r in
theorem L1P.o5 (r2 : MpR (gI mod6) 0 xs [] s0) : AllInt s0 := (mpR_i r2).1
theorem L1P.res (h : L1P xs) (u a b c : Tok) : L1R (d0 ++ partL (ptI (some ((d0.length : Int), u))) (ptI none) ([Value.int 53 a] ++ ([Value.int 6 b] ++ ([Value.int 34 c] ++ [])))) := by
  have h1 := h.d r; have h2 := h.dr r u a b c
  exact ⟨h1.1.app h2.1, by rw [List.length_append]; lia⟩
end
end Mine
end
section

namespace Mine
open PySem PySem.Spec PySem.Calls PyProof.Rows PySem.W PySem.W.X PySem.Builtin.Str
noncomputable def stdV (B : Bs) : List (BCut B) := stdU B ++ [neC B]
noncomputable def S_l1A (W : Wd) : Sp (BB W) :=
  let B := BB W
  { d := 150
    c := fun q => .block (takeS 3 (stmtsOf (fdAt W.w 156))) (lwEnv W.w (q.a 0) (q.a 1) (q.a 2) (q.a 3) (q.a 4) (q.a 5))
    P := fun q => L1P (q.l 0) ∧ 0 < (q.l 0).length
    pre := fun q => [((q.a 0),frameO [kv B s_script (q.t 0) (.ref (q.a 6))] 1),((q.a 1),⟨tCell,none,.cell none,#[]⟩),((q.a 2),⟨tCell,none,.cell none,#[]⟩),((q.a 3),⟨tCell,none,.cell none,#[]⟩),((q.a 4),⟨tCell,none,.cell none,#[]⟩),((q.a 5),⟨tCell,none,.cell none,#[]⟩),((q.a 6),listO (q.l 0) (q.t 1))]
    R := fun q e => L1R (e.l 0)
    res := fun q e => .ok .next
    out := fun q e => [((q.a 0),frameO [kv B s_script (q.t 0) (.ref (q.a 6)),kv B s_drawn (e.t 0) (.ref (e.a 0)),kv B s_total (e.t 1) (.int (e.i 0) (e.t 2))] 3),((q.a 1),⟨tCell,none,.cell none,#[]⟩),((q.a 2),⟨tCell,none,.cell none,#[]⟩),((q.a 3),⟨tCell,none,.cell none,#[]⟩),((q.a 4),⟨tCell,none,.cell none,#[]⟩),((q.a 5),⟨tCell,none,.cell none,#[]⟩),((q.a 6),listO (q.l 0) (q.t 1)),((e.a 0),listO (e.l 0) (e.t 3))] }
theorem l1A_ok (W : Wd) (O : (BB W).Ok) (q : Lt) (hq : (S_l1A W).P q) : SegC (BB W) 150 ((S_l1A W).c q) ((S_l1A W).pre q) ((S_l1A W).post q) := by
  refine seg_f O (stdV _) [U (S_dra W (63 + 1)) (dra_ok W O 63) on_dra,U (S_sma W (63 + 1)) (sma_ok W O 63) on_sma] 2000 150 (hs := hx 84 0x2cb00006908004104d00100404304038038e20000820012d08500114500006808200208209d080180005041045140001004003040040041007a02200208201) (is := [10,10,10,10,10,10,2,6])
    (fun (ρ : Rho) => let z0 := partL (ptI none) (ptI (some (4,ρ.n 0))) (q.l 0); ob (hq.1.o1 (ρ.1 0)) <| ob (A := (MpP isIv (0 : Int) z0 ([] : List Value) (63 + 1) ∧ (0 : Int).toNat < z0.length)) (⟨(hq.1.c1 (by decide)),(L1P.p1 hq.2)⟩) <| fun he0 : MpR (gI mod6) (0 : Int) z0 ([] : List Value) ((ρ.2 0).l 0) => ob (hq.1.o2 he0) <| ob (hq.1.o3 he0 (ρ.1 11) (ρ.1 7) (ρ.1 8) (ρ.1 9)) <| ob (hq.1.o4 he0 (ρ.1 11) (ρ.1 7) (ρ.1 8) (ρ.1 9)) <| ob (A := (MpP isIv (0 : Int) (q.l 0) ([] : List Value) (63 + 1) ∧ (0 : Int).toNat < (q.l 0).length)) (⟨(hq.1.c2 (by decide)),hq.2⟩) <| fun he1 : MpR (gI mod6) (0 : Int) (q.l 0) ([] : List Value) ((ρ.2 1).l 0) => ob (L1P.o5 he1) <| fin (S_l1A W) q (lt [ρ.1 4] [ρ.1 6,ρ.1 21,ρ.1 20,(epA ((ρ.2 0).t 1) (partL (ptI (some (↑(List.length ((ρ.2 0).l 0)),ρ.n 11))) (ptI none) ([Value.int 53 (ρ.n 7)]++([Value.int 6 (ρ.n 8)]++([Value.int 34 (ρ.n 9)]++[])))))] [17 + sumV ((ρ.2 1).l 0)] [] [] [((ρ.2 0).l 0++partL (ptI (some ((((ρ.2 0).l 0).length : Int),ρ.1 11))) (ptI none) ([Value.int 53 (ρ.1 7)]++([Value.int 6 (ρ.1 8)]++([Value.int 34 (ρ.1 9)]++[]))))] []) ((hq.1.res he0 (ρ.1 11) (ρ.1 7) (ρ.1 8) (ρ.1 9))) :) ?_
  induction W using y_0 <;> kernel_rfl
noncomputable def S_l1B (W : Wd) : Sp (BB W) :=
  let B := BB W
  { d := 150
    c := fun q => .block (takeS 3 (stmtsOf (fdAt W.w 156))) (lwEnv W.w (q.a 0) (q.a 1) (q.a 2) (q.a 3) (q.a 4) (q.a 5))
    P := fun q => L1P (q.l 0) ∧ (q.l 0).length ≤ 0
    pre := fun q => [((q.a 0),frameO [kv B s_script (q.t 0) (.ref (q.a 6))] 1),((q.a 1),⟨tCell,none,.cell none,#[]⟩),((q.a 2),⟨tCell,none,.cell none,#[]⟩),((q.a 3),⟨tCell,none,.cell none,#[]⟩),((q.a 4),⟨tCell,none,.cell none,#[]⟩),((q.a 5),⟨tCell,none,.cell none,#[]⟩),((q.a 6),listO (q.l 0) (q.t 1))]
    R := fun q e => L1R (e.l 0)
    res := fun q e => .ok .next
    out := fun q e => [((q.a 0),frameO [kv B s_script (q.t 0) (.ref (q.a 6)),kv B s_drawn (e.t 0) (.ref (e.a 0)),kv B s_total (e.t 1) (.int (e.i 0) (e.t 2))] 3),((q.a 1),⟨tCell,none,.cell none,#[]⟩),((q.a 2),⟨tCell,none,.cell none,#[]⟩),((q.a 3),⟨tCell,none,.cell none,#[]⟩),((q.a 4),⟨tCell,none,.cell none,#[]⟩),((q.a 5),⟨tCell,none,.cell none,#[]⟩),((q.a 6),listO (q.l 0) (q.t 1)),((e.a 0),listO (e.l 0) (e.t 3))] }
theorem l1B_ok (W : Wd) (O : (BB W).Ok) (q : Lt) (hq : (S_l1B W).P q) : SegC (BB W) 150 ((S_l1B W).c q) ((S_l1B W).pre q) ((S_l1B W).post q) := by
  refine seg_f O (stdV _) [U (S_dre W 63) (dre_ok W O 63) on_dre,U (S_sme W 63) (sme_ok W O 63) on_sme] 2000 150 (hs := hx 80 0x2cb00006908004d00100404304038038e20000820012d08500114500006808200208209d080180005045140001004003040040041007a02200208201) (is := [10,10,10,10,10,10,2,6])
    (fun (ρ : Rho) => let z0 := partL (ptI none) (ptI (some (4,ρ.n 0))) (q.l 0); ob (hq.1.o1 (ρ.1 0)) <| ob (A := (MpP isIv (0 : Int) z0 ([] : List Value) 63 ∧ z0.length ≤ (0 : Int).toNat)) (⟨(hq.1.c1 (by decide)),(L1P.e1 hq.2)⟩) <| fun he0 : MpR (gI mod6) (0 : Int) z0 ([] : List Value) ((ρ.2 0).l 0) => ob (hq.1.o2 he0) <| ob (hq.1.o3 he0 (ρ.1 11) (ρ.1 7) (ρ.1 8) (ρ.1 9)) <| ob (hq.1.o4 he0 (ρ.1 11) (ρ.1 7) (ρ.1 8) (ρ.1 9)) <| ob (A := (MpP isIv (0 : Int) (q.l 0) ([] : List Value) 63 ∧ (q.l 0).length ≤ (0 : Int).toNat)) (⟨(hq.1.c2 (by decide)),hq.2⟩) <| fun he1 : MpR (gI mod6) (0 : Int) (q.l 0) ([] : List Value) ((ρ.2 1).l 0) => ob (L1P.o5 he1) <| fin (S_l1B W) q (lt [ρ.1 4] [ρ.1 6,ρ.1 21,ρ.1 20,(epA ((ρ.2 0).t 0) (partL (ptI (some (↑(List.length ((ρ.2 0).l 0)),ρ.n 11))) (ptI none) ([Value.int 53 (ρ.n 7)]++([Value.int 6 (ρ.n 8)]++([Value.int 34 (ρ.n 9)]++[])))))] [17 + sumV ((ρ.2 1).l 0)] [] [] [((ρ.2 0).l 0++partL (ptI (some ((((ρ.2 0).l 0).length : Int),ρ.1 11))) (ptI none) ([Value.int 53 (ρ.1 7)]++([Value.int 6 (ρ.1 8)]++([Value.int 34 (ρ.1 9)]++[]))))] []) ((hq.1.res he0 (ρ.1 11) (ρ.1 7) (ρ.1 8) (ρ.1 9))) :) ?_
  induction W using y_0 <;> kernel_rfl
end Mine
end
section
namespace Mine
open PySem PySem.Spec PySem.Calls PyProof.Rows PySem.W PySem.W.X PySem.Builtin PySem.Builtin.Str PySem.Builtin.Int PySem.StrLaws
noncomputable def tlC (x : Int) : Nat := (#[97, 34, 92, 32] : Array Nat).getD ((x.fdiv 3).fmod 4).toNat 0
theorem tlS_eq (x : Int) : tlS x = sL [tlC x] := rfl
theorem tlC_is (x : Int) : tlC x = 97 ∨ tlC x = 34 ∨ tlC x = 92 ∨ tlC x = 32 := by
  have h := fmod_bd (x.fdiv 3) (b := 4) (by decide)
  have key : ∀ z : Int, 0 ≤ z → z < 4 → ((#[97, 34, 92, 32] : Array Nat).getD z.toNat 0 = 97 ∨ (#[97, 34, 92, 32] : Array Nat).getD z.toNat 0 = 34 ∨ (#[97, 34, 92, 32] : Array Nat).getD z.toNat 0 = 92 ∨ (#[97, 34, 92, 32] : Array Nat).getD z.toNat 0 = 32) := by
    intro z h0 h1
    have h3 : z = 0 ∨ z = 1 ∨ z = 2 ∨ z = 3 := by lia
    rcases h3 with rfl | rfl | rfl | rfl <;> decide
  exact key _ h.1 h.2
theorem hgt_is (x : Int) : 1 ≤ hgt x ∧ hgt x ≤ 3 := by
  have h := fmod_bd x (b := 3) (by decide)
  unfold hgt; lia
theorem rowL_eq (o : Nat) (x : Int) : rowL o x = List.replicate ((hgt x).toNat + o) 46 ++ [92, tlC x] := rfl
theorem wrdL_eq (o : Nat) (x : Int) : wrdL o x = List.replicate ((hgt x).toNat + o) 46 ++ [tlC x] := rfl
theorem rowL_wd (o : Nat) (x : Int) : Wd1 (rowL o x) := by
  have h := hgt_is x
  refine ⟨List.replicate ((hgt x).toNat + o - 1) 46 ++ [92, tlC x], ?_, ?_⟩
  · rw [rowL_eq, show (hgt x).toNat + o = ((hgt x).toNat + o - 1) + 1 by lia, List.replicate_succ]; rfl
  · intro c hc
    rcases List.mem_append.mp hc with hc | hc
    · rw [(List.mem_replicate.mp hc).2]; decide
    · have ht := tlC_is x
      simp at hc
      rcases hc with rfl | rfl
      · decide
      · rcases ht with h | h | h | h <;> rw [h] <;> decide
noncomputable def catL : List (List Nat × List Nat) → List Nat
  | [] => []
  | p :: l => p.1 ++ (p.2 ++ catL l)
noncomputable def isEnd (e : List Nat) : Prop := e = [10] ∨ e = [13] ∨ e = [13, 10]
noncomputable def GoodC (l : List (List Nat × List Nat)) : Prop := ∀ p ∈ l, Wd1 p.1 ∧ isEnd p.2
theorem catL_head : ∀ l, GoodC l → catL l = [] ∨ ∃ r, catL l = 46 :: r
  | [], _ => .inl rfl
  | p :: l, h => by
    obtain ⟨w, hw, _⟩ := (h p (.head _)).1
    exact .inr ⟨w ++ (p.2 ++ catL l), by rw [catL, hw]; rfl⟩
theorem crlf_cat : ∀ l, GoodC l → crlf (catL l) = catL (l.map fun p => (p.1, [13, 10]))
  | [], _ => rfl
  | p :: l, h => by
    have h1 := h p (.head _)
    have hl : GoodC l := fun q hq => h q (.tail _ hq)
    have ih := crlf_cat l hl
    rw [catL, crlf_pre _ _ h1.1.pl, List.map_cons, catL]
    congr 1
    show crlf (p.2 ++ catL l) = 13 :: 10 :: catL (l.map fun p => (p.1, [13, 10]))
    rw [← ih]
    rcases h1.2 with e | e | e
    · rw [e]
      show crlf (10 :: catL l) = _
      rw [crlf.eq_3 10 (catL l) (fun r' h1 _ => by cases h1), if_pos (by rfl)]
    · rw [e]
      show crlf (13 :: catL l) = _
      rw [crlf.eq_3 13 (catL l) (fun r' _ h2 => by
        rcases catL_head l hl with h3 | ⟨r, h3⟩
        · rw [h3] at h2; cases h2
        · rw [h3] at h2; injection h2 with h4 _; exact absurd h4 (by decide)), if_pos (by rfl)]
    · rw [e]; rfl
theorem dots_cat : ∀ l, GoodC l → dots true (catL (l.map fun p => (p.1, [13, 10]))) = catL (l.map fun p => (46 :: p.1, [13, 10]))
  | [], _ => rfl
  | p :: l, h => by
    obtain ⟨w, hw, hp⟩ := (h p (.head _)).1
    have ih := dots_cat l (fun q hq => h q (.tail _ hq))
    rw [List.map_cons, List.map_cons, catL, catL]
    show dots true (p.1 ++ (13 :: 10 :: catL (l.map fun p => (p.1, [13, 10])))) = (46 :: p.1) ++ (13 :: 10 :: catL (l.map fun p => (46 :: p.1, [13, 10])))
    rw [hw, dots_head w _ hp, dots_end, ih]
    rfl
noncomputable def mailL (l : List Int) : List Nat := catL (l.map fun x => (rowL 0 x, sepL ((x.fdiv 12).fmod 3)))
theorem txtL_cat (o : Nat) : ∀ l : List Int, txtL o l = catL (l.map fun x => (rowL o x, [13, 10]))
  | [] => rfl
  | x :: l => by rw [txtL, txtL_cat o l]; rfl
theorem sep_end (x : Int) : isEnd (sepL x) := by
  unfold sepL isEnd
  split
  · exact .inl rfl
  · exact .inr (.inl rfl)
  · exact .inr (.inr rfl)
theorem quoted_mail (l : List Int) : quotedL (mailL l) = txtL 1 l := by
  have g : GoodC (l.map fun x => (rowL 0 x, sepL ((x.fdiv 12).fmod 3))) := fun p hp => by
    obtain ⟨x, _, rfl⟩ := List.mem_map.mp hp
    exact ⟨rowL_wd 0 x, sep_end _⟩
  unfold quotedL mailL
  rw [crlf_cat _ g, dots_cat _ g, txtL_cat, List.map_map]
  congr 1
theorem quoted_txt (o : Nat) (l : List Int) : quotedL (txtL o l) = txtL (o + 1) l := by
  have g : GoodC (l.map fun x => (rowL o x, [13, 10])) := fun p hp => by
    obtain ⟨x, _, rfl⟩ := List.mem_map.mp hp
    exact ⟨rowL_wd o x, .inr (.inr rfl)⟩
  unfold quotedL
  rw [txtL_cat, crlf_cat _ g, dots_cat _ g, txtL_cat, List.map_map]
  congr 1
theorem quotN_mail {o : Nat} (h : o = 1 ∨ o = 2) (l : List Int) : quotN o (sL (mailL l)) = sL (txtL o l) := by
  have e1 : quoted (sL (mailL l)) = sL (txtL 1 l) := by
    show sL (quotedL (mailL l)) = _
    rw [quoted_mail]
  rcases h with rfl | rfl
  · exact e1
  · show quoted (quoted (sL (mailL l))) = _
    rw [e1]
    show sL (quotedL (txtL 1 l)) = _
    rw [quoted_txt]
theorem lx3_row {c : Nat} (hc : c = 97 ∨ c = 34 ∨ c = 92 ∨ c = 32) (R : List Nat) : ∀ k : Nat, Lx3 (List.replicate k 46 ++ ([92, c] ++ 13 :: R)) (List.replicate k 46 ++ [c]) R
  | 0 => by
    obtain ⟨d, rfl⟩ : ∃ d, c = d + 1 := ⟨c - 1, by lia⟩
    exact Lx3.esc (Lx3.ws (c := 12) (by rfl))
  | k + 1 => by
    rw [List.replicate_succ]
    exact Lx3.chr (c := 45) (by rfl) (by decide) (lx3_row hc R k)
theorem lx1_row (o : Nat) (x : Int) (R : List Nat) : Lx1 (rowL o x ++ 13 :: R) (wrdL o x) R := by
  have h := hgt_is x
  rw [rowL_eq, wrdL_eq, show (hgt x).toNat + o = ((hgt x).toNat + o - 1) + 1 by lia, List.replicate_succ, List.append_assoc]
  exact Lx1.chr (c := 45) (by rfl) (by decide) (by decide) (lx3_row (tlC_is x) R _)
theorem rd_txt (o : Nat) : ∀ (l : List Int), Rd (10 :: txtL o l) (l.map (wrdL o)) [10]
  | [] => .nil
  | x :: l => by
    rw [txtL, List.map_cons]
    exact .cons (Lx1.ws (c := 9) (by rfl) (lx1_row o x _)) (rd_txt o l)
theorem rd_txt0 (o : Nat) {l : List Int} (h : 0 < l.length) : Rd (txtL o l) (l.map (wrdL o)) [10] := by
  cases l with
  | nil => simp at h
  | cons x l =>
    rw [txtL, List.map_cons]
    exact .cons (lx1_row o x _) (rd_txt o l)
theorem lx_end : Lx1 [10] [] [] := Lx1.ws (c := 9) (by rfl) Lx1.fin
theorem nls_app (a b : List Nat) : nls (a ++ b) = nls a + nls b := by
  unfold nls; rw [List.filter_append, List.length_append]; lia
theorem nls_row (o : Nat) (x : Int) : nls (rowL o x) = 0 := by
  have hp := (rowL_wd o x).pl
  unfold nls
  rw [List.filter_eq_nil_iff.mpr (fun a ha => by have := (hp a ha).1; simpa using this)]
  rfl
theorem nls_txt (o : Nat) : ∀ l : List Int, nls (txtL o l) = (l.length : Int)
  | [] => rfl
  | x :: l => by
    rw [txtL, nls_app, nls_row, show 13 :: 10 :: txtL o l = [13, 10] ++ txtL o l from rfl, nls_app, nls_txt o l, List.length_cons]
    show 0 + (1 + (l.length : Int)) = _
    lia
theorem rowL_len {o : Nat} (ho : o ≤ 2) (x : Int) : (rowL o x).length ≤ 7 := by
  have h := hgt_is x
  rw [rowL_eq, List.length_append, List.length_replicate]
  show _ + 2 ≤ _
  lia
theorem txtL_len {o : Nat} (ho : o ≤ 2) : ∀ l : List Int, (txtL o l).length ≤ 9 * l.length
  | [] => Nat.le_refl _
  | x :: l => by
    have := rowL_len ho x; have := txtL_len ho l
    rw [txtL, List.length_append, List.length_cons, List.length_cons, List.length_cons]; lia
theorem wrdL_len {o : Nat} (ho : o ≤ 2) (x : Int) : (wrdL o x).length ≤ 6 := by
  have h := hgt_is x
  rw [wrdL_eq, List.length_append, List.length_replicate]
  show _ + 1 ≤ _
  lia
theorem wrd_cnt (o : Nat) (x : Int) : (cntS (sL (wrdL o x)) ⟨#[46]⟩ : Int) = hgt x + o := by
  have h := hgt_is x
  unfold cntS
  rw [count_one]
  show ((wrdL o x).count 46 : Int) = _
  rw [wrdL_eq, List.count_append, List.count_replicate_self, List.count_singleton]
  have : (tlC x == 46) = false := by
    rcases tlC_is x with h | h | h | h <;> rw [h] <;> rfl
  rw [this]
  simp
  lia
theorem nI_map (f : Int → Int) : ∀ (D : List Int) (i : Nat), i < D.length → nI (D.map f) i = f (nI D i)
  | [], i, h => by simp at h
  | x :: D, 0, _ => rfl
  | x :: D, i + 1, h => nI_map f D i (by simpa using h)
theorem shS_at (f : Int → Str) : ∀ (ts : List Value) (D : List Int) (i : Nat), ts.map shS = D.map f → i < D.length → shS (itemAt ts i) = f (nI D i)
  | _, [], i, _, h => by simp at h
  | [], x :: D, i, e, _ => by simp at e
  | t :: ts, x :: D, 0, e, _ => by
    rw [List.map_cons, List.map_cons] at e
    injection e with e1 _
  | t :: ts, x :: D, i + 1, e, h => by
    rw [List.map_cons, List.map_cons] at e
    injection e with _ e2
    exact shS_at f ts D i e2 (by simpa using h)
theorem shI_at {f : Int → Int} {hs : List Value} {D : List Int} {i : Nat} (e : intsV hs = D.map f) (h : i < D.length) : shI (itemAt hs i) = f (nI D i) := by
  have hl : hs.length = D.length := by rw [← intsV_len, e, List.length_map]
  rw [← nI_at hs i (by lia), e, nI_map f D i h]
theorem rmL_map {g : Int → Str} : ∀ (D : List Int) (f : Int → Str) (k : Int), (∀ i : Nat, i < D.length → f (k + i) = g (nI D i)) → rmL f D.length k = D.map g
  | [], _, _, _ => rfl
  | x :: D, f, k, h => by
    rw [List.length_cons, rmL, List.map_cons, rmL_map D f (k + 1) (fun i hi => by
      have := h (i + 1) (by simpa using hi)
      rw [show k + 1 + (i : Int) = k + ((i + 1 : Nat) : Int) by lia, this]
      rfl)]
    have := h 0 (by simp)
    rw [show k + ((0 : Nat) : Int) = k by lia] at this
    rw [this]
    rfl
section
variable {D : List Int} {hs ts es : List Value}
theorem ml_eq (e1 : intsV hs = D.map hgt) (e2 : ts.map shS = D.map tlS) (e3 : es.map shS = D.map enS) : rmL (mlF hs ts es) D.length 0 = D.map (fun x => sL (rowL 0 x ++ sepL ((x.fdiv 12).fmod 3))) := by
  refine rmL_map D _ 0 fun i hi => ?_
  rw [show (0 : Int) + (i : Int) = (i : Int) by lia]
  unfold mlF
  rw [Int.toNat_natCast, shI_at e1 hi, shS_at tlS ts D i e2 hi, shS_at enS es D i e3 hi, repS_eq, tlS_eq]
  unfold enS
  rw [show (⟨#[92]⟩ : Str) = sL [92] from rfl, sL_app, sL_app, sL_app, rowL_eq]
  simp
theorem wc_eq {o : Nat} (e1 : intsV hs = D.map hgt) (e2 : ts.map shS = D.map tlS) : rmL (wcF o hs ts) D.length 0 = D.map (fun x => sL (wrdL o x)) := by
  refine rmL_map D _ 0 fun i hi => ?_
  rw [show (0 : Int) + (i : Int) = (i : Int) by lia]
  unfold wcF
  have h := hgt_is (nI D i)
  rw [Int.toNat_natCast, shI_at e1 hi, shS_at tlS ts D i e2 hi, repS_eq, tlS_eq, sL_app, wrdL_eq, show (hgt (nI D i) + (o : Int)).toNat = (hgt (nI D i)).toNat + o by lia]
end
theorem joinL_nil : ∀ l : List (List Nat), joinL [] l = l.flatten
  | [] => rfl
  | [w] => by simp [joinL]
  | w :: v :: l => by rw [joinL, joinL_nil (v :: l)]; simp
theorem mail_join (D : List Int) : Txt.join ⟨#[]⟩ (D.map (fun x => sL (rowL 0 x ++ sepL ((x.fdiv 12).fmod 3)))) = sL (mailL D) := by
  have e : D.map (fun x => sL (rowL 0 x ++ sepL ((x.fdiv 12).fmod 3))) = (D.map (fun x => rowL 0 x ++ sepL ((x.fdiv 12).fmod 3))).map sL := by rw [List.map_map]; rfl
  rw [e, join_sL]
  congr 1
  show joinL [] _ = _
  rw [joinL_nil]
  unfold mailL
  clear e
  induction D with
  | nil => rfl
  | cons x D ih =>
    rw [List.map_cons, List.flatten_cons, ih, List.map_cons, catL, List.append_assoc]
theorem eqLs_str {c : Addr} {zs : List Value} {d : Addr} {ws : List Value} : ∀ {xs ys : List Value}, AllStr xs → AllStr ys → xs.map shS = ys.map shS → EqLs (eqN c zs d ws) xs ys
  | [], [], _, _, _ => trivial
  | x :: xs, y :: ys, h1, h2, h => by
    rw [List.map_cons, List.map_cons] at h
    injection h with e1 e2
    refine ⟨?_, eqLs_str (fun v hv => h1 v (.tail _ hv)) (fun v hv => h2 v (.tail _ hv)) e2⟩
    rw [h1 x (.head _), h2 y (.head _)]
    exact e1
  | [], y :: ys, _, _, h => by simp at h
  | x :: xs, [], _, _, h => by simp at h
theorem eqN_s {c : Addr} {zs : List Value} {d : Addr} {ws : List Value} {x y : Str} {t u : Tok} (h : x = y) : eqN c zs d ws (.str x t) (.str y u) := h
theorem eqN_i {c : Addr} {zs : List Value} {d : Addr} {ws : List Value} {x y : Int} {t u : Tok} (h : x = y) : eqN c zs d ws (.int x t) (.int y u) := h
theorem eqL3 {P : Value → Value → Prop} {a b c x y z : Value} (h1 : P a x) (h2 : P b y) (h3 : P c z) : EqLs P [a, b, c] [x, y, z] := ⟨h1, h2, h3, trivial⟩
theorem eqL2 {P : Value → Value → Prop} {a b x y : Value} (h1 : P a x) (h2 : P b y) : EqLs P [a, b] [x, y] := ⟨h1, h2, trivial⟩
end Mine
end
section
namespace Mine
open PySem PySem.Spec PySem.Calls PyProof.Rows PySem.W PySem.W.X
noncomputable def evP (X : Int) : List Int → Int
  | [] => 0
  | a :: p => a + X * evP X p
noncomputable def pmC (c : Int) : Int → List Int → List Int
  | r, [] => [r]
  | r, a :: p => (r + c * a) :: pmC c a p
noncomputable def paC (w : Int) : List Int → List Int
  | [] => [w]
  | a :: p => (a + w) :: p
theorem ev_pm (X c : Int) : ∀ (p : List Int) (r : Int), evP X (pmC c r p) = r + (X + c) * evP X p
  | [], r => by simp [pmC, evP]
  | a :: p, r => by
    rw [pmC, evP, ev_pm X c p a, evP]
    generalize evP X p = E
    rw [Int.mul_add X a, Int.mul_add (X + c) a, Int.add_mul X c a, Int.mul_left_comm X]
    lia
theorem ev_pa (X w : Int) : ∀ p : List Int, evP X (paC w p) = evP X p + w
  | [] => by simp [paC, evP]
  | a :: p => by rw [paC, evP, evP]; lia
noncomputable def prodZ (X : Int) (rs : List Int) : Nat → Int → Int → Int
  | 0, _, n => n
  | m + 1, k, n => prodZ X rs m (k + 1) (n * (X + nI rs k.toNat - k))
noncomputable def prodP (rs : List Int) : Nat → Int → List Int → List Int
  | 0, _, p => p
  | m + 1, k, p => prodP rs m (k + 1) (pmC (nI rs k.toNat - k) 0 p)
theorem ev_prod (X : Int) (rs : List Int) : ∀ (m : Nat) (k : Int) (p : List Int), evP X (prodP rs m k p) = prodZ X rs m k (evP X p)
  | 0, _, _ => rfl
  | m + 1, k, p => by
    rw [prodP, ev_prod X rs m, prodZ, ev_pm]
    congr 1
    rw [Int.zero_add, Int.mul_comm]
    congr 1
    lia
noncomputable def hvZ (X : Int) (w : List Int) (n : Int) : Nat → Int
  | 0 => 1
  | j + 1 => (X - (n - ((j : Int) + 1))) * hvZ X w n j + nI w (j + 1)
noncomputable def hvP (c : Int) (w : List Int) (n : Int) : Nat → List Int
  | 0 => [1]
  | j + 1 => paC (nI w (j + 1)) (pmC (c - (n - ((j : Int) + 1))) 0 (hvP c w n j))
theorem ev_hv (X c : Int) (w : List Int) (n : Int) : ∀ j : Nat, evP X (hvP c w n j) = hvZ (X + c) w n j
  | 0 => by simp [hvP, hvZ, evP]
  | j + 1 => by
    rw [hvP, ev_pa, ev_pm, ev_hv X c w n j, hvZ, Int.zero_add]
    congr 2
    lia
theorem prodI_Z (X : Int) (rs : List Value) : ∀ (m : Nat) (k n : Int), 0 ≤ k → k + m ≤ rs.length → prodI X rs m k n = prodZ X (intsV rs) m k n
  | 0, _, _, _, _ => rfl
  | m + 1, k, n, h0, h1 => by
    rw [prodI, prodZ, nI_at rs k.toNat (by lia), prodI_Z X rs m (k + 1) _ (by lia) (by lia)]
theorem hvI_Z (X : Int) (w : List Value) (n : Int) : ∀ j : Nat, j < w.length → hvI X w n j = hvZ X (intsV w) n j
  | 0, _ => rfl
  | j + 1, h => by rw [hvI, hvZ, nI_at w (j + 1) h, hvI_Z X w n j (by lia)]
noncomputable def posN : List Nat → Int
  | [] => 0
  | 0 :: l => posN l
  | (_ + 1) :: l => 1 + posN l
noncomputable def decN : List Nat → List Nat
  | [] => []
  | 0 :: l => 0 :: decN l
  | (d + 1) :: l => d :: decN l
noncomputable def colsZ : Nat → List Nat → List Int
  | 0, _ => []
  | m + 1, l => posN l :: colsZ m (decN l)
noncomputable def toN : List Int → List Nat
  | [] => []
  | x :: l => x.toNat :: toN l
noncomputable def eqZ : List Int → List Int → Bool
  | [], [] => true
  | a :: l, b :: m => decide (a = b) && eqZ l m
  | _, _ => false
noncomputable def inZ (b : Int) : List Int → Bool
  | [] => true
  | a :: l => decide (0 ≤ a) && (decide (a ≤ b) && inZ b l)
theorem eqZ_is : ∀ {l m : List Int}, eqZ l m = true → l = m
  | [], [], _ => rfl
  | a :: l, b :: m, h => by
    rw [eqZ, Bool.and_eq_true, decide_eq_true_eq] at h
    rw [h.1, eqZ_is h.2]
  | [], b :: m, h => by cases h
  | a :: l, [], h => by cases h
theorem inZ_is {b : Int} : ∀ {l : List Int}, inZ b l = true → ∀ x ∈ l, 0 ≤ x ∧ x ≤ b
  | [], _, x, hx => by simp at hx
  | a :: l, h, x, hx => by
    rw [inZ, Bool.and_eq_true, Bool.and_eq_true, decide_eq_true_eq, decide_eq_true_eq] at h
    rcases List.mem_cons.mp hx with rfl | hx
    · exact ⟨h.1, h.2.1⟩
    · exact inZ_is h.2.2 x hx
noncomputable def addZ (o : Int) : List Int → List Int
  | [] => []
  | x :: l => (x + o) :: addZ o l
noncomputable def chk2 (n m : Nat) (o : Int) (S er la cs P : List Int) : Bool :=
  Nat.beq er.length (n + 1) && (Nat.beq la.length (n + 1) && (inZ 1000 er && (inZ 1000 la && (eqZ P (hvP 0 la n n) && (eqZ P (hvP o er n n) && (inZ 100 cs && (Nat.ble 1 m && (Nat.ble m 5 && (Nat.beq cs.length m && eqZ (prodP cs m 0 [1]) (hvP 0 (la ++ zer m) m m))))))))))
noncomputable def chk1 (o : Int) (G S : List Int) (n m : Nat) : Bool := chk2 n m o S (rooks G) (rooks S) (colsZ m (toN S)).reverse (prodP (sortZ S) n 0 [1])
noncomputable def chk (o : Int) (G : List Int) : Bool := chk1 o G (addZ o G) G.length (maxL (addZ o G)).toNat
noncomputable def allG : Nat → List (List Int)
  | 0 => [[]]
  | n + 1 => (allG n).flatMap fun l => [1 :: l, 2 :: l, 3 :: l]
theorem mem_allG : ∀ (l : List Int), (∀ x ∈ l, 1 ≤ x ∧ x ≤ 3) → l ∈ allG l.length
  | [], _ => .head _
  | x :: l, h => by
    have ih := mem_allG l (fun y hy => h y (.tail _ hy))
    have hx := h x (.head _)
    rw [List.length_cons, allG, List.mem_flatMap]
    refine ⟨l, ih, ?_⟩
    have : x = 1 ∨ x = 2 ∨ x = 3 := by lia
    rcases this with rfl | rfl | rfl <;> simp
theorem chk31 : (allG 3).all (chk 1) = true := by decide +kernel
theorem chk32 : (allG 3).all (chk 2) = true := by decide +kernel
theorem chk41 : (allG 4).all (chk 1) = true := by decide +kernel
theorem chk42 : (allG 4).all (chk 2) = true := by decide +kernel
end Mine
end
section
namespace Mine
open PySem PySem.Spec PySem.Calls PyProof.Rows PySem.W PySem.W.X PySem.Builtin PySem.Builtin.Str PySem.Builtin.Int PySem.StrLaws
theorem c20 : (2 : Int) ≠ 0 := by decide
theorem c400 : (40 : Int) ≠ 0 := by decide
theorem dv2 (a : Int) : (2 : Int) ≠ 0 ∧ Builtin.divisionGoesByPylong a 2 = false := ⟨by decide, noPy (k := 4) (by decide) (by decide)⟩
theorem bas_ob (tot : Int) : (0 : Int) ≤ 20 + (tot.fdiv 2).fmod 40 ∧ ((2 : Int) = -1 ∨ (2 : Int) ≤ 2) ∧ (Builtin.Int.intBits 2 : Int) * (20 + (tot.fdiv 2).fmod 40) ≤ (2 : Int) ^ (27 : Nat) := by
  have h := fmod_bd (tot.fdiv 2) (b := 40) (by decide)
  rw [bits2]
  exact ⟨by lia, .inr (by decide), by lia⟩
theorem oft_is (tot : Int) : oftF tot = 1 ∨ oftF tot = 2 := by
  have h := fmod_bd tot (b := 2) (by decide)
  unfold oftF; lia
theorem oft_rg (tot : Int) : (1 : Int) = 1 ∧ (-(2 : Int) ^ (62 : Nat) ≤ (0 : Int) ∧ (0 : Int) < (2 : Int) ^ (62 : Nat)) ∧ -(2 : Int) ^ (62 : Nat) ≤ 1 + tot.fmod 2 ∧ 1 + tot.fmod 2 < (2 : Int) ^ (62 : Nat) := by
  have h := fmod_bd tot (b := 2) (by decide)
  lia
theorem bas_pw (tot : Int) : ∃ e : Nat, 20 ≤ e ∧ e ≤ 59 ∧ (2 : Int) ^ (20 + (tot.fdiv 2).fmod 40).toNat = 2 ^ e := by
  have h := fmod_bd (tot.fdiv 2) (b := 40) (by decide)
  exact ⟨_, by lia, by lia, rfl⟩
theorem bas_bd (tot : Int) : 100 ≤ (2 : Int) ^ (20 + (tot.fdiv 2).fmod 40).toNat ∧ (2 : Int) ^ (20 + (tot.fdiv 2).fmod 40).toNat ≤ 2 ^ 59 := by
  obtain ⟨e, h1, h2, h3⟩ := bas_pw tot
  rw [h3, pwI]
  have p1 : 2 ^ 20 ≤ 2 ^ e := Nat.pow_le_pow_right (by decide) h1
  have p2 : 2 ^ e ≤ 2 ^ 59 := Nat.pow_le_pow_right (by decide) h2
  generalize 2 ^ e = P at *
  lia
theorem rng0 {x : Int} (h0 : 0 ≤ x) (h : x ≤ 1000) : (1 : Int) = 1 ∧ (-(2 : Int) ^ (62 : Nat) ≤ (0 : Int) ∧ (0 : Int) < (2 : Int) ^ (62 : Nat)) ∧ -(2 : Int) ^ (62 : Nat) ≤ x ∧ x < (2 : Int) ^ (62 : Nat) := by lia
structure Fig (o : Int) (G er la : List Int) (n m : Nat) (cs : List Int) (S : List Int) : Prop where
  el : er.length = n + 1
  ll : la.length = n + 1
  eb : ∀ x ∈ er, 0 ≤ x ∧ x ≤ 1000
  lb : ∀ x ∈ la, 0 ≤ x ∧ x ≤ 1000
  p1 : prodP (sortZ S) n 0 [1] = hvP 0 la n n
  p2 : prodP (sortZ S) n 0 [1] = hvP o er n n
  cb : ∀ x ∈ cs, 0 ≤ x ∧ x ≤ 100
  m1 : 1 ≤ m
  m5 : m ≤ 5
  cl : cs.length = m
  p3 : prodP cs m 0 [1] = hvP 0 (la ++ zer m) m m
theorem fig_of {o : Int} (ho : o = 1 ∨ o = 2) {G : List Int} (hG : ∀ x ∈ G, 1 ≤ x ∧ x ≤ 3) (hn : G.length = 3 ∨ G.length = 4) : Fig o G (rooks G) (rooks (addZ o G)) G.length (maxL (addZ o G)).toNat (colsZ (maxL (addZ o G)).toNat (toN (addZ o G))).reverse (addZ o G) := by
  have hm := mem_allG G hG
  have h : chk o G = true := by
    rcases hn with e | e <;> rcases ho with rfl | rfl <;> rw [e] at hm
    · exact List.all_eq_true.mp chk31 G hm
    · exact List.all_eq_true.mp chk32 G hm
    · exact List.all_eq_true.mp chk41 G hm
    · exact List.all_eq_true.mp chk42 G hm
  unfold chk chk1 chk2 at h
  simp only [Bool.and_eq_true] at h
  obtain ⟨h1, h2, h3, h4, h5, h6, h7, h8, h9, h10, h11⟩ := h
  exact ⟨Nat.eq_of_beq_eq_true h1, Nat.eq_of_beq_eq_true h2, inZ_is h3, inZ_is h4, eqZ_is h5, eqZ_is h6, inZ_is h7, Nat.le_of_ble_eq_true h8, Nat.le_of_ble_eq_true h9, Nat.eq_of_beq_eq_true h10, eqZ_is h11⟩
theorem addZ_map (o : Int) : ∀ l : List Int, addZ o l = l.map (· + o)
  | [] => rfl
  | x :: l => by rw [addZ, addZ_map o l]; rfl
theorem intsV_mem : ∀ {l : List Value} {v : Value}, v ∈ l → shI v ∈ intsV l
  | w :: l, v, hv => by
    rcases List.mem_cons.mp hv with rfl | hv
    · exact .head _
    · exact .tail _ (intsV_mem hv)
theorem allI_bd {b : Int} {l : List Value} {L : List Int} (e : intsV l = L) (h : ∀ x ∈ L, 0 ≤ x ∧ x ≤ b) : ∀ v ∈ l, 0 ≤ shI v ∧ shI v ≤ b := fun v hv => h _ (e ▸ intsV_mem hv)
theorem map_bd {P : Str → Prop} {l : List Value} {L : List Str} (e : l.map shS = L) (h : ∀ x ∈ L, P x) : ∀ v ∈ l, P (shS v) := fun v hv => by
  subst e
  exact h _ (List.mem_map_of_mem hv)
section
variable {tot : Int} {ds hs ts es ms wl cs er se la cl : List Value} {l rest : List Nat} {ws : List (List Nat)}
theorem L2P.n4 (h : L2P tot ds l ws rest) : 3 ≤ ds.length ∧ ds.length ≤ 4 := by rcases h.l1.dl with e | e <;> rw [e] <;> decide
theorem L2P.D4 (h : L2P tot ds l ws rest) : (intsV ds).length = ds.length := intsV_len ds
theorem L2P.ln (h : L2P tot ds l ws rest) : ds.length ≤ sizeLine := by have := h.n4; exact le1k (b := 4) (by lia)
theorem L2P.rg (h : L2P tot ds l ws rest) : (1 : Int) = 1 ∧ (-(2 : Int) ^ (62 : Nat) ≤ (0 : Int) ∧ (0 : Int) < (2 : Int) ^ (62 : Nat)) ∧ -(2 : Int) ^ (62 : Nat) ≤ (ds.length : Int) ∧ (ds.length : Int) < (2 : Int) ^ (62 : Nat) := by have := h.n4; exact rng0 (by lia) (by lia)
theorem L2P.mp (h : L2P tot ds l ws rest) : MpP isIv 0 ds [] (8 + 1) ∧ (0 : Int).toNat < ds.length := by
  have := h.n4
  exact ⟨mp0 h.l1.da (by lia) (by lia), by show 0 < _; lia⟩
theorem hs_bd {hs ds : List Value} (e : intsV hs = (intsV ds).map hgt) : ∀ x ∈ intsV hs, 1 ≤ x ∧ x ≤ 3 := fun x hx => by
  rw [e] at hx
  obtain ⟨y, _, rfl⟩ := List.mem_map.mp hx
  exact hgt_is y
theorem rl0 (n : Nat) : rlen 0 (n : Int) = n := rlenP (Int.natCast_nonneg _)
theorem L2P.rg0 (h : L2P tot ds l ws rest) {m : Nat} (hm : 4 ≤ m) : RgP 0 (rlen 0 (ds.length : Int)) m ∧ 0 < rlen 0 (ds.length : Int) := by
  have := h.n4
  rw [rl0]
  exact ⟨⟨by lia, by lia, by lia⟩, by lia⟩
theorem L2P.mlx (h : L2P tot ds l ws rest) {es : List Value} (r0 : MpR (gI hgt) 0 ds [] hs) (r1 : MpR (gS tlS) 0 ds [] ts) (ea : AllStr es) (el : es.length = ds.length) (e2 : ∀ v ∈ es, (shS v).length ≤ 2) : MlP 0 (rlen 0 (ds.length : Int)) hs ts es [] (8 + 1) := by
  have h4 := h.n4
  obtain ⟨a1, a2, a3⟩ := mpR_i r0
  obtain ⟨b1, b2, b3⟩ := mpR_s r1
  have hb := hs_bd a2
  refine ⟨(h.rg0 (by decide)).1, by rw [rl0]; lia, by lia, by lia, by lia, a1, allI_bd rfl (fun x hx => by have := hb x hx; lia), b1, map_bd b2 (P := fun x => x.length ≤ 2) (fun x hx => ?_), ea, e2, AllStr.nil, by rw [rl0]; show 0 + _ ≤ _; lia⟩
  obtain ⟨y, _, rfl⟩ := List.mem_map.mp hx
  show 1 ≤ 2
  decide
theorem tl2 {ts ds : List Value} (b2 : ts.map shS = (intsV ds).map tlS) : ∀ v ∈ ts, (shS v).length ≤ 2 := map_bd b2 (P := fun x => x.length ≤ 2) (fun x hx => by
  obtain ⟨y, _, rfl⟩ := List.mem_map.mp hx
  show 1 ≤ 2
  decide)
theorem L2P.ml (h : L2P tot ds l ws rest) (r0 : MpR (gI hgt) 0 ds [] hs) (r1 : MpR (gS tlS) 0 ds [] ts) (r2 : MpR (gS enS) 0 ds [] es) : MlP 0 (rlen 0 (ds.length : Int)) hs ts es [] (8 + 1) ∧ 0 < rlen 0 (ds.length : Int) := by
  obtain ⟨b1, b2, b3⟩ := mpR_s r2
  refine ⟨h.mlx r0 r1 b1 b3 (map_bd b2 (P := fun x => x.length ≤ 2) (fun x hx => ?_)), (h.rg0 (m := 4) (by decide)).2⟩
  obtain ⟨y, _, rfl⟩ := List.mem_map.mp hx
  unfold enS
  rw [sL_len]
  rcases sep_end ((y.fdiv 12).fmod 3) with e | e | e <;> rw [e] <;> decide
theorem L2P.msE (h : L2P tot ds l ws rest) (r0 : MpR (gI hgt) 0 ds [] hs) (r1 : MpR (gS tlS) 0 ds [] ts) (r2 : MpR (gS enS) 0 ds [] es) (r3 : RmR (mlF hs ts es) 0 (rlen 0 (ds.length : Int)) [] ms) :
    AllStr ms ∧ ms.map shS = (intsV ds).map (fun x => sL (rowL 0 x ++ sepL ((x.fdiv 12).fmod 3))) := by
  refine ⟨r3.xa, ?_⟩
  have e := r3.xm
  rw [rl0, Int.toNat_natCast, List.map_nil, List.nil_append, ← h.D4, ml_eq (mpR_i r0).2.1 (mpR_s r1).2.1 (mpR_s r2).2.1] at e
  exact e
theorem L2P.jn (h : L2P tot ds l ws rest) (r0 : MpR (gI hgt) 0 ds [] hs) (r1 : MpR (gS tlS) 0 ds [] ts) (r2 : MpR (gS enS) 0 ds [] es) (r3 : RmR (mlF hs ts es) 0 (rlen 0 (ds.length : Int)) [] ms) : joinV ⟨#[]⟩ ms = sL (mailL (intsV ds)) := by
  unfold joinV
  rw [(h.msE r0 r1 r2 r3).2, mail_join]
theorem L2P.msb (h : L2P tot ds l ws rest) (r0 : MpR (gI hgt) 0 ds [] hs) (r1 : MpR (gS tlS) 0 ds [] ts) (r2 : MpR (gS enS) 0 ds [] es) (r3 : RmR (mlF hs ts es) 0 (rlen 0 (ds.length : Int)) [] ms) : ∀ x ∈ ms.map shS, x.length ≤ 9 := by
  rw [(h.msE r0 r1 r2 r3).2]
  intro x hx
  obtain ⟨y, _, rfl⟩ := List.mem_map.mp hx
  have := rowL_len (o := 0) (by decide) y
  have : (sepL ((y.fdiv 12).fmod 3)).length ≤ 2 := by rcases sep_end ((y.fdiv 12).fmod 3) with e | e | e <;> rw [e] <;> decide
  rw [sL_len, List.length_append]; lia
theorem L2P.msl (h : L2P tot ds l ws rest) (r0 : MpR (gI hgt) 0 ds [] hs) (r1 : MpR (gS tlS) 0 ds [] ts) (r2 : MpR (gS enS) 0 ds [] es) (r3 : RmR (mlF hs ts es) 0 (rlen 0 (ds.length : Int)) [] ms) : (ms.map shS).length = ds.length := by
  rw [(h.msE r0 r1 r2 r3).2, List.length_map, h.D4]
theorem L2P.jo (h : L2P tot ds l ws rest) (r0 : MpR (gI hgt) 0 ds [] hs) (r1 : MpR (gS tlS) 0 ds [] ts) (r2 : MpR (gS enS) 0 ds [] es) (r3 : RmR (mlF hs ts es) 0 (rlen 0 (ds.length : Int)) [] ms) : AllStr ms ∧ JoinOk ⟨#[]⟩ (ms.map shS) = true := by
  have := h.n4
  refine ⟨r3.xa, joinOk_small (by decide) (h.msb r0 r1 r2 r3) ?_⟩
  rw [h.msl r0 r1 r2 r3]
  exact le1k (b := 44) (by lia)
theorem L2P.qt (h : L2P tot ds l ws rest) (r0 : MpR (gI hgt) 0 ds [] hs) (r1 : MpR (gS tlS) 0 ds [] ts) (r2 : MpR (gS enS) 0 ds [] es) (r3 : RmR (mlF hs ts es) 0 (rlen 0 (ds.length : Int)) [] ms) : QtP 0 (rlen 0 (1 + tot.fmod 2)) (joinV ⟨#[]⟩ ms) (8 + 1) ∧ 0 < rlen 0 (1 + tot.fmod 2) := by
  have h4 := h.n4
  have ho := oft_is tot
  unfold oftF at ho
  have hl := join_len ⟨#[]⟩ (by decide) (h.msb r0 r1 r2 r3)
  rw [h.msl r0 r1 r2 r3] at hl
  have hl : (joinV ⟨#[]⟩ ms).length ≤ 44 := Nat.le_trans hl (by lia)
  rw [rlenP (by lia)]
  refine ⟨⟨⟨by lia, by lia, by lia⟩, ?_⟩, by lia⟩
  rcases ho with e | e <;> rw [e]
  · show _ * 4 ^ 1 ≤ _; lia
  · show _ * 4 ^ 2 ≤ _; lia
theorem L2P.sE (h : L2P tot ds l ws rest) (r0 : MpR (gI hgt) 0 ds [] hs) (r1 : MpR (gS tlS) 0 ds [] ts) (r2 : MpR (gS enS) 0 ds [] es) (r3 : RmR (mlF hs ts es) 0 (rlen 0 (ds.length : Int)) [] ms) {s : Str} (r4 : QtR (rlen 0 (1 + tot.fmod 2)) (joinV ⟨#[]⟩ ms) s) : s = sL l := by
  have ho := oft_is tot
  have e := r4.e
  rw [h.jn r0 r1 r2 r3, rlenP (by unfold oftF at ho; lia), show (1 + tot.fmod 2).toNat = (oftF tot).toNat from rfl, quotN_mail (by lia)] at e
  rw [e, h.hl]
theorem L2P.o2 (h : L2P tot ds l ws rest) : (oftF tot).toNat ≤ 2 := by have := oft_is tot; lia
theorem L2P.wo (h : L2P tot ds l ws rest) (r0 : MpR (gI hgt) 0 ds [] hs) (r1 : MpR (gS tlS) 0 ds [] ts) (r2 : MpR (gS enS) 0 ds [] es) (r3 : RmR (mlF hs ts es) 0 (rlen 0 (ds.length : Int)) [] ms) {s : Str} (r4 : QtR (rlen 0 (1 + tot.fmod 2)) (joinV ⟨#[]⟩ ms) s) : WoP s 0 (rlen 0 (ds.length : Int)) [] l ws ∧ 0 < rlen 0 (ds.length : Int) := by
  have h4 := h.n4
  have e := h.sE r0 r1 r2 r3 r4
  subst e
  have hw : ws.length = ds.length := by rw [h.hw, List.length_map, h.D4]
  have hl := txtL_len h.o2 (intsV ds)
  rw [← h.hl, h.D4] at hl
  refine ⟨⟨by rw [rl0, hw], ⟨by decide, rfl, ?_⟩, AllStr.nil, by rw [hw]; show 0 + _ ≤ _; lia⟩, by rw [rl0]; lia⟩
  show 0 + l.length ≤ _
  exact le1k (b := 40) (by lia)
theorem L2P.wc (h : L2P tot ds l ws rest) (r0 : MpR (gI hgt) 0 ds [] hs) (r1 : MpR (gS tlS) 0 ds [] ts) : WcP (1 + tot.fmod 2) 0 (rlen 0 (ds.length : Int)) hs ts [] (8 + 1) ∧ 0 < rlen 0 (ds.length : Int) := by
  obtain ⟨b1, b2, b3⟩ := mpR_s r1
  have ho := oft_is tot
  unfold oftF at ho
  exact ⟨⟨h.mlx r0 r1 b1 b3 (tl2 b2), by lia⟩, (h.rg0 (m := 4) (by decide)).2⟩
theorem L2P.wlE (h : L2P tot ds l ws rest) {s : Str} {p1 n1 : Int} (r7 : WoR s 1 [] l ws rest p1 n1 wl) : AllStr wl ∧ wl.map shS = (intsV ds).map (fun x => sL (wrdL (oftF tot).toNat x)) ∧ wl.length = ds.length := by
  have e := r7.xm
  rw [List.map_nil, List.nil_append, h.hw, List.map_map] at e
  refine ⟨r7.xa, e, ?_⟩
  have := congrArg List.length e
  rw [List.length_map, List.length_map, h.D4] at this
  exact this
theorem L2P.eq1 (h : L2P tot ds l ws rest) (r0 : MpR (gI hgt) 0 ds [] hs) (r1 : MpR (gS tlS) 0 ds [] ts) {s : Str} {p1 n1 : Int} (r7 : WoR s 1 [] l ws rest p1 n1 wl) (r8 : RmR (wcF (1 + tot.fmod 2) hs ts) 0 (rlen 0 (ds.length : Int)) [] cs) {a b : Addr} : EqLs (eqN a wl b cs) wl cs := by
  obtain ⟨w1, w2, _⟩ := h.wlE r7
  refine eqLs_str w1 r8.xa ?_
  have e := r8.xm
  have ho := oft_is tot
  rw [rl0, Int.toNat_natCast, List.map_nil, List.nil_append, ← h.D4, show 1 + tot.fmod 2 = ((oftF tot).toNat : Int) by unfold oftF at *; lia, wc_eq (mpR_i r0).2.1 (mpR_s r1).2.1] at e
  rw [w2, e]
theorem L2P.g1 (h : L2P tot ds l ws rest) {s : Str} {p1 n1 : Int} (r7 : WoR s 1 [] l ws rest p1 n1 wl) : GP s p1 ⟨#[]⟩ rest := ⟨r7.p0, r7.rm, by rw [h.hr]; exact le1k (b := 1) (by decide)⟩
theorem L2P.g2 (h : L2P tot ds l ws rest) {s tok : Str} {n1 p2 n2 : Int} (r9 : GR s n1 ⟨#[]⟩ rest [] [] p2 n2 tok) : GP s p2 ⟨#[]⟩ [] := ⟨r9.1, r9.2.1, by exact le1k (b := 1) (by decide)⟩
theorem tokE {s tok : Str} {n1 p2 n2 : Int} {l rest : List Nat} (r9 : GR s n1 ⟨#[]⟩ l [] rest p2 n2 tok) : tok = ⟨#[]⟩ := r9.2.2.1.trans (Str.empty_append _)
theorem L2P.lnE (h : L2P tot ds l ws rest) {s tok tok2 : Str} {p1 n1 p2 n2 p3 n3 : Int} (r7 : WoR s 1 [] l ws rest p1 n1 wl) (r9 : GR s n1 ⟨#[]⟩ rest [] [] p2 n2 tok) (r10 : GR s n2 ⟨#[]⟩ [] [] [] p3 n3 tok2) : n3 = 1 + (ds.length : Int) := by
  have e1 := r7.nl; have e2 := r9.2.2.2; have e3 := r10.2.2.2
  rw [h.hl, nls_txt, h.D4] at e1
  have : nls [] = 0 := rfl
  lia
theorem L2P.rk1 (h : L2P tot ds l ws rest) (r0 : MpR (gI hgt) 0 ds [] hs) : RkP hs := by
  obtain ⟨a1, a2, a3⟩ := mpR_i r0
  have h4 := h.n4
  exact ⟨a1, by lia, by lia, fun x hx => by have := hs_bd a2 x hx; lia⟩
theorem L2P.ws2 (h : L2P tot ds l ws rest) {s : Str} {p1 n1 : Int} (r7 : WoR s 1 [] l ws rest p1 n1 wl) : MpP isSv 0 wl [] (8 + 1) ∧ (0 : Int).toNat < wl.length := by
  obtain ⟨w1, w2, w3⟩ := h.wlE r7
  have h4 := h.n4
  exact ⟨⟨by lia, by lia, by lia, fun v hv => w1 v hv, by show 0 + _ ≤ _; lia, by lia⟩, by show 0 < _; lia⟩
theorem L2P.seE (h : L2P tot ds l ws rest) {s : Str} {p1 n1 : Int} (r7 : WoR s 1 [] l ws rest p1 n1 wl) (r12 : MpR gC 0 wl [] se) : AllInt se ∧ intsV se = addZ (oftF tot) ((intsV ds).map hgt) ∧ se.length = ds.length := by
  obtain ⟨w1, w2, w3⟩ := h.wlE r7
  obtain ⟨a1, a2, a3⟩ := mpR_c r12
  refine ⟨a1, ?_, by lia⟩
  have ho := oft_is tot
  rw [a2, w2, addZ_map, List.map_map, List.map_map]
  apply List.map_congr_left
  intro x _
  show (cntS (sL (wrdL (oftF tot).toNat x)) ⟨#[46]⟩ : Int) = hgt x + oftF tot
  rw [wrd_cnt]; lia
theorem L2P.seb (h : L2P tot ds l ws rest) : ∀ x ∈ addZ (oftF tot) ((intsV ds).map hgt), 1 ≤ x ∧ x ≤ 5 := fun x hx => by
  rw [addZ_map, List.map_map] at hx
  obtain ⟨y, _, rfl⟩ := List.mem_map.mp hx
  have := hgt_is y; have := oft_is tot
  show 1 ≤ hgt y + oftF tot ∧ _
  constructor
  · lia
  · show hgt y + oftF tot ≤ 5; lia
theorem L2P.so (h : L2P tot ds l ws rest) {s : Str} {p1 n1 : Int} (r7 : WoR s 1 [] l ws rest p1 n1 wl) (r12 : MpR gC 0 wl [] se) : AllInt se ∧ se.length < 64 := by
  obtain ⟨a1, a2, a3⟩ := h.seE r7 r12
  have := h.n4
  exact ⟨a1, by lia⟩
theorem L2P.rk2 (h : L2P tot ds l ws rest) {s : Str} {p1 n1 : Int} (r7 : WoR s 1 [] l ws rest p1 n1 wl) (r12 : MpR gC 0 wl [] se) : RkP se := by
  obtain ⟨a1, a2, a3⟩ := h.seE r7 r12
  have h4 := h.n4
  exact ⟨a1, by lia, by lia, fun x hx => by rw [a2] at hx; exact h.seb x hx⟩
theorem L2P.mx (h : L2P tot ds l ws rest) {s : Str} {p1 n1 : Int} (r7 : WoR s 1 [] l ws rest p1 n1 wl) (r12 : MpR gC 0 wl [] se) : AllInt se ∧ 0 < se.length := by
  obtain ⟨a1, a2, a3⟩ := h.seE r7 r12
  have := h.n4
  exact ⟨a1, by lia⟩
theorem L2P.mxb (h : L2P tot ds l ws rest) {s : Str} {p1 n1 : Int} (r7 : WoR s 1 [] l ws rest p1 n1 wl) (r12 : MpR gC 0 wl [] se) : 1 ≤ maxV se ∧ maxV se ≤ 5 := (h.rk2 r7 r12).mx
theorem L2P.mrg (h : L2P tot ds l ws rest) {s : Str} {p1 n1 : Int} (r7 : WoR s 1 [] l ws rest p1 n1 wl) (r12 : MpR gC 0 wl [] se) : (1 : Int) = 1 ∧ (-(2 : Int) ^ (62 : Nat) ≤ (0 : Int) ∧ (0 : Int) < (2 : Int) ^ (62 : Nat)) ∧ -(2 : Int) ^ (62 : Nat) ≤ maxV se ∧ maxV se < (2 : Int) ^ (62 : Nat) := by
  have := h.mxb r7 r12
  exact rng0 (by lia) (by lia)
theorem L2P.fig (h : L2P tot ds l ws rest) : Fig (oftF tot) ((intsV ds).map hgt) (rooks ((intsV ds).map hgt)) (rooks (addZ (oftF tot) ((intsV ds).map hgt))) ds.length (maxL (addZ (oftF tot) ((intsV ds).map hgt))).toNat (colsZ (maxL (addZ (oftF tot) ((intsV ds).map hgt))).toNat (toN (addZ (oftF tot) ((intsV ds).map hgt)))).reverse (addZ (oftF tot) ((intsV ds).map hgt)) := by
  have hl : ((intsV ds).map hgt).length = ds.length := by rw [List.length_map, h.D4]
  have z := fig_of (oft_is tot) (G := (intsV ds).map hgt) (fun x hx => by
    obtain ⟨y, _, rfl⟩ := List.mem_map.mp hx
    exact hgt_is y) (by rw [hl]; exact h.l1.dl)
  rw [hl] at z
  exact z
theorem intsF_ints (f : Nat → Tok) : ∀ (l : List Int) (i : Nat), AllInt (intsF f l i) ∧ intsV (intsF f l i) = l
  | [], _ => ⟨AllInt.nil, rfl⟩
  | x :: l, i => by
    obtain ⟨h1, h2⟩ := intsF_ints f l (i + 1)
    exact ⟨(AllInt.one _ _).app h1, by rw [intsF, intsV, h2]; rfl⟩
theorem L2P.riE (h : L2P tot ds l ws rest) {s : Str} {p1 n1 : Int} (r7 : WoR s 1 [] l ws rest p1 n1 wl) (r12 : MpR gC 0 wl [] se) (f : Nat → Tok) : AllInt (intsF f (sortZ (intsV se)) 0) ∧ intsV (intsF f (sortZ (intsV se)) 0) = sortZ (addZ (oftF tot) ((intsV ds).map hgt)) ∧ (intsF f (sortZ (intsV se)) 0).length = ds.length := by
  obtain ⟨a1, a2, a3⟩ := h.seE r7 r12
  obtain ⟨i1, i2⟩ := intsF_ints f (sortZ (intsV se)) 0
  refine ⟨i1, by rw [i2, a2], ?_⟩
  rw [← intsV_len, i2, (sortZ_perm _).length_eq, intsV_len, a3]
theorem L2P.pr (h : L2P tot ds l ws rest) {s : Str} {p1 n1 : Int} (r7 : WoR s 1 [] l ws rest p1 n1 wl) (r12 : MpR gC 0 wl [] se) (f : Nat → Tok) : PrP ((2 : Int) ^ (20 + (tot.fdiv 2).fmod 40).toNat) 0 (rlen 0 (ds.length : Int)) (intsF f (sortZ (intsV se)) 0) (8 + 1) ∧ 0 < rlen 0 (ds.length : Int) := by
  obtain ⟨i1, i2, i3⟩ := h.riE r7 r12 f
  have h4 := h.n4; have hb := bas_bd tot
  refine ⟨⟨(h.rg0 (by decide)).1, by rw [rl0, i3]; lia, by lia, i1, allI_bd i2 (fun x hx => ?_), hb.1, hb.2⟩, (h.rg0 (m := 4) (by decide)).2⟩
  have := h.seb x ((sortZ_perm _).mem_iff.mp hx)
  lia
theorem RkR.facts (r : RkR hs er) {G : List Int} (e : intsV hs = G) {n : Nat} (hl : (rooks G).length = n + 1) (hb : ∀ x ∈ rooks G, 0 ≤ x ∧ x ≤ 1000) : AllInt er ∧ intsV er = rooks G ∧ er.length = n + 1 ∧ ∀ v ∈ er, 0 ≤ shI v ∧ shI v ≤ 1000 := by
  have e2 := r.te
  rw [e] at e2
  exact ⟨r.ta, e2, by rw [← intsV_len, e2, hl], allI_bd e2 hb⟩
theorem num_eq {X : Int} {rs : List Value} {R : List Int} (e : intsV rs = R) {n : Nat} (hl : rs.length = n) {num : Int} (r : PrR X 0 (rlen 0 (n : Int)) rs 1 num) : num = evP X (prodP R n 0 [1]) := by
  have e1 := r.e
  rw [rl0, Int.toNat_natCast, prodI_Z X rs n 0 1 (by lia) (by lia), e] at e1
  rw [ev_prod, e1]
  congr 1
  simp [evP]
theorem L2P.dv (h : L2P tot ds l ws rest) (r0 : MpR (gI hgt) 0 ds [] hs) {s : Str} {p1 n1 : Int} (r7 : WoR s 1 [] l ws rest p1 n1 wl) (r11 : RkR hs er) (r12 : MpR gC 0 wl [] se) (r13 : RkR se la) {f : Nat → Tok} {num : Int} (r14 : PrR ((2 : Int) ^ (20 + (tot.fdiv 2).fmod 40).toNat) 0 (rlen 0 (ds.length : Int)) (intsF f (sortZ (intsV se)) 0) 1 num) :
    DvP ((2 : Int) ^ (20 + (tot.fdiv 2).fmod 40).toNat) (1 + tot.fmod 2) (ds.length : Int) 0 (rlen 0 (ds.length : Int)) num (Builtin.bitNot num) er la (8 + 1) ∧ 0 < rlen 0 (ds.length : Int) := by
  have h4 := h.n4; have F := h.fig
  obtain ⟨i1, i2, i3⟩ := h.riE r7 r12 f
  obtain ⟨a1, a2, a3⟩ := mpR_i r0
  obtain ⟨s1, s2, s3⟩ := h.seE r7 r12
  obtain ⟨b1, b2, b3, b4⟩ := r11.facts a2 F.el F.eb
  obtain ⟨c1, c2, c3, c4⟩ := r13.facts s2 F.ll F.lb
  have en := num_eq i2 i3 r14
  have ho := oft_is tot
  refine ⟨⟨⟨(h.rg0 (by decide)).1, by rw [rl0]; lia, by lia, bas_pw tot, c1, by lia, by lia, c4, ?_⟩, by unfold oftF at ho; lia, b1, by lia, by lia, b4, ?_⟩, (h.rg0 (m := 4) (by decide)).2⟩
  · rw [rl0, Int.toNat_natCast, hvI_Z _ _ _ _ (by lia), c2, en, F.p1, ev_hv, Int.add_zero]
  · rw [rl0, Int.toNat_natCast, hvI_Z _ _ _ _ (by lia), b2, show 1 + tot.fmod 2 = oftF tot from rfl, ← ev_hv, ← F.p2, ← en]
    rfl
end
noncomputable def rwL (p : Nat × Nat) : List Nat := List.replicate p.1 46 ++ [p.2]
noncomputable def okc (p : Nat × Nat) : Prop := p.2 ≠ 46 ∧ p.2 ≠ 10 ∧ p.2 ≠ 13
noncomputable def fsN : List (Nat × Nat) → List Nat
  | [] => []
  | p :: l => p.1 :: fsN l
theorem rwL_pl {p : Nat × Nat} (h : okc p) : Pl (rwL p) := fun c hc => by
  rcases List.mem_append.mp hc with hc | hc
  · rw [(List.mem_replicate.mp hc).2]; decide
  · simp at hc; subst hc; exact ⟨h.2.1, h.2.2⟩
noncomputable def dlL (p : Nat × Nat) : List Nat := match p.1 with
  | 0 => rwL p
  | _ + 1 => 46 :: rwL p
theorem dots_row {p : Nat × Nat} (h : okc p) (r : List Nat) : dots true (rwL p ++ r) = dlL p ++ dots false r := by
  obtain ⟨d, c⟩ := p
  cases d with
  | zero =>
    show dots true (c :: r) = c :: dots false r
    have h1 : (c == 46) = false := by simpa using h.1
    have h2 : (c == 10) = false := by simpa using h.2.1
    rw [dots, h1, if_neg (by simp), h2]
  | succ d =>
    have hp := rwL_pl (p := (d, c)) h
    have z := dots_head (rwL (d, c)) r hp
    have e : rwL (d + 1, c) = 46 :: rwL (d, c) := by unfold rwL; rw [List.replicate_succ]; rfl
    show dots true (rwL (d + 1, c) ++ r) = 46 :: rwL (d + 1, c) ++ dots false r
    rw [e, z]; rfl
theorem dlL_len (p : Nat × Nat) (l : List Nat) : ((dlL p).length : Int) + posN l = ((rwL p).length : Int) + posN (p.1 :: l) := by
  obtain ⟨d, c⟩ := p
  cases d with
  | zero => rfl
  | succ d =>
    show ((46 :: rwL (d + 1, c)).length : Int) + posN l = ((rwL (d + 1, c)).length : Int) + (1 + posN l)
    rw [List.length_cons]; lia
theorem q_len : ∀ R : List (Nat × Nat), (∀ p ∈ R, okc p) → ((dots true (crlf (joinL [13, 10] (R.map rwL)))).length : Int) = ((joinL [13, 10] (R.map rwL)).length : Int) + posN (fsN R)
  | [], _ => rfl
  | [p], h => by
    have hp := h p (.head _)
    have e1 := crlf_pre (rwL p) [] (rwL_pl hp)
    have e2 := dots_row hp []
    have e3 := dlL_len p []
    simp only [List.append_nil, crlf, dots] at e1 e2
    show ((dots true (crlf (rwL p))).length : Int) = ((rwL p).length : Int) + posN [p.1]
    rw [e1, e2]
    have : posN [] = 0 := rfl
    lia
  | p :: q :: R, h => by
    have hp := h p (.head _)
    have ih := q_len (q :: R) (fun x hx => h x (.tail _ hx))
    have e3 := dlL_len p (fsN (q :: R))
    show ((dots true (crlf (rwL p ++ [13, 10] ++ joinL [13, 10] ((q :: R).map rwL)))).length : Int) = ((rwL p ++ [13, 10] ++ joinL [13, 10] ((q :: R).map rwL)).length : Int) + posN (p.1 :: fsN (q :: R))
    rw [List.append_assoc, crlf_pre _ _ (rwL_pl hp)]
    show ((dots true (rwL p ++ (13 :: 10 :: crlf (joinL [13, 10] ((q :: R).map rwL))))).length : Int) = _
    rw [dots_row hp, dots_end, List.length_append, List.length_append, List.length_cons, List.length_cons, List.length_append]
    generalize joinL [13, 10] ((q :: R).map rwL) = J at *
    show ((_ : Nat) : Int) = (((rwL p).length + (2 + J.length) : Nat) : Int) + _
    lia
noncomputable def strsR (R : List (Nat × Nat)) : List Str := R.map fun p => sL (rwL p)
theorem dotN_R (R : List (Nat × Nat)) (h : ∀ p ∈ R, okc p) : dotN (strsR R) = posN (fsN R) := by
  have z := q_len R h
  have e : Txt.join ⟨#[13, 10]⟩ (strsR R) = sL (joinL [13, 10] (R.map rwL)) := by
    unfold strsR
    rw [show (R.map fun p => sL (rwL p)) = (R.map rwL).map sL by rw [List.map_map]; rfl, join_sL]
  unfold dotN
  rw [e]
  show ((sL (quotedL (joinL [13, 10] (R.map rwL)))).length : Int) - _ = _
  rw [sL_len, sL_len]
  unfold quotedL
  lia
noncomputable def decR (p : Nat × Nat) : Nat × Nat := (p.1 - 1, p.2)
theorem undot_R {p : Nat × Nat} (h : okc p) : undot (sL (rwL p)) = sL (rwL (decR p)) := by
  obtain ⟨d, c⟩ := p
  cases d with
  | zero =>
    show undot (sL [c]) = sL [c]
    unfold undot
    show sL (match [c] with | 46 :: l => l | l => l) = _
    split
    · rename_i l e; injection e with e1 _; exact absurd e1 h.1
    · rfl
  | succ d =>
    have e : rwL (d + 1, c) = 46 :: rwL (d, c) := by unfold rwL; rw [List.replicate_succ]; rfl
    rw [e]; rfl
theorem decN_R : ∀ R : List (Nat × Nat), decN (fsN R) = fsN (R.map decR)
  | [] => rfl
  | (0, c) :: R => by
    show 0 :: decN (fsN R) = _
    rw [decN_R R]; rfl
  | (d + 1, c) :: R => by
    show d :: decN (fsN R) = _
    rw [decN_R R]; rfl
theorem cols_R : ∀ (m : Nat) (R : List (Nat × Nat)), (∀ p ∈ R, okc p) → colsF m (strsR R) = colsZ m (fsN R)
  | 0, _, _ => rfl
  | m + 1, R, h => by
    have e : (strsR R).map undot = strsR (R.map decR) := by
      unfold strsR
      rw [List.map_map, List.map_map]
      exact List.map_congr_left fun p hp => undot_R (h p hp)
    rw [colsF, colsZ, dotN_R R h, e, decN_R, cols_R m (R.map decR) (fun p hp => by
      obtain ⟨q, hq, rfl⟩ := List.mem_map.mp hp
      exact h q hq)]
theorem intsV_rev : ∀ l : List Value, intsV l.reverse = (intsV l).reverse
  | [] => rfl
  | v :: l => by rw [List.reverse_cons, intsV_app, intsV_rev l, show intsV (v :: l) = shI v :: intsV l from rfl, List.reverse_cons]; rfl
theorem fsN_D (o : Int) : ∀ (D : List Int), (o = 1 ∨ o = 2) → fsN (D.map fun x => ((hgt x).toNat + o.toNat, tlC x)) = toN (addZ o (D.map hgt))
  | [], _ => rfl
  | x :: D, h => by
    have := hgt_is x
    show ((hgt x).toNat + o.toNat) :: fsN _ = (hgt x + o).toNat :: toN _
    rw [fsN_D o D h, show (hgt x).toNat + o.toNat = (hgt x + o).toNat by lia]
section
variable {tot : Int} {ds wl se la cl : List Value} {l rest : List Nat} {ws : List (List Nat)} {s : Str} {p1 n1 : Int}
theorem L2P.cm (h : L2P tot ds l ws rest) (r7 : WoR s 1 [] l ws rest p1 n1 wl) (r12 : MpR gC 0 wl [] se) : CmP 0 (rlen 0 (maxV se)) wl [] (8 + 1) ∧ 0 < rlen 0 (maxV se) := by
  obtain ⟨w1, w2, w3⟩ := h.wlE r7
  have hm := h.mxb r7 r12; have h4 := h.n4
  rw [rlenP (by lia)]
  refine ⟨⟨⟨by lia, by lia, by lia⟩, w1, by lia, by lia, map_bd w2 (P := fun x => x.length ≤ 10) (fun x hx => ?_), AllInt.nil, by show 0 + _ ≤ _; lia⟩, by lia⟩
  obtain ⟨y, _, rfl⟩ := List.mem_map.mp hx
  have := wrdL_len h.o2 y
  rw [sL_len]; lia
theorem L2P.clE (h : L2P tot ds l ws rest) (r7 : WoR s 1 [] l ws rest p1 n1 wl) (r12 : MpR gC 0 wl [] se) (r16 : CmR (rlen 0 (maxV se)) wl [] cl) :
    AllInt cl.reverse ∧ intsV cl.reverse = (colsZ (maxL (addZ (oftF tot) ((intsV ds).map hgt))).toNat (toN (addZ (oftF tot) ((intsV ds).map hgt)))).reverse ∧ cl.reverse.length = (maxL (addZ (oftF tot) ((intsV ds).map hgt))).toNat := by
  obtain ⟨w1, w2, w3⟩ := h.wlE r7
  obtain ⟨s1, s2, s3⟩ := h.seE r7 r12
  have hm := h.mxb r7 r12
  have e := r16.ce
  have eR : wl.map shS = strsR ((intsV ds).map fun x => ((hgt x).toNat + (oftF tot).toNat, tlC x)) := by
    rw [w2]
    unfold strsR
    rw [List.map_map]
    rfl
  rw [rlenP (by lia), eR, cols_R _ _ (fun p hp => by
    obtain ⟨y, _, rfl⟩ := List.mem_map.mp hp
    show tlC y ≠ 46 ∧ _ ∧ _
    rcases tlC_is y with h | h | h | h
    all_goals
      show tlC y ≠ 46 ∧ tlC y ≠ 10 ∧ tlC y ≠ 13
      rw [h]; decide), fsN_D _ _ (oft_is tot)] at e
  have em : (maxV se).toNat = (maxL (addZ (oftF tot) ((intsV ds).map hgt))).toNat := by unfold maxV; rw [s2]
  rw [em] at e
  have e : intsV cl = _ := e
  have e2 : intsV cl.reverse = (colsZ (maxL (addZ (oftF tot) ((intsV ds).map hgt))).toNat (toN (addZ (oftF tot) ((intsV ds).map hgt)))).reverse := by
    rw [intsV_rev, e]; rfl
  refine ⟨fun v hv => r16.ca v (List.mem_reverse.mp hv), e2, ?_⟩
  rw [← intsV_len, e2, h.fig.cl]
theorem L2P.cl5 (h : L2P tot ds l ws rest) (r7 : WoR s 1 [] l ws rest p1 n1 wl) (r12 : MpR gC 0 wl [] se) (r16 : CmR (rlen 0 (maxV se)) wl [] cl) : cl.reverse.length ≤ 5 := by
  have := (h.clE r7 r12 r16).2.2; have := h.fig.m5; lia
theorem L2P.cl1 (h : L2P tot ds l ws rest) (r7 : WoR s 1 [] l ws rest p1 n1 wl) (r12 : MpR gC 0 wl [] se) (r16 : CmR (rlen 0 (maxV se)) wl [] cl) : cl.length ≤ sizeLine := by
  have := h.cl5 r7 r12 r16; rw [List.length_reverse] at this; exact le1k (b := 5) this
theorem L2P.cl2 (h : L2P tot ds l ws rest) (r7 : WoR s 1 [] l ws rest p1 n1 wl) (r12 : MpR gC 0 wl [] se) (r16 : CmR (rlen 0 (maxV se)) wl [] cl) : cl.reverse.length ≤ sizeLine := le1k (b := 5) (h.cl5 r7 r12 r16)
theorem L2P.crg (h : L2P tot ds l ws rest) (r7 : WoR s 1 [] l ws rest p1 n1 wl) (r12 : MpR gC 0 wl [] se) (r16 : CmR (rlen 0 (maxV se)) wl [] cl) : (1 : Int) = 1 ∧ (-(2 : Int) ^ (62 : Nat) ≤ (0 : Int) ∧ (0 : Int) < (2 : Int) ^ (62 : Nat)) ∧ -(2 : Int) ^ (62 : Nat) ≤ (cl.reverse.length : Int) ∧ (cl.reverse.length : Int) < (2 : Int) ^ (62 : Nat) := by
  have := h.cl5 r7 r12 r16
  exact rng0 (by lia) (by lia)
theorem L2P.cmu (h : L2P tot ds l ws rest) (r7 : WoR s 1 [] l ws rest p1 n1 wl) (r12 : MpR gC 0 wl [] se) (r16 : CmR (rlen 0 (maxV se)) wl [] cl) (t : Tok) : (0 : Int) ≤ (cl.reverse.length : Int) ∧ (cl.reverse.length : Int) ≤ (sizeLine : Int) ∧ ([Value.int 0 t] ++ []).length * (cl.reverse.length : Int).toNat ≤ sizeLine ∧ [Value.int 0 t] ++ [] ≠ [] := by
  have := h.cl5 r7 r12 r16; have := line1k
  refine ⟨by lia, by lia, ?_, by simp⟩
  show 1 * _ ≤ _
  lia
theorem waysE {la : List Value} {S : List Int} (e : intsV la = S) (t : Tok) (k : Nat) : intsV (la ++ repV ([Value.int 0 t] ++ []) k) = S ++ zer k ∧ (la ++ repV ([Value.int 0 t] ++ []) k).length = la.length + k := by
  have e1 : intsV (la ++ repV ([Value.int 0 t] ++ []) k) = S ++ zer k := by
    rw [intsV_app, e, show [Value.int 0 t] ++ [] = [Value.int 0 t] from rfl, intsV_rep]
  refine ⟨e1, ?_⟩
  rw [List.length_append, repV_len]
  show _ + 1 * k = _
  lia
theorem L2P.cad (h : L2P tot ds l ws rest) (r7 : WoR s 1 [] l ws rest p1 n1 wl) (r12 : MpR gC 0 wl [] se) (r13 : RkR se la) (r16 : CmR (rlen 0 (maxV se)) wl [] cl) (t : Tok) : la.length + (repV ([Value.int 0 t] ++ []) (cl.reverse.length : Int).toNat).length ≤ sizeLine := by
  obtain ⟨s1, s2, s3⟩ := h.seE r7 r12
  obtain ⟨c1, c2, c3, c4⟩ := r13.facts s2 h.fig.ll h.fig.lb
  have := h.cl5 r7 r12 r16; have := h.n4
  rw [repV_len, c3]
  refine le1k (b := 10) ?_
  show _ + 1 * _ ≤ _
  lia
theorem L2P.pq (h : L2P tot ds l ws rest) (r7 : WoR s 1 [] l ws rest p1 n1 wl) (r12 : MpR gC 0 wl [] se) (r16 : CmR (rlen 0 (maxV se)) wl [] cl) : PrP ((2 : Int) ^ (20 + (tot.fdiv 2).fmod 40).toNat) 0 (rlen 0 (cl.reverse.length : Int)) cl.reverse 8 := by
  obtain ⟨i1, i2, i3⟩ := h.clE r7 r12 r16
  have h5 := h.cl5 r7 r12 r16; have hb := bas_bd tot
  rw [rl0]
  exact ⟨⟨by lia, by lia, by lia⟩, by lia, by lia, i1, allI_bd i2 h.fig.cb, hb.1, hb.2⟩
theorem zer_bd : ∀ (k : Nat), ∀ x ∈ zer k, 0 ≤ x ∧ x ≤ 1000
  | 0, x, hx => by simp [zer] at hx
  | k + 1, x, hx => by
    rcases List.mem_cons.mp hx with rfl | hx
    · decide
    · exact zer_bd k x hx
theorem L2P.dw (h : L2P tot ds l ws rest) (r7 : WoR s 1 [] l ws rest p1 n1 wl) (r12 : MpR gC 0 wl [] se) (r13 : RkR se la) (r16 : CmR (rlen 0 (maxV se)) wl [] cl) {num : Int} (r17 : PrR ((2 : Int) ^ (20 + (tot.fdiv 2).fmod 40).toNat) 0 (rlen 0 (cl.reverse.length : Int)) cl.reverse 1 num) (t : Tok) :
    DwP ((2 : Int) ^ (20 + (tot.fdiv 2).fmod 40).toNat) (cl.reverse.length : Int) 0 (rlen 0 (cl.reverse.length : Int)) num (la ++ repV ([Value.int 0 t] ++ []) (cl.reverse.length : Int).toNat) 8 := by
  have F := h.fig
  obtain ⟨i1, i2, i3⟩ := h.clE r7 r12 r16
  obtain ⟨s1, s2, s3⟩ := h.seE r7 r12
  obtain ⟨c1, c2, c3, c4⟩ := r13.facts s2 F.ll F.lb
  have h5 := h.cl5 r7 r12 r16; have h4 := h.n4
  have en := num_eq i2 i3 (by rw [i3] at r17; exact r17)
  rw [Int.toNat_natCast]
  obtain ⟨v1, v2⟩ := waysE c2 t cl.reverse.length
  have m1 := F.m1
  rw [rl0]
  refine ⟨⟨by lia, by lia, by lia⟩, by lia, by lia, bas_pw tot, c1.app (AllInt.rep _ _), by lia, by lia, allI_bd v1 (fun x hx => ?_), ?_⟩
  · rcases List.mem_append.mp hx with hx | hx
    · exact F.lb x hx
    · exact zer_bd _ x hx
  · rw [Int.toNat_natCast, hvI_Z _ _ _ _ (by lia), v1, en, i3, F.p3, ev_hv, Int.add_zero]
end
theorem L1R.l2 {ds : List Value} (tot : Int) (h : L1R ds) : ∃ l ws rest, L2P tot ds l ws rest ∧ Rd l ws rest ∧ Lx1 rest [] [] :=
  ⟨_, _, _, ⟨h, rfl, rfl, rfl⟩, rd_txt0 _ (by rw [intsV_len]; rcases h.dl with e | e <;> lia), lx_end⟩
theorem takeS_app : ∀ (n : Nat) (l : List Stmt), takeS n l ++ dropS n l = l
  | 0, l => rfl
  | n + 1, [] => rfl
  | n + 1, s :: l => congrArg (s :: ·) (takeS_app n l)
end Mine
end
section

namespace Mine
open PySem PySem.Spec PySem.Calls PyProof.Rows PySem.W PySem.W.X PySem.Builtin.Str
noncomputable def S_l2 (W : Wd) (l : List Nat) (ws : List (List Nat)) (rest : List Nat) : Sp (BB W) :=
  let B := BB W
  { d := 150
    c := fun q => .block (dropS 3 (stmtsOf (fdAt W.w 156))) (lwEnv W.w (q.a 0) (q.a 1) (q.a 2) (q.a 3) (q.a 4) (q.a 5))
    P := fun q => L2P (q.i 0) (q.l 1) l ws rest
    pre := fun q => [((q.a 0),frameO [kv B s_script (q.t 0) (.ref (q.a 6)),kv B s_drawn (q.t 1) (.ref (q.a 7)),kv B s_total (q.t 2) (.int (q.i 0) (q.t 3))] 3),((q.a 1),⟨tCell,none,.cell none,#[]⟩),((q.a 2),⟨tCell,none,.cell none,#[]⟩),((q.a 3),⟨tCell,none,.cell none,#[]⟩),((q.a 4),⟨tCell,none,.cell none,#[]⟩),((q.a 5),⟨tCell,none,.cell none,#[]⟩),((q.a 6),listO (q.l 0) (q.t 4)),((q.a 7),listO (q.l 1) (q.t 5))]
    R := fun q e => True
    res := fun q e => .ok (.ret (.bool true))
    out := fun q e => [((q.a 6),listO (q.l 0) (q.t 4))] }
theorem l2_ok (W : Wd) (O : (BB W).Ok) (l : List Nat) (ws : List (List Nat)) (rest : List Nat) (z : Rd l ws rest) (zr : Lx1 rest [] []) (q : Lt) (hq : (S_l2 W l ws rest).P q) : SegC (BB W) 150 ((S_l2 W l ws rest).c q) ((S_l2 W l ws rest).pre q) ((S_l2 W l ws rest).post q) := by
  refine pcs_f O (stdV _) [U (S_hta W (8 + 1)) (hta_ok W O 8) on_hta,U (S_taa W (8 + 1)) (taa_ok W O 8) on_taa,U (S_ena W (8 + 1)) (ena_ok W O 8) on_ena,U (S_mla W (8 + 1)) (mla_ok W O 8) on_mla,U (S_qtf W (8 + 1)) (qtf_ok W O 8) on_qtf,U (S_ls W) (ls_ok W O) on_ls,U (S_nl W) (nl_ok W O) on_nl,U (S_wa W l ws rest) (wa_ok W O l ws rest z) on_wa,U (S_wca W (8 + 1)) (wca_ok W O 8) on_wca,U (S_gt W rest [] []) (gt_tri W O zr) on_gt,U (S_gt W [] [] []) (gt_tri W O Lx1.fin) on_gt,U (S_rk W) (rk_ok W O) on_rk,U (S_sea W (8 + 1)) (sea_ok W O 8) on_sea,U (S_prf W (8 + 1)) (prf_ok W O 8) on_prf,U (S_dvf W (8 + 1)) (dvf_ok W O 8) on_dvf,U (S_cmf W (8 + 1)) (cmf_ok W O 8) on_cmf,U (S_pq W 8) (pq_ok W O 8) on_pq,U (S_dw W 8) (dw_ok W O 8) on_dw] 2000 150 (by decide) (hp := by kernel_rfl) (hs := hx 632 0x2020010440051110c102708100104100100104000000474200400000010400bac230030130002208100104000109d0800800010800834030409c204004104004004100000009d0800400000010400a30830030c30c104c00510f0c102708100104100100104000000aa820040000001040c30c00400730820010800010431d800214e0c10270810010410010010400000010000410000410410407c33430409c204004104004004100000078001e781b0201d00075d75d0412c301c00104171c58004010c0c10170175da69a3c12c300f00004007308200108001808004100000100000005500000000000000028a0c00810000000400000400000552cb2cb2cb2cb2cb2890c034c00000030000030000030b049049cc228008a0410534dc4d30010082030409c20400410400400410000003c000f04104f3c104104104104105b00100e1c30409c20400410400400410000002c001b6c00000000001c60c000014300100000f0840c102708100104100100104000000f00038e06e0800410422052472800402430c102708100104100100104000000800030c0410420010040830400c00c31892410410800401010c10030030c4186041047001004003040200208041047742001000041702000014080542001082000502001) (is := [51])
    (fun (ρ : Rho) => let z0 : Int := rlen 0 ↑(List.length (q.l 1)); let z1 : Int := 2 ^ Int.toNat (20 + Int.fmod (Int.fdiv (q.i 0) 2) 40); let z2 := List.reverse ((ρ.2 17).l 0); ob c20 <| ob (dv2 (q.i 0)) <| ob c400 <| ob (bas_ob (q.i 0)) <| ob hq.ln <| ob hq.mp <| fun he0 : MpR (gI hgt) (0 : Int) (q.l 1) ([] : List Value) ((ρ.2 0).l 0) => ob hq.mp <| fun he1 : MpR (gS tlS) (0 : Int) (q.l 1) ([] : List Value) ((ρ.2 1).l 0) => ob hq.mp <| fun he2 : MpR (gS enS) (0 : Int) (q.l 1) ([] : List Value) ((ρ.2 2).l 0) => ob hq.rg <| ob (hq.ml he0 he1 he2) <| fun he3 : RmR (mlF ((ρ.2 0).l 0) ((ρ.2 1).l 0) ((ρ.2 2).l 0)) (0 : Int) z0 ([] : List Value) ((ρ.2 3).l 0) => ob (hq.jo he0 he1 he2 he3) <| ob (oft_rg (q.i 0)) <| ob (hq.qt he0 he1 he2 he3) <| fun he4 : QtR (rlen 0 (1 + Int.fmod (q.i 0) 2) : Int) (joinV (mS []) ((ρ.2 3).l 0)) ((ρ.2 4).s 0) => ob trivial <| fun _ : True => ob trivial <| fun _ : True => ob hq.rg <| ob (hq.wo he0 he1 he2 he3 he4) <| fun he7 : WoR ((ρ.2 4).s 0) (1 : Int) ([] : List Value) l ws rest ((ρ.2 7).i 0) ((ρ.2 7).i 1) ((ρ.2 7).l 0) => ob hq.rg <| ob (hq.wc he0 he1) <| fun he8 : RmR (wcF (1 + Int.fmod (q.i 0) 2 : Int) ((ρ.2 0).l 0) ((ρ.2 1).l 0)) (0 : Int) z0 ([] : List Value) ((ρ.2 8).l 0) => ob (A := (EqLs (eqN (ρ.1 41) ((ρ.2 7).l 0) (ρ.1 48) ((ρ.2 8).l 0)) ((ρ.2 7).l 0) ((ρ.2 8).l 0))) (hq.eq1 he0 he1 he7 he8) <| ob (hq.g1 he7) <| fun he9 : GR ((ρ.2 4).s 0) ((ρ.2 7).i 1 : Int) ⟨#[]⟩ rest [] [] ((ρ.2 9).i 0) ((ρ.2 9).i 1) ((ρ.2 9).s 0) => ob (hq.g2 he9) <| fun he10 : GR ((ρ.2 4).s 0) ((ρ.2 9).i 1 : Int) ⟨#[]⟩ [] [] [] ((ρ.2 10).i 0) ((ρ.2 10).i 1) ((ρ.2 10).s 0) => ob (A := (EqLs (eqN (ρ.1 51) ([Value.str ((ρ.2 9).s 0) ((ρ.2 9).t 2)]++([Value.str ((ρ.2 10).s 0) ((ρ.2 10).t 2)]++([Value.int ((ρ.2 10).i 1) ((ρ.2 10).t 0)]++[]))) (ρ.1 56) ([Value.str (mS []) (ρ.1 52)]++([Value.str (mS []) (ρ.1 53)]++([Value.int ((1 : Int) + ↑(List.length (q.l 1))) (ρ.1 55)]++[])))) ([Value.str ((ρ.2 9).s 0) ((ρ.2 9).t 2)]++([Value.str ((ρ.2 10).s 0) ((ρ.2 10).t 2)]++([Value.int ((ρ.2 10).i 1) ((ρ.2 10).t 0)]++[]))) ([Value.str (mS []) (ρ.1 52)]++([Value.str (mS []) (ρ.1 53)]++([Value.int ((1 : Int) + ↑(List.length (q.l 1))) (ρ.1 55)]++[]))))) (eqL3 (eqN_s (tokE he9)) (eqN_s (tokE he10)) (eqN_i (hq.lnE he7 he9 he10))) <| ob (hq.rk1 he0) <| fun he11 : RkR ((ρ.2 0).l 0) ((ρ.2 11).l 0) => ob (hq.ws2 he7) <| fun he12 : MpR (gC) (0 : Int) ((ρ.2 7).l 0) ([] : List Value) ((ρ.2 12).l 0) => ob (hq.rk2 he7 he12) <| fun he13 : RkR ((ρ.2 12).l 0) ((ρ.2 13).l 0) => ob (hq.so he7 he12) <| ob trivial <| fun _ : True => ob hq.rg <| ob (hq.pr he7 he12 (ρ.2 14).t) <| fun he14 : PrR z1 (0 : Int) z0 (intsF (ρ.2 14).t (sortZ (intsV ((ρ.2 12).l 0))) 0) (1 : Int) ((ρ.2 15).i 0) => ob hq.rg <| ob (hq.dv he0 he7 he11 he12 he13 he14) <| fun he15 : DvR ((ρ.2 16).i 0) ((ρ.2 16).i 1) => ob (A := (EqLs (eqN (ρ.1 79) ([Value.int ((ρ.2 16).i 0) ((ρ.2 16).t 0)]++([Value.int ((ρ.2 16).i 1) ((ρ.2 16).t 1)]++[])) (ρ.1 83) ([Value.int (1 : Int) (ρ.1 80)]++([Value.int (-2 : Int) (ρ.1 82)]++[]))) ([Value.int ((ρ.2 16).i 0) ((ρ.2 16).t 0)]++([Value.int ((ρ.2 16).i 1) ((ρ.2 16).t 1)]++[])) ([Value.int (1 : Int) (ρ.1 80)]++([Value.int (-2 : Int) (ρ.1 82)]++[])))) (eqL2 (eqN_i he15.x1) (eqN_i he15.y2)) <| ob (hq.mx he7 he12) <| ob (hq.mrg he7 he12) <| ob (hq.cm he7 he12) <| fun he16 : CmR (rlen 0 (maxV ((ρ.2 12).l 0)) : Int) ((ρ.2 7).l 0) ([] : List Value) ((ρ.2 17).l 0) => ob (hq.cl1 he7 he12 he16) <| ob (hq.cl2 he7 he12 he16) <| ob (hq.crg he7 he12 he16) <| ob (hq.pq he7 he12 he16) <| fun he17 : PrR z1 (0 : Int) (rlen 0 ↑(List.length z2) : Int) z2 (1 : Int) ((ρ.2 18).i 0) => ob (hq.cl2 he7 he12 he16) <| ob (hq.cmu he7 he12 he16 (ρ.1 99)) <| ob (hq.cad he7 he12 he13 he16 (ρ.1 99)) <| ob (hq.cl2 he7 he12 he16) <| ob (hq.crg he7 he12 he16) <| ob (hq.dw he7 he12 he13 he16 he17 (ρ.1 99)) <| fun he18 : ((ρ.2 19).i 0) = 1 => ob he18 <| fin (S_l2 W l ws rest) q (lt [] [] [] [] [] [] []) (trivial) :) ?_
  induction W using y_0 <;> kernel_rfl
end Mine
end
section

namespace Mine
open PySem PySem.Spec PySem.Calls PyProof.Rows PySem.W PySem.W.X PySem.Builtin.Str
noncomputable def S_lwF (W : Wd) : Sp (BB W) :=
  let B := BB W
  { d := 151
    c := fun q => .func (stmtsOf (fdAt W.w 156)) (lwEnv W.w (q.a 0) (q.a 1) (q.a 2) (q.a 3) (q.a 4) (q.a 5))
    P := fun q => L1P (q.l 0)
    pre := fun q => [((q.a 0),frameO [kv B s_script (q.t 0) (.ref (q.a 6))] 1),((q.a 1),⟨tCell,none,.cell none,#[]⟩),((q.a 2),⟨tCell,none,.cell none,#[]⟩),((q.a 3),⟨tCell,none,.cell none,#[]⟩),((q.a 4),⟨tCell,none,.cell none,#[]⟩),((q.a 5),⟨tCell,none,.cell none,#[]⟩),((q.a 6),listO (q.l 0) (q.t 1))]
    R := fun q e => True
    res := fun q e => .ok (.ret (.bool true))
    out := fun q e => [((q.a 6),listO (q.l 0) (q.t 1))] }
noncomputable def on_lwF : Code → View → Lt := fun c V => lt [(cEnv c).locals,envCell 4 (cEnv c),envCell 3 (cEnv c),envCell 2 (cEnv c),envCell 1 (cEnv c),envCell 0 (cEnv c),dA V 0 0] [kT V 0 0,eP V 6] [] [] [] [sQ V 6] []
theorem lwF_seg (W : Wd) (O : (BB W).Ok) (q : Lt) (hq : (S_lwF W).P q) : Seg (BB W) 150 (stmtsOf (fdAt W.w 156)) (lwEnv W.w (q.a 0) (q.a 1) (q.a 2) (q.a 3) (q.a 4) (q.a 5)) ((S_lwF W).pre q) ((S_lwF W).post q) := by
  have hq : L1P (q.l 0) := hq
  have z : Seg (BB W) 150 (takeS 3 (stmtsOf (fdAt W.w 156)) ++ dropS 3 (stmtsOf (fdAt W.w 156))) (lwEnv W.w (q.a 0) (q.a 1) (q.a 2) (q.a 3) (q.a 4) (q.a 5)) ((S_lwF W).pre q) ((S_lwF W).post q) := by
    by_cases hn : (q.l 0).length ≤ 0
    · refine Seg.app (l1B_ok W O q ⟨hq, hn⟩) (fun r V ⟨e, _, hr, _⟩ => hr) (fun V ⟨e, hR, _, hV⟩ => ?_)
      obtain ⟨l, ws, rest, h2, z, zr⟩ := L1R.l2 ((e.i 0)) hR
      let q2 : Lt := lt [q.a 0, q.a 1, q.a 2, q.a 3, q.a 4, q.a 5, q.a 6, e.a 0] [q.t 0, e.t 0, e.t 1, e.t 2, q.t 1, e.t 3] [e.i 0] [] [] [q.l 0, e.l 0] []
      have ev : (S_l1B W).out q e = (S_l2 W l ws rest).pre q2 := rfl
      rw [hV, ev]
      exact (l2_ok W O l ws rest z zr q2 h2).mono (Nat.le_refl _) fun r V ⟨e2, _, hr2, hV2⟩ => ⟨e2, trivial, hr2, hV2⟩
    · refine Seg.app (l1A_ok W O q ⟨hq, Nat.lt_of_not_le hn⟩) (fun r V ⟨e, _, hr, _⟩ => hr) (fun V ⟨e, hR, _, hV⟩ => ?_)
      obtain ⟨l, ws, rest, h2, z, zr⟩ := L1R.l2 ((e.i 0)) hR
      let q2 : Lt := lt [q.a 0, q.a 1, q.a 2, q.a 3, q.a 4, q.a 5, q.a 6, e.a 0] [q.t 0, e.t 0, e.t 1, e.t 2, q.t 1, e.t 3] [e.i 0] [] [] [q.l 0, e.l 0] []
      have ev : (S_l1A W).out q e = (S_l2 W l ws rest).pre q2 := rfl
      rw [hV, ev]
      exact (l2_ok W O l ws rest z zr q2 h2).mono (Nat.le_refl _) fun r V ⟨e2, _, hr2, hV2⟩ => ⟨e2, trivial, hr2, hV2⟩
  rw [takeS_app] at z
  exact z
theorem lwF_ok (W : Wd) (O : (BB W).Ok) : (S_lwF W).Ok := fun q hq => by
  refine (tri_func (lwF_seg W O q hq) (fun e V ⟨e', _, h, _⟩ => by cases h)).mono (Nat.le_refl _) fun r V ⟨f, ⟨e, hR, hr, hV⟩, h2⟩ => ⟨e, hR, ?_, hV⟩
  have hr : Except.ok f = Except.ok (Flow.ret _) := hr
  injection hr with hr
  rw [h2, hr]; rfl
noncomputable def S_lw (W : Wd) : Sp (BB W) :=
  let B := BB W
  { d := 160
    c := fun q => .call (.ref 156) ⟨[.ref (q.a 0)], []⟩
    P := fun q => L1P (q.l 0)
    pre := fun q => [((q.a 0),listO (q.l 0) (q.t 0))]
    R := fun q e => True
    res := fun q e => .ok (.ret (.bool true))
    out := fun q e => [((q.a 0),listO (q.l 0) (q.t 0))] }
theorem lw_run (W : Wd) (O : (BB W).Ok) (q : Lt) (hq : (S_lw W).P q) : At (S_lw W) 160 q := by
  refine tri_f O (stdV _) [U (S_lwF W) (lwF_ok W O) on_lwF] 2000 160 (hs := hx 15 0x10831051c00c6180001) (is := [0])
    (fun (ρ : Rho) => ob hq <| fun _ : True => fin (S_lw W) q (lt [] [] [] [] [] [] []) (trivial) :) ?_
  induction W using y_0 <;> kernel_rfl
end Mine
end
section
namespace Mine
open PySem PySem.Spec PySem.Calls PyProof.Rows PySem.W PySem.W.X
theorem ints_all {vs : List Value} {ns : List Int} (h : IntsAre vs ns) : AllInt vs ∧ vs.length = ns.length := by
  induction h with
  | nil => exact ⟨fun v hv => by simp at hv, rfl⟩
  | cons n t h ih =>
    refine ⟨fun v hv => ?_, by simp [ih.2]⟩
    rcases List.mem_cons.mp hv with rfl | hv
    · rfl
    · exact ih.1 v hv
noncomputable def popH (h : Heap) : Heap := { h with objs := h.objs.pop }
theorem popH_get {h : Heap} {b : Addr} (hb : b + 1 ≠ h.objs.size) : (popH h).get? b = h.get? b := by
  unfold popH Heap.get?
  have hb' : @HAdd.hAdd Nat Nat Nat _ b 1 ≠ h.objs.size := hb
  have : h.objs.pop[b]? = h.objs[b]? := by
    rw [Array.getElem?_pop]
    by_cases h1 : b < h.objs.size - 1
    · rw [if_pos h1]
    · rw [if_neg h1]
      have h2 : h.objs.size ≤ b := by
        rcases Nat.lt_or_ge b h.objs.size with h2 | h2
        · exact absurd (show b + 1 = h.objs.size from Nat.le_antisymm h2 (by have := Nat.le_of_not_lt h1; exact Nat.le_add_of_sub_le this)) hb
        · exact h2
      exact (Array.getElem?_eq_none h2).symm
  simp only [this]
theorem popH_last {h : Heap} {b : Addr} (hb : b + 1 = h.objs.size) : (popH h).get? b = none := by
  unfold popH Heap.get?
  have hb' : @HAdd.hAdd Nat Nat Nat _ b 1 = h.objs.size := hb
  have : h.objs.pop[b]? = none := by rw [Array.getElem?_pop, if_neg (by intro hh; have : b < h.objs.size - 1 := hh; lia)]
  simp only [this]
noncomputable def KTfree (a : Nat) : KT → Nat → Nat → Bool
  | .nil, _, _ => true
  | .node v l r, s, b => !(v.isSome && Nat.beq b a) && (KTfree a l (2 * s) (s + b) && KTfree a r (2 * s) (2 * s + b))
theorem holds_but {h h' : Heap} {a : Nat} (k : ∀ b o, b ≠ a → h.get? b = some o → h'.get? b = some o) : ∀ {t : KT} {s b : Nat}, KT.Holds h s b t → KTfree a t s b = true → KT.Holds h' s b t
  | .nil, _, _, _, _ => trivial
  | .node v l r, s, b, H, F => by
    have F : (!(v.isSome && Nat.beq b a) && (KTfree a l (2 * s) (s + b) && KTfree a r (2 * s) (2 * s + b))) = true := F
    rw [Bool.and_eq_true, Bool.and_eq_true] at F
    refine ⟨fun o e => k _ _ ?_ (H.1 o e), holds_but k H.2.1 F.2.1, holds_but k H.2.2 F.2.2⟩
    subst e
    intro hb
    subst hb
    have := F.1
    rw [Nat.beq_refl] at this
    simp at this
noncomputable def obAt (w : World) (a : Addr) : Obj := ((ktw w).get a).getD ⟨.none, none, .plain, #[]⟩
theorem room160 : Room callerA 160 := ⟨rfl, by decide, by decide⟩
theorem law_call (w : World) (s₁ : Shared) (vs : List Value) (ns : List Int) (ZH : KT.Holds s₁.heap 1 0 (Mine.hd.ktop_311 w.params)) (lim : s₁.heap.NoLimit) (hg : s₁.gens = #[]) (hsz : s₁.heap.objs.size = 158) (hol : s₁.heap.get? 157 = some { cls := .type "list", data := .seq vs.toArray }) (hI : IntsAre vs ns) (h63 : ns.length ≤ 63) :
    codeAny (model PySem.Challenge.pw_pw0018_02 w) callerA (.call (.ref 156) ⟨[.ref 157], []⟩) (fun r s' => r = .ok (.ret (.bool true)) ∧ OldK s₁.heap s'.heap ∧ s'.os = s₁.os ∧ s'.gens = s₁.gens) s₁ := by
  have back : ∀ b o, b ≠ 157 → s₁.heap.get? b = some o → (popH s₁.heap).get? b = some o := fun b o hb e => by
    rw [popH_get (fun h => hb (by have h : @HAdd.hAdd Nat Nat Nat _ b 1 = _ := h; rw [hsz] at h; exact Nat.succ.inj h))]; exact e
  have fwd : ∀ b o, (popH s₁.heap).get? b = some o → s₁.heap.get? b = some o := fun b o e => by
    by_cases hb : b = 157
    · subst hb; rw [popH_last hsz.symm] at e; cases e
    · rw [popH_get (fun h => hb (by have h : @HAdd.hAdd Nat Nat Nat _ b 1 = _ := h; rw [hsz] at h; exact Nat.succ.inj h))] at e; exact e
  let W : Wd := ⟨w, popH s₁.heap, w.params.followText rowA, w.params.followText rowB, s₁.gens, s₁.drawn, s₁.os⟩
  have ZP : KT.Holds (popH s₁.heap) 1 0 (Mine.hd.ktop_311 w.params) := holds_but (a := 157) back ZH (by kernel_rfl)
  have O : (BB W).Ok := by
    refine ⟨ZP, rfl, rfl, ?_, ⟨by show cStatics ∉ []; simp, ?_⟩⟩
    · obtain ⟨mc, ⟨o, es, ep, ho, r⟩, hm⟩ := lim
      exact ⟨mc, ⟨o, es, ep, back _ _ (by decide) ho, r⟩, hm⟩
    · intro t ht
      have ht : t ∈ [tS, tI, tD] := ht
      simp only [List.mem_cons, List.not_mem_nil, or_false] at ht
      rcases ht with rfl | rfl | rfl <;> decide
  let q : Lt := lt [157] [0] [] [] [] [vs] []
  have hP : (S_lw W).P q := ⟨(ints_all hI).1, by have := (ints_all hI).2; show vs.length ≤ 63; lia⟩
  have tab : ∀ t : Tab, (Mine.hd.ktop_311 w.params).get t.addr = some (tableObj #[]) → TabOk s₁.heap t := fun t e => ⟨[], .inl rfl, by
    have z := KT.Holds.get ZH e
    rw [Nat.one_mul, Nat.add_zero] at z
    rw [z]
    cases t with
    | mk a ms => cases ms <;> rfl, fun p hp => by simp at hp⟩
  have D : Rep (BB W) ((S_lw W).pre q) s₁ := by
    refine ⟨⟨rfl, rfl, rfl, fun b o e _ _ => fwd b o e, fun b hb => (by simp [BB, BBg] at hb), fun t ht => ?_⟩, fun p hp => ?_, ?_, fun a ha => ?_⟩
    · have ht : t ∈ [tS, tI, tD] := ht
      simp only [List.mem_cons, List.not_mem_nil, or_false] at ht
      rcases ht with rfl | rfl | rfl <;> exact tab _ (by kernel_rfl)
    · have hp : p ∈ [((157 : Addr), listO vs 0)] := hp
      simp only [List.mem_cons, List.not_mem_nil, or_false] at hp
      subst hp
      show s₁.heap.get? 157 = some (listO vs 0)
      rw [hol]
      unfold listO
      rw [tList_eq]
    · have e : excl ((S_lw W).pre q) = [157] := by
        show excl [((157 : Addr), listO vs 0)] = [157]
        rw [excl_cons, if_neg (by unfold listO; rw [tList_eq]; rw [show isCodeO _ = false from notCode_list _]; simp)]
        rfl
      rw [e]; simp
    · have e : excl ((S_lw W).pre q) = [157] := by
        show excl [((157 : Addr), listO vs 0)] = [157]
        rw [excl_cons, if_neg (by unfold listO; rw [tList_eq]; rw [show isCodeO _ = false from notCode_list _]; simp)]
        rfl
      rw [e] at ha
      have : a = 157 := by simpa using ha
      subst this
      refine ⟨.inl (popH_last hsz.symm), fun ⟨t, ht, h⟩ => ?_⟩
      have ht : t ∈ [tS, tI, tD] := ht
      simp only [List.mem_cons, List.not_mem_nil, or_false] at ht
      rcases ht with rfl | rfl | rfl <;> revert h <;> decide
  have z := lw_run W O q hP callerA s₁ room160 D
  refine codeAny_mono z ?_
  rintro r s' ⟨V', ⟨e, _, hr, hV⟩, D', x⟩
  have main : ∀ b o, s₁.heap.get? b = some o → asItWas s₁.heap s'.heap b o ∧ ∃ o', s'.heap.get? b = some o' := by
    intro b o eb
    by_cases hb : b = 157
    · subst hb
      rw [hol] at eb
      cases eb
      have m : ((157 : Addr), listO vs 0) ∈ V' := by rw [hV]; exact .head _
      have h1 : s'.heap.get? 157 = some (listO vs 0) := D'.has _ m
      have h2 : s'.heap.get? 157 = some { cls := .type "list", data := .seq vs.toArray } := by
        rw [h1]
        unfold listO
        rw [tList_eq]
      exact ⟨.inl h2, _, h2⟩
    · by_cases ht : ∀ t ∈ [tS, tI, tD], b ≠ t.addr
      · have h2 := D'.good.kept b o (back b o hb eb) (by simp [BB, BBg]) ht
        exact ⟨.inl h2, _, h2⟩
      · have ht2 : ∃ t ∈ [tS, tI, tD], b = t.addr := by
          simp only [Classical.not_forall] at ht
          obtain ⟨t, ht, hne⟩ := ht
          exact ⟨t, ht, Classical.not_not.mp hne⟩
        clear ht
        obtain ⟨t, ht, rfl⟩ := ht2
        obtain ⟨as, _, h2, _⟩ := D'.good.tabs t ht
        simp only [List.mem_cons, List.not_mem_nil, or_false] at ht
        have key : ∀ (P : Addr) (c : Addr) (o : Obj) (v : Array Value), s₁.heap.get? P = some o → (∃ c, s₁.heap.TableAt c P #[]) → s'.heap.get? P = some (tableObj v) → asItWas s₁.heap s'.heap P o ∧ ∃ o', s'.heap.get? P = some o' := fun P c o v e ⟨c', hc⟩ h => by
          have eo : o = tableObj #[] := Option.some.inj (e.symm.trans hc.2)
          subst eo
          exact ⟨.inr (.inl ⟨hc.isCodeTable, rfl, #[], v, rfl, by rw [h]; simp [tableObj]⟩), _, h⟩
        rcases ht with rfl | rfl | rfl
        · exact key _ 145 o _ eb (table_kt ZH (c := 145) (o := obAt w 145) (vs := fieldsA (obAt w 145)) (by kernel_rfl) (by kernel_rfl) (by kernel_rfl) (by kernel_rfl)) h2
        · exact key _ 75 o _ eb (table_kt ZH (c := 75) (o := obAt w 75) (vs := fieldsA (obAt w 75)) (by kernel_rfl) (by kernel_rfl) (by kernel_rfl) (by kernel_rfl)) h2
        · exact key _ 82 o _ eb (table_kt ZH (c := 82) (o := obAt w 82) (vs := fieldsA (obAt w 82)) (by kernel_rfl) (by kernel_rfl) (by kernel_rfl) (by kernel_rfl)) h2
  exact ⟨hr, ⟨fun b o eb => (main b o eb).1, fun b o eb => (main b o eb).2⟩, D'.good.os, D'.good.g⟩
end Mine
end
open Mine in
theorem PySem.Challenge.cw_pw0018_02_holds : PySem.Challenge.rw_pw0018_02.Holds := by
  exact hd_W law_call
