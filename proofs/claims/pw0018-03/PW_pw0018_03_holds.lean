import PyProof.Rows.All
import Wide.All
import OpenK.AllK
import Wide.FinOn
import KE.BitLaws
import PyProof.AutoIntG7
import Lean
import PySem.Challenge.RW_pw0018_03
set_option Elab.async false
set_option maxRecDepth 100000
set_option maxHeartbeats 0
set_option linter.all false
set_option genSizeOf false
set_option genInjectivity false
set_option bootstrap.genMatcherCode false
section
namespace Mine
open PySem PySem.Spec PySem.Calls PyProof.Rows PySem.W PySem.W.X
noncomputable abbrev View := List (Addr × Obj)
structure Tab where
  addr : Addr
  marks : List (Int × Int × Str)
structure Bs where
  prog : Program
  w : World
  h₀ : Heap
  b1 : Bool
  b2 : Bool
  kt : KT
  tabs : List Tab
  loose : List Addr
  g : Array GenState
  d : Drawn
  os : OsState
noncomputable def rowA : String := "special-get-raises"
noncomputable def rowB : String := "comprehension-iter-twice"
noncomputable def rowAn : Nat := 10139888712337904147300001983332972444938612
noncomputable def rowBn : Nat := 2510650655181157320538776789020469319833841985448949215332
noncomputable def follow (b1 b2 : Bool) (f : String → Bool) (r : String) : Bool :=
  @Bool.rec (fun _ => Bool) (@Bool.rec (fun _ => Bool) (f r) b2 (Nat.beq (S.codeS r) rowBn)) b1 (Nat.beq (S.codeS r) rowAn)
noncomputable def Bs.params (B : Bs) : Params := { B.w.params with followText := follow B.b1 B.b2 B.w.params.followText }
noncomputable def Bs.setting (B : Bs) : Setting := ⟨B.prog, B.params⟩
noncomputable def codeO (q : Str) (t : Tok) (v : Value) (rest : List Value) : Obj := { cls := .type "code", data := .fields ⟨v :: .str q t :: rest⟩ }
noncomputable def tabVals : List (Int × Int × Str) → List Addr → List Value
  | m :: ms, a :: as => .int m.1 0 :: .int m.2.1 0 :: .ref a :: tabVals ms as
  | _, _ => []
noncomputable def codeN : Nat := 1717923940
noncomputable def isCodeO (o : Obj) : Bool := match o.cls with
  | .type n => Nat.beq (S.codeS n) codeN
  | _ => false
noncomputable def excl (V : View) : List Addr := (V.filter fun p => !isCodeO p.2).map (·.1)
noncomputable def Priv (B : Bs) (a : Addr) : Prop := ∃ t ∈ B.tabs, a = t.addr
noncomputable def Own (B : Bs) (a : Addr) : Prop := (B.h₀.get? a = none ∨ a ∈ B.loose) ∧ ¬ Priv B a
noncomputable def TabOk (h : Heap) (t : Tab) : Prop := ∃ as : List Addr, (as = [] ∨ as.length = t.marks.length) ∧ h.get? t.addr = some (tableObj ⟨tabVals t.marks as⟩) ∧
  ∀ p ∈ as.zip (t.marks.map (·.2.2)), ∃ tk v rest, h.get? p.1 = some (codeO p.2 tk v rest)
structure Good (B : Bs) (s : Shared) : Prop where
  g : s.gens = B.g
  d : s.drawn = B.d
  os : s.os = B.os
  kept : ∀ b o, B.h₀.get? b = some o → b ∉ B.loose → (∀ t ∈ B.tabs, b ≠ t.addr) → s.heap.get? b = some o
  loose : ∀ b ∈ B.loose, ∃ o, s.heap.get? b = some o
  tabs : ∀ t ∈ B.tabs, TabOk s.heap t
structure Rep (B : Bs) (V : View) (s : Shared) : Prop where
  good : Good B s
  has : ∀ p ∈ V, s.heap.get? p.1 = some p.2
  nd : (excl V).Nodup
  own : ∀ a ∈ excl V, Own B a
structure Ext (B : Bs) (V V' : View) (s s' : Shared) : Prop where
  same : ∀ a o, s.heap.get? a = some o → a ∉ excl V → ¬ Priv B a → s'.heap.get? a = some o
  new : ∀ a ∈ excl V', a ∈ excl V ∨ s.heap.get? a = none
  there : ∀ a o, s.heap.get? a = some o → ∃ o', s'.heap.get? a = some o'
structure Room (A : Around) (d : Nat) : Prop where
  handled : A.handled = none
  depth : A.depth + 3 * d < recursionLimit
  units : A.units + 10 * d < cLine
structure Bs.Ok (B : Bs) : Prop where
  kt : B.kt.Holds B.h₀ 1 0
  b1 : B.w.params.followText rowA = B.b1
  b2 : B.w.params.followText rowB = B.b2
  lim : B.h₀.NoLimit
  stat : cStatics ∉ B.loose ∧ ∀ t ∈ B.tabs, cStatics ≠ t.addr
theorem rowA_code : S.codeS rowA = rowAn := by rw [← S.code_S]; decide +kernel
theorem rowB_code : S.codeS rowB = rowBn := by rw [← S.code_S]; decide +kernel
theorem codeS_inj {a b : String} (h : S.codeS a = S.codeS b) : a = b := code_inj a b (by rw [S.code_S, S.code_S]; exact h)
theorem Bs.params_eq {B : Bs} (O : B.Ok) : B.params = B.w.params := by
  unfold Bs.params
  have : follow B.b1 B.b2 B.w.params.followText = B.w.params.followText := by
    funext r
    unfold follow
    cases h : Nat.beq (S.codeS r) rowAn with
    | true =>
      have e := Nat.eq_of_beq_eq_true h
      rw [← rowA_code] at e
      rw [codeS_inj e, O.b1]
    | false =>
      cases h2 : Nat.beq (S.codeS r) rowBn with
      | true =>
        have e := Nat.eq_of_beq_eq_true h2
        rw [← rowB_code] at e
        rw [codeS_inj e, O.b2]
      | false => rfl
  rw [this]
section ext
variable {B : Bs} {V V' V'' : View} {s s' s'' : Shared}
theorem Ext.refl (V : View) (s : Shared) : Ext B V V s s := ⟨fun _ _ e _ _ => e, fun _ h => .inl h, fun a o e => ⟨o, e⟩⟩
theorem Ext.trans (x : Ext B V V' s s') (y : Ext B V' V'' s' s'') : Ext B V V'' s s'' := by
  have k1 : ∀ a o, s.heap.get? a = some o → a ∉ excl V → a ∉ excl V' := fun a o e h h' => by
    rcases x.new a h' with q | q
    · exact h q
    · rw [q] at e; cases e
  have k3 : ∀ a, s'.heap.get? a = none → s.heap.get? a = none := fun a e => by
    cases q : s.heap.get? a with
    | none => rfl
    | some o => obtain ⟨o', e'⟩ := x.there a o q; rw [e] at e'; cases e'
  refine ⟨fun a o e h hp => ?_, fun a h => ?_, fun a o e => ?_⟩
  · exact y.same a o (x.same a o e h hp) (k1 a o e h) hp
  · rcases y.new a h with q | q
    · exact x.new a q
    · exact .inr (k3 a q)
  · obtain ⟨o', e'⟩ := x.there a o e
    exact y.there a o' e'
end ext
section keep
variable {B : Bs} {s s' : Shared}
theorem TabOk.keeps {h h' : Heap} {t : Tab} (x : TabOk h t) (k : ∀ b o, h.get? b = some o → h'.get? b = some o) : TabOk h' t := by
  obtain ⟨as, h1, h2, h3⟩ := x
  exact ⟨as, h1, k _ _ h2, fun p hp => let ⟨tk, v, rest, e⟩ := h3 p hp; ⟨tk, v, rest, k _ _ e⟩⟩
theorem Good.keeps (x : Good B s) (k : ∀ b o, s.heap.get? b = some o → s'.heap.get? b = some o) (hg : s'.gens = s.gens) (hd : s'.drawn = s.drawn) (ho : s'.os = s.os) (ht : s.toks ≤ s'.toks) : Good B s' :=
  ⟨hg.trans x.g, hd.trans x.d, ho.trans x.os, fun b o e h1 h2 => k b o (x.kept b o e h1 h2), fun b h => let ⟨o, e⟩ := x.loose b h; ⟨o, k b o e⟩, fun t ht => (x.tabs t ht).keeps k⟩
theorem tableObj_inj {a b : Array Value} (h : tableObj a = tableObj b) : a = b := by
  have : (tableObj a).data = (tableObj b).data := congrArg Obj.data h
  injection this
theorem code_code : S.codeS "code" = codeN := by rw [← S.code_S]; decide +kernel
theorem isCodeO_codeO (q : Str) (t : Tok) (v : Value) (rest : List Value) : isCodeO (codeO q t v rest) = true := by
  show Nat.beq (S.codeS "code") codeN = true
  rw [code_code]; exact Nat.beq_refl _
theorem mem_excl {V : View} {p : Addr × Obj} (h : p ∈ V) (hc : isCodeO p.2 = false) : p.1 ∈ excl V := by
  unfold excl
  exact List.mem_map_of_mem (List.mem_filter.mpr ⟨h, by rw [hc]; rfl⟩)
theorem excl_mem {V : View} {a : Addr} (h : a ∈ excl V) : ∃ o, (a, o) ∈ V ∧ isCodeO o = false := by
  unfold excl at h
  obtain ⟨⟨b, o⟩, hp, rfl⟩ := List.mem_map.mp h
  have := List.mem_filter.mp hp
  refine ⟨o, this.1, ?_⟩
  have q := this.2
  simpa using q
theorem excl_append (V W : View) : excl (V ++ W) = excl V ++ excl W := by unfold excl; rw [List.filter_append, List.map_append]
theorem excl_cons (p : Addr × Obj) (V : View) : excl (p :: V) = if isCodeO p.2 = true then excl V else p.1 :: excl V := by
  unfold excl
  rw [List.filter_cons]
  cases isCodeO p.2 <;> simp
end keep
section ops
variable {B : Bs} {V : View} {s : Shared}
theorem get_none_of_size (h : Heap) : h.get? h.objs.size = none := by
  cases q : h.get? h.objs.size with
  | none => rfl
  | some o => exact absurd (Heap.lt_size q) (Nat.lt_irrefl _)
theorem Rep.fresh (x : Rep B V s) : Rep B V { s with toks := s.toks + 1 } :=
  ⟨x.good.keeps (fun _ _ e => e) rfl rfl rfl (Nat.le_succ _), x.has, x.nd, x.own⟩
theorem Rep.alloc (x : Rep B V s) {o : Obj} (hf : o.isFreed = false) :
    Rep B ((s.heap.objs.size, o) :: V) { s with heap := s.heap.push o } ∧ Ext B V ((s.heap.objs.size, o) :: V) s { s with heap := s.heap.push o } := by
  have k : ∀ b o', s.heap.get? b = some o' → (s.heap.push o).get? b = some o' := fun b o' e => Heap.get?_push_of_some o e
  have G : Good B { s with heap := s.heap.push o } := x.good.keeps k rfl rfl rfl (Nat.le_refl _)
  have no : ∀ o', s.heap.get? s.heap.objs.size = some o' → False := fun o' e => absurd (Heap.lt_size e) (Nat.lt_irrefl _)
  have hE : ∀ a ∈ excl ((s.heap.objs.size, o) :: V), a = s.heap.objs.size ∨ a ∈ excl V := fun a h => by
    rw [excl_cons] at h
    split at h
    · exact .inr h
    · exact List.mem_cons.mp h
  refine ⟨⟨G, ?_, ?_, ?_⟩, ⟨fun a o' e _ _ => k a o' e, ?_, fun a o' e => ⟨o', k a o' e⟩⟩⟩
  · intro p hp
    rcases List.mem_cons.mp hp with rfl | hp
    · exact Heap.get?_push_size _ hf
    · exact k _ _ (x.has p hp)
  · rw [excl_cons]
    split
    · exact x.nd
    · rw [List.nodup_cons]
      refine ⟨fun hm => ?_, x.nd⟩
      obtain ⟨o', ho', _⟩ := excl_mem hm
      exact no _ (x.has _ ho')
  · intro a ha
    rcases hE a ha with rfl | ha
    · refine ⟨?_, fun ⟨t, ht, e⟩ => ?_⟩
      · cases q : B.h₀.get? s.heap.objs.size with
        | none => exact .inl rfl
        | some o' =>
          by_cases hl : s.heap.objs.size ∈ B.loose
          · exact .inr hl
          · by_cases ht : ∀ t ∈ B.tabs, s.heap.objs.size ≠ t.addr
            · exact (no _ (x.good.kept _ _ q hl ht)).elim
            · simp only [Classical.not_forall] at ht
              obtain ⟨t, ht, hne⟩ := ht
              have e : s.heap.objs.size = t.addr := Classical.not_not.mp hne
              obtain ⟨as, _, e2, _⟩ := x.good.tabs t ht
              rw [← e] at e2
              exact (no _ e2).elim
      · obtain ⟨as, _, e2, _⟩ := x.good.tabs t ht
        have e : s.heap.objs.size = t.addr := e
        rw [← e] at e2
        exact no _ e2
    · exact x.own a ha
  · intro a ha
    rcases hE a ha with rfl | ha
    · exact .inr (get_none_of_size _)
    · exact .inl ha
theorem excl_set {V : View} {i : Nat} {a : Addr} {o o' : Obj} (hi : V[i]? = some (a, o)) (h : isCodeO o = false) (h' : isCodeO o' = false) : excl (V.set i (a, o')) = excl V := by
  induction V generalizing i with
  | nil => simp at hi
  | cons p V ih =>
    cases i with
    | zero =>
      simp only [List.getElem?_cons_zero, Option.some.injEq] at hi
      subst hi
      simp only [List.set_cons_zero, excl_cons, h, h']
    | succ i =>
      simp only [List.getElem?_cons_succ] at hi
      simp only [List.set_cons_succ, excl_cons, ih hi]
theorem excl_unique {V : View} (nd : (excl V).Nodup) {a : Addr} {o o' : Obj} (h : (a, o) ∈ V) (h' : (a, o') ∈ V) (c : isCodeO o = false) (c' : isCodeO o' = false) : o = o' := by
  unfold excl at nd
  have := key_unique nd (p := (a, o)) (q := (a, o')) (List.mem_filter.mpr ⟨h, by rw [c]; rfl⟩) (List.mem_filter.mpr ⟨h', by rw [c']; rfl⟩) rfl
  exact (Prod.mk.inj this).2
theorem Rep.update (x : Rep B V s) {i : Nat} {a : Addr} {o : Obj} {f : Obj → Obj} (hi : V[i]? = some (a, o)) (hf : (f o).isFreed = false) (hc : isCodeO o = false) (hc' : isCodeO (f o) = false) :
    Rep B (V.set i (a, f o)) { s with heap := s.heap.update a f } ∧ Ext B V (V.set i (a, f o)) s { s with heap := s.heap.update a f } := by
  have hm := List.mem_of_getElem? hi
  have ho := x.has _ hm
  have hx := mem_excl hm hc
  have own := x.own _ hx
  have hs : Heap.SameBut a s.heap (s.heap.update a f) := Heap.SameBut.update ..
  have ge : (s.heap.update a f).get? a = some (f o) := Heap.get?_update_self f ho hf
  have tne : ∀ t ∈ B.tabs, t.addr ≠ a := fun t ht e => own.2 ⟨t, ht, e.symm⟩
  have em := excl_set hi hc hc'
  have cne : ∀ b o', s.heap.get? b = some o' → isCodeO o' = true → b ≠ a := by
    rintro b o' e c rfl
    have : o' = o := Option.some.inj (e.symm.trans ho)
    subst this
    rw [hc] at c; cases c
  have G : Good B { s with heap := s.heap.update a f } := by
    refine ⟨x.good.g, x.good.d, x.good.os, fun b o' e h1 h2 => ?_, fun b h => ?_, fun t ht => ?_⟩
    · have ne : b ≠ a := by
        rintro rfl
        rcases own.1 with q | q
        · rw [e] at q; cases q
        · exact h1 q
      exact (hs.2 b ne).trans (x.good.kept b o' e h1 h2)
    · by_cases hb : b = a
      · subst hb; exact ⟨_, ge⟩
      · obtain ⟨o', e⟩ := x.good.loose b h
        exact ⟨o', (hs.2 b hb).trans e⟩
    · obtain ⟨as, hl, e2, hcd⟩ := x.good.tabs t ht
      refine ⟨as, hl, (hs.2 _ (tne t ht)).trans e2, fun p hp => ?_⟩
      obtain ⟨tk, v, rest, e⟩ := hcd p hp
      exact ⟨tk, v, rest, (hs.2 _ (cne _ _ e (isCodeO_codeO ..))).trans e⟩
  have hl : i < V.length := (List.getElem?_eq_some_iff.mp hi).1
  refine ⟨⟨G, ?_, by rw [em]; exact x.nd, by rw [em]; exact x.own⟩, ⟨fun b o' e h1 _ => ?_, fun b h => .inl (by rw [em] at h; exact h), fun b o' e => ?_⟩⟩
  · intro p hp
    rcases List.mem_or_eq_of_mem_set hp with hp' | rfl
    · by_cases hpa : p.1 = a
      · cases hpc : isCodeO p.2 with
        | true => exact absurd hpa (cne p.1 p.2 (x.has p hp') hpc)
        | false =>
          have hin : (a, f o) ∈ V.set i (a, f o) := List.mem_set hl _
          have hp2 : (a, p.2) ∈ V.set i (a, f o) := by
            obtain ⟨p1, p2⟩ := p
            dsimp only at hpa
            subst hpa
            exact hp
          have := excl_unique (by rw [em]; exact x.nd) hp2 hin hpc hc'
          show (s.heap.update a f).get? p.1 = some p.2
          rw [hpa, this]; exact ge
      · exact (hs.2 _ hpa).trans (x.has p hp')
    · exact ge
  · have ne : b ≠ a := by
      rintro rfl
      exact h1 hx
    exact (hs.2 b ne).trans e
  · by_cases hb : b = a
    · subst hb; exact ⟨_, ge⟩
    · exact ⟨o', (hs.2 b hb).trans e⟩
end ops
structure Lt where
  a : Nat → Nat
  t : Nat → Nat
  i : Nat → Int
  s : Nat → Str
  v : Nat → Value
  l : Nat → List Value
  f : Nat → FuncData
inductive VC : Type 1 where
  | ff
  | eq (a b : Nat) (k : VC)
  | same {α : Type} (a b : α) (k : VC)
  | ob (A : Prop) (k : VC)
  | al (k : Nat → VC)
  | cn (P : Prop) (R : Lt → Prop) (k : Lt → VC)
  | fin (Q : Prop)
noncomputable def N (v : VC) : Prop := VC.rec (motive := fun _ => Prop) False (fun a b _ h => a = b ∧ h) (fun a b _ h => a = b ∧ h) (fun A _ h => A ∧ h) (fun _ h => ∀ t, h t) (fun P R _ h => P ∧ ∀ e, R e → h e) (fun Q => Q) v
structure Rho where
  n : Nat → Nat
  e : Nat → Lt
structure Any where
  {α : Type}
  a : α
noncomputable def Fl (v : VC) : Rho → Nat → Nat → Prop :=
  VC.rec (motive := fun _ => Rho → Nat → Nat → Prop) (fun _ _ _ => False) (fun _ _ _ h => h) (fun _ _ _ h => h)
    (fun A _ h r i j => A ∧ h r i j) (fun _ h r i j => h (r.n i) r (Nat.add i 1) j)
    (fun P R _ h r i j => P ∧ (R (r.e j) → h (r.e j) r i (Nat.add j 1))) (fun Q _ _ _ => Q) v
noncomputable def Ls (z : Bool) (v : VC) : Rho → Nat → Nat → List Any :=
  VC.rec (motive := fun _ => Rho → Nat → Nat → List Any) (fun _ _ _ => []) (fun a b _ h r i j => ⟨cond z a b⟩ :: h r i j) (fun a b _ h r i j => ⟨cond z a b⟩ :: h r i j)
    (fun _ _ h => h) (fun _ h r i j => h (r.n i) r (Nat.add i 1) j) (fun _ _ _ h r i j => h (r.e j) r i (Nat.add j 1)) (fun _ _ _ _ => []) v
theorem any_inj {α : Type} {a b : α} {l l' : List Any} (h : (⟨a⟩ :: l : List Any) = ⟨b⟩ :: l') : a = b ∧ l = l' := by
  injection h with h1 h2
  injection h1 with _ h3
  exact ⟨h3, h2⟩
theorem flat_N' (v : VC) : ∀ (r0 : Rho) (i j : Nat),
    (∀ r : Rho, (∀ k, k < i → r.n k = r0.n k) → (∀ k, k < j → r.e k = r0.e k) → Fl v r i j ∧ Ls true v r i j = Ls false v r i j) → N v := by
  induction v with
  | ff => exact fun r0 _ _ h => (h r0 (fun _ _ => rfl) (fun _ _ => rfl)).1
  | eq a b k ih => exact fun r0 i j h => ⟨(any_inj (h r0 (fun _ _ => rfl) (fun _ _ => rfl)).2).1, ih r0 i j fun r h1 h2 => ⟨(h r h1 h2).1, (any_inj (h r h1 h2).2).2⟩⟩
  | same a b k ih => exact fun r0 i j h => ⟨(any_inj (h r0 (fun _ _ => rfl) (fun _ _ => rfl)).2).1, ih r0 i j fun r h1 h2 => ⟨(h r h1 h2).1, (any_inj (h r h1 h2).2).2⟩⟩
  | ob A k ih => exact fun r0 i j h => ⟨(h r0 (fun _ _ => rfl) (fun _ _ => rfl)).1.1, ih r0 i j fun r h1 h2 => ⟨(h r h1 h2).1.2, (h r h1 h2).2⟩⟩
  | al k ih =>
    intro r0 i j h t
    refine ih t ⟨fun x => if x = i then t else r0.n x, r0.e⟩ (i + 1) j fun r h1 h2 => ?_
    have e : r.n i = t := by rw [h1 i (Nat.lt_succ_self i)]; simp
    have z := h r (fun x hx => by rw [h1 x (Nat.lt_succ_of_lt hx)]; exact if_neg (Nat.ne_of_lt hx)) h2
    have z : Fl (k (r.n i)) r (i + 1) j ∧ Ls true (k (r.n i)) r (i + 1) j = Ls false (k (r.n i)) r (i + 1) j := z
    rw [e] at z
    exact z
  | cn P R k ih =>
    intro r0 i j h
    refine ⟨(h r0 (fun _ _ => rfl) (fun _ _ => rfl)).1.1, fun e he => ?_⟩
    refine ih e ⟨r0.n, fun x => if x = j then e else r0.e x⟩ i (j + 1) fun r h1 h2 => ?_
    have q : r.e j = e := by rw [h2 j (Nat.lt_succ_self j)]; simp
    have z := h r h1 (fun x hx => by rw [h2 x (Nat.lt_succ_of_lt hx)]; exact if_neg (Nat.ne_of_lt hx))
    have z : (P ∧ (R (r.e j) → Fl (k (r.e j)) r i (j + 1))) ∧ Ls true (k (r.e j)) r i (j + 1) = Ls false (k (r.e j)) r i (j + 1) := z
    rw [q] at z
    exact ⟨z.1.2 he, z.2⟩
  | fin Q => exact fun r0 i j h => (h r0 (fun _ _ => rfl) (fun _ _ => rfl)).1
theorem flat_N {v : VC} {T : Rho → Prop} (p : ∀ r, T r) (e : (fun r => (Fl v r 0 0, Ls true v r 0 0)) = fun r => (T r, Ls false v r 0 0)) : N v := by
  refine flat_N' v ⟨fun _ => 0, fun _ => ⟨fun _ => 0, fun _ => 0, fun _ => 0, fun _ => ⟨#[]⟩, fun _ => .none, fun _ => [], fun _ => default⟩⟩ 0 0 fun r _ _ => ?_
  have z : (Fl v r 0 0, Ls true v r 0 0) = (T r, Ls false v r 0 0) := congrFun e r
  injection z with z1 z2
  exact ⟨by rw [z1]; exact p r, z2⟩
inductive Job : Type 1 where
  | tree (α : Type) (t : Sem α) (Q : Except Value α → View → List Nat → VC)
  | code (c : Code) (K : Result → View → List Nat → VC)
inductive NeedP : Nat → Job → View → Prop
noncomputable def Need (d : Nat) (j : Job) (V : View) : VC := .fin (NeedP d j V)
theorem no_need {d : Nat} {j : Job} {V : View} (h : N (Need d j V)) : False := by cases (show NeedP d j V from h)
noncomputable def Tri (B : Bs) (d : Nat) (c : Code) (pre : View) (post : Result → View → Prop) : Prop :=
  ∀ A s, Room A d → Rep B pre s → codeAny (model B.prog B.w) A c (fun r s' => ∃ V', post r V' ∧ Rep B V' s' ∧ Ext B pre V' s s') s
noncomputable abbrev AK {α : Type} (B : Bs) (V : View) (s : Shared) (K : α → View → List Nat → VC) (r : α) (s' : Shared) : Prop := ∃ V' hs', N (K r V' hs') ∧ Rep B V' s' ∧ Ext B V V' s s'
structure BCut (B : Bs) where
  id : String
  code : Nat
  d : Nat
  f : List Value → View → List Nat → (Result → View → List Nat → VC) → VC
  hid : S.codeS id = code
  ok : ∀ args V hs K, N (f args V hs K) → ∀ A s, Room A d → Rep B V s →
    codeAny (model B.prog B.w) A (.builtin id ⟨args, []⟩) (fun r s' => AK B V s K r s') s
structure Con (B : Bs) where
  d : Nat
  c : Lt → Code
  P : Lt → Prop
  pre : Lt → View
  R : Lt → Lt → Prop
  res : Lt → Lt → Result
  out : Lt → Lt → View
  ok : ∀ x, P x → Tri B d (c x) (pre x) (fun r V' => ∃ e, R x e ∧ r = res x e ∧ V' = out x e)
structure Use (B : Bs) where
  k : Con B
  on : Code → View → Lt
  key : Code → Bool := fun _ => false
  find : List (Code → View → Addr) := []
  sz : List Nat := []
theorem ob {A P : Prop} (a : A) (p : P) : A ∧ P := ⟨a, p⟩
noncomputable def den : Code → Sem Fin := PySem.W.ZFast.zw11892475500146522536 PySem.W.ZFast.tableZ
noncomputable def quietZ : Code → Bool := PySem.W.ZFast.zw17772548960776305114
theorem den_eq : denote table = den := by unfold den; rw [← PySem.W.ZFast.ze11892475500146522536, ← PySem.W.ZFast.tableZ_eq]
theorem quietZ_eq : Code.quiet = quietZ := by unfold quietZ; rw [← PySem.W.ZFast.ze17772548960776305114]
noncomputable def callerN : Nat := 35714603318786955769505017188
noncomputable def notCaller (c : Code) : Bool := match c with
  | .builtin id _ => !Nat.beq (S.codeS id) callerN
  | _ => true
theorem caller_code : S.codeS "claim.caller" = callerN := by rw [← S.code_S]; decide +kernel
noncomputable def nth : View → Nat → Option (Addr × Obj)
  | [], _ => none
  | p :: _, 0 => some p
  | _ :: l, i + 1 => nth l i
theorem nth_eq : ∀ (V : View) (i : Nat), nth V i = V[i]?
  | [], i => by simp [nth]
  | p :: l, 0 => by simp [nth]
  | p :: l, i + 1 => by simp [nth, nth_eq l i]
noncomputable def setAt : View → Nat → Addr × Obj → View
  | [], _, _ => []
  | _ :: l, 0, q => q :: l
  | p :: l, i + 1, q => p :: setAt l i q
theorem setAt_eq : ∀ (V : View) (i : Nat) (q : Addr × Obj), setAt V i q = V.set i q
  | [], i, q => by simp [setAt]
  | p :: l, 0, q => by simp [setAt]
  | p :: l, i + 1, q => by simp [setAt, setAt_eq l i q]
noncomputable def outAt : View → Nat → Option ((Addr × Obj) × View)
  | [], _ => none
  | p :: l, 0 => some (p, l)
  | p :: l, i + 1 => match outAt l i with
    | some (q, r) => some (q, p :: r)
    | none => none
noncomputable def pull : View → List Nat → Option (View × View)
  | V, [] => some ([], V)
  | V, i :: is => match outAt V i with
    | some (p, r) => match pull r is with
      | some (ps, r') => some (p :: ps, r')
      | none => none
    | none => none
theorem outAt_perm : ∀ {V : View} {i : Nat} {p : Addr × Obj} {r : View}, outAt V i = some (p, r) → V.Perm (p :: r)
  | [], _, _, _, h => by cases h
  | q :: l, 0, p, r, h => by cases h; exact List.Perm.refl _
  | q :: l, i + 1, p, r, h => by
    unfold outAt at h
    split at h
    · rename_i p' r' e
      cases h
      exact ((outAt_perm e).cons q).trans (List.Perm.swap _ _ _)
    · cases h
theorem pull_perm : ∀ {is : List Nat} {V ps r : View}, pull V is = some (ps, r) → V.Perm (ps ++ r)
  | [], V, ps, r, h => by cases h; exact List.Perm.refl _
  | i :: is, V, ps, r, h => by
    unfold pull at h
    split at h
    · rename_i p r1 e
      split at h
      · rename_i ps' r2 e'
        cases h
        exact (outAt_perm e).trans ((pull_perm e').cons p)
      · cases h
    · cases h
noncomputable def tabAt (B : Bs) (a : Addr) : Bool := B.tabs.any (fun t => Nat.beq t.addr a) || B.loose.any (fun b => Nat.beq b a)
noncomputable def topGet (B : Bs) (a : Addr) : Option Obj := match tabAt B a with
  | true => none
  | false => B.kt.get a
noncomputable def enterT (f : Addr) (args : Args) : Sem Code := do
  let o ← load f
  match o.data with
  | .func fd => do
    let compiled ← match fd.code with
      | .none => pure fd.qualname
      | c => do match ← field c 1 with
        | .str q _ => pure q
        | _ => pure fd.qualname
    let env ← newFunctionEnv fd.scope fd.globals fd.closure (← bindArgs fd args) (compiled ++ ".<locals>.") (some f) fd.code none fd.builtins
    match fd.scope.isGenerator, fd.scope.isCoroutine with
    | false, false => pure (match fd.body with | .stmts b => Code.func b env | .expr e => Code.expr e env)
    | _, _ => .unsupported "a generator"
  | _ => .unsupported "no function"
theorem iteB {α β : Type} (c : Prop) [Decidable c] (a b : Sem α) (f : α → Sem β) : (if c then a else b) >>= f = if c then a >>= f else b >>= f := by split <;> rfl
noncomputable def endC (self : Value) : Sem Unit := do
  slotLetsGo "callable_iterator.__next__" (← field self 0) fun | .builtin "callable_iterator.__next__" x => x.pos.head? == some self | _ => false
  setField self 0 .none; setField self 1 .none; setField self 2 (.bool true)
noncomputable def next1 (args : Args) : Sem (Value × Value × Value) := do
  let (self, _) ← slotArgs "__next__" 0 args
  if (← field self 2) == .bool true then rule "callable_iterator.__next__.ended"; PySem.Builtin.SmallTypes.stopIteration
  match ← (callOutOfASlot (← field self 0)).attempt with
  | .error e =>
    if !(← isInstance e (.type "StopIteration")) then throw e
    rule "callable_iterator.__next__.stop-iteration"; endC self; PySem.Builtin.SmallTypes.stopIteration
  | .ok r =>
    if (← field self 2) == .bool true then rule "callable_iterator.__next__.ended-meanwhile"; PySem.Builtin.SmallTypes.stopIteration
    return (self, ← field self 1, r)
noncomputable def next2 (self : Value) (r : Value) (b : Bool) : Sem Fin := do
  if !b then return ← ret r
  rule "callable_iterator.__next__.sentinel"; endC self; PySem.Builtin.SmallTypes.stopIteration
theorem raiseB {α β : Type} (v : Value) (f : α → Sem β) : ((raiseNew v : Sem α) >>= f) = raiseNew v := by
  unfold raiseNew
  simp only [bind_assoc]
  congr 1
  funext x
  split
  · simp only [iteB, bind_assoc]
    rfl
  · rfl
theorem stopB {α β : Type} (f : α → Sem β) : ((PySem.Builtin.SmallTypes.stopIteration : Sem α) >>= f) = PySem.Builtin.SmallTypes.stopIteration := by
  unfold PySem.Builtin.SmallTypes.stopIteration
  simp only [bind_assoc, raiseB]
theorem next_eq (args : Args) : Builtin.«callable_iterator.__next__» args = (do
    let (self, y, r) ← next1 args
    let b ← holding [r] (eqBool y r)
    next2 self r b) := by
  unfold next1 Builtin.«callable_iterator.__next__» next2
  simp only [bind_assoc, pure_bind]
  congr 1
  funext sr
  obtain ⟨self, rest⟩ := sr
  dsimp only
  congr 1
  funext v2
  split
  · simp only [bind_assoc, stopB]
  · simp only [bind_assoc]
    congr 1
    funext v3
    congr 1
    funext v4
    cases v4 with
    | error e =>
      dsimp only
      simp only [bind_assoc]
      congr 1
      funext b
      split <;> simp only [bind_assoc, stopB] <;> rfl
    | ok r =>
      dsimp only
      simp only [bind_assoc]
      congr 1
      funext v5
      split
      · simp only [bind_assoc, stopB]
      · simp only [bind_assoc, pure_bind]
        rfl
structure It where
  self : Value
  i : Int
  j : Int
  k : Int
  xs : Array Value
noncomputable def shT : Value → Tok
  | .str _ t => t
  | .int _ t => t
  | _ => 0
noncomputable def shI : Value → Int
  | .int i _ => i
  | _ => 0
noncomputable def shS : Value → Str
  | .str s _ => s
  | _ => ⟨#[]⟩
noncomputable def shA : Value → Addr
  | .ref a => a
  | _ => 0
noncomputable def shape : Nat → Value → Value
  | 0, v => v
  | 1, v => .int (shI v) (shT v)
  | 2, v => .str (shS v) (shT v)
  | _, v => .ref (shA v)
noncomputable def itemAt : List Value → Nat → Value
  | [], _ => .none
  | v :: _, 0 => v
  | _ :: l, i + 1 => itemAt l i
theorem itemAt_eq : ∀ {l : List Value} {i : Nat}, i < l.length → l[i]? = some (itemAt l i)
  | [], i, h => by simp at h
  | v :: _, 0, _ => rfl
  | _ :: l, i + 1, h => by simp at h; simpa [itemAt] using itemAt_eq h
open PySem.Builtin.SmallTypes in
noncomputable def ris1 (args : Args) : Sem It := do
  let (self, _) ← slotArgs "__next__" 0 args
  let seq ← field self 0
  if seq == .none then rule "list_iterator.__next__.ended"; stopIteration
  let .int i _ ← field self 1 | unsupported "internal:list_iterator.__next__"
  let some xs ← seqItems? seq | unsupported "internal:list_iterator.__next__"
  return ⟨self, i, 0, 0, xs⟩
open PySem.Builtin.SmallTypes in
noncomputable def ris2 (it : It) (b : Nat) : Sem Fin := match b with
  | 0 => do rule "list_iterator.__next__.end"; setField it.self 0 .none; stopIteration
  | k + 1 => do setField it.self 1 (rawInt (it.i + 1)); ret (shape k (itemAt it.xs.toList it.i.toNat))
noncomputable def risD (it : It) (b : Nat) : Prop := match b with
  | 0 => it.xs.toList.length ≤ it.i.toNat
  | k + 1 => itemAt it.xs.toList it.i.toNat = shape k (itemAt it.xs.toList it.i.toNat) ∧ it.i.toNat < it.xs.toList.length
open PySem.Builtin.SmallTypes in
noncomputable def rng1 (args : Args) : Sem It := do
  let (self, _) ← slotArgs "__next__" 0 args
  let .int v _ ← field self 0 | unsupported "internal:range_iterator.__next__"
  let .int left _ ← field self 1 | unsupported "internal:range_iterator.__next__"
  let .int step _ ← field self 2 | unsupported "internal:range_iterator.__next__"
  return ⟨self, v, left, step, #[]⟩
open PySem.Builtin.SmallTypes in
noncomputable def rng2 (it : It) (b : Nat) : Sem Fin := match b with
  | 0 => do rule "range_iterator.__next__.end"; stopIteration
  | _ + 1 => do setField it.self 0 (rawInt (it.i + it.k)); setField it.self 1 (rawInt (it.j - 1)); retInt it.i
noncomputable def rngD (it : It) (b : Nat) : Prop := match b with
  | 0 => it.j ≤ 0
  | _ + 1 => 0 < it.j
open PySem.Builtin.SmallTypes in
noncomputable def rev1 (args : Args) : Sem (Value × Int) := do
  let (self, _) ← slotArgs "__next__" 0 args
  let .int i _ ← field self 1 | unsupported "internal:list_reverseiterator.__next__"
  return (self, i)
open PySem.Builtin.SmallTypes in
noncomputable def rev1b (self : Value) : Sem (Array Value) := do
  let some xs ← seqItems? (← field self 0) | unsupported "internal:list_reverseiterator.__next__"
  return xs
open PySem.Builtin.SmallTypes in
noncomputable def rev2 (it : It) (b : Nat) : Sem Fin := match b with
  | 0 => do rule "list_reverseiterator.__next__.ended"; stopIteration
  | k + 1 => do setField it.self 1 (rawInt (it.i - 1)); ret (shape k (itemAt it.xs.toList it.i.toNat))
theorem ris_eq (args : Args) {M : Model} {A : Around} {Q : Fin → Shared → Prop} {E : Value → Shared → Prop} {s : Shared} (b : Nat) (h : wpAny M A (ris1 args) (fun it s' => risD it b ∧ wpAny M A (ris2 it b) Q E s') E s) :
    wpAny M A (Builtin.«list_iterator.__next__» args) Q E s := by
  have e : Builtin.«list_iterator.__next__» args = (ris1 args >>= fun it => match it.xs[it.i.toNat]? with
    | some x => (do setField it.self 1 (rawInt (it.i + 1)); ret x)
    | none => (do rule "list_iterator.__next__.end"; setField it.self 0 .none; PySem.Builtin.SmallTypes.stopIteration)) := by
    show Builtin.«list_iterator.__next__» args = _
    unfold ris1 Builtin.«list_iterator.__next__»
    simp only [bind_assoc]
    show (slotArgs _ _ _ >>= _) = _
    congr 1
    funext sr
    obtain ⟨self, rest⟩ := sr
    dsimp only
    congr 1
    funext v
    show (if _ then _ else _) = _
    split
    · simp only [bind_assoc, stopB]; rfl
    · simp only [bind_assoc]
      congr 1
      funext v1
      cases v1 <;> first | rfl | skip
      rename_i i tk
      simp only [bind_assoc]
      congr 1
      funext o
      cases o <;> rfl
  rw [e]
  refine wpAny_bind (wpAny_mono h (fun it s' hd => ?_) (fun _ _ x => x))
  obtain ⟨hd, hq⟩ := hd
  cases b with
  | zero =>
    have hd : it.xs.toList.length ≤ it.i.toNat := hd
    have : it.xs[it.i.toNat]? = none := by rw [← Array.getElem?_toList]; exact List.getElem?_eq_none hd
    rw [this]; exact hq
  | succ k =>
    obtain ⟨h1, h2⟩ := hd
    have : it.xs[it.i.toNat]? = some (shape k (itemAt it.xs.toList it.i.toNat)) := by rw [← Array.getElem?_toList, itemAt_eq h2, ← h1]
    rw [this]; exact hq
theorem rng_eq (args : Args) {M : Model} {A : Around} {Q : Fin → Shared → Prop} {E : Value → Shared → Prop} {s : Shared} (b : Nat) (h : wpAny M A (rng1 args) (fun it s' => rngD it b ∧ wpAny M A (rng2 it b) Q E s') E s) :
    wpAny M A (Builtin.«range_iterator.__next__» args) Q E s := by
  have e : Builtin.«range_iterator.__next__» args = (rng1 args >>= fun it => if it.j ≤ 0 then (do rule "range_iterator.__next__.end"; PySem.Builtin.SmallTypes.stopIteration) else (do setField it.self 0 (rawInt (it.i + it.k)); setField it.self 1 (rawInt (it.j - 1)); retInt it.i)) := by
    unfold rng1 Builtin.«range_iterator.__next__»
    simp only [bind_assoc]
    congr 1
    funext sr
    obtain ⟨self, rest⟩ := sr
    dsimp only
    congr 1
    funext v
    cases v <;> first | rfl | skip
    simp only [bind_assoc]
    congr 1
    funext v
    cases v <;> first | rfl | skip
    simp only [bind_assoc]
    congr 1
    funext v
    cases v <;> first | rfl | skip
    rw [pure_bind]
    dsimp only
    split
    · simp only [bind_assoc, stopB]
    · rfl
  rw [e]
  refine wpAny_bind (wpAny_mono h (fun it s' hd => ?_) (fun _ _ x => x))
  obtain ⟨hd, hq⟩ := hd
  cases b with
  | zero => rw [if_pos (show it.j ≤ 0 from hd)]; exact hq
  | succ k => rw [if_neg (by have : 0 < it.j := hd; lia)]; exact hq
theorem rev_eq (args : Args) {M : Model} {A : Around} {Q : Fin → Shared → Prop} {E : Value → Shared → Prop} {s : Shared} (b : Nat) (h : wpAny M A (rev1 args) (fun p s' => match b with
      | 0 => p.2 < 0 ∧ wpAny M A (rev2 ⟨p.1, p.2, 0, 0, #[]⟩ 0) Q E s'
      | k + 1 => ¬ p.2 < 0 ∧ wpAny M A (rev1b p.1) (fun xs s'' => (itemAt xs.toList p.2.toNat = shape k (itemAt xs.toList p.2.toNat) ∧ p.2.toNat < xs.toList.length) ∧ wpAny M A (rev2 ⟨p.1, p.2, 0, 0, xs⟩ (k + 1)) Q E s'') E s') E s) :
    wpAny M A (Builtin.«list_reverseiterator.__next__» args) Q E s := by
  have e : Builtin.«list_reverseiterator.__next__» args = (rev1 args >>= fun p => if p.2 < 0 then (do rule "list_reverseiterator.__next__.ended"; PySem.Builtin.SmallTypes.stopIteration) else rev1b p.1 >>= fun xs => (do
      if let some x := xs[p.2.toNat]? then
        setField p.1 1 (rawInt (p.2 - 1))
        return ← ret x
      rule "list_reverseiterator.__next__.list-shrank"
      setField p.1 1 (rawInt (-1)); setField p.1 0 .none
      PySem.Builtin.SmallTypes.stopIteration)) := by
    unfold rev1 rev1b Builtin.«list_reverseiterator.__next__»
    simp only [bind_assoc]
    congr 1
    funext sr
    obtain ⟨self, rest⟩ := sr
    dsimp only
    congr 1
    funext v
    cases v <;> first | rfl | skip
    rw [pure_bind]
    dsimp only
    split
    · simp only [bind_assoc, stopB]
    · congr 1
      funext v
      congr 1
      funext o
      cases o <;> rfl
  rw [e]
  refine wpAny_bind (wpAny_mono h (fun p s' hd => ?_) (fun _ _ x => x))
  cases b with
  | zero => rw [if_pos hd.1]; exact hd.2
  | succ k =>
    rw [if_neg hd.1]
    refine wpAny_bind (wpAny_mono hd.2 (fun xs s'' hx => ?_) (fun _ _ x => x))
    obtain ⟨⟨h1, h2⟩, hq⟩ := hx
    have : xs[p.2.toNat]? = some (shape k (itemAt xs.toList p.2.toNat)) := by rw [← Array.getElem?_toList, itemAt_eq h2, ← h1]
    rw [this]
    exact hq
end Mine
lay_z Mine.enterT Mine.next1 Mine.next2 Mine.ris1 Mine.ris2 Mine.rng1 Mine.rng2 Mine.rev1 Mine.rev1b Mine.rev2
namespace Mine
open PySem PySem.Spec PySem.Calls PyProof.Rows PySem.W PySem.W.X
noncomputable def enterZ : Addr → Args → Sem Code := PySem.W.ZFast.zw15130636977721438573
theorem enterZ_eq : enterT = enterZ := PySem.W.ZFast.ze15130636977721438573
noncomputable def next1Z : Args → Sem (Value × Value × Value) := PySem.W.ZFast.zw4942136393978548925
theorem next1Z_eq : next1 = next1Z := PySem.W.ZFast.ze4942136393978548925
noncomputable def next2Z : Value → Value → Bool → Sem Fin := PySem.W.ZFast.zw10483023204729893784
theorem next2Z_eq : next2 = next2Z := PySem.W.ZFast.ze10483023204729893784
noncomputable def nextN : Nat := 154871534474935724191431299575622858322749446335671712506274404
theorem next_code : S.codeS "callable_iterator.__next__" = nextN := by rw [← S.code_S]; decide +kernel
noncomputable abbrev Ih := Nat → Job → View → List Nat → VC
noncomputable def stepT (B : Bs) (ih : Ih) (d : Nat) (α : Type) (t : Sem α) (Q : Except Value α → View → List Nat → VC) (V : View) (hs : List Nat) : VC := match t with
  | .pure a => Q (.ok a) V hs
  | .raise e => Q (.error e) V hs
  | .rule _ k => ih d (.tree α (k ()) Q) V hs
  | .at _ k => ih d (.tree α (k ()) Q) V hs
  | .point _ k => ih d (.tree α (k ()) Q) V hs
  | .ask k => ih d (.tree α (k B.setting) Q) V hs
  | .fresh k => .al fun t => ih d (.tree α (k t) Q) V hs
  | .handled own k => match own with
    | false => ih d (.tree α (k none) Q) V hs
    | true => .ff
  | .load a p k => match hs with
    | [] => Need d (.tree α (.load a p k) Q) V
    | h :: hs => match h with
      | 0 => match topGet B a with
        | some o => ih d (.tree α (k o) Q) V hs
        | none => .ff
      | i + 1 => match nth V i with
        | some p => .eq a p.1 (ih d (.tree α (k p.2) Q) V hs)
        | none => .ff
  | .alloc o k => match o.isFreed with
    | true => .ff
    | false => .al fun a => ih d (.tree α (k a) Q) ((a, o) :: V) hs
  | .update a p f k => match hs with
    | [] => Need d (.tree α (.update a p f k) Q) V
    | h :: hs => match h with
      | 0 => .ff
      | i + 1 => match nth V i with
        | some p => .eq a p.1 (match (f p.2).isFreed || (isCodeO p.2 || isCodeO (f p.2)) with
          | true => .ff
          | false => ih d (.tree α (k ()) Q) (setAt V i (p.1, f p.2)) hs)
        | none => .ff
  | .call c hd _ _ k => match hd with
    | none => ih d (.code c fun r V' hs' => ih d (.tree α (k r) Q) V' hs') V hs
    | some _ => .ff
  | _ => .ff
noncomputable def ris1Z : Args → Sem It := PySem.W.ZFast.zw6225020286165621251
theorem ris1Z_eq : ris1 = ris1Z := PySem.W.ZFast.ze6225020286165621251
noncomputable def ris2Z : It → Nat → Sem Fin := PySem.W.ZFast.zw7562995381249447989
theorem ris2Z_eq : ris2 = ris2Z := PySem.W.ZFast.ze7562995381249447989
noncomputable def rng1Z : Args → Sem It := PySem.W.ZFast.zw2782919607356895642
theorem rng1Z_eq : rng1 = rng1Z := PySem.W.ZFast.ze2782919607356895642
noncomputable def rng2Z : It → Nat → Sem Fin := PySem.W.ZFast.zw11384918187423302842
theorem rng2Z_eq : rng2 = rng2Z := PySem.W.ZFast.ze11384918187423302842
noncomputable def rev1Z : Args → Sem (Value × Int) := PySem.W.ZFast.zw10278830313236568754
theorem rev1Z_eq : rev1 = rev1Z := PySem.W.ZFast.ze10278830313236568754
noncomputable def rev1bZ : Value → Sem (Array Value) := PySem.W.ZFast.zw7146684482343592202
theorem rev1bZ_eq : rev1b = rev1bZ := PySem.W.ZFast.ze7146684482343592202
noncomputable def rev2Z : It → Nat → Sem Fin := PySem.W.ZFast.zw1730110228800397476
theorem rev2Z_eq : rev2 = rev2Z := PySem.W.ZFast.ze1730110228800397476
noncomputable def risN : Nat := 36058839055461744822429329989390181918337346850548333
theorem ris_code : S.codeS "list_iterator.__next__" = risN := by rw [← S.code_S]; decide +kernel
noncomputable def rngN : Nat := 9231062798198206674541908477283886571094360729114862195
theorem rng_code : S.codeS "range_iterator.__next__" = rngN := by rw [← S.code_S]; decide +kernel
noncomputable def revN : Nat := 2598313186137443230876068262140933028618167048917384278858065557875309
theorem rev_code : S.codeS "list_reverseiterator.__next__" = revN := by rw [← S.code_S]; decide +kernel
noncomputable def finK (quiet : Code → Bool) (go : Code → View → List Nat → VC) (K : Result → View → List Nat → VC) (r : Except Value Fin) (V' : View) (hs' : List Nat) : VC := match r with
  | .ok fin => match fin with
    | .done f => K (.ok f) V' hs'
    | .again c' => match quiet c' with
      | true => go c' V' hs'
      | false => .ff
  | .error e => K (.error e) V' hs'
noncomputable def sc0 (ih : Ih) (d : Nat) (c : Code) (K : Result → View → List Nat → VC) (V : View) (hs : List Nat) : VC := match d with
  | 0 => .ff
  | d' + 1 => match notCaller c with
    | false => .ff
    | true => ih d' (.tree Fin (den c) fun r V' hs' => finK quietZ (fun c' => ih (d' + 1) (.code c' K)) K r V' hs') V hs
noncomputable def sc1 (ih : Ih) (d : Nat) (c : Code) (K : Result → View → List Nat → VC) (V : View) (hs : List Nat) : VC := match d with
  | 0 => .ff
  | d' + 1 => match c with
    | .call f args => match f with
      | .ref a => ih d' (.tree Code (enterZ a args) fun r V' hs' => match r with
        | .ok c' => ih (d' + 1) (.code c' K) V' hs'
        | .error e => K (.error e) V' hs') V hs
      | _ => .ff
    | _ => .ff
noncomputable def sc2 {B : Bs} (bc : List (BCut B)) (d : Nat) (c : Code) (K : Result → View → List Nat → VC) (V : View) (hs : List Nat) : VC := match hs with
  | [] => .ff
  | j :: hs => match bc[j]? with
    | none => .ff
    | some b => match c with
      | .builtin id args => match args with
        | ⟨pos, kw⟩ => match kw with
          | [] => match Nat.beq (S.codeS id) b.code with
            | true => match Nat.ble b.d d with
              | true => b.f pos V hs K
              | false => .ff
            | false => .ff
          | _ :: _ => .ff
      | _ => .ff
noncomputable def sc3 {B : Bs} (cs : List (Use B)) (d : Nat) (c : Code) (K : Result → View → List Nat → VC) (V : View) (hs : List Nat) : VC := match hs with
  | [] => .ff
  | j :: hs => match cs[j]? with
    | none => .ff
    | some k => match hs with
      | [] => .ff
      | m :: hs => match pull V (hs.take m) with
        | none => .ff
        | some (pulled, rest) => match Nat.ble k.k.d d with
          | false => .ff
          | true => .same c (k.k.c (k.on c pulled)) <| .same pulled (k.k.pre (k.on c pulled)) <| .cn (k.k.P (k.on c pulled)) (k.k.R (k.on c pulled)) fun e => K (k.k.res (k.on c pulled) e) (k.k.out (k.on c pulled) e ++ rest) (hs.drop m)
noncomputable def itJ (n : Nat) (F : Nat → Nat → Args → List Nat → VC) (d : Nat) (c : Code) (hs : List Nat) : VC := match hs with
  | [] => .ff
  | b :: hs => match d with
    | 0 => .ff
    | d' + 1 => match c with
      | .builtin id args => match Nat.beq (S.codeS id) n with
        | false => .ff
        | true => F d' b args hs
      | _ => .ff
theorem itJ_sound {n : Nat} {F : Nat → Nat → Args → List Nat → VC} {d : Nat} {c : Code} {hs : List Nat} (H : N (itJ n F d c hs)) : ∃ d' b hs' id args, d = d' + 1 ∧ c = .builtin id args ∧ S.codeS id = n ∧ N (F d' b args hs') := by
  cases hs with
  | nil => cases H
  | cons b hs =>
    cases d with
    | zero => cases H
    | succ d =>
      cases c <;> try (cases (show False from H))
      rename_i id args
      have H : N (match Nat.beq (S.codeS id) n with | false => .ff | true => F d b args hs) := H
      cases h : Nat.beq (S.codeS id) n with
      | false => rw [h] at H; cases H
      | true => rw [h] at H; exact ⟨d, b, hs, id, args, rfl, rfl, Nat.eq_of_beq_eq_true h, H⟩
noncomputable def bz : Nat → Bool
  | 0 => false
  | _ => true
noncomputable def eqNe (b : Nat) (x y : Str) : Prop := match b with
  | 0 => x ≠ y
  | _ => x = y
noncomputable def nxiF (ih : Ih) (K : Result → View → List Nat → VC) (V : View) (d' b : Nat) (args : Args) (hs : List Nat) : VC :=
  ih d' (.tree (Value × Value × Value) (next1Z args) fun r V1 hs1 => match r with
    | .ok x => match x.2.1 with
      | .str ys _ => match x.2.2 with
        | .str zs _ => .ob (eqNe b ys zs) <| ih d' (.tree Fin (next2Z x.1 x.2.2 (bz b)) fun r V' hs' => finK quietZ (fun c' => ih (d' + 1) (.code c' K)) K r V' hs') V1 hs1
        | _ => .ff
      | _ => .ff
    | .error e => K (.error e) V1 hs1) V hs
noncomputable def rsiF (ih : Ih) (K : Result → View → List Nat → VC) (V : View) (d' b : Nat) (args : Args) (hs : List Nat) : VC :=
  ih d' (.tree It (ris1Z args) fun r V1 hs1 => match r with
    | .ok it => .ob (risD it b) <| ih d' (.tree Fin (ris2Z it b) fun r V' hs' => finK quietZ (fun c' => ih (d' + 1) (.code c' K)) K r V' hs') V1 hs1
    | .error e => K (.error e) V1 hs1) V hs
noncomputable def rgiF (ih : Ih) (K : Result → View → List Nat → VC) (V : View) (d' b : Nat) (args : Args) (hs : List Nat) : VC :=
  ih d' (.tree It (rng1Z args) fun r V1 hs1 => match r with
    | .ok it => .ob (rngD it b) <| ih d' (.tree Fin (rng2Z it b) fun r V' hs' => finK quietZ (fun c' => ih (d' + 1) (.code c' K)) K r V' hs') V1 hs1
    | .error e => K (.error e) V1 hs1) V hs
noncomputable def rviF (ih : Ih) (K : Result → View → List Nat → VC) (V : View) (d' b : Nat) (args : Args) (hs : List Nat) : VC :=
  ih d' (.tree (Value × Int) (rev1Z args) fun r V1 hs1 => match r with
    | .ok p => match b with
      | 0 => .ob (p.2 < 0) <| ih d' (.tree Fin (rev2Z ⟨p.1, p.2, 0, 0, #[]⟩ 0) fun r V' hs' => finK quietZ (fun c' => ih (d' + 1) (.code c' K)) K r V' hs') V1 hs1
      | k + 1 => .ob (¬ p.2 < 0) <| ih d' (.tree (Array Value) (rev1bZ p.1) fun r V2 hs2 => match r with
        | .ok xs => .ob (itemAt xs.toList p.2.toNat = shape k (itemAt xs.toList p.2.toNat) ∧ p.2.toNat < xs.toList.length) <| ih d' (.tree Fin (rev2Z ⟨p.1, p.2, 0, 0, xs⟩ (k + 1)) fun r V' hs' => finK quietZ (fun c' => ih (d' + 1) (.code c' K)) K r V' hs') V2 hs2
        | .error e => K (.error e) V2 hs2) V1 hs1
    | .error e => K (.error e) V1 hs1) V hs
noncomputable def stepC (B : Bs) (bc : List (BCut B)) (cs : List (Use B)) (ih : Ih) (d : Nat) (c : Code) (K : Result → View → List Nat → VC) (V : View) (hs : List Nat) : VC := match hs with
  | [] => Need d (.code c K) V
  | h :: hs => match h with
    | 0 => sc0 ih d c K V hs
    | 1 => sc1 ih d c K V hs
    | 2 => sc2 bc d c K V hs
    | 3 => sc3 cs d c K V hs
    | 4 => itJ nextN (nxiF ih K V) d c hs
    | 5 => itJ risN (rsiF ih K V) d c hs
    | 6 => itJ rngN (rgiF ih K V) d c hs
    | _ => itJ revN (rviF ih K V) d c hs
noncomputable def run (B : Bs) (bc : List (BCut B)) (cs : List (Use B)) : Nat → Ih
  | 0 => fun _ _ _ _ => .ff
  | n + 1 => fun d job V hs => match job with
    | .tree α t Q => stepT B (run B bc cs n) d α t Q V hs
    | .code c K => stepC B bc cs (run B bc cs n) d c K V hs
noncomputable def Means (B : Bs) (A : Around) (s : Shared) (V : View) : Job → Prop
  | .tree α t Q => wpAny (model B.prog B.w) A t (fun a s' => AK B V s Q (.ok a) s') (fun e s' => AK B V s Q (.error e) s') s
  | .code c K => codeAny (model B.prog B.w) A c (fun r s' => AK B V s K r s') s
theorem dt {α : Type} {P : α → Prop} {p : Prop} [Decidable p] {a : p → α} {b : ¬ p → α} (hp : ∀ h, P (a h)) (hn : ∀ h, P (b h)) : P (dite p a b) := by
  by_cases h : p
  · rw [dif_pos h]; exact hp h
  · rw [dif_neg h]; exact hn h
theorem creation_ne (id : String) (args : Args) : id ≠ "type.__call__" → (Code.builtin id args).isCreation = false := by
  intro h
  delta Code.isCreation Code.isCreation.match_1
  exact dif_neg h
noncomputable def FrOk (id : String) (args : Args) (n : Nat) : Prop := n ≤ 3 ∧ (n = 0 ∨ guardIds.contains id = false ∧ (Code.builtin id args).isCreation = false)
theorem fr_k (s : String) (n : Nat) {id : String} {args : Args} (h : id = s) (h1 : Nat.ble n 3 = true) (h2 : guardIds.contains s = false) (h3 : s ≠ "type.__call__") : FrOk id args n := by
  subst h; exact ⟨Nat.le_of_ble_eq_true h1, .inr ⟨h2, creation_ne _ _ h3⟩⟩
theorem fr_ok (id : String) (args : Args) : FrOk id args (Code.builtin id args).frames := by
  delta Code.frames Code.frames.match_1
  iterate 9 refine dt (fun h => by subst h; exact fr_k _ _ rfl rfl (by decide +kernel) (by decide)) fun _ => ?_
  exact ⟨Nat.zero_le _, .inl rfl⟩
theorem weight_b {id : String} {args : Args} (h : id ≠ "claim.caller") : (Code.builtin id args).weight ≤ 3 ∧ (Code.builtin id args).cUnits ≤ 10 := by
  obtain ⟨h1, h2⟩ := fr_ok id args
  have hc : (Code.builtin id args).isCaller = false := by
    delta Code.isCaller Code.isCaller.match_1
    exact dif_neg h
  refine ⟨?_, show 1 + 3 * (Code.builtin id args).frames ≤ 10 by lia⟩
  unfold Code.weight
  rw [hc]
  rcases h2 with h2 | ⟨h2, h3⟩
  · rw [h2]
    cases (Code.builtin id args).isCreation <;> cases (Code.builtin id args).isGuard <;> decide
  · rw [show (Code.builtin id args).isGuard = false from h2, h3]
    exact h1
theorem weight_o {c : Code} (h : c.weight = (if c.isFrame then 1 else 0)) (h2 : c.cUnits ≤ 3 * (if c.isFrame then 1 else 0) + 1) : c.weight ≤ 3 ∧ c.cUnits ≤ 10 := by
  rw [h]
  refine ⟨?_, Nat.le_trans h2 ?_⟩ <;> cases c.isFrame <;> decide
theorem weight_le {c : Code} (h : notCaller c = true) : c.weight ≤ 3 ∧ c.cUnits ≤ 10 := by
  cases c
  case builtin id args =>
    refine weight_b fun e => ?_
    subst e
    replace h : (!Nat.beq (S.codeS "claim.caller") callerN) = true := h
    rw [caller_code] at h
    cases h
  case call => exact weight_o rfl (Nat.le_of_ble_eq_true rfl)
  all_goals exact weight_o rfl (Nat.le_succ _)
theorem Room.under {A : Around} {d : Nat} {c : Code} (x : Room A (d + 1)) (h : notCaller c = true) : Room (A.under c) d := by
  obtain ⟨h1, h2⟩ := weight_le h
  refine ⟨x.handled, ?_, ?_⟩
  · show A.depth + c.weight + 3 * d < recursionLimit
    have := x.depth
    lia
  · show A.units + c.cUnits + 10 * d < cLine
    have := x.units
    lia
theorem Room.le {A : Around} {d d' : Nat} (x : Room A d) (h : d' ≤ d) : Room A d' := ⟨x.handled, by have := x.depth; lia, by have := x.units; lia⟩
theorem Rep.top {B : Bs} (O : B.Ok) {V : View} {s : Shared} (x : Rep B V s) {a : Addr} {o : Obj} (e : topGet B a = some o) : s.heap.get? a = some o := by
  unfold topGet at e
  split at e
  · cases e
  · rename_i ht
    have z := KT.Holds.get O.kt e
    rw [Nat.one_mul, Nat.add_zero] at z
    unfold tabAt at ht
    rw [Bool.or_eq_false_iff] at ht
    refine x.good.kept a o z (fun hl => ?_) (fun t hm he => ?_)
    · have := List.any_eq_false.mp ht.2 a hl
      simp at this
    · have := List.any_eq_false.mp ht.1 t hm
      rw [he] at this
      simp at this
theorem Rep.noLimit {B : Bs} (O : B.Ok) {V : View} {s : Shared} (x : Rep B V s) : s.heap.NoLimit := by
  obtain ⟨mc, ⟨o, es, ep, ho, r⟩, hm⟩ := O.lim
  exact ⟨mc, ⟨o, es, ep, x.good.kept _ _ ho O.stat.1 O.stat.2, r⟩, hm⟩
noncomputable abbrev Eqn (v : VC) (T : Rho → Prop) : Prop := (fun r => (Fl v r 0 0, Ls true v r 0 0)) = fun r => (T r, Ls false v r 0 0)
noncomputable def codeB (fd : FuncData) (env : Env) : Code := match fd.body with
  | .stmts b => .func b env
  | .expr e => .expr e env
noncomputable def lastE (fd : FuncData) (env : Env) : Sem Code := match fd.scope.isGenerator, fd.scope.isCoroutine with
  | false, false => pure (codeB fd env)
  | _, _ => .unsupported "a generator"
noncomputable def lastC (fd : FuncData) (env : Env) : Sem Fin := do
  enterFrame
  match fd.scope.isGenerator, fd.scope.isCoroutine with
  | false, false => again (codeB fd env)
  | true, false => do ret (← newGenerator (codeB fd env) fd.name fd.qualname)
  | false, true => do ret (← newCoroutine (codeB fd env) fd.name fd.qualname)
  | true, true => do ret (← newAsyncGenerator (codeB fd env) fd.name fd.qualname)
noncomputable def envC {α : Type} (fd : FuncData) (args : Args) (f : Addr) (last : Env → Sem α) (q : Str) : Sem α := do
  last (← newFunctionEnv fd.scope fd.globals fd.closure (← bindArgs fd args) (q ++ ".<locals>.") (some f) fd.code none fd.builtins)
noncomputable def qualC {α : Type} (fd : FuncData) (k : Str → Sem α) : Sem α := match fd.code with
  | .none => k fd.qualname
  | c => do match ← field c 1 with
    | .str q _ => k q
    | _ => k fd.qualname
noncomputable def objC' {α : Type} (f : Addr) (k : FuncData → Sem α) (no : Obj → Sem α) : Sem α := do
  let o ← load f
  match o.data with
  | .func fd => k fd
  | _ => no o
theorem qualB {α : Type} (fd : FuncData) (k : Str → Sem α) : (do
    let q ← match fd.code with
      | .none => pure fd.qualname
      | c => do match ← field c 1 with
        | .str q _ => pure q
        | _ => pure fd.qualname
    k q) = qualC fd k := by
  unfold qualC
  generalize fd.code = c
  cases c <;> first | rfl | (simp only [bind_assoc]; congr 1; funext v; cases v <;> rfl)
theorem wp_qual {M : Model} {Γ : PySem.Ctx} {α β : Type} {fd : FuncData} {k : Str → Sem α} {k' : Str → Sem β} {Q : α → Pos → Shared → Prop} {E : Value → Pos → Shared → Prop} {Q' : β → Pos → Shared → Prop}
    (h : ∀ q p s, Sem.wp M Γ (k q) Q E p s → Sem.wp M Γ (k' q) Q' E p s) {p : Pos} {s : Shared} (z : Sem.wp M Γ (qualC fd k) Q E p s) : Sem.wp M Γ (qualC fd k') Q' E p s := by
  unfold qualC at z ⊢
  generalize fd.code = c at z ⊢
  cases c <;> first | exact h _ _ _ z | (
    dsimp only at z ⊢
    rw [Sem.wp_bind'] at z ⊢
    refine Sem.wp_mono M Γ _ (fun v p' s' z' => ?_) (fun _ _ _ x => x) _ _ z
    cases v <;> exact h _ _ _ z')
theorem enter_eq (f : Addr) (args : Args) : enterT f args = (do
  let o ← load f
  match o.data with
  | .func fd => qualC fd (envC fd args f (lastE fd))
  | _ => .unsupported "no function") := by
  unfold enterT
  congr 1
theorem call_eq (f : Addr) (fd : FuncData) (args : Args) : callFunction f fd args = qualC fd (envC fd args f (lastC fd)) := by
  unfold callFunction qualC envC lastC codeB
  generalize fd.code = c
  cases c <;> first | rfl | (congr 1; funext v; cases v <;> rfl)
theorem wp_env {M : Model} {Γ : PySem.Ctx} {α β : Type} {fd : FuncData} {args : Args} {f : Addr} {l : Env → Sem α} {l' : Env → Sem β} {Q : α → Pos → Shared → Prop} {E : Value → Pos → Shared → Prop} {Q' : β → Pos → Shared → Prop}
    (h : ∀ env p s, Sem.wp M Γ (l env) Q E p s → Sem.wp M Γ (l' env) Q' E p s) {q : Str} {p : Pos} {s : Shared} (z : Sem.wp M Γ (envC fd args f l q) Q E p s) : Sem.wp M Γ (envC fd args f l' q) Q' E p s := by
  unfold envC at z ⊢
  rw [Sem.wp_bind'] at z ⊢
  refine Sem.wp_mono M Γ _ (fun bs p' s' z' => ?_) (fun _ _ _ x => x) _ _ z
  rw [Sem.wp_bind'] at z' ⊢
  exact Sem.wp_mono M Γ _ (fun env p' s' z'' => h env p' s' z'') (fun _ _ _ x => x) _ _ z'
theorem enter_sound {prog : Program} {w : World} {A : Around} {f : Addr} {args : Args} {R : Result → Shared → Prop} {s : Shared}
    (h : wpAny (model prog w) (A.under (.call (.ref f) args)) (enterT f args) (fun c' s' => s'.heap.NoLimit ∧ codeAny (model prog w) A c' R s') (fun e s' => R (.error e) s') s)
    (hd : (A.under (.call (.ref f) args)).depth < recursionLimit) : codeAny (model prog w) A (.call (.ref f) args) R s := by
  refine codeAny_of_tree ?_
  show wpAny (model prog w) _ (callAny (.ref f) args) _ _ s
  intro Γ p hΓ
  have h := h Γ p hΓ
  rw [enter_eq, Sem.wp_bind'] at h
  unfold callAny
  rw [Sem.wp_bind']
  refine Sem.wp_mono _ Γ _ (fun o p1 s1 h1 => ?_) (fun _ _ _ x => x) p s h
  cases hfd : o.data <;> rw [hfd] at h1 <;> try (cases h1)
  rename_i fd
  dsimp only
  rw [call_eq]
  refine wp_qual (fun q p2 s2 z => wp_env (fun env p4 s4 h4 => ?_) z) h1
  unfold lastE at h4
  unfold lastC
  rw [Sem.wp_bind']
  cases hg : fd.scope.isGenerator <;> cases hc : fd.scope.isCoroutine <;> rw [hg, hc] at h4 <;> try (exact False.elim h4)
  obtain ⟨hl, h4⟩ := h4
  have := wpAny_enterFrame (M := model prog w) (A := A.under (.call (.ref f) args)) (E := fun e s' => R (.error e) s') (s := s4) (Q := fun _ s' => s' = s4) hl hd rfl Γ p4 hΓ
  refine Sem.wp_mono _ Γ _ (fun _ p5 s5 h5 => ?_) (fun _ _ _ x => x) p4 s4 this
  subst h5
  refine ⟨?_, h4⟩
  unfold codeB
  cases fd.body <;> rfl
section sound
variable {B : Bs} (O : B.Ok) {bc : List (BCut B)} {cs : List (Use B)} {ih : Ih}
  (IH : ∀ d job V hs, N (ih d job V hs) → ∀ A s, Room A d → Rep B V s → Means B A s V job)
theorem Means.from_tree {B : Bs} {A : Around} {s s' : Shared} {V V' : View} {α : Type} {t : Sem α} {Q : Except Value α → View → List Nat → VC} (E : Ext B V V' s s') (h : Means B A s' V' (.tree α t Q)) :
    wpAny (model B.prog B.w) A t (fun a s'' => AK B V s Q (.ok a) s'') (fun e s'' => AK B V s Q (.error e) s'') s' :=
  wpAny_mono h (fun a s'' ⟨V'', hs', q, r, x⟩ => ⟨V'', hs', q, r, E.trans x⟩) (fun e s'' ⟨V'', hs', q, r, x⟩ => ⟨V'', hs', q, r, E.trans x⟩)
theorem Means.from_code {B : Bs} {A : Around} {s s' : Shared} {V V' : View} {c : Code} {K : Result → View → List Nat → VC} (E : Ext B V V' s s') (h : Means B A s' V' (.code c K)) :
    codeAny (model B.prog B.w) A c (fun r s'' => AK B V s K r s'') s' :=
  codeAny_mono h (fun a s'' ⟨V'', hs', q, r, x⟩ => ⟨V'', hs', q, r, E.trans x⟩)
include O IH
theorem stepT_sound (d : Nat) (α : Type) (t : Sem α) (Q : Except Value α → View → List Nat → VC) (V : View) (hs : List Nat) (H : N (stepT B ih d α t Q V hs)) (A : Around) (s : Shared) (R : Room A d) (D : Rep B V s) : Means B A s V (.tree α t Q) := by
  cases t with
  | pure a => exact x_pure ⟨V, hs, H, D, Ext.refl V s⟩
  | raise e => exact x_raise ⟨V, hs, H, D, Ext.refl V s⟩
  | rule _ k => exact x_rule (IH _ _ _ _ H A s R D)
  | «at» _ k => exact x_at (IH _ _ _ _ H A s R D)
  | point _ k => exact x_point (IH _ _ _ _ H A s R D)
  | ask k =>
    refine x_ask ?_
    have z := IH _ _ _ _ H A s R D
    unfold Bs.setting at z
    rw [Bs.params_eq O] at z
    exact z
  | fresh k =>
    refine x_fresh ?_
    have E : Ext B V V s { s with toks := s.toks + 1 } := ⟨fun _ _ e _ _ => e, fun _ h => .inl h, fun a o e => ⟨o, e⟩⟩
    exact (IH _ _ _ _ (H s.toks) A _ R D.fresh).from_tree E
  | handled own k =>
    cases own with
    | true => cases H
    | false =>
      refine x_handled ?_
      rw [R.handled]
      exact IH _ _ _ _ H A s R D
  | load a p k =>
    cases hs with
    | nil => exact (no_need H).elim
    | cons h hs =>
      cases h with
      | zero =>
        replace H : N (match topGet B a with | some o => ih d (.tree α (k o) Q) V hs | none => .ff) := H
        cases e : topGet B a with
        | none => rw [e] at H; cases H
        | some o => rw [e] at H; exact x_load (D.top O e) (IH _ _ _ _ H A s R D)
      | succ i =>
        replace H : N (match nth V i with | some p => .eq a p.1 (ih d (.tree α (k p.2) Q) V hs) | none => .ff) := H
        cases e : nth V i with
        | none => rw [e] at H; cases H
        | some q =>
          rw [e] at H
          obtain ⟨rfl, H⟩ := H
          rw [nth_eq] at e
          exact x_load (D.has _ (List.mem_of_getElem? e)) (IH _ _ _ _ H A s R D)
  | alloc o k =>
    replace H : N (match o.isFreed with | true => .ff | false => .al fun a => ih d (.tree α (k a) Q) ((a, o) :: V) hs) := H
    cases hf : o.isFreed with
    | true => rw [hf] at H; cases H
    | false =>
      rw [hf] at H
      have z := D.alloc hf
      refine wpAny_bind (m := PySem.alloc o) (f := k) (wpAny_alloc ?_)
      exact (IH _ _ _ _ (H s.heap.objs.size) A _ R z.1).from_tree z.2
  | update a p f k =>
    cases hs with
    | nil => exact (no_need H).elim
    | cons h hs =>
      cases h with
      | zero => cases H
      | succ i =>
        replace H : N (match nth V i with | some p => .eq a p.1 (match (f p.2).isFreed || (isCodeO p.2 || isCodeO (f p.2)) with | true => .ff | false => ih d (.tree α (k ()) Q) (setAt V i (p.1, f p.2)) hs) | none => .ff) := H
        cases e : nth V i with
        | none => rw [e] at H; cases H
        | some q =>
          rw [e] at H
          obtain ⟨rfl, H⟩ := H
          cases hf : (f q.2).isFreed || (isCodeO q.2 || isCodeO (f q.2)) with
          | true => rw [hf] at H; cases H
          | false =>
            rw [hf] at H
            rw [nth_eq] at e
            rw [setAt_eq] at H
            rw [Bool.or_eq_false_iff, Bool.or_eq_false_iff] at hf
            have z := D.update (i := i) (a := q.1) (o := q.2) (f := f) e hf.1 hf.2.1 hf.2.2
            refine wpAny_bind (m := updatePart q.1 p f) (f := k) (wpAny_updatePart (D.has _ (List.mem_of_getElem? e)) ?_)
            exact (IH _ _ _ _ H A _ R z.1).from_tree z.2
  | call c hd g l k =>
    cases hd with
    | some _ => cases H
    | none =>
      refine x_call ?_ (by intro h; cases h)
      have z : codeAny (model B.prog B.w) A c _ s := IH _ _ _ _ H A s R D
      refine codeAny_mono z ?_
      rintro r s' ⟨V', hs', q, D', x⟩
      exact (IH _ _ _ _ q A s' R D').from_tree x
  | unsupported => cases H
  | finish => cases H
  | loadIfAlive => cases H
  | register => cases H
  | choose => cases H
  | os => cases H
  | newGen => cases H
  | genState => cases H
  | resume => cases H
  | yield => cases H
  | stack => cases H
  | fork => cases H
  | thread => cases H
  | await => cases H
theorem finK_sound {d : Nat} {c0 : Code} {V V1 : View} {K : Result → View → List Nat → VC} {A : Around} {s s1 : Shared} (R : Room A (d + 1)) (x1 : Ext B V V1 s s1) {t : Sem Fin}
    (z2 : Means B (A.under c0) s1 V1 (.tree Fin t fun r V' hs' => finK quietZ (fun c' => ih (d + 1) (.code c' K)) K r V' hs')) :
    wpAny (model B.prog B.w) (A.under c0) t (fun fin s' => match fin with | .done f => (fun r s' => AK B V s K r s') (.ok f) s' | .again c' => c'.quiet = true ∧ codeAny (model B.prog B.w) A c' (fun r s' => AK B V s K r s') s')
      (fun e s' => AK B V s K (.error e) s') s1 := by
  refine wpAny_mono z2 ?_ ?_
  · rintro fin s' ⟨V', hs', q', D', x'⟩
    cases fin with
    | done f => exact ⟨V', hs', q', D', x1.trans x'⟩
    | again c' =>
      unfold finK at q'
      dsimp only at q'
      split at q'
      · rename_i hq
        exact ⟨by rw [quietZ_eq]; exact hq, (IH _ _ _ _ q' A s' R D').from_code (x1.trans x')⟩
      · cases q'
  · rintro e s' ⟨V', hs', q', D', x'⟩
    exact ⟨V', hs', q', D', x1.trans x'⟩
theorem sc0_sound {d : Nat} {c : Code} {K : Result → View → List Nat → VC} {V : View} {hs : List Nat} (H : N (sc0 ih d c K V hs)) {A : Around} {s : Shared} (R : Room A d) (D : Rep B V s) : Means B A s V (.code c K) := by
  cases d with
  | zero => cases H
  | succ d =>
    have H : N (match notCaller c with | false => .ff | true => ih d (.tree Fin (den c) fun r V' hs' => finK quietZ (fun c' => ih (d + 1) (.code c' K)) K r V' hs') V hs) := H
    cases hc : notCaller c with
    | false => rw [hc] at H; cases H
    | true =>
      rw [hc] at H
      refine codeAny_of_tree ?_
      show wpAny (model B.prog B.w) _ (denote table c) _ _ s
      rw [den_eq]
      exact finK_sound O IH R (Ext.refl V s) (IH _ _ _ _ H (A.under c) s (R.under hc) D)
theorem sc1_sound {d : Nat} {c : Code} {K : Result → View → List Nat → VC} {V : View} {hs : List Nat} (H : N (sc1 ih d c K V hs)) {A : Around} {s : Shared} (R : Room A d) (D : Rep B V s) : Means B A s V (.code c K) := by
  cases d with
  | zero => cases H
  | succ d =>
    cases c <;> try (cases (show False from H))
    rename_i f args
    cases f <;> try (cases (show False from H))
    rename_i a
    have hc : notCaller (.call (.ref a) args) = true := rfl
    have RU := R.under hc
    have z := IH _ _ _ _ H (A.under (.call (.ref a) args)) s RU D
    rw [← enterZ_eq] at z
    refine enter_sound ?_ (by have := RU.depth; lia)
    refine wpAny_mono z ?_ ?_
    · rintro c' s' ⟨V', hs', q, D', x⟩
      exact ⟨D'.noLimit O, (IH _ _ _ _ q A s' R D').from_code x⟩
    · rintro e s' ⟨V', hs', q, D', x⟩
      exact ⟨V', hs', q, D', x⟩
omit IH in
theorem sc2_sound {d : Nat} {c : Code} {K : Result → View → List Nat → VC} {V : View} {hs : List Nat} (H : N (sc2 bc d c K V hs)) {A : Around} {s : Shared} (R : Room A d) (D : Rep B V s) : Means B A s V (.code c K) := by
  cases hs with
  | nil => cases H
  | cons j hs =>
    unfold sc2 at H
    dsimp only at H
    split at H
    · cases H
    · rename_i b _
      split at H
      · rename_i id args
        split at H
        · rename_i hkw
          split at H
          · rename_i he
            split at H
            · rename_i hd
              have e : id = b.id := codeS_inj ((Nat.eq_of_beq_eq_true he).trans b.hid.symm)
              subst e
              obtain ⟨pos, kw⟩ := args
              dsimp only at hkw
              subst hkw
              exact b.ok _ _ _ _ H A s (R.le (Nat.le_of_ble_eq_true hd)) D
            · cases H
          · cases H
        · cases H
      · cases H
omit IH in
theorem sc3_sound {d : Nat} {c : Code} {K : Result → View → List Nat → VC} {V : View} {hs : List Nat} (H : N (sc3 cs d c K V hs)) {A : Around} {s : Shared} (R : Room A d) (D : Rep B V s) : Means B A s V (.code c K) := by
  cases hs with
  | nil => cases H
  | cons j hs =>
    unfold sc3 at H
    dsimp only at H
    split at H
    · cases H
    · rename_i k _
      cases hs with
      | nil => cases H
      | cons m hs =>
        dsimp only at H
        split at H
        · cases H
        · rename_i pulled rest hp
          split at H
          · cases H
          · rename_i hd
            obtain ⟨hc1, hc2, hP, H⟩ := H
            generalize k.on c pulled = x at hc1 hc2 hP H
            subst hc1 hc2
            obtain ⟨k, on⟩ := k
            dsimp only at *
            have pm := pull_perm hp
            have pe : (excl V).Perm (excl (k.pre x) ++ excl rest) := by
              rw [← excl_append]
              exact (pm.filter _).map _
            have nd : (excl (k.pre x) ++ excl rest).Nodup := pe.nodup_iff.mp D.nd
            rw [List.nodup_append] at nd
            have inV : ∀ p, p ∈ k.pre x ++ rest → p ∈ V := fun p h => pm.mem_iff.mpr h
            have Dp : Rep B (k.pre x) s := ⟨D.good, fun p h => D.has p (inV p (List.mem_append_left _ h)), nd.1, fun a h => D.own a (pe.mem_iff.mpr (List.mem_append_left _ h))⟩
            refine codeAny_mono (k.ok x hP A s (R.le (Nat.le_of_ble_eq_true hd)) Dp) ?_
            rintro r s' ⟨V', ⟨e, he, rfl, rfl⟩, D', x'⟩
            have hq := H e he
            have rest_ne : ∀ p ∈ rest, p.1 ∉ excl (k.pre x) := fun p h hm => by
              cases hc : isCodeO p.2 with
              | false => exact nd.2.2 p.1 hm p.1 (mem_excl h hc) rfl
              | true =>
                obtain ⟨o, ho, hco⟩ := excl_mem hm
                have e1 := D.has _ (inV _ (List.mem_append_left _ ho))
                have e2 := D.has _ (inV _ (List.mem_append_right _ h))
                have : o = p.2 := Option.some.inj (e1.symm.trans e2)
                rw [this, hc] at hco
                cases hco
            have rest_priv : ∀ p ∈ rest, ¬ Priv B p.1 := fun p h ⟨t, ht, et⟩ => by
              cases hc : isCodeO p.2 with
              | false => exact (D.own p.1 (pe.mem_iff.mpr (List.mem_append_right _ (mem_excl h hc)))).2 ⟨t, ht, et⟩
              | true =>
                obtain ⟨as, _, e2, _⟩ := D.good.tabs t ht
                have e1 := D.has _ (inV _ (List.mem_append_right _ h))
                rw [et, e2] at e1
                have := Option.some.inj e1
                rw [← this] at hc
                cases hc
            have rest_get : ∀ p ∈ rest, s'.heap.get? p.1 = some p.2 := fun p h =>
              x'.same p.1 p.2 (D.has p (inV p (List.mem_append_right _ h))) (rest_ne p h) (rest_priv p h)
            refine ⟨_, _, hq, ⟨D'.good, ?_, ?_, ?_⟩, ?_⟩
            · intro p h
              rcases List.mem_append.mp h with h | h
              · exact D'.has p h
              · exact rest_get p h
            · rw [excl_append, List.nodup_append]
              refine ⟨D'.nd, nd.2.1, ?_⟩
              intro a ha b hb hab
              subst hab
              obtain ⟨o, hor, hoc⟩ := excl_mem hb
              rcases x'.new _ ha with q | q
              · exact rest_ne _ hor q
              · rw [D.has _ (inV _ (List.mem_append_right _ hor))] at q; cases q
            · intro a h
              rw [excl_append] at h
              rcases List.mem_append.mp h with h | h
              · exact D'.own a h
              · exact D.own a (pe.mem_iff.mpr (List.mem_append_right _ h))
            · refine ⟨fun a o ea hn hp' => x'.same a o ea (fun h => hn (pe.mem_iff.mpr (List.mem_append_left _ h))) hp', fun a ha => ?_, x'.there⟩
              rw [excl_append] at ha
              rcases List.mem_append.mp ha with h | h
              · rcases x'.new a h with q | q
                · exact .inl (pe.mem_iff.mpr (List.mem_append_left _ q))
                · exact .inr q
              · exact .inl (pe.mem_iff.mpr (List.mem_append_right _ h))
omit O IH in
theorem it_head {id : String} {n : Nat} (hn : S.codeS id = n) (hne : Nat.beq n callerN = false) {F : Nat → Nat → Args → List Nat → VC} {d : Nat} {c : Code} {hs : List Nat} (H : N (itJ n F d c hs)) {A : Around} (R : Room A d) :
    ∃ d' b hs' args, d = d' + 1 ∧ c = .builtin id args ∧ Room (A.under (.builtin id args)) d' ∧ N (F d' b args hs') := by
  obtain ⟨d', b, hs', id', args, rfl, rfl, hid, H⟩ := itJ_sound H
  have e : id' = id := codeS_inj (hid.trans hn.symm)
  subst e
  refine ⟨d', b, hs', args, rfl, rfl, R.under ?_, H⟩
  show (!Nat.beq (S.codeS id') callerN) = true
  rw [hn, hne]; rfl
theorem it4_sound {d : Nat} {c : Code} {K : Result → View → List Nat → VC} {V : View} {hs : List Nat} (H : N (itJ nextN (nxiF ih K V) d c hs)) {A : Around} {s : Shared} (R : Room A d) (D : Rep B V s) : Means B A s V (.code c K) := by
  obtain ⟨d, b, hs, args, rfl, rfl, RU, H⟩ := it_head (id := "callable_iterator.__next__") next_code (by decide +kernel) H R
  have z := IH _ _ _ _ H _ s RU D
  refine codeAny_builtin (b := Builtin.«callable_iterator.__next__») (entryFor_of_tree (by kernel_rfl)) ?_
  rw [next_eq]
  rw [← next1Z_eq] at z
  refine wpAny_bind (wpAny_mono z ?_ ?_)
  · rintro ⟨self, y, r⟩ s1 ⟨V1, hs1, q, D1, x1⟩
    dsimp only at q ⊢
    cases y <;> try (cases (show False from q))
    cases r <;> try (cases (show False from q))
    rename_i ys ty zs tz
    obtain ⟨hc, q⟩ := q
    refine wpAny_bind (wpAny_holding (wpAny_eqBool_str ?_))
    have e : decide (ys = zs) = bz b := by
      cases b with
      | zero => exact decide_eq_false hc
      | succ b => exact decide_eq_true hc
    rw [e]
    have z2 := IH _ _ _ _ q _ s1 RU D1
    rw [← next2Z_eq] at z2
    exact finK_sound O IH R x1 z2
  · rintro e s1 ⟨V1, hs1, q, D1, x1⟩
    exact ⟨V1, hs1, q, D1, x1⟩
theorem it5_sound {d : Nat} {c : Code} {K : Result → View → List Nat → VC} {V : View} {hs : List Nat} (H : N (itJ risN (rsiF ih K V) d c hs)) {A : Around} {s : Shared} (R : Room A d) (D : Rep B V s) : Means B A s V (.code c K) := by
  obtain ⟨d, b, hs, args, rfl, rfl, RU, H⟩ := it_head (id := "list_iterator.__next__") ris_code (by decide +kernel) H R
  have z := IH _ _ _ _ H _ s RU D
  refine codeAny_builtin (b := Builtin.«list_iterator.__next__») (entryFor_of_tree (by kernel_rfl)) ?_
  rw [← ris1Z_eq] at z
  refine ris_eq args b (wpAny_mono z ?_ ?_)
  · rintro it s1 ⟨V1, hs1, q, D1, x1⟩
    refine ⟨q.1, ?_⟩
    have z2 := IH _ _ _ _ q.2 _ s1 RU D1
    rw [← ris2Z_eq] at z2
    exact finK_sound O IH R x1 z2
  · rintro e s1 ⟨V1, hs1, q, D1, x1⟩
    exact ⟨V1, hs1, q, D1, x1⟩
theorem it6_sound {d : Nat} {c : Code} {K : Result → View → List Nat → VC} {V : View} {hs : List Nat} (H : N (itJ rngN (rgiF ih K V) d c hs)) {A : Around} {s : Shared} (R : Room A d) (D : Rep B V s) : Means B A s V (.code c K) := by
  obtain ⟨d, b, hs, args, rfl, rfl, RU, H⟩ := it_head (id := "range_iterator.__next__") rng_code (by decide +kernel) H R
  have z := IH _ _ _ _ H _ s RU D
  refine codeAny_builtin (b := Builtin.«range_iterator.__next__») (entryFor_of_tree (by kernel_rfl)) ?_
  rw [← rng1Z_eq] at z
  refine rng_eq args b (wpAny_mono z ?_ ?_)
  · rintro it s1 ⟨V1, hs1, q, D1, x1⟩
    refine ⟨q.1, ?_⟩
    have z2 := IH _ _ _ _ q.2 _ s1 RU D1
    rw [← rng2Z_eq] at z2
    exact finK_sound O IH R x1 z2
  · rintro e s1 ⟨V1, hs1, q, D1, x1⟩
    exact ⟨V1, hs1, q, D1, x1⟩
theorem it7_sound {d : Nat} {c : Code} {K : Result → View → List Nat → VC} {V : View} {hs : List Nat} (H : N (itJ revN (rviF ih K V) d c hs)) {A : Around} {s : Shared} (R : Room A d) (D : Rep B V s) : Means B A s V (.code c K) := by
  obtain ⟨d, b, hs, args, rfl, rfl, RU, H⟩ := it_head (id := "list_reverseiterator.__next__") rev_code (by decide +kernel) H R
  have z := IH _ _ _ _ H _ s RU D
  refine codeAny_builtin (b := Builtin.«list_reverseiterator.__next__») (entryFor_of_tree (by kernel_rfl)) ?_
  rw [← rev1Z_eq] at z
  refine rev_eq args b (wpAny_mono z ?_ ?_)
  · rintro ⟨self, i⟩ s1 ⟨V1, hs1, q, D1, x1⟩
    cases b with
    | zero =>
      refine ⟨q.1, ?_⟩
      have z2 := IH _ _ _ _ q.2 _ s1 RU D1
      rw [← rev2Z_eq] at z2
      exact finK_sound O IH R x1 z2
    | succ k =>
      refine ⟨q.1, ?_⟩
      have z2 := IH _ _ _ _ q.2 _ s1 RU D1
      rw [← rev1bZ_eq] at z2
      refine wpAny_mono z2 ?_ ?_
      · rintro xs s2 ⟨V2, hs2, q2, D2, x2⟩
        refine ⟨q2.1, ?_⟩
        have z3 := IH _ _ _ _ q2.2 _ s2 RU D2
        rw [← rev2Z_eq] at z3
        exact finK_sound O IH R (x1.trans x2) z3
      · rintro e s2 ⟨V2, hs2, q2, D2, x2⟩
        exact ⟨V2, hs2, q2, D2, x1.trans x2⟩
  · rintro e s1 ⟨V1, hs1, q, D1, x1⟩
    exact ⟨V1, hs1, q, D1, x1⟩
theorem stepC_sound (d : Nat) (c : Code) (K : Result → View → List Nat → VC) (V : View) (hs : List Nat) (H : N (stepC B bc cs ih d c K V hs)) (A : Around) (s : Shared) (R : Room A d) (D : Rep B V s) : Means B A s V (.code c K) :=
  match hs, H with
  | [], H => (no_need H).elim
  | 0 :: _, H => sc0_sound O IH H R D
  | 1 :: _, H => sc1_sound O IH H R D
  | 2 :: _, H => sc2_sound O H R D
  | 3 :: _, H => sc3_sound O H R D
  | 4 :: _, H => it4_sound O IH H R D
  | 5 :: _, H => it5_sound O IH H R D
  | 6 :: _, H => it6_sound O IH H R D
  | (_ + 7) :: _, H => it7_sound O IH H R D
end sound
theorem run_sound {B : Bs} (O : B.Ok) (bc : List (BCut B)) (cs : List (Use B)) : ∀ n d job V hs, N (run B bc cs n d job V hs) → ∀ A s, Room A d → Rep B V s → Means B A s V job
  | 0 => fun _ _ _ _ H => by cases H
  | n + 1 => fun d job V hs H A s R D => by
    cases job with
    | tree α t Q => exact stepT_sound O (run_sound O bc cs n) d α t Q V hs H A s R D
    | code c K => exact stepC_sound O (run_sound O bc cs n) d c K V hs H A s R D
end Mine
end
section
namespace Mine
open PySem PySem.Spec PySem.Calls PyProof.Rows PySem.W PySem.W.X PySem.Builtin PySem.Builtin.Str
section
variable {B : Bs} {V : View} {hs : List Nat} {K : Result → View → List Nat → VC} {A : Around} {s : Shared}
theorem gives_ok {id : String} {b : Builtin} (he : entryFor table id = some b) (hp : plainId id = true) {args : List Value} {m : Made} (g : Gives (b ⟨args, []⟩) m)
    (h : m.post (fun v s' => AK B V s K (.ok (.ret v)) s') s) :
    codeAny (model B.prog B.w) A (.builtin id ⟨args, []⟩) (fun r s' => AK B V s K r s') s :=
  codeAny_builtin he (by rw [Around.under_plainId hp]; exact g _ _ _ (fun r s' => AK B V s K r s') _ h)
theorem ext_fresh : Ext B V V s { s with toks := s.toks + 1 } := ⟨fun _ _ e _ _ => e, fun _ h => .inl h, fun a o e => ⟨o, e⟩⟩
theorem post_val (D : Rep B V s) {v : Value} (h : N (K (.ok (.ret v)) V hs)) : (Made.val v).post (fun v s' => AK B V s K (.ok (.ret v)) s') s := ⟨V, hs, h, D, Ext.refl V s⟩
theorem post_int (D : Rep B V s) {i : Int} (h : ∀ t, N (K (.ok (.ret (.int i t))) V hs)) : (Made.int i).post (fun v s' => AK B V s K (.ok (.ret v)) s') s := ⟨V, hs, h _, D.fresh, ext_fresh⟩
theorem post_str (D : Rep B V s) {x : Str} (hl : x.length ≤ sizeLine) (h : ∀ t, N (K (.ok (.ret (.str x t))) V hs)) : (Made.str x).post (fun v s' => AK B V s K (.ok (.ret v)) s') s := ⟨hl, V, hs, h _, D.fresh, ext_fresh⟩
end
noncomputable def endK (post : Result → View → Prop) (is : List Nat) : Result → View → List Nat → VC := fun r V _ => match pull V is with
  | some q => .fin (post r q.1)
  | none => .ff
theorem Rep.perm {B : Bs} {V W : View} {s : Shared} (D : Rep B V s) (p : V.Perm W) : Rep B W s := by
  have pe : (excl V).Perm (excl W) := (p.filter _).map _
  exact ⟨D.good, fun q h => D.has q (p.mem_iff.mpr h), pe.nodup_iff.mp D.nd, fun a h => D.own a (pe.mem_iff.mpr h)⟩
theorem Rep.left {B : Bs} {V W : View} {s : Shared} (D : Rep B (V ++ W) s) : Rep B V s := by
  have nd := D.nd
  rw [excl_append, List.nodup_append] at nd
  exact ⟨D.good, fun q h => D.has q (List.mem_append_left _ h), nd.1, fun a h => D.own a (by rw [excl_append]; exact List.mem_append_left _ h)⟩
theorem tri_of_run_end {B : Bs} (O : B.Ok) (bc : List (BCut B)) (cs : List (Use B)) (n d : Nat) {c : Code} {pre : View} {hs is : List Nat} {post : Result → View → Prop}
    (h : N (run B bc cs n d (.code c (endK post is)) pre hs)) : Tri B d c pre post := fun A s R D => by
  refine codeAny_mono (run_sound O bc cs n d _ pre hs h A s R D) ?_
  rintro r s' ⟨V', _, q, D', x⟩
  unfold endK at q
  split at q
  · rename_i q' e
    obtain ⟨ps, rest⟩ := q'
    have pm := pull_perm e
    refine ⟨ps, q, (D'.perm pm).left, ⟨x.same, fun a ha => x.new a ?_, x.there⟩⟩
    have pe : (excl V').Perm (excl (ps ++ rest)) := (pm.filter _).map _
    exact pe.mem_iff.mpr (by rw [excl_append]; exact List.mem_append_left _ ha)
  · cases q
theorem Tri.mono {B : Bs} {d d' : Nat} {c : Code} {pre : View} {post post' : Result → View → Prop} (h : Tri B d c pre post) (hd : d ≤ d') (hp : ∀ r V, post r V → post' r V) : Tri B d' c pre post' := fun A s R D =>
  codeAny_mono (h A s (R.le hd) D) fun r s' ⟨V', q, D', x⟩ => ⟨V', hp r V' q, D', x⟩
inductive Res where
  | val (v : Value)
  | int (i : Int)
  | str (x : Str)
noncomputable def resK (r : Res) (V : View) (hs : List Nat) (K : Result → View → List Nat → VC) : VC := match r with
  | .val v => K (.ok (.ret v)) V hs
  | .int i => .al fun t => K (.ok (.ret (.int i t))) V hs
  | .str x => .al fun t => K (.ok (.ret (.str x t))) V hs
noncomputable def pureF (F : List Value → Option (Prop × Res)) (args : List Value) (V : View) (hs : List Nat) (K : Result → View → List Nat → VC) : VC := match F args with
  | some (P, r) => .ob P <| resK r V hs K
  | none => .ff
noncomputable def pureCut (B : Bs) (id : String) (code : Nat) (b : Builtin) (F : List Value → Option (Prop × Res)) (hid : PySem.code id = code) (he : entryFor table id = some b) (hp : plainId id = true)
    (ok : ∀ args P r, F args = some (P, r) → P → ∀ (V : View) (hs : List Nat) (K : Result → View → List Nat → VC), N (resK r V hs K) → ∀ s, Rep B V s →
      ∃ m : Made, Gives (b ⟨args, []⟩) m ∧ m.post (fun v s' => AK B V s K (.ok (.ret v)) s') s) : BCut B where
  id := id
  code := code
  d := 0
  f := pureF F
  hid := by rw [← S.code_S]; exact hid
  ok := by
    intro args V hs K h A s _ D
    unfold pureF at h
    split at h
    · rename_i P r e
      obtain ⟨m, g, q⟩ := ok args P r e h.1 V hs K h.2 s D
      exact gives_ok he hp g q
    · cases h
noncomputable def F2i (P : Int → Int → Prop) (v : Bool) : List Value → Option (Prop × Res)
  | [.int a _, .int b _] => some (P a b, .val (.bool v))
  | _ => none
theorem F2i_some {P : Int → Int → Prop} {v : Bool} {args : List Value} {Q : Prop} {r : Res} (h : F2i P v args = some (Q, r)) : ∃ a t b u, args = [.int a t, .int b u] ∧ Q = P a b ∧ r = .val (.bool v) := by
  unfold F2i at h
  split at h
  · cases h; exact ⟨_, _, _, _, rfl, rfl, rfl⟩
  · cases h
noncomputable def cmpCut (B : Bs) (id : String) (code : Nat) (b : Builtin) (P : Int → Int → Prop) (v : Bool) (hid : PySem.code id = code) (he : entryFor table id = some b) (hp : plainId id = true)
    (g : ∀ x y t u, P x y → Gives (b ⟨[.int x t, .int y u], []⟩) (.val (.bool v))) : BCut B :=
  pureCut B id code b (F2i P v) hid he hp (by
    intro args Q r e hQ V hs K h s D
    obtain ⟨x, t, y, u, rfl, rfl, rfl⟩ := F2i_some e
    exact ⟨_, g x y t u hQ, post_val D h⟩)
noncomputable def F2s (P : Str → Str → Prop) (v : Bool) : List Value → Option (Prop × Res)
  | [.str a _, .str b _] => some (P a b, .val (.bool v))
  | _ => none
noncomputable def scmpCut (B : Bs) (id : String) (code : Nat) (b : Builtin) (P : Str → Str → Prop) (v : Bool) (hid : PySem.code id = code) (he : entryFor table id = some b) (hp : plainId id = true)
    (g : ∀ x y t u, P x y → Gives (b ⟨[.str x t, .str y u], []⟩) (.val (.bool v))) : BCut B :=
  pureCut B id code b (F2s P v) hid he hp (by
    intro args Q r e hQ V hs K h s D
    unfold F2s at e
    split at e
    · cases e; exact ⟨_, g _ _ _ _ hQ, post_val D h⟩
    · cases e)
noncomputable def ltT (B : Bs) : BCut B := cmpCut B "int.__lt__" 455126531311803185852266 Builtin.«int.__lt__» (· < ·) true (by decide +kernel) (entryFor_of_tree (by kernel_rfl)) (by decide +kernel) (fun x y t u h => by have := gives_int_lt x y t u; rwa [decide_eq_true h] at this)
noncomputable def ltF (B : Bs) : BCut B := cmpCut B "int.__lt__" 455126531311803185852266 Builtin.«int.__lt__» (fun a b => ¬ a < b) false (by decide +kernel) (entryFor_of_tree (by kernel_rfl)) (by decide +kernel) (fun x y t u h => by have := gives_int_lt x y t u; rwa [decide_eq_false h] at this)
noncomputable def gtT (B : Bs) : BCut B := cmpCut B "int.__gt__" 455126529904428302298986 Builtin.«int.__gt__» (· > ·) true (by decide +kernel) (entryFor_of_tree (by kernel_rfl)) (by decide +kernel) (fun x y t u h => by have := gives_int_gt x y t u; rwa [decide_eq_true h] at this)
noncomputable def gtF (B : Bs) : BCut B := cmpCut B "int.__gt__" 455126529904428302298986 Builtin.«int.__gt__» (fun a b => ¬ a > b) false (by decide +kernel) (entryFor_of_tree (by kernel_rfl)) (by decide +kernel) (fun x y t u h => by have := gives_int_gt x y t u; rwa [decide_eq_false h] at this)
noncomputable def leT (B : Bs) : BCut B := cmpCut B "int.__le__" 455125450447892616933226 Builtin.«int.__le__» (· ≤ ·) true (by decide +kernel) (entryFor_of_tree (by kernel_rfl)) (by decide +kernel) (fun x y t u h => by have := gives_int_le x y t u; rwa [decide_eq_true h] at this)
noncomputable def leF (B : Bs) : BCut B := cmpCut B "int.__le__" 455125450447892616933226 Builtin.«int.__le__» (fun a b => ¬ a ≤ b) false (by decide +kernel) (entryFor_of_tree (by kernel_rfl)) (by decide +kernel) (fun x y t u h => by have := gives_int_le x y t u; rwa [decide_eq_false h] at this)
noncomputable def geT (B : Bs) : BCut B := cmpCut B "int.__ge__" 455125449040517733379946 Builtin.«int.__ge__» (· ≥ ·) true (by decide +kernel) (entryFor_of_tree (by kernel_rfl)) (by decide +kernel) (fun x y t u h => by have := gives_int_ge x y t u; rwa [decide_eq_true h] at this)
noncomputable def geF (B : Bs) : BCut B := cmpCut B "int.__ge__" 455125449040517733379946 Builtin.«int.__ge__» (fun a b => ¬ a ≥ b) false (by decide +kernel) (entryFor_of_tree (by kernel_rfl)) (by decide +kernel) (fun x y t u h => by have := gives_int_ge x y t u; rwa [decide_eq_false h] at this)
noncomputable def eqT (B : Bs) : BCut B := cmpCut B "int.__eq__" 455126313168696235093866 Builtin.«int.__eq__» (· = ·) true (by decide +kernel) (entryFor_of_tree (by kernel_rfl)) (by decide +kernel) (fun x y t u h => by have := gives_int_eq x y t u; rwa [show (x == y) = true from by simp [h]] at this)
noncomputable def eqF (B : Bs) : BCut B := cmpCut B "int.__eq__" 455126313168696235093866 Builtin.«int.__eq__» (· ≠ ·) false (by decide +kernel) (entryFor_of_tree (by kernel_rfl)) (by decide +kernel) (fun x y t u h => by have := gives_int_eq x y t u; rwa [show (x == y) = false from by simp [h]] at this)
noncomputable def neT (B : Bs) : BCut B := cmpCut B "int.__ne__" 455125451010842570354538 Builtin.«int.__ne__» (· ≠ ·) true (by decide +kernel) (entryFor_of_tree (by kernel_rfl)) (by decide +kernel) (fun x y t u h => by have := gives_int_ne x y t u; rwa [show (x != y) = true from by simp [h]] at this)
noncomputable def neF (B : Bs) : BCut B := cmpCut B "int.__ne__" 455125451010842570354538 Builtin.«int.__ne__» (· = ·) false (by decide +kernel) (entryFor_of_tree (by kernel_rfl)) (by decide +kernel) (fun x y t u h => by have := gives_int_ne x y t u; rwa [show (x != y) = false from by simp [h]] at this)
noncomputable def seqT (B : Bs) : BCut B := scmpCut B "str.__eq__" 455126313168696234964340 Builtin.«str.__eq__» (· = ·) true (by decide +kernel) (entryFor_of_tree (by kernel_rfl)) (by decide +kernel) (fun x y t u h => by have := gives_str_eq x y t u; subst h; simpa using this)
theorem cps_ne {x y : Str} (h : x ≠ y) : (x.cps.toList == y.cps.toList) = false := by
  rw [beq_eq_false_iff_ne]
  intro e
  apply h
  cases x; cases y
  simp only [Str.mk.injEq]
  exact Array.toList_inj.mp e
noncomputable def seqF (B : Bs) : BCut B := scmpCut B "str.__eq__" 455126313168696234964340 Builtin.«str.__eq__» (· ≠ ·) false (by decide +kernel) (entryFor_of_tree (by kernel_rfl)) (by decide +kernel) (fun x y t u h => by have := gives_str_eq x y t u; rwa [cps_ne h] at this)
noncomputable def sneT (B : Bs) : BCut B := scmpCut B "str.__ne__" 455125451010842570225012 Builtin.«str.__ne__» (· ≠ ·) true (by decide +kernel) (entryFor_of_tree (by kernel_rfl)) (by decide +kernel) (fun x y t u h => by have := gives_str_ne x y t u; rwa [show (x.cps.toList != y.cps.toList) = true from by rw [bne, cps_ne h]; rfl] at this)
noncomputable def sneF (B : Bs) : BCut B := scmpCut B "str.__ne__" 455125451010842570225012 Builtin.«str.__ne__» (· = ·) false (by decide +kernel) (entryFor_of_tree (by kernel_rfl)) (by decide +kernel) (fun x y t u h => by have := gives_str_ne x y t u; subst h; simpa using this)
noncomputable def sIn (x y : Str) : Bool := !(occurrences x y 0 x.length 1).isEmpty
noncomputable def sinT (B : Bs) : BCut B := scmpCut B "str.__contains__" 128106709680535770272165659069392319860 Builtin.«str.__contains__» (fun x y => sIn x y = true) true (by decide +kernel) (entryFor_of_tree (by kernel_rfl)) (by decide +kernel) (fun x y t u h => by have := gives_str_contains x y t u; rwa [show (!(occurrences x y 0 x.length 1).isEmpty) = true from h] at this)
noncomputable def sinF (B : Bs) : BCut B := scmpCut B "str.__contains__" 128106709680535770272165659069392319860 Builtin.«str.__contains__» (fun x y => sIn x y = false) false (by decide +kernel) (entryFor_of_tree (by kernel_rfl)) (by decide +kernel) (fun x y t u h => by have := gives_str_contains x y t u; rwa [show (!(occurrences x y 0 x.length 1).isEmpty) = false from h] at this)
theorem str_empty_left {x y : Str} (h : x.length = 0) : x ++ y = y := by
  have : x = Str.empty := by
    cases x with
    | mk c => exact congrArg Str.mk (Array.eq_empty_of_size_eq_zero h)
  rw [this]; exact Str.empty_append y
noncomputable def saddF : List Value → Option (Prop × Res)
  | [.str x t, .str y u] => some ((x ++ y).length ≤ sizeLine, .str (x ++ y))
  | _ => none
noncomputable def sadd (B : Bs) : BCut B := pureCut B "str.__add__" 116512096292018843154609524 Builtin.«str.__add__» saddF (by decide +kernel) (entryFor_of_tree (by kernel_rfl)) (by decide +kernel) (by
  intro args P r e hP V hs K h s D
  unfold saddF at e
  split at e
  · rename_i x t y u
    cases e
    refine ⟨_, gives_str_add x y t u, ?_⟩
    split
    · rename_i hx
      have hx : x.length = 0 := by simpa using hx
      rw [str_empty_left hx] at h
      exact post_val D (h u)
    · split
      · rename_i hy
        have hy : y.length = 0 := by simpa using hy
        have : x ++ y = x := by
          have : y = Str.empty := by
            cases y with
            | mk c => exact congrArg Str.mk (Array.eq_empty_of_size_eq_zero hy)
          rw [this]; exact Str.append_empty x
        rw [this] at h
        exact post_val D (h t)
      · exact post_str D hP h
  · cases e)
noncomputable def part : Value → Option (Option (Int × Tok))
  | .none => some none
  | .int i t => some (some (i, t))
  | _ => none
theorem part_value {v : Value} {p : Option (Int × Tok)} (h : part v = some p) : v = partValue p := by
  cases v <;> simp [part] at h <;> subst h <;> rfl
noncomputable def sliceV (x : Str) (l u : Option (Int × Tok)) : Str := if ((slicePicked x l u none).length == x.length) = true then x else ⟨((slicePicked x l u none).filterMap (x.cps[·]?)).toArray⟩
noncomputable def sliceN : Nat := 439771360628
noncomputable def isSliceC (o : Obj) : Bool := match o.cls with
  | .type n => Nat.beq (S.codeS n) sliceN
  | _ => false
noncomputable def sliceParts (o : Obj) : Option (Option (Int × Tok) × Option (Int × Tok)) := match isSliceC o with
  | false => none
  | true => match o.data with
    | .fields arr => match arr.toList with
      | [lv, uv, sv] => match part lv with
        | none => none
        | some l => match part uv with
          | none => none
          | some u => match sv with
            | .none => some (l, u)
            | _ => none
      | _ => none
    | _ => none
noncomputable def ssliceF (args : List Value) (V : View) (hs : List Nat) (K : Result → View → List Nat → VC) : VC := match args with
  | [.str x t, .ref a] => match hs with
    | [] => .ff
    | i :: hs => match nth V i with
      | none => .ff
      | some p => match sliceParts p.2 with
        | none => .ff
        | some q => .eq a p.1 <| .ob ((sliceV x q.1 q.2).length ≤ sizeLine) <| .al fun t' => K (.ok (.ret (.str (sliceV x q.1 q.2) t'))) V hs
  | _ => .ff
theorem slice_code : S.codeS "slice" = sliceN := by rw [← S.code_S]; decide +kernel
theorem sliceParts_is {h : Heap} {a : Addr} {o : Obj} {q : Option (Int × Tok) × Option (Int × Tok)} (ho : h.get? a = some o) (e : sliceParts o = some q) : h.IsSlice a q.1 q.2 none := by
  unfold sliceParts at e
  split at e
  · cases e
  · rename_i hc
    have hcls : o.cls = .type "slice" := by
      unfold isSliceC at hc
      split at hc
      · rename_i n hn
        have := Nat.eq_of_beq_eq_true hc
        rw [← slice_code] at this
        rw [hn, codeS_inj this]
      · cases hc
    split at e
    · rename_i arr hd
      split at e
      · rename_i lv uv sv ha
        split at e
        · cases e
        · rename_i l hl
          split at e
          · cases e
          · rename_i u hu
            split at e
            · cases e
              refine ⟨o, ho, hcls, ?_⟩
              dsimp only
              rw [hd, ← part_value hl, ← part_value hu]
              congr 1
              apply Array.ext'
              exact ha
            · cases e
      · cases e
    · cases e
noncomputable def sslice (B : Bs) : BCut B where
  id := "str.__getitem__"
  code := 500416356548588640944365259017385332
  d := 0
  f := ssliceF
  hid := by rw [← S.code_S]; decide +kernel
  ok := by
    intro args V hs K h A s _ D
    unfold ssliceF at h
    split at h
    · rename_i x t a
      split at h
      · cases h
      · rename_i i hs
        split at h
        · cases h
        · rename_i p hp
          split at h
          · cases h
          · rename_i q hq
            obtain ⟨rfl, hl, h⟩ := h
            rw [nth_eq] at hp
            have his := sliceParts_is (D.has _ (List.mem_of_getElem? hp)) hq
            refine codeAny_builtin (b := Builtin.«str.__getitem__») (entryFor_of_tree (by kernel_rfl)) ?_
            rw [Around.under_plainId (by decide +kernel)]
            refine meets_str_getitem_slice x t p.1 q.1 q.2 none rfl _ _ _ (fun r s' => AK B V s K r s') _ ⟨his, ?_⟩
            unfold sliceMade
            unfold sliceV at h hl
            have e1 : (((none : Option (Int × Tok)).map (·.1)).getD 1 == (1 : Int)) = true := rfl
            rw [e1, Bool.true_and]
            split
            · rename_i hw
              rw [if_pos hw] at h
              exact post_val D (h t)
            · rename_i hw
              rw [if_neg hw] at h hl
              exact post_str D hl h
    · cases h
noncomputable def stdB (B : Bs) : List (BCut B) := [ltT B, ltF B, gtT B, gtF B, leT B, leF B, geT B, geF B, eqT B, eqF B, neT B, neF B, seqT B, seqF B, sneT B, sneF B, sinT B, sinF B, sadd B, sslice B]
theorem tri_f {B : Bs} (O : B.Ok) (bc : List (BCut B)) (cs : List (Use B)) (n d : Nat) {c : Code} {pre : View} {hs is : List Nat} {post : Result → View → Prop} {T : Rho → Prop} (p : ∀ r, T r) (e : Eqn (run B bc cs n d (.code c (endK post is)) pre hs) T) : Tri B d c pre post := tri_of_run_end O bc cs n d (flat_N p e)
end Mine
end
section
namespace Mine
open PySem PySem.Spec PySem.Calls PyProof.Rows PySem.W PySem.W.X PySem.Builtin PySem.Builtin.Int
noncomputable def Fii (P : Int → Int → Prop) (r : Int → Int → Int) : List Value → Option (Prop × Res)
  | [.int a _, .int b _] => some (P a b, .int (r a b))
  | _ => none
noncomputable def ibin (B : Bs) (id : String) (code : Nat) (b : Builtin) (P : Int → Int → Prop) (r : Int → Int → Int) (hid : PySem.code id = code) (he : entryFor table id = some b) (hp : plainId id = true)
    (g : ∀ x y t u, P x y → Gives (b ⟨[.int x t, .int y u], []⟩) (.int (r x y))) : BCut B :=
  pureCut B id code b (Fii P r) hid he hp (by
    intro args Q q e hQ V hs K h s D
    unfold Fii at e
    split at e
    · cases e; exact ⟨_, g _ _ _ _ hQ, post_int D h⟩
    · cases e)
noncomputable def imod (B : Bs) : BCut B := ibin B "int.__mod__" 116512097088030077292474218 Builtin.«int.__mod__» (fun _ b => b ≠ 0) Int.fmod (by decide +kernel) (entryFor_of_tree (by kernel_rfl)) (by decide +kernel)
  (fun x y t u h => AutoIntG6.int___mod___int_int_1 x t y u (by simpa using h))
noncomputable def ifdiv (B : Bs) : BCut B := ibin B "int.__floordiv__" 128106770130096871752080967664072486762 Builtin.«int.__floordiv__» (fun a b => b ≠ 0 ∧ Builtin.divisionGoesByPylong a b = false) Int.fdiv (by decide +kernel) (entryFor_of_tree (by kernel_rfl)) (by decide +kernel)
  (fun x y t u h => AutoIntG4.int___floordiv___int_int_1 x t y u (by simpa using h.1) (by rw [h.2]; simp))
noncomputable def imul (B : Bs) : BCut B := ibin B "int.__mul__" 116512245094328231196454762 Builtin.«int.__mul__» IntMulOk (· * ·) (by decide +kernel) (entryFor_of_tree (by kernel_rfl)) (by decide +kernel)
  (fun x y t u h => AutoIntG1.int___mul___int_int_0 x t y u h)
theorem fdiv_small {x : Int} {n : Nat} (h : intBits x ≤ n) : x.fdiv (2 ^ n) = if x < 0 then -1 else 0 := by
  have hx := intBits_le_iff.mp h
  have hp : (0 : Int) < 2 ^ n := Int.pow_pos (by decide)
  have hc : ((2 ^ n : Nat) : Int) = 2 ^ n := by norm_cast
  split
  · rename_i hn
    rw [Int.fdiv_eq_ediv_of_nonneg _ (Int.le_of_lt hp)]
    have h1 : -(2 ^ n : Int) ≤ x := by lia
    have : x / 2 ^ n = -1 := by
      have a1 : x / 2 ^ n < 0 := Int.ediv_neg_of_neg_of_pos hn hp
      have a2 : -1 ≤ x / 2 ^ n := by
        have := Int.le_ediv_of_mul_le hp (a := -1) (b := x) (by lia)
        exact this
      lia
    exact this
  · rename_i hn
    rw [Int.fdiv_eq_ediv_of_nonneg _ (Int.le_of_lt hp)]
    exact Int.ediv_eq_zero_of_lt (by lia) (by lia)
noncomputable def irsh (B : Bs) : BCut B := ibin B "int.__rshift__" 1954753560319954401256180983099242 Builtin.«int.__rshift__» (fun _ b => 0 ≤ b) (fun a b => a.fdiv (2 ^ b.toNat)) (by decide +kernel) (entryFor_of_tree (by kernel_rfl)) (by decide +kernel)
  (fun x y t u h => by
    by_cases hb : y ≥ ((intBits x : Nat) : Int)
    · have g := AutoIntG9.int___rshift___int_int_1 x t y u (by lia) hb
      rw [← fdiv_small (x := x) (n := y.toNat) (by lia)] at g
      exact g
    · exact AutoIntG0.int___rshift___int_int_2 x t y u (by lia) hb)
noncomputable def bAnd (x y : Int) : Int := PySem.Builtin.bitAnd x y
noncomputable def bXor (x y : Int) : Int := PySem.Builtin.bitXor x y
noncomputable def iand (B : Bs) : BCut B := ibin B "int.__and__" 116512097012594783534018410 Builtin.«int.__and__» (fun _ _ => True) bAnd (by decide +kernel) (entryFor_of_tree (by kernel_rfl)) (by decide +kernel) (fun x y t u _ => .of_eq rfl)
noncomputable def ixor (B : Bs) : BCut B := ibin B "int.__xor__" 116512355345543333970014058 Builtin.«int.__xor__» (fun _ _ => True) bXor (by decide +kernel) (entryFor_of_tree (by kernel_rfl)) (by decide +kernel) (fun x y t u _ => .of_eq rfl)
noncomputable def Fi (P : Int → Prop) (r : Int → Int) : List Value → Option (Prop × Res)
  | [.int a _] => some (P a, .int (r a))
  | _ => none
noncomputable def iun (B : Bs) (id : String) (code : Nat) (b : Builtin) (P : Int → Prop) (r : Int → Int) (hid : PySem.code id = code) (he : entryFor table id = some b) (hp : plainId id = true)
    (g : ∀ x t, P x → Gives (b ⟨[.int x t], []⟩) (.int (r x))) : BCut B :=
  pureCut B id code b (Fi P r) hid he hp (by
    intro args Q q e hQ V hs K h s D
    unfold Fi at e
    split at e
    · cases e; exact ⟨_, g _ _ hQ, post_int D h⟩
    · cases e)
noncomputable def ibits (B : Bs) : BCut B := iun B "int.bit_length" 2138955024513080746059204096520042 Builtin.«int.bit_length» (fun _ => True) (fun a => ((intBits a : Nat) : Int)) (by decide +kernel) (entryFor_of_tree (by kernel_rfl)) (by decide +kernel) (fun x t _ => AutoIntG2.int_bit_length_int_0 x t)
theorem gives_lshift {a n : Int} {t u : Tok} (hn : 0 ≤ n) (hsz : (intBits a : Int) + n ≤ 2 ^ 27) : Gives (Builtin.«int.__lshift__» ⟨[.int a t, .int n u], []⟩) (.int (a * 2 ^ n.toNat)) := .of_wp fun M A E s Q h => by
  show wpAny _ _ (if n < 0 then _ else _) _ _ s
  rw [if_neg (by lia)]
  show wpAny _ _ (if (a == 0) = true then _ else _) _ _ s
  by_cases h0 : a = 0
  · rw [if_pos (by simpa using h0)]
    have e : a * 2 ^ n.toNat = 0 := by subst h0; exact Int.zero_mul _
    rw [e] at h
    repeat (first | refine wpAny_pure ?_ | refine wpAny_mkInt ?_ | refine wpAny_rule ?_ | refine wpAny_bind ?_)
    exact ⟨_, rfl, h⟩
  rw [if_neg (by simpa using h0)]
  have h3 : ¬ (((intBits a : Int) + 29) / 30 + n / 30 + (if n % 30 == 0 then 0 else 1) > Builtin.maxDigits) := by
    unfold Builtin.maxDigits
    split <;> lia
  show wpAny _ _ (if ((intBits a : Int) + 29) / 30 + n / 30 + (if n % 30 == 0 then 0 else 1) > Builtin.maxDigits then _ else _) _ _ s
  rw [if_neg h3]
  have hbig : intTooBig ((intBits a : Int) + n) = false := decide_eq_false (Int.not_lt.mpr hsz)
  show wpAny _ _ (if intTooBig ((intBits a : Int) + n) = true then _ else _) _ _ s
  rw [if_neg (by rw [hbig]; exact Bool.false_ne_true)]
  repeat (first | refine wpAny_pure ?_ | refine wpAny_mkInt ?_ | refine wpAny_rule ?_ | refine wpAny_bind ?_)
  exact ⟨_, rfl, h⟩
noncomputable def ilsh (B : Bs) : BCut B := ibin B "int.__lshift__" 1954753560319954399567331122835306 Builtin.«int.__lshift__» (fun a b => 0 ≤ b ∧ (intBits a : Int) + b ≤ 2 ^ 27) (fun a b => a * 2 ^ b.toNat) (by decide +kernel) (entryFor_of_tree (by kernel_rfl)) (by decide +kernel)
  (fun x y t u h => gives_lshift h.1 h.2)
noncomputable def ipow (B : Bs) : BCut B := ibin B "int.__pow__" 116512447577011902704086890 Builtin.«int.__pow__» (fun a b => 0 < b ∧ 2 ≤ a ∧ (intBits a : Int) * b ≤ 2 ^ 27) (fun a b => a ^ b.toNat) (by decide +kernel) (entryFor_of_tree (by kernel_rfl)) (by decide +kernel)
  (fun x y t u h => by
    refine AutoIntG2.int___pow___int_int_4 x t y u (by lia) (by simp; lia) (by simp; lia) (by simp; lia) ?_
    have hbig : intTooBig ((intBits x : Int) * y) = false := decide_eq_false (Int.not_lt.mpr h.2.2)
    rw [hbig]; simp)
noncomputable def stdC (B : Bs) : List (BCut B) := stdB B ++ [imod B, ifdiv B, imul B, irsh B, iand B, ixor B, ibits B, ilsh B, ipow B]
end Mine
end
section
namespace Mine
open PySem PySem.Spec PySem.Calls PyProof.Rows PySem.W PySem.W.X PySem.Builtin
noncomputable def listN : Nat := 1970563693
noncomputable def listParts (o : Obj) : Option (List Value × Nat) := match o with
  | ⟨c, dc, dt, sl⟩ => match c with
    | .type n => match Nat.beq (S.codeS n) listN with
      | false => none
      | true => match dc with
        | some _ => none
        | none => match sl.toList with
          | _ :: _ => none
          | [] => match dt with
            | .seq xs ep => some (xs.toList, ep)
            | _ => none
    | _ => none
theorem list_code : S.codeS "list" = listN := by rw [← S.code_S]; decide +kernel
theorem listParts_is {o : Obj} {q : List Value × Nat} (e : listParts o = some q) : o = { cls := .type "list", dict := none, data := .seq ⟨q.1⟩ q.2, slots := #[] } := by
  obtain ⟨c, dc, dt, sl⟩ := o
  unfold listParts at e
  dsimp only at e
  split at e
  · rename_i n
    split at e
    · cases e
    · rename_i hn
      have hn := Nat.eq_of_beq_eq_true hn
      rw [← list_code] at hn
      have hn := codeS_inj hn
      subst hn
      split at e
      · cases e
      · split at e
        · cases e
        · rename_i hs
          have hs : sl = #[] := Array.ext' hs
          subst hs
          split at e
          · cases e; rfl
          · cases e
  · cases e
noncomputable def lenF (args : List Value) (V : View) (hs : List Nat) (K : Result → View → List Nat → VC) : VC := match args with
  | [.ref a] => match hs with
    | [] => .ff
    | i :: hs => match nth V i with
      | none => .ff
      | some p => match listParts p.2 with
        | none => .ff
        | some q => .eq a p.1 <| .ob (q.1.length ≤ sizeLine) <| .al fun t' => K (.ok (.ret (.int (q.1.length : Int) t'))) V hs
  | _ => .ff
noncomputable def lenL (B : Bs) : BCut B where
  id := "len"
  code := 7300717
  d := 0
  f := lenF
  hid := by rw [← S.code_S]; decide +kernel
  ok := by
    intro args V hs K h A s _ D
    unfold lenF at h
    split at h
    · rename_i a
      split at h
      · cases h
      · rename_i i hs
        split at h
        · cases h
        · rename_i p hp
          split at h
          · cases h
          · rename_i q hq
            obtain ⟨rfl, hl, h⟩ := h
            rw [nth_eq] at hp
            have ho := D.has _ (List.mem_of_getElem? hp)
            rw [listParts_is hq] at ho
            have his : s.heap.IsList p.1 ⟨q.1⟩ := ⟨_, ho, rfl, _, rfl⟩
            refine codeAny_builtin (b := Builtin.«len») (entryFor_of_tree (by kernel_rfl)) ?_
            rw [Around.under_plainId (by decide +kernel)]
            have hfit : (((⟨q.1⟩ : Array Value).size : Nat) : Int) < 2 ^ 63 := by
              have : (⟨q.1⟩ : Array Value).size = q.1.length := rfl
              rw [this]
              have h2 : sizeLine < 2 ^ 63 := by decide
              exact Int.lt_of_le_of_lt (Int.ofNat_le.mpr hl) (by exact_mod_cast h2)
            refine wpAny_mono (wpAny_len_body_list his hfit (Q := fun v s' => AK B V s K (.ok (.ret v)) s') ?_) ?_ (fun e s' (x : False) => x.elim)
            · exact ⟨V, hs, h _, D.fresh.fresh, ext_fresh.trans ext_fresh⟩
            · rintro fin s' ⟨v, rfl, hv⟩
              exact hv
    · cases h
theorem mapSeq_ep (xs ys : Array Value) (f : Array Value → Array Value) (n : Nat) (h : f xs = ys) : Obj.mapSeq f { cls := .type "list", dict := none, data := .seq xs n, slots := #[] } = { cls := .type "list", dict := none, data := .seq ys (if ys.size == xs.size then n else n + 1), slots := #[] } := by
  subst h; rfl
noncomputable def appF (args : List Value) (V : View) (hs : List Nat) (K : Result → View → List Nat → VC) : VC := match args with
  | [.ref a, v] => match hs with
    | [] => .ff
    | i :: hs => match nth V i with
      | none => .ff
      | some p => match listParts p.2 with
        | none => .ff
        | some q => .eq a p.1 <| .ob (q.1.length ≤ sizeLine) <| K (.ok (.ret .none)) (setAt V i (p.1, { cls := p.2.cls, dict := none, data := .seq ⟨q.1 ++ [v]⟩ (q.2 + 1), slots := #[] })) hs
  | _ => .ff
theorem push_ep (xs : List Value) (v : Value) (n : Nat) : Obj.mapSeq (fun a => a.push v) { cls := .type "list", dict := none, data := .seq ⟨xs⟩ n, slots := #[] } = { cls := .type "list", dict := none, data := .seq ⟨xs ++ [v]⟩ (n + 1), slots := #[] } := by
  rw [mapSeq_ep ⟨xs⟩ ⟨xs ++ [v]⟩ _ n (by simp)]
  have : ((⟨xs ++ [v]⟩ : Array Value).size == (⟨xs⟩ : Array Value).size) = false := by simp
  rw [this]; rfl
theorem notCode_list (dt : Data) : isCodeO { cls := .type "list", dict := none, data := dt, slots := #[] } = false := by
  show Nat.beq (S.codeS "list") codeN = false
  rw [list_code]; rfl
noncomputable def appL (B : Bs) : BCut B where
  id := "list.append"
  code := 122627580202994350266018413
  d := 0
  f := appF
  hid := by rw [← S.code_S]; decide +kernel
  ok := by
    intro args V hs K h A s _ D
    unfold appF at h
    split at h
    · rename_i a v
      split at h
      · cases h
      · rename_i i hs
        split at h
        · cases h
        · rename_i p hp
          split at h
          · cases h
          · rename_i q hq
            obtain ⟨rfl, hl, h⟩ := h
            rw [nth_eq] at hp
            rw [setAt_eq] at h
            have ho := D.has _ (List.mem_of_getElem? hp)
            have hi := listParts_is hq
            rw [hi] at ho h
            refine codeAny_builtin (b := Builtin.«list.append») (entryFor_of_tree (by kernel_rfl)) ?_
            rw [Around.under_plainId (by decide +kernel)]
            refine AutoListH.list_append_list_val_0 p.1 ⟨q.1⟩ q.2 v hl _ _ _ (fun r s' => AK B V s K r s') _ ⟨ho, ?_⟩
            have z := D.update (i := i) (a := p.1) (o := p.2) (f := Obj.mapSeq (fun a => a.push v)) hp (by rw [hi, push_ep]; rfl) (by rw [hi]; exact notCode_list _) (by rw [hi, push_ep]; exact notCode_list _)
            rw [hi, push_ep] at z
            exact ⟨_, hs, h, z.1, z.2⟩
    · cases h
noncomputable def popF (args : List Value) (V : View) (hs : List Nat) (K : Result → View → List Nat → VC) : VC := match args with
  | [.ref a, .int j _] => match hs with
    | [] => .ff
    | i :: hs => match nth V i with
      | none => .ff
      | some p => match listParts p.2 with
        | none => .ff
        | some q => match q.1 with
          | [] => .ff
          | v :: vs => .eq a p.1 <| .ob ((j = 0 ∧ vs.length + 1 ≤ sizeLine)) <| K (.ok (.ret v)) (setAt V i (p.1, { cls := p.2.cls, dict := none, data := .seq ⟨vs⟩ (q.2 + 1), slots := #[] })) hs
  | _ => .ff
theorem pop_ep (v : Value) (xs : List Value) (n : Nat) : Obj.mapSeq (fun a => a.eraseIdxIfInBounds 0) { cls := .type "list", dict := none, data := .seq ⟨v :: xs⟩ n, slots := #[] } = { cls := .type "list", dict := none, data := .seq ⟨xs⟩ (n + 1), slots := #[] } := by
  have e : (⟨v :: xs⟩ : Array Value).eraseIdxIfInBounds 0 = ⟨xs⟩ := by
    apply Array.ext'
    simp [Array.eraseIdxIfInBounds]
  rw [mapSeq_ep ⟨v :: xs⟩ ⟨xs⟩ _ n e]
  have : ((⟨xs⟩ : Array Value).size == (⟨v :: xs⟩ : Array Value).size) = false := by simp
  rw [this]; rfl
noncomputable def popL (B : Bs) : BCut B where
  id := "list.pop"
  code := 8174157772325415533
  d := 0
  f := popF
  hid := by rw [← S.code_S]; decide +kernel
  ok := by
    intro args V hs K h A s _ D
    unfold popF at h
    split at h
    · rename_i a j u
      split at h
      · cases h
      · rename_i i hs
        split at h
        · cases h
        · rename_i p hp
          split at h
          · cases h
          · rename_i q hq
            split at h
            · cases h
            · rename_i v vs hvs
              obtain ⟨rfl, ⟨rfl, hl⟩, h⟩ := h
              rw [nth_eq] at hp
              rw [setAt_eq] at h
              have ho := D.has _ (List.mem_of_getElem? hp)
              have hi := listParts_is hq
              rw [hvs] at hi
              rw [hi] at ho h
              refine codeAny_builtin (b := Builtin.«list.pop») (entryFor_of_tree (by kernel_rfl)) ?_
              rw [Around.under_plainId (by decide +kernel)]
              refine MeetsSeq.list_pop_at p.1 ⟨v :: vs⟩ q.2 0 u 0 v (by decide) ?_ rfl (by simpa using hl) _ _ _ (fun r s' => AK B V s K r s') _ ⟨ho, ?_⟩
              · unfold seqIndex?
                simp
              have z := D.update (i := i) (a := p.1) (o := p.2) (f := Obj.mapSeq (fun a => a.eraseIdxIfInBounds 0)) hp (by rw [hi, pop_ep]; rfl) (by rw [hi]; exact notCode_list _) (by rw [hi, pop_ep]; exact notCode_list _)
              rw [hi, pop_ep] at z
              exact ⟨_, hs, h, z.1, z.2⟩
    · cases h
noncomputable def stdD (B : Bs) : List (BCut B) := stdC B ++ [lenL B, appL B, popL B]
inductive LO where
  | ret (v : Value)
  | int (i : Int)
  | upd (xs : List Value) (ep : Nat)
  | new (xs : List Value)
noncomputable abbrev listX (xs : List Value) (ep : Nat) : Obj := { cls := .type "list", dict := none, data := .seq ⟨xs⟩ ep, slots := #[] }
noncomputable def LO.out (o : LO) (l : Addr) (items : List Value) (ep : Nat) (R : Result → Shared → Prop) (s : Shared) : Prop := match o with
  | .ret v => ∀ k, R (.ok (.ret v)) { s with toks := k }
  | .int i => ∀ t k, R (.ok (.ret (.int i t))) { s with toks := k }
  | .upd xs ep' => ∀ (f : Obj → Obj) k, f (listX items ep) = listX xs ep' → R (.ok (.ret .none)) { s with heap := s.heap.update l f, toks := k }
  | .new xs => ∀ k, R (.ok (.ret (.ref s.heap.objs.size))) { s with heap := s.heap.push (listX xs 0), toks := k }
noncomputable def lcutF (F : List Value → List Value → Nat → Nat → Option (Prop × LO)) (args : List Value) (V : View) (hs : List Nat) (K : Result → View → List Nat → VC) : VC := match args with
  | a :: rest => match a with
    | .ref a => match hs with
      | i :: hs => match hs with
        | h :: hs => match nth V i with
          | none => .ff
          | some p => match listParts p.2 with
            | none => .ff
            | some q => match q with
              | (items, ep) => match F rest items ep h with
                | none => .ff
                | some r => match r with
                  | (P, o) => .eq a p.1 <| .ob P <| match o with
                    | .ret v => K (.ok (.ret v)) V hs
                    | .int i => .al fun t => K (.ok (.ret (.int i t))) V hs
                    | .upd xs ep' => K (.ok (.ret .none)) (setAt V i (p.1, ⟨p.2.cls, none, .seq ⟨xs⟩ ep', #[]⟩)) hs
                    | .new xs => .al fun a' => K (.ok (.ret (.ref a'))) ((a', ⟨p.2.cls, none, .seq ⟨xs⟩ 0, #[]⟩) :: V) hs
        | [] => .ff
      | [] => .ff
    | _ => .ff
  | [] => .ff
theorem Rep.toks' {B : Bs} {V : View} {s : Shared} (D : Rep B V s) (k : Nat) : Rep B V { s with toks := k } :=
  ⟨⟨D.good.g, D.good.d, D.good.os, D.good.kept, D.good.loose, D.good.tabs⟩, D.has, D.nd, D.own⟩
theorem ext_toks' {B : Bs} {V : View} {s : Shared} (k : Nat) : Ext B V V s { s with toks := k } := ⟨fun _ _ e _ _ => e, fun _ h => .inl h, fun a o e => ⟨o, e⟩⟩
noncomputable def lcut (B : Bs) (id : String) (code : Nat) (b : Builtin) (F : List Value → List Value → Nat → Nat → Option (Prop × LO)) (hid : PySem.code id = code) (he : entryFor table id = some b) (hp : plainId id = true)
    (ok : ∀ (l : Addr) (rest items : List Value) (ep h : Nat) (P : Prop) (o : LO), F rest items ep h = some (P, o) → P → ∀ (prog : Program) (w : World) (A : Around) (R : Result → Shared → Prop) (s : Shared), s.heap.get? l = some (listX items ep) → o.out l items ep R s →
      wpAny (model prog w) A.in1 (b ⟨.ref l :: rest, []⟩) (fun fin s' => match fin with | .done f => R (.ok f) s' | .again c' => c'.quiet = true ∧ codeAny (model prog w) A c' R s') (fun e s' => R (.error e) s') s) : BCut B where
  id := id
  code := code
  d := 0
  f := lcutF F
  hid := by rw [← S.code_S]; exact hid
  ok := by
    intro args V hs K h A s _ D
    unfold lcutF at h
    split at h
    · split at h
      · split at h
        · split at h
          · split at h
            · cases h
            · rename_i i _ hh hs _ p hp'
              split at h
              · cases h
              · rename_i q hq
                split at h
                rename_i items ep
                split at h
                · cases h
                · rename_i r hr
                  split at h
                  rename_i P o
                  obtain ⟨rfl, hP, h⟩ := h
                  rw [nth_eq] at hp'
                  have ho := D.has _ (List.mem_of_getElem? hp')
                  have hi := listParts_is hq
                  rw [hi] at ho
                  refine codeAny_builtin he ?_
                  rw [Around.under_plainId hp]
                  refine ok p.1 _ items ep hh P o hr hP _ _ _ (fun r s' => AK B V s K r s') _ ho ?_
                  cases o with
                  | ret v => exact fun k => ⟨V, hs, h, D.toks' k, ext_toks' k⟩
                  | int v => exact fun t k => ⟨V, hs, h t, D.toks' k, ext_toks' k⟩
                  | upd xs ep' =>
                    intro f k hf
                    dsimp only at h
                    rw [setAt_eq] at h
                    have z := D.update (i := i) (a := p.1) (o := p.2) (f := f) hp' (by rw [hi, hf]; rfl) (by rw [hi]; exact notCode_list _) (by rw [hi, hf]; exact notCode_list _)
                    rw [hi, hf] at z
                    rw [hi] at h
                    exact ⟨_, hs, h, z.1.toks' k, z.2.trans (ext_toks' k)⟩
                  | new xs =>
                    intro k
                    have z := D.alloc (o := listX xs 0) rfl
                    have hc : p.2.cls = .type "list" := by rw [hi]
                    dsimp only at h
                    rw [hc] at h
                    exact ⟨_, hs, h s.heap.objs.size, z.1.toks' k, z.2.trans (ext_toks' k)⟩
          · cases h
        · cases h
      · cases h
    · cases h
theorem itemAt_get {l : List Value} {i : Nat} {v : Value} (h : i < l.length) (e : itemAt l i = v) : (⟨l⟩ : Array Value)[i]? = some v := by
  rw [← Array.getElem?_toList]; rw [itemAt_eq h, e]
noncomputable def getF : List Value → List Value → Nat → Nat → Option (Prop × LO)
  | [.int k _], items, _, h => some ((0 ≤ k ∧ k.toNat < items.length ∧ items.length ≤ sizeLine) ∧ itemAt items k.toNat = shape h (itemAt items k.toNat), .ret (shape h (itemAt items k.toNat)))
  | _, _, _, _ => none
theorem getF_some {rest items : List Value} {ep h : Nat} {P : Prop} {o : LO} (e : getF rest items ep h = some (P, o)) : ∃ k t, rest = [.int k t] ∧ P = ((0 ≤ k ∧ k.toNat < items.length ∧ items.length ≤ sizeLine) ∧ itemAt items k.toNat = shape h (itemAt items k.toNat)) ∧ o = .ret (shape h (itemAt items k.toNat)) := by
  unfold getF at e
  split at e
  · cases e; exact ⟨_, _, rfl, rfl, rfl⟩
  · cases e
theorem line63 : sizeLine < 2 ^ 62 := by decide
noncomputable def getL (B : Bs) : BCut B := lcut B "list.__getitem__" 128106587276438692081757506308484131437 Builtin.«list.__getitem__» getF (by decide +kernel) (entryFor_of_tree (by kernel_rfl)) (by decide +kernel) (by
  intro l rest items ep h P o e hP prog w A R s ho hR
  obtain ⟨k, t, rfl, rfl, rfl⟩ := getF_some e
  · obtain ⟨⟨h0, h1, h2⟩, h3⟩ := hP
    have hfit : Builtin.List.listFitsIndex k = true := fitsIndex_of h0 (by have := line63; lia)
    show wpAny _ _ (PySem.Builtin.List.listSubscript? (.int k t) >>= _) _ _ s
    refine wpAny_bind (wpAny_listSubscript_int hfit ?_)
    obtain ⟨j, rfl⟩ := Int.eq_ofNat_of_zero_le h0
    show wpAny _ _ ((seqItemAt l j >>= fun r => pure (r.map (j, ·))) >>= _) _ _ s
    refine wpAny_bind (wpAny_bind (wpAny_seqItemAt ho rfl (wpAny_pure ?_)))
    have h1' : j < items.length := h1
    have h3' : itemAt items j = shape h (itemAt items j) := h3
    rw [itemAt_get h1' h3']
    exact wpAny_pure (hR s.toks))
noncomputable def setV : List Value → Nat → Value → List Value
  | [], _, _ => []
  | _ :: l, 0, v => v :: l
  | x :: l, i + 1, v => x :: setV l i v
theorem setV_eq : ∀ (l : List Value) (i : Nat) (v : Value), setV l i v = l.set i v
  | [], _, _ => by simp [setV]
  | _ :: _, 0, _ => by simp [setV]
  | _ :: l, i + 1, v => by simp [setV, setV_eq l i v]
noncomputable def setF : List Value → List Value → Nat → Nat → Option (Prop × LO)
  | [.int k _, v], items, ep, _ => some (0 ≤ k ∧ k.toNat < items.length ∧ items.length ≤ sizeLine, .upd (setV items k.toNat v) ep)
  | _, _, _, _ => none
theorem setF_some {rest items : List Value} {ep h : Nat} {P : Prop} {o : LO} (e : setF rest items ep h = some (P, o)) : ∃ k t v, rest = [.int k t, v] ∧ P = (0 ≤ k ∧ k.toNat < items.length ∧ items.length ≤ sizeLine) ∧ o = .upd (setV items k.toNat v) ep := by
  unfold setF at e
  split at e
  · cases e; exact ⟨_, _, _, rfl, rfl, rfl⟩
  · cases e
noncomputable def setL (B : Bs) : BCut B := lcut B "list.__setitem__" 128106587276438692082622197436939266669 Builtin.«list.__setitem__» setF (by decide +kernel) (entryFor_of_tree (by kernel_rfl)) (by decide +kernel) (by
  intro l rest items ep h P o e hP prog w A R s ho hR
  obtain ⟨k, t, v, rfl, rfl, rfl⟩ := setF_some e
  · obtain ⟨h0, h1, h2⟩ := hP
    have hfit : Builtin.List.listFitsIndex k = true := fitsIndex_of h0 (by have := line63; lia)
    show wpAny _ _ (PySem.Builtin.List.listSubscript? (.int k t) >>= _) _ _ s
    refine wpAny_bind (wpAny_listSubscript_int hfit ?_)
    obtain ⟨j, rfl⟩ := Int.eq_ofNat_of_zero_le h0
    show wpAny _ _ ((seqItemAt l j >>= fun r => pure (r.map (j, ·))) >>= _) _ _ s
    refine wpAny_bind (wpAny_bind (wpAny_seqItemAt ho rfl (wpAny_pure ?_)))
    have h1' : j < items.length := h1
    rw [itemAt_get (v := itemAt items j) h1' rfl]
    show wpAny _ _ (setSeqItemAt l j v >>= _) _ _ s
    refine wpAny_bind (wpAny_setSeqItemAt ho rfl ?_)
    refine wpAny_pure ?_
    exact hR _ s.toks (by
      show Obj.mapSeq _ _ = _
      rw [mapSeq_ep ⟨items⟩ ⟨setV items j v⟩ _ ep (by
        apply Array.ext'
        simp [setV_eq, Array.setIfInBounds, h1'])]
      have : ((⟨setV items j v⟩ : Array Value).size == (⟨items⟩ : Array Value).size) = true := by simp [setV_eq]
      rw [this]; rfl))
noncomputable def repV (items : List Value) : Nat → List Value
  | 0 => []
  | n + 1 => items ++ repV items n
noncomputable def mulF : List Value → List Value → Nat → Nat → Option (Prop × LO)
  | [.int k _], items, _, _ => some (0 ≤ k ∧ k ≤ sizeLine ∧ items.length * k.toNat ≤ sizeLine ∧ items ≠ [], .new (repV items k.toNat))
  | _, _, _, _ => none
theorem fold_rep (items : List Value) : ∀ (n : Nat) (acc : Array Value), (List.foldl (fun x1 x2 => x1 ++ x2) acc (List.replicate n (⟨items⟩ : Array Value))) = acc ++ (⟨repV items n⟩ : Array Value)
  | 0, acc => by simp [repV]
  | n + 1, acc => by
    rw [List.replicate_succ, List.foldl_cons, fold_rep items n]
    apply Array.ext'
    simp [repV]
theorem mulF_some {rest items : List Value} {ep h : Nat} {P : Prop} {o : LO} (e : mulF rest items ep h = some (P, o)) : ∃ k t, rest = [.int k t] ∧ P = (0 ≤ k ∧ k ≤ sizeLine ∧ items.length * k.toNat ≤ sizeLine ∧ items ≠ []) ∧ o = .new (repV items k.toNat) := by
  unfold mulF at e
  split at e
  · cases e; exact ⟨_, _, rfl, rfl, rfl⟩
  · cases e
theorem line8 : (2 ^ 63 - 1) / 8 ≥ sizeLine := by decide
noncomputable def mulL (B : Bs) : BCut B := lcut B "list.__mul__" 29827134744148027186292746861 Builtin.«list.__mul__» mulF (by decide +kernel) (entryFor_of_tree (by kernel_rfl)) (by decide +kernel) (by
  intro l rest items ep h P o e hP prog w A R s ho hR
  obtain ⟨k, t, rfl, rfl, rfl⟩ := mulF_some e
  · obtain ⟨h0, h1, h2, h3⟩ := hP
    have hl := line63
    refine AutoListH.list___mul___list_int_3 l ⟨items⟩ ep k t (by rw [fitsIndex_of h0 (by lia)]; simp) (by have := line8; show ¬ items.length * _ > _; lia) (by unfold Builtin.List.listTooLong; show ¬ _; simp only [List.size_toArray]; simpa using h2) prog w A R s ⟨ho, ?_⟩
    have e : List.foldl (fun x1 x2 => x1 ++ x2) #[] (List.replicate (if (⟨items⟩ : Array Value).isEmpty = true then 0 else k.toNat) (⟨items⟩ : Array Value)) = ⟨repV items k.toNat⟩ := by
      have : ((⟨items⟩ : Array Value).isEmpty = true) = False := by
        cases items with
        | nil => exact absurd rfl h3
        | cons => simp
      simp only [this, if_false]
      rw [fold_rep]
      simp
    rw [e]
    exact hR s.toks)
noncomputable def revF : List Value → List Value → Nat → Nat → Option (Prop × LO)
  | [], items, ep, _ => some (items.length ≤ sizeLine, .upd items.reverse ep)
  | _, _, _, _ => none
noncomputable def revL (B : Bs) : BCut B := lcut B "list.reverse" 31708251359169610307576556141 Builtin.«list.reverse» revF (by decide +kernel) (entryFor_of_tree (by kernel_rfl)) (by decide +kernel) (by
  intro l rest items ep h P o e hP prog w A R s ho hR
  unfold revF at e
  split at e
  · cases e
    refine AutoListH.list_reverse_list_0 l ⟨items⟩ ep hP prog w A R s ⟨ho, ?_⟩
    exact hR _ s.toks (by
      rw [mapSeq_ep ⟨items⟩ ⟨items.reverse⟩ _ ep (by simp)]
      have : ((⟨items.reverse⟩ : Array Value).size == (⟨items⟩ : Array Value).size) = true := by simp
      rw [this]; rfl)
  · cases e)
theorem meets_divmod (a : Int) (t : Tok) (b : Int) (u : Tok) (hc0 : ¬(b == 0) = true) (hc1 : ¬(Builtin.divisionGoesByPylong a b) = true) :
    Meets (Builtin.«int.__divmod__» ⟨[.int a t, .int b u], []⟩) (fun _ R s => R (.ok (.ret (.ref s.heap.objs.size))) { s with heap := s.heap.push { cls := .type "tuple", data := .seq #[.int (a.fdiv b) s.toks, .int (a.fmod b) (s.toks + 1)] }, toks := s.toks + 2 }) :=
  .of_wp fun prog w A R s h => by obtain ⟨hp, g, d, tk, os⟩ := s; wp_walk; exact ⟨_, rfl, h⟩
noncomputable def idivF (args : List Value) (V : View) (hs : List Nat) (K : Result → View → List Nat → VC) : VC := match args with
  | [.int a _, .int b _] => .ob ((b ≠ 0 ∧ Builtin.divisionGoesByPylong a b = false)) <| .al fun t1 => .al fun t2 => .al fun a' => K (.ok (.ret (.ref a'))) ((a', { cls := .type "tuple", data := .seq ⟨[.int (a.fdiv b) t1, .int (a.fmod b) t2]⟩ }) :: V) hs
  | _ => .ff
noncomputable def idivC (B : Bs) : BCut B where
  id := "int.__divmod__"
  code := 1954748619459276632098664420306794
  d := 0
  f := idivF
  hid := by rw [← S.code_S]; decide +kernel
  ok := by
    intro args V hs K h A s _ D
    unfold idivF at h
    split at h
    · rename_i a t b u
      obtain ⟨⟨h0, h1⟩, h⟩ := h
      refine codeAny_builtin (b := Builtin.«int.__divmod__») (entryFor_of_tree (by kernel_rfl)) ?_
      rw [Around.under_plainId (by decide +kernel)]
      refine meets_divmod a t b u (by simpa using h0) (by rw [h1]; simp) _ _ _ (fun r s' => AK B V s K r s') s ?_
      have z := D.alloc (o := { cls := .type "tuple", data := .seq ⟨[.int (a.fdiv b) s.toks, .int (a.fmod b) (s.toks + 1)]⟩ }) rfl
      exact ⟨_, hs, h s.toks (s.toks + 1) s.heap.objs.size, z.1.toks' _, z.2.trans (ext_toks' _)⟩
    · cases h
theorem gives_int_bool (a : Int) (t : Tok) : Gives (Builtin.«int.__bool__» ⟨[.int a t], []⟩) (.val (.bool (a != 0))) := .of_wp fun M A E s Q h => by obtain ⟨hp, g, d, tk, os⟩ := s; wp_walk; exact ⟨_, rfl, h⟩
noncomputable def F1b (P : Int → Prop) (v : Bool) : List Value → Option (Prop × Res)
  | [.int a _] => some (P a, .val (.bool v))
  | _ => none
noncomputable def ibool (B : Bs) (P : Int → Prop) (v : Bool) (hP : ∀ a, P a → (a != 0) = v) : BCut B :=
  pureCut B "int.__bool__" 29827134633612522566320484202 Builtin.«int.__bool__» (F1b P v) (by decide +kernel) (entryFor_of_tree (by kernel_rfl)) (by decide +kernel) (by
    intro args Q r e hQ V hs K h s D
    unfold F1b at e
    split at e
    · cases e
      rename_i a t
      have g := gives_int_bool a t
      rw [hP a hQ] at g
      exact ⟨_, g, post_val D h⟩
    · cases e)
noncomputable def iboolT (B : Bs) : BCut B := ibool B (fun a => a ≠ 0) true (fun a h => by simpa using h)
noncomputable def iboolF (B : Bs) : BCut B := ibool B (fun a => a = 0) false (fun a h => by simpa using h)
noncomputable def stdL (B : Bs) : List (BCut B) := stdD B ++ [getL B, setL B, mulL B, revL B, idivC B, iboolT B, iboolF B]
end Mine
end
section
namespace Mine
open PySem PySem.Spec PySem.Calls PyProof.Rows PySem.W PySem.W.X
noncomputable def li {α : Type} (d : α) : List α → Nat → α
  | [], _ => d
  | a :: _, 0 => a
  | _ :: l, n + 1 => li d l n
noncomputable def lt (a t : List Nat) (i : List Int) (s : List Str) (v : List Value) (l : List (List Value)) (f : List FuncData) : Lt :=
  ⟨li 0 a, li 0 t, li 0 i, li ⟨#[]⟩ s, li .none v, li [] l, li default f⟩
structure Sp (B : Bs) where
  d : Nat
  c : Lt → Code
  P : Lt → Prop
  pre : Lt → View
  R : Lt → Lt → Prop
  res : Lt → Lt → Result
  out : Lt → Lt → View
noncomputable def Sp.post {B : Bs} (S : Sp B) (q : Lt) (r : Result) (V : View) : Prop := ∃ e, S.R q e ∧ r = S.res q e ∧ V = S.out q e
noncomputable def Sp.Ok {B : Bs} (S : Sp B) : Prop := ∀ q, S.P q → Tri B S.d (S.c q) (S.pre q) (S.post q)
noncomputable def Sp.con {B : Bs} (S : Sp B) (h : S.Ok) : Con B := { d := S.d, c := S.c, P := S.P, pre := S.pre, R := S.R, res := S.res, out := S.out, ok := h }
theorem fin {B : Bs} (S : Sp B) (q e : Lt) (h : S.R q e) : S.post q (S.res q e) (S.out q e) := ⟨e, h, rfl, rfl⟩
noncomputable def nthO : View → Nat → Obj
  | [], _ => ⟨.none, none, .plain, #[]⟩
  | p :: _, 0 => p.2
  | _ :: l, i + 1 => nthO l i
noncomputable def nthV : List Value → Nat → Value
  | [], _ => .none
  | v :: _, 0 => v
  | _ :: l, i + 1 => nthV l i
noncomputable def nthE : List DictEntry → Nat → DictEntry
  | [], _ => ⟨0, .none, .none⟩
  | e :: _, 0 => e
  | _ :: l, i + 1 => nthE l i
noncomputable def valS : Value → Str
  | .str s _ => s
  | _ => ⟨#[]⟩
noncomputable def valT : Value → Tok
  | .str _ t => t
  | .int _ t => t
  | _ => 0
noncomputable def valI : Value → Int
  | .int i _ => i
  | _ => 0
noncomputable def valA : Value → Nat
  | .ref a => a
  | _ => 0
noncomputable def dictVal (o : Obj) (i : Nat) : Value := match o.data with
  | .dict es _ => (nthE es.toList i).val
  | _ => .none
noncomputable def dictKT (o : Obj) (i : Nat) : Nat := match o.data with
  | .dict es _ => valT (nthE es.toList i).key
  | _ => 0
noncomputable def seqs (o : Obj) : List Value := match o.data with
  | .seq xs _ => xs.toList
  | .fields xs => xs.toList
  | _ => []
noncomputable def seqEp (o : Obj) : Nat := match o.data with
  | .seq _ n => n
  | _ => 0
noncomputable def cellV (o : Obj) : Value := match o.data with
  | .cell v => v.getD .none
  | _ => .none
noncomputable def dropV : Nat → List Value → List Value
  | 0, l => l
  | _ + 1, [] => []
  | n + 1, _ :: l => dropV n l
noncomputable def objD (o : Obj) : Nat := o.dict.getD 0
noncomputable def fdO (o : Obj) : FuncData := match o.data with
  | .func fd => fd
  | _ => default
noncomputable def fdClos (fd : FuncData) (i : Nat) : Nat := match fd.closure[i]? with
  | some p => p.2
  | none => 0
noncomputable def fdCode (fd : FuncData) : Nat := valA fd.code
noncomputable def fdTup (fd : FuncData) : Nat := valA fd.closureTuple
noncomputable def cPos : Code → List Value
  | .call _ as => as.pos
  | .builtin _ as => as.pos
  | _ => []
noncomputable def cFun : Code → Value
  | .call f _ => f
  | _ => .none
noncomputable def cIt : Code → Value
  | .forLoop _ it _ _ _ => it
  | .compStart _ _ it _ _ => it
  | .compLoop _ _ it _ _ => it
  | _ => .none
noncomputable def cAcc : Code → Value
  | .compStart _ _ _ acc _ => acc
  | .compLoop _ _ _ acc _ => acc
  | _ => .none
noncomputable def cEnv : Code → Env
  | .forLoop _ _ _ _ e => e
  | .whileLoop _ _ _ e => e
  | .compStart _ _ _ _ e => e
  | .compLoop _ _ _ _ e => e
  | .func _ e => e
  | .expr _ e => e
  | .body _ e => e
  | .block _ e => e
  | _ => default
noncomputable def forOf : Stmt → Expr × List Stmt × List Stmt
  | .For t _ b o _ => (t, b, o)
  | _ => (.Constant .none 0 default, [], [])
noncomputable def sub1 : Stmt → Nat → List Stmt
  | .For _ _ b _ _, 0 => b
  | .For _ _ _ o _, _ => o
  | .While _ b _ _, 0 => b
  | .While _ _ o _, _ => o
  | .If _ b _ _, 0 => b
  | .If _ _ o _, _ => o
  | .FunctionDef _ _ b _ _ _ _ _ _ _, _ => b
  | _, _ => []
noncomputable def nthS : List Stmt → Nat → Stmt
  | [], _ => .Pass default
  | s :: _, 0 => s
  | _ :: l, i + 1 => nthS l i
noncomputable def pathS : List Stmt → List Nat → Stmt
  | l, [] => .Pass default
  | l, [i] => nthS l i
  | l, i :: b :: r => pathS (sub1 (nthS l i) b) r
noncomputable def dropS : Nat → List Stmt → List Stmt
  | 0, l => l
  | _ + 1, [] => []
  | n + 1, _ :: l => dropS n l
noncomputable def takeS : Nat → List Stmt → List Stmt
  | 0, _ => []
  | _ + 1, [] => []
  | n + 1, s :: l => s :: takeS n l
noncomputable def exOf : Stmt → Expr
  | .Assign _ v _ => v
  | .AugAssign _ _ v _ => v
  | .Return v _ => v.getD (.Constant .none 0 default)
  | .Expr v _ => v
  | .If t _ _ _ => t
  | .While t _ _ _ => t
  | .For _ it _ _ _ => it
  | _ => .Constant .none 0 default
noncomputable def nthX : List Expr → Nat → Expr
  | [], _ => .Constant .none 0 default
  | s :: _, 0 => s
  | _ :: l, i + 1 => nthX l i
noncomputable def kid : Expr → Nat → Expr
  | .BinOp l _ _ _, 0 => l
  | .BinOp _ _ r _, _ => r
  | .UnaryOp _ x _, _ => x
  | .IfExp t _ _ _, 0 => t
  | .IfExp _ b _ _, 1 => b
  | .IfExp _ _ o _, _ => o
  | .ListComp e _ _ _, 0 => e
  | .ListComp _ gs _ _, i + 1 => match gs[i]? with
    | some g => g.iter
    | none => .Constant .none 0 default
  | .GeneratorExp e _ _ _, 0 => e
  | .Compare l _ _ _, 0 => l
  | .Compare _ _ rs _, i + 1 => nthX rs i
  | .Call f _ _ _, 0 => f
  | .Call _ as _ _, i + 1 => nthX as i
  | .Attribute v _ _, _ => v
  | .Subscript v _ _, 0 => v
  | .Subscript _ s _, _ => s
  | .List es _, i => nthX es i
  | .Tuple es _ _, i => nthX es i
  | .BoolOp _ es _, i => nthX es i
  | _, _ => .Constant .none 0 default
noncomputable def kids : Expr → List Nat → Expr
  | e, [] => e
  | e, i :: r => kids (kid e i) r
noncomputable def stmtsOf (fd : FuncData) : List Stmt := match fd.body with
  | .stmts b => b
  | .expr _ => []
noncomputable def forC (st : Stmt) (it : Addr) (env : Env) : Code := .forLoop (forOf st).1 (.ref it) (forOf st).2.1 (forOf st).2.2 env
noncomputable abbrev tList : Value := .type PySem.W.SZ.s9222952809800978799x4
noncomputable abbrev tDict : Value := .type PySem.W.SZ.s14018661285674007319x4
noncomputable abbrev tCell : Value := .type PySem.W.SZ.s15660640913423913556x4
noncomputable abbrev tFrame : Value := .type PySem.W.SZ.s658472552662922059x5
noncomputable abbrev tFunc : Value := .type PySem.W.SZ.s7174869446012820540x8
noncomputable abbrev tCI : Value := .type PySem.W.SZ.s12148877158373987119x17
noncomputable abbrev tMeth : Value := .type PySem.W.SZ.s6181755712446570794x6
noncomputable def kv (B : Bs) (n : Str) (t : Tok) (v : Value) : DictEntry := ⟨PySem.W.ZFast.zw12210062019545310541 (B.params.strHash n.cps), .str n t, v⟩
noncomputable def dictO (es : List DictEntry) (n : Nat) : Obj := ⟨tDict, none, .dict ⟨es⟩ n, #[]⟩
noncomputable def frameO (es : List DictEntry) (n : Nat) : Obj := ⟨tFrame, none, .dict ⟨es⟩ n, #[]⟩
noncomputable def listO (xs : List Value) (n : Nat) : Obj := ⟨tList, none, .seq ⟨xs⟩ n, #[]⟩
noncomputable def cellO (v : Value) : Obj := ⟨tCell, none, .cell (some v), #[]⟩
noncomputable def instO (c d : Addr) : Obj := ⟨.ref c, some d, .plain, #[]⟩
noncomputable def methO (f l : Value) : Obj := ⟨tMeth, none, .fields ⟨[f, l]⟩, #[]⟩
noncomputable def fieldsO (c : Value) (xs : List Value) : Obj := ⟨c, none, .fields ⟨xs⟩, #[]⟩
noncomputable def funcO (fd : FuncData) (dict : Option Addr) : Obj := ⟨tFunc, dict, .func fd, #[]⟩
noncomputable def codeZ (q : Str) (t : Tok) (v : Value) (rest : List Value) : Obj := { cls := .type PySem.W.SZ.s5856160107412720595x4, data := .fields ⟨v :: .str q t :: rest⟩ }
end Mine
end
namespace Mine
open PySem PySem.Spec PySem.Calls PyProof.Rows PySem.W PySem.W.X
noncomputable def U {B : Bs} (S : Sp B) (h : S.Ok) (f : Code → View → Lt) : Use B := { k := S.con h, on := f }
noncomputable abbrev At {B : Bs} (S : Sp B) (d : Nat) (q : Lt) : Prop := Tri B d (S.c q) (S.pre q) (S.post q)
noncomputable def sl {α : Type} (f : Nat → α) (i : Nat) : Nat → List α
  | 0 => []
  | n + 1 => f i :: sl f (i + 1) n
noncomputable def rq (f : Nat → Nat) : List Nat → List Nat
  | [] => []
  | i :: l => f i :: rq f l
noncomputable def hx : Nat → Nat → List Nat
  | 0, _ => []
  | k + 1, n => n % 64 :: hx k (n / 64)
noncomputable abbrev Nn := Nat
noncomputable def p_ab {α : Type} : Bool → List α → List α
  | false, a :: b :: k :: n :: t :: r => a :: b :: n :: t :: k :: r
  | _, l => l
noncomputable def i_ab : Bool → Nat → Nat
  | false, 2 => 4
  | false, 3 => 2
  | false, 4 => 3
  | _, i => i
noncomputable def p_mw {α : Type} : Bool → List α → List α
  | false, a :: b :: c :: d :: t :: m :: w :: r => a :: b :: c :: d :: m :: w :: t :: r
  | _, l => l
noncomputable def i_mw : Bool → Nat → Nat
  | false, 4 => 6
  | false, 5 => 4
  | false, 6 => 5
  | _, i => i
noncomputable def toStart : Code → Code
  | .compLoop e d i a v => .compStart e d i a v
  | c => c
noncomputable def Sp.start {B : Bs} (S : Sp B) : Sp B := { S with c := fun q => toStart (S.c q) }
noncomputable def dA (V : View) (i j : Nat) := valA (dictVal (nthO V i) j)
noncomputable def dT (V : View) (i j : Nat) := valT (dictVal (nthO V i) j)
noncomputable def dI (V : View) (i j : Nat) := valI (dictVal (nthO V i) j)
noncomputable def dV (V : View) (i j : Nat) := dictVal (nthO V i) j
noncomputable def kT (V : View) (i j : Nat) := dictKT (nthO V i) j
noncomputable def qT (V : View) (i j : Nat) := valT (nthV (seqs (nthO V i)) j)
noncomputable def qI (V : View) (i j : Nat) := valI (nthV (seqs (nthO V i)) j)
noncomputable def cA (V : View) (i : Nat) := valA (cellV (nthO V i))
noncomputable def cT (V : View) (i : Nat) := valT (cellV (nthO V i))
noncomputable def eP (V : View) (i : Nat) := seqEp (nthO V i)
noncomputable def oD (V : View) (i : Nat) := objD (nthO V i)
noncomputable def sQ (V : View) (i : Nat) := seqs (nthO V i)
noncomputable def fC (V : View) (i j : Nat) := fdClos (fdO (nthO V i)) j
noncomputable def xA (V : View) (i : Nat) : List Nat := [oD V i, dA V (i + 1) 1, dA V (i + 1) 3, oD V (i + 3), dA V (i + 4) 0, fC V (i + 5) 0, fC V (i + 5) 1, fdTup (fdO (nthO V (i + 5))), fdCode (fdO (nthO V (i + 5))), cA V (i + 8)]
noncomputable def xT (V : View) (i : Nat) : List Nat := [kT V i 0, dT V i 0, kT V i 1, kT V i 2, dT V i 2, kT V i 3, eP V (i + 1), kT V (i + 3) 0, qT V (i + 5) 1, cT V (i + 6), qT V (i + 8) 0]
noncomputable abbrev mS (l : List Nat) : Str := ⟨⟨l⟩⟩
end Mine
section
namespace Mine
open PySem PySem.Builtin PySem.Builtin.Str
noncomputable def rem (text : Str) (p : Int) : List Nat := text.cps.toList.drop p.toNat
noncomputable def chS (text : Str) (p : Int) : Str := sliceV text (some (p + 1 - 1, 0)) (some (p + 1, 0))
theorem rem_cons {text : Str} {p : Int} {c : Nat} {r : List Nat} (h0 : 0 ≤ p) (h : rem text p = c :: r) : rem text (p + 1) = r ∧ p.toNat < text.cps.size ∧ text.cps[p.toNat]? = some c := by
  unfold rem at h ⊢
  have hl : p.toNat < text.cps.toList.length := by
    apply Nat.lt_of_not_le
    intro hh
    rw [List.drop_eq_nil_of_le hh] at h
    cases h
  rw [List.drop_eq_getElem_cons hl] at h
  have e : (p + 1).toNat = p.toNat + 1 := by lia
  injection h with h1 h2
  refine ⟨by rw [e]; exact h2, by simpa using hl, ?_⟩
  rw [← h1]
  simp
theorem slice_idx (p : Int) (n : Nat) (h0 : 0 ≤ p) (h : p.toNat < n) : strSliceIndices (some (p + 1 - 1)) (some (p + 1)) 1 n = [p.toNat] := by
  unfold strSliceIndices sliceRange
  have e1 : ¬ (p + 1 - 1 < 0) := by lia
  have e2 : ¬ (p + 1 < 0) := by lia
  have e3 : max 0 (min (p + 1 - 1) (n : Int)) = p := by lia
  have e4 : max 0 (min (p + 1) (n : Int)) = p + 1 := by lia
  simp only [e1, e2, if_false, if_true, show ((1 : Int) > 0) = True from by simp, e3, e4]
  have e5 : p < p + 1 := by lia
  simp only [e5, if_true]
  have e6 : (p + 1 - p + 1 - 1) / 1 = (1 : Int) := by lia
  rw [e6]
  simp
theorem slice_idx_nil (p : Int) (n : Nat) (h0 : 0 ≤ p) (h : n ≤ p.toNat) : strSliceIndices (some (p + 1 - 1)) (some (p + 1)) 1 n = [] := by
  unfold strSliceIndices sliceRange
  have e1 : ¬ (p + 1 - 1 < 0) := by lia
  have e2 : ¬ (p + 1 < 0) := by lia
  have e3 : max 0 (min (p + 1 - 1) (n : Int)) = (n : Int) := by lia
  have e4 : max 0 (min (p + 1) (n : Int)) = (n : Int) := by lia
  simp only [e1, e2, if_false, if_true, show ((1 : Int) > 0) = True from by simp, e3, e4]
  simp
theorem chS_cons {text : Str} {p : Int} {c : Nat} {r : List Nat} (h0 : 0 ≤ p) (h : rem text p = c :: r) : chS text p = ⟨#[c]⟩ := by
  obtain ⟨_, hl, hc⟩ := rem_cons h0 h
  unfold chS sliceV
  have e : slicePicked text (some (p + 1 - 1, 0)) (some (p + 1, 0)) none = [p.toNat] := slice_idx p text.length h0 hl
  rw [e]
  split
  · rename_i hw
    have hw : 1 = text.length := by simpa using hw
    have hp : p.toNat = 0 := by
      have : text.length = text.cps.size := rfl
      lia
    rw [hp] at hc
    cases text with
    | mk a =>
      congr 1
      apply Array.ext'
      have : a.toList.length = 1 := by
        have : (Str.mk a).length = a.size := rfl
        simpa [this] using hw.symm
      match hh : a.toList, this with
      | [z], _ =>
        have hz : a[0]? = some z := by rw [← Array.getElem?_toList, hh]; rfl
        have : some z = some c := hz.symm.trans hc
        cases this
        rfl
  · simp [hc]
theorem chS_nil {text : Str} {p : Int} (h0 : 0 ≤ p) (h : rem text p = []) : chS text p = ⟨#[]⟩ := by
  have hl : text.cps.size ≤ p.toNat := by
    unfold rem at h
    have := List.drop_eq_nil_iff.mp h
    simpa using this
  unfold chS sliceV
  have e : slicePicked text (some (p + 1 - 1, 0)) (some (p + 1, 0)) none = [] := slice_idx_nil p text.length h0 hl
  rw [e]
  split
  · rename_i hw
    have hw : 0 = text.length := by simpa using hw
    cases text with
    | mk a =>
      congr 1
      exact Array.eq_empty_of_size_eq_zero hw.symm
  · rfl
theorem rem_nil {text : Str} {p : Int} (h0 : 0 ≤ p) (h : rem text p = []) : rem text (p + 1) = [] := by
  unfold rem at h ⊢
  have := List.drop_eq_nil_iff.mp h
  exact List.drop_eq_nil_of_le (by lia)
noncomputable def isWs (c : Nat) : Bool := c == 10 || c == 9 || c == 13 || c == 32
inductive Lx3 : List Nat → List Nat → List Nat → Prop where
  | ws {c : Nat} {r : List Nat} : isWs (c + 1) = true → Lx3 ((c + 1) :: r) [] r
  | esc {c : Nat} {r tk rest : List Nat} : Lx3 r tk rest → Lx3 (92 :: (c + 1) :: r) ((c + 1) :: tk) rest
  | chr {c : Nat} {r tk rest : List Nat} : isWs (c + 1) = false → c + 1 ≠ 92 → Lx3 r tk rest → Lx3 ((c + 1) :: r) ((c + 1) :: tk) rest
inductive Lx2 : List Nat → List Nat → List Nat → Prop where
  | q {r : List Nat} : Lx2 (34 :: r) [] r
  | esc {c : Nat} {r tk rest : List Nat} : Lx2 r tk rest → Lx2 (92 :: (c + 1) :: r) ((c + 1) :: tk) rest
  | chr {c : Nat} {r tk rest : List Nat} : c + 1 ≠ 34 → c + 1 ≠ 92 → Lx2 r tk rest → Lx2 ((c + 1) :: r) ((c + 1) :: tk) rest
inductive Lx1 : List Nat → List Nat → List Nat → Prop where
  | fin : Lx1 [] [] []
  | ws {c : Nat} {r tk rest : List Nat} : isWs (c + 1) = true → Lx1 r tk rest → Lx1 ((c + 1) :: r) tk rest
  | quo {r tk rest : List Nat} : Lx2 r tk rest → Lx1 (34 :: r) tk rest
  | esc {c : Nat} {r tk rest : List Nat} : Lx3 r tk rest → Lx1 (92 :: (c + 1) :: r) ((c + 1) :: tk) rest
  | chr {c : Nat} {r tk rest : List Nat} : isWs (c + 1) = false → c + 1 ≠ 34 → c + 1 ≠ 92 → Lx3 r tk rest → Lx1 ((c + 1) :: r) ((c + 1) :: tk) rest
noncomputable def nls (l : List Nat) : Int := ((l.filter (· == 10)).length : Int)
end Mine
end
section
open PySem PySem.W PySem.W.X PyProof.Rows
local macro_rules | `(tactic| k_head) => `(tactic| z_head)
namespace Mine
open_top hd for PySem.Challenge.rw_pw0018_03
open PySem.Spec PySem.Calls
theorem hd_W (H : ∀ (w : World) (s₁ : Shared) (vs : List Value) (ns : List Int), KT.Holds s₁.heap 1 0 (Mine.hd.ktop_300 w.params) → s₁.heap.NoLimit → s₁.gens = #[] → s₁.heap.objs.size = 151 → s₁.heap.get? 150 = some { cls := .type "list", data := .seq vs.toArray } → IntsAre vs ns → ns.length ≤ 63 →
    codeAny (model PySem.Challenge.pw_pw0018_03 w) callerA (.call (.ref 149) ⟨[.ref 150], []⟩) (fun r s' => r = .ok (.ret (.bool true)) ∧ OldK s₁.heap s'.heap ∧ s'.os = s₁.os ∧ s'.gens = s₁.gens) s₁) : PySem.Challenge.rw_pw0018_03.Holds := by
  refine Mine.hd ?_
  k_fill
  intro w s₀ s₁ mg mb G y fa o pm cd doc dV kV ho hd hcd hD hmg hg args vals as L hpre hlay hrd hwl hlo
  z_open y L KX ZH ZN ZT
  refine Ground.open G ?_
  intro T B D TE TW
  wrow_args hpre hlay hrd hwl hlo
  obtain ⟨hat, hsz⟩ := script_at L
  rw [ZN] at hat hsz
  subst hat
  x_fa T KX hmg
  refine wpAny_call (codeAny_mono (H w s₁ _ _ ZH T.nolimit hg hsz (script_obj L (by assumption)) (by assumption) (by lia)) ?_)
  rintro r s' ⟨rfl, h1, h2, h3⟩
  obtain ⟨hp, g, d, t, os⟩ := s'
  have h2 : os = s₁.os := h2
  have h4 : g = s₁.gens := h3
  have hb : AllBare g := by rw [h4, hg]; exact AllBare.empty
  subst h2
  exact ⟨.inl ⟨_, _, [], rfl, (fun _ => rfl), ReadsW.bool true, (by first | rfl | wrow_post), fun _ => ⟨List.nodup_nil, fun _ hm => (nomatch hm)⟩⟩, h1, rfl, hb⟩
end Mine
end
section
namespace Mine
open PySem PySem.Spec PySem.Calls PyProof.Rows PySem.W PySem.W.X
structure Wd where
  w : World
  h₀ : Heap
  b1 : Bool
  b2 : Bool
  g : Array GenState
  d : Drawn
  os : OsState
noncomputable def BBg (tabs : List Tab) (loose : List Addr) (W : Wd) : Bs :=
  { prog := PySem.Challenge.pw_pw0018_03, w := W.w, h₀ := W.h₀, b1 := W.b1, b2 := W.b2, kt := Mine.hd.ktop_300 W.w.params, tabs, loose, g := W.g, d := W.d, os := W.os }
noncomputable def ktw (w : World) : KT := Mine.hd.ktop_300 w.params
noncomputable def fdAt (w : World) (a : Addr) : FuncData := match (ktw w).get a with
  | some o => match o.data with
    | .func fd => fd
    | _ => default
  | none => default
noncomputable def envF (w : World) (f L : Addr) (q : Str) (cells : List (Str × Addr)) : Env := { scope := (fdAt w f).scope, locals := L, globals := 3, cells, qual := q, func := some f, code := (fdAt w f).code, frame := some L, builtins := 0 }
theorem y_0 {motive : Wd → Prop} (t : ∀ w h b g d os, motive ⟨w, h, true, b, g, d, os⟩) (f : ∀ w h b g d os, motive ⟨w, h, false, b, g, d, os⟩) (W : Wd) : motive W := by
  obtain ⟨w, h, a, b, g, d, os⟩ := W
  cases a
  · exact f w h b g d os
  · exact t w h b g d os
theorem y_b {motive : Wd → Prop} (t : ∀ w h g d os, motive ⟨w, h, true, true, g, d, os⟩) (f : ∀ w h g d os, motive ⟨w, h, false, true, g, d, os⟩) (t' : ∀ w h g d os, motive ⟨w, h, true, false, g, d, os⟩) (f' : ∀ w h g d os, motive ⟨w, h, false, false, g, d, os⟩) (W : Wd) : motive W := by
  obtain ⟨w, h, a, b, g, d, os⟩ := W
  cases a <;> cases b
  · exact f' w h g d os
  · exact f w h g d os
  · exact t' w h g d os
  · exact t w h g d os
theorem y_true {motive : (W : Wd) → W.b2 = true → Prop} (t : ∀ w h g d os, motive ⟨w, h, true, true, g, d, os⟩ rfl) (f : ∀ w h g d os, motive ⟨w, h, false, true, g, d, os⟩ rfl) (W : Wd) (hb : W.b2 = true) : motive W hb := by
  obtain ⟨w, h, a, b, g, d, os⟩ := W
  have hb' : b = true := hb
  subst hb'
  cases a
  · exact f w h g d os
  · exact t w h g d os
theorem y_false {motive : (W : Wd) → W.b2 = false → Prop} (t : ∀ w h g d os, motive ⟨w, h, true, false, g, d, os⟩ rfl) (f : ∀ w h g d os, motive ⟨w, h, false, false, g, d, os⟩ rfl) (W : Wd) (hb : W.b2 = false) : motive W hb := by
  obtain ⟨w, h, a, b, g, d, os⟩ := W
  have hb' : b = false := hb
  subst hb'
  cases a
  · exact f w h g d os
  · exact t w h g d os
end Mine
end
section

namespace Mine
open PySem PySem.Spec PySem.Calls PyProof.Rows PySem.W PySem.W.X PySem.Builtin.Str
noncomputable def s_lineno : Str := ⟨#[108, 105, 110, 101, 110, 111]⟩
noncomputable def s_instream : Str := ⟨#[105, 110, 115, 116, 114, 101, 97, 109]⟩
noncomputable def s_whitespace : Str := ⟨#[119, 104, 105, 116, 101, 115, 112, 97, 99, 101]⟩
noncomputable def s_pushback : Str := ⟨#[112, 117, 115, 104, 98, 97, 99, 107]⟩
noncomputable def s_self : Str := ⟨#[115, 101, 108, 102]⟩
noncomputable def s_token : Str := ⟨#[116, 111, 107, 101, 110]⟩
noncomputable def s_fiter : Str := ⟨#[102, 105, 116, 101, 114]⟩
noncomputable def s_ch : Str := ⟨#[99, 104]⟩
noncomputable def s_read : Str := ⟨#[114, 101, 97, 100]⟩
noncomputable def s_place : Str := ⟨#[112, 108, 97, 99, 101]⟩
noncomputable def s_text : Str := ⟨#[116, 101, 120, 116]⟩
noncomputable def s_ws : Str := ⟨#[10, 9, 13, 32]⟩
noncomputable def s_nl : Str := ⟨#[10]⟩
noncomputable def s_readq : Str := ⟨#[95, 108, 97, 119, 95, 115, 116, 114, 101, 97, 109, 46, 60, 108, 111, 99, 97, 108, 115, 62, 46, 114, 101, 97, 100]⟩
noncomputable def s_lamq : Str := ⟨#[95, 108, 97, 119, 95, 115, 116, 114, 101, 97, 109, 46, 60, 108, 111, 99, 97, 108, 115, 62, 46, 60, 108, 97, 109, 98, 100, 97, 62]⟩
noncomputable def defOf : Stmt → Arguments × List Stmt × Scope
  | .FunctionDef _ args body _ _ _ scope _ _ _ => (args, body, scope)
  | _ => (default, [], default)
noncomputable def readFd (w : World) (cT cP ct co : Addr) : FuncData :=
  { name := s_read, qualname := s_readq, params := (defOf (nthS (stmtsOf (fdAt w 139)) 1)).1, body := .stmts (defOf (nthS (stmtsOf (fdAt w 139)) 1)).2.1, scope := (defOf (nthS (stmtsOf (fdAt w 139)) 1)).2.2,
    globals := 3, closure := [(s_text, cT), (s_place, cP)], defaults := .none, kwdefaults := .none, doc := .none, pyModule := (fdAt w 139).pyModule, annotations := none, code := .ref co, closureTuple := .ref ct, builtins := 0 }
noncomputable def theTabs : List Tab := [⟨134, [(131, 4, s_readq), (134, 13, s_lamq)]⟩, ⟨89, [(77, 4, ⟨#[95, 105, 110, 116, 50, 100, 105, 103, 105, 116, 115, 46, 60, 108, 111, 99, 97, 108, 115, 62, 46, 105, 110, 110, 101, 114]⟩)]⟩, ⟨96, [(92, 4, ⟨#[95, 100, 105, 103, 105, 116, 115, 50, 105, 110, 116, 46, 60, 108, 111, 99, 97, 108, 115, 62, 46, 105, 110, 110, 101, 114]⟩)]⟩]
noncomputable def BB (W : Wd) : Bs := BBg theTabs [] W
noncomputable def stdE (B : Bs) : List (BCut B) := stdL B
theorem y_1 {motive : Wd → Bool → Prop} (t : ∀ w h b g d os, motive ⟨w, h, true, b, g, d, os⟩ true) (f : ∀ w h b g d os, motive ⟨w, h, false, b, g, d, os⟩ true) (t' : ∀ w h b g d os, motive ⟨w, h, true, b, g, d, os⟩ false) (f' : ∀ w h b g d os, motive ⟨w, h, false, b, g, d, os⟩ false) (W : Wd) (z : Bool) : motive W z := by
  cases z
  · exact y_0 (motive := fun W => motive W false) t' f' W
  · exact y_0 (motive := fun W => motive W true) t f W
noncomputable def lxV (W : Wd) (x d t0 : Nat) (n : Int) (t1 t2 s t3 t4 t5 b : Nat) (L : List Value) (ep : Nat) (f : FuncData) (sd t6 r cT cP ct co t7 : Nat) (v : Value) (l : List Value) (tx : Str) (t8 pl : Nat) (p : Int) (t9 : Nat) : View :=
  let B := BB W
  [(x, instO 69 d), (d, dictO [kv B s_lineno t0 (.int n t1), kv B s_instream t2 (.ref s), kv B s_whitespace t3 (.str s_ws t4), kv B s_pushback t5 (.ref b)] 4), (b, listO L ep), (s, funcO f (some sd)), (sd, dictO [kv B s_read t6 (.ref r)] 1), (r, funcO (readFd W.w cT cP ct co) none), (co, codeZ s_readq t7 v l), (cT, cellO (.str tx t8)), (cP, cellO (.ref pl)), (pl, listO [(.int p t9)] 0)]
noncomputable def lxQ (W : Wd) (q : Lt) (a t i v l s : Nat) : View := lxV W (q.a a) (q.a (a + 1)) (q.t t) (q.i i) (q.t (t + 1)) (q.t (t + 2)) (q.a (a + 2)) (q.t (t + 3)) (q.t (t + 4)) (q.t (t + 5)) (q.a (a + 3)) (q.l l) (q.t (t + 6)) (q.f 0) (q.a (a + 4)) (q.t (t + 7)) (q.a (a + 5)) (q.a (a + 6)) (q.a (a + 7)) (q.a (a + 8)) (q.a (a + 9)) (q.t (t + 8)) (q.v v) (q.l (l + 1)) (q.s s) (q.t (t + 9)) (q.a (a + 10)) (q.i (i + 1)) (q.t (t + 10))
end Mine
end
section

namespace Mine
open PySem PySem.Spec PySem.Calls PyProof.Rows PySem.W PySem.W.X PySem.Builtin.Str
noncomputable def S_rc (W : Wd) : Sp (BB W) :=
  let B := BB W
  { d := 30
    c := fun q => .call (.ref 52) ⟨[.ref (q.a 0)], []⟩
    P := fun q => (chS (q.s 0) (q.i 1)).length ≤ sizeLine
    pre := fun q => lxQ W q 0 0 0 0 0 0
    R := fun q e => (e.i 0) = (if chS (q.s 0) (q.i 1) = s_nl then (q.i 0) + 1 else (q.i 0))
    res := fun q e => .ok (.ret (.str (chS (q.s 0) (q.i 1)) (e.t 2)))
    out := fun q e => lxV W (q.a 0) (q.a 1) (q.t 0) (e.i 0) (e.t 0) (q.t 2) (q.a 2) (q.t 3) (q.t 4) (q.t 5) (q.a 3) (q.l 0) (q.t 6) (q.f 0) (q.a 4) (q.t 7) (q.a 5) (q.a 6) (q.a 7) (q.a 8) (q.a 9) (q.t 8) (q.v 0) (q.l 1) (q.s 0) (q.t 9) (q.a 10) ((q.i 1) + 1) (e.t 1) }
theorem rc_no (W : Wd) (O : (BB W).Ok) (q : Lt) (hl : (chS (q.s 0) (q.i 1)).length ≤ sizeLine) (hne : chS (q.s 0) (q.i 1) ≠ s_nl) : At (S_rc W) 30 q := by
  refine tri_f O (stdE _) [] 2000 30 (hs := hx 87 0x33420030c301308030030030c30b00004c00c00c30c2ca30c30030030c00004c00c00c30b0010481c11c61451401401451450c0082000002000000081001040001) (is := [3,3,3,3,3,3,3,3,3,3])
    (fun (ρ : Rho) => ob hl <| ob hne <| fin (S_rc W) q (lt [] [q.2 1,ρ.1 8,ρ.1 13] [(q.i 0)] [] [] [] []) ((if_neg hne).symm) :) ?_
  induction W using y_0 <;> kernel_rfl
theorem rc_nl (W : Wd) (O : (BB W).Ok) (q : Lt) (hl : (chS (q.s 0) (q.i 1)).length ≤ sizeLine) (hne : chS (q.s 0) (q.i 1) = s_nl) : At (S_rc W) 30 q := by
  refine tri_f O (stdE _) [] 2000 30 (hs := hx 122 0xc51450040000040040001000000040001401040000040000001033020030c301308030030030c30b00004c00c00c30c2ca30c30030030c00004c00c00c30b0010481c11c61451401401451450c0082000002000000081001040001) (is := [3,3,3,3,3,3,3,3,3,3])
    (fun (ρ : Rho) => ob hl <| ob hne <| fin (S_rc W) q (lt [] [ρ.1 18,ρ.1 8,ρ.1 13] [(q.i 0) + 1] [] [] [] []) ((if_pos hne).symm) :) ?_
  induction W using y_0 <;> kernel_rfl
theorem rc_ok (W : Wd) (O : (BB W).Ok) : (S_rc W).Ok := fun q hl => by
  by_cases h : chS (q.s 0) (q.i 1) = s_nl
  · exact rc_nl W O q hl h
  · exact rc_no W O q hl h
end Mine
end
section

namespace Mine
open PySem PySem.Spec PySem.Calls PyProof.Rows PySem.W PySem.W.X PySem.Builtin.Str
theorem sIn_ws (c : Nat) : sIn s_ws ⟨#[c]⟩ = isWs c := by
  unfold sIn
  rw [StrLaws.found_one]
  unfold isWs s_ws
  simp only [List.mem_cons, List.not_mem_nil, or_false]
  by_cases h1 : c = 10 <;> by_cases h2 : c = 9 <;> by_cases h3 : c = 13 <;> by_cases h4 : c = 32 <;> simp [h1, h2, h3, h4]
theorem str1_ne {a b : Nat} (h : a ≠ b) : (⟨#[a]⟩ : Str) ≠ ⟨#[b]⟩ := fun e => h (by injection e with e; injection e with e; injection e)
theorem str0_ne (a : Nat) : (⟨#[]⟩ : Str) ≠ ⟨#[a]⟩ := fun e => by injection e with e; injection e with e; cases e
theorem nls_cons (c : Nat) (l : List Nat) : nls (c :: l) = nls [c] + nls l := by
  simp only [nls, List.filter]
  cases c == 10 <;> simp <;> lia
theorem rc_nls {text : Str} {p n n' : Int} {c : Nat} (hc : chS text p = ⟨#[c]⟩) (h : n' = if chS text p = s_nl then n + 1 else n) : n' = n + nls [c] := by
  rw [hc] at h
  by_cases hn : c = 10
  · subst hn; rw [if_pos (show (⟨#[10]⟩ : Str) = s_nl from rfl)] at h; rw [h]; rfl
  · rw [if_neg (show ¬ (⟨#[c]⟩ : Str) = s_nl from str1_ne hn)] at h
    have : (c == 10) = false := by simpa using hn
    rw [h]; simp [nls, List.filter, this]
noncomputable def GP (text : Str) (p : Int) (tok : Str) (l : List Nat) : Prop := 0 ≤ p ∧ rem text p = l ∧ tok.length + l.length ≤ sizeLine
noncomputable def GR (text : Str) (n : Int) (tok : Str) (l tk rest : List Nat) (p' n' : Int) (tok' : Str) : Prop := 0 ≤ p' ∧ rem text p' = rest ∧ tok' = tok ++ ⟨tk.toArray⟩ ∧ n' = n + nls l - nls rest
theorem app_nil (tok : Str) : tok = tok ++ ⟨([] : List Nat).toArray⟩ := (Str.append_empty tok).symm
theorem app_cons (tok : Str) (k : Nat) (tk : List Nat) : (tok ++ ⟨#[k]⟩) ++ ⟨tk.toArray⟩ = tok ++ (⟨(k :: tk).toArray⟩ : Str) := by
  cases tok with
  | mk a =>
  show (⟨_⟩ : Str) = ⟨_⟩
  congr 1
  apply Array.ext'
  show ((a ++ #[k]) ++ tk.toArray).toList = (a ++ (k :: tk).toArray).toList
  simp
theorem len_one (tok : Str) (k : Nat) : (tok ++ (⟨#[k]⟩ : Str)).length = tok.length + 1 := by
  show (tok.cps ++ #[k]).size = tok.cps.size + 1
  simp
section
variable {text : Str} {p n n' : Int} {tok : Str} {k : Nat} {l r tk rest : List Nat}
theorem g_ch (h : GP text p tok (k :: r)) : chS text p = ⟨#[k]⟩ := chS_cons h.1 h.2.1
theorem g_skip (h : GP text p tok (k :: r)) : GP text (p + 1) tok r := ⟨by have := h.1; lia, (rem_cons h.1 h.2.1).1, by have := h.2.2; simp only [List.length_cons] at this; lia⟩
theorem g_len (h : GP text p tok (k :: r)) (j : Nat) : (tok ++ (⟨#[j]⟩ : Str)).length ≤ sizeLine := by have := h.2.2; simp only [List.length_cons] at this; rw [len_one]; lia
theorem g_next (h : GP text p tok (k :: r)) (j : Nat) : GP text (p + 1) (tok ++ ⟨#[j]⟩) r := ⟨by have := h.1; lia, (rem_cons h.1 h.2.1).1, by have := h.2.2; simp only [List.length_cons] at this; rw [len_one]; lia⟩
theorem g_ws (h : GP text p tok (k :: r)) (he : n' = n + nls [k]) : GR text n tok (k :: r) [] r (p + 1) n' tok := ⟨(g_skip h).1, (g_skip h).2.1, app_nil tok, by rw [nls_cons k r]; lia⟩
theorem g_step (he : n' = n + nls [k]) {j : Nat} {p1 n1 : Int} {tok1 : Str} (h1 : GR text n' (tok ++ ⟨#[j]⟩) r tk rest p1 n1 tok1) : GR text n tok (k :: r) (j :: tk) rest p1 n1 tok1 :=
  ⟨h1.1, h1.2.1, by rw [h1.2.2.1, app_cons], by rw [h1.2.2.2, nls_cons k r]; lia⟩
theorem g_lift (he : n' = n + nls [k]) {p1 n1 : Int} {tok1 : Str} (h1 : GR text n' tok r tk rest p1 n1 tok1) : GR text n tok (k :: r) tk rest p1 n1 tok1 :=
  ⟨h1.1, h1.2.1, h1.2.2.1, by rw [h1.2.2.2, nls_cons k r]; lia⟩
end
noncomputable def gtEnv (w : World) (L : Addr) : Env := envF w 59 L ⟨#[95, 110, 101, 116, 114, 99, 108, 101, 120, 46, 103, 101, 116, 95, 116, 111, 107, 101, 110, 46, 60, 108, 111, 99, 97, 108, 115, 62, 46]⟩ []
noncomputable def gtSt (w : World) (p : List Nat) : Stmt := pathS (stmtsOf (fdAt w 59)) p
noncomputable def S_rcK (W : Wd) (k : Nat) : Sp (BB W) :=
  let B := BB W
  { d := 30
    c := fun q => .call (.ref 52) ⟨[.ref (q.a 0)], []⟩
    P := fun q => chS (q.s 0) (q.i 1) = ⟨#[k + 1]⟩
    pre := fun q => lxQ W q 0 0 0 0 0 0
    R := fun q e => (e.i 0) = (q.i 0) + nls [k + 1]
    res := fun q e => .ok (.ret (.str ⟨#[k + 1]⟩ (e.t 2)))
    out := fun q e => lxV W (q.a 0) (q.a 1) (q.t 0) (e.i 0) (e.t 0) (q.t 2) (q.a 2) (q.t 3) (q.t 4) (q.t 5) (q.a 3) (q.l 0) (q.t 6) (q.f 0) (q.a 4) (q.t 7) (q.a 5) (q.a 6) (q.a 7) (q.a 8) (q.a 9) (q.t 8) (q.v 0) (q.l 1) (q.s 0) (q.t 9) (q.a 10) ((q.i 1) + 1) (e.t 1) }
noncomputable def on_rcK : Code → View → Lt := fun c V => lt ([valA (nthV (cPos c) 0)]++xA V 0) ([]++xT V 1) [dI V 1 0,qI V 9 0] [valS (cellV (nthO V 7))] [nthV (sQ V 6) 0] [sQ V 2,dropV 2 (sQ V 6)] [fdO (nthO V 3)]
noncomputable def S_rcE (W : Wd) : Sp (BB W) :=
  let B := BB W
  { d := 30
    c := fun q => .call (.ref 52) ⟨[.ref (q.a 0)], []⟩
    P := fun q => chS (q.s 0) (q.i 1) = ⟨#[]⟩
    pre := fun q => lxQ W q 0 0 0 0 0 0
    R := fun q e => (e.i 0) = (q.i 0)
    res := fun q e => .ok (.ret (.str ⟨#[]⟩ (e.t 2)))
    out := fun q e => lxV W (q.a 0) (q.a 1) (q.t 0) (e.i 0) (e.t 0) (q.t 2) (q.a 2) (q.t 3) (q.t 4) (q.t 5) (q.a 3) (q.l 0) (q.t 6) (q.f 0) (q.a 4) (q.t 7) (q.a 5) (q.a 6) (q.a 7) (q.a 8) (q.a 9) (q.t 8) (q.v 0) (q.l 1) (q.s 0) (q.t 9) (q.a 10) ((q.i 1) + 1) (e.t 1) }
noncomputable def on_rcE : Code → View → Lt := fun c V => lt ([valA (nthV (cPos c) 0)]++xA V 0) ([]++xT V 1) [dI V 1 0,qI V 9 0] [valS (cellV (nthO V 7))] [nthV (sQ V 6) 0] [sQ V 2,dropV 2 (sQ V 6)] [fdO (nthO V 3)]
theorem rcK_ok (W : Wd) (O : (BB W).Ok) (k : Nat) : (S_rcK W k).Ok := fun q (h : chS _ _ = _) => (rc_ok W O q (by show (chS _ _).length ≤ sizeLine; rw [h]; exact Nat.le_of_ble_eq_true rfl)).mono (Nat.le_refl _) fun r V ⟨e, hR, hr, hV⟩ =>
  ⟨e, rc_nls h hR, hr.trans (by show Except.ok (Flow.ret (Value.str (chS _ _) _)) = _; rw [h]; rfl), hV⟩
theorem rcE_ok (W : Wd) (O : (BB W).Ok) : (S_rcE W).Ok := fun q (h : chS _ _ = _) => (rc_ok W O q (by show (chS _ _).length ≤ sizeLine; rw [h]; exact Nat.le_of_ble_eq_true rfl)).mono (Nat.le_refl _) fun r V ⟨e, hR, hr, hV⟩ =>
  ⟨e, by have z : e.i 0 = _ := hR; rw [h, if_neg (show ¬ (⟨#[]⟩ : Str) = s_nl from str0_ne 10)] at z; exact z, hr.trans (by show Except.ok (Flow.ret (Value.str (chS _ _) _)) = _; rw [h]; rfl), hV⟩
noncomputable def S_gl (W : Wd) (st : Stmt) (dd : Nat) (l tk rest : List Nat) : Sp (BB W) :=
  let B := BB W
  { d := dd
    c := fun q => forC st (q.a 1) (gtEnv W.w (q.a 0))
    P := fun q => GP (q.s 1) (q.i 1) (q.s 0) l
    pre := fun q => [((q.a 0),frameO [kv B s_self (q.t 0) (.ref (q.a 2)),kv B s_token (q.t 1) (.str (q.s 0) (q.t 2)),kv B s_fiter (q.t 3) (.ref (q.a 1)),kv B s_ch (q.t 4) (q.v 0)] 4),((q.a 1),fieldsO tCI [(.ref (q.a 3)),(.str ⟨#[]⟩ (q.t 5)),(.bool false)]),((q.a 3),methO (.ref 52) (.ref (q.a 2)))]++lxV W (q.a 2) (q.a 4) (q.t 6) (q.i 0) (q.t 7) (q.t 8) (q.a 5) (q.t 9) (q.t 10) (q.t 11) (q.a 6) (q.l 0) (q.t 12) (q.f 0) (q.a 7) (q.t 13) (q.a 8) (q.a 9) (q.a 10) (q.a 11) (q.a 12) (q.t 14) (q.v 1) (q.l 1) (q.s 1) (q.t 15) (q.a 13) (q.i 1) (q.t 16)
    R := fun q e => GR (q.s 1) (q.i 0) (q.s 0) l tk rest (e.i 0) (e.i 1) (e.s 0)
    res := fun q e => .ok (.ret (.str (e.s 0) (e.t 2)))
    out := fun q e => lxV W (q.a 2) (q.a 4) (q.t 6) (e.i 1) (e.t 0) (q.t 8) (q.a 5) (q.t 9) (q.t 10) (q.t 11) (q.a 6) (q.l 0) (q.t 12) (q.f 0) (q.a 7) (q.t 13) (q.a 8) (q.a 9) (q.a 10) (q.a 11) (q.a 12) (q.t 14) (q.v 1) (q.l 1) (q.s 1) (q.t 15) (q.a 13) (e.i 0) (e.t 1) }
noncomputable def on_gl : Code → View → Lt := fun c V => lt ([(cEnv c).locals,valA (cIt c),dA V 0 0,valA (nthV (sQ V 1) 0)]++xA V 3) ([kT V 0 0,kT V 0 1,dT V 0 1,kT V 0 2,kT V 0 3,qT V 1 1]++xT V 4) [dI V 4 0,qI V 12 0] [valS (dV V 0 1),valS (cellV (nthO V 10))] [dV V 0 3,nthV (sQ V 9) 0] [sQ V 5,dropV 2 (sQ V 9)] [fdO (nthO V 6)]
theorem l3_ws (W : Wd) (O : (BB W).Ok) (k : Nat) (r : List Nat) (q : Lt) (hq : (S_gl W (gtSt W.w [3, 0, 1, 1, 2]) 60 ((k + 1) :: r) [] r).P q) (hw : isWs (k + 1) = true) : At (S_gl W (gtSt W.w [3, 0, 1, 1, 2]) 60 ((k + 1) :: r) [] r) 60 q := by
  refine tri_f O (stdE _) [U (S_rcK W k) (rcK_ok W O k) on_rcK] 2000 60 (hs := hx 48 0x2d008008004100000100000004b2cb2cc3030c30c30c30c30ca0030c0003082004080080) (is := [0,0,0,0,0,0,0,0,0,0])
    (fun (ρ : Rho) => ob (g_ch hq) <| fun he0 : ((ρ.2 0).i 0) = (q.i 0) + nls [k + 1] => ob (A := ((⟨#[]⟩ : Str) ≠ ⟨#[k + 1]⟩)) (str0_ne _) <| ob (A := (sIn s_ws ⟨#[k + 1]⟩ = true)) ((sIn_ws _).trans hw) <| fin (S_gl W (gtSt W.w [3,0,1,1,2]) 60 ((k + 1)::r) [] r) q (lt [] [(ρ.2 0).2 0,(ρ.2 0).2 1,q.2 2] [q.i 1 + 1,(ρ.2 0).i 0] [q.s 0] [] [] []) (g_ws hq he0) :) ?_
  induction W using y_0 <;> kernel_rfl
theorem l3_chr (W : Wd) (O : (BB W).Ok) (k : Nat) (r tk rest : List Nat) (ih : (S_gl W (gtSt W.w [3, 0, 1, 1, 2]) 60 r tk rest).Ok) (q : Lt) (hq : (S_gl W (gtSt W.w [3, 0, 1, 1, 2]) 60 ((k + 1) :: r) ((k + 1) :: tk) rest).P q) (hw : isWs (k + 1) = false) (hk : k + 1 ≠ 92) : At (S_gl W (gtSt W.w [3, 0, 1, 1, 2]) 60 ((k + 1) :: r) ((k + 1) :: tk) rest) 60 q := by
  refine tri_f O (stdE _) [U (S_rcK W k) (rcK_ok W O k) on_rcK,U (S_gl W (gtSt W.w [3,0,1,1,2]) 60 r tk rest) ih on_gl] 2000 60 (hs := hx 74 0x28a28d0432cb48200b2cd0802d108008004100000100000004b2cb2cc3030c30c30c30c30ca0030c0003082004080080) (is := [0,0,0,0,0,0,0,0,0,0])
    (fun (ρ : Rho) => ob (g_ch hq) <| fun he0 : ((ρ.2 0).i 0) = (q.i 0) + nls [k + 1] => ob (A := ((⟨#[]⟩ : Str) ≠ ⟨#[k + 1]⟩)) (str0_ne _) <| ob (A := (sIn s_ws ⟨#[k + 1]⟩ = false)) ((sIn_ws _).trans hw) <| ob (A := ((⟨#[k + 1]⟩ : Str) ≠ ⟨#[92]⟩)) (str1_ne hk) <| ob (A := ((q.s 0++(⟨#[k + 1]⟩ : Str)).length ≤ sizeLine)) (g_len hq _) <| ob (A := (GP (q.s 1) (q.i 1 + 1 : Int) (q.s 0++Str.mk #[k + 1]) r)) (g_next hq _) <| fun he1 : GR (q.s 1) ((ρ.2 0).i 0 : Int) (q.s 0++Str.mk #[k + 1]) r tk rest ((ρ.2 1).i 0) ((ρ.2 1).i 1) ((ρ.2 1).s 0) => fin (S_gl W (gtSt W.w [3,0,1,1,2]) 60 ((k + 1)::r) ((k + 1)::tk) rest) q (lt [] [(ρ.2 1).2 0,(ρ.2 1).2 1,(ρ.2 1).2 2] [(ρ.2 1).i 0,(ρ.2 1).i 1] [(ρ.2 1).s 0] [] [] []) (g_step he0 he1) :) ?_
  induction W using y_0 <;> kernel_rfl
theorem l3_esc (W : Wd) (O : (BB W).Ok) (k : Nat) (r tk rest : List Nat) (ih : (S_gl W (gtSt W.w [3, 0, 1, 1, 2]) 60 r tk rest).Ok) (q : Lt) (hq : (S_gl W (gtSt W.w [3, 0, 1, 1, 2]) 60 (92 :: (k + 1) :: r) ((k + 1) :: tk) rest).P q) : At (S_gl W (gtSt W.w [3, 0, 1, 1, 2]) 60 (92 :: (k + 1) :: r) ((k + 1) :: tk) rest) 60 q := by
  refine tri_f O (stdE _) [U (S_rcK W 91) (rcK_ok W O 91) on_rcK,U (S_rcK W k) (rcK_ok W O k) on_rcK,U (S_gl W (gtSt W.w [3,0,1,1,2]) 60 r tk rest) ih on_gl] 2000 60 (hs := hx 104 0x28a28d0832cb48200b2cb2c000000000000000a0430020400000010000010000012c000b00008004100000100000004b2cb2cc3030c30c30c30c30ca0030c0003082004080080) (is := [0,0,0,0,0,0,0,0,0,0])
    (fun (ρ : Rho) => ob (g_ch hq) <| fun he0 : ((ρ.2 0).i 0) = (q.i 0) + nls [91 + 1] => ob (A := ((⟨#[]⟩ : Str) ≠ ⟨#[92]⟩)) (str0_ne _) <| ob (g_ch (g_skip hq)) <| fun he1 : ((ρ.2 1).i 0) = ((ρ.2 0).i 0 : Int) + nls [k + 1] => ob (A := ((q.s 0++(⟨#[k + 1]⟩ : Str)).length ≤ sizeLine)) (g_len (g_skip hq) _) <| ob (A := (GP (q.s 1) (q.i 1 + 1 + 1 : Int) (q.s 0++Str.mk #[k + 1]) r)) (g_next (g_skip hq) _) <| fun he2 : GR (q.s 1) ((ρ.2 1).i 0 : Int) (q.s 0++Str.mk #[k + 1]) r tk rest ((ρ.2 2).i 0) ((ρ.2 2).i 1) ((ρ.2 2).s 0) => fin (S_gl W (gtSt W.w [3,0,1,1,2]) 60 (92::(k + 1)::r) ((k + 1)::tk) rest) q (lt [] [(ρ.2 2).2 0,(ρ.2 2).2 1,(ρ.2 2).2 2] [(ρ.2 2).i 0,(ρ.2 2).i 1] [(ρ.2 2).s 0] [] [] []) (g_lift he0 (g_step he1 he2)) :) ?_
  induction W using y_0 <;> kernel_rfl
theorem l2_q (W : Wd) (O : (BB W).Ok) (r : List Nat) (q : Lt) (hq : (S_gl W (gtSt W.w [3, 0, 1, 0, 0]) 60 (34 :: r) [] r).P q) : At (S_gl W (gtSt W.w [3, 0, 1, 0, 0]) 60 (34 :: r) [] r) 60 q := by
  refine tri_f O (stdE _) [U (S_rcK W 33) (rcK_ok W O 33) on_rcK] 2000 60 (hs := hx 33 0xb0002cb2cc3030c30c30c30c30ca0030c0003082004080080) (is := [0,0,0,0,0,0,0,0,0,0])
    (fun (ρ : Rho) => ob (g_ch hq) <| fun he0 : ((ρ.2 0).i 0) = (q.i 0) + nls [33 + 1] => ob (A := ((⟨#[]⟩ : Str) ≠ ⟨#[34]⟩)) (str0_ne _) <| fin (S_gl W (gtSt W.w [3,0,1,0,0]) 60 (34::r) [] r) q (lt [] [(ρ.2 0).2 0,(ρ.2 0).2 1,q.2 2] [q.i 1 + 1,(ρ.2 0).i 0] [q.s 0] [] [] []) (g_ws hq he0) :) ?_
  induction W using y_0 <;> kernel_rfl
theorem l2_chr (W : Wd) (O : (BB W).Ok) (k : Nat) (r tk rest : List Nat) (ih : (S_gl W (gtSt W.w [3, 0, 1, 0, 0]) 60 r tk rest).Ok) (q : Lt) (hq : (S_gl W (gtSt W.w [3, 0, 1, 0, 0]) 60 ((k + 1) :: r) ((k + 1) :: tk) rest).P q) (h34 : k + 1 ≠ 34) (hk : k + 1 ≠ 92) : At (S_gl W (gtSt W.w [3, 0, 1, 0, 0]) 60 ((k + 1) :: r) ((k + 1) :: tk) rest) 60 q := by
  refine tri_f O (stdE _) [U (S_rcK W k) (rcK_ok W O k) on_rcK,U (S_gl W (gtSt W.w [3,0,1,0,0]) 60 r tk rest) ih on_gl] 2000 60 (hs := hx 60 0x28a28d0432cb48200b2cd0802cd0802cb2cc3030c30c30c30c30ca0030c0003082004080080) (is := [0,0,0,0,0,0,0,0,0,0])
    (fun (ρ : Rho) => ob (g_ch hq) <| fun he0 : ((ρ.2 0).i 0) = (q.i 0) + nls [k + 1] => ob (A := ((⟨#[]⟩ : Str) ≠ ⟨#[k + 1]⟩)) (str0_ne _) <| ob (A := ((⟨#[k + 1]⟩ : Str) ≠ ⟨#[34]⟩)) (str1_ne h34) <| ob (A := ((⟨#[k + 1]⟩ : Str) ≠ ⟨#[92]⟩)) (str1_ne hk) <| ob (A := ((q.s 0++(⟨#[k + 1]⟩ : Str)).length ≤ sizeLine)) (g_len hq _) <| ob (A := (GP (q.s 1) (q.i 1 + 1 : Int) (q.s 0++Str.mk #[k + 1]) r)) (g_next hq _) <| fun he1 : GR (q.s 1) ((ρ.2 0).i 0 : Int) (q.s 0++Str.mk #[k + 1]) r tk rest ((ρ.2 1).i 0) ((ρ.2 1).i 1) ((ρ.2 1).s 0) => fin (S_gl W (gtSt W.w [3,0,1,0,0]) 60 ((k + 1)::r) ((k + 1)::tk) rest) q (lt [] [(ρ.2 1).2 0,(ρ.2 1).2 1,(ρ.2 1).2 2] [(ρ.2 1).i 0,(ρ.2 1).i 1] [(ρ.2 1).s 0] [] [] []) (g_step he0 he1) :) ?_
  induction W using y_0 <;> kernel_rfl
theorem l2_esc (W : Wd) (O : (BB W).Ok) (k : Nat) (r tk rest : List Nat) (ih : (S_gl W (gtSt W.w [3, 0, 1, 0, 0]) 60 r tk rest).Ok) (q : Lt) (hq : (S_gl W (gtSt W.w [3, 0, 1, 0, 0]) 60 (92 :: (k + 1) :: r) ((k + 1) :: tk) rest).P q) : At (S_gl W (gtSt W.w [3, 0, 1, 0, 0]) 60 (92 :: (k + 1) :: r) ((k + 1) :: tk) rest) 60 q := by
  refine tri_f O (stdE _) [U (S_rcK W 91) (rcK_ok W O 91) on_rcK,U (S_rcK W k) (rcK_ok W O k) on_rcK,U (S_gl W (gtSt W.w [3,0,1,0,0]) 60 r tk rest) ih on_gl] 2000 60 (hs := hx 90 0x28a28d0832cb48200b2cb2c000000000000000a0430020400000010000010000012c000b0002cb2cc3030c30c30c30c30ca0030c0003082004080080) (is := [0,0,0,0,0,0,0,0,0,0])
    (fun (ρ : Rho) => ob (g_ch hq) <| fun he0 : ((ρ.2 0).i 0) = (q.i 0) + nls [91 + 1] => ob (A := ((⟨#[]⟩ : Str) ≠ ⟨#[92]⟩)) (str0_ne _) <| ob (g_ch (g_skip hq)) <| fun he1 : ((ρ.2 1).i 0) = ((ρ.2 0).i 0 : Int) + nls [k + 1] => ob (A := ((q.s 0++(⟨#[k + 1]⟩ : Str)).length ≤ sizeLine)) (g_len (g_skip hq) _) <| ob (A := (GP (q.s 1) (q.i 1 + 1 + 1 : Int) (q.s 0++Str.mk #[k + 1]) r)) (g_next (g_skip hq) _) <| fun he2 : GR (q.s 1) ((ρ.2 1).i 0 : Int) (q.s 0++Str.mk #[k + 1]) r tk rest ((ρ.2 2).i 0) ((ρ.2 2).i 1) ((ρ.2 2).s 0) => fin (S_gl W (gtSt W.w [3,0,1,0,0]) 60 (92::(k + 1)::r) ((k + 1)::tk) rest) q (lt [] [(ρ.2 2).2 0,(ρ.2 2).2 1,(ρ.2 2).2 2] [(ρ.2 2).i 0,(ρ.2 2).i 1] [(ρ.2 2).s 0] [] [] []) (g_lift he0 (g_step he1 he2)) :) ?_
  induction W using y_0 <;> kernel_rfl
theorem l3_tri (W : Wd) (O : (BB W).Ok) {l tk rest : List Nat} (z : Lx3 l tk rest) : (S_gl W (gtSt W.w [3, 0, 1, 1, 2]) 60 l tk rest).Ok := by
  induction z with
  | ws hw => exact fun q hq => l3_ws W O _ _ q hq hw
  | esc _ ih => exact fun q hq => l3_esc W O _ _ _ _ ih q hq
  | chr hw hk _ ih => exact fun q hq => l3_chr W O _ _ _ _ ih q hq hw hk
theorem l2_tri (W : Wd) (O : (BB W).Ok) {l tk rest : List Nat} (z : Lx2 l tk rest) : (S_gl W (gtSt W.w [3, 0, 1, 0, 0]) 60 l tk rest).Ok := by
  induction z with
  | q => exact fun q hq => l2_q W O _ q hq
  | esc _ ih => exact fun q hq => l2_esc W O _ _ _ _ ih q hq
  | chr hw hk _ ih => exact fun q hq => l2_chr W O _ _ _ _ ih q hq hw hk
end Mine
end
section

namespace Mine
open PySem PySem.Spec PySem.Calls PyProof.Rows PySem.W PySem.W.X PySem.Builtin.Str
noncomputable def S_g0 (W : Wd) (st : Stmt) (dd : Nat) (l tk rest : List Nat) : Sp (BB W) :=
  let B := BB W
  { d := dd
    c := fun q => forC st (q.a 1) (gtEnv W.w (q.a 0))
    P := fun q => GP (q.s 1) (q.i 1) (q.s 0) l
    pre := fun q => [((q.a 0),frameO [kv B s_self (q.t 0) (.ref (q.a 2)),kv B s_token (q.t 1) (.str (q.s 0) (q.t 2)),kv B s_fiter (q.t 3) (.ref (q.a 1))] 3),((q.a 1),fieldsO tCI [(.ref (q.a 3)),(.str ⟨#[]⟩ (q.t 4)),(.bool false)]),((q.a 3),methO (.ref 52) (.ref (q.a 2)))]++lxV W (q.a 2) (q.a 4) (q.t 5) (q.i 0) (q.t 6) (q.t 7) (q.a 5) (q.t 8) (q.t 9) (q.t 10) (q.a 6) (q.l 0) (q.t 11) (q.f 0) (q.a 7) (q.t 12) (q.a 8) (q.a 9) (q.a 10) (q.a 11) (q.a 12) (q.t 13) (q.v 0) (q.l 1) (q.s 1) (q.t 14) (q.a 13) (q.i 1) (q.t 15)
    R := fun q e => GR (q.s 1) (q.i 0) (q.s 0) l tk rest (e.i 0) (e.i 1) (e.s 0)
    res := fun q e => .ok (.ret (.str (e.s 0) (e.t 2)))
    out := fun q e => lxV W (q.a 2) (q.a 4) (q.t 5) (e.i 1) (e.t 0) (q.t 7) (q.a 5) (q.t 8) (q.t 9) (q.t 10) (q.a 6) (q.l 0) (q.t 11) (q.f 0) (q.a 7) (q.t 12) (q.a 8) (q.a 9) (q.a 10) (q.a 11) (q.a 12) (q.t 13) (q.v 0) (q.l 1) (q.s 1) (q.t 14) (q.a 13) (e.i 0) (e.t 1) }
noncomputable def on_g0 : Code → View → Lt := fun c V => lt ([(cEnv c).locals,valA (cIt c),dA V 0 0,valA (nthV (sQ V 1) 0)]++xA V 3) ([kT V 0 0,kT V 0 1,dT V 0 1,kT V 0 2,qT V 1 1]++xT V 4) [dI V 4 0,qI V 12 0] [valS (dV V 0 1),valS (cellV (nthO V 10))] [nthV (sQ V 9) 0] [sQ V 5,dropV 2 (sQ V 9)] [fdO (nthO V 6)]
inductive Ly1 : List Nat → List Nat → List Nat → Prop where
  | ws {c : Nat} {r tk rest : List Nat} : isWs (c + 1) = true → Ly1 r tk rest → Ly1 ((c + 1) :: r) tk rest
  | quo {r tk rest : List Nat} : Lx2 r tk rest → Ly1 (34 :: r) tk rest
  | esc {c : Nat} {r tk rest : List Nat} : Lx3 r tk rest → Ly1 (92 :: (c + 1) :: r) ((c + 1) :: tk) rest
  | chr {c : Nat} {r tk rest : List Nat} : isWs (c + 1) = false → c + 1 ≠ 34 → c + 1 ≠ 92 → Lx3 r tk rest → Ly1 ((c + 1) :: r) ((c + 1) :: tk) rest
inductive Le1 : List Nat → Prop where
  | fin : Le1 []
  | ws {c : Nat} {r : List Nat} : isWs (c + 1) = true → Le1 r → Le1 ((c + 1) :: r)
theorem lx1_cases {l tk rest : List Nat} (h : Lx1 l tk rest) : Ly1 l tk rest ∨ (Le1 l ∧ tk = [] ∧ rest = []) := by
  induction h with
  | fin => exact .inr ⟨.fin, rfl, rfl⟩
  | ws hw _ ih => exact ih.elim (fun z => .inl (.ws hw z)) (fun z => .inr ⟨.ws hw z.1, z.2⟩)
  | quo h => exact .inl (.quo h)
  | esc h => exact .inl (.esc h)
  | chr a b c h => exact .inl (.chr a b c h)
theorem l1_ws (W : Wd) (O : (BB W).Ok) (k : Nat) (r tk rest : List Nat) (ih : (S_gl W (gtSt W.w [3]) 70 r tk rest).Ok) (q : Lt) (hq : (S_gl W (gtSt W.w [3]) 70 ((k + 1) :: r) tk rest).P q) (hw : isWs (k + 1) = true) : At (S_gl W (gtSt W.w [3]) 70 ((k + 1) :: r) tk rest) 70 q := by
  refine tri_f O (stdE _) [U (S_rcK W k) (rcK_ok W O k) on_rcK,U (S_gl W (gtSt W.w [3]) 70 r tk rest) ih on_gl] 2000 70 (hs := hx 63 0xa28a3410d008008004100000100000004b2cb2cc3030c30c30c30c30ca0030c0003082004080080) (is := [0,0,0,0,0,0,0,0,0,0])
    (fun (ρ : Rho) => ob (g_ch hq) <| fun he0 : ((ρ.2 0).i 0) = (q.i 0) + nls [k + 1] => ob (A := ((⟨#[]⟩ : Str) ≠ ⟨#[k + 1]⟩)) (str0_ne _) <| ob (A := (sIn s_ws ⟨#[k + 1]⟩ = true)) ((sIn_ws _).trans hw) <| ob (g_skip hq) <| fun he1 : GR (q.s 1) ((ρ.2 0).i 0 : Int) (q.s 0) r tk rest ((ρ.2 1).i 0) ((ρ.2 1).i 1) ((ρ.2 1).s 0) => fin (S_gl W (gtSt W.w [3]) 70 ((k + 1)::r) tk rest) q (lt [] [(ρ.2 1).2 0,(ρ.2 1).2 1,(ρ.2 1).2 2] [(ρ.2 1).i 0,(ρ.2 1).i 1] [(ρ.2 1).s 0] [] [] []) (g_lift he0 he1) :) ?_
  induction W using y_0 <;> kernel_rfl
theorem l1_quo (W : Wd) (O : (BB W).Ok) (r tk rest : List Nat) (hz : Lx2 r tk rest) (q : Lt) (hq : (S_gl W (gtSt W.w [3]) 70 (34 :: r) tk rest).P q) : At (S_gl W (gtSt W.w [3]) 70 (34 :: r) tk rest) 70 q := by
  refine tri_f O (stdE _) [U (S_rcK W 33) (rcK_ok W O 33) on_rcK,U (S_gl W (gtSt W.w [3,0,1,0,0]) 60 r tk rest) (l2_tri W O hz) on_gl] 2000 70 (hs := hx 72 0x28a28d04330030030c2c000b00008004100000100000004b2cb2cc3030c30c30c30c30ca0030c0003082004080080) (is := [0,0,0,0,0,0,0,0,0,0])
    (fun (ρ : Rho) => ob (g_ch hq) <| fun he0 : ((ρ.2 0).i 0) = (q.i 0) + nls [33 + 1] => ob (A := ((⟨#[]⟩ : Str) ≠ ⟨#[34]⟩)) (str0_ne _) <| ob (g_skip hq) <| fun he1 : GR (q.s 1) ((ρ.2 0).i 0 : Int) (q.s 0) r tk rest ((ρ.2 1).i 0) ((ρ.2 1).i 1) ((ρ.2 1).s 0) => fin (S_gl W (gtSt W.w [3]) 70 (34::r) tk rest) q (lt [] [(ρ.2 1).2 0,(ρ.2 1).2 1,(ρ.2 1).2 2] [(ρ.2 1).i 0,(ρ.2 1).i 1] [(ρ.2 1).s 0] [] [] []) (g_lift he0 he1) :) ?_
  induction W using y_0 <;> kernel_rfl
theorem l1_chr (W : Wd) (O : (BB W).Ok) (k : Nat) (r tk rest : List Nat) (hz : Lx3 r tk rest) (q : Lt) (hq : (S_gl W (gtSt W.w [3]) 70 ((k + 1) :: r) ((k + 1) :: tk) rest).P q) (hw : isWs (k + 1) = false) (h34 : k + 1 ≠ 34) (hk : k + 1 ≠ 92) : At (S_gl W (gtSt W.w [3]) 70 ((k + 1) :: r) ((k + 1) :: tk) rest) 70 q := by
  refine tri_f O (stdE _) [U (S_rcK W k) (rcK_ok W O k) on_rcK,U (S_gl W (gtSt W.w [3,0,1,1,2]) 60 r tk rest) (l3_tri W O hz) on_gl] 2000 70 (hs := hx 85 0xa28a3410cc00c00c30b2cb48200b2cd0802cd0802d108008004100000100000004b2cb2cc3030c30c30c30c30ca0030c0003082004080080) (is := [0,0,0,0,0,0,0,0,0,0])
    (fun (ρ : Rho) => ob (g_ch hq) <| fun he0 : ((ρ.2 0).i 0) = (q.i 0) + nls [k + 1] => ob (A := ((⟨#[]⟩ : Str) ≠ ⟨#[k + 1]⟩)) (str0_ne _) <| ob (A := (sIn s_ws ⟨#[k + 1]⟩ = false)) ((sIn_ws _).trans hw) <| ob (A := ((⟨#[k + 1]⟩ : Str) ≠ ⟨#[34]⟩)) (str1_ne h34) <| ob (A := ((⟨#[k + 1]⟩ : Str) ≠ ⟨#[92]⟩)) (str1_ne hk) <| ob (A := ((q.s 0++(⟨#[k + 1]⟩ : Str)).length ≤ sizeLine)) (g_len hq _) <| ob (A := (GP (q.s 1) (q.i 1 + 1 : Int) (q.s 0++Str.mk #[k + 1]) r)) (g_next hq _) <| fun he1 : GR (q.s 1) ((ρ.2 0).i 0 : Int) (q.s 0++Str.mk #[k + 1]) r tk rest ((ρ.2 1).i 0) ((ρ.2 1).i 1) ((ρ.2 1).s 0) => fin (S_gl W (gtSt W.w [3]) 70 ((k + 1)::r) ((k + 1)::tk) rest) q (lt [] [(ρ.2 1).2 0,(ρ.2 1).2 1,(ρ.2 1).2 2] [(ρ.2 1).i 0,(ρ.2 1).i 1] [(ρ.2 1).s 0] [] [] []) (g_step he0 he1) :) ?_
  induction W using y_0 <;> kernel_rfl
theorem l1_esc (W : Wd) (O : (BB W).Ok) (k : Nat) (r tk rest : List Nat) (hz : Lx3 r tk rest) (q : Lt) (hq : (S_gl W (gtSt W.w [3]) 70 (92 :: (k + 1) :: r) ((k + 1) :: tk) rest).P q) : At (S_gl W (gtSt W.w [3]) 70 (92 :: (k + 1) :: r) ((k + 1) :: tk) rest) 70 q := by
  refine tri_f O (stdE _) [U (S_rcK W 91) (rcK_ok W O 91) on_rcK,U (S_rcK W k) (rcK_ok W O k) on_rcK,U (S_gl W (gtSt W.w [3,0,1,1,2]) 60 r tk rest) (l3_tri W O hz) on_gl] 2000 70 (hs := hx 114 0x28a28d08330030030c2cb2d20802cb2cb0000000000000002810c008100000004000004000004b0002c000b00008004100000100000004b2cb2cc3030c30c30c30c30ca0030c0003082004080080) (is := [0,0,0,0,0,0,0,0,0,0])
    (fun (ρ : Rho) => ob (g_ch hq) <| fun he0 : ((ρ.2 0).i 0) = (q.i 0) + nls [91 + 1] => ob (A := ((⟨#[]⟩ : Str) ≠ ⟨#[92]⟩)) (str0_ne _) <| ob (g_ch (g_skip hq)) <| fun he1 : ((ρ.2 1).i 0) = ((ρ.2 0).i 0 : Int) + nls [k + 1] => ob (A := ((q.s 0++(⟨#[k + 1]⟩ : Str)).length ≤ sizeLine)) (g_len (g_skip hq) _) <| ob (A := (GP (q.s 1) (q.i 1 + 1 + 1 : Int) (q.s 0++Str.mk #[k + 1]) r)) (g_next (g_skip hq) _) <| fun he2 : GR (q.s 1) ((ρ.2 1).i 0 : Int) (q.s 0++Str.mk #[k + 1]) r tk rest ((ρ.2 2).i 0) ((ρ.2 2).i 1) ((ρ.2 2).s 0) => fin (S_gl W (gtSt W.w [3]) 70 (92::(k + 1)::r) ((k + 1)::tk) rest) q (lt [] [(ρ.2 2).2 0,(ρ.2 2).2 1,(ρ.2 2).2 2] [(ρ.2 2).i 0,(ρ.2 2).i 1] [(ρ.2 2).s 0] [] [] []) (g_lift he0 (g_step he1 he2)) :) ?_
  induction W using y_0 <;> kernel_rfl
theorem l0_ws (W : Wd) (O : (BB W).Ok) (k : Nat) (r tk rest : List Nat) (ih : (S_gl W (gtSt W.w [3]) 70 r tk rest).Ok) (q : Lt) (hq : (S_g0 W (gtSt W.w [3]) 70 ((k + 1) :: r) tk rest).P q) (hw : isWs (k + 1) = true) : At (S_g0 W (gtSt W.w [3]) 70 ((k + 1) :: r) tk rest) 70 q := by
  refine tri_f O (stdE _) [U (S_rcK W k) (rcK_ok W O k) on_rcK,U (S_gl W (gtSt W.w [3]) 70 r tk rest) ih on_gl] 2000 70 (hs := hx 63 0xa28a3410d008008004100000100000004b2cb2cc3030c30c30c30c30ca0030c0003082004080080) (is := [0,0,0,0,0,0,0,0,0,0])
    (fun (ρ : Rho) => ob (g_ch hq) <| fun he0 : ((ρ.2 0).i 0) = (q.i 0) + nls [k + 1] => ob (A := ((⟨#[]⟩ : Str) ≠ ⟨#[k + 1]⟩)) (str0_ne _) <| ob (A := (sIn s_ws ⟨#[k + 1]⟩ = true)) ((sIn_ws _).trans hw) <| ob (g_skip hq) <| fun he1 : GR (q.s 1) ((ρ.2 0).i 0 : Int) (q.s 0) r tk rest ((ρ.2 1).i 0) ((ρ.2 1).i 1) ((ρ.2 1).s 0) => fin (S_g0 W (gtSt W.w [3]) 70 ((k + 1)::r) tk rest) q (lt [] [(ρ.2 1).2 0,(ρ.2 1).2 1,(ρ.2 1).2 2] [(ρ.2 1).i 0,(ρ.2 1).i 1] [(ρ.2 1).s 0] [] [] []) (g_lift he0 he1) :) ?_
  induction W using y_0 <;> kernel_rfl
theorem l0_quo (W : Wd) (O : (BB W).Ok) (r tk rest : List Nat) (hz : Lx2 r tk rest) (q : Lt) (hq : (S_g0 W (gtSt W.w [3]) 70 (34 :: r) tk rest).P q) : At (S_g0 W (gtSt W.w [3]) 70 (34 :: r) tk rest) 70 q := by
  refine tri_f O (stdE _) [U (S_rcK W 33) (rcK_ok W O 33) on_rcK,U (S_gl W (gtSt W.w [3,0,1,0,0]) 60 r tk rest) (l2_tri W O hz) on_gl] 2000 70 (hs := hx 72 0x28a28d04330030030c2c000b00008004100000100000004b2cb2cc3030c30c30c30c30ca0030c0003082004080080) (is := [0,0,0,0,0,0,0,0,0,0])
    (fun (ρ : Rho) => ob (g_ch hq) <| fun he0 : ((ρ.2 0).i 0) = (q.i 0) + nls [33 + 1] => ob (A := ((⟨#[]⟩ : Str) ≠ ⟨#[34]⟩)) (str0_ne _) <| ob (g_skip hq) <| fun he1 : GR (q.s 1) ((ρ.2 0).i 0 : Int) (q.s 0) r tk rest ((ρ.2 1).i 0) ((ρ.2 1).i 1) ((ρ.2 1).s 0) => fin (S_g0 W (gtSt W.w [3]) 70 (34::r) tk rest) q (lt [] [(ρ.2 1).2 0,(ρ.2 1).2 1,(ρ.2 1).2 2] [(ρ.2 1).i 0,(ρ.2 1).i 1] [(ρ.2 1).s 0] [] [] []) (g_lift he0 he1) :) ?_
  induction W using y_0 <;> kernel_rfl
theorem l0_chr (W : Wd) (O : (BB W).Ok) (k : Nat) (r tk rest : List Nat) (hz : Lx3 r tk rest) (q : Lt) (hq : (S_g0 W (gtSt W.w [3]) 70 ((k + 1) :: r) ((k + 1) :: tk) rest).P q) (hw : isWs (k + 1) = false) (h34 : k + 1 ≠ 34) (hk : k + 1 ≠ 92) : At (S_g0 W (gtSt W.w [3]) 70 ((k + 1) :: r) ((k + 1) :: tk) rest) 70 q := by
  refine tri_f O (stdE _) [U (S_rcK W k) (rcK_ok W O k) on_rcK,U (S_gl W (gtSt W.w [3,0,1,1,2]) 60 r tk rest) (l3_tri W O hz) on_gl] 2000 70 (hs := hx 85 0xa28a3410cc00c00c30b2cb48200b2cd0802cd0802d108008004100000100000004b2cb2cc3030c30c30c30c30ca0030c0003082004080080) (is := [0,0,0,0,0,0,0,0,0,0])
    (fun (ρ : Rho) => ob (g_ch hq) <| fun he0 : ((ρ.2 0).i 0) = (q.i 0) + nls [k + 1] => ob (A := ((⟨#[]⟩ : Str) ≠ ⟨#[k + 1]⟩)) (str0_ne _) <| ob (A := (sIn s_ws ⟨#[k + 1]⟩ = false)) ((sIn_ws _).trans hw) <| ob (A := ((⟨#[k + 1]⟩ : Str) ≠ ⟨#[34]⟩)) (str1_ne h34) <| ob (A := ((⟨#[k + 1]⟩ : Str) ≠ ⟨#[92]⟩)) (str1_ne hk) <| ob (A := ((q.s 0++(⟨#[k + 1]⟩ : Str)).length ≤ sizeLine)) (g_len hq _) <| ob (A := (GP (q.s 1) (q.i 1 + 1 : Int) (q.s 0++Str.mk #[k + 1]) r)) (g_next hq _) <| fun he1 : GR (q.s 1) ((ρ.2 0).i 0 : Int) (q.s 0++Str.mk #[k + 1]) r tk rest ((ρ.2 1).i 0) ((ρ.2 1).i 1) ((ρ.2 1).s 0) => fin (S_g0 W (gtSt W.w [3]) 70 ((k + 1)::r) ((k + 1)::tk) rest) q (lt [] [(ρ.2 1).2 0,(ρ.2 1).2 1,(ρ.2 1).2 2] [(ρ.2 1).i 0,(ρ.2 1).i 1] [(ρ.2 1).s 0] [] [] []) (g_step he0 he1) :) ?_
  induction W using y_0 <;> kernel_rfl
theorem l0_esc (W : Wd) (O : (BB W).Ok) (k : Nat) (r tk rest : List Nat) (hz : Lx3 r tk rest) (q : Lt) (hq : (S_g0 W (gtSt W.w [3]) 70 (92 :: (k + 1) :: r) ((k + 1) :: tk) rest).P q) : At (S_g0 W (gtSt W.w [3]) 70 (92 :: (k + 1) :: r) ((k + 1) :: tk) rest) 70 q := by
  refine tri_f O (stdE _) [U (S_rcK W 91) (rcK_ok W O 91) on_rcK,U (S_rcK W k) (rcK_ok W O k) on_rcK,U (S_gl W (gtSt W.w [3,0,1,1,2]) 60 r tk rest) (l3_tri W O hz) on_gl] 2000 70 (hs := hx 114 0x28a28d08330030030c2cb2d20802cb2cb0000000000000002810c008100000004000004000004b0002c000b00008004100000100000004b2cb2cc3030c30c30c30c30ca0030c0003082004080080) (is := [0,0,0,0,0,0,0,0,0,0])
    (fun (ρ : Rho) => ob (g_ch hq) <| fun he0 : ((ρ.2 0).i 0) = (q.i 0) + nls [91 + 1] => ob (A := ((⟨#[]⟩ : Str) ≠ ⟨#[92]⟩)) (str0_ne _) <| ob (g_ch (g_skip hq)) <| fun he1 : ((ρ.2 1).i 0) = ((ρ.2 0).i 0 : Int) + nls [k + 1] => ob (A := ((q.s 0++(⟨#[k + 1]⟩ : Str)).length ≤ sizeLine)) (g_len (g_skip hq) _) <| ob (A := (GP (q.s 1) (q.i 1 + 1 + 1 : Int) (q.s 0++Str.mk #[k + 1]) r)) (g_next (g_skip hq) _) <| fun he2 : GR (q.s 1) ((ρ.2 1).i 0 : Int) (q.s 0++Str.mk #[k + 1]) r tk rest ((ρ.2 2).i 0) ((ρ.2 2).i 1) ((ρ.2 2).s 0) => fin (S_g0 W (gtSt W.w [3]) 70 (92::(k + 1)::r) ((k + 1)::tk) rest) q (lt [] [(ρ.2 2).2 0,(ρ.2 2).2 1,(ρ.2 2).2 2] [(ρ.2 2).i 0,(ρ.2 2).i 1] [(ρ.2 2).s 0] [] [] []) (g_lift he0 (g_step he1 he2)) :) ?_
  induction W using y_0 <;> kernel_rfl
theorem l1_tri (W : Wd) (O : (BB W).Ok) {l tk rest : List Nat} (z : Ly1 l tk rest) : (S_gl W (gtSt W.w [3]) 70 l tk rest).Ok := by
  induction z with
  | ws hw _ ih => exact fun q hq => l1_ws W O _ _ _ _ ih q hq hw
  | quo hz => exact fun q hq => l1_quo W O _ _ _ hz q hq
  | esc hz => exact fun q hq => l1_esc W O _ _ _ _ hz q hq
  | chr hw h34 hk hz => exact fun q hq => l1_chr W O _ _ _ _ hz q hq hw h34 hk
theorem l0_tri (W : Wd) (O : (BB W).Ok) {l tk rest : List Nat} (z : Ly1 l tk rest) : (S_g0 W (gtSt W.w [3]) 70 l tk rest).Ok := by
  cases z with
  | ws hw z => exact fun q hq => l0_ws W O _ _ _ _ (l1_tri W O z) q hq hw
  | quo hz => exact fun q hq => l0_quo W O _ _ _ hz q hq
  | esc hz => exact fun q hq => l0_esc W O _ _ _ _ hz q hq
  | chr hw h34 hk hz => exact fun q hq => l0_chr W O _ _ _ _ hz q hq hw h34 hk
noncomputable def S_ge (W : Wd) (l : List Nat) : Sp (BB W) :=
  let B := BB W
  { d := 70
    c := fun q => forC (gtSt W.w [3]) (q.a 1) (gtEnv W.w (q.a 0))
    P := fun q => GP (q.s 1) (q.i 1) (q.s 0) l
    pre := fun q => [((q.a 0),frameO [kv B s_self (q.t 0) (.ref (q.a 2)),kv B s_token (q.t 1) (.str (q.s 0) (q.t 2)),kv B s_fiter (q.t 3) (.ref (q.a 1)),kv B s_ch (q.t 4) (q.v 0)] 4),((q.a 1),fieldsO tCI [(.ref (q.a 3)),(.str ⟨#[]⟩ (q.t 5)),(.bool false)]),((q.a 3),methO (.ref 52) (.ref (q.a 2)))]++lxV W (q.a 2) (q.a 4) (q.t 6) (q.i 0) (q.t 7) (q.t 8) (q.a 5) (q.t 9) (q.t 10) (q.t 11) (q.a 6) (q.l 0) (q.t 12) (q.f 0) (q.a 7) (q.t 13) (q.a 8) (q.a 9) (q.a 10) (q.a 11) (q.a 12) (q.t 14) (q.v 1) (q.l 1) (q.s 1) (q.t 15) (q.a 13) (q.i 1) (q.t 16)
    R := fun q e => GR (q.s 1) (q.i 0) (q.s 0) l [] [] (e.i 0) (e.i 1) (q.s 0)
    res := fun q e => .ok .next
    out := fun q e => [((q.a 0),frameO [kv B s_self (q.t 0) (.ref (q.a 2)),kv B s_token (q.t 1) (.str (q.s 0) (q.t 2)),kv B s_fiter (q.t 3) (.ref (q.a 1)),kv B s_ch (q.t 4) (e.v 0)] 4)]++lxV W (q.a 2) (q.a 4) (q.t 6) (e.i 1) (e.t 0) (q.t 8) (q.a 5) (q.t 9) (q.t 10) (q.t 11) (q.a 6) (q.l 0) (q.t 12) (q.f 0) (q.a 7) (q.t 13) (q.a 8) (q.a 9) (q.a 10) (q.a 11) (q.a 12) (q.t 14) (q.v 1) (q.l 1) (q.s 1) (q.t 15) (q.a 13) (e.i 0) (e.t 1) }
noncomputable def on_ge : Code → View → Lt := fun c V => lt ([(cEnv c).locals,valA (cIt c),dA V 0 0,valA (nthV (sQ V 1) 0)]++xA V 3) ([kT V 0 0,kT V 0 1,dT V 0 1,kT V 0 2,kT V 0 3,qT V 1 1]++xT V 4) [dI V 4 0,qI V 12 0] [valS (dV V 0 1),valS (cellV (nthO V 10))] [dV V 0 3,nthV (sQ V 9) 0] [sQ V 5,dropV 2 (sQ V 9)] [fdO (nthO V 6)]
theorem g_fin {text : Str} {p n n' : Int} {tok : Str} (h : GP text p tok []) (he : n' = n) : GR text n tok [] [] [] (p + 1) n' tok := ⟨by have := h.1; lia, rem_nil h.1 h.2.1, app_nil tok, by lia⟩
theorem e1_fin (W : Wd) (O : (BB W).Ok) (q : Lt) (hq : (S_ge W []).P q) : At (S_ge W []) 70 q := by
  refine tri_f O (stdE _) [U (S_rcE W) (rcE_ok W O) on_rcE] 2000 70 (hs := hx 38 0x130c30c30c00d30c3030c30c30c30c30ca0030c0003082044080080) (is := [12,2,2,2,2,2,2,2,2,2,2])
    (fun (ρ : Rho) => ob (chS_nil hq.1 hq.2.1) <| fun he0 : ((ρ.2 0).i 0) = (q.i 0) => ob (A := ((⟨#[]⟩ : Str) = ⟨#[]⟩)) (rfl) <| fin (S_ge W []) q (lt [] [(ρ.2 0).2 0,(ρ.2 0).2 1] [q.i 1 + 1,(ρ.2 0).i 0] [] [q.5 0] [] []) (g_fin hq he0) :) ?_
  induction W using y_0 <;> kernel_rfl
theorem e1_ws (W : Wd) (O : (BB W).Ok) (k : Nat) (r : List Nat) (ih : (S_ge W r).Ok) (q : Lt) (hq : (S_ge W ((k + 1) :: r)).P q) (hw : isWs (k + 1) = true) : At (S_ge W ((k + 1) :: r)) 70 q := by
  refine tri_f O (stdE _) [U (S_rcK W k) (rcK_ok W O k) on_rcK,U (S_ge W r) ih on_ge] 2000 70 (hs := hx 63 0xa28a3410d008008004100000100000004b2cb2cc3030c30c30c30c30ca0030c0003082004080080) (is := [0,0,0,0,0,0,0,0,0,0,0])
    (fun (ρ : Rho) => ob (g_ch hq) <| fun he0 : ((ρ.2 0).i 0) = (q.i 0) + nls [k + 1] => ob (A := ((⟨#[]⟩ : Str) ≠ ⟨#[k + 1]⟩)) (str0_ne _) <| ob (A := (sIn s_ws ⟨#[k + 1]⟩ = true)) ((sIn_ws _).trans hw) <| ob (g_skip hq) <| fun he1 : GR (q.s 1) ((ρ.2 0).i 0 : Int) (q.s 0) r [] [] ((ρ.2 1).i 0) ((ρ.2 1).i 1) (q.s 0) => fin (S_ge W ((k + 1)::r)) q (lt [] [(ρ.2 1).2 0,(ρ.2 1).2 1] [(ρ.2 1).i 0,(ρ.2 1).i 1] [] [(ρ.2 1).5 0] [] []) (g_lift he0 he1) :) ?_
  induction W using y_0 <;> kernel_rfl
theorem ge_tri (W : Wd) (O : (BB W).Ok) {l : List Nat} (z : Le1 l) : (S_ge W l).Ok := by
  induction z with
  | fin => exact fun q hq => e1_fin W O q hq
  | ws hw _ ih => exact fun q hq => e1_ws W O _ _ ih q hq hw
noncomputable def S_gt (W : Wd) (l tk rest : List Nat) : Sp (BB W) :=
  let B := BB W
  { d := 80
    c := fun q => .call (.ref 59) ⟨[.ref (q.a 0)], []⟩
    P := fun q => GP (q.s 0) (q.i 1) ⟨#[]⟩ l
    pre := fun q => lxV W (q.a 0) (q.a 1) (q.t 0) (q.i 0) (q.t 1) (q.t 2) (q.a 2) (q.t 3) (q.t 4) (q.t 5) (q.a 3) [] (q.t 6) (q.f 0) (q.a 4) (q.t 7) (q.a 5) (q.a 6) (q.a 7) (q.a 8) (q.a 9) (q.t 8) (q.v 0) (q.l 0) (q.s 0) (q.t 9) (q.a 10) (q.i 1) (q.t 10)
    R := fun q e => GR (q.s 0) (q.i 0) ⟨#[]⟩ l tk rest (e.i 0) (e.i 1) (e.s 0)
    res := fun q e => .ok (.ret (.str (e.s 0) (e.t 2)))
    out := fun q e => lxV W (q.a 0) (q.a 1) (q.t 0) (e.i 1) (e.t 0) (q.t 2) (q.a 2) (q.t 3) (q.t 4) (q.t 5) (q.a 3) [] (q.t 6) (q.f 0) (q.a 4) (q.t 7) (q.a 5) (q.a 6) (q.a 7) (q.a 8) (q.a 9) (q.t 8) (q.v 0) (q.l 0) (q.s 0) (q.t 9) (q.a 10) (e.i 0) (e.t 1) }
theorem gt_word (W : Wd) (O : (BB W).Ok) (l tk rest : List Nat) (hz : Ly1 l tk rest) (q : Lt) (hq : (S_gt W l tk rest).P q) : At (S_gt W l tk rest) 80 q := by
  refine tri_f O (stdE _) [U (S_g0 W (gtSt W.w [3]) 70 l tk rest) (l0_tri W O hz) on_g0] 2000 80 (hs := hx 83 0x23400c10010010430c30400000000000030020800000000020000000810000411001001001040c0082000002000000081001040001) (is := [0,0,0,0,0,0,0,0,0,0])
    (fun (ρ : Rho) => ob hq <| fun he0 : GR (q.s 0) (q.i 0) (⟨#[]⟩) l tk rest ((ρ.2 0).i 0) ((ρ.2 0).i 1) ((ρ.2 0).s 0) => fin (S_gt W l tk rest) q (lt [] [(ρ.2 0).2 0,(ρ.2 0).2 1,(ρ.2 0).2 2] [(ρ.2 0).i 0,(ρ.2 0).i 1] [(ρ.2 0).s 0] [] [] []) (he0) :) ?_
  induction W using y_0 <;> kernel_rfl
theorem gt_end0 (W : Wd) (O : (BB W).Ok) (q : Lt) (hq : (S_gt W [] [] []).P q) : At (S_gt W [] [] []) 80 q := by
  refine tri_f O (stdE _) [U (S_rcE W) (rcE_ok W O) on_rcE] 2000 80 (hs := hx 106 0x3c004b2cb2cb2c030b2cb0c30c30c30c30c32800c20000810411010010010010010430c30400000000000030020800000000020000000810000411001001001040c0082000002000000081001040001) (is := [2,2,2,2,2,2,2,2,2,2])
    (fun (ρ : Rho) => ob (chS_nil hq.1 hq.2.1) <| fun he0 : ((ρ.2 0).i 0) = (q.i 0) => ob (A := ((⟨#[]⟩ : Str) = ⟨#[]⟩)) (rfl) <| fin (S_gt W [] [] []) q (lt [] [(ρ.2 0).2 0,(ρ.2 0).2 1,ρ.1 5] [q.i 1 + 1,(ρ.2 0).i 0] [⟨#[]⟩] [] [] []) (g_fin hq he0) :) ?_
  induction W using y_0 <;> kernel_rfl
theorem gt_end1 (W : Wd) (O : (BB W).Ok) (k : Nat) (r : List Nat) (hz : Le1 r) (q : Lt) (hq : (S_gt W ((k + 1) :: r) [] []).P q) (hw : isWs (k + 1) = true) : At (S_gt W ((k + 1) :: r) [] []) 80 q := by
  refine tri_f O (stdE _) [U (S_rcK W k) (rcK_ok W O k) on_rcK,U (S_ge W r) (ge_tri W O hz) on_ge] 2000 80 (hs := hx 131 0x100000000000000028a30d04340200200104000004000000134d34d2cb0c30c30c30c30c32800c20000810401010010010010010430c30400000000000030020800000000020000000810000411001001001040c0082000002000000081001040001) (is := [1,1,1,1,1,1,1,1,1,1])
    (fun (ρ : Rho) => ob (g_ch hq) <| fun he0 : ((ρ.2 0).i 0) = (q.i 0) + nls [k + 1] => ob (A := ((⟨#[]⟩ : Str) ≠ ⟨#[k + 1]⟩)) (str0_ne _) <| ob (A := (sIn s_ws ⟨#[k + 1]⟩ = true)) ((sIn_ws _).trans hw) <| ob (g_skip hq) <| fun he1 : GR (q.s 0) ((ρ.2 0).i 0 : Int) (⟨#[]⟩) r [] [] ((ρ.2 1).i 0) ((ρ.2 1).i 1) (⟨#[]⟩) => fin (S_gt W ((k + 1)::r) [] []) q (lt [] [(ρ.2 1).2 0,(ρ.2 1).2 1,ρ.1 5] [(ρ.2 1).i 0,(ρ.2 1).i 1] [⟨#[]⟩] [] [] []) (g_lift he0 he1) :) ?_
  induction W using y_0 <;> kernel_rfl
theorem gt_tri (W : Wd) (O : (BB W).Ok) {l tk rest : List Nat} (z : Lx1 l tk rest) : (S_gt W l tk rest).Ok := by
  rcases lx1_cases z with h | ⟨h, rfl, rfl⟩
  · exact fun q hq => gt_word W O _ _ _ h q hq
  · cases h with
    | fin => exact fun q hq => gt_end0 W O q hq
    | ws hw h => exact fun q hq => gt_end1 W O _ _ h q hq hw
noncomputable def S_gp (W : Wd) : Sp (BB W) :=
  let B := BB W
  { d := 40
    c := fun q => .call (.ref 59) ⟨[.ref (q.a 0)], []⟩
    P := fun q => (q.l 0).length + 1 ≤ sizeLine
    pre := fun q => lxV W (q.a 0) (q.a 1) (q.t 0) (q.i 0) (q.t 1) (q.t 2) (q.a 2) (q.t 3) (q.t 4) (q.t 5) (q.a 3) ((.str (q.s 0) (q.t 6))::(q.l 0)) (q.t 7) (q.f 0) (q.a 4) (q.t 8) (q.a 5) (q.a 6) (q.a 7) (q.a 8) (q.a 9) (q.t 9) (q.v 0) (q.l 1) (q.s 1) (q.t 10) (q.a 10) (q.i 1) (q.t 11)
    R := fun q e => True
    res := fun q e => .ok (.ret (.str (q.s 0) (q.t 6)))
    out := fun q e => lxV W (q.a 0) (q.a 1) (q.t 0) (q.i 0) (q.t 1) (q.t 2) (q.a 2) (q.t 3) (q.t 4) (q.t 5) (q.a 3) (q.l 0) ((q.t 7) + 1) (q.f 0) (q.a 4) (q.t 8) (q.a 5) (q.a 6) (q.a 7) (q.a 8) (q.a 9) (q.t 9) (q.v 0) (q.l 1) (q.s 1) (q.t 10) (q.a 10) (q.i 1) (q.t 11) }
theorem gp_run (W : Wd) (O : (BB W).Ok) (q : Lt) (hq : (S_gp W).P q) : At (S_gp W) 40 q := by
  refine tri_f O (stdE _) [] 2000 40 (hs := hx 48 0xdf0840041041030020800000800000020437421040c0082000002000000081001040001) (is := [1,1,1,1,1,1,1,1,1,1])
    (fun (ρ : Rho) => ob hq <| ob (A := ((0 : Int) = 0 ∧ (q.l 0).length + 1 ≤ sizeLine)) (⟨rfl,hq⟩) <| fin (S_gp W) q (lt [] [] [] [] [] [] []) (trivial) :) ?_
  induction W using y_0 <;> kernel_rfl
noncomputable def S_pt (W : Wd) : Sp (BB W) :=
  let B := BB W
  { d := 40
    c := fun q => .call (.ref 66) ⟨[.ref (q.a 0), .str (q.s 0) (q.t 0)], []⟩
    P := fun q => (q.l 0).length ≤ sizeLine
    pre := fun q => lxQ W q 0 1 0 0 0 1
    R := fun q e => True
    res := fun q e => .ok (.ret .none)
    out := fun q e => lxV W (q.a 0) (q.a 1) (q.t 1) (q.i 0) (q.t 2) (q.t 3) (q.a 2) (q.t 4) (q.t 5) (q.t 6) (q.a 3) ((q.l 0)++[Value.str (q.s 0) (q.t 0)]) ((q.t 7) + 1) (q.f 0) (q.a 4) (q.t 8) (q.a 5) (q.a 6) (q.a 7) (q.a 8) (q.a 9) (q.t 9) (q.v 0) (q.l 1) (q.s 1) (q.t 10) (q.a 10) (q.i 1) (q.t 11) }
noncomputable def on_pt : Code → View → Lt := fun c V => lt ([valA (nthV (cPos c) 0)]++xA V 0) ([valT (nthV (cPos c) 1)]++xT V 1) [dI V 1 0,qI V 9 0] [valS (nthV (cPos c) 1),valS (cellV (nthO V 7))] [nthV (sQ V 6) 0] [sQ V 2,dropV 2 (sQ V 6)] [fdO (nthO V 3)]
theorem pt_run (W : Wd) (O : (BB W).Ok) (q : Lt) (hq : (S_pt W).P q) : At (S_pt W) 40 q := by
  refine tri_f O (stdE _) [] 2000 40 (hs := hx 32 0xde0840011041040c0082000002000000081001041040001) (is := [1,1,1,1,1,1,1,1,1,1])
    (fun (ρ : Rho) => ob hq <| fin (S_pt W) q (lt [] [] [] [] [] [] []) (trivial) :) ?_
  induction W using y_0 <;> kernel_rfl
theorem gp_ok (W : Wd) (O : (BB W).Ok) : (S_gp W).Ok := fun q hq => gp_run W O q hq
theorem pt_ok (W : Wd) (O : (BB W).Ok) : (S_pt W).Ok := fun q hq => pt_run W O q hq
end Mine
end
section
namespace Mine
open PySem PySem.Spec PySem.Calls PyProof.Rows PySem.W PySem.W.X
noncomputable def Bs.loosen (B : Bs) (T : Tab) (tabs' : List Tab) : Bs := { B with tabs := tabs', loose := [T.addr] }
noncomputable def codeVs : List (Int × Int × Str) → List Addr → (Nat → Tok) → (Nat → Value) → (Nat → List Value) → Nat → View
  | m :: ms, a :: as, t, v, r, i => (a, codeO m.2.2 (t i) (v i) (r i)) :: codeVs ms as t v r (i + 1)
  | _, _, _, _, _, _ => []
theorem notCode_table (xs : Array Value) : isCodeO (tableObj xs) = false := by
  unfold tableObj isCodeO
  first | rfl | (show Nat.beq (S.codeS _) codeN = false; rw [← S.code_S]; decide +kernel)
theorem codeVs_code : ∀ (ms : List (Int × Int × Str)) (as : List Addr) (t v r i), ∀ p ∈ codeVs ms as t v r i, isCodeO p.2 = true
  | [], _, _, _, _, _ => fun p h => by simp [codeVs] at h
  | _ :: _, [], _, _, _, _ => fun p h => by simp [codeVs] at h
  | m :: ms, a :: as, t, v, r, i => fun p h => by
    unfold codeVs at h
    rcases List.mem_cons.mp h with rfl | h
    · exact isCodeO_codeO ..
    · exact codeVs_code ms as t v r (i + 1) p h
theorem excl_code {V : View} (h : ∀ p ∈ V, isCodeO p.2 = true) : excl V = [] := by
  unfold excl
  rw [List.filter_eq_nil_iff.mpr (fun p hp => by rw [h p hp]; simp)]
  rfl
theorem codeVs_zip : ∀ (ms : List (Int × Int × Str)) (as : List Addr) (t v r i), ∀ p ∈ as.zip (ms.map (·.2.2)), ∃ tk vv rest, (p.1, codeO p.2 tk vv rest) ∈ codeVs ms as t v r i
  | [], as, _, _, _, _ => fun p h => by simp at h
  | _ :: _, [], _, _, _, _ => fun p h => by simp at h
  | m :: ms, a :: as, t, v, r, i => fun p h => by
    simp only [List.map_cons, List.zip_cons_cons] at h
    rcases List.mem_cons.mp h with rfl | h
    · exact ⟨_, _, _, by unfold codeVs; exact .head _⟩
    · obtain ⟨x, y, z, e⟩ := codeVs_zip ms as t v r (i + 1) p h
      exact ⟨x, y, z, by unfold codeVs; exact .tail _ e⟩
theorem codeVs_has {h : Heap} : ∀ (ms : List (Int × Int × Str)) (as : List Addr) (i : Nat), (∀ p ∈ as.zip (ms.map (·.2.2)), ∃ tk v rest, h.get? p.1 = some (codeO p.2 tk v rest)) →
    ∃ t v r, ∀ p ∈ codeVs ms as t v r i, h.get? p.1 = some p.2
  | [], _, _, _ => ⟨fun _ => 0, fun _ => .none, fun _ => [], fun p h => by simp [codeVs] at h⟩
  | _ :: _, [], _, _ => ⟨fun _ => 0, fun _ => .none, fun _ => [], fun p h => by simp [codeVs] at h⟩
  | m :: ms, a :: as, i, hh => by
    simp only [List.map_cons, List.zip_cons_cons] at hh
    obtain ⟨tk, v, rest, e⟩ := hh _ (.head _)
    obtain ⟨t1, v1, r1, ih⟩ := codeVs_has ms as (i + 1) (fun p hp => hh p (.tail _ hp))
    have cong : ∀ (ms : List (Int × Int × Str)) (as : List Addr) (j : Nat) (t v r) (t' v' r'), (∀ k, j ≤ k → t k = t' k ∧ v k = v' k ∧ r k = r' k) → codeVs ms as t v r j = codeVs ms as t' v' r' j := by
      intro ms
      induction ms with
      | nil => intros; simp [codeVs]
      | cons m ms ihm =>
        intro as j t v r t' v' r' hk
        cases as with
        | nil => simp [codeVs]
        | cons a as =>
          unfold codeVs
          obtain ⟨e1, e2, e3⟩ := hk j (Nat.le_refl _)
          rw [e1, e2, e3, ihm as (j + 1) t v r t' v' r' (fun k hk' => hk k (by lia))]
    refine ⟨fun k => if k = i then tk else t1 k, fun k => if k = i then v else v1 k, fun k => if k = i then rest else r1 k, fun p hp => ?_⟩
    unfold codeVs at hp
    rcases List.mem_cons.mp hp with rfl | hp
    · simp only [if_true]; exact e
    · rw [cong ms as (i + 1) _ _ _ t1 v1 r1 (fun k hk => by
        have : ¬ k = i := by lia
        simp only [if_neg this, true_and])] at hp
      exact ih p hp
theorem Rep.loosen {B : Bs} {T : Tab} {tabs' : List Tab} {pre : View} {s : Shared} (hl : B.loose = []) (hm : ∀ t, t ∈ B.tabs ↔ t = T ∨ t ∈ tabs') (hne : ∀ t ∈ tabs', t.addr ≠ T.addr) (D : Rep B pre s)
    {as : List Addr} {t v r} (e : s.heap.get? T.addr = some (tableObj ⟨tabVals T.marks as⟩)) (hc : ∀ p ∈ codeVs T.marks as t v r 0, s.heap.get? p.1 = some p.2) :
    Rep (B.loosen T tabs') ((T.addr, tableObj ⟨tabVals T.marks as⟩) :: (codeVs T.marks as t v r 0 ++ pre)) s := by
  have ex : excl ((T.addr, tableObj ⟨tabVals T.marks as⟩) :: (codeVs T.marks as t v r 0 ++ pre)) = T.addr :: excl pre := by
    rw [excl_cons, if_neg (by rw [notCode_table]; simp), excl_append, excl_code (codeVs_code _ _ _ _ _ _)]
    rfl
  have priv : ∀ a ∈ excl pre, a ≠ T.addr := fun a ha h => (D.own a ha).2 ⟨T, (hm T).mpr (.inl rfl), h⟩
  refine ⟨⟨D.good.g, D.good.d, D.good.os, fun b o h1 h2 h3 => ?_, fun b hb => ?_, fun t ht => D.good.tabs t ((hm t).mpr (.inr ht))⟩, ?_, ?_, ?_⟩
  · refine D.good.kept b o h1 (by rw [hl]; simp) (fun t ht => ?_)
    rcases (hm t).mp ht with rfl | ht
    · exact fun h => h2 (by show b ∈ [_]; rw [h]; simp)
    · exact h3 t ht
  · have hb : b ∈ [T.addr] := hb
    have : b = T.addr := by simpa using hb
    subst this
    exact ⟨_, e⟩
  · intro p hp
    rcases List.mem_cons.mp hp with rfl | hp
    · exact e
    · rcases List.mem_append.mp hp with hp | hp
      · exact hc p hp
      · exact D.has p hp
  · rw [ex, List.nodup_cons]
    exact ⟨fun h => priv _ h rfl, D.nd⟩
  · intro a ha
    rw [ex] at ha
    rcases List.mem_cons.mp ha with rfl | ha
    · exact ⟨.inr (by show _ ∈ [T.addr]; simp), fun ⟨t, ht, h⟩ => hne t ht h.symm⟩
    · obtain ⟨h1, h2⟩ := D.own a ha
      refine ⟨?_, fun ⟨t, ht, h⟩ => h2 ⟨t, (hm t).mpr (.inr ht), h⟩⟩
      rcases h1 with h1 | h1
      · exact .inl h1
      · rw [hl] at h1; simp at h1
theorem Rep.tighten {B : Bs} {T : Tab} {tabs' : List Tab} {V1 : View} {s : Shared} (hl : B.loose = []) (hm : ∀ t, t ∈ B.tabs ↔ t = T ∨ t ∈ tabs')
    {as : List Addr} {t v r} {cs : View} (hlen : as = [] ∨ as.length = T.marks.length) (hcs : ∀ p ∈ codeVs T.marks as t v r 0, p ∈ cs)
    (D : Rep (B.loosen T tabs') ((T.addr, tableObj ⟨tabVals T.marks as⟩) :: (cs ++ V1)) s) : Rep B V1 s := by
  have nd := D.nd
  rw [excl_cons, if_neg (by rw [notCode_table]; simp), excl_append, List.nodup_cons, List.nodup_append] at nd
  have hE : ∀ a ∈ excl V1, a ≠ T.addr := fun a ha h => nd.1 (by rw [← h]; exact List.mem_append_right _ ha)
  have hin : ∀ p ∈ V1, p ∈ ((T.addr, tableObj ⟨tabVals T.marks as⟩) :: (cs ++ V1) : View) := fun p hp => .tail _ (List.mem_append_right _ hp)
  have eT : s.heap.get? T.addr = some (tableObj ⟨tabVals T.marks as⟩) := D.has _ (.head _)
  refine ⟨⟨D.good.g, D.good.d, D.good.os, fun b o h1 _ h3 => ?_, fun b hb => ?_, fun t' ht => ?_⟩, fun p hp => D.has p (hin p hp), nd.2.2.1, fun a ha => ?_⟩
  · exact D.good.kept b o h1 (by show b ∉ [T.addr]; simp; exact h3 T ((hm T).mpr (.inl rfl))) (fun t ht => h3 t ((hm t).mpr (.inr ht)))
  · rw [hl] at hb; simp at hb
  · rcases (hm t').mp ht with rfl | ht
    · refine ⟨as, hlen, eT, fun p hp => ?_⟩
      obtain ⟨tk, vv, rest, hmem⟩ := codeVs_zip t'.marks as t v r 0 p hp
      exact ⟨tk, vv, rest, D.has _ (.tail _ (List.mem_append_left _ (hcs _ hmem)))⟩
    · exact D.good.tabs t' ht
  · obtain ⟨h1, h2⟩ := D.own a (by rw [excl_cons, if_neg (by rw [notCode_table]; simp), excl_append]; exact .tail _ (List.mem_append_right _ ha))
    refine ⟨?_, fun ⟨t', ht, h⟩ => ?_⟩
    · rcases h1 with h1 | h1
      · exact .inl h1
      · have : a = T.addr := by simpa [Bs.loosen] using h1
        exact absurd this (hE a ha)
    · rcases (hm t').mp ht with rfl | ht
      · exact hE a ha h
      · exact h2 ⟨t', ht, h⟩
theorem tri_loose {B : Bs} {T : Tab} {tabs' : List Tab} (hl : B.loose = []) (hm : ∀ t, t ∈ B.tabs ↔ t = T ∨ t ∈ tabs') (hne : ∀ t ∈ tabs', t.addr ≠ T.addr) {d : Nat} {c : Code} {pre : View} {post : Result → View → Prop}
    (h : ∀ as t v r, (as = [] ∨ as.length = T.marks.length) → Tri (B.loosen T tabs') d c ((T.addr, tableObj ⟨tabVals T.marks as⟩) :: (codeVs T.marks as t v r 0 ++ pre))
      (fun res V => ∃ as' t' v' r' cs V0 V1, (as' = [] ∨ as'.length = T.marks.length) ∧ (∀ p ∈ codeVs T.marks as' t' v' r' 0, p ∈ cs) ∧ V = (T.addr, tableObj ⟨tabVals T.marks as'⟩) :: (cs ++ V0) ∧ (∀ p ∈ V1, p ∈ cs ++ V0) ∧ excl V1 = excl V0 ∧ post res V1)) :
    Tri B d c pre post := fun A s R D => by
  obtain ⟨as, hlen, e, hcd⟩ := D.good.tabs T ((hm T).mpr (.inl rfl))
  obtain ⟨t, v, r, hc⟩ := codeVs_has T.marks as 0 hcd
  have D' := D.loosen hl hm hne e hc
  refine codeAny_mono (h as t v r hlen A s R D') ?_
  rintro res s' ⟨V, ⟨as', t', v', r', cs, V0, V1, hl', hcs, rfl, hsub, hex, hp⟩, D1, x1⟩
  have D0 := D1.tighten hl hm hl' hcs
  have D2 : Rep B V1 s' := ⟨D0.good, fun p hp => D1.has p (.tail _ (hsub p hp)), by rw [hex]; exact D0.nd, fun a ha => D0.own a (by rw [← hex]; exact ha)⟩
  have ex : excl ((T.addr, tableObj ⟨tabVals T.marks as⟩) :: (codeVs T.marks as t v r 0 ++ pre)) = T.addr :: excl pre := by
    rw [excl_cons, if_neg (by rw [notCode_table]; simp), excl_append, excl_code (codeVs_code _ _ _ _ _ _)]
    rfl
  refine ⟨V1, hp, D2, fun a o e hn hp' => x1.same a o e ?_ ?_, fun a ha => ?_, x1.there⟩
  · rw [ex]
    intro hh
    rcases List.mem_cons.mp hh with rfl | hh
    · exact hp' ⟨T, (hm T).mpr (.inl rfl), rfl⟩
    · exact hn hh
  · exact fun ⟨t, ht, h⟩ => hp' ⟨t, (hm t).mpr (.inr ht), h⟩
  · have := x1.new a (by rw [excl_cons, if_neg (by rw [notCode_table]; simp), excl_append]; exact .tail _ (List.mem_append_right _ (by rw [← hex]; exact ha)))
    rw [ex] at this
    rcases this with h | h
    · rcases List.mem_cons.mp h with rfl | h
      · exact ((D2.own _ ha).2 ⟨T, (hm T).mpr (.inl rfl), rfl⟩).elim
      · exact .inl h
    · exact .inr h
end Mine
end
section

namespace Mine
open PySem PySem.Spec PySem.Calls PyProof.Rows PySem.W PySem.W.X PySem.Builtin.Str
noncomputable def tS : Tab := ⟨134, [(131, 4, s_readq), (134, 13, s_lamq)]⟩
noncomputable def tI : Tab := ⟨89, [(77, 4, ⟨#[95, 105, 110, 116, 50, 100, 105, 103, 105, 116, 115, 46, 60, 108, 111, 99, 97, 108, 115, 62, 46, 105, 110, 110, 101, 114]⟩)]⟩
noncomputable def tD : Tab := ⟨96, [(92, 4, ⟨#[95, 100, 105, 103, 105, 116, 115, 50, 105, 110, 116, 46, 60, 108, 111, 99, 97, 108, 115, 62, 46, 105, 110, 110, 101, 114]⟩)]⟩
noncomputable def BS (W : Wd) : Bs := (BB W).loosen tS [tI, tD]
noncomputable def BI (W : Wd) : Bs := (BB W).loosen tI [tS, tD]
noncomputable def BD (W : Wd) : Bs := (BB W).loosen tD [tS, tI]
theorem Ok_loosen {B : Bs} (O : B.Ok) {T : Tab} {tabs' : List Tab} (h1 : cStatics ≠ T.addr) (h2 : ∀ t ∈ tabs', cStatics ≠ t.addr) : (B.loosen T tabs').Ok := ⟨O.kt, O.b1, O.b2, O.lim, by show cStatics ∉ [T.addr]; simp [h1], h2⟩
noncomputable def lamFd (w : World) (co : Addr) : FuncData := match exOf (nthS (stmtsOf (fdAt w 139)) 2) with
  | .Lambda args body scope _ => { name := ⟨#[60, 108, 97, 109, 98, 100, 97, 62]⟩, qualname := s_lamq, params := args, body := .expr body, scope, globals := 3, closure := [], defaults := .none, kwdefaults := .none, doc := .none, pyModule := (fdAt w 139).pyModule, annotations := none, code := .ref co, closureTuple := .none, builtins := 0 }
  | _ => default
noncomputable def S_ls0 (W : Wd) : Sp (BS W) :=
  let B := BS W
  { d := 40
    c := fun q => .call (.ref 139) ⟨[.str (q.s 0) (q.t 0)], []⟩
    P := fun q => True
    pre := fun q => [(134,tableObj ⟨tabVals tS.marks []⟩)]
    R := fun q e => True
    res := fun q e => .ok (.ret (.ref (e.a 2)))
    out := fun q e => [(134,tableObj ⟨tabVals tS.marks [(e.a 0),(e.a 1)]⟩),((e.a 0),codeZ s_readq (e.t 0) (e.v 0) (e.l 0)),((e.a 1),codeZ s_lamq (e.t 1) (e.v 1) (e.l 1)),((e.a 2),funcO (e.f 0) (some (e.a 3))),((e.a 3),dictO [kv B s_read (e.t 2) (.ref (e.a 4))] 1),((e.a 4),funcO (readFd W.w (e.a 5) (e.a 6) (e.a 7) (e.a 0)) none),((e.a 5),cellO (.str (q.s 0) (q.t 0))),((e.a 6),cellO (.ref (e.a 8))),((e.a 8),listO [(.int 0 (e.t 3))] 0)] }
theorem ls0_run (W : Wd) (O : (BS W).Ok) (q : Lt) : Tri (BS W) 40 ((S_ls0 W).c q) ((S_ls0 W).pre q) ((S_ls0 W).post q) := by
  refine tri_f O (stdE _) [] 2000 40 (hs := hx 42 0x5010410810410010014d34d30000134d334030c00000c30c180082002080001) (is := [20,9,2,1,0,5,13,12,11])
    (fun (ρ : Rho) => fin (S_ls0 W) q (lt [ρ.1 19,ρ.1 32,ρ.1 33,ρ.1 36,ρ.1 20,ρ.1 1,ρ.1 2,ρ.1 5,ρ.1 4] [ρ.1 7,ρ.1 23,ρ.1 37,ρ.1 3] [] [] [(.str (⟨#[114,101,97,100]⟩) (ρ.1 6)),(.str (⟨#[60,108,97,109,98,100,97,62]⟩) (ρ.1 22))] [[(.str (⟨#[47,99,108,97,105,109,47,99,117,116,46,112,121]⟩) (ρ.1 8)),(.int (131) (0)),(.int (1) (0)),(.int (0) (0)),(.int (0) (0)),(.int (19) (0)),(.ref (ρ.1 11)),(.bool true),(.int (276) (0)),(.ref (ρ.1 12)),.none,(.ref (ρ.1 14)),(.ref (ρ.1 15)),(.ref (ρ.1 16)),(.int (↑(ρ.n 17)) (0)),(.int (131) (0)),(.str (⟨#[47,99,108,97,105,109,47,99,117,116,46,112,121]⟩) (ρ.1 18))],[(.str (⟨#[47,99,108,97,105,109,47,99,117,116,46,112,121]⟩) (ρ.1 24)),(.int (134) (0)),(.int (0) (0)),(.int (0) (0)),(.int (0) (0)),(.int (19) (0)),(.ref (ρ.1 25)),(.bool true),(.int (276) (0)),(.ref (ρ.1 26)),.none,(.ref (ρ.1 27)),(.ref (ρ.1 28)),(.ref (ρ.1 29)),(.int (↑(ρ.n 30)) (0)),(.int (134) (0)),(.str (⟨#[47,99,108,97,105,109,47,99,117,116,46,112,121]⟩) (ρ.1 31))]] [lamFd W.w (ρ.1 32)]) (trivial) :) ?_
  induction W using y_0 <;> kernel_rfl
noncomputable def S_ls1 (W : Wd) : Sp (BS W) :=
  let B := BS W
  { d := 40
    c := fun q => .call (.ref 139) ⟨[.str (q.s 0) (q.t 0)], []⟩
    P := fun q => True
    pre := fun q => [(134,tableObj ⟨tabVals tS.marks [(q.a 0),(q.a 1)]⟩),((q.a 0),codeZ s_readq (q.t 1) (q.v 0) (q.l 0)),((q.a 1),codeZ s_lamq (q.t 2) (q.v 1) (q.l 1))]
    R := fun q e => True
    res := fun q e => .ok (.ret (.ref (e.a 0)))
    out := fun q e => [(134,tableObj ⟨tabVals tS.marks [(q.a 0),(q.a 1)]⟩),((q.a 0),codeZ s_readq (q.t 1) (q.v 0) (q.l 0)),((q.a 1),codeZ s_lamq (q.t 2) (q.v 1) (q.l 1)),((e.a 0),funcO (e.f 0) (some (e.a 1))),((e.a 1),dictO [kv B s_read (e.t 0) (.ref (e.a 2))] 1),((e.a 2),funcO (readFd W.w (e.a 3) (e.a 4) (e.a 5) (q.a 0)) none),((e.a 3),cellO (.str (q.s 0) (q.t 0))),((e.a 4),cellO (.ref (e.a 6))),((e.a 6),listO [(.int 0 (e.t 1))] 0)] }
theorem ls1_run (W : Wd) (O : (BS W).Ok) (q : Lt) : Tri (BS W) 40 ((S_ls1 W).c q) ((S_ls1 W).pre q) ((S_ls1 W).post q) := by
  refine tri_f O (stdE _) [] 2000 40 (hs := hx 36 0x2010410810410010011c71c7000007006180000180082002080001) (is := [8,8,8,1,0,0,3,2,1])
    (fun (ρ : Rho) => fin (S_ls1 W) q (lt [ρ.1 8,ρ.1 11,ρ.1 6,ρ.1 1,ρ.1 2,ρ.1 5,ρ.1 4] [ρ.1 12,ρ.1 3] [] [] [] [] [lamFd W.w (q.a 1)]) (trivial) :) ?_
  induction W using y_0 <;> kernel_rfl
noncomputable def S_ls (W : Wd) : Sp (BB W) :=
  let B := BB W
  { d := 40
    c := fun q => .call (.ref 139) ⟨[.str (q.s 0) (q.t 0)], []⟩
    P := fun q => True
    pre := fun q => []
    R := fun q e => True
    res := fun q e => .ok (.ret (.ref (e.a 0)))
    out := fun q e => [((e.a 0),funcO (e.f 0) (some (e.a 1))),((e.a 1),dictO [kv B s_read (e.t 0) (.ref (e.a 2))] 1),((e.a 2),funcO (readFd W.w (e.a 3) (e.a 4) (e.a 5) (e.a 6)) none),((e.a 6),codeZ s_readq (e.t 1) (e.v 0) (e.l 0)),((e.a 3),cellO (.str (q.s 0) (q.t 0))),((e.a 4),cellO (.ref (e.a 7))),((e.a 7),listO [(.int 0 (e.t 2))] 0)] }
noncomputable def on_ls : Code → View → Lt := fun c V => lt [] [valT (nthV (cPos c) 0)] [] [valS (nthV (cPos c) 0)] [] [] []
theorem ls_ok (W : Wd) (O : (BB W).Ok) : (S_ls W).Ok := fun q hq => by
  refine tri_loose (B := BB W) (T := tS) (tabs' := [tI, tD]) rfl (fun t => by show t ∈ [tS, tI, tD] ↔ _; simp) (by intro t ht; simp only [List.mem_cons, List.not_mem_nil, or_false] at ht; rcases ht with rfl | rfl <;> decide) ?_
  intro as t v r hlen
  have OS : (BS W).Ok := Ok_loosen O (by decide) (by intro t ht; simp only [List.mem_cons, List.not_mem_nil, or_false] at ht; rcases ht with rfl | rfl <;> decide)
  rcases hlen with rfl | hlen
  · let q0 : Lt := lt [] [q.t 0] [] [q.s 0] [] [] []
    exact (ls0_run W OS q0).mono (Nat.le_refl _) (fun res V hV => by
      obtain ⟨e, _, hr, rfl⟩ := hV
      exact ⟨[(e.a 0), (e.a 1)], (li 0 [(e.t 0), (e.t 1)]), (li .none [(e.v 0), (e.v 1)]), (li [] [(e.l 0), (e.l 1)]), [((e.a 0), codeZ s_readq (e.t 0) (e.v 0) (e.l 0)), ((e.a 1), codeZ s_lamq (e.t 1) (e.v 1) (e.l 1))], [((e.a 2), funcO (e.f 0) (some (e.a 3))), ((e.a 3), dictO [kv (BB W) s_read (e.t 2) (.ref (e.a 4))] 1), ((e.a 4), funcO (readFd W.w (e.a 5) (e.a 6) (e.a 7) (e.a 0)) none), ((e.a 5), cellO (.str (q0.s 0) (q0.t 0))), ((e.a 6), cellO (.ref (e.a 8))), ((e.a 8), listO [(.int 0 (e.t 3))] 0)], [((e.a 2), funcO (e.f 0) (some (e.a 3))), ((e.a 3), dictO [kv (BB W) s_read (e.t 2) (.ref (e.a 4))] 1), ((e.a 4), funcO (readFd W.w (e.a 5) (e.a 6) (e.a 7) (e.a 0)) none), ((e.a 0), codeZ s_readq (e.t 0) (e.v 0) (e.l 0)), ((e.a 5), cellO (.str (q0.s 0) (q0.t 0))), ((e.a 6), cellO (.ref (e.a 8))), ((e.a 8), listO [(.int 0 (e.t 3))] 0)], .inr rfl,
        fun p hp => hp, rfl, fun p hp => by simp only [List.mem_cons, List.mem_append, List.not_mem_nil, or_false] at hp ⊢; rcases hp with h | h | h | h | h | h | h <;> subst h <;> simp, rfl, lt [e.a 2, e.a 3, e.a 4, e.a 5, e.a 6, e.a 7, e.a 0, e.a 8] [e.t 2, e.t 0, e.t 3] [] [] [e.v 0] [e.l 0] [e.f 0], trivial, hr, rfl⟩)
  · match as, hlen with
    | [x, y], _ =>
    let q0 : Lt := lt [x, y] [q.t 0, t 0, t 1] [] [q.s 0] [v 0, v 1] [r 0, r 1] []
    exact (ls1_run W OS q0).mono (Nat.le_refl _) (fun res V hV => by
      obtain ⟨e, _, hr, rfl⟩ := hV
      exact ⟨[(q0.a 0), (q0.a 1)], (li 0 [(q0.t 1), (q0.t 2)]), (li .none [(q0.v 0), (q0.v 1)]), (li [] [(q0.l 0), (q0.l 1)]), [((q0.a 0), codeZ s_readq (q0.t 1) (q0.v 0) (q0.l 0)), ((q0.a 1), codeZ s_lamq (q0.t 2) (q0.v 1) (q0.l 1))], [((e.a 0), funcO (e.f 0) (some (e.a 1))), ((e.a 1), dictO [kv (BB W) s_read (e.t 0) (.ref (e.a 2))] 1), ((e.a 2), funcO (readFd W.w (e.a 3) (e.a 4) (e.a 5) (q0.a 0)) none), ((e.a 3), cellO (.str (q0.s 0) (q0.t 0))), ((e.a 4), cellO (.ref (e.a 6))), ((e.a 6), listO [(.int 0 (e.t 1))] 0)], [((e.a 0), funcO (e.f 0) (some (e.a 1))), ((e.a 1), dictO [kv (BB W) s_read (e.t 0) (.ref (e.a 2))] 1), ((e.a 2), funcO (readFd W.w (e.a 3) (e.a 4) (e.a 5) (q0.a 0)) none), ((q0.a 0), codeZ s_readq (q0.t 1) (q0.v 0) (q0.l 0)), ((e.a 3), cellO (.str (q0.s 0) (q0.t 0))), ((e.a 4), cellO (.ref (e.a 6))), ((e.a 6), listO [(.int 0 (e.t 1))] 0)], .inr rfl,
        fun p hp => hp, rfl, fun p hp => by simp only [List.mem_cons, List.mem_append, List.not_mem_nil, or_false] at hp ⊢; rcases hp with h | h | h | h | h | h | h <;> subst h <;> simp, rfl, lt [e.a 0, e.a 1, e.a 2, e.a 3, e.a 4, e.a 5, q0.a 0, e.a 6] [e.t 0, q0.t 1, e.t 1] [] [] [q0.v 0] [q0.l 0] [e.f 0], trivial, hr, rfl⟩)
end Mine
end
section

namespace Mine
open PySem PySem.Spec PySem.Calls PyProof.Rows PySem.W PySem.W.X PySem.Builtin.Str
noncomputable def S_nl (W : Wd) : Sp (BB W) :=
  let B := BB W
  let pr := fun q : Lt => [((q.a 0),funcO (q.f 0) (some (q.a 1))),((q.a 1),dictO [kv B s_read (q.t 0) (.ref (q.a 2))] 1),((q.a 2),funcO (readFd W.w (q.a 3) (q.a 4) (q.a 5) (q.a 6)) none),((q.a 6),codeZ s_readq (q.t 1) (q.v 0) (q.l 0)),((q.a 3),cellO (.str (q.s 0) (q.t 2))),((q.a 4),cellO (.ref (q.a 7))),((q.a 7),listO [(.int (q.i 0) (q.t 3))] 0)]
  { d := 40
    c := fun q => .call (.ref 69) ⟨[.ref (q.a 0)], []⟩
    P := fun q => True
    pre := pr
    R := fun q e => True
    res := fun q e => .ok (.ret (.ref (e.a 0)))
    out := fun q e => [((e.a 0),instO 69 (e.a 1)),((e.a 1),dictO [kv B s_lineno (e.t 0) (.int 1 (e.t 1)),kv B s_instream (e.t 2) (.ref (q.a 0)),kv B s_whitespace (e.t 3) (.str s_ws (e.t 4)),kv B s_pushback (e.t 5) (.ref (e.a 2))] 4),((e.a 2),listO [] (e.t 6))]++(pr q).drop 0 }
noncomputable def on_nl : Code → View → Lt := fun c V => lt [valA (nthV (cPos c) 0),oD V 0,dA V 1 0,fC V 2 0,fC V 2 1,fdTup (fdO (nthO V 2)),fdCode (fdO (nthO V 2)),cA V 5] [kT V 1 0,qT V 3 1,cT V 4,qT V 6 0] [qI V 6 0] [valS (cellV (nthO V 4))] [nthV (sQ V 3) 0] [dropV 2 (sQ V 3)] [fdO (nthO V 0)]
theorem nl_run (W : Wd) (O : (BB W).Ok) (q : Lt) : At (S_nl W) 40 q := by
  refine tri_f O (stdE _) [] 2000 40 (hs := hx 127 0x41040030000030030000c00000030830c30020000020020000800000020430c30020000020020000800000020410c30c0080000080080002000000081001041040001000000040040000000000000000000000000000000000000000000000) (is := [2,2,0,1,1,1,1,1,1,1])
    (fun (ρ : Rho) => fin (S_nl W) q (lt [ρ.1 1,ρ.1 0,ρ.1 13] [ρ.1 7,ρ.1 5,ρ.1 9,ρ.1 12,ρ.1 10,ρ.1 15,0] [] [] [] [] []) (trivial) :) ?_
  induction W using y_0 <;> kernel_rfl
theorem nl_ok (W : Wd) (O : (BB W).Ok) : (S_nl W).Ok := fun q hq => nl_run W O q
end Mine
end
section
namespace Mine
open PySem PySem.Spec PySem.Calls PyProof.Rows PySem.W PySem.W.X PySem.Builtin.Re
open PySem.Sre (M)
noncomputable def code1 : Array Nat := #[14, 4, 0, 1, 1, 6, 1, 16, 46, 1]
noncomputable def code2 : Array Nat := #[14, 9, 4, 1, 2, 16, 10, 16, 13, 0, 7, 7, 16, 13, 16, 10, 15, 18, 5, 16, 10, 15, 13, 11, 16, 13, 5, 5, 0, 16, 10, 1, 15, 2, 0, 1]
theorem runFor_zero (m : M) : m.runFor 0 = m := rfl
theorem runFor_succ (n : Nat) (m : M) : m.runFor (n + 1) = if m.outcome.isSome then m else m.step.runFor n := rfl
theorem runFor_done {m : M} (h : m.outcome.isSome = true) : ∀ n, m.runFor n = m
  | 0 => rfl
  | n + 1 => by rw [runFor_succ, if_pos h]
theorem runFor_add : ∀ (a b : Nat) (m : M), m.runFor (a + b) = (m.runFor a).runFor b
  | 0, b, m => by rw [Nat.zero_add]; rfl
  | a + 1, b, m => by
    rw [Nat.succ_add, runFor_succ, runFor_succ]
    split
    · rename_i h; rw [runFor_done h]
    · exact runFor_add a b _
noncomputable def at1 (text : Array Nat) (L s : Nat) (seen : Sre.Seen) (first : Bool) : M :=
  { code := code1, text, lim := L, start := s, lastStart := L, pc := 5, pos := s, handed := s, outermost := first, marks := #[], frames := [{ wait := .nextStart, pc := 5, pos := s, outermost := first }], weight := 1, seen }
noncomputable def bol (text : Array Nat) (s : Nat) : Bool := s == 0 || text.getD (s - 1) 0 == 10
noncomputable def sn1 (seen : Sre.Seen) : Sre.Seen := (seen.add 6).add 44
theorem at1_step (text : Array Nat) (L s : Nat) (seen : Sre.Seen) (first : Bool) : (at1 text L s seen first).step =
    if bol text s = true then { at1 text L s (sn1 seen) first with pc := 7 } else (at1 text L s (sn1 seen) first).say false := by
  rfl
theorem lit1_step (text : Array Nat) (L s : Nat) (seen : Sre.Seen) (first : Bool) : ({ at1 text L s seen first with pc := 7 } : M).step =
    if s ≥ L then ({ at1 text L s (seen.add 16) first with pc := 7 } : M).say false else
    match (text.getD s 0 == 46) with
    | false => ({ at1 text L s (seen.add 16) first with pc := 7 } : M).say false
    | true => { at1 text L s (seen.add 16) first with pc := 9, pos := s + 1 } := by
  cases h : (text.getD s 0 == 46) with
  | false =>
    show (if s ≥ L then _ else match Sre.accepts code1 7 (text.getD s 0) (seen.add 16) with | .error why => _ | .ok (false, seen) => _ | .ok (true, seen) => _) = _
    have e : Sre.accepts code1 7 (text.getD s 0) (seen.add 16) = .ok (false, seen.add 16) := by
      show Except.ok (text.getD s 0 == 46, seen.add 16) = _
      rw [h]
    rw [e]
    rfl
  | true =>
    show (if s ≥ L then _ else match Sre.accepts code1 7 (text.getD s 0) (seen.add 16) with | .error why => _ | .ok (false, seen) => _ | .ok (true, seen) => _) = _
    have e : Sre.accepts code1 7 (text.getD s 0) (seen.add 16) = .ok (true, seen.add 16) := by
      show Except.ok (text.getD s 0 == 46, seen.add 16) = _
      rw [h]
    rw [e]
    rfl
theorem suc1_step (text : Array Nat) (L s : Nat) (seen : Sre.Seen) (first : Bool) : ({ at1 text L s seen first with pc := 9, pos := s + 1 } : M).step =
    ({ at1 text L s (seen.add 1) first with pc := 9, pos := s + 1, handed := s + 1 } : M).say true := by
  cases first <;> rfl
theorem no1_step (text : Array Nat) (L s : Nat) (seen : Sre.Seen) (first : Bool) (pc : Nat) : (({ at1 text L s seen first with pc } : M).say false).step =
    if s < L then at1 text L (s + 1) seen false else { at1 text L s seen first with frames := [], weight := 0, answer := some false } := by
  show (if s < L then _ else _) = _
  split
  · rfl
  · rfl
theorem yes1_end (text : Array Nat) (L s : Nat) (seen : Sre.Seen) (first : Bool) (pc pos h : Nat) :
    ((({ at1 text L s seen first with pc, pos, handed := h } : M).say true).runFor 2).outcome = some .matched ∧ ((({ at1 text L s seen first with pc, pos, handed := h } : M).say true).runFor 2).start = s ∧
    ((({ at1 text L s seen first with pc, pos, handed := h } : M).say true).runFor 2).handed = h := ⟨rfl, rfl, rfl⟩
noncomputable def hit1 (text : Array Nat) (L s : Nat) : Bool := bol text s && (decide (s < L) && text.getD s 0 == 46)
theorem run1 (n : Nat) (m : M) (h : m.outcome.isSome = false) : m.runFor (n + 1) = m.step.runFor n := by rw [runFor_succ, if_neg (by rw [h]; simp)]
theorem at1_hit {text : Array Nat} {L s : Nat} {seen : Sre.Seen} {first : Bool} (h : hit1 text L s = true) : ∃ n, n ≤ 8 ∧ ((at1 text L s seen first).runFor n).outcome = some .matched ∧ ((at1 text L s seen first).runFor n).start = s ∧ ((at1 text L s seen first).runFor n).handed = s + 1 := by
  unfold hit1 at h
  simp only [Bool.and_eq_true, decide_eq_true_eq] at h
  obtain ⟨h1, h2, h3⟩ := h
  refine ⟨5, by lia, ?_⟩
  rw [run1 _ _ rfl, at1_step, if_pos h1, run1 _ _ rfl, lit1_step, if_neg (by lia), h3]
  dsimp only
  rw [run1 _ _ rfl, suc1_step]
  exact yes1_end ..
theorem at1_miss {text : Array Nat} {L s : Nat} {seen : Sre.Seen} {first : Bool} (h : hit1 text L s = false) : ∃ n seen', n ≤ 8 ∧ (at1 text L s seen first).runFor n = if s < L then at1 text L (s + 1) seen' false else { at1 text L s seen' first with frames := [], weight := 0, answer := some false } := by
  cases h1 : bol text s with
  | false =>
    refine ⟨2, sn1 seen, by lia, ?_⟩
    rw [run1 _ _ rfl, at1_step, if_neg (by rw [h1]; simp), run1 _ _ rfl]
    exact (congrArg (M.runFor 0) (no1_step text L s (sn1 seen) first 5)).trans (by rw [runFor_zero])
  | true =>
    refine ⟨3, (sn1 seen).add 16, by lia, ?_⟩
    rw [run1 _ _ rfl, at1_step, if_pos h1, run1 _ _ rfl, lit1_step]
    unfold hit1 at h
    rw [h1, Bool.true_and] at h
    by_cases hl : s ≥ L
    · rw [if_pos hl, run1 _ _ rfl]
      exact (congrArg (M.runFor 0) (no1_step text L s _ first 7)).trans (by rw [runFor_zero])
    · have h3 : (text.getD s 0 == 46) = false := by
        rw [decide_eq_true (show s < L by lia), Bool.true_and] at h
        exact h
      rw [if_neg hl, h3]
      dsimp only
      rw [run1 _ _ rfl]
      exact (congrArg (M.runFor 0) (no1_step text L s _ first 7)).trans (by rw [runFor_zero])
theorem scan1 {text : Array Nat} {L : Nat} : ∀ (k s : Nat) (seen : Sre.Seen) (first : Bool), s + k = L →
    (∃ n i, n ≤ 8 * (k + 2) ∧ s ≤ i ∧ i < L ∧ hit1 text L i = true ∧ (∀ j, s ≤ j → j < i → hit1 text L j = false) ∧ ((at1 text L s seen first).runFor n).outcome = some .matched ∧ ((at1 text L s seen first).runFor n).start = i ∧ ((at1 text L s seen first).runFor n).handed = i + 1) ∨
    (∃ n, n ≤ 8 * (k + 2) ∧ (∀ j, s ≤ j → j < L → hit1 text L j = false) ∧ ((at1 text L s seen first).runFor n).outcome = some .failed)
  | 0, s, seen, first, e => by
    have hm : hit1 text L s = false := by
      unfold hit1
      rw [decide_eq_false (by lia)]
      simp
    obtain ⟨n, seen', hn, hr⟩ := at1_miss (seen := seen) (first := first) hm
    rw [if_neg (by lia)] at hr
    refine .inr ⟨n + 1, by lia, fun j h1 h2 => by lia, ?_⟩
    rw [runFor_add, hr]
    rfl
  | k + 1, s, seen, first, e => by
    cases hh : hit1 text L s with
    | true =>
      obtain ⟨n, hn, h1, h2, h3⟩ := at1_hit (seen := seen) (first := first) hh
      refine .inl ⟨n, s, ?_, Nat.le_refl _, ?_, hh, ?_, h1, h2, h3⟩
      · lia
      · lia
      · intro j h1 h2; lia
    | false =>
      obtain ⟨n, seen', hn, hr⟩ := at1_miss (seen := seen) (first := first) hh
      rw [if_pos (by lia)] at hr
      rcases scan1 (text := text) (L := L) k (s + 1) seen' false (by lia) with ⟨n', i, a1, a2, a3, a4, a5, a6, a7, a8⟩ | ⟨n', a1, a2, a3⟩
      · refine .inl ⟨n + n', i, by lia, by lia, a3, a4, fun j h1 h2 => ?_, ?_, ?_, ?_⟩
        · by_cases hj : j = s
          · rw [hj]; exact hh
          · exact a5 j (by lia) h2
        all_goals rw [runFor_add, hr]
        · exact a6
        · exact a7
        · exact a8
      · refine .inr ⟨n + n', by lia, fun j h1 h2 => ?_, ?_⟩
        · by_cases hj : j = s
          · rw [hj]; exact hh
          · exact a2 j (by lia) h2
        · rw [runFor_add, hr]; exact a3
noncomputable def Finds (code text : Array Nat) (b L : Nat) (r : Option (Nat × Nat)) : Prop := ∃ n, n ≤ 8 * (L + 4) ∧ match r with
  | some (i, j) => ((Sre.forSearch code text 0 b L false).runFor n).outcome = some .matched ∧ ((Sre.forSearch code text 0 b L false).runFor n).start = i ∧ ((Sre.forSearch code text 0 b L false).runFor n).handed = j
  | none => ((Sre.forSearch code text 0 b L false).runFor n).outcome = some .failed
theorem search1_start {text : Array Nat} {b L : Nat} (h : b < L) : ∃ seen, Sre.forSearch code1 text 0 b L false = at1 text L b seen true := by
  refine ⟨({} : Sre.Seen).add 14, ?_⟩
  show (if (decide (b > L) || decide (L - b < 1)) = true then _ else _) = _
  rw [if_neg (by simp; lia)]
  rfl
theorem search1_over {text : Array Nat} {b L : Nat} (h : ¬ b < L) : ((Sre.forSearch code1 text 0 b L false).runFor 1).outcome = some .failed := by
  have e : Sre.forSearch code1 text 0 b L false = ({ code := code1, text, lim := L, start := b, pc := 5, pos := b, handed := b, marks := #[], seen := ({} : Sre.Seen).add 14 } : M).say false := by
    show (if (decide (b > L) || decide (L - b < 1)) = true then _ else _) = _
    rw [if_pos (by simp; lia)]
    rfl
  rw [e]
  rfl
theorem finds1 (text : Array Nat) (b L : Nat) : (∃ i, b ≤ i ∧ i < L ∧ hit1 text L i = true ∧ (∀ j, b ≤ j → j < i → hit1 text L j = false) ∧ Finds code1 text b L (some (i, i + 1))) ∨
    ((∀ j, b ≤ j → j < L → hit1 text L j = false) ∧ Finds code1 text b L none) := by
  by_cases h : b < L
  · obtain ⟨seen, e⟩ := search1_start (text := text) h
    rcases scan1 (text := text) (L := L) (L - b) b seen true (by lia) with ⟨n, i, a1, a2, a3, a4, a5, a6⟩ | ⟨n, a1, a2, a3⟩
    · exact .inl ⟨i, a2, a3, a4, a5, n, by lia, by rw [e]; exact a6⟩
    · exact .inr ⟨a2, n, by lia, by rw [e]; exact a3⟩
  · exact .inr ⟨fun j h1 h2 => by lia, 1, by lia, search1_over h⟩
theorem lit_step (m : M) (h0 : m.outcome = none) (h1 : m.answer = none) (h2 : m.pc < m.code.size) (h3 : Sre.ops[m.word 0]? = some .LITERAL) : m.step =
    if m.pos ≥ m.lim then ({ m with seen := m.seen.add (m.word 0) } : M).say false else
    if (m.text.getD m.pos 0 == m.word 1) = true then { m with seen := m.seen.add (m.word 0), pc := m.pc + 2, pos := m.pos + 1 } else ({ m with seen := m.seen.add (m.word 0) } : M).say false := by
  obtain ⟨code, text, lim, start, lastStart, wholeText, mustAdvance, pc, pos, handed, outermost, marks, lastmark, lastindex, loops, inner, frames, weight, answer, seen, outcome⟩ := m
  dsimp only at h0 h1
  subst h0 h1
  generalize hm : (⟨code, text, lim, start, lastStart, wholeText, mustAdvance, pc, pos, handed, outermost, marks, lastmark, lastindex, loops, inner, frames, weight, none, seen, none⟩ : M) = m at *
  have hs : m.step = if m.pc < m.code.size then m.exec else m.stick "code:ran-off" := by subst hm; rfl
  rw [hs, if_pos h2]
  unfold M.exec
  dsimp only
  rw [h3]
  dsimp only
  have h3' : Sre.ops[m.code.getD m.pc 0]? = some .LITERAL := h3
  have ha : Sre.accepts m.code m.pc (m.text.getD m.pos 0) (m.seen.add (m.word 0)) = .ok (m.text.getD m.pos 0 == m.word 1, m.seen.add (m.word 0)) := by
    unfold Sre.accepts
    dsimp only
    rw [h3']
    rfl
  have hw : Sre.itemWidth m.code m.pc = 2 := by
    unfold Sre.itemWidth
    rw [h3']
  rw [ha, hw]
  split
  · rfl
  · cases (m.text.getD m.pos 0 == m.word 1)
    · exact (if_neg (by simp)).symm
    · exact (if_pos rfl).symm
noncomputable def at2 (text : Array Nat) (L s : Nat) (seen : Sre.Seen) (first : Bool) : M :=
  { code := code2, text, lim := L, start := s, lastStart := L, pc := 10, pos := s, handed := s, outermost := first, marks := #[], frames := [{ wait := .nextStart, pc := 10, pos := s, outermost := first }], weight := 1, seen }
noncomputable def eol (c : Nat) : Bool := c == 10 || c == 13
theorem inSet2 (c : Nat) (seen : Sre.Seen) : ∃ seen', Sre.inSet code2 c 36 5 true seen = .ok (eol c, seen') := by
  unfold eol
  show ∃ seen', (if (c == 10) = true then _ else Sre.inSet code2 c 35 7 true _) = _
  cases c == 10
  · show ∃ seen', (if (c == 13) = true then _ else Sre.inSet code2 c 34 9 true _) = _
    cases c == 13 <;> exact ⟨_, rfl⟩
  · exact ⟨_, rfl⟩
theorem admitted2 (m : M) (hc : m.code = code2) : ∀ (fuel s : Nat) (seen : Sre.Seen), m.lim < s + fuel →
    (∃ i seen', s ≤ i ∧ i < m.lim ∧ eol (m.text.getD i 0) = true ∧ (∀ j, s ≤ j → j < i → eol (m.text.getD j 0) = false) ∧ m.admitted fuel s seen = .ok (some i, seen')) ∨
    (∃ seen', (∀ j, s ≤ j → j < m.lim → eol (m.text.getD j 0) = false) ∧ m.admitted fuel s seen = .ok (none, seen'))
  | 0, s, seen, h => .inr ⟨seen, fun j h1 h2 => by lia, rfl⟩
  | fuel + 1, s, seen, h => by
    unfold M.admitted
    by_cases hl : s ≥ m.lim
    · rw [if_pos hl]
      exact .inr ⟨seen, fun j h1 h2 => by lia, rfl⟩
    · rw [if_neg hl, hc]
      obtain ⟨seen', e⟩ := inSet2 (m.text.getD s 0) seen
      have e : Sre.inSet code2 (m.text.getD s 0) code2.size 5 true seen = .ok (eol (m.text.getD s 0), seen') := e
      rw [e]
      cases he : eol (m.text.getD s 0) with
      | true => exact .inl ⟨s, seen', Nat.le_refl _, by lia, he, fun j h1 h2 => by lia, rfl⟩
      | false =>
        dsimp only
        rcases admitted2 m hc fuel (s + 1) seen' (by lia) with ⟨i, sn, a1, a2, a3, a4, a5⟩ | ⟨sn, a1, a2⟩
        · refine .inl ⟨i, sn, by lia, a2, a3, fun j h1 h2 => ?_, a5⟩
          by_cases hj : j = s
          · rw [hj]; exact he
          · exact a4 j (by lia) h2
        · refine .inr ⟨sn, fun j h1 h2 => ?_, a2⟩
          by_cases hj : j = s
          · rw [hj]; exact he
          · exact a1 j (by lia) h2
noncomputable def eolEnd (text : Array Nat) (L s : Nat) : Nat := if text.getD s 0 = 13 ∧ s + 1 < L ∧ text.getD (s + 1) 0 = 10 then s + 2 else s + 1
noncomputable def WonS (i j k : Nat) (m : M) : Prop := ∃ n, n ≤ k ∧ (m.runFor n).outcome = some .matched ∧ (m.runFor n).start = i ∧ (m.runFor n).handed = j
theorem WonS.step {m m' : M} {i j k : Nat} (h0 : m.outcome.isSome = false) (e : m.step = m') (h : WonS i j k m') : WonS i j (k + 1) m := by
  obtain ⟨n, h1, h2⟩ := h
  refine ⟨n + 1, by lia, ?_⟩
  rw [run1 _ _ h0, e]
  exact h2
noncomputable def g2 (text : Array Nat) (L s pc pos handed alt : Nat) (seen : Sre.Seen) : M :=
  { code := code2, text, lim := L, start := s, lastStart := L, pc, pos, handed, outermost := true, marks := #[], frames := [{ wait := .nextBranch, pc := alt, pos := s, outermost := true }, { wait := .nextStart, pc := 10, pos := s, outermost := true }], weight := 2, seen }
section
variable {text : Array Nat} {L s pc pos handed alt c i j k : Nat} {seen : Sre.Seen}
theorem g2_ok (h2 : pc < 36) (h3 : Sre.ops[code2.getD pc 0]? = some .LITERAL) (h4 : code2.getD (pc + 1) 0 = c) (hl : pos < L) (hc : text.getD pos 0 = c) : (g2 text L s pc pos handed alt seen).step = g2 text L s (pc + 2) (pos + 1) handed alt (seen.add (code2.getD pc 0)) := by
  rw [lit_step (g2 text L s pc pos handed alt seen) rfl rfl h2 h3, if_neg (by show ¬ pos ≥ L; lia), if_pos (by show (text.getD pos 0 == code2.getD (pc + 1) 0) = true; rw [h4, hc]; simp)]
  rfl
theorem g2_no (h2 : pc < 36) (h3 : Sre.ops[code2.getD pc 0]? = some .LITERAL) (h4 : code2.getD (pc + 1) 0 = c) (h : ¬ (pos < L ∧ text.getD pos 0 = c)) : (g2 text L s pc pos handed alt seen).step = (g2 text L s pc pos handed alt (seen.add (code2.getD pc 0))).say false := by
  rw [lit_step (g2 text L s pc pos handed alt seen) rfl rfl h2 h3]
  by_cases hl : pos ≥ L
  · rw [if_pos (show (g2 text L s pc pos handed alt seen).pos ≥ (g2 text L s pc pos handed alt seen).lim from hl)]; rfl
  · rw [if_neg (show ¬ (g2 text L s pc pos handed alt seen).pos ≥ (g2 text L s pc pos handed alt seen).lim from hl), if_neg (by
      show ¬ (text.getD pos 0 == code2.getD (pc + 1) 0) = true
      rw [h4]
      intro h'
      exact h ⟨by lia, by simpa using h'⟩)]
    rfl
theorem g2_next11 : ((g2 text L s pc pos handed 11 seen).say false).step = g2 text L s 19 s s 18 seen := rfl
theorem g2_next18 : ((g2 text L s pc pos handed 18 seen).say false).step = g2 text L s 24 s s 23 seen := rfl
theorem g2_jump16 : WonS s pos 6 (g2 text L s 16 pos handed alt seen) := ⟨5, by lia, by kernel_rfl, by kernel_rfl, by kernel_rfl⟩
theorem g2_jump21 : WonS s pos 6 (g2 text L s 21 pos handed alt seen) := ⟨5, by lia, by kernel_rfl, by kernel_rfl, by kernel_rfl⟩
theorem at2_branch : (at2 text L s seen true).step = g2 text L s 12 s s 11 (seen.add 7) := rfl
noncomputable def a2 (text : Array Nat) (L s pc pos handed p0 : Nat) (seen : Sre.Seen) (om : Bool) : M :=
  { code := code2, text, lim := L, start := s, lastStart := L, pc, pos, handed, outermost := om, marks := #[], frames := [{ wait := .lookNot, pc := 26, pos := p0, outermost := true }, { wait := .nextBranch, pc := 23, pos := s, outermost := true }, { wait := .nextStart, pc := 10, pos := s, outermost := true }], weight := 3, seen }
theorem g2_look : (g2 text L s 26 pos handed 23 seen).step = a2 text L s 29 pos pos pos (seen.add 5) false := by
  kernel_rfl
theorem a2_no (h : ¬ (pos < L ∧ text.getD pos 0 = 10)) : (a2 text L s 29 pos handed i seen false).step = (a2 text L s 29 pos handed i (seen.add 16) false).say false := by
  rw [lit_step (a2 text L s 29 pos handed i seen false) rfl rfl (by show 29 < 36; lia) rfl]
  by_cases hl : pos ≥ L
  · rw [if_pos (show (a2 text L s 29 pos handed i seen false).pos ≥ (a2 text L s 29 pos handed i seen false).lim from hl)]; rfl
  · rw [if_neg (show ¬ (a2 text L s 29 pos handed i seen false).pos ≥ (a2 text L s 29 pos handed i seen false).lim from hl), if_neg (by
      show ¬ (text.getD pos 0 == 10) = true
      intro h'
      exact h ⟨by lia, by simpa using h'⟩)]
    rfl
theorem a2_back : WonS s pos 7 ((a2 text L s 29 pos handed pos seen false).say false) := ⟨6, by lia, by kernel_rfl, by kernel_rfl, by kernel_rfl⟩
end
theorem WonS.le {i j k k' : Nat} {m : M} (h : WonS i j k m) (hk : k ≤ k') : WonS i j k' m := let ⟨n, h1, h2⟩ := h; ⟨n, by lia, h2⟩
theorem at2_crlf {text : Array Nat} {L s : Nat} {seen : Sre.Seen} (h0 : s < L) (h1 : text.getD s 0 = 13) (h2 : s + 1 < L) (h3 : text.getD (s + 1) 0 = 10) : WonS s (s + 2) 20 (at2 text L s seen true) :=
  (WonS.step rfl at2_branch (.step rfl (g2_ok (by lia) rfl rfl h0 h1) (.step rfl (g2_ok (by lia) rfl rfl h2 h3) g2_jump16))).le (by lia)
theorem at2_lf {text : Array Nat} {L s : Nat} {seen : Sre.Seen} (h0 : s < L) (h1 : text.getD s 0 = 10) : WonS s (s + 1) 20 (at2 text L s seen true) :=
  (WonS.step rfl at2_branch (.step rfl (g2_no (by lia) rfl (c := 13) rfl (by rw [h1]; lia)) (.step rfl g2_next11 (.step rfl (g2_ok (by lia) rfl rfl h0 h1) g2_jump21)))).le (by lia)
theorem at2_cr {text : Array Nat} {L s : Nat} {seen : Sre.Seen} (h0 : s < L) (h1 : text.getD s 0 = 13) (h2 : ¬ (s + 1 < L ∧ text.getD (s + 1) 0 = 10)) : WonS s (s + 1) 20 (at2 text L s seen true) :=
  (WonS.step rfl at2_branch (.step rfl (g2_ok (by lia) rfl rfl h0 h1) (.step rfl (g2_no (by lia) rfl (c := 10) rfl h2) (.step rfl g2_next11 (.step rfl (g2_no (by lia) rfl (c := 10) rfl (by rw [h1]; lia)) (.step rfl g2_next18
    (.step rfl (g2_ok (by lia) rfl rfl h0 h1) (.step rfl g2_look (.step rfl (a2_no h2) a2_back))))))))).le (by lia)
theorem at2_won {text : Array Nat} {L s : Nat} {seen : Sre.Seen} (h0 : s < L) (h : eol (text.getD s 0) = true) : WonS s (eolEnd text L s) 20 (at2 text L s seen true) := by
  unfold eolEnd
  by_cases h1 : text.getD s 0 = 13
  · by_cases h2 : s + 1 < L ∧ text.getD (s + 1) 0 = 10
    · rw [if_pos ⟨h1, h2⟩]; exact at2_crlf h0 h1 h2.1 h2.2
    · rw [if_neg (fun x => h2 x.2)]; exact at2_cr h0 h1 h2
  · rw [if_neg (fun x => h1 x.1)]
    refine at2_lf h0 ?_
    simp only [eol, Bool.or_eq_true, beq_iff_eq] at h
    exact h.resolve_right h1
theorem finds2 (text : Array Nat) (b L : Nat) : (∃ i, b ≤ i ∧ i < L ∧ eol (text.getD i 0) = true ∧ (∀ j, b ≤ j → j < i → eol (text.getD j 0) = false) ∧ Finds code2 text b L (some (i, eolEnd text L i))) ∨
    ((∀ j, b ≤ j → j < L → eol (text.getD j 0) = false) ∧ Finds code2 text b L none) := by
  let m0 : M := { code := code2, text, lim := L, start := b, lastStart := L, pc := 10, pos := b, handed := b, marks := #[], seen := ({} : Sre.Seen).add 14 }
  by_cases h : b < L
  · have e : Sre.forSearch code2 text 0 b L false = match m0.admitted (L + 1 - b) b m0.seen with
      | .ok (some s, seen) => ({ m0 with mustAdvance := false, seen } : M).attemptAt s true
      | .ok (none, seen) => ({ m0 with seen } : M).say false
      | .error why => m0.stick why := by
      show (if (decide (b > L) || decide (L - b < 1)) = true then _ else _) = _
      rw [if_neg (by simp; lia)]
      rfl
    rcases admitted2 m0 rfl (L + 1 - b) b m0.seen (by show L < _; lia) with ⟨i, sn, a1, a2, a3, a4, a5⟩ | ⟨sn, a1, a2⟩
    · rw [a5] at e
      obtain ⟨n, hn, hw⟩ := at2_won (seen := sn) a2 a3
      exact .inl ⟨i, a1, a2, a3, a4, n, by lia, by rw [e]; exact hw⟩
    · rw [a2] at e
      exact .inr ⟨a1, 1, by lia, by rw [e]; rfl⟩
  · refine .inr ⟨fun j h1 h2 => by lia, 1, by lia, ?_⟩
    have e : Sre.forSearch code2 text 0 b L false = ({ m0 with lastStart := 0 } : M).say false := by
      show (if (decide (b > L) || decide (L - b < 1)) = true then _ else _) = _
      rw [if_pos (by simp; lia)]
      rfl
    show ((Sre.forSearch code2 text 0 b L false).runFor 1).outcome = _
    rw [e]
    rfl
open PySem.Sre (M)
theorem wp_drive {Mo : Model} {A : Around} {E : Value → Shared → Prop} {s : Shared} {Q : M → Shared → Prop} : ∀ (turns : Nat) (m : M) (n : Nat), n + 1 ≤ 4 * turns → (m.runFor n).outcome.isSome = true → Q (m.runFor n) s → wpAny Mo A (reDrive turns m) Q E s
  | 0, m, n, h, _, _ => by lia
  | turns + 1, m, n, h, ho, hq => by
    unfold reDrive
    show wpAny Mo A (if (m.runFor 4).outcome.isSome = true then _ else _) Q E s
    by_cases h4 : (m.runFor 4).outcome.isSome = true
    · rw [if_pos h4]
      have e : m.runFor 4 = m.runFor n := by
        by_cases hn : 4 ≤ n
        · obtain ⟨k, rfl⟩ : ∃ k, n = 4 + k := ⟨n - 4, by lia⟩
          rw [runFor_add, runFor_done h4]
        · obtain ⟨k, hk⟩ : ∃ k, 4 = n + k := ⟨4 - n, by lia⟩
          rw [hk, runFor_add, runFor_done ho]
      refine wpAny_pure ?_
      show Q (m.runFor 4) s
      rw [e]
      exact hq
    · rw [if_neg h4]
      have hn : 4 ≤ n := by
        apply Classical.byContradiction
        intro hn
        obtain ⟨k, hk⟩ : ∃ k, 4 = n + k := ⟨4 - n, by lia⟩
        apply h4
        rw [hk, runFor_add, runFor_done ho]
        exact ho
      obtain ⟨k, rfl⟩ : ∃ k, n = 4 + k := ⟨n - 4, by lia⟩
      rw [runFor_add] at ho hq
      exact wpAny_bind (wpAny_rule (wp_drive turns (m.runFor 4) k (by lia) ho hq))
theorem wp_rules {Mo : Model} {A : Around} {E : Value → Shared → Prop} {s : Shared} {Q : PUnit → Shared → Prop} {f : Nat → PUnit → Sem (ForInStep PUnit)} (hf : ∀ i u (Q' : ForInStep PUnit → Shared → Prop), Q' (.yield ⟨⟩) s → wpAny Mo A (f i u) Q' E s) (h : Q ⟨⟩ s) : ∀ (l : List Nat), wpAny Mo A (forIn l PUnit.unit f) Q E s
  | [] => wpAny_pure h
  | i :: l => by
    rw [List.forIn_cons]
    exact wpAny_bind (hf i _ _ (wp_rules hf h l))
theorem wp_found {Mo : Model} {A : Around} {E : Value → Shared → Prop} {s : Shared} {Q : Option M → Shared → Prop} {code text : Array Nat} {b L : Nat} {r : Option (Nat × Nat)} (hL : L ≤ sizeLine) (hf : Finds code text b L r) (t : ReTarget) (hc : t.code = code) (ht : t.text = text) (hg : t.groups = 0) (hl : t.lim = L)
    (hq : match r with
      | some (i, j) => ∀ m : M, m.start = i → m.handed = j → Q (some m) s
      | none => Q none s) : wpAny Mo A (reNextFound t b false) Q E s := by
  unfold reNextFound reRunToEnd
  rw [hc, ht, hg, hl]
  obtain ⟨n, hn, hr⟩ := hf
  have hb : n + 1 ≤ 4 * 2 ^ 64 := by
    have : sizeLine ≤ 2 ^ 40 := by decide
    lia
  have ho : ((Sre.forSearch code text 0 b L false).runFor n).outcome.isSome = true := by
    cases r with
    | none => rw [show _ = _ from hr]; rfl
    | some p => rw [hr.1]; rfl
  refine wpAny_bind (wp_drive _ _ n hb ho ?_)
  refine wpAny_bind (wp_rules ?_ ?_ _)
  · intro i u Q' hQ
    split
    · exact wpAny_bind (wpAny_rule (wpAny_pure hQ))
    · exact wpAny_pure hQ
  · cases r with
    | none =>
      rw [show _ = _ from hr]
      exact wpAny_pure hq
    | some p =>
      rw [hr.1]
      exact wpAny_pure (hq _ hr.2.1 hr.2.2)
end Mine
end
section
namespace Mine
open PySem PySem.Spec PySem.Calls PyProof.Rows PySem.W PySem.W.X PySem.Builtin.Re PySem.Builtin.Str
open PySem.Sre (M)
noncomputable def catS (l : List (Str × Tok)) : Str := Txt.join ⟨#[]⟩ (l.map (·.1))
theorem Rep.toks {B : Bs} {V : View} {s : Shared} (D : Rep B V s) (k : Nat) : Rep B V { s with toks := k } :=
  ⟨⟨D.good.g, D.good.d, D.good.os, D.good.kept, D.good.loose, D.good.tabs⟩, D.has, D.nd, D.own⟩
theorem ext_toks {B : Bs} {V : View} {s : Shared} (k : Nat) : Ext B V V s { s with toks := k } := ⟨fun _ _ e _ _ => e, fun _ h => .inl h, fun a o e => ⟨o, e⟩⟩
structure Pat (B : Bs) (PA : Addr) (code : Array Nat) where
  po : Obj
  co : Obj
  CA : Addr
  fs : Array Value
  items : Array Value
  n0 : Nat
  hp : topGet B PA = some po
  hpd : po.data = .fields fs
  f2 : reRawNat (fs.getD 2 .none) = 0
  f5 : fs.getD 5 .none = .ref CA
  f6 : reRawNat (fs.getD 6 .none) = 0
  hc : topGet B CA = some co
  hcd : co.data = .seq items n0
  hcode : (items.map reRawOf).map (·.toNat) = code
noncomputable def extS (x : Str) (b e : Nat) : Str := ⟨x.cps.extract b e⟩
structure Subst (x : Str) (repl : Str) (code : Array Nat) (F : Nat → Str) : Prop where
  step : ∀ b, b ≤ x.cps.size → (∃ i j, b ≤ i ∧ i < j ∧ j ≤ x.cps.size ∧ Finds code x.cps b x.cps.size (some (i, j)) ∧ F b = (if b < i then extS x b i else ⟨#[]⟩) ++ (repl ++ F j)) ∨
    (Finds code x.cps b x.cps.size none ∧ F b = if b < x.cps.size then extS x b x.cps.size else ⟨#[]⟩)
theorem wp_target {B : Bs} (O : B.Ok) {PA : Addr} {code : Array Nat} (P : Pat B PA code) {V : View} {s : Shared} (D : Rep B V s) {A : Around} {E : Value → Shared → Prop} {x : Str} {tx : Tok} {Q : ReTarget → Shared → Prop}
    (h : ∀ t : ReTarget, t.code = code → t.text = x.cps → t.groups = 0 → t.lim = x.cps.size → t.kind = 0 → Q t s) : wpAny (model B.prog B.w) A (reWholeTarget (.ref PA) (.str x tx)) Q E s := by
  unfold reWholeTarget
  refine wpAny_bind (wpAny_fieldsOf (D.top O P.hp) P.hpd ?_)
  refine wpAny_bind ?_
  unfold reTextOf
  refine wpAny_bind (wpAny_pure ?_)
  dsimp only
  refine wpAny_pure ?_
  dsimp only
  rw [P.f6]
  simp only [beq_self_eq_true, Bool.true_and, Bool.and_true, Bool.false_eq_true, if_false, show ((0 : Nat) == 1) = false from rfl]
  refine wpAny_bind ?_
  unfold reNoCollectionInside
  rw [if_neg (by decide)]
  refine wpAny_pure ?_
  refine wpAny_bind ?_
  unfold reRawItems
  rw [P.f5]
  refine wpAny_bind (wpAny_seqItems (D.top O P.hc) P.hcd ?_)
  refine wpAny_pure (wpAny_pure (h _ ?_ rfl P.f2 rfl rfl))
  exact P.hcode
noncomputable abbrev slArgs (PA a : Addr) (x : Str) (tx : Tok) (repl : Str) (tr : Tok) (n b : Nat) : Args := ⟨[.ref PA, .str x tx, .str repl tr, .int 0 0, .int 0 0, .int n 0, .int b 0, .int b 0, .bool false, .ref a, .bool false], []⟩
noncomputable abbrev lo (l : List (Str × Tok)) (ep : Nat) : Obj := { cls := .type "list", dict := none, data := .seq ⟨strValues l⟩ ep, slots := #[] }
theorem strValues_snoc (l : List (Str × Tok)) (y : Str) (t : Tok) : strValues l ++ [.str y t] = strValues (l ++ [(y, t)]) := by simp [strValues]
theorem wp_push {B : Bs} {a : Addr} {l : List (Str × Tok)} {ep : Nat} {y : Str} {t : Tok} {s : Shared} {A : Around} {E : Value → Shared → Prop} {Q : Unit → Shared → Prop} (D : Rep B [(a, lo l ep)] s) (hl : l.length ≤ sizeLine)
    (h : ∀ s', Rep B [(a, lo (l ++ [(y, t)]) (ep + 1))] s' → Ext B [(a, lo l ep)] [(a, lo (l ++ [(y, t)]) (ep + 1))] s s' → Q () s') : wpAny (model B.prog B.w) A (updateSeq a fun xs => xs.push (.str y t)) Q E s := by
  have ho := D.has _ (.head _)
  refine wpAny_updateSeq ho rfl ?_ (by simpa [strValues] using hl) (by simp [strValues]; exact hl)
  have z := D.update (i := 0) (a := a) (o := lo l ep) (f := Obj.mapSeq (fun a => a.push (.str y t))) rfl (by rw [push_ep]; rfl) (notCode_list _) (by rw [push_ep]; exact notCode_list _)
  rw [push_ep, strValues_snoc] at z
  exact h _ z.1 z.2
theorem wp_slice {Mo : Model} {A : Around} {E : Value → Shared → Prop} {s : Shared} {x : Str} {b e : Nat} {Q : Value → Shared → Prop} (hs : (extS x b e).length ≤ sizeLine) (h : Q (.str (extS x b e) s.toks) { s with toks := s.toks + 1 }) : wpAny Mo A (reSlice x.cps 0 b e) Q E s := by
  unfold reSlice
  exact wpAny_mkStr h hs
theorem glued_nil_cons (y : Str) (l : List Str) : glued ⟨#[]⟩ (y :: l) = y ++ glued ⟨#[]⟩ l := by
  have key : ∀ (l : List Str) (acc : Array Nat), l.foldl (fun acc p => acc ++ (#[] : Array Nat) ++ p.cps) acc = acc ++ (l.foldl (fun acc p => acc ++ (#[] : Array Nat) ++ p.cps) #[]) := by
    intro l
    induction l with
    | nil => intro acc; simp
    | cons z l ih =>
      intro acc
      rw [List.foldl_cons, List.foldl_cons, ih, ih (#[] ++ #[] ++ z.cps)]
      simp [Array.append_assoc]
  unfold glued
  cases l with
  | nil => simp; rfl
  | cons z l =>
    show (⟨_⟩ : Str) = ⟨_⟩
    congr 1
    show (z :: l).foldl _ y.cps = y.cps ++ l.foldl _ z.cps
    rw [List.foldl_cons, key, key l z.cps]
    simp [Array.append_assoc]
theorem catS_nil : catS [] = ⟨#[]⟩ := rfl
theorem catS_cons (p : Str × Tok) (l : List (Str × Tok)) : catS (p :: l) = p.1 ++ catS l := glued_nil_cons _ _
theorem strL (a b : Str) : (a ++ b).length = a.length + b.length := by
  show (a.cps ++ b.cps).size = a.cps.size + b.cps.size
  simp
theorem strA (a b c : Str) : a ++ b ++ c = a ++ (b ++ c) := by
  show (⟨_⟩ : Str) = ⟨_⟩
  congr 1
  exact Array.append_assoc
theorem catS_app (l m : List (Str × Tok)) : catS (l ++ m) = catS l ++ catS m := by
  induction l with
  | nil => exact (Str.empty_append _).symm
  | cons p l ih => rw [List.cons_append, catS_cons, catS_cons, ih, strA]
theorem joinOk_cat {l : List (Str × Tok)} (h : (l.map (·.1.length)).sum ≤ sizeLine) : JoinOk ⟨#[]⟩ (l.map (·.1)) = true := by
  unfold JoinOk tooLong
  have e : ∀ (l : List (Str × Tok)) (k : Nat), (l.map (·.1)).foldl (fun (n : Nat) (p : Str) => n + p.length + (⟨#[]⟩ : Str).length) k = k + (l.map (·.1.length)).sum := by
    intro l
    induction l with
    | nil => intro k; simp
    | cons p l ih => intro k; rw [List.map_cons, List.foldl_cons, ih]; simp [show (⟨#[]⟩ : Str).length = 0 from rfl]; lia
  have : ((l.map (·.1)).toArray.foldl (fun (n : Nat) (p : Str) => n + p.length + (⟨#[]⟩ : Str).length) 0) = (l.map (·.1.length)).sum := by
    rw [List.foldl_toArray', e]
    · lia
    · rfl
  rw [this]
  simpa using h
noncomputable def slPost (B : Bs) (a : Addr) (l : List (Str × Tok)) (ep : Nat) (fb : Str) (s : Shared) (r : Result) (s' : Shared) : Prop := ∃ t, r = .ok (.ret (.str (catS l ++ fb) t)) ∧ Rep B [] s' ∧ Ext B [(a, lo l ep)] [] s s'
theorem sub_end {B : Bs} (O : B.Ok) {t : ReTarget} {x : Str} {a : Addr} {l : List (Str × Tok)} {ep : Nat} {A : Around} {s : Shared} {R : Fin → Shared → Prop} {E : Value → Shared → Prop} (hkind : t.kind = 0) (ht : t.text = x.cps) (hs : (l.map (·.1.length)).sum ≤ sizeLine) (D : Rep B [(a, lo l ep)] s)
    (h : ∀ tk s', Rep B [] s' → Ext B [(a, lo l ep)] [] s s' → R (.done (.ret (.str (catS l) tk))) s') :
    wpAny (model B.prog B.w) A (do
      let joiner ← reSlice t.text t.kind 0 0
      let text ← if ((← seqItems? (.ref a)).getD #[]).isEmpty then pure joiner else call (.builtin (if t.kind == 0 then "str.join" else "bytes.join")) [joiner, .ref a]
      if false then ret (← holding [text] do newTuple [text, ← mkInt 0]) else ret text) R E s := by
  rw [hkind, ht]
  have drop : ∀ k, Rep B [] { s with toks := k } ∧ Ext B [(a, lo l ep)] [] s { s with toks := k } := fun k =>
    ⟨⟨(D.toks k).good, fun p hp => by simp at hp, by simp [excl], fun a ha => by simp [excl] at ha⟩, ⟨fun _ _ e _ _ => e, fun _ h => by simp [excl] at h, fun a o e => ⟨o, e⟩⟩⟩
  have e0 : extS x 0 0 = ⟨#[]⟩ := by unfold extS; simp
  refine wpAny_bind (wp_slice (by rw [e0]; exact Nat.zero_le _) ?_)
  rw [e0]
  have ho := (D.toks (s.toks + 1)).has _ (.head _)
  refine wpAny_bind (wpAny_seqItems ho rfl ?_)
  cases l with
  | nil =>
    refine wpAny_bind (wpAny_pure ?_)
    show wpAny _ _ (ret _) _ _ _
    refine wpAny_pure ?_
    exact h _ _ (drop _).1 (drop _).2
  | cons p l =>
    refine wpAny_bind ?_
    refine SC.join (l := p :: l) ⟨_, ho, rfl, _, rfl⟩ rfl (joinOk_cat hs) ?_
    intro t' k
    show wpAny _ _ (ret _) _ _ _
    refine wpAny_pure ?_
    exact h _ _ (drop _).1 (drop _).2
theorem ne_none_str (y : Str) (t : Tok) : ((Value.str y t : Value) != Value.none) = true := by
  simp [bne]
theorem sub_loop {B : Bs} (O : B.Ok) {PA : Addr} {code : Array Nat} (P : Pat B PA code) {x : Str} {tx : Tok} {repl : Str} {tr : Tok} {F : Nat → Str} (hF : Subst x repl code F) {a : Addr} (hx : x.cps.size ≤ sizeLine) :
    ∀ (k b : Nat) (n : Nat) (l : List (Str × Tok)) (ep : Nat) (A : Around) (s : Shared), x.cps.size - b < k → b ≤ x.cps.size → l.length + 2 * (x.cps.size - b) + 2 ≤ sizeLine → ((l.map (·.1.length)).sum + (F b).length ≤ sizeLine) → Rep B [(a, lo l ep)] s →
    codeAny (model B.prog B.w) A (.builtin "re.Pattern.sub.loop" (slArgs PA a x tx repl tr n b)) (slPost B a l ep (F b) s) s := by
  intro k
  induction k with
  | zero => intro b n l ep A s hk; lia
  | succ k ih =>
  intro b n l ep A s hk hb hl hs D
  refine codeAny_builtin (b := Builtin.«re.Pattern.sub.loop») (entryFor_of_tree (by kernel_rfl)) ?_
  unfold Builtin.«re.Pattern.sub.loop»
  dsimp only [slArgs]
  refine wpAny_bind (wp_target O P D ?_)
  intro t hc ht hg hlim hkind
  rw [if_pos (by decide)]
  unfold reLiteralCannotBeTurned
  refine wpAny_bind (wpAny_bind (wpAny_pure ?_))
  rw [if_neg (by simp)]
  refine wpAny_pure ?_
  rw [if_neg (by simp)]
  have eb : ((b : Int)).toNat = b := by lia
  rw [eb]
  rcases hF.step b hb with ⟨i, j, h1, h2, h3, hf, he⟩ | ⟨hf, he⟩
  · -- a place is found
    refine wpAny_bind (wp_found hx hf t hc ht hg hlim ?_)
    intro m hm1 hm2
    have last : ∀ (l' : List (Str × Tok)) (ep' : Nat) (s' : Shared), (l'.map (·.1.length)).sum + (repl ++ F j).length ≤ sizeLine → l'.length + 2 * (x.cps.size - j) + 3 ≤ sizeLine → catS l' ++ (repl ++ F j) = catS l ++ F b → Rep B [(a, lo l' ep')] s' → Ext B [(a, lo l ep)] [(a, lo l' ep')] s s' →
        wpAny (model B.prog B.w) (A.under (.builtin "re.Pattern.sub.loop" (slArgs PA a x tx repl tr n b))) (do
          updateSeq a fun xs => xs.push (Value.str repl tr)
          again (Code.builtin "re.Pattern.sub.loop" ⟨[.ref PA, .str x tx, .str repl tr, rawInt 0, rawInt 0, rawInt ((n : Int) + 1), rawInt (m.handed : Int), rawInt (m.handed : Int), .bool (m.handed == m.start), .ref a, .bool false], []⟩))
        (fun fin s' => match fin with | .done f => slPost B a l ep (F b) s (.ok f) s' | .again c' => c'.quiet = true ∧ codeAny (model B.prog B.w) A c' (slPost B a l ep (F b) s) s') (fun e s' => slPost B a l ep (F b) s (.error e) s') s' := by
      intro l' ep' s' z1 z2 z3 D' x'
      refine wpAny_bind (wp_push D' (by lia) ?_)
      intro s2 D2 x2
      show wpAny _ _ (pure _) _ _ _
      refine wpAny_pure ?_
      refine ⟨plainId_quiet (by decide +kernel) _, ?_⟩
      have e1 : (m.handed == m.start) = false := by rw [hm1, hm2]; simp; lia
      rw [e1, hm2]
      refine codeAny_mono (ih j (n + 1) (l' ++ [(repl, tr)]) (ep' + 1) A s2 (by lia) h3 (by simp; lia) (by
        rw [strL] at z1
        simp only [List.map_append, List.map_cons, List.map_nil, List.sum_append, List.sum_cons, List.sum_nil]
        lia) D2) ?_
      rintro r s3 ⟨tk, e, D3, x3⟩
      refine ⟨tk, ?_, D3, (x'.trans x2).trans x3⟩
      rw [e, catS_app, strA, show catS [(repl, tr)] = repl from by rw [catS_cons, catS_nil]; exact Str.append_empty _, z3]
    rw [he, strL] at hs
    dsimp only
    rw [hm1, ht, hkind]
    by_cases hbi : b < i
    · rw [if_pos hbi] at hs he ⊢
      have el : (extS x b i).length ≤ sizeLine := by lia
      refine wpAny_bind (wp_slice el ?_)
      have D0 := D.toks (s.toks + 1)
      refine wpAny_bind (wp_push D0 (by lia) ?_)
      intro s1 D1 x1
      rw [if_pos (show ((0 : Int) == 0) = true from rfl)]
      refine wpAny_bind (wpAny_pure ?_)
      rw [if_pos (ne_none_str repl tr)]
      have := last (l ++ [(extS x b i, s.toks)]) (ep + 1) s1 (by
        simp only [List.map_append, List.map_cons, List.map_nil, List.sum_append, List.sum_cons, List.sum_nil]
        lia) (by simp; lia) (by rw [catS_app, strA, he, show catS [(extS x b i, s.toks)] = extS x b i from by rw [catS_cons, catS_nil]; exact Str.append_empty _]) D1 ((ext_toks _).trans x1)
      rw [hm1] at this
      exact this
    · rw [if_neg hbi] at hs he ⊢
      rw [if_pos (show ((0 : Int) == 0) = true from rfl)]
      refine wpAny_bind (wpAny_pure ?_)
      rw [if_pos (ne_none_str repl tr)]
      have := last l ep s (by
        have : (⟨#[]⟩ : Str).length = 0 := rfl
        lia) (by lia) (by rw [he]; congr 1; exact (Str.empty_append _).symm) D (Ext.refl _ _)
      rw [hm1] at this
      exact this
  · -- none is left
    refine wpAny_bind (wp_found hx hf t hc ht hg hlim ?_)
    dsimp only
    rw [hlim]
    have fin : ∀ (l' : List (Str × Tok)) (ep' : Nat) (s' : Shared), (l'.map (·.1.length)).sum ≤ sizeLine → catS l' = catS l ++ F b → Rep B [(a, lo l' ep')] s' → Ext B [(a, lo l ep)] [(a, lo l' ep')] s s' →
        ∀ tk s2, Rep B [] s2 → Ext B [(a, lo l' ep')] [] s' s2 → slPost B a l ep (F b) s (.ok (.ret (.str (catS l') tk))) s2 := fun l' ep' s' z1 z2 D' x' tk s2 D2 x2 => ⟨tk, by rw [z2], D2, x'.trans x2⟩
    by_cases hbi : b < x.cps.size
    · rw [if_pos hbi] at he ⊢
      rw [he] at hs
      rw [ht, hkind]
      refine wpAny_bind (wp_slice (by lia) ?_)
      have D0 := D.toks (s.toks + 1)
      refine wpAny_bind (wp_push D0 (by lia) ?_)
      intro s1 D1 x1
      have hz : ((l ++ [(extS x b x.cps.size, s.toks)]).map (·.1.length)).sum ≤ sizeLine := by
        simp only [List.map_append, List.map_cons, List.map_nil, List.sum_append, List.sum_cons, List.sum_nil]
        lia
      have z := sub_end O (t := t) hkind ht hz D1 (A := A.under (.builtin "re.Pattern.sub.loop" (slArgs PA a x tx repl tr n b))) (E := fun e s' => slPost B a l ep (F b) s (.error e) s')
        (R := fun fin s' => match fin with | .done f => slPost B a l ep (F b) s (.ok f) s' | .again c' => c'.quiet = true ∧ codeAny (model B.prog B.w) A c' (slPost B a l ep (F b) s) s')
        (fin _ _ s1 hz (by rw [catS_app, he, show catS [(extS x b x.cps.size, s.toks)] = extS x b x.cps.size from by rw [catS_cons, catS_nil]; exact Str.append_empty _]) D1 ((ext_toks _).trans x1))
      rw [ht, hkind] at z
      exact z
    · rw [if_neg hbi] at he ⊢
      have hz : (l.map (·.1.length)).sum ≤ sizeLine := by lia
      exact sub_end O (t := t) hkind ht hz D (A := A.under (.builtin "re.Pattern.sub.loop" (slArgs PA a x tx repl tr n b))) (E := fun e s' => slPost B a l ep (F b) s (.error e) s')
        (R := fun fin s' => match fin with | .done f => slPost B a l ep (F b) s (.ok f) s' | .again c' => c'.quiet = true ∧ codeAny (model B.prog B.w) A c' (slPost B a l ep (F b) s) s')
        (fin _ _ s hz (by rw [he]; exact (Str.append_empty _).symm) D (Ext.refl _ _))
end Mine
end
section
namespace Mine
open PySem PySem.Spec PySem.Calls PyProof.Rows PySem.W PySem.W.X PySem.Builtin.Re
noncomputable def crlf : List Nat → List Nat
  | [] => []
  | 13 :: 10 :: r => 13 :: 10 :: crlf r
  | c :: r => if eol c = true then 13 :: 10 :: crlf r else c :: crlf r
noncomputable def dots : Bool → List Nat → List Nat
  | _, [] => []
  | f, c :: r => if (f && c == 46) = true then 46 :: 46 :: dots (c == 10) r else c :: dots (c == 10) r
noncomputable def sL (l : List Nat) : Str := ⟨l.toArray⟩
theorem sL_app (a b : List Nat) : sL a ++ sL b = sL (a ++ b) := by
  show (⟨_⟩ : Str) = ⟨_⟩
  congr 1
  show a.toArray ++ b.toArray = _
  simp
noncomputable def F1 (x : Str) (b : Nat) : Str := sL (dots (bol x.cps b) (x.cps.toList.drop b))
noncomputable def F2 (x : Str) (b : Nat) : Str := sL (crlf (x.cps.toList.drop b))
theorem extS_eq (x : Str) (b i : Nat) : extS x b i = sL ((x.cps.toList.drop b).take (i - b)) := by
  unfold extS sL
  congr 1
  apply Array.ext'
  simp [Array.toList_extract, List.extract]
theorem getD_eq (x : Array Nat) (i : Nat) (h : i < x.size) : x.toList[i]'(by simpa using h) = x.getD i 0 := by
  simp [Array.getD, h]
theorem drop_cons (x : Array Nat) (i : Nat) (h : i < x.size) : x.toList.drop i = x.getD i 0 :: x.toList.drop (i + 1) := by
  rw [List.drop_eq_getElem_cons (by simpa using h), getD_eq x i h]
theorem ext_split (x : Str) (b i : Nat) : (if b < i then extS x b i else ⟨#[]⟩) = sL ((x.cps.toList.drop b).take (i - b)) := by
  split
  · exact extS_eq ..
  · rename_i h
    rw [show i - b = 0 by lia, List.take_zero]
    rfl
theorem crlf_plain {c : Nat} (h : eol c = false) (r : List Nat) : crlf (c :: r) = c :: crlf r := by
  have hc : c ≠ 13 := by rintro rfl; cases h
  rw [crlf.eq_3 c r (fun r' h1 _ => hc h1), if_neg (by rw [h]; simp)]
theorem crlf_run (x : Array Nat) : ∀ (n b : Nat), b + n ≤ x.size → (∀ j, b ≤ j → j < b + n → eol (x.getD j 0) = false) → crlf (x.toList.drop b) = (x.toList.drop b).take n ++ crlf (x.toList.drop (b + n))
  | 0, b, _, _ => by simp
  | n + 1, b, h, hj => by
    have e := drop_cons x b (by lia)
    rw [e, crlf_plain (hj b (Nat.le_refl _) (by lia)), crlf_run x n (b + 1) (by lia) (fun j h1 h2 => hj j (by lia) (by lia)), List.take_succ_cons]
    rw [show b + 1 + n = b + (n + 1) by lia]
    rfl
theorem crlf_eol (x : Array Nat) (i : Nat) (h : i < x.size) (he : eol (x.getD i 0) = true) : crlf (x.toList.drop i) = 13 :: 10 :: crlf (x.toList.drop (eolEnd x x.size i)) := by
  rw [drop_cons x i h]
  unfold eolEnd
  by_cases hh : x.getD i 0 = 13 ∧ i + 1 < x.size ∧ x.getD (i + 1) 0 = 10
  · rw [if_pos hh, drop_cons x (i + 1) hh.2.1, hh.1, hh.2.2]
    rw [crlf]
  · rw [if_neg hh]
    generalize hr : x.toList.drop (i + 1) = r
    have hn : ¬ (x.getD i 0 = 13 ∧ ∃ r', r = 10 :: r') := by
      rintro ⟨h1, r', h2⟩
      apply hh
      have hl : i + 1 < x.size := by
        apply Classical.byContradiction
        intro hl
        rw [List.drop_eq_nil_of_le (by simp; lia)] at hr
        rw [← hr] at h2
        cases h2
      refine ⟨h1, hl, ?_⟩
      rw [drop_cons x (i + 1) hl, h2] at hr
      injection hr
    generalize hc : x.getD i 0 = c at he hn
    rw [crlf.eq_3 c r (fun r' h1 h2 => hn ⟨h1, r', h2⟩), if_pos he]
theorem eolEnd_bounds {x : Array Nat} {L i : Nat} (h : i < L) : i < eolEnd x L i ∧ eolEnd x L i ≤ L := by
  unfold eolEnd
  split
  · rename_i h; lia
  · lia
theorem subst2 (x : Str) : Subst x ⟨#[13, 10]⟩ code2 (F2 x) := ⟨fun b hb => by
  rcases finds2 x.cps b x.cps.size with ⟨i, h1, h2, h3, h4, h5⟩ | ⟨h1, h2⟩
  · refine .inl ⟨i, eolEnd x.cps x.cps.size i, h1, (eolEnd_bounds h2).1, (eolEnd_bounds h2).2, h5, ?_⟩
    · rw [ext_split]
      unfold F2
      have := crlf_run x.cps (i - b) b (by lia) (fun j a c => h4 j a (by lia))
      rw [this, show b + (i - b) = i by lia, crlf_eol x.cps i h2 h3, show (⟨#[13, 10]⟩ : Str) = sL [13, 10] from rfl, sL_app, sL_app]
      rfl
  · refine .inr ⟨h2, ?_⟩
    rw [ext_split]
    unfold F2
    have := crlf_run x.cps (x.cps.size - b) b (by lia) (fun j a c => h1 j a (by lia))
    rw [this, show b + (x.cps.size - b) = x.cps.size by lia, show List.drop x.cps.size x.cps.toList = [] from List.drop_eq_nil_of_le (by simp)]
    simp [crlf]⟩
theorem bol_succ (x : Array Nat) (b : Nat) : bol x (b + 1) = (x.getD b 0 == 10) := by
  unfold bol
  simp
theorem dots_run (x : Array Nat) : ∀ (n b : Nat), b + n ≤ x.size → (∀ j, b ≤ j → j < b + n → hit1 x x.size j = false) → dots (bol x b) (x.toList.drop b) = (x.toList.drop b).take n ++ dots (bol x (b + n)) (x.toList.drop (b + n))
  | 0, b, _, _ => by simp
  | n + 1, b, h, hj => by
    have e := drop_cons x b (by lia)
    have h0 := hj b (Nat.le_refl _) (by lia)
    have h0 : (bol x b && x.getD b 0 == 46) = false := by
      unfold hit1 at h0
      rw [decide_eq_true (show b < x.size by lia), Bool.true_and] at h0
      exact h0
    rw [e, dots, if_neg (by rw [h0]; simp), ← bol_succ, dots_run x n (b + 1) (by lia) (fun j h1 h2 => hj j (by lia) (by lia)), List.take_succ_cons]
    rw [show b + 1 + n = b + (n + 1) by lia]
    rfl
theorem subst1 (x : Str) : Subst x ⟨#[46, 46]⟩ code1 (F1 x) := ⟨fun b hb => by
  rcases finds1 x.cps b x.cps.size with ⟨i, h1, h2, h3, h4, h5⟩ | ⟨h1, h2⟩
  · refine .inl ⟨i, i + 1, h1, by lia, by lia, h5, ?_⟩
    rw [ext_split]
    unfold F1
    have := dots_run x.cps (i - b) b (by lia) (fun j a c => h4 j a (by lia))
    unfold hit1 at h3
    simp only [Bool.and_eq_true, decide_eq_true_eq] at h3
    rw [this, show b + (i - b) = i by lia, drop_cons x.cps i h2, dots, if_pos (by rw [h3.1, h3.2.2]; rfl), bol_succ, show (⟨#[46, 46]⟩ : Str) = sL [46, 46] from rfl, sL_app, sL_app]
    rfl
  · refine .inr ⟨h2, ?_⟩
    rw [ext_split]
    unfold F1
    have := dots_run x.cps (x.cps.size - b) b (by lia) (fun j a c => h1 j a (by lia))
    rw [this, show b + (x.cps.size - b) = x.cps.size by lia, show List.drop x.cps.size x.cps.toList = [] from List.drop_eq_nil_of_le (by simp)]
    simp [dots]⟩
end Mine
end
section

namespace Mine
open PySem PySem.Spec PySem.Calls PyProof.Rows PySem.W PySem.W.X PySem.Builtin.Str
noncomputable def objAt (W : Wd) (a : Addr) : Obj := (topGet (BB W) a).getD ⟨.none, none, .plain, #[]⟩
noncomputable def fieldsA (o : Obj) : Array Value := match o.data with
  | .fields a => a
  | _ => #[]
noncomputable def seqA (o : Obj) : Array Value := match o.data with
  | .seq a _ => a
  | _ => #[]
noncomputable def pat1 (W : Wd) : Pat (BB W) 120 code1 :=
  { po := objAt W 120, co := objAt W 119, CA := 119, fs := fieldsA (objAt W 120), items := seqA (objAt W 119), n0 := seqEp (objAt W 119),
    hp := by kernel_rfl, hpd := by kernel_rfl, f2 := by kernel_rfl, f5 := by kernel_rfl, f6 := by kernel_rfl, hc := by kernel_rfl, hcd := by kernel_rfl, hcode := by kernel_rfl }
noncomputable def pat2 (W : Wd) : Pat (BB W) 125 code2 :=
  { po := objAt W 125, co := objAt W 124, CA := 124, fs := fieldsA (objAt W 125), items := seqA (objAt W 124), n0 := seqEp (objAt W 124),
    hp := by kernel_rfl, hpd := by kernel_rfl, f2 := by kernel_rfl, f5 := by kernel_rfl, f6 := by kernel_rfl, hc := by kernel_rfl, hcd := by kernel_rfl, hcode := by kernel_rfl }
noncomputable def quotedL (l : List Nat) : List Nat := dots true (crlf l)
noncomputable def quoted (x : Str) : Str := sL (quotedL x.cps.toList)
theorem crlf_len : ∀ l : List Nat, (crlf l).length ≤ 2 * l.length
  | [] => Nat.le_refl _
  | [c] => by
    by_cases h : eol c = true
    · rw [crlf.eq_3 c [] (fun r' _ h2 => by cases h2), if_pos h]; simp [crlf]
    · rw [crlf_plain (by simpa using h)]; simp [crlf]
  | c :: d :: r => by
    by_cases h : c = 13 ∧ d = 10
    · obtain ⟨rfl, rfl⟩ := h
      have := crlf_len r
      rw [crlf]
      simp only [List.length_cons]; lia
    · have := crlf_len (d :: r)
      rw [crlf.eq_3 c (d :: r) (fun r' h1 h2 => h ⟨h1, by injection h2⟩)]
      split <;> simp only [List.length_cons] at * <;> lia
theorem dots_len : ∀ (l : List Nat) (f : Bool), (dots f l).length ≤ 2 * l.length
  | [], _ => Nat.le_refl _
  | c :: r, f => by
    have := dots_len r (c == 10)
    rw [dots]
    split <;> simp only [List.length_cons] <;> lia
theorem sL_len (l : List Nat) : (sL l).length = l.length := by
  show l.toArray.size = _
  simp
noncomputable def S_sl1 (W : Wd) : Sp (BB W) :=
  let B := BB W
  { d := 0
    c := fun q => .builtin "re.Pattern.sub.loop" ⟨[.ref 120, .str (q.s 0) (q.t 0), .str ⟨#[46, 46]⟩ (q.t 1), .int 0 0, .int 0 0, .int 0 0, .int 0 0, .int 0 0, .bool false, .ref (q.a 0), .bool false], []⟩
    P := fun q => 2 * (q.s 0).length + 2 ≤ sizeLine
    pre := fun q => [((q.a 0),listO [] (q.t 2))]
    R := fun q e => True
    res := fun q e => .ok (.ret (.str (F1 (q.s 0) 0) (e.t 0)))
    out := fun q e => [] }
noncomputable def on_sl1 : Code → View → Lt := fun c V => lt [valA (nthV (cPos c) 9)] [valT (nthV (cPos c) 1),valT (nthV (cPos c) 2),eP V 0] [] [valS (nthV (cPos c) 1)] [] [] []
theorem sl1_ok (W : Wd) (O : (BB W).Ok) : (S_sl1 W).Ok := fun q (hq : 2 * (q.s 0).length + 2 ≤ sizeLine) A s R D => by
  have hx : (q.s 0).length = (q.s 0).cps.size := rfl
  have hl : (F1 (q.s 0) 0).length ≤ sizeLine := by
    unfold F1
    rw [sL_len]
    have := dots_len ((q.s 0).cps.toList.drop 0) (bol (q.s 0).cps 0)
    simp only [List.drop_zero] at this ⊢
    have h2 : (q.s 0).cps.toList.length = (q.s 0).cps.size := by simp
    lia
  refine codeAny_mono (sub_loop O (pat1 W) (tx := q.t 0) (tr := q.t 1) (subst1 (q.s 0)) (a := q.a 0) (by lia) ((q.s 0).cps.size + 1) 0 0 [] (q.t 2) A s (by lia) (Nat.zero_le _) (by simp; lia) (by simpa using hl) D) ?_
  rintro r s' ⟨tk, e, D', x'⟩
  refine ⟨[], ⟨lt [] [tk] [] [] [] [] [], trivial, ?_, rfl⟩, D', x'⟩
  rw [e, catS_nil, show (⟨#[]⟩ : Str) = Str.empty from rfl, Str.empty_append]
  rfl
noncomputable def S_sl2 (W : Wd) : Sp (BB W) :=
  let B := BB W
  { d := 0
    c := fun q => .builtin "re.Pattern.sub.loop" ⟨[.ref 125, .str (q.s 0) (q.t 0), .str ⟨#[13, 10]⟩ (q.t 1), .int 0 0, .int 0 0, .int 0 0, .int 0 0, .int 0 0, .bool false, .ref (q.a 0), .bool false], []⟩
    P := fun q => 2 * (q.s 0).length + 2 ≤ sizeLine
    pre := fun q => [((q.a 0),listO [] (q.t 2))]
    R := fun q e => True
    res := fun q e => .ok (.ret (.str (F2 (q.s 0) 0) (e.t 0)))
    out := fun q e => [] }
noncomputable def on_sl2 : Code → View → Lt := fun c V => lt [valA (nthV (cPos c) 9)] [valT (nthV (cPos c) 1),valT (nthV (cPos c) 2),eP V 0] [] [valS (nthV (cPos c) 1)] [] [] []
theorem sl2_ok (W : Wd) (O : (BB W).Ok) : (S_sl2 W).Ok := fun q (hq : 2 * (q.s 0).length + 2 ≤ sizeLine) A s R D => by
  have hx : (q.s 0).length = (q.s 0).cps.size := rfl
  have hl : (F2 (q.s 0) 0).length ≤ sizeLine := by
    unfold F2
    rw [sL_len]
    have := crlf_len ((q.s 0).cps.toList.drop 0)
    simp only [List.drop_zero] at this ⊢
    have h2 : (q.s 0).cps.toList.length = (q.s 0).cps.size := by simp
    lia
  refine codeAny_mono (sub_loop O (pat2 W) (tx := q.t 0) (tr := q.t 1) (subst2 (q.s 0)) (a := q.a 0) (by lia) ((q.s 0).cps.size + 1) 0 0 [] (q.t 2) A s (by lia) (Nat.zero_le _) (by simp; lia) (by simpa using hl) D) ?_
  rintro r s' ⟨tk, e, D', x'⟩
  refine ⟨[], ⟨lt [] [tk] [] [] [] [] [], trivial, ?_, rfl⟩, D', x'⟩
  rw [e, catS_nil, show (⟨#[]⟩ : Str) = Str.empty from rfl, Str.empty_append]
  rfl
noncomputable def S_qd (W : Wd) : Sp (BB W) :=
  let B := BB W
  { d := 40
    c := fun q => .call (.ref 132) ⟨[.str (q.s 0) (q.t 0)], []⟩
    P := fun q => 8 * (q.s 0).length + 8 ≤ sizeLine
    pre := fun q => []
    R := fun q e => True
    res := fun q e => .ok (.ret (.str (quoted (q.s 0)) (e.t 0)))
    out := fun q e => [] }
noncomputable def on_qd : Code → View → Lt := fun c V => lt [] [valT (nthV (cPos c) 0)] [] [valS (nthV (cPos c) 0)] [] [] []
theorem F_quoted (x : Str) : F1 (F2 x 0) 0 = quoted x := by
  unfold F1 quoted quotedL F2 sL
  simp [bol]
noncomputable def S_qd0 (W : Wd) : Sp (BB W) :=
  let B := BB W
  { d := 40
    c := fun q => .call (.ref 132) ⟨[.str (q.s 0) (q.t 0)], []⟩
    P := fun q => 8 * (q.s 0).length + 8 ≤ sizeLine
    pre := fun q => []
    R := fun q e => True
    res := fun q e => .ok (.ret (.str (F1 (F2 (q.s 0) 0) 0) (e.t 0)))
    out := fun q e => [] }
theorem qd_run (W : Wd) (O : (BB W).Ok) (q : Lt) (hq : (S_qd0 W).P q) : At (S_qd0 W) 40 q := by
  refine tri_f O (stdE _) [U (S_sl1 W) (sl1_ok W O) on_sl1,U (S_sl2 W) (sl2_ok W O) on_sl2] 2000 40 (hs := hx 36 0x10030000000000410c0000000040000000000000000001040001) (is := [])
    (fun (ρ : Rho) => ob (A := (2 * (q.s 0).length + 2 ≤ sizeLine)) (by have h : 8 * (q.s 0).length + 8 ≤ sizeLine := hq; show 2 * (q.s 0).length + 2 ≤ sizeLine; lia) <| fun _ : True => ob (A := (2 * (F2 (q.s 0) 0).length + 2 ≤ sizeLine)) (by
    have h : 8 * (q.s 0).length + 8 ≤ sizeLine := hq
    show 2 * (F2 (q.s 0) 0).length + 2 ≤ sizeLine
    unfold F2
    rw [sL_len]
    have := crlf_len ((q.s 0).cps.toList.drop 0)
    simp only [List.drop_zero] at this ⊢
    have h2 : (q.s 0).cps.toList.length = (q.s 0).length := by simp; rfl
    lia) <| fun _ : True => fin (S_qd0 W) q (lt [] [(ρ.2 1).2 0] [] [] [] [] []) (trivial) :) ?_
  induction W using y_0 <;> kernel_rfl
theorem qd_ok (W : Wd) (O : (BB W).Ok) : (S_qd W).Ok := fun q hq => (qd_run W O q hq).mono (Nat.le_refl _) fun r V ⟨e, hR, hr, hV⟩ => ⟨e, hR, hr.trans (by show Except.ok (Flow.ret (Value.str (F1 (F2 _ 0) 0) _)) = _; rw [F_quoted]; rfl), hV⟩
end Mine
end
section
namespace Mine
open PySem PySem.Spec PySem.Calls PyProof.Rows PySem.W PySem.W.X PySem.Builtin.Int
theorem land_high (x k : Nat) : x &&& (x / 2 ^ k * 2 ^ k) = x / 2 ^ k * 2 ^ k := by
  apply Nat.eq_of_testBit_eq
  intro i
  rw [Nat.testBit_and, Nat.testBit_mul_two_pow, Nat.testBit_div_two_pow]
  by_cases h : k ≤ i
  · simp [h, Nat.sub_add_cancel h]
  · simp [h]
theorem fdiv_nat (x k : Nat) : ((x : Int)).fdiv (2 ^ k) = ((x / 2 ^ k : Nat) : Int) := by
  rw [Int.fdiv_eq_ediv_of_nonneg _ (Int.le_of_lt (Int.pow_pos (by decide)))]
  norm_cast
theorem xor_low (x k : Nat) : bXor (x : Int) (((x : Int)).fdiv (2 ^ k) * 2 ^ k) = ((x % 2 ^ k : Nat) : Int) := by
  have e : ((x : Int)).fdiv (2 ^ k) * 2 ^ k = ((x / 2 ^ k * 2 ^ k : Nat) : Int) := by rw [fdiv_nat]; norm_cast
  rw [e]
  unfold bXor
  rw [bitXor_and]
  have ha : PySem.Builtin.bitAnd (x : Int) ((x / 2 ^ k * 2 ^ k : Nat) : Int) = ((x &&& (x / 2 ^ k * 2 ^ k) : Nat) : Int) := by
    unfold PySem.Builtin.bitAnd
    rw [decide_eq_true (Int.natCast_nonneg x), decide_eq_true (Int.natCast_nonneg _)]
    rfl
  rw [ha, land_high]
  have := Nat.div_add_mod x (2 ^ k)
  rw [Nat.mul_comm] at this
  lia
theorem setV_len (xs : List Value) (i : Nat) (v : Value) : (setV xs i v).length = xs.length := by rw [setV_eq]; simp
theorem itemAt_setV : ∀ (xs : List Value) (i j : Nat) (v : Value), i < xs.length → itemAt (setV xs i v) j = if j = i then v else itemAt xs j
  | [], i, j, v, h => by simp at h
  | x :: xs, 0, 0, v, _ => rfl
  | x :: xs, 0, j + 1, v, _ => rfl
  | x :: xs, i + 1, 0, v, _ => rfl
  | x :: xs, i + 1, j + 1, v, h => by
    have := itemAt_setV xs i j v (by simpa using h)
    simp only [setV, itemAt, this, Nat.add_right_cancel_iff]
structure IP (x L R n : Int) (xs : List Value) (m : Nat) : Prop where
  x0 : 0 ≤ x
  L0 : 0 ≤ L
  LR : L < R
  Rl : R ≤ xs.length
  km : R - L ≤ ((2 ^ m : Nat) : Int)
  n0 : 0 < n
  n1 : n ≤ 4000
  xl : x < 2 ^ ((n * (R - L)).toNat)
  len : xs.length ≤ 5000
structure IR (x L R n : Int) (xs ys : List Value) : Prop where
  len : ys.length = xs.length
  out : ∀ i : Nat, i < L.toNat ∨ R.toNat ≤ i → itemAt ys i = itemAt xs i
  dig : ∀ j : Nat, L.toNat + j < R.toNat → ∃ t, itemAt ys (L.toNat + j) = .int ((x.toNat / 2 ^ (n.toNat * j) % 2 ^ n.toNat : Nat) : Int) t
theorem IP.lift {x L R n : Int} {xs : List Value} {m : Nat} (h : IP x L R n xs m) : ∃ X l k N : Nat, x = X ∧ L = l ∧ R = l + k ∧ n = N ∧ 0 < k ∧ k ≤ 2 ^ m ∧ 0 < N ∧ N ≤ 4000 ∧ X < 2 ^ (N * k) ∧ l + k ≤ xs.length := by
  obtain ⟨a1, a2, a3, a4, a5, a6, a7, a8, a9⟩ := h
  obtain ⟨X, rfl⟩ := Int.eq_ofNat_of_zero_le a1
  obtain ⟨l, rfl⟩ := Int.eq_ofNat_of_zero_le a2
  obtain ⟨N, rfl⟩ := Int.eq_ofNat_of_zero_le (Int.le_of_lt a6)
  obtain ⟨k, hk⟩ := Int.eq_ofNat_of_zero_le (show 0 ≤ R - l by lia)
  obtain rfl : R = l + k := by lia
  refine ⟨X, l, k, N, rfl, rfl, rfl, rfl, by lia, by lia, by lia, by lia, ?_, by lia⟩
  rw [show ((N : Int) * ((l : Int) + k - l)).toNat = N * k by rw [show ((l : Int) + k - l) = k by lia]; norm_cast] at a8
  exact_mod_cast a8
theorem IR.leaf {x L R n : Int} {xs : List Value} {m : Nat} (h : IP x L R n xs m) (e : L + 1 = R) (t : Tok) : IR x L R n xs (setV xs L.toNat (.int x t)) := by
  obtain ⟨X, l, k, N, rfl, rfl, rfl, rfl, k0, _, N0, _, hX, hl⟩ := h.lift
  obtain rfl : k = 1 := by lia
  simp only [Int.toNat_natCast]
  have hR : ((l : Int) + (1 : Nat)).toNat = l + 1 := by lia
  refine ⟨setV_len .., fun i hi => ?_, fun j hj => ?_⟩
  · rw [itemAt_setV _ _ _ _ (by lia), if_neg (by simp only [Int.toNat_natCast, hR] at hi; lia)]
  · simp only [Int.toNat_natCast, hR] at hj ⊢
    obtain rfl : j = 0 := by lia
    rw [itemAt_setV _ _ _ _ (by lia), if_pos (by lia)]
    refine ⟨t, ?_⟩
    rw [Nat.mul_zero, Nat.pow_zero, Nat.div_one, Nat.mod_eq_of_lt (by simpa using hX)]
structure Mid (L R mid n : Int) (l k1 k2 N : Nat) : Prop where
  hL : L = l
  hR : R = l + k1 + k2
  hm : mid = l + k1
  hn : n = N
  p1 : 0 < k1
  p2 : 0 < k2
  h1 : k1 ≤ k2
  h2 : k2 ≤ k1 + 1
theorem mid_of {L R n : Int} (h0 : 0 ≤ L) (h1 : L < R) (h2 : L + 1 ≠ R) (hn : 0 < n) : ∃ l k1 k2 N : Nat, Mid L R (Int.fdiv (L + R) (2 ^ Int.toNat 1)) n l k1 k2 N := by
  have e : Int.fdiv (L + R) (2 ^ Int.toNat 1) = (L + R) / 2 := by
    rw [Int.fdiv_eq_ediv_of_nonneg _ (by decide)]
    rfl
  rw [e]
  have b1 : L < (L + R) / 2 := by lia
  have b2 : (L + R) / 2 < R := by lia
  obtain ⟨l, rfl⟩ := Int.eq_ofNat_of_zero_le h0
  obtain ⟨N, rfl⟩ := Int.eq_ofNat_of_zero_le (Int.le_of_lt hn)
  obtain ⟨k1, hk1⟩ := Int.eq_ofNat_of_zero_le (show 0 ≤ ((l : Int) + R) / 2 - l by lia)
  obtain ⟨k2, hk2⟩ := Int.eq_ofNat_of_zero_le (show 0 ≤ R - ((l : Int) + R) / 2 by lia)
  exact ⟨l, k1, k2, N, rfl, by lia, by lia, rfl, by lia, by lia, by lia, by lia⟩
theorem mod_div_mod {X s a N : Nat} (h : a + N ≤ s) : X % 2 ^ s / 2 ^ a % 2 ^ N = X / 2 ^ a % 2 ^ N := by
  have e : (2 : Nat) ^ s = 2 ^ a * 2 ^ (s - a) := by rw [← Nat.pow_add]; congr 1; lia
  rw [e, Nat.mod_mul_right_div_self, Nat.mod_mod_of_dvd]
  exact Nat.pow_dvd_pow 2 (by lia)
section node
variable {x L R n mid : Int} {xs ys zs : List Value} {m l k1 k2 N : Nat}
theorem shift_eq (M : Mid L R mid n l k1 k2 N) : ((mid - L) * n).toNat = N * k1 := by
  obtain ⟨rfl, rfl, rfl, rfl, _, _, _, _⟩ := M
  rw [show ((l : Int) + k1 - l) = k1 by lia, Nat.mul_comm]
  norm_cast
theorem low_eq (M : Mid L R mid n l k1 k2 N) (h0 : 0 ≤ x) : bXor x (x.fdiv (2 ^ ((mid - L) * n).toNat) * 2 ^ ((mid - L) * n).toNat) = ((x.toNat % 2 ^ (N * k1) : Nat) : Int) := by
  obtain ⟨X, rfl⟩ := Int.eq_ofNat_of_zero_le h0
  rw [shift_eq M, xor_low]
  rfl
theorem up_eq (M : Mid L R mid n l k1 k2 N) (h0 : 0 ≤ x) : x.fdiv (2 ^ ((mid - L) * n).toNat) = ((x.toNat / 2 ^ (N * k1) : Nat) : Int) := by
  obtain ⟨X, rfl⟩ := Int.eq_ofNat_of_zero_le h0
  rw [shift_eq M, fdiv_nat]
  rfl
theorem node_low (h : IP x L R n xs (m + 1)) (M : Mid L R mid n l k1 k2 N) : IP (bXor x (x.fdiv (2 ^ ((mid - L) * n).toNat) * 2 ^ ((mid - L) * n).toNat)) L mid n xs m := by
  rw [low_eq M h.x0]
  have hs := shift_eq M
  have h' := h
  obtain ⟨hL, hR, hm, hn, p1, p2, p3, p4⟩ := M
  obtain ⟨a1, a2, a3, a4, a5, a6, a7, a8, a9⟩ := h
  have hp := Nat.pow_succ (n := 2) (m := m)
  refine ⟨Int.natCast_nonneg _, a2, by lia, by lia, by lia, a6, a7, ?_, a9⟩
  rw [show (n * (mid - L)).toNat = N * k1 by rw [Int.mul_comm]; exact hs]
  have := Nat.mod_lt x.toNat (Nat.pow_pos (n := N * k1) (show 0 < 2 by decide))
  exact_mod_cast this
theorem node_up (h : IP x L R n xs (m + 1)) (M : Mid L R mid n l k1 k2 N) (hlen : ys.length = xs.length) : IP (x.fdiv (2 ^ ((mid - L) * n).toNat)) mid R n ys m := by
  rw [up_eq M h.x0]
  obtain ⟨X, l', k, N', rfl, e1, e2, e3, _, _, _, _, hX, _⟩ := h.lift
  obtain ⟨hL, hR, hm, hn, p1, p2, p3, p4⟩ := M
  obtain ⟨a1, a2, a3, a4, a5, a6, a7, a8, a9⟩ := h
  have hp := Nat.pow_succ (n := 2) (m := m)
  refine ⟨Int.natCast_nonneg _, by lia, by lia, by lia, by lia, a6, a7, ?_, by lia⟩
  obtain rfl : N' = N := by lia
  obtain rfl : k = k1 + k2 := by lia
  rw [show (n * (R - mid)).toNat = N' * k2 by rw [hn, show R - mid = k2 by lia]; norm_cast]
  have : X / 2 ^ (N' * k1) < 2 ^ (N' * k2) := by
    rw [Nat.div_lt_iff_lt_mul (Nat.pow_pos (by decide)), ← Nat.pow_add, ← Nat.mul_add, Nat.add_comm k2 k1]
    exact hX
  exact_mod_cast this
theorem IR.node (h : IP x L R n xs (m + 1)) (M : Mid L R mid n l k1 k2 N) (h1 : IR (bXor x (x.fdiv (2 ^ ((mid - L) * n).toNat) * 2 ^ ((mid - L) * n).toNat)) L mid n xs ys)
    (h2 : IR (x.fdiv (2 ^ ((mid - L) * n).toNat)) mid R n ys zs) : IR x L R n xs zs := by
  rw [low_eq M h.x0] at h1
  rw [up_eq M h.x0] at h2
  obtain ⟨hL, hR, hm, hn, p1, p2, p3, p4⟩ := M
  subst hL hR hm hn
  have tL : ((l : Int)).toNat = l := by lia
  have tm : ((l : Int) + k1).toNat = l + k1 := by lia
  have tR : ((l : Int) + k1 + k2).toNat = l + k1 + k2 := by lia
  have tn : ((N : Int)).toNat = N := by lia
  obtain ⟨b1, b2, b3⟩ := h1
  obtain ⟨c1, c2, c3⟩ := h2
  simp only [tL, tm, tR, tn, Int.toNat_natCast] at b2 b3 c2 c3
  refine ⟨c1.trans b1, fun i hi => ?_, fun j hj => ?_⟩
  · simp only [tL, tR] at hi
    rw [c2 i (by lia), b2 i (by lia)]
  · simp only [tL, tR, tn] at hj ⊢
    by_cases hj1 : j < k1
    · obtain ⟨t, e⟩ := b3 j (by lia)
      refine ⟨t, ?_⟩
      rw [c2 (l + j) (by lia), e, mod_div_mod]
      have : N * (j + 1) ≤ N * k1 := Nat.mul_le_mul_left _ hj1
      rw [Nat.mul_succ] at this
      exact this
    · obtain ⟨t, e⟩ := c3 (j - k1) (by lia)
      refine ⟨t, ?_⟩
      rw [show l + k1 + (j - k1) = l + j by lia] at e
      rw [e, Nat.div_div_eq_div_mul, ← Nat.pow_add, ← Nat.mul_add, show k1 + (j - k1) = j by lia]
end node
noncomputable def dv (N : Nat) (xs : List Value) : Nat → Nat → Int
  | _, 0 => 0
  | L, k + 1 => shI (itemAt xs L) + 2 ^ N * dv N xs (L + 1) k
theorem dv_split (N : Nat) (xs : List Value) : ∀ (a b L : Nat), dv N xs L (a + b) = dv N xs L a + 2 ^ (N * a) * dv N xs (L + a) b
  | 0, b, L => by simp [dv]
  | a + 1, b, L => by
    rw [show a + 1 + b = (a + b) + 1 by lia, dv, dv, dv_split N xs a b (L + 1), Nat.mul_succ, Int.pow_add, show L + 1 + a = L + (a + 1) by lia]
    rw [Int.mul_add, Int.add_assoc, ← Int.mul_assoc, Int.mul_comm (2 ^ N) (2 ^ (N * a))]
theorem dv_digits {N X : Nat} {ys : List Value} : ∀ (k L j : Nat), (∀ i, i < k → ∃ t, itemAt ys (L + i) = .int ((X / 2 ^ (N * (j + i)) % 2 ^ N : Nat) : Int) t) → dv N ys L k = ((X / 2 ^ (N * j) % 2 ^ (N * k) : Nat) : Int)
  | 0, L, j, _ => by simp [dv, Nat.mod_one]
  | k + 1, L, j, h => by
    obtain ⟨t, e⟩ := h 0 (by lia)
    have ih := dv_digits (N := N) (X := X) (ys := ys) k (L + 1) (j + 1) (fun i hi => by
      obtain ⟨t, e⟩ := h (i + 1) (by lia)
      exact ⟨t, by rw [show L + 1 + i = L + (i + 1) by lia, e, show j + 1 + i = j + (i + 1) by lia]⟩)
    rw [dv, ih, show L = L + 0 by lia, e]
    show ((X / 2 ^ (N * (j + 0)) % 2 ^ N : Nat) : Int) + _ = _
    rw [Nat.add_zero, Nat.mul_succ, Nat.pow_add, ← Nat.div_div_eq_div_mul, Nat.mul_succ, show (2 : Nat) ^ (N * k + N) = 2 ^ N * 2 ^ (N * k) from by rw [Nat.pow_add, Nat.mul_comm], Nat.mod_mul]
    push_cast
    rfl
noncomputable def Digs (N : Nat) (xs : List Value) (L k : Nat) : Prop := ∀ i, i < k → ∃ v t, itemAt xs (L + i) = .int v t ∧ 0 ≤ v ∧ v < 2 ^ N
theorem dv_bound {N : Nat} {xs : List Value} : ∀ (k L : Nat), Digs N xs L k → 0 ≤ dv N xs L k ∧ dv N xs L k < 2 ^ (N * k)
  | 0, L, _ => by simp [dv]
  | k + 1, L, h => by
    obtain ⟨v, t, e, h0, h1⟩ := h 0 (by lia)
    have ih := dv_bound k (L + 1) (fun i hi => by
      obtain ⟨v, t, e, h0, h1⟩ := h (i + 1) (by lia)
      exact ⟨v, t, by rw [show L + 1 + i = L + (i + 1) by lia]; exact e, h0, h1⟩)
    rw [dv, show itemAt xs L = itemAt xs (L + 0) by rfl, e]
    have hp : (0 : Int) < 2 ^ N := Int.pow_pos (by decide)
    refine ⟨Int.add_nonneg h0 (Int.mul_nonneg (Int.le_of_lt hp) ih.1), ?_⟩
    rw [Nat.mul_succ, Int.pow_add, Int.mul_comm (2 ^ (N * k))]
    have : 2 ^ N * (dv N xs (L + 1) k + 1) ≤ 2 ^ N * 2 ^ (N * k) := Int.mul_le_mul_of_nonneg_left (by lia) (Int.le_of_lt hp)
    rw [Int.mul_add] at this
    show v + _ < _
    lia
structure DP (L R n : Int) (xs : List Value) (m : Nat) : Prop where
  L0 : 0 ≤ L
  LR : L < R
  Rl : R ≤ xs.length
  km : R - L ≤ ((2 ^ m : Nat) : Int)
  n0 : 0 < n
  n1 : n ≤ 4000
  len : xs.length ≤ 5000
  dg : Digs n.toNat xs 0 xs.length
theorem DP.leaf {L R n : Int} {xs : List Value} {m : Nat} (h : DP L R n xs m) (e : L + 1 = R) : shI (itemAt xs L.toNat) = dv n.toNat xs L.toNat (R - L).toNat := by
  rw [show (R - L).toNat = 0 + 1 by lia, dv, dv]
  simp
theorem DP.item {L R n : Int} {xs : List Value} {m : Nat} (h : DP L R n xs m) : itemAt xs L.toNat = shape 1 (itemAt xs L.toNat) := by
  obtain ⟨v, t, e, _⟩ := h.dg L.toNat (by have := h.L0; have := h.LR; have := h.Rl; lia)
  rw [Nat.zero_add] at e
  rw [e]; rfl
section
variable {L R n mid : Int} {xs : List Value} {m l k1 k2 N : Nat}
theorem DP.low (h : DP L R n xs (m + 1)) (M : Mid L R mid n l k1 k2 N) : DP L mid n xs m := by
  obtain ⟨hL, hR, hm, hn, p1, p2, p3, p4⟩ := M
  obtain ⟨a2, a3, a4, a5, a6, a7, a8, a9⟩ := h
  have hp := Nat.pow_succ (n := 2) (m := m)
  exact ⟨a2, by lia, by lia, by lia, a6, a7, a8, a9⟩
theorem DP.up (h : DP L R n xs (m + 1)) (M : Mid L R mid n l k1 k2 N) : DP mid R n xs m := by
  obtain ⟨hL, hR, hm, hn, p1, p2, p3, p4⟩ := M
  obtain ⟨a2, a3, a4, a5, a6, a7, a8, a9⟩ := h
  have hp := Nat.pow_succ (n := 2) (m := m)
  exact ⟨by lia, by lia, by lia, by lia, a6, a7, a8, a9⟩
theorem DP.sum (h : DP L R n xs (m + 1)) (M : Mid L R mid n l k1 k2 N) : dv n.toNat xs mid.toNat (R - mid).toNat * 2 ^ ((mid - L) * n).toNat + dv n.toNat xs L.toNat (mid - L).toNat = dv n.toNat xs L.toNat (R - L).toNat := by
  rw [shift_eq M]
  obtain ⟨hL, hR, hm, hn, p1, p2, p3, p4⟩ := M
  subst hL hR hm hn
  rw [show ((l : Int) + k1 + k2 - (l + k1)).toNat = k2 by lia, show ((l : Int) + k1 - l).toNat = k1 by lia, show ((l : Int) + k1 + k2 - l).toNat = k1 + k2 by lia,
    show ((l : Int) + k1).toNat = l + k1 by lia, Int.toNat_natCast, Int.toNat_natCast, dv_split, Int.mul_comm, Int.add_comm]
theorem DP.bits (h : DP L R n xs m) (h12 : m ≤ 3) : (intBits (dv n.toNat xs L.toNat (R - L).toNat) : Int) ≤ 32000 := by
  have b := dv_bound (R - L).toNat L.toNat (N := n.toNat) (xs := xs) (fun i hi => by
    obtain ⟨v, t, e, h0, h1⟩ := h.dg (L.toNat + i) (by have := h.L0; have := h.LR; have := h.Rl; lia)
    exact ⟨v, t, by rw [← e, Nat.zero_add], h0, h1⟩)
  have hk : (R - L).toNat ≤ 8 := by
    have := h.km
    have : (2 : Nat) ^ m ≤ 2 ^ 3 := Nat.pow_le_pow_right (by decide) h12
    lia
  have hN : n.toNat * (R - L).toNat ≤ 32000 := by
    have := h.n1
    have := h.n0
    calc n.toNat * (R - L).toNat ≤ 4000 * 8 := Nat.mul_le_mul (by lia) hk
      _ = 32000 := rfl
  have : intBits (dv n.toNat xs L.toNat (R - L).toNat) ≤ n.toNat * (R - L).toNat := intBits_le_iff.mpr (by
    obtain ⟨b0, b1⟩ := b
    have : ((dv n.toNat xs L.toNat (R - L).toNat).natAbs : Int) < ((2 ^ (n.toNat * (R - L).toNat) : Nat) : Int) := by
      rw [Int.natAbs_of_nonneg b0]; push_cast; exact b1
    exact_mod_cast this)
  lia
end
section
variable {x L R n mid : Int} {xs ys zs : List Value} {m l k1 k2 N : Nat}
theorem ob_mul (M : Mid L R mid n l k1 k2 N) (hR : R ≤ 5000) : IntMulOk (mid - L) n := by
  refine IntMulOk.of_left (intBits_le_64 ?_ ?_) <;> (obtain ⟨hL, hR, hm, hn, p1, p2, p3, p4⟩ := M; lia)
theorem ob_sh (M : Mid L R mid n l k1 k2 N) : 0 ≤ (mid - L) * n := by
  obtain ⟨hL, hR, hm, hn, p1, p2, p3, p4⟩ := M
  exact Int.mul_nonneg (by lia) (by lia)
theorem sh_le (M : Mid L R mid n l k1 k2 N) (hR : R ≤ 5000) (hn : n ≤ 4000) : (mid - L) * n ≤ 20000000 := by
  have hz := ob_sh M
  have e := shift_eq M
  obtain ⟨hL, hR', hm, hn', p1, p2, p3, p4⟩ := M
  have : N * k1 ≤ 4000 * 5000 := Nat.mul_le_mul (by lia) (by lia)
  lia
theorem ob_lsh (h : IP x L R n xs (m + 1)) (M : Mid L R mid n l k1 k2 N) : 0 ≤ (mid - L) * n ∧ (intBits (x.fdiv (2 ^ ((mid - L) * n).toNat)) : Int) + (mid - L) * n ≤ 2 ^ 27 := by
  have hR : R ≤ 5000 := by have := h.Rl; have := h.len; lia
  refine ⟨ob_sh M, ?_⟩
  have h2 := node_up h M rfl
  have h3 := sh_le M hR h.n1
  obtain ⟨X, l', k, N', e0, e1, e2, e3, p1', _, p3', p4', hX, _⟩ := h2.lift
  rw [e0]
  have : intBits (X : Int) ≤ N' * k := intBits_le_iff.mpr (by simpa using hX)
  have hk : N' * k ≤ 4000 * 5000 := Nat.mul_le_mul p4' (by have := h2.Rl; have := h2.L0; have := h2.len; lia)
  lia
end
noncomputable def cntI (a n : Int) : Int := Int.fdiv ((intBits a : Nat) + n - 1) n
structure I2P (a n : Int) : Prop where
  a0 : 0 ≤ a
  n0 : 0 < n
  n1 : n ≤ 4000
  k : cntI a n ≤ 8
structure I2R (a n : Int) (xs : List Value) : Prop where
  len : xs.length ≤ 8
  v : dv n.toNat xs 0 xs.length = a
  d : Digs n.toNat xs 0 xs.length
  ne : a = 0 → xs = []
theorem intBits_zero : intBits 0 = 0 := by decide
theorem cnt_lift {a n : Int} (h : I2P a n) : ∃ X N K : Nat, a = X ∧ n = N ∧ cntI a n = K ∧ 0 < N ∧ K ≤ 8 ∧ X < 2 ^ (N * K) ∧ (0 < X → 0 < K) ∧ (X = 0 → K = 0) := by
  obtain ⟨h1, h2, h3, h4⟩ := h
  obtain ⟨X, rfl⟩ := Int.eq_ofNat_of_zero_le h1
  obtain ⟨N, rfl⟩ := Int.eq_ofNat_of_zero_le (Int.le_of_lt h2)
  have hN : 0 < N := by lia
  have e : cntI X N = (((intBits (X : Int) + N - 1) / N : Nat) : Int) := by
    unfold cntI
    rw [show (((intBits (X : Int) : Nat) : Int) + (N : Int) - 1) = ((intBits (X : Int) + N - 1 : Nat) : Int) by lia, Int.fdiv_eq_ediv_of_nonneg _ (by lia)]
    norm_cast
  rw [e] at h4 ⊢
  refine ⟨X, N, _, rfl, rfl, rfl, hN, by exact_mod_cast h4, ?_, ?_, ?_⟩
  · have hb := intBits_le_iff (m := intBits (X : Int)) (x := (X : Int)) |>.mp (Nat.le_refl _)
    have hb : X < 2 ^ intBits (X : Int) := by simpa using hb
    refine Nat.lt_of_lt_of_le hb (Nat.pow_le_pow_right (by decide) ?_)
    have := Nat.div_add_mod (intBits (X : Int) + N - 1) N
    have := Nat.mod_lt (intBits (X : Int) + N - 1) hN
    lia
  · intro hX
    have : 0 < intBits (X : Int) := by
      apply Nat.pos_of_ne_zero
      intro h0
      have := (intBits_le_iff (m := 0) (x := (X : Int))).mp (by lia)
      simp at this
      lia
    exact Nat.div_pos (by lia) hN
  · rintro rfl
    rw [show ((0 : Nat) : Int) = 0 from rfl, intBits_zero, Nat.zero_add]
    exact Nat.div_eq_of_lt (by lia)
theorem repV_one (v : Value) (k : Nat) : repV ([v] ++ []) k = List.replicate k v := by
  induction k with
  | zero => rfl
  | succ k ih => rw [repV, ih]; rfl
theorem i2_mul {a n : Int} (h : I2P a n) (v : Value) : 0 ≤ cntI a n ∧ cntI a n ≤ sizeLine ∧ List.length ([v] ++ []) * (cntI a n).toNat ≤ sizeLine ∧ [v] ++ [] ≠ [] := by
  obtain ⟨X, N, K, _, _, e, _, hK, _⟩ := cnt_lift h
  rw [e]
  have : (8 : Nat) ≤ sizeLine := by decide
  refine ⟨by lia, by lia, ?_, by simp⟩
  simp
  lia
theorem i2_zero {a n : Int} (h : I2P a n) (ha : a = 0) (v : Value) : I2R a n (repV ([v] ++ []) (cntI a n).toNat) := by
  obtain ⟨X, N, K, e1, e2, e, _, hK, _, _, h0⟩ := cnt_lift h
  have : K = 0 := h0 (by lia)
  rw [e, this, ha]
  exact ⟨by simp [repV], by simp [repV, dv], fun i hi => by simp [repV] at hi, fun _ => by simp [repV]⟩
theorem i2_IP {a n : Int} (h : I2P a n) (ha : a ≠ 0) (v : Value) : IP a 0 ((repV ([v] ++ []) (cntI a n).toNat).length : Int) n (repV ([v] ++ []) (cntI a n).toNat) 3 := by
  obtain ⟨X, N, K, e1, e2, e, hN, hK, hX, hp, _⟩ := cnt_lift h
  rw [e, repV_one, Int.toNat_natCast, List.length_replicate]
  have := hp (by have := h.a0; lia)
  refine ⟨h.a0, Int.le_refl _, by lia, by simp, by show (K : Int) - 0 ≤ ((8 : Nat) : Int); lia, h.n0, h.n1, ?_, by simp; lia⟩
  rw [e1, e2, show ((N : Int) * ((K : Int) - 0)).toNat = N * K by rw [Int.sub_zero]; norm_cast]
  exact_mod_cast hX
theorem i2_len {a n : Int} (h : I2P a n) (v : Value) : List.length (repV ([v] ++ []) (cntI a n).toNat) ≤ sizeLine := by
  obtain ⟨X, N, K, e1, e2, e, hN, hK, hX, hp, _⟩ := cnt_lift h
  have : (8 : Nat) ≤ sizeLine := by decide
  rw [e, repV_one, Int.toNat_natCast, List.length_replicate]
  lia
theorem i2_done {a n : Int} (h : I2P a n) (ha : a ≠ 0) {v : Value} {ys : List Value} (hr : IR a 0 ((repV ([v] ++ []) (cntI a n).toNat).length : Int) n (repV ([v] ++ []) (cntI a n).toNat) ys) : I2R a n ys := by
  obtain ⟨X, N, K, e1, e2, e, hN, hK, hX, hp, _⟩ := cnt_lift h
  rw [e, repV_one, Int.toNat_natCast, List.length_replicate] at hr
  obtain ⟨b1, b2, b3⟩ := hr
  rw [List.length_replicate] at b1
  subst e1 e2
  simp only [Int.toNat_natCast, show ((0 : Int)).toNat = 0 from rfl, Nat.zero_add] at b3
  have hd : ∀ i, i < K → ∃ t, itemAt ys (0 + i) = .int ((X / 2 ^ (N * (0 + i)) % 2 ^ N : Nat) : Int) t := fun i hi => by
    obtain ⟨t, e⟩ := b3 i hi
    exact ⟨t, by rw [Nat.zero_add, e]⟩
  refine ⟨by lia, ?_, ?_, fun h => absurd h ha⟩
  · rw [b1, Int.toNat_natCast, dv_digits K 0 0 hd, Nat.mul_zero, Nat.pow_zero, Nat.div_one, Nat.mod_eq_of_lt hX]
  · rw [b1, Int.toNat_natCast]
    intro i hi
    obtain ⟨t, e⟩ := hd i hi
    refine ⟨_, t, e, Int.natCast_nonneg _, ?_⟩
    have := Nat.mod_lt (X / 2 ^ (N * (0 + i))) (Nat.pow_pos (n := N) (show 0 < 2 by decide))
    exact_mod_cast this
theorem noPy {x y : Int} {k : Nat} (hk : k ≤ 9000) (h : y.natAbs < 2 ^ k) : Builtin.divisionGoesByPylong x y = false := by
  refine PyProof.noPylong_of_log2 ?_
  by_cases h0 : y.natAbs = 0
  · rw [h0]; decide +kernel
  · exact Nat.lt_of_lt_of_le ((Nat.log2_lt h0).mpr h) hk
theorem noPy_n {a n : Int} (h : I2P a n) (x : Int) : n ≠ 0 ∧ Builtin.divisionGoesByPylong x n = false := by
  have := h.n0; have := h.n1
  exact ⟨by lia, noPy (k := 12) (by decide) (by lia)⟩
theorem ob_lshD {L R n mid : Int} {xs : List Value} {m l k1 k2 N : Nat} (h : DP L R n xs (m + 1)) (hm : m ≤ 3) (M : Mid L R mid n l k1 k2 N) {v : Int} (hv : v = dv n.toNat xs mid.toNat (R - mid).toNat) :
    0 ≤ (mid - L) * n ∧ (intBits v : Int) + (mid - L) * n ≤ 2 ^ 27 := by
  have h1 := (h.up M).bits hm
  have h2 := sh_le M (by have := h.Rl; have := h.len; lia) h.n1
  rw [← hv] at h1
  exact ⟨ob_sh M, by lia⟩
theorem DP.len' {L R n : Int} {xs : List Value} {m : Nat} (h : DP L R n xs m) : (0 ≤ L ∧ L.toNat < xs.length ∧ xs.length ≤ sizeLine) ∧ itemAt xs L.toNat = shape 1 (itemAt xs L.toNat) := by
  have h5 : (5000 : Nat) ≤ sizeLine := by decide
  have := h.L0; have := h.LR; have := h.Rl; have := h.len
  exact ⟨⟨h.L0, by lia, by lia⟩, h.item⟩
theorem d2_DP {n : Int} {xs : List Value} (hn : 0 < n) (h1 : n ≤ 4000) (hl : xs.length ≤ 8) (h0 : 0 < xs.length) (hd : Digs n.toNat xs 0 xs.length) : DP 0 (xs.length : Int) n xs 3 :=
  ⟨Int.le_refl _, by lia, by lia, by show (xs.length : Int) - 0 ≤ ((8 : Nat) : Int); lia, hn, h1, by lia, hd⟩
structure D2P (n : Int) (xs : List Value) : Prop where
  n0 : 0 < n
  n1 : n ≤ 4000
  len : xs.length ≤ 8
  dg : Digs n.toNat xs 0 xs.length
theorem DP.sum' {L R n mid : Int} {xs : List Value} {m l k1 k2 N : Nat} (h : DP L R n xs (m + 1)) (M : Mid L R mid n l k1 k2 N) {v1 v2 : Int} (e1 : v1 = dv n.toNat xs mid.toNat (R - mid).toNat) (e2 : v2 = dv n.toNat xs L.toNat (mid - L).toNat) :
    v1 * 2 ^ ((mid - L) * n).toNat + v2 = dv n.toNat xs L.toNat (R - L).toNat := by
  rw [e1, e2, DP.sum h M]
end Mine
end
section

namespace Mine
open PySem PySem.Spec PySem.Calls PyProof.Rows PySem.W PySem.W.X PySem.Builtin.Str
noncomputable def s_inner : Str := ⟨#[105, 110, 110, 101, 114]⟩
noncomputable def s_a_digits : Str := ⟨#[97, 95, 100, 105, 103, 105, 116, 115]⟩
noncomputable def s_digits : Str := ⟨#[100, 105, 103, 105, 116, 115]⟩
noncomputable def s_a : Str := ⟨#[97]⟩
noncomputable def s_n : Str := ⟨#[110]⟩
noncomputable def s_b : Str := ⟨#[98]⟩
noncomputable def s_r : Str := ⟨#[114]⟩
noncomputable def s_q_digits : Str := ⟨#[113, 95, 100, 105, 103, 105, 116, 115]⟩
noncomputable def s_a_digit : Str := ⟨#[97, 95, 100, 105, 103, 105, 116]⟩
noncomputable def s_q_digit : Str := ⟨#[113, 95, 100, 105, 103, 105, 116]⟩
noncomputable def s_innIq : Str := ⟨#[95, 105, 110, 116, 50, 100, 105, 103, 105, 116, 115, 46, 60, 108, 111, 99, 97, 108, 115, 62, 46, 105, 110, 110, 101, 114]⟩
noncomputable def s_innDq : Str := ⟨#[95, 100, 105, 103, 105, 116, 115, 50, 105, 110, 116, 46, 60, 108, 111, 99, 97, 108, 115, 62, 46, 105, 110, 110, 101, 114]⟩
noncomputable def innI (w : World) (cn ci ca ct co : Addr) : FuncData :=
  { name := s_inner, qualname := s_innIq, params := (defOf (nthS (stmtsOf (fdAt w 94)) 1)).1, body := .stmts (defOf (nthS (stmtsOf (fdAt w 94)) 1)).2.1, scope := (defOf (nthS (stmtsOf (fdAt w 94)) 1)).2.2,
    globals := 3, closure := [(s_n, cn), (s_inner, ci), (s_a_digits, ca)], defaults := .none, kwdefaults := .none, doc := .none, pyModule := (fdAt w 139).pyModule, annotations := none, code := .ref co, closureTuple := .ref ct, builtins := 0 }
noncomputable def innD (w : World) (cn ci ca ct co : Addr) : FuncData :=
  { name := s_inner, qualname := s_innDq, params := (defOf (nthS (stmtsOf (fdAt w 101)) 0)).1, body := .stmts (defOf (nthS (stmtsOf (fdAt w 101)) 0)).2.1, scope := (defOf (nthS (stmtsOf (fdAt w 101)) 0)).2.2,
    globals := 3, closure := [(s_n, cn), (s_inner, ci), (s_digits, ca)], defaults := .none, kwdefaults := .none, doc := .none, pyModule := (fdAt w 139).pyModule, annotations := none, code := .ref co, closureTuple := .ref ct, builtins := 0 }
noncomputable def S_ii (W : Wd) (dd m : Nat) : Sp (BI W) :=
  let B := BI W
  { d := dd
    c := fun q => .call (.ref (q.a 0)) ⟨[.int (q.i 0) (q.t 0), .int (q.i 1) (q.t 1), .int (q.i 2) (q.t 2)], []⟩
    P := fun q => IP (q.i 0) (q.i 1) (q.i 2) (q.i 3) (q.l 1) m
    pre := fun q => [((q.a 0),funcO (innI W.w (q.a 1) (q.a 2) (q.a 3) (q.a 4) (q.a 5)) none),((q.a 5),codeZ s_innIq (q.t 3) (q.v 0) (q.l 0)),((q.a 1),cellO (.int (q.i 3) (q.t 4))),((q.a 2),cellO (.ref (q.a 0))),((q.a 3),cellO (.ref (q.a 6))),((q.a 6),listO (q.l 1) (q.t 5))]
    R := fun q e => IR (q.i 0) (q.i 1) (q.i 2) (q.i 3) (q.l 1) (e.l 0)
    res := fun q e => .ok (.ret .none)
    out := fun q e => [((q.a 0),funcO (innI W.w (q.a 1) (q.a 2) (q.a 3) (q.a 4) (q.a 5)) none),((q.a 5),codeZ s_innIq (q.t 3) (q.v 0) (q.l 0)),((q.a 1),cellO (.int (q.i 3) (q.t 4))),((q.a 2),cellO (.ref (q.a 0))),((q.a 3),cellO (.ref (q.a 6))),((q.a 6),listO (e.l 0) (q.t 5))] }
noncomputable def on_ii : Code → View → Lt := fun c V => lt [valA (cFun c),fC V 0 0,fC V 0 1,fC V 0 2,fdTup (fdO (nthO V 0)),fdCode (fdO (nthO V 0)),cA V 4] [valT (nthV (cPos c) 0),valT (nthV (cPos c) 1),valT (nthV (cPos c) 2),qT V 1 1,cT V 2,eP V 5] [valI (nthV (cPos c) 0),valI (nthV (cPos c) 1),valI (nthV (cPos c) 2),valI (cellV (nthO V 2))] [] [nthV (sQ V 1) 0] [dropV 2 (sQ V 1),sQ V 5] []
theorem ii_leaf (W : Wd) (O : (BI W).Ok) (m : Nat) (q : Lt) (hq : (S_ii W 40 m).P q) (he : (q.i 1) + 1 = (q.i 2)) : Tri (BI W) 40 ((S_ii W 40 m).c q) ((S_ii W 40 m).pre q) ((S_ii W 40 m).post q) := by
  refine tri_f O (stdE _) [] 2000 40 (hs := hx 28 0x68421c01c7046048080040001001041041042041) (is := [1,1,1,1,1,1])
    (fun (ρ : Rho) => ob he <| ob (A := ((0 : Int) ≤ q.i 1 ∧ (q.i 1).toNat < List.length (q.l 1) ∧ List.length (q.l 1) ≤ sizeLine)) (⟨hq.L0,by have := hq.L0; have := hq.LR; have := hq.Rl; lia,by have := hq.len; exact Nat.le_trans this (by decide)⟩) <| fin (S_ii W 40 m) q (lt [] [] [] [] [] [setV (q.l 1) ((q.i 1)).toNat (.int (q.i 0) (q.t 0))] []) (IR.leaf hq he _) :) ?_
  induction W using y_0 <;> kernel_rfl
theorem ii_node1 (W : Wd) (O : (BI W).Ok) (ih : (S_ii W 40 0).Ok) (q : Lt) (l k1 k2 N : Nat) (M : Mid (q.i 1) (q.i 2) (Int.fdiv ((q.i 1) + (q.i 2)) (2 ^ Int.toNat 1)) (q.i 3) l k1 k2 N) (hq : (S_ii W 44 1).P q) (he : (q.i 1) + 1 ≠ (q.i 2)) : Tri (BI W) 44 ((S_ii W 44 1).c q) ((S_ii W 44 1).pre q) ((S_ii W 44 1).post q) := by
  refine tri_f O (stdE _) [U (S_ii W 40 0) ih on_ii] 2000 44 (hs := hx 82 0x1800c11c71c40410410411800c204104504164201b0800410410570800410415820040000410415c2000001049080040001001041041042041) (is := [0,0,0,0,0,0])
    (fun (ρ : Rho) => ob he <| ob (A := ((0 : Int) ≤ (1 : Int))) (by decide) <| ob (ob_mul M (by have := hq.Rl; have := hq.len; lia)) <| ob (ob_sh M) <| ob (ob_lsh hq M) <| ob (A := (True)) (trivial) <| ob (node_low hq M) <| fun he0 : IR (bXor (q.i 0) (Int.fdiv (q.i 0) (2 ^ Int.toNat ((Int.fdiv (q.i 1 + q.i 2) (2 ^ Int.toNat 1) - q.i 1) * q.i 3)) * 2 ^ Int.toNat ((Int.fdiv (q.i 1 + q.i 2) (2 ^ Int.toNat 1) - q.i 1) * q.i 3)) : Int) (q.i 1) (Int.fdiv (q.i 1 + q.i 2) (2 ^ Int.toNat 1) : Int) (q.i 3) (q.l 1) ((ρ.2 0).l 0) => ob (node_up hq M he0.len) <| fun he1 : IR (Int.fdiv (q.i 0) (2 ^ Int.toNat ((Int.fdiv (q.i 1 + q.i 2) (2 ^ Int.toNat 1) - q.i 1) * q.i 3)) : Int) (Int.fdiv (q.i 1 + q.i 2) (2 ^ Int.toNat 1) : Int) (q.i 2) (q.i 3) ((ρ.2 0).l 0) ((ρ.2 1).l 0) => fin (S_ii W 44 1) q (lt [] [] [] [] [] [(ρ.2 1).6 0] []) (IR.node hq M he0 he1) :) ?_
  induction W using y_0 <;> kernel_rfl
theorem ii_node2 (W : Wd) (O : (BI W).Ok) (ih : (S_ii W 44 1).Ok) (q : Lt) (l k1 k2 N : Nat) (M : Mid (q.i 1) (q.i 2) (Int.fdiv ((q.i 1) + (q.i 2)) (2 ^ Int.toNat 1)) (q.i 3) l k1 k2 N) (hq : (S_ii W 48 2).P q) (he : (q.i 1) + 1 ≠ (q.i 2)) : Tri (BI W) 48 ((S_ii W 48 2).c q) ((S_ii W 48 2).pre q) ((S_ii W 48 2).post q) := by
  refine tri_f O (stdE _) [U (S_ii W 44 1) ih on_ii] 2000 48 (hs := hx 82 0x1800c11c71c40410410411800c204104504164201b0800410410570800410415820040000410415c2000001049080040001001041041042041) (is := [0,0,0,0,0,0])
    (fun (ρ : Rho) => ob he <| ob (A := ((0 : Int) ≤ (1 : Int))) (by decide) <| ob (ob_mul M (by have := hq.Rl; have := hq.len; lia)) <| ob (ob_sh M) <| ob (ob_lsh hq M) <| ob (A := (True)) (trivial) <| ob (node_low hq M) <| fun he0 : IR (bXor (q.i 0) (Int.fdiv (q.i 0) (2 ^ Int.toNat ((Int.fdiv (q.i 1 + q.i 2) (2 ^ Int.toNat 1) - q.i 1) * q.i 3)) * 2 ^ Int.toNat ((Int.fdiv (q.i 1 + q.i 2) (2 ^ Int.toNat 1) - q.i 1) * q.i 3)) : Int) (q.i 1) (Int.fdiv (q.i 1 + q.i 2) (2 ^ Int.toNat 1) : Int) (q.i 3) (q.l 1) ((ρ.2 0).l 0) => ob (node_up hq M he0.len) <| fun he1 : IR (Int.fdiv (q.i 0) (2 ^ Int.toNat ((Int.fdiv (q.i 1 + q.i 2) (2 ^ Int.toNat 1) - q.i 1) * q.i 3)) : Int) (Int.fdiv (q.i 1 + q.i 2) (2 ^ Int.toNat 1) : Int) (q.i 2) (q.i 3) ((ρ.2 0).l 0) ((ρ.2 1).l 0) => fin (S_ii W 48 2) q (lt [] [] [] [] [] [(ρ.2 1).6 0] []) (IR.node hq M he0 he1) :) ?_
  induction W using y_0 <;> kernel_rfl
theorem ii_node3 (W : Wd) (O : (BI W).Ok) (ih : (S_ii W 48 2).Ok) (q : Lt) (l k1 k2 N : Nat) (M : Mid (q.i 1) (q.i 2) (Int.fdiv ((q.i 1) + (q.i 2)) (2 ^ Int.toNat 1)) (q.i 3) l k1 k2 N) (hq : (S_ii W 52 3).P q) (he : (q.i 1) + 1 ≠ (q.i 2)) : Tri (BI W) 52 ((S_ii W 52 3).c q) ((S_ii W 52 3).pre q) ((S_ii W 52 3).post q) := by
  refine tri_f O (stdE _) [U (S_ii W 48 2) ih on_ii] 2000 52 (hs := hx 82 0x1800c11c71c40410410411800c204104504164201b0800410410570800410415820040000410415c2000001049080040001001041041042041) (is := [0,0,0,0,0,0])
    (fun (ρ : Rho) => ob he <| ob (A := ((0 : Int) ≤ (1 : Int))) (by decide) <| ob (ob_mul M (by have := hq.Rl; have := hq.len; lia)) <| ob (ob_sh M) <| ob (ob_lsh hq M) <| ob (A := (True)) (trivial) <| ob (node_low hq M) <| fun he0 : IR (bXor (q.i 0) (Int.fdiv (q.i 0) (2 ^ Int.toNat ((Int.fdiv (q.i 1 + q.i 2) (2 ^ Int.toNat 1) - q.i 1) * q.i 3)) * 2 ^ Int.toNat ((Int.fdiv (q.i 1 + q.i 2) (2 ^ Int.toNat 1) - q.i 1) * q.i 3)) : Int) (q.i 1) (Int.fdiv (q.i 1 + q.i 2) (2 ^ Int.toNat 1) : Int) (q.i 3) (q.l 1) ((ρ.2 0).l 0) => ob (node_up hq M he0.len) <| fun he1 : IR (Int.fdiv (q.i 0) (2 ^ Int.toNat ((Int.fdiv (q.i 1 + q.i 2) (2 ^ Int.toNat 1) - q.i 1) * q.i 3)) : Int) (Int.fdiv (q.i 1 + q.i 2) (2 ^ Int.toNat 1) : Int) (q.i 2) (q.i 3) ((ρ.2 0).l 0) ((ρ.2 1).l 0) => fin (S_ii W 52 3) q (lt [] [] [] [] [] [(ρ.2 1).6 0] []) (IR.node hq M he0 he1) :) ?_
  induction W using y_0 <;> kernel_rfl
theorem ii_ok0 (W : Wd) (O : (BI W).Ok) : (S_ii W 40 0).Ok := fun q hq => ii_leaf W O 0 q hq (by have h : IP _ _ _ _ _ _ := hq; have := h.km; have := h.LR; have : ((2 ^ 0 : Nat) : Int) = 1 := rfl; lia)
theorem ii_ok1 (W : Wd) (O : (BI W).Ok) : (S_ii W 44 1).Ok := fun q hq => by
  by_cases he : (q.i 1) + 1 = (q.i 2)
  · exact (ii_leaf W O 1 q hq he).mono (by show 40 ≤ 44; decide) (fun _ _ h => h)
  · have h : IP _ _ _ _ _ _ := hq
    obtain ⟨l, k1, k2, N, M⟩ := mid_of h.L0 h.LR he h.n0
    exact ii_node1 W O (ii_ok0 W O) q l k1 k2 N M hq he
theorem ii_ok2 (W : Wd) (O : (BI W).Ok) : (S_ii W 48 2).Ok := fun q hq => by
  by_cases he : (q.i 1) + 1 = (q.i 2)
  · exact (ii_leaf W O 2 q hq he).mono (by show 40 ≤ 48; decide) (fun _ _ h => h)
  · have h : IP _ _ _ _ _ _ := hq
    obtain ⟨l, k1, k2, N, M⟩ := mid_of h.L0 h.LR he h.n0
    exact ii_node2 W O (ii_ok1 W O) q l k1 k2 N M hq he
theorem ii_ok3 (W : Wd) (O : (BI W).Ok) : (S_ii W 52 3).Ok := fun q hq => by
  by_cases he : (q.i 1) + 1 = (q.i 2)
  · exact (ii_leaf W O 3 q hq he).mono (by show 40 ≤ 52; decide) (fun _ _ h => h)
  · have h : IP _ _ _ _ _ _ := hq
    obtain ⟨l, k1, k2, N, M⟩ := mid_of h.L0 h.LR he h.n0
    exact ii_node3 W O (ii_ok2 W O) q l k1 k2 N M hq he
end Mine
end
section

namespace Mine
open PySem PySem.Spec PySem.Calls PyProof.Rows PySem.W PySem.W.X PySem.Builtin.Str
noncomputable def S_i20 (W : Wd) : Sp (BI W) :=
  let B := BI W
  { d := 60
    c := fun q => .call (.ref 94) ⟨[.int (q.i 0) (q.t 0), .int (q.i 1) (q.t 1)], []⟩
    P := fun q => I2P (q.i 0) (q.i 1)
    pre := fun q => [(89,tableObj ⟨tabVals tI.marks []⟩)]
    R := fun q e => I2R (q.i 0) (q.i 1) (e.l 0)
    res := fun q e => .ok (.ret (.ref (e.a 1)))
    out := fun q e => [(89,tableObj ⟨tabVals tI.marks [(e.a 0)]⟩),((e.a 0),codeZ s_innIq (e.t 0) (e.v 0) (e.l 1)),((e.a 1),listO (e.l 0) (e.t 1))] }
noncomputable def S_i21 (W : Wd) : Sp (BI W) :=
  let B := BI W
  { d := 60
    c := fun q => .call (.ref 94) ⟨[.int (q.i 0) (q.t 0), .int (q.i 1) (q.t 1)], []⟩
    P := fun q => I2P (q.i 0) (q.i 1)
    pre := fun q => [(89,tableObj ⟨tabVals tI.marks [(q.a 0)]⟩),((q.a 0),codeZ s_innIq (q.t 2) (q.v 0) (q.l 0))]
    R := fun q e => I2R (q.i 0) (q.i 1) (e.l 0)
    res := fun q e => .ok (.ret (.ref (e.a 0)))
    out := fun q e => [(89,tableObj ⟨tabVals tI.marks [(q.a 0)]⟩),((q.a 0),codeZ s_innIq (q.t 2) (q.v 0) (q.l 0)),((e.a 0),listO (e.l 0) (e.t 0))] }
theorem i20_z (W : Wd) (O : (BI W).Ok) (q : Lt) (hq : (S_i20 W).P q) (ha : (q.i 0) = 0) : Tri (BI W) 60 ((S_i20 W).c q) ((S_i20 W).pre q) ((S_i20 W).post q) := by
  refine tri_f O (stdE _) [] 2000 60 (hs := hx 49 0xc98200e2cb00000e38e2001040008820400410000550801000000046820050030c4100001) (is := [14,1,7])
    (fun (ρ : Rho) => ob (A := (True)) (trivial) <| ob (A := (q.i 1 ≠ (0 : Int) ∧ Builtin.divisionGoesByPylong (↑(Builtin.Int.intBits (q.i 0)) + q.i 1 - (1 : Int)) (q.i 1) = false)) (noPy_n hq _) <| ob (A := ((0 : Int) ≤ Int.fdiv (↑(Builtin.Int.intBits (q.i 0)) + q.i 1 - (1 : Int)) (q.i 1) ∧ Int.fdiv (↑(Builtin.Int.intBits (q.i 0)) + q.i 1 - (1 : Int)) (q.i 1) ≤ ↑sizeLine ∧ List.length ([Value.int (0 : Int) (ρ.1 5)]++[]) * Int.toNat (Int.fdiv (↑(Builtin.Int.intBits (q.i 0)) + q.i 1 - (1 : Int)) (q.i 1)) ≤ sizeLine ∧ [Value.int (0 : Int) (ρ.1 5)]++[] ≠ [])) (i2_mul hq _) <| ob ha <| fin (S_i20 W) q (lt [ρ.1 34,ρ.1 12] [ρ.1 15,0] [] [] [(.str (⟨#[105,110,110,101,114]⟩) (ρ.1 14))] [(repV ([Value.int 0 (ρ.1 5)]++[]) (cntI (q.i 0) (q.i 1)).toNat),[(.str (⟨#[47,99,108,97,105,109,47,99,117,116,46,112,121]⟩) (ρ.1 16)),(.int (77) (0)),(.int (3) (0)),(.int (0) (0)),(.int (0) (0)),(.int (19) (0)),(.ref (ρ.1 20)),(.bool true),(.int (276) (0)),(.ref (ρ.1 21)),.none,(.ref (ρ.1 29)),(.ref (ρ.1 30)),(.ref (ρ.1 31)),(.int (↑(ρ.n 32)) (0)),(.int (77) (0)),(.str (⟨#[47,99,108,97,105,109,47,99,117,116,46,112,121]⟩) (ρ.1 33))]] []) (i2_zero hq ha _) :) ?_
  induction W using y_0 <;> kernel_rfl
theorem i20_p (W : Wd) (O : (BI W).Ok) (q : Lt) (hq : (S_i20 W).P q) (ha : (q.i 0) ≠ 0) : Tri (BI W) 60 ((S_i20 W).c q) ((S_i20 W).pre q) ((S_i20 W).post q) := by
  refine tri_f O (stdE _) [U (S_ii W 52 3) (ii_ok3 W O) on_ii] 2000 60 (hs := hx 68 0x14620828000600304874200c00038b94200e2cb00000e38e2001040008820400410000550801000000046820050030c4100001) (is := [14,1,4])
    (fun (ρ : Rho) => ob (A := (True)) (trivial) <| ob (A := (q.i 1 ≠ (0 : Int) ∧ Builtin.divisionGoesByPylong (↑(Builtin.Int.intBits (q.i 0)) + q.i 1 - (1 : Int)) (q.i 1) = false)) (noPy_n hq _) <| ob (A := ((0 : Int) ≤ Int.fdiv (↑(Builtin.Int.intBits (q.i 0)) + q.i 1 - (1 : Int)) (q.i 1) ∧ Int.fdiv (↑(Builtin.Int.intBits (q.i 0)) + q.i 1 - (1 : Int)) (q.i 1) ≤ ↑sizeLine ∧ List.length ([Value.int (0 : Int) (ρ.1 5)]++[]) * Int.toNat (Int.fdiv (↑(Builtin.Int.intBits (q.i 0)) + q.i 1 - (1 : Int)) (q.i 1)) ≤ sizeLine ∧ [Value.int (0 : Int) (ρ.1 5)]++[] ≠ [])) (i2_mul hq _) <| ob ha <| ob (A := (List.length (repV ([Value.int (0 : Int) (ρ.1 5)]++[]) (Int.toNat (Int.fdiv (↑(Builtin.Int.intBits (q.i 0)) + q.i 1 - (1 : Int)) (q.i 1)))) ≤ sizeLine)) (i2_len hq _) <| ob (A := (IP (q.i 0) (0 : Int) (↑(List.length (repV ([Value.int 0 (ρ.n 5)]++[]) (Int.toNat (Int.fdiv (↑(Builtin.Int.intBits (q.i 0)) + q.i 1 - 1) (q.i 1))))) : Int) (q.i 1) ((repV ([Value.int 0 (ρ.1 5)]++[]) (cntI (q.i 0) (q.i 1)).toNat)) 3)) (i2_IP hq ha _) <| fun he0 : IR (q.i 0) (0 : Int) (↑(List.length (repV ([Value.int 0 (ρ.n 5)]++[]) (Int.toNat (Int.fdiv (↑(Builtin.Int.intBits (q.i 0)) + q.i 1 - 1) (q.i 1))))) : Int) (q.i 1) ((repV ([Value.int 0 (ρ.1 5)]++[]) (cntI (q.i 0) (q.i 1)).toNat)) ((ρ.2 0).l 0) => fin (S_i20 W) q (lt [ρ.1 34,ρ.1 12] [ρ.1 15,0] [] [] [(.str (⟨#[105,110,110,101,114]⟩) (ρ.1 14))] [(ρ.2 0).6 0,[(.str (⟨#[47,99,108,97,105,109,47,99,117,116,46,112,121]⟩) (ρ.1 16)),(.int (77) (0)),(.int (3) (0)),(.int (0) (0)),(.int (0) (0)),(.int (19) (0)),(.ref (ρ.1 20)),(.bool true),(.int (276) (0)),(.ref (ρ.1 21)),.none,(.ref (ρ.1 29)),(.ref (ρ.1 30)),(.ref (ρ.1 31)),(.int (↑(ρ.n 32)) (0)),(.int (77) (0)),(.str (⟨#[47,99,108,97,105,109,47,99,117,116,46,112,121]⟩) (ρ.1 33))]] []) (i2_done hq ha he0) :) ?_
  induction W using y_0 <;> kernel_rfl
theorem i20_run (W : Wd) (O : (BI W).Ok) : (S_i20 W).Ok := fun q hq => by
  by_cases ha : (q.i 0) = 0
  · exact i20_z W O q hq ha
  · exact i20_p W O q hq ha
theorem i21_z (W : Wd) (O : (BI W).Ok) (q : Lt) (hq : (S_i21 W).P q) (ha : (q.i 0) = 0) : Tri (BI W) 60 ((S_i21 W).c q) ((S_i21 W).pre q) ((S_i21 W).post q) := by
  refine tri_f O (stdE _) [] 2000 60 (hs := hx 46 0x1a60802051400002001040008820400410000550801000000046820050030c4100001) (is := [8,8,2])
    (fun (ρ : Rho) => ob (A := (True)) (trivial) <| ob (A := (q.i 1 ≠ (0 : Int) ∧ Builtin.divisionGoesByPylong (↑(Builtin.Int.intBits (q.i 0)) + q.i 1 - (1 : Int)) (q.i 1) = false)) (noPy_n hq _) <| ob (A := ((0 : Int) ≤ Int.fdiv (↑(Builtin.Int.intBits (q.i 0)) + q.i 1 - (1 : Int)) (q.i 1) ∧ Int.fdiv (↑(Builtin.Int.intBits (q.i 0)) + q.i 1 - (1 : Int)) (q.i 1) ≤ ↑sizeLine ∧ List.length ([Value.int (0 : Int) (ρ.1 5)]++[]) * Int.toNat (Int.fdiv (↑(Builtin.Int.intBits (q.i 0)) + q.i 1 - (1 : Int)) (q.i 1)) ≤ sizeLine ∧ [Value.int (0 : Int) (ρ.1 5)]++[] ≠ [])) (i2_mul hq _) <| ob ha <| fin (S_i21 W) q (lt [ρ.1 12] [0] [] [] [] [(repV ([Value.int 0 (ρ.1 5)]++[]) (cntI (q.i 0) (q.i 1)).toNat)] []) (i2_zero hq ha _) :) ?_
  induction W using y_0 <;> kernel_rfl
theorem i21_p (W : Wd) (O : (BI W).Ok) (q : Lt) (hq : (S_i21 W).P q) (ha : (q.i 0) ≠ 0) : Tri (BI W) 60 ((S_i21 W).c q) ((S_i21 W).pre q) ((S_i21 W).post q) := by
  refine tri_f O (stdE _) [U (S_ii W 52 3) (ii_ok3 W O) on_ii] 2000 60 (hs := hx 65 0x50430c52001800c109d0801800081650802051400002001040008820400410000550801000000046820050030c4100001) (is := [9,1,4])
    (fun (ρ : Rho) => ob (A := (True)) (trivial) <| ob (A := (q.i 1 ≠ (0 : Int) ∧ Builtin.divisionGoesByPylong (↑(Builtin.Int.intBits (q.i 0)) + q.i 1 - (1 : Int)) (q.i 1) = false)) (noPy_n hq _) <| ob (A := ((0 : Int) ≤ Int.fdiv (↑(Builtin.Int.intBits (q.i 0)) + q.i 1 - (1 : Int)) (q.i 1) ∧ Int.fdiv (↑(Builtin.Int.intBits (q.i 0)) + q.i 1 - (1 : Int)) (q.i 1) ≤ ↑sizeLine ∧ List.length ([Value.int (0 : Int) (ρ.1 5)]++[]) * Int.toNat (Int.fdiv (↑(Builtin.Int.intBits (q.i 0)) + q.i 1 - (1 : Int)) (q.i 1)) ≤ sizeLine ∧ [Value.int (0 : Int) (ρ.1 5)]++[] ≠ [])) (i2_mul hq _) <| ob ha <| ob (A := (List.length (repV ([Value.int (0 : Int) (ρ.1 5)]++[]) (Int.toNat (Int.fdiv (↑(Builtin.Int.intBits (q.i 0)) + q.i 1 - (1 : Int)) (q.i 1)))) ≤ sizeLine)) (i2_len hq _) <| ob (A := (IP (q.i 0) (0 : Int) (↑(List.length (repV ([Value.int 0 (ρ.n 5)]++[]) (Int.toNat (Int.fdiv (↑(Builtin.Int.intBits (q.i 0)) + q.i 1 - 1) (q.i 1))))) : Int) (q.i 1) ((repV ([Value.int 0 (ρ.1 5)]++[]) (cntI (q.i 0) (q.i 1)).toNat)) 3)) (i2_IP hq ha _) <| fun he0 : IR (q.i 0) (0 : Int) (↑(List.length (repV ([Value.int 0 (ρ.n 5)]++[]) (Int.toNat (Int.fdiv (↑(Builtin.Int.intBits (q.i 0)) + q.i 1 - 1) (q.i 1))))) : Int) (q.i 1) ((repV ([Value.int 0 (ρ.1 5)]++[]) (cntI (q.i 0) (q.i 1)).toNat)) ((ρ.2 0).l 0) => fin (S_i21 W) q (lt [ρ.1 12] [0] [] [] [] [(ρ.2 0).6 0] []) (i2_done hq ha he0) :) ?_
  induction W using y_0 <;> kernel_rfl
theorem i21_run (W : Wd) (O : (BI W).Ok) : (S_i21 W).Ok := fun q hq => by
  by_cases ha : (q.i 0) = 0
  · exact i21_z W O q hq ha
  · exact i21_p W O q hq ha
noncomputable def S_i2 (W : Wd) : Sp (BB W) :=
  let B := BB W
  { d := 60
    c := fun q => .call (.ref 94) ⟨[.int (q.i 0) (q.t 0), .int (q.i 1) (q.t 1)], []⟩
    P := fun q => I2P (q.i 0) (q.i 1)
    pre := fun q => []
    R := fun q e => I2R (q.i 0) (q.i 1) (e.l 0)
    res := fun q e => .ok (.ret (.ref (e.a 0)))
    out := fun q e => [((e.a 0),listO (e.l 0) (e.t 0))] }
noncomputable def on_i2 : Code → View → Lt := fun c V => lt [] [valT (nthV (cPos c) 0),valT (nthV (cPos c) 1)] [valI (nthV (cPos c) 0),valI (nthV (cPos c) 1)] [] [] [] []
theorem i2_ok (W : Wd) (O : (BB W).Ok) : (S_i2 W).Ok := fun q hq => by
  refine tri_loose (B := BB W) (T := tI) (tabs' := [tS, tD]) rfl (fun t => by show t ∈ [tS, tI, tD] ↔ _; simp; try exact ⟨fun h => by rcases h with h | h | h <;> simp [h], fun h => by rcases h with h | h | h <;> simp [h]⟩) (by intro t ht; simp only [List.mem_cons, List.not_mem_nil, or_false] at ht; rcases ht with rfl | rfl <;> decide) ?_
  intro as t v r hlen
  have OS : (BI W).Ok := Ok_loosen O (by decide) (by intro t ht; simp only [List.mem_cons, List.not_mem_nil, or_false] at ht; rcases ht with rfl | rfl <;> decide)
  rcases hlen with rfl | hlen
  · let q0 : Lt := lt [] [q.t 0, q.t 1] [q.i 0, q.i 1] [] [] [] []
    exact (i20_run W OS q0 hq).mono (Nat.le_refl _) (fun res V hV => by
      obtain ⟨e, hR, hr, rfl⟩ := hV
      exact ⟨[(e.a 0)], (li 0 [(e.t 0)]), (li .none [(e.v 0)]), (li [] [(e.l 1)]), [((e.a 0), codeZ s_innIq (e.t 0) (e.v 0) (e.l 1))], [((e.a 1), listO (e.l 0) (e.t 1))], [((e.a 1), listO (e.l 0) (e.t 1))], .inr rfl,
        fun p hp => hp, rfl, fun p hp => List.mem_append_right _ hp, rfl, lt [e.a 1] [e.t 1] [] [] [] [e.l 0] [], hR, hr, rfl⟩)
  · match as, hlen with
    | [x], _ =>
    let q0 : Lt := lt [x] [q.t 0, q.t 1, t 0] [q.i 0, q.i 1] [] [v 0] [r 0] []
    exact (i21_run W OS q0 hq).mono (Nat.le_refl _) (fun res V hV => by
      obtain ⟨e, hR, hr, rfl⟩ := hV
      exact ⟨[(q0.a 0)], (li 0 [(q0.t 2)]), (li .none [(q0.v 0)]), (li [] [(q0.l 0)]), [((q0.a 0), codeZ s_innIq (q0.t 2) (q0.v 0) (q0.l 0))], [((e.a 0), listO (e.l 0) (e.t 0))], [((e.a 0), listO (e.l 0) (e.t 0))], .inr rfl,
        fun p hp => hp, rfl, fun p hp => List.mem_append_right _ hp, rfl, lt [e.a 0] [e.t 0] [] [] [] [e.l 0] [], hR, hr, rfl⟩)
end Mine
end
section

namespace Mine
open PySem PySem.Spec PySem.Calls PyProof.Rows PySem.W PySem.W.X PySem.Builtin.Str
noncomputable def S_di (W : Wd) (dd m : Nat) : Sp (BD W) :=
  let B := BD W
  let pr := fun q : Lt => [((q.a 0),funcO (innD W.w (q.a 1) (q.a 2) (q.a 3) (q.a 4) (q.a 5)) none),((q.a 5),codeZ s_innDq (q.t 2) (q.v 0) (q.l 0)),((q.a 1),cellO (.int (q.i 2) (q.t 3))),((q.a 2),cellO (.ref (q.a 0))),((q.a 3),cellO (.ref (q.a 6))),((q.a 6),listO (q.l 1) (q.t 4))]
  { d := dd
    c := fun q => .call (.ref (q.a 0)) ⟨[.int (q.i 0) (q.t 0), .int (q.i 1) (q.t 1)], []⟩
    P := fun q => DP (q.i 0) (q.i 1) (q.i 2) (q.l 1) m
    pre := pr
    R := fun q e => (e.i 0) = dv (q.i 2).toNat (q.l 1) (q.i 0).toNat ((q.i 1) - (q.i 0)).toNat
    res := fun q e => .ok (.ret (.int (e.i 0) (e.t 0)))
    out := fun q e => []++(pr q).drop 0 }
noncomputable def on_di : Code → View → Lt := fun c V => lt [valA (cFun c),fC V 0 0,fC V 0 1,fC V 0 2,fdTup (fdO (nthO V 0)),fdCode (fdO (nthO V 0)),cA V 4] [valT (nthV (cPos c) 0),valT (nthV (cPos c) 1),qT V 1 1,cT V 2,eP V 5] [valI (nthV (cPos c) 0),valI (nthV (cPos c) 1),valI (cellV (nthO V 2))] [] [nthV (sQ V 1) 0] [dropV 2 (sQ V 1),sQ V 5] []
theorem di_leaf (W : Wd) (O : (BD W).Ok) (m : Nat) (q : Lt) (hq : (S_di W 40 m).P q) (he : (q.i 0) + 1 = (q.i 1)) : Tri (BD W) 40 ((S_di W 40 m).c q) ((S_di W 40 m).pre q) ((S_di W 40 m).post q) := by
  refine tri_f O (stdE _) [] 2000 40 (hs := hx 26 0x468021c01c71c1188080040001001041042041) (is := [1,1,1,1,1,1])
    (fun (ρ : Rho) => ob he <| ob (DP.len' hq) <| fin (S_di W 40 m) q (lt [] [shT (itemAt (q.l 1) ((q.i 0)).toNat)] [shI (itemAt (q.l 1) ((q.i 0)).toNat)] [] [] [] []) (DP.leaf hq he) :) ?_
  induction W using y_0 <;> kernel_rfl
theorem di_node1 (W : Wd) (O : (BD W).Ok) (ih : (S_di W 40 0).Ok) (q : Lt) (l k1 k2 N : Nat) (M : Mid (q.i 0) (q.i 1) (Int.fdiv ((q.i 0) + (q.i 1)) (2 ^ Int.toNat 1)) (q.i 2) l k1 k2 N) (hq : (S_di W 44 1).P q) (he : (q.i 0) + 1 ≠ (q.i 1)) : Tri (BD W) 44 ((S_di W 44 1).c q) ((S_di W 44 1).pre q) ((S_di W 44 1).post q) := by
  refine tri_f O (stdE _) [U (S_di W 40 0) ih on_di] 2000 44 (hs := hx 66 0x1800c11c711b0801c10410410460030810450415820040000410415c2000001049080040001001041042041) (is := [0,0,0,0,0,0])
    (fun (ρ : Rho) => ob he <| ob (A := ((0 : Int) ≤ (1 : Int))) (by decide) <| ob (ob_mul M (by have := hq.Rl; have := hq.len; lia)) <| ob (DP.up hq M) <| fun he0 : ((ρ.2 0).i 0) = dv (q.i 2).toNat (q.l 1) (Int.fdiv (q.i 0 + q.i 1) (2 ^ Int.toNat 1) : Int).toNat ((q.i 1) - (Int.fdiv (q.i 0 + q.i 1) (2 ^ Int.toNat 1) : Int)).toNat => ob (ob_lshD hq (by decide) M he0) <| ob (DP.low hq M) <| fun he1 : ((ρ.2 1).i 0) = dv (q.i 2).toNat (q.l 1) (q.i 0).toNat ((Int.fdiv (q.i 0 + q.i 1) (2 ^ Int.toNat 1) : Int) - (q.i 0)).toNat => fin (S_di W 44 1) q (lt [] [ρ.1 13] [(ρ.2 0).i 0 * 2 ^ Int.toNat ((Int.fdiv (q.i 0 + q.i 1) (2 ^ Int.toNat 1) - q.i 0) * q.i 2) + (ρ.2 1).i 0] [] [] [] []) ((DP.sum' hq M he0 he1)) :) ?_
  induction W using y_0 <;> kernel_rfl
theorem di_node2 (W : Wd) (O : (BD W).Ok) (ih : (S_di W 44 1).Ok) (q : Lt) (l k1 k2 N : Nat) (M : Mid (q.i 0) (q.i 1) (Int.fdiv ((q.i 0) + (q.i 1)) (2 ^ Int.toNat 1)) (q.i 2) l k1 k2 N) (hq : (S_di W 48 2).P q) (he : (q.i 0) + 1 ≠ (q.i 1)) : Tri (BD W) 48 ((S_di W 48 2).c q) ((S_di W 48 2).pre q) ((S_di W 48 2).post q) := by
  refine tri_f O (stdE _) [U (S_di W 44 1) ih on_di] 2000 48 (hs := hx 66 0x1800c11c711b0801c10410410460030810450415820040000410415c2000001049080040001001041042041) (is := [0,0,0,0,0,0])
    (fun (ρ : Rho) => ob he <| ob (A := ((0 : Int) ≤ (1 : Int))) (by decide) <| ob (ob_mul M (by have := hq.Rl; have := hq.len; lia)) <| ob (DP.up hq M) <| fun he0 : ((ρ.2 0).i 0) = dv (q.i 2).toNat (q.l 1) (Int.fdiv (q.i 0 + q.i 1) (2 ^ Int.toNat 1) : Int).toNat ((q.i 1) - (Int.fdiv (q.i 0 + q.i 1) (2 ^ Int.toNat 1) : Int)).toNat => ob (ob_lshD hq (by decide) M he0) <| ob (DP.low hq M) <| fun he1 : ((ρ.2 1).i 0) = dv (q.i 2).toNat (q.l 1) (q.i 0).toNat ((Int.fdiv (q.i 0 + q.i 1) (2 ^ Int.toNat 1) : Int) - (q.i 0)).toNat => fin (S_di W 48 2) q (lt [] [ρ.1 13] [(ρ.2 0).i 0 * 2 ^ Int.toNat ((Int.fdiv (q.i 0 + q.i 1) (2 ^ Int.toNat 1) - q.i 0) * q.i 2) + (ρ.2 1).i 0] [] [] [] []) ((DP.sum' hq M he0 he1)) :) ?_
  induction W using y_0 <;> kernel_rfl
theorem di_node3 (W : Wd) (O : (BD W).Ok) (ih : (S_di W 48 2).Ok) (q : Lt) (l k1 k2 N : Nat) (M : Mid (q.i 0) (q.i 1) (Int.fdiv ((q.i 0) + (q.i 1)) (2 ^ Int.toNat 1)) (q.i 2) l k1 k2 N) (hq : (S_di W 52 3).P q) (he : (q.i 0) + 1 ≠ (q.i 1)) : Tri (BD W) 52 ((S_di W 52 3).c q) ((S_di W 52 3).pre q) ((S_di W 52 3).post q) := by
  refine tri_f O (stdE _) [U (S_di W 48 2) ih on_di] 2000 52 (hs := hx 66 0x1800c11c711b0801c10410410460030810450415820040000410415c2000001049080040001001041042041) (is := [0,0,0,0,0,0])
    (fun (ρ : Rho) => ob he <| ob (A := ((0 : Int) ≤ (1 : Int))) (by decide) <| ob (ob_mul M (by have := hq.Rl; have := hq.len; lia)) <| ob (DP.up hq M) <| fun he0 : ((ρ.2 0).i 0) = dv (q.i 2).toNat (q.l 1) (Int.fdiv (q.i 0 + q.i 1) (2 ^ Int.toNat 1) : Int).toNat ((q.i 1) - (Int.fdiv (q.i 0 + q.i 1) (2 ^ Int.toNat 1) : Int)).toNat => ob (ob_lshD hq (by decide) M he0) <| ob (DP.low hq M) <| fun he1 : ((ρ.2 1).i 0) = dv (q.i 2).toNat (q.l 1) (q.i 0).toNat ((Int.fdiv (q.i 0 + q.i 1) (2 ^ Int.toNat 1) : Int) - (q.i 0)).toNat => fin (S_di W 52 3) q (lt [] [ρ.1 13] [(ρ.2 0).i 0 * 2 ^ Int.toNat ((Int.fdiv (q.i 0 + q.i 1) (2 ^ Int.toNat 1) - q.i 0) * q.i 2) + (ρ.2 1).i 0] [] [] [] []) ((DP.sum' hq M he0 he1)) :) ?_
  induction W using y_0 <;> kernel_rfl
theorem di_ok0 (W : Wd) (O : (BD W).Ok) : (S_di W 40 0).Ok := fun q hq => di_leaf W O 0 q hq (by have h : DP _ _ _ _ _ := hq; have := h.km; have := h.LR; have : ((2 ^ 0 : Nat) : Int) = 1 := rfl; lia)
theorem di_ok1 (W : Wd) (O : (BD W).Ok) : (S_di W 44 1).Ok := fun q hq => by
  by_cases he : (q.i 0) + 1 = (q.i 1)
  · exact (di_leaf W O 1 q hq he).mono (by show 40 ≤ 44; decide) (fun _ _ h => h)
  · have h : DP _ _ _ _ _ := hq
    obtain ⟨l, k1, k2, N, M⟩ := mid_of h.L0 h.LR he h.n0
    exact di_node1 W O (di_ok0 W O) q l k1 k2 N M hq he
theorem di_ok2 (W : Wd) (O : (BD W).Ok) : (S_di W 48 2).Ok := fun q hq => by
  by_cases he : (q.i 0) + 1 = (q.i 1)
  · exact (di_leaf W O 2 q hq he).mono (by show 40 ≤ 48; decide) (fun _ _ h => h)
  · have h : DP _ _ _ _ _ := hq
    obtain ⟨l, k1, k2, N, M⟩ := mid_of h.L0 h.LR he h.n0
    exact di_node2 W O (di_ok1 W O) q l k1 k2 N M hq he
theorem di_ok3 (W : Wd) (O : (BD W).Ok) : (S_di W 52 3).Ok := fun q hq => by
  by_cases he : (q.i 0) + 1 = (q.i 1)
  · exact (di_leaf W O 3 q hq he).mono (by show 40 ≤ 52; decide) (fun _ _ h => h)
  · have h : DP _ _ _ _ _ := hq
    obtain ⟨l, k1, k2, N, M⟩ := mid_of h.L0 h.LR he h.n0
    exact di_node3 W O (di_ok2 W O) q l k1 k2 N M hq he
noncomputable def S_d20n (W : Wd) : Sp (BD W) :=
  let B := BD W
  { d := 60
    c := fun q => .call (.ref 101) ⟨[.ref (q.a 0), .int (q.i 0) (q.t 0)], []⟩
    P := fun q => D2P (q.i 0) ((q.v 0) :: (q.l 0))
    pre := fun q => [(96,tableObj ⟨tabVals tD.marks []⟩),((q.a 0),listO ((q.v 0)::(q.l 0)) (q.t 1))]
    R := fun q e => (e.i 0) = dv (q.i 0).toNat ((q.v 0) :: (q.l 0)) 0 ((q.v 0) :: (q.l 0)).length
    res := fun q e => .ok (.ret (.int (e.i 0) (e.t 1)))
    out := fun q e => [(96,tableObj ⟨tabVals tD.marks [(e.a 0)]⟩),((e.a 0),codeZ s_innDq (e.t 0) (e.v 0) (e.l 0)),((q.a 0),listO ((q.v 0)::(q.l 0)) (q.t 1))] }
noncomputable def S_d21n (W : Wd) : Sp (BD W) :=
  let B := BD W
  { d := 60
    c := fun q => .call (.ref 101) ⟨[.ref (q.a 0), .int (q.i 0) (q.t 0)], []⟩
    P := fun q => D2P (q.i 0) ((q.v 1) :: (q.l 1))
    pre := fun q => [(96,tableObj ⟨tabVals tD.marks [(q.a 1)]⟩),((q.a 1),codeZ s_innDq (q.t 1) (q.v 0) (q.l 0)),((q.a 0),listO ((q.v 1)::(q.l 1)) (q.t 2))]
    R := fun q e => (e.i 0) = dv (q.i 0).toNat ((q.v 1) :: (q.l 1)) 0 ((q.v 1) :: (q.l 1)).length
    res := fun q e => .ok (.ret (.int (e.i 0) (e.t 0)))
    out := fun q e => [(96,tableObj ⟨tabVals tD.marks [(q.a 1)]⟩),((q.a 1),codeZ s_innDq (q.t 1) (q.v 0) (q.l 0)),((q.a 0),listO ((q.v 1)::(q.l 1)) (q.t 2))] }
noncomputable def S_d20e (W : Wd) : Sp (BD W) :=
  let B := BD W
  { d := 60
    c := fun q => .call (.ref 101) ⟨[.ref (q.a 0), .int (q.i 0) (q.t 0)], []⟩
    P := fun q => True
    pre := fun q => [(96,tableObj ⟨tabVals tD.marks []⟩),((q.a 0),listO [] (q.t 1))]
    R := fun q e => (e.i 0) = 0
    res := fun q e => .ok (.ret (.int (e.i 0) (e.t 1)))
    out := fun q e => [(96,tableObj ⟨tabVals tD.marks [(e.a 0)]⟩),((e.a 0),codeZ s_innDq (e.t 0) (e.v 0) (e.l 0)),((q.a 0),listO [] (q.t 1))] }
noncomputable def S_d21e (W : Wd) : Sp (BD W) :=
  let B := BD W
  { d := 60
    c := fun q => .call (.ref 101) ⟨[.ref (q.a 0), .int (q.i 0) (q.t 0)], []⟩
    P := fun q => True
    pre := fun q => [(96,tableObj ⟨tabVals tD.marks [(q.a 1)]⟩),((q.a 1),codeZ s_innDq (q.t 1) (q.v 0) (q.l 0)),((q.a 0),listO [] (q.t 2))]
    R := fun q e => (e.i 0) = 0
    res := fun q e => .ok (.ret (.int (e.i 0) (e.t 0)))
    out := fun q e => [(96,tableObj ⟨tabVals tD.marks [(q.a 1)]⟩),((q.a 1),codeZ s_innDq (q.t 1) (q.v 0) (q.l 0)),((q.a 0),listO [] (q.t 2))] }
theorem d20n_run0 (W : Wd) (O : (BD W).Ok) (q : Lt) (hq : (S_d20n W).P q) : Tri (BD W) 60 ((S_d20n W).c q) ((S_d20n W).pre q) ((S_d20n W).post q) := by
  refine tri_f O (stdE _) [U (S_di W 52 3) (di_ok3 W O) on_di] 2000 60 (hs := hx 42 0x2061870001800c135d0802c000935d08e38b24900000c30c1800020830c0001) (is := [13,1,4])
    (fun (ρ : Rho) => ob (A := (List.length (q.v 0::q.l 0) ≤ sizeLine)) (by have h : D2P _ _ := hq; have := h.len; exact Nat.le_trans this (by decide)) <| ob (A := (List.length (q.v 0::q.l 0) ≤ sizeLine)) (by have h : D2P _ _ := hq; have := h.len; exact Nat.le_trans this (by decide)) <| ob (A := (DP (0 : Int) (↑(List.length (q.v 0::q.l 0)) : Int) (q.i 0) (((q.v 0)::(q.l 0))) 3)) (by have h : D2P _ _ := hq; exact d2_DP h.n0 h.n1 h.len (Nat.succ_pos _) h.dg) <| fun he0 : ((ρ.2 0).i 0) = dv (q.i 0).toNat (((q.v 0)::(q.l 0))) (0 : Int).toNat ((↑(List.length (q.v 0::q.l 0)) : Int) - (0 : Int)).toNat => fin (S_d20n W) q (lt [ρ.1 22] [ρ.1 6,(ρ.2 0).2 0] [(ρ.2 0).i 0] [] [(.str (⟨#[105,110,110,101,114]⟩) (ρ.1 5))] [[(.str (⟨#[47,99,108,97,105,109,47,99,117,116,46,112,121]⟩) (ρ.1 7)),(.int (92) (0)),(.int (2) (0)),(.int (0) (0)),(.int (0) (0)),(.int (19) (0)),(.ref (ρ.1 11)),(.bool true),(.int (276) (0)),(.ref (ρ.1 12)),.none,(.ref (ρ.1 17)),(.ref (ρ.1 18)),(.ref (ρ.1 19)),(.int (↑(ρ.n 20)) (0)),(.int (92) (0)),(.str (⟨#[47,99,108,97,105,109,47,99,117,116,46,112,121]⟩) (ρ.1 21))]] []) ((by have z : _ = _ := he0; exact z.trans (by rfl))) :) ?_
  induction W using y_0 <;> kernel_rfl
theorem d20n_run (W : Wd) (O : (BD W).Ok) : (S_d20n W).Ok := fun q hq => d20n_run0 W O q hq
theorem d21n_run0 (W : Wd) (O : (BD W).Ok) (q : Lt) (hq : (S_d21n W).P q) : Tri (BD W) 60 ((S_d21n W).c q) ((S_d21n W).pre q) ((S_d21n W).post q) := by
  refine tri_f O (stdE _) [U (S_di W 52 3) (di_ok3 W O) on_di] 2000 60 (hs := hx 39 0x30410860060030487420050000c87422491430c00001800020830c0001) (is := [8,1,4])
    (fun (ρ : Rho) => ob (A := (List.length (q.v 1::q.l 1) ≤ sizeLine)) (by have h : D2P _ _ := hq; have := h.len; exact Nat.le_trans this (by decide)) <| ob (A := (List.length (q.v 1::q.l 1) ≤ sizeLine)) (by have h : D2P _ _ := hq; have := h.len; exact Nat.le_trans this (by decide)) <| ob (A := (DP (0 : Int) (↑(List.length (q.v 1::q.l 1)) : Int) (q.i 0) (((q.v 1)::(q.l 1))) 3)) (by have h : D2P _ _ := hq; exact d2_DP h.n0 h.n1 h.len (Nat.succ_pos _) h.dg) <| fun he0 : ((ρ.2 0).i 0) = dv (q.i 0).toNat (((q.v 1)::(q.l 1))) (0 : Int).toNat ((↑(List.length (q.v 1::q.l 1)) : Int) - (0 : Int)).toNat => fin (S_d21n W) q (lt [] [(ρ.2 0).2 0] [(ρ.2 0).i 0] [] [] [] []) ((by have z : _ = _ := he0; exact z.trans (by rfl))) :) ?_
  induction W using y_0 <;> kernel_rfl
theorem d21n_run (W : Wd) (O : (BD W).Ok) : (S_d21n W).Ok := fun q hq => d21n_run0 W O q hq
theorem d20e_run0 (W : Wd) (O : (BD W).Ok) (q : Lt) : Tri (BD W) 60 ((S_d20e W).c q) ((S_d20e W).pre q) ((S_d20e W).post q) := by
  refine tri_f O (stdE _) [] 2000 60 (hs := hx 27 0xe00e00e00e38b24900000c30c1800020830c0001) (is := [12,1,11])
    (fun (ρ : Rho) => fin (S_d20e W) q (lt [ρ.1 22] [ρ.1 6,ρ.1 26] [0] [] [(.str (⟨#[105,110,110,101,114]⟩) (ρ.1 5))] [[(.str (⟨#[47,99,108,97,105,109,47,99,117,116,46,112,121]⟩) (ρ.1 7)),(.int (92) (0)),(.int (2) (0)),(.int (0) (0)),(.int (0) (0)),(.int (19) (0)),(.ref (ρ.1 11)),(.bool true),(.int (276) (0)),(.ref (ρ.1 12)),.none,(.ref (ρ.1 17)),(.ref (ρ.1 18)),(.ref (ρ.1 19)),(.int (↑(ρ.n 20)) (0)),(.int (92) (0)),(.str (⟨#[47,99,108,97,105,109,47,99,117,116,46,112,121]⟩) (ρ.1 21))]] []) (rfl) :) ?_
  induction W using y_0 <;> kernel_rfl
theorem d20e_run (W : Wd) (O : (BD W).Ok) : (S_d20e W).Ok := fun q hq => d20e_run0 W O q
theorem d21e_run0 (W : Wd) (O : (BD W).Ok) (q : Lt) : Tri (BD W) 60 ((S_d21e W).c q) ((S_d21e W).pre q) ((S_d21e W).post q) := by
  refine tri_f O (stdE _) [] 2000 60 (hs := hx 24 0x2402402402491430c00001800020830c0001) (is := [6,6,6])
    (fun (ρ : Rho) => fin (S_d21e W) q (lt [] [ρ.1 8] [0] [] [] [] []) (rfl) :) ?_
  induction W using y_0 <;> kernel_rfl
theorem d21e_run (W : Wd) (O : (BD W).Ok) : (S_d21e W).Ok := fun q hq => d21e_run0 W O q
noncomputable def S_d2n (W : Wd) : Sp (BB W) :=
  let B := BB W
  { d := 60
    c := fun q => .call (.ref 101) ⟨[.ref (q.a 0), .int (q.i 0) (q.t 0)], []⟩
    P := fun q => D2P (q.i 0) ((q.v 0) :: (q.l 0))
    pre := fun q => [((q.a 0),listO ((q.v 0)::(q.l 0)) (q.t 1))]
    R := fun q e => (e.i 0) = dv (q.i 0).toNat ((q.v 0) :: (q.l 0)) 0 ((q.v 0) :: (q.l 0)).length
    res := fun q e => .ok (.ret (.int (e.i 0) (e.t 0)))
    out := fun q e => [((q.a 0),listO ((q.v 0)::(q.l 0)) (q.t 1))] }
noncomputable def S_d2e (W : Wd) : Sp (BB W) :=
  let B := BB W
  { d := 60
    c := fun q => .call (.ref 101) ⟨[.ref (q.a 0), .int (q.i 0) (q.t 0)], []⟩
    P := fun q => True
    pre := fun q => [((q.a 0),listO [] (q.t 1))]
    R := fun q e => (e.i 0) = 0
    res := fun q e => .ok (.ret (.int (e.i 0) (e.t 0)))
    out := fun q e => [((q.a 0),listO [] (q.t 1))] }
noncomputable def on_d2e : Code → View → Lt := fun c V => lt [valA (nthV (cPos c) 0)] [valT (nthV (cPos c) 1),eP V 0] [valI (nthV (cPos c) 1)] [] [] [] []
theorem d2n_ok (W : Wd) (O : (BB W).Ok) : (S_d2n W).Ok := fun q hq => by
  refine tri_loose (B := BB W) (T := tD) (tabs' := [tS, tI]) rfl (fun t => by show t ∈ [tS, tI, tD] ↔ _; simp; try exact ⟨fun h => by rcases h with h | h | h <;> simp [h], fun h => by rcases h with h | h | h <;> simp [h]⟩) (by intro t ht; simp only [List.mem_cons, List.not_mem_nil, or_false] at ht; rcases ht with rfl | rfl <;> decide) ?_
  intro as t v r hlen
  have OS : (BD W).Ok := Ok_loosen O (by decide) (by intro t ht; simp only [List.mem_cons, List.not_mem_nil, or_false] at ht; rcases ht with rfl | rfl <;> decide)
  rcases hlen with rfl | hlen
  · let q0 : Lt := lt [q.a 0] [q.t 0, q.t 1] [q.i 0] [] [q.v 0] [q.l 0] []
    exact (d20n_run W OS q0 hq).mono (Nat.le_refl _) (fun res V hV => by
      obtain ⟨e, hR, hr, rfl⟩ := hV
      exact ⟨[(e.a 0)], (li 0 [(e.t 0)]), (li .none [(e.v 0)]), (li [] [(e.l 0)]), [((e.a 0), codeZ s_innDq (e.t 0) (e.v 0) (e.l 0))], [((q0.a 0), listO ((q0.v 0) :: (q0.l 0)) (q0.t 1))], [((q0.a 0), listO ((q0.v 0) :: (q0.l 0)) (q0.t 1))], .inr rfl,
        fun p hp => hp, rfl, fun p hp => List.mem_append_right _ hp, rfl, lt [] [e.t 1] [e.i 0] [] [] [] [], hR, hr, rfl⟩)
  · match as, hlen with
    | [x], _ =>
    let q0 : Lt := lt [q.a 0, x] [q.t 0, t 0, q.t 1] [q.i 0] [] [v 0, q.v 0] [r 0, q.l 0] []
    exact (d21n_run W OS q0 hq).mono (Nat.le_refl _) (fun res V hV => by
      obtain ⟨e, hR, hr, rfl⟩ := hV
      exact ⟨[(q0.a 1)], (li 0 [(q0.t 1)]), (li .none [(q0.v 0)]), (li [] [(q0.l 0)]), [((q0.a 1), codeZ s_innDq (q0.t 1) (q0.v 0) (q0.l 0))], [((q0.a 0), listO ((q0.v 1) :: (q0.l 1)) (q0.t 2))], [((q0.a 0), listO ((q0.v 1) :: (q0.l 1)) (q0.t 2))], .inr rfl,
        fun p hp => hp, rfl, fun p hp => List.mem_append_right _ hp, rfl, lt [] [e.t 0] [e.i 0] [] [] [] [], hR, hr, rfl⟩)
theorem d2e_ok (W : Wd) (O : (BB W).Ok) : (S_d2e W).Ok := fun q hq => by
  refine tri_loose (B := BB W) (T := tD) (tabs' := [tS, tI]) rfl (fun t => by show t ∈ [tS, tI, tD] ↔ _; simp; try exact ⟨fun h => by rcases h with h | h | h <;> simp [h], fun h => by rcases h with h | h | h <;> simp [h]⟩) (by intro t ht; simp only [List.mem_cons, List.not_mem_nil, or_false] at ht; rcases ht with rfl | rfl <;> decide) ?_
  intro as t v r hlen
  have OS : (BD W).Ok := Ok_loosen O (by decide) (by intro t ht; simp only [List.mem_cons, List.not_mem_nil, or_false] at ht; rcases ht with rfl | rfl <;> decide)
  rcases hlen with rfl | hlen
  · let q0 : Lt := lt [q.a 0] [q.t 0, q.t 1] [q.i 0] [] [] [] []
    exact (d20e_run W OS q0 hq).mono (Nat.le_refl _) (fun res V hV => by
      obtain ⟨e, hR, hr, rfl⟩ := hV
      exact ⟨[(e.a 0)], (li 0 [(e.t 0)]), (li .none [(e.v 0)]), (li [] [(e.l 0)]), [((e.a 0), codeZ s_innDq (e.t 0) (e.v 0) (e.l 0))], [((q0.a 0), listO [] (q0.t 1))], [((q0.a 0), listO [] (q0.t 1))], .inr rfl,
        fun p hp => hp, rfl, fun p hp => List.mem_append_right _ hp, rfl, lt [] [e.t 1] [e.i 0] [] [] [] [], hR, hr, rfl⟩)
  · match as, hlen with
    | [x], _ =>
    let q0 : Lt := lt [q.a 0, x] [q.t 0, t 0, q.t 1] [q.i 0] [] [v 0] [r 0] []
    exact (d21e_run W OS q0 hq).mono (Nat.le_refl _) (fun res V hV => by
      obtain ⟨e, hR, hr, rfl⟩ := hV
      exact ⟨[(q0.a 1)], (li 0 [(q0.t 1)]), (li .none [(q0.v 0)]), (li [] [(q0.l 0)]), [((q0.a 1), codeZ s_innDq (q0.t 1) (q0.v 0) (q0.l 0))], [((q0.a 0), listO [] (q0.t 2))], [((q0.a 0), listO [] (q0.t 2))], .inr rfl,
        fun p hp => hp, rfl, fun p hp => List.mem_append_right _ hp, rfl, lt [] [e.t 0] [e.i 0] [] [] [] [], hR, hr, rfl⟩)
end Mine
end
section
namespace Mine
open PySem PySem.Spec PySem.Calls PyProof.Rows PySem.W PySem.W.X PySem.Builtin.Int
noncomputable def tupO (xs : List Value) : Obj := ⟨.type "tuple", none, .seq ⟨xs⟩ 0, #[]⟩
noncomputable def hv (N : Nat) : List Value → Int
  | [] => 0
  | v :: vs => shI v * 2 ^ (N * vs.length) + hv N vs
structure DLP (b n r i : Int) (ys qs : List Value) : Prop where
  b0 : 0 < b
  n0 : 0 < n
  n1 : n ≤ 4000
  bn : b < 2 ^ n.toNat
  r0 : 0 ≤ r
  rb : r < b
  i0 : -1 ≤ i
  il : i < ys.length
  yl : ys.length ≤ 8
  dg : Digs n.toNat ys 0 ys.length
  ql : (qs.length : Int) + (i + 1) ≤ 8
structure DLR (b n r i : Int) (ys qs : List Value) (r' : Int) (qs' : List Value) : Prop where
  ex : ∃ new : List Value, qs' = qs ++ new ∧ new.length = (i + 1).toNat ∧ Digs n.toNat new 0 new.length ∧ hv n.toNat new * b + r' = r * 2 ^ (n.toNat * (i + 1).toNat) + dv n.toNat ys 0 (i + 1).toNat
  r0 : 0 ≤ r'
  rb : r' < b
theorem DLR.fin {b n r i : Int} {ys qs : List Value} (h : DLP b n r i ys qs) (hi : i < 0) : DLR b n r i ys qs r qs := by
  have : i = -1 := by have := h.i0; lia
  subst this
  exact ⟨⟨[], by simp, rfl, fun i hi => by simp at hi, by simp [hv, dv]⟩, h.r0, h.rb⟩
section
variable {b n r i r' : Int} {ys qs qs' : List Value} {tq : Tok}
theorem DLP.digit (h : DLP b n r i ys qs) (hi : ¬ i < 0) : (itemAt ys i.toNat = shape 1 (itemAt ys i.toNat) ∧ i.toNat < ys.length) ∧ 0 ≤ shI (itemAt ys i.toNat) ∧ shI (itemAt ys i.toNat) < 2 ^ n.toNat := by
  have hl : i.toNat < ys.length := by have := h.il; lia
  obtain ⟨v, t, e, h0, h1⟩ := h.dg i.toNat hl
  rw [Nat.zero_add] at e
  rw [e]
  exact ⟨⟨rfl, hl⟩, h0, h1⟩
theorem DLP.big (h : DLP b n r i ys qs) (hi : ¬ i < 0) : 0 ≤ r * 2 ^ n.toNat + shI (itemAt ys i.toNat) ∧ r * 2 ^ n.toNat + shI (itemAt ys i.toNat) < b * 2 ^ n.toNat := by
  obtain ⟨_, h0, h1⟩ := h.digit hi
  have hp : (0 : Int) < 2 ^ n.toNat := Int.pow_pos (by decide)
  have := Int.mul_nonneg h.r0 (Int.le_of_lt hp)
  have h2 : (r + 1) * 2 ^ n.toNat ≤ b * 2 ^ n.toNat := Int.mul_le_mul_of_nonneg_right (by have := h.rb; lia) (Int.le_of_lt hp)
  rw [Int.add_mul, Int.one_mul] at h2
  lia
theorem fdiv_pos {x b : Int} (hb : 0 < b) : x.fdiv b = x / b := Int.fdiv_eq_ediv_of_nonneg _ (Int.le_of_lt hb)
theorem fmod_pos {x b : Int} (hb : 0 < b) : x.fmod b = x % b := Int.fmod_eq_emod_of_nonneg _ (Int.le_of_lt hb)
theorem DLP.quot (h : DLP b n r i ys qs) (hi : ¬ i < 0) : 0 ≤ (r * 2 ^ n.toNat + shI (itemAt ys i.toNat)).fdiv b ∧ (r * 2 ^ n.toNat + shI (itemAt ys i.toNat)).fdiv b < 2 ^ n.toNat := by
  obtain ⟨h0, h1⟩ := h.big hi
  rw [fdiv_pos h.b0]
  exact ⟨Int.ediv_nonneg h0 (Int.le_of_lt h.b0), Int.ediv_lt_of_lt_mul h.b0 (by rw [Int.mul_comm (2 ^ n.toNat) b]; exact h1)⟩
theorem DLP.next (h : DLP b n r i ys qs) (hi : ¬ i < 0) : DLP b n ((r * 2 ^ n.toNat + shI (itemAt ys i.toNat)).fmod b) (i - 1) ys (qs ++ [.int ((r * 2 ^ n.toNat + shI (itemAt ys i.toNat)).fdiv b) tq]) := by
  rw [fmod_pos h.b0]
  exact ⟨h.b0, h.n0, h.n1, h.bn, Int.emod_nonneg _ (by have := h.b0; lia), Int.emod_lt_of_pos _ h.b0, by lia, by have := h.il; lia, h.yl, h.dg, by have := h.ql; simp; lia⟩
theorem DLR.step (h : DLP b n r i ys qs) (hi : ¬ i < 0) (h1 : DLR b n ((r * 2 ^ n.toNat + shI (itemAt ys i.toNat)).fmod b) (i - 1) ys (qs ++ [.int ((r * 2 ^ n.toNat + shI (itemAt ys i.toNat)).fdiv b) tq]) r' qs') : DLR b n r i ys qs r' qs' := by
  obtain ⟨⟨new, e, hl, hd, hv1⟩, r0, rb⟩ := h1
  obtain ⟨q0, q1⟩ := h.quot hi
  generalize hx : r * 2 ^ n.toNat + shI (itemAt ys i.toNat) = x at *
  refine ⟨⟨.int (x.fdiv b) tq :: new, by rw [e]; simp, by simp [hl]; lia, ?_, ?_⟩, r0, rb⟩
  · intro j hj
    cases j with
    | zero => exact ⟨_, _, rfl, q0, q1⟩
    | succ j =>
      obtain ⟨v, t, e, h0, h1⟩ := hd j (by simpa using hj)
      exact ⟨v, t, by rw [Nat.zero_add] at e ⊢; exact e, h0, h1⟩
  · have ei : (i - 1 + 1).toNat = i.toNat := by lia
    have ei2 : (i + 1).toNat = i.toNat + 1 := by lia
    rw [ei] at hv1 hl
    rw [ei2, dv_split, Nat.zero_add]
    show (x.fdiv b * 2 ^ (n.toNat * new.length) + hv n.toNat new) * b + r' = _
    have hm : x.fdiv b * b + x.fmod b = x := by
      have := Int.mul_fdiv_add_fmod x b
      rw [Int.mul_comm]; exact this
    rw [hl, Int.add_mul, Int.add_assoc, hv1, ← Int.add_assoc]
    have e1 : x.fdiv b * 2 ^ (n.toNat * i.toNat) * b + x.fmod b * 2 ^ (n.toNat * i.toNat) = x * 2 ^ (n.toNat * i.toNat) := by
      rw [Int.mul_right_comm, ← Int.add_mul, hm]
    rw [e1, ← hx]
    show _ = r * 2 ^ (n.toNat * (i.toNat + 1)) + (dv n.toNat ys 0 i.toNat + 2 ^ (n.toNat * i.toNat) * (shI (itemAt ys i.toNat) + 2 ^ n.toNat * 0))
    rw [Nat.mul_succ, Int.pow_add, Int.add_mul, Int.mul_zero, Int.add_zero, Int.mul_assoc, Int.mul_comm (2 ^ n.toNat) (2 ^ (n.toNat * i.toNat)), Int.mul_comm (shI _)]
    lia
theorem DLP.ob_lsh (h : DLP b n r i ys qs) : 0 ≤ n ∧ (intBits r : Int) + n ≤ 2 ^ 27 := by
  have : intBits r ≤ n.toNat := intBits_le_iff.mpr (by
    have h1 := h.rb; have h2 := h.bn; have h0 := h.r0
    have : (r.natAbs : Int) < ((2 ^ n.toNat : Nat) : Int) := by rw [Int.natAbs_of_nonneg h0]; push_cast; lia
    exact_mod_cast this)
  have := h.n0; have := h.n1
  exact ⟨by lia, by lia⟩
theorem DLP.ob_le (h : DLP b n r i ys qs) (hi : ¬ i < 0) : (intBits (r * 2 ^ n.toNat + shI (itemAt ys i.toNat)) : Int) - n ≤ 4000 := by
  obtain ⟨h0, h1⟩ := h.big hi
  have : intBits (r * 2 ^ n.toNat + shI (itemAt ys i.toNat)) ≤ n.toNat + n.toNat := intBits_le_iff.mpr (by
    have hp : (0 : Int) < 2 ^ n.toNat := Int.pow_pos (by decide)
    have h2 : b * 2 ^ n.toNat ≤ 2 ^ n.toNat * 2 ^ n.toNat := Int.mul_le_mul_of_nonneg_right (Int.le_of_lt h.bn) (Int.le_of_lt hp)
    have : ((r * 2 ^ n.toNat + shI (itemAt ys i.toNat)).natAbs : Int) < ((2 ^ (n.toNat + n.toNat) : Nat) : Int) := by
      rw [Int.natAbs_of_nonneg h0]; push_cast; rw [Int.pow_add]; lia
    exact_mod_cast this)
  have := h.n0; have := h.n1
  lia
theorem DLP.ob_div (h : DLP b n r i ys qs) (x : Int) : b ≠ 0 ∧ Builtin.divisionGoesByPylong x b = false := by
  have := h.b0; have := h.n1
  refine ⟨by lia, noPy (k := n.toNat) (by lia) ?_⟩
  have : (b.natAbs : Int) < ((2 ^ n.toNat : Nat) : Int) := by rw [Int.natAbs_of_nonneg (by lia)]; push_cast; exact h.bn
  exact_mod_cast this
theorem DLP.ob_len (h : DLP b n r i ys qs) : qs.length ≤ sizeLine := by
  have h5 : (8 : Nat) ≤ sizeLine := by decide
  have := h.ql; have := h.i0
  lia
end
theorem itemAt_rev : ∀ (l : List Value) (i : Nat), i < l.length → itemAt l.reverse i = itemAt l (l.length - 1 - i) := by
  intro l i h
  have a := itemAt_eq (l := l.reverse) (i := i) (by simpa using h)
  have b := itemAt_eq (l := l) (i := l.length - 1 - i) (by lia)
  rw [List.getElem?_reverse h] at a
  exact Option.some.inj (a.symm.trans b)
theorem dv_ext {N : Nat} {xs ys : List Value} : ∀ (k L M : Nat), (∀ i, i < k → itemAt xs (L + i) = itemAt ys (M + i)) → dv N xs L k = dv N ys M k
  | 0, _, _, _ => rfl
  | k + 1, L, M, h => by
    rw [dv, dv, dv_ext k (L + 1) (M + 1) (fun i hi => by have := h (i + 1) (by lia); rw [show L + 1 + i = L + (i + 1) by lia, show M + 1 + i = M + (i + 1) by lia]; exact this)]
    have := h 0 (by lia)
    rw [Nat.add_zero, Nat.add_zero] at this
    rw [this]
theorem itemAt_app_left : ∀ (l m : List Value) (i : Nat), i < l.length → itemAt (l ++ m) i = itemAt l i
  | [], m, i, h => by simp at h
  | v :: l, m, 0, _ => rfl
  | v :: l, m, i + 1, h => itemAt_app_left l m i (by simpa using h)
theorem itemAt_app_right : ∀ (l m : List Value) (i : Nat), itemAt (l ++ m) (l.length + i) = itemAt m i
  | [], m, i => by simp
  | v :: l, m, i => by
    rw [List.length_cons, show l.length + 1 + i = (l.length + i) + 1 by lia]
    exact itemAt_app_right l m i
theorem hv_rev (N : Nat) : ∀ l : List Value, dv N l.reverse 0 l.length = hv N l
  | [] => rfl
  | v :: l => by
    rw [List.reverse_cons, List.length_cons, dv_split, hv, Nat.zero_add]
    have e1 : dv N (l.reverse ++ [v]) 0 l.length = dv N l.reverse 0 l.length := dv_ext _ _ _ (fun i hi => by rw [Nat.zero_add]; exact itemAt_app_left _ _ _ (by simpa using hi))
    have e2 : itemAt (l.reverse ++ [v]) l.length = v := by
      have := itemAt_app_right l.reverse [v] 0
      rw [List.length_reverse, Nat.add_zero] at this
      rw [this]; rfl
    rw [e1, hv_rev N l]
    show hv N l + 2 ^ (N * l.length) * (shI (itemAt (l.reverse ++ [v]) l.length) + 2 ^ N * 0) = _
    rw [e2, Int.mul_zero, Int.add_zero, Int.mul_comm, Int.add_comm]
theorem Digs.rev {N : Nat} {l : List Value} (h : Digs N l 0 l.length) : Digs N l.reverse 0 l.reverse.length := by
  intro i hi
  rw [List.length_reverse] at hi
  obtain ⟨v, t, e, h0, h1⟩ := h (l.length - 1 - i) (by lia)
  refine ⟨v, t, ?_, h0, h1⟩
  rw [Nat.zero_add] at e ⊢
  rw [itemAt_rev l i hi, e]
end Mine
namespace Mine
open PySem PySem.Spec PySem.Calls PyProof.Rows PySem.W PySem.W.X PySem.Builtin.Int
structure DPP (a b : Int) : Prop where
  a0 : 0 ≤ a
  b0 : 0 < b
  bb : intBits b ≤ 4000
  k : cntI a ((intBits b : Nat) : Int) ≤ 8
theorem bits_pos {b : Int} (h : 0 < b) : 0 < intBits b := by
  apply Nat.pos_of_ne_zero
  intro h0
  have := (intBits_le_iff (m := 0) (x := b)).mp (by lia)
  simp at this
  lia
theorem DPP.i2 {a b : Int} (h : DPP a b) : I2P a ((intBits b : Nat) : Int) := ⟨h.a0, by have := bits_pos h.b0; lia, by have := h.bb; lia, h.k⟩
theorem bits_lt {b : Int} (h : 0 < b) : b < 2 ^ (((intBits b : Nat) : Int)).toNat := by
  have := (intBits_le_iff (m := intBits b) (x := b)).mp (Nat.le_refl _)
  rw [Int.toNat_natCast]
  have h2 : (b.natAbs : Int) < ((2 ^ intBits b : Nat) : Int) := by exact_mod_cast this
  rw [Int.natAbs_of_nonneg (Int.le_of_lt h)] at h2
  push_cast at h2
  exact h2
theorem I2R.pos {a n : Int} {xs : List Value} (h : I2R a n xs) (ha : a ≠ 0) : 0 < xs.length := by
  apply Nat.pos_of_ne_zero
  intro h0
  have := h.v
  rw [h0] at this
  exact ha this.symm
theorem DPP.dl {a b : Int} (h : DPP a b) (ha : a ≠ 0) {xs : List Value} (hx : I2R a ((intBits b : Nat) : Int) xs) : DLP b ((intBits b : Nat) : Int) 0 ((xs.length : Int) - 1) xs [] ∧ ¬ ((xs.length : Int) - 1 < 0) := by
  have hp := hx.pos ha
  have := hx.len
  refine ⟨⟨h.b0, by have := bits_pos h.b0; lia, by have := h.bb; lia, bits_lt h.b0, Int.le_refl _, h.b0, by lia, by lia, hx.len, hx.d, by simp; lia⟩, by lia⟩
theorem divmod_unique {a b q r : Int} (hb : 0 < b) (h : q * b + r = a) (h0 : 0 ≤ r) (h1 : r < b) : q = a.fdiv b ∧ r = a.fmod b := by
  rw [fdiv_pos hb, fmod_pos hb]
  have e : a = r + b * q := by rw [Int.mul_comm]; lia
  subst e
  rw [Int.add_mul_ediv_left _ _ (by lia), Int.add_mul_emod_self_left, Int.ediv_eq_zero_of_lt h0 h1, Int.emod_eq_of_lt h0 h1]
  exact ⟨by lia, rfl⟩
theorem DPP.done {a b : Int} (h : DPP a b) (ha : a ≠ 0) {xs : List Value} (hx : I2R a ((intBits b : Nat) : Int) xs) {r' : Int} {qs : List Value} (hr : DLR b ((intBits b : Nat) : Int) 0 ((xs.length : Int) - 1) xs [] r' qs)
    {v : Int} (hv' : v = dv (((intBits b : Nat) : Int)).toNat qs.reverse 0 qs.reverse.length) : v = a.fdiv b ∧ r' = a.fmod b := by
  obtain ⟨⟨new, e, hl, hd, hh⟩, r0, rb⟩ := hr
  rw [List.nil_append] at e
  subst e
  refine divmod_unique h.b0 ?_ r0 rb
  rw [hv', List.length_reverse, hv_rev, hh, Int.zero_mul, Int.zero_add, show ((xs.length : Int) - 1 + 1).toNat = xs.length by lia]
  exact hx.v
theorem DPP.d2 {a b : Int} (h : DPP a b) {xs : List Value} (hx : I2R a ((intBits b : Nat) : Int) xs) {r' : Int} {qs : List Value} (hr : DLR b ((intBits b : Nat) : Int) 0 ((xs.length : Int) - 1) xs [] r' qs) : D2P ((intBits b : Nat) : Int) qs.reverse := by
  obtain ⟨⟨new, e, hl, hd, hh⟩, r0, rb⟩ := hr
  rw [List.nil_append] at e
  subst e
  have := hx.len
  exact ⟨by have := bits_pos h.b0; lia, by have := h.bb; lia, by rw [List.length_reverse, hl]; lia, hd.rev⟩
theorem DPP.len {a b : Int} {xs : List Value} (hx : I2R a ((intBits b : Nat) : Int) xs) {r' : Int} {qs : List Value} (hr : DLR b ((intBits b : Nat) : Int) 0 ((xs.length : Int) - 1) xs [] r' qs) : qs.length ≤ sizeLine := by
  obtain ⟨⟨new, e, hl, hd, hh⟩, r0, rb⟩ := hr
  rw [List.nil_append] at e
  subst e
  have := hx.len
  have h5 : (8 : Nat) ≤ sizeLine := by decide
  lia
structure IDP (a b : Int) : Prop where
  b0 : b ≠ 0
  bb : intBits b ≤ 4000
  k : a.natAbs < 2 ^ (8 * intBits b)
theorem IDP.dp {a b : Int} (h : IDP a b) (ha : 0 ≤ a) (hb : 0 < b) : DPP a b := by
  refine ⟨ha, hb, h.bb, ?_⟩
  have hp := bits_pos hb
  have h1 : intBits a ≤ 8 * intBits b := intBits_le_iff.mpr h.k
  unfold cntI
  rw [Int.fdiv_eq_ediv_of_nonneg _ (by lia)]
  generalize intBits a = x at *
  generalize intBits b = n at *
  have : (x : Int) + n - 1 < 9 * n := by lia
  have := Int.ediv_lt_of_lt_mul (by lia) this
  lia
theorem bits_neg (b : Int) : intBits (-b) = intBits b := by
  have e : ∀ m, intBits (-b) ≤ m ↔ intBits b ≤ m := fun m => by rw [intBits_le_iff, intBits_le_iff, Int.natAbs_neg]
  have h1 := (e (intBits b)).mpr (Nat.le_refl _)
  have h2 := (e (intBits (-b))).mp (Nat.le_refl _)
  lia
theorem IDP.neg {a b : Int} (h : IDP a b) : IDP (-a) (-b) := ⟨by have := h.b0; lia, by rw [bits_neg]; exact h.bb, by rw [bits_neg, Int.natAbs_neg]; exact h.k⟩
theorem IDP.inv {a b : Int} (h : IDP a b) (ha : a < 0) : IDP (-a - 1) b := ⟨h.b0, h.bb, Nat.lt_of_le_of_lt (by lia) h.k⟩
theorem inv_div {a b q r : Int} (hb : 0 < b) (hq : q = (-a - 1).fdiv b) (hr : r = (-a - 1).fmod b) : -q - 1 = a.fdiv b ∧ b + (-r - 1) = a.fmod b := by
  have h1 := Int.mul_fdiv_add_fmod (-a - 1) b
  rw [← hq, ← hr] at h1
  have h2 : 0 ≤ r ∧ r < b := by rw [hr, fmod_pos hb]; exact ⟨Int.emod_nonneg _ (by lia), Int.emod_lt_of_pos _ hb⟩
  refine divmod_unique hb ?_ (by lia) (by lia)
  rw [show (-q - 1) * b = -(b * q) - b by rw [Int.sub_mul, Int.neg_mul, Int.mul_comm q b, Int.one_mul]]
  lia
theorem neg_div {a b q r : Int} (hq : q = (-a).fdiv (-b)) (hr : r = (-a).fmod (-b)) : q = a.fdiv b ∧ -r = a.fmod b := by
  refine ⟨by rw [hq, Int.neg_fdiv_neg], ?_⟩
  have h1 := Int.mul_fdiv_add_fmod (-a) (-b)
  have h2 := Int.mul_fdiv_add_fmod a b
  rw [Int.neg_fdiv_neg, ← hr, Int.neg_mul] at h1
  lia
end Mine
end
section

namespace Mine
open PySem PySem.Spec PySem.Calls PyProof.Rows PySem.W PySem.W.X PySem.Builtin.Str
noncomputable def dpEnv (w : World) (L : Addr) : Env := envF w 108 L ⟨#[95, 100, 105, 118, 109, 111, 100, 95, 112, 111, 115, 46, 60, 108, 111, 99, 97, 108, 115, 62, 46]⟩ []
noncomputable abbrev tRI : Value := .type "list_reverseiterator"
noncomputable def S_dl (W : Wd) (m : Nat) : Sp (BB W) :=
  let B := BB W
  { d := 60
    c := fun q => forC (pathS (stmtsOf (fdAt W.w 108)) [4]) (q.a 1) (dpEnv W.w (q.a 0))
    P := fun q => DLP (q.i 0) (q.i 1) (q.i 2) (q.i 3) (q.l 0) (q.l 1) ∧ (q.i 3) < m
    pre := fun q => [((q.a 0),frameO [kv B s_a (q.t 0) (q.v 0),kv B s_b (q.t 1) (.int (q.i 0) (q.t 2)),kv B s_n (q.t 3) (.int (q.i 1) (q.t 4)),kv B s_a_digits (q.t 5) (q.v 1),kv B s_r (q.t 6) (.int (q.i 2) (q.t 7)),kv B s_q_digits (q.t 8) (.ref (q.a 2)),kv B s_a_digit (q.t 9) (q.v 2),kv B s_q_digit (q.t 10) (q.v 3)] 8),((q.a 1),fieldsO tRI [(.ref (q.a 3)),(.int (q.i 3) (q.t 11))]),((q.a 3),listO (q.l 0) (q.t 12)),((q.a 2),listO (q.l 1) (q.t 13))]
    R := fun q e => DLR (q.i 0) (q.i 1) (q.i 2) (q.i 3) (q.l 0) (q.l 1) (e.i 0) (e.l 0)
    res := fun q e => .ok .next
    out := fun q e => [((q.a 0),frameO [kv B s_a (q.t 0) (q.v 0),kv B s_b (q.t 1) (.int (q.i 0) (q.t 2)),kv B s_n (q.t 3) (.int (q.i 1) (q.t 4)),kv B s_a_digits (q.t 5) (q.v 1),kv B s_r (q.t 6) (.int (e.i 0) (e.t 0)),kv B s_q_digits (q.t 8) (.ref (q.a 2)),kv B s_a_digit (q.t 9) (e.v 0),kv B s_q_digit (q.t 10) (e.v 1)] 8),((q.a 2),listO (e.l 0) (e.t 1))] }
noncomputable def on_dl : Code → View → Lt := fun c V => lt [(cEnv c).locals,valA (cIt c),dA V 0 5,valA (nthV (sQ V 1) 0)] [kT V 0 0,kT V 0 1,dT V 0 1,kT V 0 2,dT V 0 2,kT V 0 3,kT V 0 4,dT V 0 4,kT V 0 5,kT V 0 6,kT V 0 7,qT V 1 1,eP V 2,eP V 3] [dI V 0 1,dI V 0 2,dI V 0 4,qI V 1 1] [] [dV V 0 0,dV V 0 3,dV V 0 6,dV V 0 7] [sQ V 2,sQ V 3] []
noncomputable def S_dl0 (W : Wd) (m : Nat) : Sp (BB W) :=
  let B := BB W
  { d := 64
    c := fun q => forC (pathS (stmtsOf (fdAt W.w 108)) [4]) (q.a 1) (dpEnv W.w (q.a 0))
    P := fun q => DLP (q.i 0) (q.i 1) (q.i 2) (q.i 3) (q.l 0) (q.l 1) ∧ ¬ (q.i 3) < 0
    pre := fun q => [((q.a 0),frameO [kv B s_a (q.t 0) (q.v 0),kv B s_b (q.t 1) (.int (q.i 0) (q.t 2)),kv B s_n (q.t 3) (.int (q.i 1) (q.t 4)),kv B s_a_digits (q.t 5) (q.v 1),kv B s_r (q.t 6) (.int (q.i 2) (q.t 7)),kv B s_q_digits (q.t 8) (.ref (q.a 2))] 6),((q.a 1),fieldsO tRI [(.ref (q.a 3)),(.int (q.i 3) (q.t 9))]),((q.a 3),listO (q.l 0) (q.t 10)),((q.a 2),listO (q.l 1) (q.t 11))]
    R := fun q e => DLR (q.i 0) (q.i 1) (q.i 2) (q.i 3) (q.l 0) (q.l 1) (e.i 0) (e.l 0)
    res := fun q e => .ok .next
    out := fun q e => [((q.a 0),frameO [kv B s_a (q.t 0) (q.v 0),kv B s_b (q.t 1) (.int (q.i 0) (q.t 2)),kv B s_n (q.t 3) (.int (q.i 1) (q.t 4)),kv B s_a_digits (q.t 5) (q.v 1),kv B s_r (q.t 6) (.int (e.i 0) (e.t 0)),kv B s_q_digits (q.t 8) (.ref (q.a 2)),kv B s_a_digit (e.t 1) (e.v 0),kv B s_q_digit (e.t 2) (e.v 1)] 8),((q.a 2),listO (e.l 0) (e.t 3))] }
noncomputable def on_dl0 : Code → View → Lt := fun c V => lt [(cEnv c).locals,valA (cIt c),dA V 0 5,valA (nthV (sQ V 1) 0)] [kT V 0 0,kT V 0 1,dT V 0 1,kT V 0 2,dT V 0 2,kT V 0 3,kT V 0 4,dT V 0 4,kT V 0 5,qT V 1 1,eP V 2,eP V 3] [dI V 0 1,dI V 0 2,dI V 0 4,qI V 1 1] [] [dV V 0 0,dV V 0 3] [sQ V 2,sQ V 3] []
theorem dl_end (W : Wd) (O : (BB W).Ok) (m : Nat) (q : Lt) (hq : (S_dl W m).P q) (hi : (q.i 3) < 0) : At (S_dl W m) 60 q := by
  refine tri_f O (stdE _) [] 2000 60 (hs := [0,2,0,2,7,0,2,1,0]) (is := [2,4])
    (fun (ρ : Rho) => ob hi <| fin (S_dl W m) q (lt [] [q.2 7,q.2 13] [q.i 2] [] [q.5 2,q.5 3] [q.6 1] []) (DLR.fin hq.1 hi) :) ?_
  induction W using y_0 <;> kernel_rfl
theorem dl_step (W : Wd) (O : (BB W).Ok) (m : Nat) (ih : (S_dl W m).Ok) (q : Lt) (hq : (S_dl W (m + 1)).P q) (hi : ¬ (q.i 3) < 0) : At (S_dl W (m + 1)) 60 q := by
  refine tri_f O (stdE _) [U (S_dl W m) ih on_dl] 2000 60 (hs := hx 112 0x1451451000c878224018924924618618604104204100100104108104004004104204100100104004004106408000004100010200000005a08004004104104100004004100005b080041001042083082087080080) (is := [0,0])
    (fun (ρ : Rho) => ob hi <| ob ((DLP.digit hq.1 hi).1) <| ob (DLP.ob_lsh hq.1) <| ob (A := (True)) (trivial) <| ob (DLP.ob_le hq.1 hi) <| ob (A := (q.i 0 ≠ (0 : Int) ∧ Builtin.divisionGoesByPylong (q.i 2 * (2 : Int) ^ (q.i 1).toNat + shI (itemAt (q.l 0) ((q.i 3).toNat))) (q.i 0) = false)) (DLP.ob_div hq.1 _) <| ob (DLP.ob_len hq.1) <| ob (A := (DLP (q.i 0) (q.i 1) (Int.fmod (q.i 2 * 2 ^ (q.i 1).toNat + shI (itemAt (q.l 0) ((q.i 3).toNat))) (q.i 0) : Int) (q.i 3 - 1 : Int) (q.l 0) (((q.l 1)++[Value.int (((q.i 2) * 2 ^ (q.i 1).toNat + shI (itemAt (q.l 0) (q.i 3).toNat)).fdiv (q.i 0)) (ρ.1 9)])) ∧ (q.i 3 - 1 : Int) < m)) (⟨DLP.next hq.1 hi,(by have h := hq.2; have : (q.i 3) < ((m + 1 : Nat) : Int) := h; show (q.i 3) - 1 < (m : Int); lia)⟩) <| fun he0 : DLR (q.i 0) (q.i 1) (Int.fmod (q.i 2 * 2 ^ Int.toNat (q.i 1) + shI (itemAt (q.l 0) (Int.toNat (q.i 3)))) (q.i 0) : Int) (q.i 3 - 1 : Int) (q.l 0) (((q.l 1)++[Value.int (((q.i 2) * 2 ^ (q.i 1).toNat + shI (itemAt (q.l 0) (q.i 3).toNat)).fdiv (q.i 0)) (ρ.1 9)])) ((ρ.2 0).i 0) ((ρ.2 0).l 0) => fin (S_dl W (m + 1)) q (lt [] [(ρ.2 0).2 0,(ρ.2 0).2 1] [(ρ.2 0).i 0] [] [(ρ.2 0).5 0,(ρ.2 0).5 1] [(ρ.2 0).6 0] []) (DLR.step hq.1 hi he0) :) ?_
  induction W using y_0 <;> kernel_rfl
theorem dl0_step (W : Wd) (O : (BB W).Ok) (m : Nat) (ih : (S_dl W m).Ok) (q : Lt) (hq : (S_dl0 W m).P q) (hi : ¬ (q.i 3) < 0) (hm : (q.i 3) ≤ m) : At (S_dl0 W m) 64 q := by
  refine tri_f O (stdE _) [U (S_dl W m) ih on_dl] 2000 64 (hs := hx 112 0x1451451000c878224018924924618618604104204100100104108104004004104204100100104004004106408000004100010200000005a08004004104104100004004100005b080041001042083082087080080) (is := [0,0])
    (fun (ρ : Rho) => ob hi <| ob ((DLP.digit hq.1 hi).1) <| ob (DLP.ob_lsh hq.1) <| ob (A := (True)) (trivial) <| ob (DLP.ob_le hq.1 hi) <| ob (A := (q.i 0 ≠ (0 : Int) ∧ Builtin.divisionGoesByPylong (q.i 2 * (2 : Int) ^ (q.i 1).toNat + shI (itemAt (q.l 0) ((q.i 3).toNat))) (q.i 0) = false)) (DLP.ob_div hq.1 _) <| ob (DLP.ob_len hq.1) <| ob (A := (DLP (q.i 0) (q.i 1) (Int.fmod (q.i 2 * 2 ^ (q.i 1).toNat + shI (itemAt (q.l 0) ((q.i 3).toNat))) (q.i 0) : Int) (q.i 3 - 1 : Int) (q.l 0) (((q.l 1)++[Value.int (((q.i 2) * 2 ^ (q.i 1).toNat + shI (itemAt (q.l 0) (q.i 3).toNat)).fdiv (q.i 0)) (ρ.1 9)])) ∧ (q.i 3 - 1 : Int) < m)) (⟨DLP.next hq.1 hi,(by show (q.i 3) - 1 < (m : Int); lia)⟩) <| fun he0 : DLR (q.i 0) (q.i 1) (Int.fmod (q.i 2 * 2 ^ Int.toNat (q.i 1) + shI (itemAt (q.l 0) (Int.toNat (q.i 3)))) (q.i 0) : Int) (q.i 3 - 1 : Int) (q.l 0) (((q.l 1)++[Value.int (((q.i 2) * 2 ^ (q.i 1).toNat + shI (itemAt (q.l 0) (q.i 3).toNat)).fdiv (q.i 0)) (ρ.1 9)])) ((ρ.2 0).i 0) ((ρ.2 0).l 0) => fin (S_dl0 W m) q (lt [] [(ρ.2 0).2 0,ρ.1 0,ρ.1 15,(ρ.2 0).2 1] [(ρ.2 0).i 0] [] [(ρ.2 0).5 0,(ρ.2 0).5 1] [(ρ.2 0).6 0] []) (DLR.step hq.1 hi he0) :) ?_
  induction W using y_0 <;> kernel_rfl
theorem dl_ok (W : Wd) (O : (BB W).Ok) : ∀ m, (S_dl W m).Ok
  | 0 => fun q hq => dl_end W O 0 q hq (by have h : q.i 3 < ((0 : Nat) : Int) := hq.2; exact h)
  | m + 1 => fun q hq => by
    by_cases hi : q.i 3 < 0
    · exact (dl_end W O (m + 1) q hq hi)
    · exact dl_step W O m (dl_ok W O m) q hq hi
end Mine
end
section

namespace Mine
open PySem PySem.Spec PySem.Calls PyProof.Rows PySem.W PySem.W.X PySem.Builtin.Str
noncomputable def S_i2z (W : Wd) : Sp (BB W) :=
  let B := BB W
  { d := 60
    c := fun q => .call (.ref 94) ⟨[.int (q.i 0) (q.t 0), .int (q.i 1) (q.t 1)], []⟩
    P := fun q => I2P (q.i 0) (q.i 1) ∧ (q.i 0) = 0
    pre := fun q => []
    R := fun q e => True
    res := fun q e => .ok (.ret (.ref (e.a 0)))
    out := fun q e => [((e.a 0),listO [] (e.t 0))] }
noncomputable def on_i2z : Code → View → Lt := fun c V => lt [] [valT (nthV (cPos c) 0),valT (nthV (cPos c) 1)] [valI (nthV (cPos c) 0),valI (nthV (cPos c) 1)] [] [] [] []
theorem i2z_ok (W : Wd) (O : (BB W).Ok) : (S_i2z W).Ok := fun q hq => (i2_ok W O q hq.1).mono (Nat.le_refl _) fun r V ⟨e, hR, hr, hV⟩ => by
  have hx : (e.l 0) = [] := hR.ne hq.2
  refine ⟨lt [e.a 0] [e.t 0] [] [] [] [] [], trivial, hr, hV.trans ?_⟩
  show [((e.a 0), listO (e.l 0) (e.t 0))] = _
  rw [hx]
  rfl
noncomputable def S_d2 (W : Wd) : Sp (BB W) :=
  let B := BB W
  { d := 60
    c := fun q => .call (.ref 101) ⟨[.ref (q.a 0), .int (q.i 0) (q.t 0)], []⟩
    P := fun q => D2P (q.i 0) (q.l 0)
    pre := fun q => [((q.a 0),listO (q.l 0) (q.t 1))]
    R := fun q e => (e.i 0) = dv (q.i 0).toNat (q.l 0) 0 (q.l 0).length
    res := fun q e => .ok (.ret (.int (e.i 0) (e.t 0)))
    out := fun q e => [((q.a 0),listO (q.l 0) (q.t 1))] }
noncomputable def on_d2 : Code → View → Lt := fun c V => lt [valA (nthV (cPos c) 0)] [valT (nthV (cPos c) 1),eP V 0] [valI (nthV (cPos c) 1)] [] [] [sQ V 0] []
theorem d2_ok (W : Wd) (O : (BB W).Ok) : (S_d2 W).Ok := fun q hq => by
  have hq : D2P (q.i 0) (q.l 0) := hq
  cases h : (q.l 0) with
  | nil =>
    let q1 : Lt := lt [q.a 0] [q.t 0, q.t 1] [q.i 0] [] [] [] []
    show Tri _ _ _ [((q.a 0), listO (q.l 0) (q.t 1))] _
    rw [h]
    refine (d2e_ok W O q1 trivial).mono (Nat.le_refl _) fun r V ⟨e, hR, hr, hV⟩ => ⟨lt [] [e.t 0] [e.i 0] [] [] [] [], ?_, hr, hV.trans ?_⟩
    · show _ = dv _ (q.l 0) 0 (q.l 0).length
      rw [h]; exact hR
    · show _ = [((q.a 0), listO (q.l 0) (q.t 1))]
      rw [h]; rfl
  | cons x0 xs =>
    let q1 : Lt := lt [q.a 0] [q.t 0, q.t 1] [q.i 0] [] [x0] [xs] []
    show Tri _ _ _ [((q.a 0), listO (q.l 0) (q.t 1))] _
    rw [h] at hq ⊢
    refine (d2n_ok W O q1 hq).mono (Nat.le_refl _) fun r V ⟨e, hR, hr, hV⟩ => ⟨lt [] [e.t 0] [e.i 0] [] [] [] [], ?_, hr, hV.trans ?_⟩
    · show _ = dv _ (q.l 0) 0 (q.l 0).length
      rw [h]; exact hR
    · show _ = [((q.a 0), listO (q.l 0) (q.t 1))]
      rw [h]; rfl
noncomputable def S_dp (W : Wd) : Sp (BB W) :=
  let B := BB W
  { d := 75
    c := fun q => .call (.ref 108) ⟨[.int (q.i 0) (q.t 0), .int (q.i 1) (q.t 1)], []⟩
    P := fun q => DPP (q.i 0) (q.i 1)
    pre := fun q => []
    R := fun q e => (e.i 0) = (q.i 0).fdiv (q.i 1) ∧ (e.i 1) = (q.i 0).fmod (q.i 1)
    res := fun q e => .ok (.ret (.ref (e.a 0)))
    out := fun q e => [((e.a 0),tupO [(.int (e.i 0) (e.t 0)),(.int (e.i 1) (e.t 1))])] }
noncomputable def on_dp : Code → View → Lt := fun c V => lt [] [valT (nthV (cPos c) 0),valT (nthV (cPos c) 1)] [valI (nthV (cPos c) 0),valI (nthV (cPos c) 1)] [] [] [] []
theorem dp_z (W : Wd) (O : (BB W).Ok) (q : Lt) (hq : (S_dp W).P q) (ha : (q.i 0) = 0) : At (S_dp W) 75 q := by
  refine tri_f O (stdE _) [U (S_i2z W) (i2z_ok W O) on_i2z,U (S_d2e W) (d2e_ok W O) on_d2e] 2000 75 (hs := hx 77 0x61861830410c01860041040040041041060010400400400400400410420020020000000c00030c2082080003001040041682001001041040001) (is := [0])
    (fun (ρ : Rho) => ob (A := (True)) (by first | assumption | lia | decide | (constructor <;> first | assumption | lia | decide)) <| ob (A := (I2P (q.i 0) (↑(Builtin.Int.intBits (q.i 1)) : Int) ∧ (q.i 0) = 0)) (⟨hq.i2,ha⟩) <| fun _ : True => ob trivial <| fun he1 : ((ρ.2 1).i 0) = 0 => fin (S_dp W) q (lt [ρ.1 14] [(ρ.2 1).2 0,ρ.1 6] [(ρ.2 1).i 0,0] [] [] [] []) ((by have z : _ = (0 : Int) := he1; show _ = _ ∧ (0 : Int) = _; rw [ha,Int.zero_fdiv,Int.zero_fmod]; exact ⟨z,rfl⟩)) :) ?_
  induction W using y_0 <;> kernel_rfl
theorem dp_p (W : Wd) (O : (BB W).Ok) (q : Lt) (hq : (S_dp W).P q) (ha : (q.i 0) ≠ 0) : At (S_dp W) 75 q := by
  refine tri_f O (stdE _) [U (S_i2 W) (i2_ok W O) on_i2,U (S_dl0 W 8) (fun q hq => dl0_step W O 8 (dl_ok W O 8) q hq hq.2 (by have h := hq.1.il; have h2 := hq.1.yl; lia)) on_dl0,U (S_d2 W) (d2_ok W O) on_d2] 2000 75 (hs := hx 76 0x820820410830010400018c20800820820400400c40430400400410420020020000000c00030c2082080003001040041682001001041040001) (is := [0])
    (fun (ρ : Rho) => ob (A := (True)) (trivial) <| ob hq.i2 <| fun he0 : I2R (q.i 0) (↑(Builtin.Int.intBits (q.i 1)) : Int) ((ρ.2 0).l 0) => ob (DPP.dl hq ha he0) <| fun he1 : DLR (q.i 1) (↑(Builtin.Int.intBits (q.i 1)) : Int) (0 : Int) (((List.length ((ρ.2 0).l 0) : Nat) : Int) - 1) ((ρ.2 0).l 0) ([] : List Value) ((ρ.2 1).i 0) ((ρ.2 1).l 0) => ob (DPP.len he0 he1) <| ob (DPP.d2 hq he0 he1) <| fun he2 : ((ρ.2 2).i 0) = dv (↑(Builtin.Int.intBits (q.i 1)) : Int).toNat (List.reverse ((ρ.2 1).l 0)) 0 (List.reverse ((ρ.2 1).l 0)).length => fin (S_dp W) q (lt [ρ.1 12] [(ρ.2 2).2 0,(ρ.2 1).2 0] [(ρ.2 2).i 0,(ρ.2 1).i 0] [] [] [] []) ((DPP.done hq ha he0 he1 he2)) :) ?_
  induction W using y_0 <;> kernel_rfl
theorem dp_ok (W : Wd) (O : (BB W).Ok) : (S_dp W).Ok := fun q hq => by
  by_cases ha : (q.i 0) = 0
  · exact dp_z W O q hq ha
  · exact dp_p W O q hq ha
noncomputable def S_idm1 (W : Wd) : Sp (BB W) :=
  let B := BB W
  { d := 80
    c := fun q => .call (.ref 115) ⟨[.int (q.i 0) (q.t 0), .int (q.i 1) (q.t 1)], []⟩
    P := fun q => IDP (q.i 0) (q.i 1) ∧ 0 ≤ (q.i 0) ∧ 0 < (q.i 1)
    pre := fun q => []
    R := fun q e => (e.i 0) = (q.i 0).fdiv (q.i 1) ∧ (e.i 1) = (q.i 0).fmod (q.i 1)
    res := fun q e => .ok (.ret (.ref (e.a 0)))
    out := fun q e => [((e.a 0),tupO [(.int (e.i 0) (e.t 0)),(.int (e.i 1) (e.t 1))])] }
noncomputable def on_idm1 : Code → View → Lt := fun c V => lt [] [valT (nthV (cPos c) 0),valT (nthV (cPos c) 1)] [valI (nthV (cPos c) 0),valI (nthV (cPos c) 1)] [] [] [] []
noncomputable def S_idm2 (W : Wd) : Sp (BB W) :=
  let B := BB W
  { d := 84
    c := fun q => .call (.ref 115) ⟨[.int (q.i 0) (q.t 0), .int (q.i 1) (q.t 1)], []⟩
    P := fun q => IDP (q.i 0) (q.i 1) ∧ 0 < (q.i 1)
    pre := fun q => []
    R := fun q e => (e.i 0) = (q.i 0).fdiv (q.i 1) ∧ (e.i 1) = (q.i 0).fmod (q.i 1)
    res := fun q e => .ok (.ret (.ref (e.a 0)))
    out := fun q e => [((e.a 0),tupO [(.int (e.i 0) (e.t 0)),(.int (e.i 1) (e.t 1))])] }
noncomputable def on_idm2 : Code → View → Lt := fun c V => lt [] [valT (nthV (cPos c) 0),valT (nthV (cPos c) 1)] [valI (nthV (cPos c) 0),valI (nthV (cPos c) 1)] [] [] [] []
noncomputable def S_idm (W : Wd) : Sp (BB W) :=
  let B := BB W
  { d := 88
    c := fun q => .call (.ref 115) ⟨[.int (q.i 0) (q.t 0), .int (q.i 1) (q.t 1)], []⟩
    P := fun q => IDP (q.i 0) (q.i 1)
    pre := fun q => []
    R := fun q e => (e.i 0) = (q.i 0).fdiv (q.i 1) ∧ (e.i 1) = (q.i 0).fmod (q.i 1)
    res := fun q e => .ok (.ret (.ref (e.a 0)))
    out := fun q e => [((e.a 0),tupO [(.int (e.i 0) (e.t 0)),(.int (e.i 1) (e.t 1))])] }
noncomputable def on_idm : Code → View → Lt := fun c V => lt [] [valT (nthV (cPos c) 0),valT (nthV (cPos c) 1)] [valI (nthV (cPos c) 0),valI (nthV (cPos c) 1)] [] [] [] []
theorem idm_pos (W : Wd) (O : (BB W).Ok) (q : Lt) (hq : (S_idm1 W).P q) : At (S_idm1 W) 80 q := by
  refine tri_f O (stdE _) [U (S_dp W) (dp_ok W O) on_dp] 2000 80 (hs := hx 27 0x3001040042001042001242001001041040001) (is := [0])
    (fun (ρ : Rho) => ob hq.1.b0 <| ob (A := (¬q.i 1 < (0 : Int))) (by have := hq.2.2; show ¬ _; lia) <| ob (A := (¬q.i 0 < (0 : Int))) (by have := hq.2.1; show ¬ _; lia) <| ob (hq.1.dp hq.2.1 hq.2.2) <| fun he0 : ((ρ.2 0).i 0) = (q.i 0).fdiv (q.i 1) ∧ ((ρ.2 0).i 1) = (q.i 0).fmod (q.i 1) => fin (S_idm1 W) q (lt [(ρ.2 0).1 0] [(ρ.2 0).2 0,(ρ.2 0).2 1] [(ρ.2 0).i 0,(ρ.2 0).i 1] [] [] [] []) (he0) :) ?_
  induction W using y_0 <;> kernel_rfl
theorem idm1_ok (W : Wd) (O : (BB W).Ok) : (S_idm1 W).Ok := fun q hq => idm_pos W O q hq
theorem idm_nega (W : Wd) (O : (BB W).Ok) (q : Lt) (hq : (S_idm2 W).P q) (ha : (q.i 0) < 0) : At (S_idm2 W) 84 q := by
  refine tri_f O (stdE _) [U (S_idm1 W) (idm1_ok W O) on_idm1] 2000 84 (hs := hx 77 0x5140005145145041042041001001041081040040041042041001001040040041040003001000040002001042001242001001041040001) (is := [0])
    (fun (ρ : Rho) => ob hq.1.b0 <| ob (A := (¬q.i 1 < (0 : Int))) (by have := hq.2; show ¬ _; lia) <| ob ha <| ob (A := (IDP (Builtin.bitNot (q.i 0) : Int) (q.i 1) ∧ 0 ≤ (Builtin.bitNot (q.i 0) : Int) ∧ 0 < (q.i 1))) (⟨hq.1.inv ha,by show 0 ≤ -_ - 1; lia,hq.2⟩) <| fun he0 : ((ρ.2 0).i 0) = (Builtin.bitNot (q.i 0) : Int).fdiv (q.i 1) ∧ ((ρ.2 0).i 1) = (Builtin.bitNot (q.i 0) : Int).fmod (q.i 1) => fin (S_idm2 W) q (lt [ρ.1 15] [ρ.1 12,ρ.1 14] [Builtin.bitNot ((ρ.2 0).i 0),q.i 1 + Builtin.bitNot ((ρ.2 0).i 1)] [] [] [] []) (inv_div hq.2 he0.1 he0.2) :) ?_
  induction W using y_0 <;> kernel_rfl
theorem idm2_ok (W : Wd) (O : (BB W).Ok) : (S_idm2 W).Ok := fun q hq => by
  by_cases ha : (q.i 0) < 0
  · exact idm_nega W O q hq ha
  · exact (idm1_ok W O q ⟨hq.1, by lia, hq.2⟩).mono (by show 80 ≤ 84; decide) fun r V h => h
theorem idm_negb (W : Wd) (O : (BB W).Ok) (q : Lt) (hq : (S_idm W).P q) (hb : (q.i 1) < 0) : At (S_idm W) 88 q := by
  refine tri_f O (stdE _) [U (S_idm2 W) (idm2_ok W O) on_idm2] 2000 88 (hs := hx 70 0x145145145041042041001001041081040040041042041001001040040041040003000001000040002001242001001041040001) (is := [0])
    (fun (ρ : Rho) => ob hq.b0 <| ob hb <| ob (A := (IDP (-q.i 0 : Int) (-q.i 1 : Int) ∧ 0 < (-q.i 1 : Int))) (⟨hq.neg,by show 0 < -_; lia⟩) <| fun he0 : ((ρ.2 0).i 0) = (-q.i 0 : Int).fdiv (-q.i 1 : Int) ∧ ((ρ.2 0).i 1) = (-q.i 0 : Int).fmod (-q.i 1 : Int) => fin (S_idm W) q (lt [ρ.1 13] [(ρ.2 0).2 0,ρ.1 12] [(ρ.2 0).i 0,-(ρ.2 0).i 1] [] [] [] []) (neg_div he0.1 he0.2) :) ?_
  induction W using y_0 <;> kernel_rfl
theorem idm_ok (W : Wd) (O : (BB W).Ok) : (S_idm W).Ok := fun q hq => by
  by_cases hb : (q.i 1) < 0
  · exact idm_negb W O q hq hb
  · exact (idm2_ok W O q ⟨hq, by have : IDP (q.i 0) (q.i 1) := hq; have := this.b0; show 0 < (q.i 1); lia⟩).mono (by show 84 ≤ 88; decide) fun r V h => h
end Mine
end
section
namespace Mine
open PySem PySem.Spec PySem.Calls PyProof.Rows PySem.W PySem.W.X PySem.Builtin PySem.Builtin.Str
noncomputable def AllStr (xs : List Value) : Prop := ∀ v ∈ xs, v = .str (shS v) (shT v)
noncomputable def prs (xs : List Value) : List (Str × Tok) := xs.map fun v => (shS v, shT v)
theorem AllStr.eq : ∀ {xs : List Value}, AllStr xs → strValues (prs xs) = xs
  | [], _ => rfl
  | v :: xs, h => by
    have := AllStr.eq (xs := xs) (fun x hx => h x (.tail _ hx))
    have hv := h v (.head _)
    unfold strValues prs at *
    rw [List.map_cons, List.map_cons, this, ← hv]
noncomputable def joinV (sep : Str) (xs : List Value) : Str := Txt.join sep (xs.map shS)
noncomputable def joinF (args : List Value) (V : View) (hs : List Nat) (K : Result → View → List Nat → VC) : VC := match args with
  | [.str sep _, .ref a] => match hs with
    | [] => .ff
    | i :: hs => match nth V i with
      | none => .ff
      | some p => match listParts p.2 with
        | none => .ff
        | some q => .eq a p.1 <| .ob ((AllStr q.1 ∧ JoinOk sep (q.1.map shS) = true)) <| .al fun t' => K (.ok (.ret (.str (joinV sep q.1) t'))) V hs
  | _ => .ff
noncomputable def joinC (B : Bs) : BCut B where
  id := "str.join"
  code := 8028352891401237876
  d := 0
  f := joinF
  hid := by rw [← S.code_S]; decide +kernel
  ok := by
    intro args V hs K h A s _ D
    unfold joinF at h
    split at h
    · rename_i sep ts a
      split at h
      · cases h
      · rename_i i hs
        split at h
        · cases h
        · rename_i p hp
          split at h
          · cases h
          · rename_i q hq
            obtain ⟨rfl, ⟨hA, hJ⟩, h⟩ := h
            rw [nth_eq] at hp
            have ho := D.has _ (List.mem_of_getElem? hp)
            rw [listParts_is hq] at ho
            have e := hA.eq
            have his : s.heap.IsList p.1 (strValues (prs q.1)).toArray := by rw [e]; exact ⟨_, ho, rfl, _, rfl⟩
            have em : (prs q.1).map (·.1) = q.1.map shS := by unfold prs; rw [List.map_map]; rfl
            unfold JoinOk at hJ
            rw [Bool.not_eq_true', ← em] at hJ
            refine codeAny_builtin (b := Builtin.«str.join») (entryFor_of_tree (by kernel_rfl)) ?_
            rw [Around.under_plainId (by decide +kernel)]
            refine meets_str_join_list sep ts p.1 (prs q.1) hJ _ _ _ (fun r s' => AK B V s K r s') s ⟨his, post_join _ ⟨joinFit_length hJ, fun t' k => ?_⟩⟩
            refine ⟨V, hs, ?_, D.toks' k, ext_toks' k⟩
            rw [em]
            exact h t'
    · cases h
noncomputable def strsF (f : Nat → Tok) : List Str → Nat → List Value
  | [], _ => []
  | x :: xs, i => .str x (f i) :: strsF f xs (i + 1)
theorem strsFrom_F (tk : Nat) : ∀ (xs : List Str) (i : Nat), strsFrom (tk + i) xs = strsF (fun i => tk + i) xs i
  | [], _ => rfl
  | x :: xs, i => by rw [strsFrom, strsF, show tk + i + 1 = tk + (i + 1) by lia, strsFrom_F tk xs (i + 1)]
noncomputable def splitF (args : List Value) (V : View) (hs : List Nat) (K : Result → View → List Nat → VC) : VC := match args with
  | [.str x _, .str y _] => .ob (((y.length == 0) = false ∧ x.length ≤ sizeLine ∧ (Txt.split x y).length ≤ sizeLine)) <| .cn True (fun _ => True) fun e_ => .al fun a' => K (.ok (.ret (.ref a'))) ((a', listX (strsF e_.t (Txt.split x y) 0) 0) :: V) hs
  | _ => .ff
noncomputable def splitC (B : Bs) : BCut B where
  id := "str.split"
  code := 2165937967108325602676
  d := 0
  f := splitF
  hid := by rw [← S.code_S]; decide +kernel
  ok := by
    intro args V hs K h A s _ D
    unfold splitF at h
    split at h
    · rename_i x t y u
      obtain ⟨⟨hy, hx, hn⟩, h⟩ := h
      have h : ∀ (f : Nat → Tok) (a' : Addr), N (K (.ok (.ret (.ref a'))) ((a', listX (strsF f (Txt.split x y) 0) 0) :: V) hs) := fun f => h.2 ⟨fun _ => 0, f, fun _ => 0, fun _ => ⟨#[]⟩, fun _ => .none, fun _ => [], fun _ => default⟩ trivial
      refine codeAny_builtin (b := Builtin.«str.split») (entryFor_of_tree (by kernel_rfl)) ?_
      rw [Around.under_plainId (by decide +kernel)]
      have self : Txt.split x y = [x] → ∃ V' hs', N (K (.ok (.ret (.ref s.heap.objs.size))) V' hs') ∧ Rep B V' { s with heap := s.heap.push { cls := .type "list", data := .seq [Value.str x t].toArray } } ∧ Ext B V V' s { s with heap := s.heap.push { cls := .type "list", data := .seq [Value.str x t].toArray } } := by
        intro e
        have z := D.alloc (o := listX [.str x t] 0) rfl
        have h := h (fun _ => t) s.heap.objs.size
        rw [e] at h
        exact ⟨_, hs, h, z.1, z.2⟩
      by_cases h1 : (decide (x.length < y.length) || decide (Str.strKind x < Str.strKind y)) = true
      · refine meets_str_split_cannot_occur x y t u h1 _ _ _ (fun r s' => AK B V s K r s') s ?_
        exact self (by unfold Txt.split; rw [if_pos h1])
      · have h1' : (decide (x.length < y.length) || decide (Str.strKind x < Str.strKind y)) = false := by simpa using h1
        cases hf : (occurrences x y 0 x.length (x.length + 1)).isEmpty with
        | true =>
          refine meets_str_split_not_found x y t u h1' hy hf _ _ _ (fun r s' => AK B V s K r s') s ?_
          exact self (by unfold Txt.split; rw [if_neg h1, if_pos hf])
        | false =>
          have e : Txt.split x y = partsBetween x (occurrences x y 0 x.length (x.length + 1)) y.length := by unfold Txt.split; rw [if_neg h1, if_neg (by rw [hf]; simp)]
          rw [e] at hn h
          refine meets_str_split_sep x y t u h1' hy hf hx hn _ _ _ (fun r s' => AK B V s K r s') s ?_
          have z := D.alloc (o := listX (strsF (fun i => s.toks + i) (partsBetween x (occurrences x y 0 x.length (x.length + 1)) y.length) 0) 0) rfl
          refine ⟨_, hs, h (fun i => s.toks + i) s.heap.objs.size, ?_, ?_⟩
          · have := strsFrom_F s.toks (partsBetween x (occurrences x y 0 x.length (x.length + 1)) y.length) 0
            rw [Nat.add_zero] at this
            rw [this]
            exact z.1.toks' _
          · have := strsFrom_F s.toks (partsBetween x (occurrences x y 0 x.length (x.length + 1)) y.length) 0
            rw [Nat.add_zero] at this
            rw [this]
            exact z.2.trans (ext_toks' _)
    · cases h
noncomputable def cntS (x y : Str) : Nat := (occurrences x y 0 x.length (x.length + 1)).length
noncomputable def countF : List Value → Option (Prop × Res)
  | [.str x _, .str y _] => some (True, .int (cntS x y : Nat))
  | _ => none
noncomputable def countC (B : Bs) : BCut B := pureCut B "str.count" 2166300787185074533748 Builtin.«str.count» countF (by decide +kernel) (entryFor_of_tree (by kernel_rfl)) (by decide +kernel) (by
  intro args P r e hP V hs K h s D
  unfold countF at e
  split at e
  · cases e
    exact ⟨_, gives_str_count _ _ _ _, post_int D h⟩
  · cases e)
noncomputable def chAt (x : Str) (i : Int) : Str := ⟨#[x.cps.getD i.toNat 0]⟩
noncomputable def sgetF : List Value → Option (Prop × Res)
  | [.str x _, .int i _] => some (0 ≤ i ∧ i.toNat < x.length ∧ x.length ≤ sizeLine, .str (chAt x i))
  | _ => none
theorem sget_gives {x : Str} {i : Int} (t u : Tok) (h0 : 0 ≤ i) (h1 : i.toNat < x.length) (h2 : x.length ≤ sizeLine) : Gives (Builtin.«str.__getitem__» ⟨[.str x t, .int i u], []⟩) (.str (chAt x i)) := by
  have hl := line63
  have hs : x.cps.size = x.length := rfl
  refine gives_str_getitem x i t u _ (by simp; lia) ?_
  rw [StrLaws.seqIndex_nonneg h0 (by lia)]
  show x.cps[i.toNat]? = _
  rw [Array.getElem?_eq_getElem (by lia)]
  simp [Array.getD, show i.toNat < x.cps.size by lia]
noncomputable def sgetC (B : Bs) : BCut B := pureCut B "str.__getitem__" 500416356548588640944365259017385332 Builtin.«str.__getitem__» sgetF (by decide +kernel) (entryFor_of_tree (by kernel_rfl)) (by decide +kernel) (by
  intro args P r e hP V hs K h s D
  unfold sgetF at e
  split at e
  · cases e
    exact ⟨_, sget_gives _ _ hP.1 hP.2.1 hP.2.2, post_str D (by show 1 ≤ sizeLine; decide) h⟩
  · cases e)
noncomputable def repS (x : Str) (n : Int) : Str := ⟨(List.replicate n.toNat x.cps.toList).flatten.toArray⟩
theorem fold_arr (x : Array Nat) : ∀ (n : Nat) (acc : Array Nat), (List.replicate n x).foldl (· ++ ·) acc = acc ++ (List.replicate n x.toList).flatten.toArray
  | 0, acc => by simp
  | n + 1, acc => by
    rw [List.replicate_succ, List.foldl_cons, fold_arr x n, List.replicate_succ, List.flatten_cons]
    apply Array.ext'
    simp
theorem smul_gives (x : Str) (n : Int) (t u : Tok) (h1 : n ≤ sizeLine) (h2 : x.length * n.toNat ≤ sizeLine) (h3 : -(2 ^ 62) ≤ n) : ∃ m, Gives (Builtin.«str.__mul__» ⟨[.str x t, .int n u], []⟩) m ∧ ∀ {B : Bs} {V : View} {hs : List Nat} {K : Result → View → List Nat → VC} {s : Shared}, Rep B V s → (∀ t', N (K (.ok (.ret (.str (repS x n) t'))) V hs)) → m.post (fun v s' => AK B V s K (.ok (.ret v)) s') s := by
  have hl := line63
  refine ⟨_, gives_str_mul x n t u (by simp; lia) (fun _ _ => ?_) (fun _ _ => by unfold tooLong; simpa using h2), fun D h => ?_⟩
  · have h5 : (x.length : Int) * n ≤ sizeLine := by
      have e : ((n.toNat : Nat) : Int) = n := by lia
      rw [← e]
      exact_mod_cast h2
    intro hh
    have h4 : ((x.length : Nat) : Int) ≤ (2 ^ 63 - 1) / n := by
      rw [Int.le_ediv_iff_mul_le (by lia)]
      lia
    lia
  · split
    · rename_i hn
      have e : repS x n = Str.empty := by unfold repS; rw [show n.toNat = 0 by lia]; rfl
      rw [e] at h
      exact post_str D (Nat.zero_le _) h
    · split
      · rename_i hn h4
        have e : repS x n = x := by
          simp only [Bool.or_eq_true, beq_iff_eq] at h4
          unfold repS
          rcases h4 with h4 | h4
          · subst h4
            apply Str.ext'
            simp
          · have : x.cps = #[] := Array.eq_empty_of_size_eq_zero h4
            apply Str.ext'
            rw [this]
            simp
        rw [e] at h
        exact post_val D (h t)
      · have e : (⟨(List.replicate n.toNat x.cps).foldl (· ++ ·) #[]⟩ : Str) = repS x n := by
          rw [fold_arr]
          unfold repS
          simp
        rw [e]
        refine post_str D ?_ h
        show (List.replicate n.toNat x.cps.toList).flatten.toArray.size ≤ sizeLine
        have hs : x.cps.toList.length = x.length := by simp; rfl
        simp only [List.size_toArray, List.length_flatten, List.map_replicate, List.sum_replicate_nat, hs]
        rw [Nat.mul_comm]; exact h2
noncomputable def smulC (B : Bs) : BCut B := pureCut B "str.__mul__" 116512245094328231196325236 Builtin.«str.__mul__» (fun args => match args with
  | [.str x _, .int n _] => some ((n ≤ sizeLine ∧ x.length * n.toNat ≤ sizeLine) ∧ -(2 ^ 62) ≤ n, .str (repS x n))
  | _ => none) (by decide +kernel) (entryFor_of_tree (by kernel_rfl)) (by decide +kernel) (by
  intro args P r e hP V hs K h s D
  split at e
  · cases e
    rename_i x t n u
    obtain ⟨m, g, q⟩ := smul_gives x n t u hP.1.1 hP.1.2 hP.2
    exact ⟨m, g, q D h⟩
  · cases e)
noncomputable def insV : List Value → Nat → Value → List Value
  | l, 0, v => v :: l
  | [], _ + 1, v => [v]
  | x :: l, i + 1, v => x :: insV l i v
theorem insV_eq : ∀ (l : List Value) (i : Nat) (v : Value), insV l i v = l.take i ++ v :: l.drop i
  | l, 0, v => by cases l <;> rfl
  | [], i + 1, v => rfl
  | x :: l, i + 1, v => by rw [insV, insV_eq l i v]; rfl
noncomputable def insF : List Value → List Value → Nat → Nat → Option (Prop × LO)
  | [.int k _, v], items, ep, _ => some (0 ≤ k ∧ k.toNat ≤ items.length ∧ items.length ≤ sizeLine, .upd (insV items k.toNat v) (ep + 1))
  | _, _, _, _ => none
theorem insF_some {rest items : List Value} {ep h : Nat} {P : Prop} {o : LO} (e : insF rest items ep h = some (P, o)) : ∃ k t v, rest = [.int k t, v] ∧ P = (0 ≤ k ∧ k.toNat ≤ items.length ∧ items.length ≤ sizeLine) ∧ o = .upd (insV items k.toNat v) (ep + 1) := by
  unfold insF at e
  split at e
  · cases e; exact ⟨_, _, _, rfl, rfl, rfl⟩
  · cases e
noncomputable def insL (B : Bs) : BCut B := lcut B "list.insert" 141989282998378523895556717 Builtin.«list.insert» insF (by decide +kernel) (entryFor_of_tree (by kernel_rfl)) (by decide +kernel) (by
  intro l rest items ep h P o e hP prog w A R s ho hR
  obtain ⟨k, t, v, rfl, rfl, rfl⟩ := insF_some e
  obtain ⟨h0, h1, h2⟩ := hP
  have hl := line63
  refine AutoListH.list_insert_list_int_val_1 l ⟨items⟩ ep k t v (by rw [fitsIndex_of h0 (by lia)]; simp) h2 prog w A R s ⟨ho, ?_⟩
  exact hR _ s.toks (by
    rw [mapSeq_ep ⟨items⟩ ⟨insV items k.toNat v⟩ _ ep (by
      apply Array.ext'
      rw [show ¬ k < 0 by lia |> if_neg]
      simp [insV_eq, Nat.min_eq_left h1, List.extract]
      exact List.take_of_length_le (by simp))]
    have : ((⟨insV items k.toNat v⟩ : Array Value).size == (⟨items⟩ : Array Value).size) = false := by simp [insV_eq]; lia
    rw [this]; rfl))
end Mine
end
section
namespace Mine
open PySem PySem.Spec PySem.Calls PyProof.Rows PySem.W PySem.W.X PySem.Builtin PySem.Builtin.Str PySem.StrLaws
noncomputable def goOcc (s sub : Str) (hi : Nat) : Nat → Nat → Nat → List Nat
  | 0, _, _ => []
  | m + 1, i, free => if (free ≤ i ∧ i + sub.length ≤ hi) ∧ subAt s sub i = true then i :: goOcc s sub hi m (i + 1) (i + sub.length) else goOcc s sub hi m (i + 1) free
theorem occ_go (s sub : Str) (hi limit : Nat) : ∀ (m i free : Nat) (found : Array Nat), found.size + m ≤ limit → (forIn (List.range' i m) (found, free) (occBody s sub hi limit)).run.fst.toList = found.toList ++ goOcc s sub hi m i free
  | 0, i, free, found, _ => by simp [goOcc, List.range']
  | m + 1, i, free, found, h => by
    rw [List.range'_succ, List.forIn_cons, goOcc]
    unfold occBody
    by_cases hc : (free ≤ i ∧ i + sub.length ≤ hi) ∧ subAt s sub i = true
    · rw [if_pos ⟨⟨⟨by show found.size < limit; lia, hc.1.1⟩, hc.1.2⟩, hc.2⟩, if_pos hc]
      exact (occ_go s sub hi limit m (i + 1) (i + sub.length) (found.push i) (by simp; lia)).trans (by simp)
    · rw [if_neg (fun x => hc ⟨⟨x.1.1.2, x.1.2⟩, x.2⟩), if_neg hc]
      exact occ_go s sub hi limit m (i + 1) free found (by lia)
theorem occ_is (s sub : Str) : occurrences s sub 0 s.length (s.length + 1) = goOcc s sub s.length (s.length + 1) 0 0 := by
  rw [occ_eq, occ_go _ _ _ _ _ _ _ _ (by simp)]
  simp
theorem goOcc_free (s sub : Str) (hi : Nat) : ∀ (m i f f' : Nat), f ≤ i → f' ≤ i → goOcc s sub hi m i f = goOcc s sub hi m i f'
  | 0, _, _, _, _, _ => rfl
  | m + 1, i, f, f', h, h' => by
    rw [goOcc, goOcc]
    by_cases hc : i + sub.length ≤ hi ∧ subAt s sub i = true
    · rw [if_pos ⟨⟨h, hc.1⟩, hc.2⟩, if_pos ⟨⟨h', hc.1⟩, hc.2⟩]
    · rw [if_neg (fun x => hc ⟨x.1.2, x.2⟩), if_neg (fun x => hc ⟨x.1.2, x.2⟩), goOcc_free s sub hi m (i + 1) f f' (by lia) (by lia)]
theorem goOcc_one (s : Str) (c : Nat) : ∀ (m i : Nat), i + m = s.length + 1 → i ≤ s.length → (goOcc s ⟨#[c]⟩ s.length m i i).length = (s.cps.toList.drop i).count c
  | 0, i, h, h2 => by lia
  | m + 1, i, h, h2 => by
    rw [goOcc]
    have hl : s.cps.toList.length = s.length := by simp; rfl
    have one : (⟨#[c]⟩ : Str).length = 1 := rfl
    rw [one]
    by_cases hi : i = s.length
    · subst hi
      rw [if_neg (by lia)]
      have : m = 0 := by lia
      subst this
      rw [List.drop_eq_nil_of_le (by lia)]
      rfl
    · have e : s.cps.toList.drop i = s.cps.toList[i]'(by lia) :: s.cps.toList.drop (i + 1) := List.drop_eq_getElem_cons (by lia)
      have hs := subAt_one s c i
      rw [one] at hs
      rw [e, List.count_cons]
      by_cases hc : s.cps.toList[i]'(by lia) = c
      · have := hs.mpr (by rw [List.getElem?_eq_getElem (by lia), hc])
        rw [if_pos ⟨⟨Nat.le_refl _, this.1⟩, this.2⟩, List.length_cons, goOcc_one s c m (i + 1) (by lia) (by lia), hc]
        simp
      · rw [if_neg (fun x => hc (by have := hs.mp ⟨x.1.2, x.2⟩; rw [List.getElem?_eq_getElem (by lia)] at this; exact Option.some.inj this)), goOcc_free s _ _ m (i + 1) i (i + 1) (by lia) (Nat.le_refl _), goOcc_one s c m (i + 1) (by lia) (by lia)]
        simp
        simpa using hc
  termination_by m => m
theorem count_one (s : Str) (c : Nat) : (occurrences s ⟨#[c]⟩ 0 s.length (s.length + 1)).length = s.cps.toList.count c := by
  rw [occ_is, goOcc_one s c _ _ (by lia) (Nat.zero_le _), List.drop_zero]
noncomputable def spl : List Nat → List Nat → List (List Nat)
  | acc, [] => [acc]
  | acc, 13 :: 10 :: r => acc :: spl [] r
  | acc, c :: r => spl (acc ++ [c]) r
theorem strSub_sL (s : Str) (i j : Nat) : strSub s i j = sL ((s.cps.toList.drop i).take (j - i)) := by
  have := strSub_toList s i j
  unfold sL
  apply Str.ext'
  apply Array.ext'
  rw [this]
theorem at_crlf (s : Str) (i : Nat) : (i + (⟨#[13, 10]⟩ : Str).length ≤ s.length ∧ subAt s ⟨#[13, 10]⟩ i = true) ↔ ∃ r, s.cps.toList.drop i = 13 :: 10 :: r := by
  have hl : s.cps.toList.length = s.length := by simp; rfl
  rw [subAt_eq]
  show (i + 2 ≤ s.length ∧ ((s.cps.toList.drop i).take 2 == [13, 10]) = true) ↔ _
  constructor
  · rintro ⟨h1, h2⟩
    have h2 : (s.cps.toList.drop i).take 2 = [13, 10] := by simpa using h2
    refine ⟨(s.cps.toList.drop i).drop 2, ?_⟩
    have := List.take_append_drop 2 (s.cps.toList.drop i)
    rw [h2] at this
    exact this.symm
  · rintro ⟨r, h⟩
    have h3 : (s.cps.toList.drop i).length = r.length + 2 := by rw [h]; rfl
    rw [List.length_drop, hl] at h3
    refine ⟨by lia, by rw [h]; rfl⟩
theorem spl_plain (acc : List Nat) (c : Nat) (r : List Nat) (h : ¬ ∃ r', c :: r = 13 :: 10 :: r') : spl acc (c :: r) = spl (acc ++ [c]) r :=
  spl.eq_3 acc c r (fun r' h1 h2 => h ⟨r', by rw [h1, h2]⟩)
theorem go_spl (s : Str) : ∀ (m i a : Nat), i + m = s.length + 1 → a ≤ i → i ≤ s.length → partsFrom s 2 a (goOcc s ⟨#[13, 10]⟩ s.length m i i) = (spl ((s.cps.toList.drop a).take (i - a)) (s.cps.toList.drop i)).map sL
  | 0, i, a, h, _, h2 => by lia
  | m + 1, i, a, h, ha, h2 => by
    have hl : s.cps.toList.length = s.length := by simp; rfl
    rw [goOcc]
    by_cases hc : ∃ r, s.cps.toList.drop i = 13 :: 10 :: r
    · have hh := (at_crlf s i).mpr hc
      obtain ⟨r, hr⟩ := hc
      rw [if_pos ⟨⟨Nat.le_refl _, hh.1⟩, hh.2⟩]
      show partsFrom s 2 a (i :: goOcc s ⟨#[13, 10]⟩ s.length m (i + 1) (i + 2)) = _
      have h3 : (s.cps.toList.drop i).length = r.length + 2 := by rw [hr]; rfl
      rw [List.length_drop, hl] at h3
      have hd : s.cps.toList.drop (i + 2) = r := by
        have : (s.cps.toList.drop i).drop 2 = s.cps.toList.drop (i + 2) := by rw [List.drop_drop]
        rw [← this, hr]; rfl
      obtain ⟨m', rfl⟩ : ∃ m', m = m' + 1 := ⟨m - 1, by lia⟩
      rw [partsFrom, goOcc, if_neg (by lia), go_spl s m' (i + 2) (i + 2) (by lia) (Nat.le_refl _) (by lia), hr, spl, List.map_cons, ← strSub_sL, hd]
      simp
    · rw [if_neg (fun x => hc ((at_crlf s i).mp ⟨x.1.2, x.2⟩))]
      by_cases hi : i = s.length
      · subst hi
        have : m = 0 := by lia
        subst this
        rw [goOcc, partsFrom, List.drop_eq_nil_of_le (as := s.cps.toList) (i := s.length) (by lia), spl, strSub_sL]
        rfl
      · have e : s.cps.toList.drop i = s.cps.toList[i]'(by lia) :: s.cps.toList.drop (i + 1) := List.drop_eq_getElem_cons (by lia)
        rw [goOcc_free s _ _ m (i + 1) i (i + 1) (by lia) (Nat.le_refl _), go_spl s m (i + 1) a (by lia) (by lia) (by lia), e, spl_plain _ _ _ (by rw [← e]; exact hc)]
        congr 2
        rw [show i + 1 - a = (i - a) + 1 by lia, List.take_succ]
        congr 1
        rw [List.getElem?_drop, show a + (i - a) = i by lia, List.getElem?_eq_getElem (by lia)]
        rfl
  termination_by m => m
theorem split_crlf (s : Str) : Txt.split s ⟨#[13, 10]⟩ = (spl [] s.cps.toList).map sL := by
  have key := go_spl s (s.length + 1) 0 0 (by lia) (Nat.le_refl _) (Nat.zero_le _)
  rw [← occ_is, List.drop_zero, Nat.sub_self, List.take_zero] at key
  unfold Txt.split
  have hk : decide (Str.strKind s < Str.strKind ⟨#[13, 10]⟩) = false := by
    have : Str.strKind ⟨#[13, 10]⟩ = 1 := by decide +kernel
    rw [this]
    unfold Str.strKind
    split
    · decide
    · split <;> decide
  have one : ∀ cuts, cuts = [] → partsFrom s 2 0 cuts = [s] := by
    rintro _ rfl
    rw [partsFrom, sub_whole]
  by_cases h1 : s.length < 2
  · rw [if_pos (by rw [decide_eq_true (show s.length < (⟨#[13, 10]⟩ : Str).length from h1)]; rfl)]
    rw [← key]
    refine (one _ ?_).symm
    have := occ_length_le_len s ⟨#[13, 10]⟩ 0 s.length (s.length + 1)
    apply List.eq_nil_iff_length_eq_zero.mpr
    rw [occ_is]
    have none : ∀ (m i f : Nat), (goOcc s ⟨#[13, 10]⟩ s.length m i f) = [] := by
      intro m
      induction m with
      | zero => intros; rfl
      | succ m ih =>
        intro i f
        rw [goOcc, if_neg (by show ¬ ((f ≤ i ∧ i + 2 ≤ s.length) ∧ _); lia), ih]
    rw [none]; rfl
  · rw [if_neg (by rw [decide_eq_false (show ¬ s.length < (⟨#[13, 10]⟩ : Str).length from h1), hk]; simp)]
    by_cases he : (occurrences s ⟨#[13, 10]⟩ 0 s.length (s.length + 1)).isEmpty = true
    · rw [if_pos he, ← key]
      exact (one _ (by simpa using he)).symm
    · rw [if_neg he, partsBetween_eq, ← key]
      rfl
noncomputable def Pl (w : List Nat) : Prop := ∀ c ∈ w, c ≠ 10 ∧ c ≠ 13
theorem Pl.tail {c : Nat} {w : List Nat} (h : Pl (c :: w)) : Pl w := fun x hx => h x (.tail _ hx)
theorem Pl.eol {c : Nat} {w : List Nat} (h : Pl (c :: w)) : eol c = false := by
  obtain ⟨h1, h2⟩ := h c (.head _)
  unfold Mine.eol
  simp [h1, h2]
theorem crlf_pre : ∀ (w r : List Nat), Pl w → crlf (w ++ r) = w ++ crlf r
  | [], r, _ => rfl
  | c :: w, r, h => by rw [List.cons_append, crlf_plain h.eol, crlf_pre w r h.tail]; rfl
theorem dots_pre : ∀ (w r : List Nat), Pl w → dots false (w ++ r) = w ++ dots false r
  | [], r, _ => rfl
  | c :: w, r, h => by
    have : (c == 10) = false := by simpa using (h c (.head _)).1
    rw [List.cons_append, dots, if_neg (by simp), this, dots_pre w r h.tail]; rfl
theorem dots_head (w r : List Nat) (h : Pl w) : dots true (46 :: w ++ r) = 46 :: 46 :: (w ++ dots false r) := by
  rw [List.cons_append, dots, if_pos (by rfl)]
  show 46 :: 46 :: dots false (w ++ r) = _
  rw [dots_pre w r h]
theorem dots_end (r : List Nat) : dots false (13 :: 10 :: r) = 13 :: 10 :: dots true r := by
  rw [dots, if_neg (by simp)]
  show 13 :: dots false (10 :: r) = _
  rw [dots, if_neg (by simp)]
  rfl
theorem spl_pre : ∀ (w acc r : List Nat), Pl w → spl acc (w ++ r) = spl (acc ++ w) r
  | [], acc, r, _ => by simp
  | c :: w, acc, r, h => by
    rw [List.cons_append, spl_plain _ _ _ (by rintro ⟨r', e⟩; injection e with e1 _; exact (h c (.head _)).2 e1), spl_pre w _ r h.tail, List.append_assoc]
    rfl
noncomputable def joinL (sep : List Nat) : List (List Nat) → List Nat
  | [] => []
  | [w] => w
  | w :: v :: ws => w ++ sep ++ joinL sep (v :: ws)
noncomputable def Wd1 (w : List Nat) : Prop := ∃ w', w = 46 :: w' ∧ Pl w'
theorem Wd1.pl {w : List Nat} (h : Wd1 w) : Pl w := by
  obtain ⟨w', rfl, h⟩ := h
  intro c hc
  rcases List.mem_cons.mp hc with rfl | hc
  · decide
  · exact h c hc
theorem crlf_join (e : Nat) (he : e = 10 ∨ e = 13) : ∀ ws : List (List Nat), (∀ w ∈ ws, Wd1 w) → crlf (joinL [e] ws) = joinL [13, 10] ws
  | [], _ => rfl
  | [w], h => by
    have := crlf_pre w [] (h w (.head _)).pl
    simp only [List.append_nil, crlf] at this
    exact this
  | w :: v :: ws, h => by
    have ih := crlf_join e he (v :: ws) (fun x hx => h x (.tail _ hx))
    rw [joinL, joinL, List.append_assoc, crlf_pre w _ (h w (.head _)).pl, List.append_assoc]
    congr 1
    have hv : ∃ r, joinL [e] (v :: ws) = 46 :: r := by
      obtain ⟨v', rfl, _⟩ := h v (.tail _ (.head _))
      cases ws with
      | nil => exact ⟨_, rfl⟩
      | cons u us => exact ⟨_, rfl⟩
    obtain ⟨r, hr⟩ := hv
    rw [← ih, hr]
    rcases he with rfl | rfl
    · show crlf (10 :: 46 :: r) = _
      rw [crlf.eq_3 10 (46 :: r) (fun r' h1 _ => by cases h1), if_pos (by rfl)]
      rfl
    · show crlf (13 :: 46 :: r) = _
      rw [crlf.eq_3 13 (46 :: r) (fun r' _ h2 => by cases h2), if_pos (by rfl)]
      rfl
theorem dots_join : ∀ ws : List (List Nat), (∀ w ∈ ws, Wd1 w) → dots true (joinL [13, 10] ws) = joinL [13, 10] (ws.map (46 :: ·))
  | [], _ => rfl
  | [w], h => by
    obtain ⟨w', rfl, hw⟩ := h w (.head _)
    have := dots_head w' [] hw
    simp only [List.append_nil, dots] at this
    exact this
  | w :: v :: ws, h => by
    have ih := dots_join (v :: ws) (fun x hx => h x (.tail _ hx))
    obtain ⟨w', rfl, hw⟩ := h w (.head _)
    rw [joinL, List.append_assoc, dots_head w' _ hw]
    show 46 :: 46 :: (w' ++ dots false (13 :: 10 :: joinL [13, 10] (v :: ws))) = _
    rw [dots_end, ih]
    simp [joinL]
theorem spl_join : ∀ ws : List (List Nat), ws ≠ [] → (∀ w ∈ ws, Pl w) → spl [] (joinL [13, 10] ws) = ws
  | [], h, _ => absurd rfl h
  | [w], _, h => by
    have := spl_pre w [] [] (h w (.head _))
    simp only [List.append_nil, List.nil_append, spl] at this
    exact this
  | w :: v :: ws, _, h => by
    have ih := spl_join (v :: ws) (by simp) (fun x hx => h x (.tail _ hx))
    rw [joinL, List.append_assoc, spl_pre w [] _ (h w (.head _))]
    show spl ([] ++ w) (13 :: 10 :: joinL [13, 10] (v :: ws)) = _
    rw [spl, ih]
    rfl
theorem quoted_words (e : Nat) (he : e = 10 ∨ e = 13) (ws : List (List Nat)) (h0 : ws ≠ []) (h : ∀ w ∈ ws, Wd1 w) : spl [] (dots true (crlf (joinL [e] ws))) = ws.map (46 :: ·) := by
  rw [crlf_join e he ws h, dots_join ws h]
  refine spl_join _ (by simpa using h0) ?_
  intro w hw
  obtain ⟨v, hv, rfl⟩ := List.mem_map.mp hw
  intro c hc
  rcases List.mem_cons.mp hc with rfl | hc
  · decide
  · exact (h v hv).pl c hc
theorem join_sL (sep : Str) : ∀ ws : List (List Nat), Txt.join sep (ws.map sL) = sL (joinL sep.cps.toList ws) := by
  intro ws
  show glued sep (ws.map sL) = _
  rw [glued_eq_join]
  induction ws with
  | nil => rfl
  | cons w ws ih =>
    cases ws with
    | nil => rfl
    | cons v ws =>
      show sL w ++ sep ++ Str.join sep ((v :: ws).map sL) = _
      rw [ih, joinL]
      apply Str.ext'
      apply Array.ext'
      simp [sL, Str.cps_append]
end Mine
end
section

namespace Mine
open PySem PySem.Spec PySem.Calls PyProof.Rows PySem.W PySem.W.X PySem.Builtin.Str
noncomputable def stdF (B : Bs) : List (BCut B) := stdE B ++ [joinC B, splitC B, countC B, sgetC B, smulC B, insL B]
noncomputable def tl : List Value → List Value
  | [] => []
  | _ :: l => l
noncomputable def S_gpL (W : Wd) : Sp (BB W) :=
  let B := BB W
  let pr := fun q : Lt => lxQ W q 0 0 0 0 0 0
  { d := 40
    c := fun q => .call (.ref 59) ⟨[.ref (q.a 0)], []⟩
    P := fun q => (0 < (q.l 0).length ∧ (q.l 0).length ≤ sizeLine) ∧ itemAt (q.l 0) 0 = shape 2 (itemAt (q.l 0) 0)
    pre := pr
    R := fun q e => True
    res := fun q e => .ok (.ret (.str (shS (itemAt (q.l 0) 0)) (shT (itemAt (q.l 0) 0))))
    out := fun q e => [((q.a 0),instO 69 (q.a 1)),((q.a 1),dictO [kv B s_lineno (q.t 0) (.int (q.i 0) (q.t 1)),kv B s_instream (q.t 2) (.ref (q.a 2)),kv B s_whitespace (q.t 3) (.str s_ws (q.t 4)),kv B s_pushback (q.t 5) (.ref (q.a 3))] 4),((q.a 3),listO (tl (q.l 0)) ((q.t 6) + 1))]++(pr q).drop 3 }
noncomputable def on_gpL : Code → View → Lt := fun c V => lt ([valA (nthV (cPos c) 0)]++xA V 0) ([]++xT V 1) [dI V 1 0,qI V 9 0] [valS (cellV (nthO V 7))] [nthV (sQ V 6) 0] [sQ V 2,dropV 2 (sQ V 6)] [fdO (nthO V 3)]
theorem gpL_ok (W : Wd) (O : (BB W).Ok) : (S_gpL W).Ok := fun q hq => by
  have hq : (0 < (q.l 0).length ∧ (q.l 0).length ≤ sizeLine) ∧ itemAt (q.l 0) 0 = shape 2 (itemAt (q.l 0) 0) := hq
  cases h : (q.l 0) with
  | nil => rw [h] at hq; exact absurd hq.1.1 (by simp)
  | cons v vs =>
    rw [h] at hq
    have hv : v = .str (shS v) (shT v) := hq.2
    let q1 : Lt := lt [q.a 0, q.a 1, q.a 2, q.a 3, q.a 4, q.a 5, q.a 6, q.a 7, q.a 8, q.a 9, q.a 10] [q.t 0, q.t 1, q.t 2, q.t 3, q.t 4, q.t 5, shT v, q.t 6, q.t 7, q.t 8, q.t 9, q.t 10] [q.i 0, q.i 1] [shS v, q.s 0] [q.v 0] [vs, q.l 1] [q.f 0]
    have e : (S_gpL W).pre q = (S_gp W).pre q1 := by
      have z := congrArg (fun XS => ([((q.a 0), instO 69 (q.a 1)), ((q.a 1), dictO [kv (BB W) s_lineno (q.t 0) (.int (q.i 0) (q.t 1)), kv (BB W) s_instream (q.t 2) (.ref (q.a 2)), kv (BB W) s_whitespace (q.t 3) (.str s_ws (q.t 4)), kv (BB W) s_pushback (q.t 5) (.ref (q.a 3))] 4), ((q.a 3), listO XS (q.t 6)), ((q.a 2), funcO (q.f 0) (some (q.a 4))), ((q.a 4), dictO [kv (BB W) s_read (q.t 7) (.ref (q.a 5))] 1), ((q.a 5), funcO (readFd W.w (q.a 6) (q.a 7) (q.a 8) (q.a 9)) none), ((q.a 9), codeZ s_readq (q.t 8) (q.v 0) (q.l 1)), ((q.a 6), cellO (.str (q.s 0) (q.t 9))), ((q.a 7), cellO (.ref (q.a 10))), ((q.a 10), listO [(.int (q.i 1) (q.t 10))] 0)] : View)) (h.trans (congrArg (· :: vs) hv))
      exact z
    rw [e]
    refine (gp_ok W O q1 (by show vs.length + 1 ≤ sizeLine; have := hq.1.2; simpa using this)).mono (Nat.le_refl _) fun r V ⟨e', hR, hr, hV⟩ => ⟨e', trivial, hr.trans ?_, hV.trans ?_⟩
    · show Except.ok (Flow.ret (Value.str (shS v) (shT v))) = Except.ok (Flow.ret (Value.str (shS (itemAt (q.l 0) 0)) (shT (itemAt (q.l 0) 0))))
      rw [h]; rfl
    · have z := congrArg (fun YS => (S_gp W).out (lt (sl q.a 0 11) (sl q.t 0 6 ++ [shT v] ++ sl q.t 6 5) [q.i 0, q.i 1] [shS v, q.s 0] [q.v 0] [YS, q.l 1] [q.f 0]) e') (show vs = tl (q.l 0) by rw [h]; rfl)
      exact z
noncomputable def S_gtL (W : Wd) (l tk rest : List Nat) : Sp (BB W) :=
  let B := BB W
  { d := 80
    c := fun q => .call (.ref 59) ⟨[.ref (q.a 0)], []⟩
    P := fun q => (q.l 0) = [] ∧ GP (q.s 0) (q.i 1) ⟨#[]⟩ l
    pre := fun q => lxQ W q 0 0 0 0 0 0
    R := fun q e => GR (q.s 0) (q.i 0) ⟨#[]⟩ l tk rest (e.i 0) (e.i 1) (e.s 0)
    res := fun q e => .ok (.ret (.str (e.s 0) (e.t 2)))
    out := fun q e => lxV W (q.a 0) (q.a 1) (q.t 0) (e.i 1) (e.t 0) (q.t 2) (q.a 2) (q.t 3) (q.t 4) (q.t 5) (q.a 3) (q.l 0) (q.t 6) (q.f 0) (q.a 4) (q.t 7) (q.a 5) (q.a 6) (q.a 7) (q.a 8) (q.a 9) (q.t 8) (q.v 0) (q.l 1) (q.s 0) (q.t 9) (q.a 10) (e.i 0) (e.t 1) }
noncomputable def on_gtL : Code → View → Lt := fun c V => lt ([valA (nthV (cPos c) 0)]++xA V 0) ([]++xT V 1) [dI V 1 0,qI V 9 0] [valS (cellV (nthO V 7))] [nthV (sQ V 6) 0] [sQ V 2,dropV 2 (sQ V 6)] [fdO (nthO V 3)]
theorem gtL_ok (W : Wd) (O : (BB W).Ok) {l tk rest : List Nat} (z : Lx1 l tk rest) : (S_gtL W l tk rest).Ok := fun q hq => by
  obtain ⟨h, hq⟩ := hq
  let q1 : Lt := lt [q.a 0, q.a 1, q.a 2, q.a 3, q.a 4, q.a 5, q.a 6, q.a 7, q.a 8, q.a 9, q.a 10] [q.t 0, q.t 1, q.t 2, q.t 3, q.t 4, q.t 5, q.t 6, q.t 7, q.t 8, q.t 9, q.t 10] [q.i 0, q.i 1] [q.s 0] [q.v 0] [q.l 1] [q.f 0]
  have e : (S_gtL W l tk rest).pre q = (S_gt W l tk rest).pre q1 := congrArg (fun XS => ([((q.a 0), instO 69 (q.a 1)), ((q.a 1), dictO [kv (BB W) s_lineno (q.t 0) (.int (q.i 0) (q.t 1)), kv (BB W) s_instream (q.t 2) (.ref (q.a 2)), kv (BB W) s_whitespace (q.t 3) (.str s_ws (q.t 4)), kv (BB W) s_pushback (q.t 5) (.ref (q.a 3))] 4), ((q.a 3), listO XS (q.t 6)), ((q.a 2), funcO (q.f 0) (some (q.a 4))), ((q.a 4), dictO [kv (BB W) s_read (q.t 7) (.ref (q.a 5))] 1), ((q.a 5), funcO (readFd W.w (q.a 6) (q.a 7) (q.a 8) (q.a 9)) none), ((q.a 9), codeZ s_readq (q.t 8) (q.v 0) (q.l 1)), ((q.a 6), cellO (.str (q.s 0) (q.t 9))), ((q.a 7), cellO (.ref (q.a 10))), ((q.a 10), listO [(.int (q.i 1) (q.t 10))] 0)] : View)) h
  rw [e]
  refine (gt_tri W O z q1 hq).mono (Nat.le_refl _) fun r V ⟨e', hR, hr, hV⟩ => ⟨lt [] [e'.t 0, e'.t 1, e'.t 2] [e'.i 0, e'.i 1] [e'.s 0] [] [] [], hR, hr, hV.trans ?_⟩
  have z := congrArg (fun XS => (S_gtL W l tk rest).out (lt (sl q.a 0 11) (sl q.t 0 11) [q.i 0, q.i 1] [q.s 0] [q.v 0] [XS, q.l 1] [q.f 0]) (lt [] [e'.t 0, e'.t 1, e'.t 2] [e'.i 0, e'.i 1] [e'.s 0] [] [] [])) h
  exact z.symm
end Mine
end
section
namespace Mine
open PySem PySem.Spec PySem.Calls PyProof.Rows PySem.W PySem.W.X
noncomputable abbrev tRG : Value := .type "range_iterator"
noncomputable abbrev tLI : Value := .type "list_iterator"
noncomputable def hd2 (l : List Value) : Value := .str (shS (itemAt l 0)) (shT (itemAt l 0))
noncomputable def rotN : Nat → List Value → List Value
  | 0, l => l
  | n + 1, l => rotN n (tl l ++ [hd2 l])
structure RotP (left : Int) (l : List Value) (m : Nat) : Prop where
  l0 : 0 ≤ left
  lm : left ≤ m
  st : AllStr l
  len : l.length ≤ 100
  ne : 0 < left → 0 < l.length
theorem AllStr.tl {l : List Value} (h : AllStr l) : AllStr (tl l) := by
  cases l with
  | nil => exact h
  | cons v l => exact fun x hx => h x (.tail _ hx)
theorem AllStr.app {l m : List Value} (h : AllStr l) (h' : AllStr m) : AllStr (l ++ m) := fun x hx => by
  rcases List.mem_append.mp hx with hx | hx
  · exact h x hx
  · exact h' x hx
theorem AllStr.one (x : Str) (t : Tok) : AllStr [.str x t] := fun v hv => by
  rcases List.mem_cons.mp hv with rfl | hv
  · rfl
  · simp at hv
theorem AllStr.head {l : List Value} (h : AllStr l) (h0 : 0 < l.length) : itemAt l 0 = shape 2 (itemAt l 0) := by
  cases l with
  | nil => simp at h0
  | cons v l => exact h v (.head _)
theorem tl_len (l : List Value) : (tl l).length = l.length - 1 := by cases l <;> simp [tl]
theorem line100 : (100 : Nat) < sizeLine := by decide
theorem RotP.next {left : Int} {l : List Value} {m : Nat} (h : RotP left l (m + 1)) (h0 : 0 < left) : RotP (left - 1) (Mine.tl l ++ [hd2 l]) m := by
  have hp := h.ne h0
  have hl := h.len
  have hm := h.lm
  exact ⟨by lia, by lia, h.st.tl.app (AllStr.one _ _), by simp [tl_len]; lia, fun _ => by simp⟩
theorem RotP.up {left : Int} {l : List Value} {m : Nat} (h : RotP left l m) : RotP left l (m + 1) := ⟨h.l0, by have := h.lm; lia, h.st, h.len, h.ne⟩
theorem RotP.gp {left : Int} {l : List Value} {m : Nat} (h : RotP left l m) (h0 : 0 < left) : (0 < l.length ∧ l.length ≤ sizeLine) ∧ itemAt l 0 = shape 2 (itemAt l 0) := by
  have hp := h.ne h0
  have hl := h.len
  have := line100
  exact ⟨⟨hp, by lia⟩, h.st.head hp⟩
theorem RotP.pt {left : Int} {l : List Value} {m : Nat} (h : RotP left l m) : (Mine.tl l).length ≤ sizeLine := by
  have hl := h.len
  have := line100
  rw [tl_len]; lia
theorem rotN_step {left : Int} {l : List Value} (h : 0 < left) : rotN left.toNat l = rotN (left - 1).toNat (tl l ++ [hd2 l]) := by
  rw [show left.toNat = (left - 1).toNat + 1 by lia]
  rfl
structure FwP (i : Int) (ys l : List Value) (m : Nat) : Prop where
  i0 : 0 ≤ i
  im : (ys.length : Int) ≤ i + m
  il : i ≤ ys.length
  yl : ys.length ≤ 100
  st : AllStr ys
  len : l.length + ys.length ≤ 1000 + i.toNat
theorem line1000 : (1000 : Nat) < sizeLine := by decide
theorem FwP.item {i : Int} {ys l : List Value} {m : Nat} (h : FwP i ys l m) (hi : i.toNat < ys.length) : itemAt ys i.toNat = shape 2 (itemAt ys i.toNat) :=
  h.st _ (by have := itemAt_eq hi; exact List.mem_of_getElem? this)
theorem FwP.pt {i : Int} {ys l : List Value} {m : Nat} (h : FwP i ys l m) (hi : i.toNat < ys.length) : l.length ≤ sizeLine := by
  have := h.len; have := line1000; lia
theorem FwP.next {i : Int} {ys l : List Value} {m : Nat} (h : FwP i ys l (m + 1)) (hi : i.toNat < ys.length) : FwP (i + 1) ys (l ++ [Value.str (shS (itemAt ys i.toNat)) (shT (itemAt ys i.toNat))]) m := by
  have h0 := h.i0; have h1 := h.im; have h2 := h.len
  exact ⟨by lia, by lia, by lia, h.yl, h.st, by simp; lia⟩
theorem FwP.up {i : Int} {ys l : List Value} {m : Nat} (h : FwP i ys l m) : FwP i ys l (m + 1) := ⟨h.i0, by have := h.im; lia, h.il, h.yl, h.st, h.len⟩
theorem FwP.step {i : Int} {ys l : List Value} {m : Nat} (h : FwP i ys l m) (hi : i.toNat < ys.length) : l ++ [Value.str (shS (itemAt ys i.toNat)) (shT (itemAt ys i.toNat))] ++ ys.drop (i + 1).toNat = l ++ ys.drop i.toNat := by
  have h0 := h.i0
  have e : (i + 1).toNat = i.toNat + 1 := by lia
  have h2 : Value.str (shS (itemAt ys i.toNat)) (shT (itemAt ys i.toNat)) = itemAt ys i.toNat := (h.item hi).symm
  rw [e, h2, List.append_assoc]
  congr 1
  have h3 := itemAt_eq hi
  rw [List.getElem?_eq_getElem hi] at h3
  rw [List.drop_eq_getElem_cons hi, Option.some.inj h3]
  rfl
theorem FwP.fin {i : Int} {ys l : List Value} {m : Nat} (h : FwP i ys l m) (hi : ys.length ≤ i.toNat) : l = l ++ ys.drop i.toNat := by
  rw [List.drop_eq_nil_of_le hi, List.append_nil]
structure GmP (left : Int) (l acc : List Value) (m : Nat) : Prop where
  l0 : 0 ≤ left
  lm : left ≤ m
  ll : left ≤ l.length
  st : AllStr l
  len : l.length ≤ 1000
  al : acc.length + left.toNat ≤ 1000
theorem GmP.gp {left : Int} {l acc : List Value} {m : Nat} (h : GmP left l acc m) (h0 : 0 < left) : (0 < l.length ∧ l.length ≤ sizeLine) ∧ itemAt l 0 = shape 2 (itemAt l 0) := by
  have := h.ll; have := h.len; have := line1000
  exact ⟨⟨by lia, by lia⟩, h.st.head (by lia)⟩
theorem GmP.next {left : Int} {l acc : List Value} {m : Nat} (h : GmP left l acc (m + 1)) (h0 : 0 < left) : GmP (left - 1) (Mine.tl l) (acc ++ [hd2 l]) m := by
  have h1 := h.ll; have h2 := h.len; have h3 := h.al; have h4 := h.lm
  exact ⟨by lia, by lia, by rw [tl_len]; lia, h.st.tl, by rw [tl_len]; lia, by simp; lia⟩
theorem GmP.up {left : Int} {l acc : List Value} {m : Nat} (h : GmP left l acc m) : GmP left l acc (m + 1) := ⟨h.l0, by have := h.lm; lia, h.ll, h.st, h.len, h.al⟩
theorem GmP.ob {left : Int} {l acc : List Value} {m : Nat} (h : GmP left l acc m) : acc.length ≤ sizeLine := by
  have := h.al; have := line1000; lia
theorem GmP.step {left : Int} {l acc : List Value} {m : Nat} (h : GmP left l acc m) (h0 : 0 < left) {acc' l' : List Value}
    (z : acc' = (acc ++ [hd2 l]) ++ (Mine.tl l).take (left - 1).toNat ∧ l' = (Mine.tl l).drop (left - 1).toNat) : acc' = acc ++ l.take left.toNat ∧ l' = l.drop left.toNat := by
  obtain ⟨rfl, rfl⟩ := z
  have h1 := h.ll
  have e : left.toNat = (left - 1).toNat + 1 := by lia
  cases l with
  | nil => simp at h1; lia
  | cons v l =>
    have hv : v = .str (shS v) (shT v) := h.st v (.head _)
    have : hd2 (v :: l) = v := hv.symm
    rw [this, e]
    simp [Mine.tl]
theorem GmP.fin {left : Int} {l acc : List Value} {m : Nat} (h : GmP left l acc m) (h0 : left ≤ 0) : acc = acc ++ l.take left.toNat ∧ l = l.drop left.toNat := by
  have : left.toNat = 0 := by lia
  rw [this]; simp
noncomputable def scOf : Expr → Scope
  | .ListComp _ _ s _ => s
  | _ => default
noncomputable def compScope (sc : Scope) (env : Env) : Scope := { sc with names := sc.names.map fun (n, k) => if (k == .free && env.scope.kind == .function && env.kindOf n == some .cell) then (n, .cell) else (n, k) }
noncomputable def compEnv (e : Expr) (env : Env) (L : Addr) (cells : List (Str × Addr)) : Env := { scope := compScope (scOf e) env, locals := L, globals := env.globals, cells, qual := env.qual, func := none, code := env.code, frame := env.frame, builtins := env.builtins }
noncomputable def envFrame (e : Env) : Addr := match e.frame with
  | some a => a
  | none => 0
structure TmP (i : Int) (ys l acc : List Value) (m : Nat) : Prop where
  i0 : 0 ≤ i
  im : (ys.length : Int) ≤ i + m
  il : i ≤ ys.length
  g : GmP (ys.length - i) l acc m
  sy : AllStr ys
theorem TmP.next {i : Int} {ys l acc : List Value} {m : Nat} (h : TmP i ys l acc (m + 1)) (hi : i.toNat < ys.length) : TmP (i + 1) ys (Mine.tl l) (acc ++ [hd2 l]) m := by
  have h0 := h.i0; have h1 := h.im
  have g := h.g.next (by lia)
  rw [show (ys.length : Int) - i - 1 = ys.length - (i + 1) by lia] at g
  exact ⟨by lia, by lia, by lia, g, h.sy⟩
theorem TmP.up {i : Int} {ys l acc : List Value} {m : Nat} (h : TmP i ys l acc m) : TmP i ys l acc (m + 1) := ⟨h.i0, by have := h.im; lia, h.il, h.g.up, h.sy⟩
theorem TmP.item {i : Int} {ys l acc : List Value} {m : Nat} (h : TmP i ys l acc m) (hi : i.toNat < ys.length) : itemAt ys i.toNat = shape 2 (itemAt ys i.toNat) :=
  h.sy _ (by have := itemAt_eq hi; exact List.mem_of_getElem? this)
theorem TmP.gp {i : Int} {ys l acc : List Value} {m : Nat} (h : TmP i ys l acc m) (hi : i.toNat < ys.length) : (0 < l.length ∧ l.length ≤ sizeLine) ∧ itemAt l 0 = shape 2 (itemAt l 0) := h.g.gp (by have := h.i0; lia)
theorem TmP.step {i : Int} {ys l acc : List Value} {m : Nat} (h : TmP i ys l acc m) (hi : i.toNat < ys.length) {acc' l' : List Value}
    (z : acc' = (acc ++ [hd2 l]) ++ (Mine.tl l).take ((ys.length : Int) - (i + 1)).toNat ∧ l' = (Mine.tl l).drop ((ys.length : Int) - (i + 1)).toNat) : acc' = acc ++ l.take ((ys.length : Int) - i).toNat ∧ l' = l.drop ((ys.length : Int) - i).toNat := by
  have h0 := h.i0
  refine h.g.step (by lia) ?_
  rw [show (ys.length : Int) - i - 1 = ys.length - (i + 1) by lia]
  exact z
theorem TmP.fin {i : Int} {ys l acc : List Value} {m : Nat} (h : TmP i ys l acc m) (hi : ys.length ≤ i.toNat) : acc = acc ++ l.take ((ys.length : Int) - i).toNat ∧ l = l.drop ((ys.length : Int) - i).toNat := h.g.fin (by have := h.i0; lia)
end Mine
end
section
namespace Mine
open PySem PySem.Spec PySem.Calls PyProof.Rows PySem.W PySem.W.X PySem.Builtin PySem.Builtin.Range
noncomputable def rangeTN : Nat := 439838794355
theorem rangeT_code : S.codeS "range" = rangeTN := by rw [← S.code_S]; decide +kernel
noncomputable def rangeParts (o : Obj) : Option (Int × Int × Int) := match o with
  | ⟨c, dc, dt, sl⟩ => match c with
    | .type n => match Nat.beq (S.codeS n) rangeTN with
      | false => none
      | true => match dc with
        | some _ => none
        | none => match sl.toList with
          | _ :: _ => none
          | [] => match dt with
            | .fields xs => match xs.toList with
              | [.int a _, .int b _, .int c _] => some (a, b, c)
              | _ => none
            | _ => none
    | _ => none
theorem rangeParts_is {o : Obj} {a b c : Int} (e : rangeParts o = some (a, b, c)) : ∃ t u v, o = { cls := .type "range", dict := none, data := .fields #[.int a t, .int b u, .int c v], slots := #[] } := by
  obtain ⟨cl, dc, dt, sl⟩ := o
  unfold rangeParts at e
  dsimp only at e
  split at e
  · rename_i n
    split at e
    · cases e
    · rename_i hn
      have hn := Nat.eq_of_beq_eq_true hn
      rw [← rangeT_code] at hn
      have hn := codeS_inj hn
      subst hn
      split at e
      · cases e
      · split at e
        · cases e
        · rename_i hs
          have hs : sl = #[] := Array.ext' hs
          subst hs
          split at e
          · rename_i xs
            split at e
            · rename_i a' t b' u c' v hx
              cases e
              refine ⟨t, u, v, ?_⟩
              have hx : xs = #[.int a t, .int b u, .int c v] := Array.ext' hx
              rw [hx]
            · cases e
          · cases e
  · cases e
noncomputable def rlen (a b : Int) : Int := if a < b then b - a else 0
theorem rlen_size (a b : Int) : rangeSize a b 1 = rlen a b := by
  unfold rangeSize rlen
  rw [if_pos (by decide)]
  split
  · rw [Int.ediv_one]; lia
  · rfl
noncomputable def riterF (args : List Value) (V : View) (hs : List Nat) (K : Result → View → List Nat → VC) : VC := match args with
  | [.ref a] => match hs with
    | [] => .ff
    | i :: hs => match nth V i with
      | none => .ff
      | some p => match rangeParts p.2 with
        | none => .ff
        | some q => match q with
          | (x, y, z) => .eq a p.1 <| .ob ((z = 1 ∧ (-(2 ^ 62) ≤ x ∧ x < 2 ^ 62) ∧ -(2 ^ 62) ≤ y ∧ y < 2 ^ 62)) <| .al fun a' => K (.ok (.ret (.ref a'))) ((a', { cls := .type "range_iterator", data := .fields ⟨[.int x 0, .int (rlen x y) 0, .int 1 0]⟩ }) :: V) hs
  | _ => .ff
noncomputable def riterC (B : Bs) : BCut B where
  id := "range.__iter__"
  code := 1954752940192971970453299505619571
  d := 0
  f := riterF
  hid := by rw [← S.code_S]; decide +kernel
  ok := by
    intro args V hs K h A s _ D
    unfold riterF at h
    split at h
    · rename_i a
      split at h
      · cases h
      · rename_i i hs
        split at h
        · cases h
        · rename_i p hp
          split at h
          · cases h
          · rename_i q hq
            split at h
            rename_i x y z
            obtain ⟨rfl, ⟨rfl, ⟨h1, h2⟩, h3, h4⟩, h⟩ := h
            rw [nth_eq] at hp
            have ho := D.has _ (List.mem_of_getElem? hp)
            obtain ⟨t, u, v, e⟩ := rangeParts_is hq
            rw [e] at ho
            have hl : rlen x y ≤ 2 ^ 63 - 1 ∧ 0 ≤ rlen x y := by unfold rlen; split <;> lia
            have hsm : (rangeFitsLong x && rangeFitsLong y && rangeFitsLong 1 && rangeFitsLong (rangeSize x y 1) && (rangeSize x y 1 == 0 || if (1 : Int) > 0 then rangeFitsLong (y + (1 - 1)) else rangeFitsLong (y + (1 + 1)))) = true := by
              rw [rlen_size, if_pos (by decide)]
              unfold rangeFitsLong
              simp only [Bool.and_eq_true, Bool.or_eq_true, decide_eq_true_eq]
              refine ⟨⟨⟨⟨⟨by lia, by lia⟩, by lia, by lia⟩, by lia, by lia⟩, by lia, by lia⟩, .inr ⟨by lia, by lia⟩⟩
            refine codeAny_builtin (b := Builtin.«range.__iter__») (entryFor_of_tree (by kernel_rfl)) ?_
            rw [Around.under_plainId (by decide +kernel)]
            refine AutoRange.range___iter___range_1 p.1 x y 1 t u v (by rw [hsm]; simp) _ _ _ (fun r s' => AK B V s K r s') s ⟨ho, ?_⟩
            rw [if_pos hsm, rlen_size]
            have z := D.alloc (o := { cls := .type "range_iterator", data := .fields ⟨[.int x 0, .int (rlen x y) 0, .int 1 0]⟩ }) rfl
            exact ⟨_, hs, h s.heap.objs.size, z.1.toks' _, z.2.trans (ext_toks' _)⟩
    · cases h
end Mine
end
section

namespace Mine
open PySem PySem.Spec PySem.Calls PyProof.Rows PySem.W PySem.W.X PySem.Builtin.Str
noncomputable def s_number : Str := ⟨#[110, 117, 109, 98, 101, 114]⟩
noncomputable def s_words : Str := ⟨#[119, 111, 114, 100, 115]⟩
noncomputable def s_line : Str := ⟨#[108, 105, 110, 101]⟩
noncomputable def s_k : Str := ⟨#[107]⟩
noncomputable def s_back : Str := ⟨#[98, 97, 99, 107]⟩
noncomputable def s_turn : Str := ⟨#[116, 117, 114, 110]⟩
noncomputable def s_mail : Str := ⟨#[109, 97, 105, 108]⟩
noncomputable def s_word : Str := ⟨#[119, 111, 114, 100]⟩
noncomputable def stdG (B : Bs) : List (BCut B) := stdF B ++ [riterC B]
noncomputable def dlEnv (w : World) (L cl : Addr) : Env := envF w 144 L ⟨#[95, 108, 97, 119, 95, 100, 101, 97, 108, 116, 46, 60, 108, 111, 99, 97, 108, 115, 62, 46]⟩ [(s_line, cl)]
noncomputable def dlS (w : World) (p : List Nat) : Stmt := pathS (stmtsOf (fdAt w 144)) p
noncomputable def envCell (i : Nat) (e : Env) : Addr := match e.cells.drop i with
  | p :: _ => p.2
  | [] => 0
noncomputable def S_rotT (W : Wd) (m : Nat) : Sp (BB W) :=
  let B := BB W
  let pr := fun q : Lt => [((q.a 0),frameO [kv B s_number (q.t 0) (q.v 0),kv B s_words (q.t 1) (q.v 1),kv B s_k (q.t 2) (q.v 2),kv B s_back (q.t 3) (q.v 3),kv B s_turn (q.t 4) (q.v 4)] 5),((q.a 1),cellO (.ref (q.a 3))),((q.a 2),fieldsO tRG [(.int (q.i 0) (q.t 5)),(.int (q.i 1) (q.t 6)),(.int 1 (q.t 7))])]++lxQ W q 3 8 2 5 0 0
  { d := 60
    c := fun q => forC (dlS W.w [2, 0, 1]) (q.a 2) (dlEnv W.w (q.a 0) (q.a 1))
    P := fun q => RotP (q.i 1) (q.l 0) m
    pre := pr
    R := fun q e => (e.l 0) = rotN (q.i 1).toNat (q.l 0)
    res := fun q e => .ok .next
    out := fun q e => [((q.a 0),frameO [kv B s_number (q.t 0) (q.v 0),kv B s_words (q.t 1) (q.v 1),kv B s_k (q.t 2) (q.v 2),kv B s_back (q.t 3) (q.v 3),kv B s_turn (q.t 4) (e.v 0)] 5),((q.a 1),cellO (.ref (q.a 3))),((q.a 3),instO 69 (q.a 4)),((q.a 4),dictO [kv B s_lineno (q.t 8) (.int (q.i 2) (q.t 9)),kv B s_instream (q.t 10) (.ref (q.a 5)),kv B s_whitespace (q.t 11) (.str s_ws (q.t 12)),kv B s_pushback (q.t 13) (.ref (q.a 6))] 4),((q.a 6),listO (e.l 0) (e.t 0))]++(pr q).drop 6 }
noncomputable def on_rotT : Code → View → Lt := fun c V => lt ([(cEnv c).locals,envCell 0 (cEnv c),valA (cIt c),cA V 1]++xA V 3) ([kT V 0 0,kT V 0 1,kT V 0 2,kT V 0 3,kT V 0 4,qT V 2 0,qT V 2 1,qT V 2 2]++xT V 4) [qI V 2 0,qI V 2 1,dI V 4 0,qI V 12 0] [valS (cellV (nthO V 10))] [dV V 0 0,dV V 0 1,dV V 0 2,dV V 0 3,dV V 0 4,nthV (sQ V 9) 0] [sQ V 5,dropV 2 (sQ V 9)] [fdO (nthO V 6)]
theorem rotT_end (W : Wd) (O : (BB W).Ok) (m : Nat) (q : Lt) (hq : (S_rotT W m).P q) (hl : (q.i 1) ≤ 0) : At (S_rotT W m) 60 q := by
  refine tri_f O (stdG _) [] 2000 60 (hs := [0,3,0,3,6,0,3,3,3,1,0]) (is := hx 12 0xc30c30c30c30c3082)
    (fun (ρ : Rho) => ob hl <| fin (S_rotT W m) q (lt [] [q.2 14] [] [] [q.5 4] [q.6 0] []) ((by show _ = rotN _ _; rw [show ((q.i 1)).toNat = 0 by lia]; rfl)) :) ?_
  induction W using y_0 <;> kernel_rfl
theorem rotT_step (W : Wd) (O : (BB W).Ok) (m : Nat) (ih : (S_rotT W m).Ok) (q : Lt) (hq : (S_rotT W (m + 1)).P q) (hl : 0 < (q.i 1)) : At (S_rotT W (m + 1)) 60 q := by
  refine tri_f O (stdG _) [U (S_gpL W) (gpL_ok W O) on_gpL,U (S_pt W) (pt_ok W O) on_pt,U (S_rotT W m) ih on_rotT] 2000 60 (hs := hx 91 0xa28a3420c000000000000000a0430030c30c30c30c30ca0030051000000040000040000040851000000040000040000040810430c30c30c30460c00c0) (is := hx 12 0x0)
    (fun (ρ : Rho) => ob hl <| ob (RotP.gp hq hl) <| fun _ : True => ob (RotP.pt hq) <| fun _ : True => ob (RotP.next hq hl) <| fun he2 : ((ρ.2 2).l 0) = rotN (q.i 1 - 1 : Int).toNat (tl (q.l 0)++[Value.str (shS (itemAt (q.l 0) 0)) (shT (itemAt (q.l 0) 0))]) => fin (S_rotT W (m + 1)) q (lt [] [(ρ.2 2).2 0] [] [] [(ρ.2 2).5 0] [(ρ.2 2).6 0] []) ((by have z : _ = _ := he2; exact z.trans (rotN_step hl).symm)) :) ?_
  induction W using y_0 <;> kernel_rfl
theorem rotT_ok (W : Wd) (O : (BB W).Ok) : ∀ m, (S_rotT W m).Ok
  | 0 => fun q hq => rotT_end W O 0 q hq (by have h : RotP _ _ _ := hq; have := h.lm; lia)
  | m + 1 => fun q hq => by
    by_cases hl : (q.i 1) ≤ 0
    · exact rotT_end W O (m + 1) q hq hl
    · exact rotT_step W O m (rotT_ok W O m) q hq (by lia)
noncomputable def S_rotW (W : Wd) (sh : Bool) (m : Nat) : Sp (BB W) :=
  let B := BB W
  let pr := fun q : Lt => [((q.a 0),frameO (p_mw sh [kv B s_number (q.t 0) (q.v 0),kv B s_words (q.t 1) (q.v 1),kv B s_k (q.t 2) (q.v 2),kv B s_back (q.t 3) (q.v 3),kv B s_turn (q.t 4) (q.v 4),kv B s_mail (q.t 5) (q.v 5),kv B s_word (q.t 6) (q.v 6)]) 7),((q.a 1),cellO (.ref (q.a 3))),((q.a 2),fieldsO tRG [(.int (q.i 0) (q.t 7)),(.int (q.i 1) (q.t 8)),(.int 1 (q.t 9))])]++lxQ W q 3 10 2 7 0 0
  { d := 60
    c := fun q => forC (dlS W.w [2, 0, 1]) (q.a 2) (dlEnv W.w (q.a 0) (q.a 1))
    P := fun q => RotP (q.i 1) (q.l 0) m
    pre := pr
    R := fun q e => (e.l 0) = rotN (q.i 1).toNat (q.l 0)
    res := fun q e => .ok .next
    out := fun q e => [((q.a 0),frameO (p_mw sh [kv B s_number (q.t 0) (q.v 0),kv B s_words (q.t 1) (q.v 1),kv B s_k (q.t 2) (q.v 2),kv B s_back (q.t 3) (q.v 3),kv B s_turn (q.t 4) (e.v 0),kv B s_mail (q.t 5) (q.v 5),kv B s_word (q.t 6) (q.v 6)]) 7),((q.a 1),cellO (.ref (q.a 3))),((q.a 3),instO 69 (q.a 4)),((q.a 4),dictO [kv B s_lineno (q.t 10) (.int (q.i 2) (q.t 11)),kv B s_instream (q.t 12) (.ref (q.a 5)),kv B s_whitespace (q.t 13) (.str s_ws (q.t 14)),kv B s_pushback (q.t 15) (.ref (q.a 6))] 4),((q.a 6),listO (e.l 0) (e.t 0))]++(pr q).drop 6 }
noncomputable def on_rotW (sh : Bool) : Code → View → Lt := fun c V => lt ([(cEnv c).locals,envCell 0 (cEnv c),valA (cIt c),cA V 1]++xA V 3) ([kT V 0 0,kT V 0 1,kT V 0 2,kT V 0 3,dictKT (nthO V 0) (i_mw sh 4),dictKT (nthO V 0) (i_mw sh 5),dictKT (nthO V 0) (i_mw sh 6),qT V 2 0,qT V 2 1,qT V 2 2]++xT V 4) [qI V 2 0,qI V 2 1,dI V 4 0,qI V 12 0] [valS (cellV (nthO V 10))] [dV V 0 0,dV V 0 1,dV V 0 2,dV V 0 3,dictVal (nthO V 0) (i_mw sh 4),dictVal (nthO V 0) (i_mw sh 5),dictVal (nthO V 0) (i_mw sh 6),nthV (sQ V 9) 0] [sQ V 5,dropV 2 (sQ V 9)] [fdO (nthO V 6)]
theorem rotW_end (W : Wd) (O : (BB W).Ok) (sh : Bool) (m : Nat) (q : Lt) (hq : (S_rotW W sh m).P q) (hl : (q.i 1) ≤ 0) : At (S_rotW W sh m) 60 q := by
  refine tri_f O (stdG _) [] 2000 60 (hs := [0,3,0,3,6,0,3,3,3,1,0]) (is := hx 12 0xc30c30c30c30c3082)
    (fun (ρ : Rho) => ob hl <| fin (S_rotW W sh m) q (lt [] [q.2 16] [] [] [q.5 4] [q.6 0] []) ((by show _ = rotN _ _; rw [show ((q.i 1)).toNat = 0 by lia]; rfl)) :) ?_
  induction W, sh using y_1 <;> kernel_rfl
theorem rotW_step (W : Wd) (O : (BB W).Ok) (sh : Bool) (m : Nat) (ih : (S_rotW W sh m).Ok) (q : Lt) (hq : (S_rotW W sh (m + 1)).P q) (hl : 0 < (q.i 1)) : At (S_rotW W sh (m + 1)) 60 q := by
  refine tri_f O (stdG _) [U (S_gpL W) (gpL_ok W O) on_gpL,U (S_pt W) (pt_ok W O) on_pt,⟨(S_rotW W sh m).con ih,(on_rotW sh),fun _ => false,[],[]⟩] 2000 60 (hs := hx 91 0xa28a3420c000000000000000a0430030c30c30c30c30ca0030051000000040000040000040851000000040000040000040810430c30c30c30460c00c0) (is := hx 12 0x0)
    (fun (ρ : Rho) => ob hl <| ob (RotP.gp hq hl) <| fun _ : True => ob (RotP.pt hq) <| fun _ : True => ob (RotP.next hq hl) <| fun he2 : ((ρ.2 2).l 0) = rotN (q.i 1 - 1 : Int).toNat (tl (q.l 0)++[Value.str (shS (itemAt (q.l 0) 0)) (shT (itemAt (q.l 0) 0))]) => fin (S_rotW W sh (m + 1)) q (lt [] [(ρ.2 2).2 0] [] [] [(ρ.2 2).5 0] [(ρ.2 2).6 0] []) ((by have z : _ = _ := he2; exact z.trans (rotN_step hl).symm)) :) ?_
  induction W, sh using y_1 <;> kernel_rfl
theorem rotW_ok (W : Wd) (O : (BB W).Ok) (sh : Bool) : ∀ m, (S_rotW W sh m).Ok
  | 0 => fun q hq => rotW_end W O sh 0 q hq (by have h : RotP _ _ _ := hq; have := h.lm; lia)
  | m + 1 => fun q hq => by
    by_cases hl : (q.i 1) ≤ 0
    · exact rotW_end W O sh (m + 1) q hq hl
    · exact rotW_step W O sh m (rotW_ok W O sh m) q hq (by lia)
noncomputable def S_rot0 (W : Wd) (m : Nat) : Sp (BB W) :=
  let B := BB W
  let pr := fun q : Lt => [((q.a 0),frameO [kv B s_number (q.t 0) (q.v 0),kv B s_words (q.t 1) (q.v 1),kv B s_k (q.t 2) (q.v 2),kv B s_back (q.t 3) (q.v 3)] 4),((q.a 1),cellO (.ref (q.a 3))),((q.a 2),fieldsO tRG [(.int (q.i 0) (q.t 4)),(.int (q.i 1) (q.t 5)),(.int 1 (q.t 6))])]++lxQ W q 3 7 2 4 0 0
  { d := 60
    c := fun q => forC (dlS W.w [2, 0, 1]) (q.a 2) (dlEnv W.w (q.a 0) (q.a 1))
    P := fun q => RotP (q.i 1) (q.l 0) m ∧ (q.i 1) ≤ 0
    pre := pr
    R := fun q e => (e.l 0) = rotN (q.i 1).toNat (q.l 0)
    res := fun q e => .ok .next
    out := fun q e => [((q.a 0),frameO [kv B s_number (q.t 0) (q.v 0),kv B s_words (q.t 1) (q.v 1),kv B s_k (q.t 2) (q.v 2),kv B s_back (q.t 3) (q.v 3)] 4),((q.a 1),cellO (.ref (q.a 3))),((q.a 3),instO 69 (q.a 4)),((q.a 4),dictO [kv B s_lineno (q.t 7) (.int (q.i 2) (q.t 8)),kv B s_instream (q.t 9) (.ref (q.a 5)),kv B s_whitespace (q.t 10) (.str s_ws (q.t 11)),kv B s_pushback (q.t 12) (.ref (q.a 6))] 4),((q.a 6),listO (e.l 0) (e.t 0))]++(pr q).drop 6 }
noncomputable def on_rot0 : Code → View → Lt := fun c V => lt ([(cEnv c).locals,envCell 0 (cEnv c),valA (cIt c),cA V 1]++xA V 3) ([kT V 0 0,kT V 0 1,kT V 0 2,kT V 0 3,qT V 2 0,qT V 2 1,qT V 2 2]++xT V 4) [qI V 2 0,qI V 2 1,dI V 4 0,qI V 12 0] [valS (cellV (nthO V 10))] [dV V 0 0,dV V 0 1,dV V 0 2,dV V 0 3,nthV (sQ V 9) 0] [sQ V 5,dropV 2 (sQ V 9)] [fdO (nthO V 6)]
theorem rot0_run (W : Wd) (O : (BB W).Ok) (m : Nat) (q : Lt) (hq : (S_rot0 W m).P q) : At (S_rot0 W m) 60 q := by
  refine tri_f O (stdG _) [] 2000 60 (hs := [0,3,0,3,6,0,3,3,3,1,0]) (is := hx 12 0xc30c30c30c30c3082)
    (fun (ρ : Rho) => ob hq.2 <| fin (S_rot0 W m) q (lt [] [q.2 13] [] [] [] [q.6 0] []) ((by show _ = rotN _ _; rw [show ((q.i 1)).toNat = 0 by have := hq.2; lia]; rfl)) :) ?_
  induction W using y_0 <;> kernel_rfl
noncomputable def S_rot1 (W : Wd) (m : Nat) : Sp (BB W) :=
  let B := BB W
  let pr := fun q : Lt => [((q.a 0),frameO [kv B s_number (q.t 0) (q.v 0),kv B s_words (q.t 1) (q.v 1),kv B s_k (q.t 2) (q.v 2),kv B s_back (q.t 3) (q.v 3)] 4),((q.a 1),cellO (.ref (q.a 3))),((q.a 2),fieldsO tRG [(.int (q.i 0) (q.t 4)),(.int (q.i 1) (q.t 5)),(.int 1 (q.t 6))])]++lxQ W q 3 7 2 4 0 0
  { d := 60
    c := fun q => forC (dlS W.w [2, 0, 1]) (q.a 2) (dlEnv W.w (q.a 0) (q.a 1))
    P := fun q => RotP (q.i 1) (q.l 0) m ∧ 0 < (q.i 1)
    pre := pr
    R := fun q e => (e.l 0) = rotN (q.i 1).toNat (q.l 0)
    res := fun q e => .ok .next
    out := fun q e => [((q.a 0),frameO [kv B s_number (q.t 0) (q.v 0),kv B s_words (q.t 1) (q.v 1),kv B s_k (q.t 2) (q.v 2),kv B s_back (q.t 3) (q.v 3),kv B s_turn (e.t 0) (e.v 0)] 5),((q.a 1),cellO (.ref (q.a 3))),((q.a 3),instO 69 (q.a 4)),((q.a 4),dictO [kv B s_lineno (q.t 7) (.int (q.i 2) (q.t 8)),kv B s_instream (q.t 9) (.ref (q.a 5)),kv B s_whitespace (q.t 10) (.str s_ws (q.t 11)),kv B s_pushback (q.t 12) (.ref (q.a 6))] 4),((q.a 6),listO (e.l 0) (e.t 1))]++(pr q).drop 6 }
noncomputable def on_rot1 : Code → View → Lt := fun c V => lt ([(cEnv c).locals,envCell 0 (cEnv c),valA (cIt c),cA V 1]++xA V 3) ([kT V 0 0,kT V 0 1,kT V 0 2,kT V 0 3,qT V 2 0,qT V 2 1,qT V 2 2]++xT V 4) [qI V 2 0,qI V 2 1,dI V 4 0,qI V 12 0] [valS (cellV (nthO V 10))] [dV V 0 0,dV V 0 1,dV V 0 2,dV V 0 3,nthV (sQ V 9) 0] [sQ V 5,dropV 2 (sQ V 9)] [fdO (nthO V 6)]
theorem rot1_run (W : Wd) (O : (BB W).Ok) (m : Nat) (q : Lt) (hq : (S_rot1 W m).P q) : At (S_rot1 W m) 60 q := by
  refine tri_f O (stdG _) [U (S_gpL W) (gpL_ok W O) on_gpL,U (S_pt W) (pt_ok W O) on_pt,U (S_rotT W m) (rotT_ok W O m) on_rotT] 2000 60 (hs := hx 91 0xa28a3420c000000000000000a0430030c30c30c30c30ca0030051000000040000040000040851000000040000040000040810430c30c30c30460c00c0) (is := hx 12 0x0)
    (fun (ρ : Rho) => ob hq.2 <| ob (RotP.gp hq.1 hq.2) <| fun _ : True => ob (RotP.pt hq.1) <| fun _ : True => ob (RotP.next hq.1.up hq.2) <| fun he2 : ((ρ.2 2).l 0) = rotN (q.i 1 - 1 : Int).toNat (tl (q.l 0)++[Value.str (shS (itemAt (q.l 0) 0)) (shT (itemAt (q.l 0) 0))]) => fin (S_rot1 W m) q (lt [] [ρ.1 1,(ρ.2 2).2 0] [] [] [(ρ.2 2).5 0] [(ρ.2 2).6 0] []) ((by have z : _ = _ := he2; exact z.trans (rotN_step hq.2).symm)) :) ?_
  induction W using y_0 <;> kernel_rfl
noncomputable def S_rot0MW (W : Wd) (m : Nat) : Sp (BB W) :=
  let B := BB W
  let pr := fun q : Lt => [((q.a 0),frameO [kv B s_number (q.t 0) (q.v 0),kv B s_words (q.t 1) (q.v 1),kv B s_k (q.t 2) (q.v 2),kv B s_back (q.t 3) (q.v 3),kv B s_mail (q.t 4) (q.v 4),kv B s_word (q.t 5) (q.v 5)] 6),((q.a 1),cellO (.ref (q.a 3))),((q.a 2),fieldsO tRG [(.int (q.i 0) (q.t 6)),(.int (q.i 1) (q.t 7)),(.int 1 (q.t 8))])]++lxQ W q 3 9 2 6 0 0
  { d := 60
    c := fun q => forC (dlS W.w [2, 0, 1]) (q.a 2) (dlEnv W.w (q.a 0) (q.a 1))
    P := fun q => RotP (q.i 1) (q.l 0) m ∧ (q.i 1) ≤ 0
    pre := pr
    R := fun q e => (e.l 0) = rotN (q.i 1).toNat (q.l 0)
    res := fun q e => .ok .next
    out := fun q e => [((q.a 0),frameO [kv B s_number (q.t 0) (q.v 0),kv B s_words (q.t 1) (q.v 1),kv B s_k (q.t 2) (q.v 2),kv B s_back (q.t 3) (q.v 3),kv B s_mail (q.t 4) (q.v 4),kv B s_word (q.t 5) (q.v 5)] 6),((q.a 1),cellO (.ref (q.a 3))),((q.a 3),instO 69 (q.a 4)),((q.a 4),dictO [kv B s_lineno (q.t 9) (.int (q.i 2) (q.t 10)),kv B s_instream (q.t 11) (.ref (q.a 5)),kv B s_whitespace (q.t 12) (.str s_ws (q.t 13)),kv B s_pushback (q.t 14) (.ref (q.a 6))] 4),((q.a 6),listO (e.l 0) (e.t 0))]++(pr q).drop 6 }
noncomputable def on_rot0MW : Code → View → Lt := fun c V => lt ([(cEnv c).locals,envCell 0 (cEnv c),valA (cIt c),cA V 1]++xA V 3) ([kT V 0 0,kT V 0 1,kT V 0 2,kT V 0 3,kT V 0 4,kT V 0 5,qT V 2 0,qT V 2 1,qT V 2 2]++xT V 4) [qI V 2 0,qI V 2 1,dI V 4 0,qI V 12 0] [valS (cellV (nthO V 10))] [dV V 0 0,dV V 0 1,dV V 0 2,dV V 0 3,dV V 0 4,dV V 0 5,nthV (sQ V 9) 0] [sQ V 5,dropV 2 (sQ V 9)] [fdO (nthO V 6)]
theorem rot0MW_run (W : Wd) (O : (BB W).Ok) (m : Nat) (q : Lt) (hq : (S_rot0MW W m).P q) : At (S_rot0MW W m) 60 q := by
  refine tri_f O (stdG _) [] 2000 60 (hs := [0,3,0,3,6,0,3,3,3,1,0]) (is := hx 12 0xc30c30c30c30c3082)
    (fun (ρ : Rho) => ob hq.2 <| fin (S_rot0MW W m) q (lt [] [q.2 15] [] [] [] [q.6 0] []) ((by show _ = rotN _ _; rw [show ((q.i 1)).toNat = 0 by have := hq.2; lia]; rfl)) :) ?_
  induction W using y_0 <;> kernel_rfl
noncomputable def S_rot1MW (W : Wd) (m : Nat) : Sp (BB W) :=
  let B := BB W
  let pr := fun q : Lt => [((q.a 0),frameO [kv B s_number (q.t 0) (q.v 0),kv B s_words (q.t 1) (q.v 1),kv B s_k (q.t 2) (q.v 2),kv B s_back (q.t 3) (q.v 3),kv B s_mail (q.t 4) (q.v 4),kv B s_word (q.t 5) (q.v 5)] 6),((q.a 1),cellO (.ref (q.a 3))),((q.a 2),fieldsO tRG [(.int (q.i 0) (q.t 6)),(.int (q.i 1) (q.t 7)),(.int 1 (q.t 8))])]++lxQ W q 3 9 2 6 0 0
  { d := 60
    c := fun q => forC (dlS W.w [2, 0, 1]) (q.a 2) (dlEnv W.w (q.a 0) (q.a 1))
    P := fun q => RotP (q.i 1) (q.l 0) m ∧ 0 < (q.i 1)
    pre := pr
    R := fun q e => (e.l 0) = rotN (q.i 1).toNat (q.l 0)
    res := fun q e => .ok .next
    out := fun q e => [((q.a 0),frameO [kv B s_number (q.t 0) (q.v 0),kv B s_words (q.t 1) (q.v 1),kv B s_k (q.t 2) (q.v 2),kv B s_back (q.t 3) (q.v 3),kv B s_mail (q.t 4) (q.v 4),kv B s_word (q.t 5) (q.v 5),kv B s_turn (e.t 0) (e.v 0)] 7),((q.a 1),cellO (.ref (q.a 3))),((q.a 3),instO 69 (q.a 4)),((q.a 4),dictO [kv B s_lineno (q.t 9) (.int (q.i 2) (q.t 10)),kv B s_instream (q.t 11) (.ref (q.a 5)),kv B s_whitespace (q.t 12) (.str s_ws (q.t 13)),kv B s_pushback (q.t 14) (.ref (q.a 6))] 4),((q.a 6),listO (e.l 0) (e.t 1))]++(pr q).drop 6 }
noncomputable def on_rot1MW : Code → View → Lt := fun c V => lt ([(cEnv c).locals,envCell 0 (cEnv c),valA (cIt c),cA V 1]++xA V 3) ([kT V 0 0,kT V 0 1,kT V 0 2,kT V 0 3,kT V 0 4,kT V 0 5,qT V 2 0,qT V 2 1,qT V 2 2]++xT V 4) [qI V 2 0,qI V 2 1,dI V 4 0,qI V 12 0] [valS (cellV (nthO V 10))] [dV V 0 0,dV V 0 1,dV V 0 2,dV V 0 3,dV V 0 4,dV V 0 5,nthV (sQ V 9) 0] [sQ V 5,dropV 2 (sQ V 9)] [fdO (nthO V 6)]
theorem rot1MW_run (W : Wd) (O : (BB W).Ok) (m : Nat) (q : Lt) (hq : (S_rot1MW W m).P q) : At (S_rot1MW W m) 60 q := by
  refine tri_f O (stdG _) [U (S_gpL W) (gpL_ok W O) on_gpL,U (S_pt W) (pt_ok W O) on_pt,⟨(S_rotW W false m).con (rotW_ok W O false m),(on_rotW false),fun _ => false,[],[]⟩] 2000 60 (hs := hx 91 0xa28a3420c000000000000000a0430030c30c30c30c30ca0030051000000040000040000040851000000040000040000040810430c30c30c30460c00c0) (is := hx 12 0x0)
    (fun (ρ : Rho) => ob hq.2 <| ob (RotP.gp hq.1 hq.2) <| fun _ : True => ob (RotP.pt hq.1) <| fun _ : True => ob (RotP.next hq.1.up hq.2) <| fun he2 : ((ρ.2 2).l 0) = rotN (q.i 1 - 1 : Int).toNat (tl (q.l 0)++[Value.str (shS (itemAt (q.l 0) 0)) (shT (itemAt (q.l 0) 0))]) => fin (S_rot1MW W m) q (lt [] [ρ.1 1,(ρ.2 2).2 0] [] [] [(ρ.2 2).5 0] [(ρ.2 2).6 0] []) ((by have z : _ = _ := he2; exact z.trans (rotN_step hq.2).symm)) :) ?_
  induction W using y_0 <;> kernel_rfl
end Mine
end
section

namespace Mine
open PySem PySem.Spec PySem.Calls PyProof.Rows PySem.W PySem.W.X PySem.Builtin.Str
noncomputable def S_fwMW (W : Wd) (m : Nat) : Sp (BB W) :=
  let B := BB W
  let pr := fun q : Lt => [((q.a 0),frameO [kv B s_number (q.t 0) (q.v 0),kv B s_words (q.t 1) (q.v 1),kv B s_k (q.t 2) (q.v 2),kv B s_back (q.t 3) (q.v 3),kv B s_mail (q.t 4) (q.v 4),kv B s_word (q.t 5) (q.v 5)] 6),((q.a 1),cellO (.ref (q.a 3))),((q.a 2),fieldsO tLI [(.ref (q.a 4)),(.int (q.i 0) (q.t 6))]),((q.a 4),listO (q.l 0) (q.t 7))]++lxV W (q.a 3) (q.a 5) (q.t 8) (q.i 1) (q.t 9) (q.t 10) (q.a 6) (q.t 11) (q.t 12) (q.t 13) (q.a 7) (q.l 1) (q.t 14) (q.f 0) (q.a 8) (q.t 15) (q.a 9) (q.a 10) (q.a 11) (q.a 12) (q.a 13) (q.t 16) (q.v 6) (q.l 2) (q.s 0) (q.t 17) (q.a 14) (q.i 2) (q.t 18)
  { d := 60
    c := fun q => forC (dlS W.w [2, 0, 3, 0, 1]) (q.a 2) (dlEnv W.w (q.a 0) (q.a 1))
    P := fun q => FwP (q.i 0) (q.l 0) (q.l 1) m
    pre := pr
    R := fun q e => (e.l 0) = (q.l 1) ++ (q.l 0).drop (q.i 0).toNat
    res := fun q e => .ok .next
    out := fun q e => [((q.a 0),frameO [kv B s_number (q.t 0) (q.v 0),kv B s_words (q.t 1) (q.v 1),kv B s_k (q.t 2) (q.v 2),kv B s_back (q.t 3) (q.v 3),kv B s_mail (q.t 4) (q.v 4),kv B s_word (q.t 5) (e.v 0)] 6),((q.a 1),cellO (.ref (q.a 3))),((q.a 3),instO 69 (q.a 5)),((q.a 5),dictO [kv B s_lineno (q.t 8) (.int (q.i 1) (q.t 9)),kv B s_instream (q.t 10) (.ref (q.a 6)),kv B s_whitespace (q.t 11) (.str s_ws (q.t 12)),kv B s_pushback (q.t 13) (.ref (q.a 7))] 4),((q.a 7),listO (e.l 0) (e.t 0))]++(pr q).drop 7 }
noncomputable def on_fwMW : Code → View → Lt := fun c V => lt ([(cEnv c).locals,envCell 0 (cEnv c),valA (cIt c),cA V 1,valA (nthV (sQ V 2) 0)]++xA V 4) ([kT V 0 0,kT V 0 1,kT V 0 2,kT V 0 3,kT V 0 4,kT V 0 5,qT V 2 1,eP V 3]++xT V 5) [qI V 2 1,dI V 5 0,qI V 13 0] [valS (cellV (nthO V 11))] [dV V 0 0,dV V 0 1,dV V 0 2,dV V 0 3,dV V 0 4,dV V 0 5,nthV (sQ V 10) 0] [sQ V 3,sQ V 6,dropV 2 (sQ V 10)] [fdO (nthO V 7)]
theorem fwMW_end (W : Wd) (O : (BB W).Ok) (m : Nat) (q : Lt) (hq : (S_fwMW W m).P q) (hl : ((q.l 0)).length ≤ ((q.i 0)).toNat) : At (S_fwMW W m) 60 q := by
  refine tri_f O (stdG _) [] 2000 60 (hs := hx 13 0x430c40c30050c00c0) (is := hx 12 0x104104104104104082)
    (fun (ρ : Rho) => ob hl <| fin (S_fwMW W m) q (lt [] [q.2 14] [] [] [(q.v 5)] [(q.l 1)] []) (FwP.fin hq hl) :) ?_
  induction W using y_0 <;> kernel_rfl
theorem fwMW_step (W : Wd) (O : (BB W).Ok) (m : Nat) (ih : (S_fwMW W m).Ok) (q : Lt) (hq : (S_fwMW W (m + 1)).P q) (hl : ((q.i 0)).toNat < ((q.l 0)).length) : At (S_fwMW W (m + 1)) 60 q := by
  refine tri_f O (stdG _) [U (S_pt W) (pt_ok W O) on_pt,U (S_fwMW W m) ih on_fwMW] 2000 60 (hs := hx 61 0xa28a28e0431041041041041042800c00461400000050000050000050810430c40c30c50c00c0) (is := hx 12 0x0)
    (fun (ρ : Rho) => let z0 := itemAt (q.l 0) (Int.toNat (q.i 0)); ob (A := (risD (It.mk (Value.ref (q.a 2)) (q.i 0) (0 : Int) (0 : Int) (Array.mk (q.l 0))) (3))) (⟨FwP.item hq hl,hl⟩) <| ob (FwP.pt hq hl) <| fun _ : True => ob (FwP.next hq hl) <| fun he1 : ((ρ.2 1).l 0) = (q.l 1++[Value.str (shS z0) (shT z0)])++(q.l 0).drop (q.i 0 + 1 : Int).toNat => fin (S_fwMW W (m + 1)) q (lt [] [(ρ.2 1).2 0] [] [] [(ρ.2 1).5 0] [(ρ.2 1).6 0] []) ((by have z : _ = _ := he1; exact z.trans (FwP.step hq hl))) :) ?_
  induction W using y_0 <;> kernel_rfl
theorem fwMW_ok (W : Wd) (O : (BB W).Ok) : ∀ m, (S_fwMW W m).Ok
  | 0 => fun q hq => fwMW_end W O 0 q hq (by have h : FwP _ _ _ _ := hq; have := h.im; have := h.i0; lia)
  | m + 1 => fun q hq => by
    by_cases hl : ((q.l 0)).length ≤ ((q.i 0)).toNat
    · exact fwMW_end W O (m + 1) q hq hl
    · exact fwMW_step W O m (fwMW_ok W O m) q hq (by lia)
noncomputable def S_fwW (W : Wd) (sh : Bool) (m : Nat) : Sp (BB W) :=
  let B := BB W
  let pr := fun q : Lt => [((q.a 0),frameO (p_mw sh [kv B s_number (q.t 0) (q.v 0),kv B s_words (q.t 1) (q.v 1),kv B s_k (q.t 2) (q.v 2),kv B s_back (q.t 3) (q.v 3),kv B s_turn (q.t 4) (q.v 4),kv B s_mail (q.t 5) (q.v 5),kv B s_word (q.t 6) (q.v 6)]) 7),((q.a 1),cellO (.ref (q.a 3))),((q.a 2),fieldsO tLI [(.ref (q.a 4)),(.int (q.i 0) (q.t 7))]),((q.a 4),listO (q.l 0) (q.t 8))]++lxV W (q.a 3) (q.a 5) (q.t 9) (q.i 1) (q.t 10) (q.t 11) (q.a 6) (q.t 12) (q.t 13) (q.t 14) (q.a 7) (q.l 1) (q.t 15) (q.f 0) (q.a 8) (q.t 16) (q.a 9) (q.a 10) (q.a 11) (q.a 12) (q.a 13) (q.t 17) (q.v 7) (q.l 2) (q.s 0) (q.t 18) (q.a 14) (q.i 2) (q.t 19)
  { d := 60
    c := fun q => forC (dlS W.w [2, 0, 3, 0, 1]) (q.a 2) (dlEnv W.w (q.a 0) (q.a 1))
    P := fun q => FwP (q.i 0) (q.l 0) (q.l 1) m
    pre := pr
    R := fun q e => (e.l 0) = (q.l 1) ++ (q.l 0).drop (q.i 0).toNat
    res := fun q e => .ok .next
    out := fun q e => [((q.a 0),frameO (p_mw sh [kv B s_number (q.t 0) (q.v 0),kv B s_words (q.t 1) (q.v 1),kv B s_k (q.t 2) (q.v 2),kv B s_back (q.t 3) (q.v 3),kv B s_turn (q.t 4) (q.v 4),kv B s_mail (q.t 5) (q.v 5),kv B s_word (q.t 6) (e.v 0)]) 7),((q.a 1),cellO (.ref (q.a 3))),((q.a 3),instO 69 (q.a 5)),((q.a 5),dictO [kv B s_lineno (q.t 9) (.int (q.i 1) (q.t 10)),kv B s_instream (q.t 11) (.ref (q.a 6)),kv B s_whitespace (q.t 12) (.str s_ws (q.t 13)),kv B s_pushback (q.t 14) (.ref (q.a 7))] 4),((q.a 7),listO (e.l 0) (e.t 0))]++(pr q).drop 7 }
noncomputable def on_fwW (sh : Bool) : Code → View → Lt := fun c V => lt ([(cEnv c).locals,envCell 0 (cEnv c),valA (cIt c),cA V 1,valA (nthV (sQ V 2) 0)]++xA V 4) ([kT V 0 0,kT V 0 1,kT V 0 2,kT V 0 3,dictKT (nthO V 0) (i_mw sh 4),dictKT (nthO V 0) (i_mw sh 5),dictKT (nthO V 0) (i_mw sh 6),qT V 2 1,eP V 3]++xT V 5) [qI V 2 1,dI V 5 0,qI V 13 0] [valS (cellV (nthO V 11))] [dV V 0 0,dV V 0 1,dV V 0 2,dV V 0 3,dictVal (nthO V 0) (i_mw sh 4),dictVal (nthO V 0) (i_mw sh 5),dictVal (nthO V 0) (i_mw sh 6),nthV (sQ V 10) 0] [sQ V 3,sQ V 6,dropV 2 (sQ V 10)] [fdO (nthO V 7)]
theorem fwW_end (W : Wd) (O : (BB W).Ok) (sh : Bool) (m : Nat) (q : Lt) (hq : (S_fwW W sh m).P q) (hl : ((q.l 0)).length ≤ ((q.i 0)).toNat) : At (S_fwW W sh m) 60 q := by
  refine tri_f O (stdG _) [] 2000 60 (hs := hx 13 0x430c40c30050c00c0) (is := hx 12 0x104104104104104082)
    (fun (ρ : Rho) => ob hl <| fin (S_fwW W sh m) q (lt [] [q.2 15] [] [] [(q.v 6)] [(q.l 1)] []) (FwP.fin hq hl) :) ?_
  induction W, sh using y_1 <;> kernel_rfl
theorem fwW_step (W : Wd) (O : (BB W).Ok) (sh : Bool) (m : Nat) (ih : (S_fwW W sh m).Ok) (q : Lt) (hq : (S_fwW W sh (m + 1)).P q) (hl : ((q.i 0)).toNat < ((q.l 0)).length) : At (S_fwW W sh (m + 1)) 60 q := by
  refine tri_f O (stdG _) [U (S_pt W) (pt_ok W O) on_pt,⟨(S_fwW W sh m).con ih,(on_fwW sh),fun _ => false,[],[]⟩] 2000 60 (hs := hx 61 0xa28a28e0431041041041041042800c00461400000050000050000050810430c40c30c50c00c0) (is := hx 12 0x0)
    (fun (ρ : Rho) => let z0 := itemAt (q.l 0) (Int.toNat (q.i 0)); ob (A := (risD (It.mk (Value.ref (q.a 2)) (q.i 0) (0 : Int) (0 : Int) (Array.mk (q.l 0))) (3))) (⟨FwP.item hq hl,hl⟩) <| ob (FwP.pt hq hl) <| fun _ : True => ob (FwP.next hq hl) <| fun he1 : ((ρ.2 1).l 0) = (q.l 1++[Value.str (shS z0) (shT z0)])++(q.l 0).drop (q.i 0 + 1 : Int).toNat => fin (S_fwW W sh (m + 1)) q (lt [] [(ρ.2 1).2 0] [] [] [(ρ.2 1).5 0] [(ρ.2 1).6 0] []) ((by have z : _ = _ := he1; exact z.trans (FwP.step hq hl))) :) ?_
  induction W, sh using y_1 <;> kernel_rfl
theorem fwW_ok (W : Wd) (O : (BB W).Ok) (sh : Bool) : ∀ m, (S_fwW W sh m).Ok
  | 0 => fun q hq => fwW_end W O sh 0 q hq (by have h : FwP _ _ _ _ := hq; have := h.im; have := h.i0; lia)
  | m + 1 => fun q hq => by
    by_cases hl : ((q.l 0)).length ≤ ((q.i 0)).toNat
    · exact fwW_end W O sh (m + 1) q hq hl
    · exact fwW_step W O sh m (fwW_ok W O sh m) q hq (by lia)
noncomputable def S_fwM (W : Wd) (m : Nat) : Sp (BB W) :=
  let B := BB W
  let pr := fun q : Lt => [((q.a 0),frameO [kv B s_number (q.t 0) (q.v 0),kv B s_words (q.t 1) (q.v 1),kv B s_k (q.t 2) (q.v 2),kv B s_back (q.t 3) (q.v 3),kv B s_mail (q.t 4) (q.v 4)] 5),((q.a 1),cellO (.ref (q.a 3))),((q.a 2),fieldsO tLI [(.ref (q.a 4)),(.int (q.i 0) (q.t 5))]),((q.a 4),listO (q.l 0) (q.t 6))]++lxV W (q.a 3) (q.a 5) (q.t 7) (q.i 1) (q.t 8) (q.t 9) (q.a 6) (q.t 10) (q.t 11) (q.t 12) (q.a 7) (q.l 1) (q.t 13) (q.f 0) (q.a 8) (q.t 14) (q.a 9) (q.a 10) (q.a 11) (q.a 12) (q.a 13) (q.t 15) (q.v 5) (q.l 2) (q.s 0) (q.t 16) (q.a 14) (q.i 2) (q.t 17)
  { d := 60
    c := fun q => forC (dlS W.w [2, 0, 3, 0, 1]) (q.a 2) (dlEnv W.w (q.a 0) (q.a 1))
    P := fun q => FwP (q.i 0) (q.l 0) (q.l 1) m ∧ (q.i 0).toNat < (q.l 0).length
    pre := pr
    R := fun q e => (e.l 0) = (q.l 1) ++ (q.l 0).drop (q.i 0).toNat
    res := fun q e => .ok .next
    out := fun q e => [((q.a 0),frameO [kv B s_number (q.t 0) (q.v 0),kv B s_words (q.t 1) (q.v 1),kv B s_k (q.t 2) (q.v 2),kv B s_back (q.t 3) (q.v 3),kv B s_mail (q.t 4) (q.v 4),kv B s_word (e.t 0) (e.v 0)] 6),((q.a 1),cellO (.ref (q.a 3))),((q.a 3),instO 69 (q.a 5)),((q.a 5),dictO [kv B s_lineno (q.t 7) (.int (q.i 1) (q.t 8)),kv B s_instream (q.t 9) (.ref (q.a 6)),kv B s_whitespace (q.t 10) (.str s_ws (q.t 11)),kv B s_pushback (q.t 12) (.ref (q.a 7))] 4),((q.a 7),listO (e.l 0) (e.t 1))]++(pr q).drop 7 }
noncomputable def on_fwM : Code → View → Lt := fun c V => lt ([(cEnv c).locals,envCell 0 (cEnv c),valA (cIt c),cA V 1,valA (nthV (sQ V 2) 0)]++xA V 4) ([kT V 0 0,kT V 0 1,kT V 0 2,kT V 0 3,kT V 0 4,qT V 2 1,eP V 3]++xT V 5) [qI V 2 1,dI V 5 0,qI V 13 0] [valS (cellV (nthO V 11))] [dV V 0 0,dV V 0 1,dV V 0 2,dV V 0 3,dV V 0 4,nthV (sQ V 10) 0] [sQ V 3,sQ V 6,dropV 2 (sQ V 10)] [fdO (nthO V 7)]
theorem fwM_run (W : Wd) (O : (BB W).Ok) (m : Nat) (q : Lt) (hq : (S_fwM W m).P q) : At (S_fwM W m) 60 q := by
  refine tri_f O (stdG _) [U (S_pt W) (pt_ok W O) on_pt,U (S_fwMW W m) (fwMW_ok W O m) on_fwMW] 2000 60 (hs := hx 61 0xa28a28e0431041041041041042800c00461400000050000050000050810430c40c30c50c00c0) (is := hx 12 0x0)
    (fun (ρ : Rho) => let z0 := itemAt (q.l 0) (Int.toNat (q.i 0)); ob (A := (risD (It.mk (Value.ref (q.a 2)) (q.i 0) (0 : Int) (0 : Int) (Array.mk (q.l 0))) (3))) (⟨FwP.item hq.1 hq.2,hq.2⟩) <| ob (FwP.pt hq.1 hq.2) <| fun _ : True => ob (FwP.next hq.1.up hq.2) <| fun he1 : ((ρ.2 1).l 0) = (q.l 1++[Value.str (shS z0) (shT z0)])++(q.l 0).drop (q.i 0 + 1 : Int).toNat => fin (S_fwM W m) q (lt [] [ρ.1 0,(ρ.2 1).2 0] [] [] [(ρ.2 1).5 0] [(ρ.2 1).6 0] []) ((by have z : _ = _ := he1; exact z.trans (FwP.step hq.1 hq.2))) :) ?_
  induction W using y_0 <;> kernel_rfl
noncomputable def S_fwTM (W : Wd) (m : Nat) : Sp (BB W) :=
  let B := BB W
  let pr := fun q : Lt => [((q.a 0),frameO [kv B s_number (q.t 0) (q.v 0),kv B s_words (q.t 1) (q.v 1),kv B s_k (q.t 2) (q.v 2),kv B s_back (q.t 3) (q.v 3),kv B s_turn (q.t 4) (q.v 4),kv B s_mail (q.t 5) (q.v 5)] 6),((q.a 1),cellO (.ref (q.a 3))),((q.a 2),fieldsO tLI [(.ref (q.a 4)),(.int (q.i 0) (q.t 6))]),((q.a 4),listO (q.l 0) (q.t 7))]++lxV W (q.a 3) (q.a 5) (q.t 8) (q.i 1) (q.t 9) (q.t 10) (q.a 6) (q.t 11) (q.t 12) (q.t 13) (q.a 7) (q.l 1) (q.t 14) (q.f 0) (q.a 8) (q.t 15) (q.a 9) (q.a 10) (q.a 11) (q.a 12) (q.a 13) (q.t 16) (q.v 6) (q.l 2) (q.s 0) (q.t 17) (q.a 14) (q.i 2) (q.t 18)
  { d := 60
    c := fun q => forC (dlS W.w [2, 0, 3, 0, 1]) (q.a 2) (dlEnv W.w (q.a 0) (q.a 1))
    P := fun q => FwP (q.i 0) (q.l 0) (q.l 1) m ∧ (q.i 0).toNat < (q.l 0).length
    pre := pr
    R := fun q e => (e.l 0) = (q.l 1) ++ (q.l 0).drop (q.i 0).toNat
    res := fun q e => .ok .next
    out := fun q e => [((q.a 0),frameO [kv B s_number (q.t 0) (q.v 0),kv B s_words (q.t 1) (q.v 1),kv B s_k (q.t 2) (q.v 2),kv B s_back (q.t 3) (q.v 3),kv B s_turn (q.t 4) (q.v 4),kv B s_mail (q.t 5) (q.v 5),kv B s_word (e.t 0) (e.v 0)] 7),((q.a 1),cellO (.ref (q.a 3))),((q.a 3),instO 69 (q.a 5)),((q.a 5),dictO [kv B s_lineno (q.t 8) (.int (q.i 1) (q.t 9)),kv B s_instream (q.t 10) (.ref (q.a 6)),kv B s_whitespace (q.t 11) (.str s_ws (q.t 12)),kv B s_pushback (q.t 13) (.ref (q.a 7))] 4),((q.a 7),listO (e.l 0) (e.t 1))]++(pr q).drop 7 }
noncomputable def on_fwTM : Code → View → Lt := fun c V => lt ([(cEnv c).locals,envCell 0 (cEnv c),valA (cIt c),cA V 1,valA (nthV (sQ V 2) 0)]++xA V 4) ([kT V 0 0,kT V 0 1,kT V 0 2,kT V 0 3,kT V 0 4,kT V 0 5,qT V 2 1,eP V 3]++xT V 5) [qI V 2 1,dI V 5 0,qI V 13 0] [valS (cellV (nthO V 11))] [dV V 0 0,dV V 0 1,dV V 0 2,dV V 0 3,dV V 0 4,dV V 0 5,nthV (sQ V 10) 0] [sQ V 3,sQ V 6,dropV 2 (sQ V 10)] [fdO (nthO V 7)]
theorem fwTM_run (W : Wd) (O : (BB W).Ok) (m : Nat) (q : Lt) (hq : (S_fwTM W m).P q) : At (S_fwTM W m) 60 q := by
  refine tri_f O (stdG _) [U (S_pt W) (pt_ok W O) on_pt,⟨(S_fwW W true m).con (fwW_ok W O true m),(on_fwW true),fun _ => false,[],[]⟩] 2000 60 (hs := hx 61 0xa28a28e0431041041041041042800c00461400000050000050000050810430c40c30c50c00c0) (is := hx 12 0x0)
    (fun (ρ : Rho) => let z0 := itemAt (q.l 0) (Int.toNat (q.i 0)); ob (A := (risD (It.mk (Value.ref (q.a 2)) (q.i 0) (0 : Int) (0 : Int) (Array.mk (q.l 0))) (3))) (⟨FwP.item hq.1 hq.2,hq.2⟩) <| ob (FwP.pt hq.1 hq.2) <| fun _ : True => ob (FwP.next hq.1.up hq.2) <| fun he1 : ((ρ.2 1).l 0) = (q.l 1++[Value.str (shS z0) (shT z0)])++(q.l 0).drop (q.i 0 + 1 : Int).toNat => fin (S_fwTM W m) q (lt [] [ρ.1 0,(ρ.2 1).2 0] [] [] [(ρ.2 1).5 0] [(ρ.2 1).6 0] []) ((by have z : _ = _ := he1; exact z.trans (FwP.step hq.1 hq.2))) :) ?_
  induction W using y_0 <;> kernel_rfl
end Mine
end
section

namespace Mine
open PySem PySem.Spec PySem.Calls PyProof.Rows PySem.W PySem.W.X PySem.Builtin.Str
noncomputable def S_gm (W : Wd) (m : Nat) : Sp (BB W) :=
  let B := BB W
  let pr := fun q : Lt => [((q.a 0),dictO [kv B s_turn (q.t 0) (q.v 0)] 1),((q.a 2),cellO (.ref (q.a 5))),((q.a 3),fieldsO tRG [(.int (q.i 0) (q.t 1)),(.int (q.i 1) (q.t 2)),(.int 1 (q.t 3))]),((q.a 4),listO (q.l 0) (q.t 4))]++lxQ W q 5 5 2 1 1 0
  { d := 60
    c := fun q => .compLoop (kids (exOf (dlS W.w [2, 0, 3, 0, 0])) [1]) 0 (.ref (q.a 3)) (.ref (q.a 4)) (compEnv (kids (exOf (dlS W.w [2, 0, 3, 0, 0])) [1]) (dlEnv W.w (q.a 1) (q.a 2)) (q.a 0) [(s_line, (q.a 2))])
    P := fun q => GmP (q.i 1) (q.l 1) (q.l 0) m
    pre := pr
    R := fun q e => (e.l 0) = (q.l 0) ++ (q.l 1).take (q.i 1).toNat ∧ (e.l 1) = (q.l 1).drop (q.i 1).toNat
    res := fun q e => .ok .next
    out := fun q e => [((q.a 0),dictO [kv B s_turn (q.t 0) (e.v 0)] 1),((q.a 2),cellO (.ref (q.a 5))),((q.a 4),listO (e.l 0) (e.t 0)),((q.a 5),instO 69 (q.a 6)),((q.a 6),dictO [kv B s_lineno (q.t 5) (.int (q.i 2) (q.t 6)),kv B s_instream (q.t 7) (.ref (q.a 7)),kv B s_whitespace (q.t 8) (.str s_ws (q.t 9)),kv B s_pushback (q.t 10) (.ref (q.a 8))] 4),((q.a 8),listO (e.l 1) (e.t 1))]++(pr q).drop 7 }
noncomputable def on_gm : Code → View → Lt := fun c V => lt ([(cEnv c).locals,envFrame (cEnv c),envCell 0 (cEnv c),valA (cIt c),valA (cAcc c),cA V 1]++xA V 4) ([kT V 0 0,qT V 2 0,qT V 2 1,qT V 2 2,eP V 3]++xT V 5) [qI V 2 0,qI V 2 1,dI V 5 0,qI V 13 0] [valS (cellV (nthO V 11))] [dV V 0 0,nthV (sQ V 10) 0] [sQ V 3,sQ V 6,dropV 2 (sQ V 10)] [fdO (nthO V 7)]
theorem gm_end (W : Wd) (O : (BB W).Ok) (m : Nat) (q : Lt) (hq : (S_gm W m).P q) (hl : (q.i 1) ≤ 0) : At (S_gm W m) 60 q := by
  refine tri_f O (stdG _) [] 2000 60 (hs := [0,3,0,3,6,0,3,3,3,1]) (is := hx 13 0x30c30c30c30c30c3082)
    (fun (ρ : Rho) => ob hl <| fin (S_gm W m) q (lt [] [(q.t 4),q.2 11] [] [] [(q.v 0)] [(q.l 0),(q.l 1)] []) (GmP.fin hq hl) :) ?_
  induction W using y_0 <;> kernel_rfl
theorem gm_step (W : Wd) (O : (BB W).Ok) (m : Nat) (ih : (S_gm W m).Ok) (q : Lt) (hq : (S_gm W (m + 1)).P q) (hl : 0 < (q.i 1)) : At (S_gm W (m + 1)) 60 q := by
  refine tri_f O (stdG _) [U (S_gpL W) (gpL_ok W O) on_gpL,U (S_gm W m) ih on_gm] 2000 60 (hs := hx 67 0xa28a28e04335e08e00410410410410410a0030061400000050000050000050810430c30c30c30460c00c0) (is := hx 13 0x0)
    (fun (ρ : Rho) => ob hl <| ob (GmP.gp hq hl) <| fun _ : True => ob (GmP.ob hq) <| ob (GmP.next hq hl) <| fun he1 : ((ρ.2 1).l 0) = (q.l 0++[Value.str (shS (itemAt (q.l 1) 0)) (shT (itemAt (q.l 1) 0))])++(tl (q.l 1)).take (q.i 1 - 1 : Int).toNat ∧ ((ρ.2 1).l 1) = (tl (q.l 1)).drop (q.i 1 - 1 : Int).toNat => fin (S_gm W (m + 1)) q (lt [] [(ρ.2 1).2 0,(ρ.2 1).2 1] [] [] [(ρ.2 1).5 0] [(ρ.2 1).6 0,(ρ.2 1).6 1] []) (GmP.step hq hl he1) :) ?_
  induction W using y_0 <;> kernel_rfl
theorem gm_ok (W : Wd) (O : (BB W).Ok) : ∀ m, (S_gm W m).Ok
  | 0 => fun q hq => gm_end W O 0 q hq (by have h : GmP _ _ _ _ := hq; have := h.lm; lia)
  | m + 1 => fun q hq => by
    by_cases hl : (q.i 1) ≤ 0
    · exact gm_end W O (m + 1) q hq hl
    · exact gm_step W O m (gm_ok W O m) q hq (by lia)
noncomputable def S_gm1 (W : Wd) (m : Nat) : Sp (BB W) :=
  let B := BB W
  let pr := fun q : Lt => [((q.a 0),dictO [] 0),((q.a 2),cellO (.ref (q.a 5))),((q.a 3),fieldsO tRG [(.int (q.i 0) (q.t 0)),(.int (q.i 1) (q.t 1)),(.int 1 (q.t 2))]),((q.a 4),listO (q.l 0) (q.t 3))]++lxQ W q 5 4 2 0 1 0
  { d := 60
    c := fun q => .compLoop (kids (exOf (dlS W.w [2, 0, 3, 0, 0])) [1]) 0 (.ref (q.a 3)) (.ref (q.a 4)) (compEnv (kids (exOf (dlS W.w [2, 0, 3, 0, 0])) [1]) (dlEnv W.w (q.a 1) (q.a 2)) (q.a 0) [(s_line, (q.a 2))])
    P := fun q => GmP (q.i 1) (q.l 1) (q.l 0) m ∧ 0 < (q.i 1)
    pre := pr
    R := fun q e => (e.l 0) = (q.l 0) ++ (q.l 1).take (q.i 1).toNat ∧ (e.l 1) = (q.l 1).drop (q.i 1).toNat
    res := fun q e => .ok .next
    out := fun q e => [((q.a 0),dictO [kv B s_turn (e.t 0) (e.v 0)] 1),((q.a 2),cellO (.ref (q.a 5))),((q.a 4),listO (e.l 0) (e.t 1)),((q.a 5),instO 69 (q.a 6)),((q.a 6),dictO [kv B s_lineno (q.t 4) (.int (q.i 2) (q.t 5)),kv B s_instream (q.t 6) (.ref (q.a 7)),kv B s_whitespace (q.t 7) (.str s_ws (q.t 8)),kv B s_pushback (q.t 9) (.ref (q.a 8))] 4),((q.a 8),listO (e.l 1) (e.t 2))]++(pr q).drop 7 }
noncomputable def on_gm1 : Code → View → Lt := fun c V => lt ([(cEnv c).locals,envFrame (cEnv c),envCell 0 (cEnv c),valA (cIt c),valA (cAcc c),cA V 1]++xA V 4) ([qT V 2 0,qT V 2 1,qT V 2 2,eP V 3]++xT V 5) [qI V 2 0,qI V 2 1,dI V 5 0,qI V 13 0] [valS (cellV (nthO V 11))] [nthV (sQ V 10) 0] [sQ V 3,sQ V 6,dropV 2 (sQ V 10)] [fdO (nthO V 7)]
theorem gm1_ok (W : Wd) (O : (BB W).Ok) (m : Nat) (q : Lt) (hq : (S_gm1 W m).P q) : At (S_gm1 W m) 60 q := by
  refine tri_f O (stdG _) [U (S_gpL W) (gpL_ok W O) on_gpL,U (S_gm W m) (gm_ok W O m) on_gm] 2000 60 (hs := hx 67 0xa28a28e04335e08e00410410410410410a0030061400000050000050000050810430c30c30c30460c00c0) (is := hx 13 0x0)
    (fun (ρ : Rho) => ob hq.2 <| ob (GmP.gp hq.1 hq.2) <| fun _ : True => ob (GmP.ob hq.1) <| ob (GmP.next hq.1.up hq.2) <| fun he1 : ((ρ.2 1).l 0) = (q.l 0++[Value.str (shS (itemAt (q.l 1) 0)) (shT (itemAt (q.l 1) 0))])++(tl (q.l 1)).take (q.i 1 - 1 : Int).toNat ∧ ((ρ.2 1).l 1) = (tl (q.l 1)).drop (q.i 1 - 1 : Int).toNat => fin (S_gm1 W m) q (lt [] [ρ.1 1,(ρ.2 1).2 0,(ρ.2 1).2 1] [] [] [(ρ.2 1).5 0] [(ρ.2 1).6 0,(ρ.2 1).6 1] []) (GmP.step hq.1 hq.2 he1) :) ?_
  induction W using y_0 <;> kernel_rfl
noncomputable def S_gs (W : Wd) (m : Nat) : Sp (BB W) := Sp.start (S_gm1 W m)
noncomputable abbrev on_gs := on_gm1
theorem gs_true (W : Wd) (O : (BB W).Ok) (m : Nat) (q : Lt) (hq : (S_gs W m).P q) (hb : W.b2 = true) : At (S_gs W m) 60 q := by
  refine tri_f O (stdG _) [U (S_gm1 W m) (fun q hq => gm1_ok W O m q hq) on_gm1] 2000 60 (hs := hx 18 0x3800c0) (is := hx 13 0x0)
    (fun (ρ : Rho) => ob hq <| fun he0 : ((ρ.2 0).l 0) = (q.l 0)++(q.l 1).take (q.i 1).toNat ∧ ((ρ.2 0).l 1) = (q.l 1).drop (q.i 1).toNat => fin (S_gs W m) q (lt [] [(ρ.2 0).2 0,(ρ.2 0).2 1,(ρ.2 0).2 2] [] [] [(ρ.2 0).5 0] [(ρ.2 0).6 0,(ρ.2 0).6 1] []) (he0) :) ?_
  induction W, hb using y_true <;> kernel_rfl
theorem gs_false (W : Wd) (O : (BB W).Ok) (m : Nat) (q : Lt) (hq : (S_gs W m).P q) (hb : W.b2 = false) : At (S_gs W m) 60 q := by
  refine tri_f O (stdG _) [U (S_gm1 W m) (fun q hq => gm1_ok W O m q hq) on_gm1] 2000 60 (hs := hx 24 0x3800c30030030c0) (is := hx 13 0x0)
    (fun (ρ : Rho) => ob hq <| fun he0 : ((ρ.2 0).l 0) = (q.l 0)++(q.l 1).take (q.i 1).toNat ∧ ((ρ.2 0).l 1) = (q.l 1).drop (q.i 1).toNat => fin (S_gs W m) q (lt [] [(ρ.2 0).2 0,(ρ.2 0).2 1,(ρ.2 0).2 2] [] [] [(ρ.2 0).5 0] [(ρ.2 0).6 0,(ρ.2 0).6 1] []) (he0) :) ?_
  induction W, hb using y_false <;> kernel_rfl
theorem gs_ok (W : Wd) (O : (BB W).Ok) (m : Nat) : (S_gs W m).Ok := fun q hq => by
  cases hb : W.b2 with
  | true => exact gs_true W O m q hq hb
  | false => exact gs_false W O m q hq hb
end Mine
end
section

namespace Mine
open PySem PySem.Spec PySem.Calls PyProof.Rows PySem.W PySem.W.X PySem.Builtin.Str
noncomputable def S_tm (W : Wd) (m : Nat) : Sp (BB W) :=
  let B := BB W
  let pr := fun q : Lt => [((q.a 0),dictO [kv B s_word (q.t 0) (q.v 0)] 1),((q.a 2),cellO (.ref (q.a 5))),((q.a 3),fieldsO tLI [(.ref (q.a 6)),(.int (q.i 0) (q.t 1))]),((q.a 4),listO (q.l 0) (q.t 2))]++lxV W (q.a 5) (q.a 7) (q.t 3) (q.i 1) (q.t 4) (q.t 5) (q.a 8) (q.t 6) (q.t 7) (q.t 8) (q.a 9) (q.l 1) (q.t 9) (q.f 0) (q.a 10) (q.t 10) (q.a 11) (q.a 12) (q.a 13) (q.a 14) (q.a 15) (q.t 11) (q.v 1) (q.l 2) (q.s 0) (q.t 12) (q.a 16) (q.i 2) (q.t 13)++[((q.a 6),listO (q.l 3) (q.t 14))]
  { d := 60
    c := fun q => .compLoop (exOf (dlS W.w [3])) 0 (.ref (q.a 3)) (.ref (q.a 4)) (compEnv (exOf (dlS W.w [3])) (dlEnv W.w (q.a 1) (q.a 2)) (q.a 0) [(s_line, (q.a 2))])
    P := fun q => TmP (q.i 0) (q.l 3) (q.l 1) (q.l 0) m
    pre := pr
    R := fun q e => (e.l 0) = (q.l 0) ++ (q.l 1).take (((q.l 3).length : Int) - (q.i 0)).toNat ∧ (e.l 1) = (q.l 1).drop (((q.l 3).length : Int) - (q.i 0)).toNat
    res := fun q e => .ok .next
    out := fun q e => [((q.a 0),dictO [kv B s_word (q.t 0) (e.v 0)] 1),((q.a 2),cellO (.ref (q.a 5))),((q.a 4),listO (e.l 0) (e.t 0)),((q.a 5),instO 69 (q.a 7)),((q.a 7),dictO [kv B s_lineno (q.t 3) (.int (q.i 1) (q.t 4)),kv B s_instream (q.t 5) (.ref (q.a 8)),kv B s_whitespace (q.t 6) (.str s_ws (q.t 7)),kv B s_pushback (q.t 8) (.ref (q.a 9))] 4),((q.a 9),listO (e.l 1) (e.t 1))]++(pr q).drop 7 }
noncomputable def on_tm : Code → View → Lt := fun c V => lt ([(cEnv c).locals,envFrame (cEnv c),envCell 0 (cEnv c),valA (cIt c),valA (cAcc c),cA V 1,valA (nthV (sQ V 2) 0)]++xA V 4) [kT V 0 0,qT V 2 1,eP V 3,kT V 5 0,dT V 5 0,kT V 5 1,kT V 5 2,dT V 5 2,kT V 5 3,eP V 6,kT V 8 0,qT V 10 1,cT V 11,qT V 13 0,eP V 14] [qI V 2 1,dI V 5 0,qI V 13 0] [valS (cellV (nthO V 11))] [dV V 0 0,nthV (sQ V 10) 0] [sQ V 3,sQ V 6,dropV 2 (sQ V 10),sQ V 14] [fdO (nthO V 7)]
theorem tm_end (W : Wd) (O : (BB W).Ok) (m : Nat) (q : Lt) (hq : (S_tm W m).P q) (hl : ((q.l 3)).length ≤ ((q.i 0)).toNat) : At (S_tm W m) 60 q := by
  refine tri_f O (stdG _) [] 2000 60 (hs := hx 12 0x430cf0c30050c00c0) (is := hx 14 0xc30c30c30c30c30c3082)
    (fun (ρ : Rho) => ob hl <| fin (S_tm W m) q (lt [] [(q.t 2),q.2 9] [] [] [(q.v 0)] [(q.l 0),(q.l 1)] []) (TmP.fin hq hl) :) ?_
  induction W using y_0 <;> kernel_rfl
theorem tm_step (W : Wd) (O : (BB W).Ok) (m : Nat) (ih : (S_tm W m).Ok) (q : Lt) (hq : (S_tm W (m + 1)).P q) (hl : ((q.i 0)).toNat < ((q.l 3)).length) : At (S_tm W (m + 1)) 60 q := by
  refine tri_f O (stdG _) [U (S_gpL W) (gpL_ok W O) on_gpL,U (S_tm W m) ih on_tm] 2000 60 (hs := hx 66 0xa28a28f04335e08e00410410410410410a0030061400000050000050000050810430cf0c30c50c00c0) (is := hx 14 0x0)
    (fun (ρ : Rho) => ob (A := (risD (It.mk (Value.ref (q.a 3)) (q.i 0) (0 : Int) (0 : Int) (Array.mk (q.l 3))) (3))) (⟨TmP.item hq hl,hl⟩) <| ob (TmP.gp hq hl) <| fun _ : True => ob (GmP.ob hq.g) <| ob (TmP.next hq hl) <| fun he1 : ((ρ.2 1).l 0) = (q.l 0++[Value.str (shS (itemAt (q.l 1) 0)) (shT (itemAt (q.l 1) 0))])++(tl (q.l 1)).take (((q.l 3).length : Int) - (q.i 0 + 1 : Int)).toNat ∧ ((ρ.2 1).l 1) = (tl (q.l 1)).drop (((q.l 3).length : Int) - (q.i 0 + 1 : Int)).toNat => fin (S_tm W (m + 1)) q (lt [] [(ρ.2 1).2 0,(ρ.2 1).2 1] [] [] [(ρ.2 1).5 0] [(ρ.2 1).6 0,(ρ.2 1).6 1] []) (TmP.step hq hl he1) :) ?_
  induction W using y_0 <;> kernel_rfl
theorem tm_ok (W : Wd) (O : (BB W).Ok) : ∀ m, (S_tm W m).Ok
  | 0 => fun q hq => tm_end W O 0 q hq (by have h : TmP _ _ _ _ _ := hq; have := h.im; have := h.i0; lia)
  | m + 1 => fun q hq => by
    by_cases hl : ((q.l 3)).length ≤ ((q.i 0)).toNat
    · exact tm_end W O (m + 1) q hq hl
    · exact tm_step W O m (tm_ok W O m) q hq (by lia)
noncomputable def S_tm1 (W : Wd) (m : Nat) : Sp (BB W) :=
  let B := BB W
  let pr := fun q : Lt => [((q.a 0),dictO [] 0),((q.a 2),cellO (.ref (q.a 5))),((q.a 3),fieldsO tLI [(.ref (q.a 6)),(.int (q.i 0) (q.t 0))]),((q.a 4),listO (q.l 0) (q.t 1))]++lxV W (q.a 5) (q.a 7) (q.t 2) (q.i 1) (q.t 3) (q.t 4) (q.a 8) (q.t 5) (q.t 6) (q.t 7) (q.a 9) (q.l 1) (q.t 8) (q.f 0) (q.a 10) (q.t 9) (q.a 11) (q.a 12) (q.a 13) (q.a 14) (q.a 15) (q.t 10) (q.v 0) (q.l 2) (q.s 0) (q.t 11) (q.a 16) (q.i 2) (q.t 12)++[((q.a 6),listO (q.l 3) (q.t 13))]
  { d := 60
    c := fun q => .compLoop (exOf (dlS W.w [3])) 0 (.ref (q.a 3)) (.ref (q.a 4)) (compEnv (exOf (dlS W.w [3])) (dlEnv W.w (q.a 1) (q.a 2)) (q.a 0) [(s_line, (q.a 2))])
    P := fun q => TmP (q.i 0) (q.l 3) (q.l 1) (q.l 0) m ∧ (q.i 0).toNat < (q.l 3).length
    pre := pr
    R := fun q e => (e.l 0) = (q.l 0) ++ (q.l 1).take (((q.l 3).length : Int) - (q.i 0)).toNat ∧ (e.l 1) = (q.l 1).drop (((q.l 3).length : Int) - (q.i 0)).toNat
    res := fun q e => .ok .next
    out := fun q e => [((q.a 0),dictO [kv B s_word (e.t 0) (e.v 0)] 1),((q.a 2),cellO (.ref (q.a 5))),((q.a 4),listO (e.l 0) (e.t 1)),((q.a 5),instO 69 (q.a 7)),((q.a 7),dictO [kv B s_lineno (q.t 2) (.int (q.i 1) (q.t 3)),kv B s_instream (q.t 4) (.ref (q.a 8)),kv B s_whitespace (q.t 5) (.str s_ws (q.t 6)),kv B s_pushback (q.t 7) (.ref (q.a 9))] 4),((q.a 9),listO (e.l 1) (e.t 2))]++(pr q).drop 7 }
noncomputable def on_tm1 : Code → View → Lt := fun c V => lt ([(cEnv c).locals,envFrame (cEnv c),envCell 0 (cEnv c),valA (cIt c),valA (cAcc c),cA V 1,valA (nthV (sQ V 2) 0)]++xA V 4) [qT V 2 1,eP V 3,kT V 5 0,dT V 5 0,kT V 5 1,kT V 5 2,dT V 5 2,kT V 5 3,eP V 6,kT V 8 0,qT V 10 1,cT V 11,qT V 13 0,eP V 14] [qI V 2 1,dI V 5 0,qI V 13 0] [valS (cellV (nthO V 11))] [nthV (sQ V 10) 0] [sQ V 3,sQ V 6,dropV 2 (sQ V 10),sQ V 14] [fdO (nthO V 7)]
theorem tm1_ok (W : Wd) (O : (BB W).Ok) (m : Nat) (q : Lt) (hq : (S_tm1 W m).P q) : At (S_tm1 W m) 60 q := by
  refine tri_f O (stdG _) [U (S_gpL W) (gpL_ok W O) on_gpL,U (S_tm W m) (tm_ok W O m) on_tm] 2000 60 (hs := hx 66 0xa28a28f04335e08e00410410410410410a0030061400000050000050000050810430cf0c30c50c00c0) (is := hx 14 0x0)
    (fun (ρ : Rho) => ob (A := (risD (It.mk (Value.ref (q.a 3)) (q.i 0) (0 : Int) (0 : Int) (Array.mk (q.l 3))) (3))) (⟨TmP.item hq.1 hq.2,hq.2⟩) <| ob (TmP.gp hq.1 hq.2) <| fun _ : True => ob (GmP.ob hq.1.g) <| ob (TmP.next hq.1.up hq.2) <| fun he1 : ((ρ.2 1).l 0) = (q.l 0++[Value.str (shS (itemAt (q.l 1) 0)) (shT (itemAt (q.l 1) 0))])++(tl (q.l 1)).take (((q.l 3).length : Int) - (q.i 0 + 1 : Int)).toNat ∧ ((ρ.2 1).l 1) = (tl (q.l 1)).drop (((q.l 3).length : Int) - (q.i 0 + 1 : Int)).toNat => fin (S_tm1 W m) q (lt [] [ρ.1 0,(ρ.2 1).2 0,(ρ.2 1).2 1] [] [] [(ρ.2 1).5 0] [(ρ.2 1).6 0,(ρ.2 1).6 1] []) (TmP.step hq.1 hq.2 he1) :) ?_
  induction W using y_0 <;> kernel_rfl
noncomputable def S_ts (W : Wd) (m : Nat) : Sp (BB W) := Sp.start (S_tm1 W m)
noncomputable abbrev on_ts := on_tm1
theorem ts_true (W : Wd) (O : (BB W).Ok) (m : Nat) (q : Lt) (hq : (S_ts W m).P q) (hb : W.b2 = true) : At (S_ts W m) 60 q := by
  refine tri_f O (stdG _) [U (S_tm1 W m) (fun q hq => tm1_ok W O m q hq) on_tm1] 2000 60 (hs := hx 19 0x3c00c0) (is := hx 14 0x0)
    (fun (ρ : Rho) => ob hq <| fun he0 : ((ρ.2 0).l 0) = (q.l 0)++(q.l 1).take (((q.l 3).length : Int) - (q.i 0)).toNat ∧ ((ρ.2 0).l 1) = (q.l 1).drop (((q.l 3).length : Int) - (q.i 0)).toNat => fin (S_ts W m) q (lt [] [(ρ.2 0).2 0,(ρ.2 0).2 1,(ρ.2 0).2 2] [] [] [(ρ.2 0).5 0] [(ρ.2 0).6 0,(ρ.2 0).6 1] []) (he0) :) ?_
  induction W, hb using y_true <;> kernel_rfl
theorem ts_false (W : Wd) (O : (BB W).Ok) (m : Nat) (q : Lt) (hq : (S_ts W m).P q) (hb : W.b2 = false) : At (S_ts W m) 60 q := by
  refine tri_f O (stdG _) [U (S_tm1 W m) (fun q hq => tm1_ok W O m q hq) on_tm1] 2000 60 (hs := hx 25 0x3c00c30030030c0) (is := hx 14 0x0)
    (fun (ρ : Rho) => ob hq <| fun he0 : ((ρ.2 0).l 0) = (q.l 0)++(q.l 1).take (((q.l 3).length : Int) - (q.i 0)).toNat ∧ ((ρ.2 0).l 1) = (q.l 1).drop (((q.l 3).length : Int) - (q.i 0)).toNat => fin (S_ts W m) q (lt [] [(ρ.2 0).2 0,(ρ.2 0).2 1,(ρ.2 0).2 2] [] [] [(ρ.2 0).5 0] [(ρ.2 0).6 0,(ρ.2 0).6 1] []) (he0) :) ?_
  induction W, hb using y_false <;> kernel_rfl
theorem ts_ok (W : Wd) (O : (BB W).Ok) (m : Nat) : (S_ts W m).Ok := fun q hq => by
  cases hb : W.b2 with
  | true => exact ts_true W O m q hq hb
  | false => exact ts_false W O m q hq hb
end Mine
end
section
namespace Mine
open PySem PySem.Spec PySem.Calls PyProof.Rows PySem.W PySem.W.X PySem.Builtin PySem.Builtin.Str PySem.Builtin.Int PySem.StrLaws
noncomputable def WdS (x : Str) : Prop := Wd1 x.cps.toList
noncomputable def dotS (x : Str) : Str := ⟨#[46]⟩ ++ x
noncomputable def rotS : Nat → List Str → List Str
  | 0, l => l
  | n + 1, l => rotS n (l.drop 1 ++ l.take 1)
noncomputable def dealT (k : Nat) (n : Int) (w : Str) (l : List Str) : List Str :=
  let b := (n.fmod (k + 1)).toNat
  let l1 := rotS (k - b) l ++ [w]
  l1.drop b ++ (l1.take b).map dotS
noncomputable def dealL : Nat → Nat → Int → List Str → List Str → List Str
  | 0, _, _, _, l => l
  | m + 1, k, n, ws, l => dealL m (k + 1) (n.fdiv (k + 1)) ws (dealT k n (ws.getD k ⟨#[]⟩) l)
noncomputable def dealN : Nat → Nat → Int → Int
  | 0, _, n => n
  | m + 1, k, n => dealN m (k + 1) (n.fdiv (k + 1))
theorem rotN_map : ∀ (n : Nat) (l : List Value), (0 < n → 0 < l.length) → (rotN n l).map shS = rotS n (l.map shS)
  | 0, l, _ => rfl
  | n + 1, l, h => by
    cases l with
    | nil => exact absurd (h (by lia)) (by simp)
    | cons v l =>
      rw [rotN, rotN_map n _ (fun _ => by simp), rotS]
      simp [Mine.tl, hd2, itemAt, shS]
theorem rotN_len : ∀ (n : Nat) (l : List Value), (0 < n → 0 < l.length) → (rotN n l).length = l.length
  | 0, l, _ => rfl
  | n + 1, l, h => by
    have h0 := h (by lia)
    rw [rotN, rotN_len n _ (fun _ => by simp)]
    simp [tl_len]; lia
theorem rotN_all : ∀ (n : Nat) (l : List Value), AllStr l → AllStr (rotN n l)
  | 0, l, h => h
  | n + 1, l, h => rotN_all n _ (h.tl.app (AllStr.one _ _))
theorem strsF_map (f : Nat → Tok) : ∀ (l : List Str) (i : Nat), (strsF f l i).map shS = l
  | [], _ => rfl
  | x :: l, i => by simp [strsF, shS, strsF_map f l]
theorem strsF_all (f : Nat → Tok) : ∀ (l : List Str) (i : Nat), AllStr (strsF f l i)
  | [], _ => fun v hv => by simp [strsF] at hv
  | x :: l, i => fun v hv => by
    rcases List.mem_cons.mp hv with rfl | hv
    · rfl
    · exact strsF_all f l _ v hv
theorem strsF_len (f : Nat → Tok) : ∀ (l : List Str) (i : Nat), (strsF f l i).length = l.length
  | [], _ => rfl
  | x :: l, i => by simp [strsF, strsF_len f l]
theorem cps_sL (x : Str) : sL x.cps.toList = x := rfl
theorem mail_words (e : Nat) (he : e = 10 ∨ e = 13) (l : List Str) (h0 : l ≠ []) (h : ∀ x ∈ l, WdS x) : Txt.split (quoted (Txt.join ⟨#[e]⟩ l)) ⟨#[13, 10]⟩ = l.map dotS := by
  rw [split_crlf]
  have e1 : l = (l.map fun x => x.cps.toList).map sL := by
    rw [List.map_map]
    show l = l.map (fun x => sL x.cps.toList)
    simp [cps_sL]
  have e2 : Txt.join ⟨#[e]⟩ l = sL (joinL [e] (l.map fun x => x.cps.toList)) := by
    have z := join_sL ⟨#[e]⟩ (l.map fun x => x.cps.toList)
    rw [← e1] at z
    exact z
  rw [e2]
  show (spl [] (dots true (crlf (joinL [e] (l.map fun x => x.cps.toList))))).map sL = _
  rw [quoted_words e he _ (by simpa using h0) (by
    intro w hw
    obtain ⟨x, hx, rfl⟩ := List.mem_map.mp hw
    exact h x hx)]
  rw [List.map_map, List.map_map]
  apply List.map_congr_left
  intro x _
  show sL (46 :: x.cps.toList) = dotS x
  apply Str.ext'
  apply Array.ext'
  show 46 :: x.cps.toList = (#[46] ++ x.cps : Array Nat).toList
  simp
theorem dotS_wd {x : Str} (h : WdS x) : WdS (dotS x) := by
  refine ⟨x.cps.toList, ?_, h.pl⟩
  show (#[46] ++ x.cps : Array Nat).toList = _
  simp
theorem dotS_len (x : Str) : (dotS x).length = x.length + 1 := by
  unfold dotS
  rw [Str.length_append]
  show 1 + _ = _
  lia
structure Line (l : List Value) (k b : Nat) : Prop where
  st : AllStr l
  len : l.length = k
  wd : ∀ v ∈ l, WdS (shS v) ∧ (shS v).length ≤ b
theorem rotN_mem : ∀ (n : Nat) (l : List Value) (v : Value), AllStr l → v ∈ rotN n l → v ∈ l ∨ (0 < n ∧ l = [])
  | 0, l, v, _, h => .inl h
  | n + 1, l, v, hs, h => by
    cases l with
    | nil => exact .inr ⟨by lia, rfl⟩
    | cons w l =>
      have hw : w = .str (shS w) (shT w) := hs w (.head _)
      rw [rotN] at h
      rcases rotN_mem n _ v (hs.tl.app (AllStr.one _ _)) h with h | ⟨_, h⟩
      · left
        rcases List.mem_append.mp h with h | h
        · exact .tail _ h
        · rcases List.mem_cons.mp h with rfl | h
          · show hd2 (w :: l) ∈ w :: l
            have : hd2 (w :: l) = w := hw.symm
            rw [this]; exact .head _
          · simp at h
      · simp at h
theorem Line.rot {l : List Value} {k b : Nat} (h : Line l k b) (hk : 0 < k) (n : Nat) : Line (rotN n l) k b := by
  have hl := h.len
  refine ⟨rotN_all n l h.st, by rw [rotN_len n l (fun _ => by lia)]; exact hl, fun v hv => ?_⟩
  rcases rotN_mem n l v h.st hv with hv | ⟨_, e⟩
  · exact h.wd v hv
  · rw [e] at hl; simp at hl; lia
theorem idp_small {a b : Int} (ha : a.natAbs < 65536) (hb : 2 ≤ b) (hb' : b ≤ 16) : IDP a b := by
  have hn : b.natAbs = b.toNat := by lia
  have e : intBits b = b.natAbs.log2 + 1 := by
    unfold intBits
    rw [if_neg (by simp; lia)]
  have h2 : b.toNat = 2 ∨ b.toNat = 3 ∨ b.toNat = 4 ∨ b.toNat = 5 ∨ b.toNat = 6 ∨ b.toNat = 7 ∨ b.toNat = 8 ∨ b.toNat = 9 ∨ b.toNat = 10 ∨ b.toNat = 11 ∨ b.toNat = 12 ∨ b.toNat = 13 ∨ b.toNat = 14 ∨ b.toNat = 15 ∨ b.toNat = 16 := by lia
  have hl : 1 ≤ Nat.log2 b.toNat ∧ Nat.log2 b.toNat ≤ 4 := by
    rcases h2 with h | h | h | h | h | h | h | h | h | h | h | h | h | h | h <;> rw [h] <;> decide +kernel
  refine ⟨by lia, by rw [e, hn]; lia, ?_⟩
  rw [e, hn]
  refine Nat.lt_of_lt_of_le ha ?_
  calc 65536 = 2 ^ (8 * 2) := by decide
    _ ≤ _ := Nat.pow_le_pow_right (by decide) (by lia)
structure DlP (num cur left : Int) (ws l : List Value) (m : Nat) : Prop where
  c1 : 1 ≤ cur
  l0 : 0 ≤ left
  lm : left ≤ m
  cw : cur + left = ws.length
  wl : ws.length ≤ 6
  nb : num.natAbs < 65536
  w : Line ws ws.length 8
  l : Line l cur.toNat (8 + cur.toNat)
theorem DlP.idp {num cur left : Int} {ws l : List Value} {m : Nat} (h : DlP num cur left ws l m) (h0 : 0 < left) : IDP num (cur + 1) := by
  have := h.c1; have := h.cw; have := h.wl
  exact idp_small h.nb (by lia) (by lia)
theorem fmod_bd (a : Int) {b : Int} (h : 0 < b) : 0 ≤ a.fmod b ∧ a.fmod b < b := ⟨Int.fmod_nonneg_of_pos a h, Int.fmod_lt_of_pos a h⟩
theorem DlP.r {num cur left : Int} {ws l : List Value} {m : Nat} (h : DlP num cur left ws l m) {q r : Int} (e : q = num.fdiv (cur + 1) ∧ r = num.fmod (cur + 1)) : 0 ≤ r ∧ r ≤ cur := by
  have h1 := h.c1
  have := fmod_bd num (b := cur + 1) (by lia)
  rw [← e.2] at this
  lia
theorem DlP.rot {num cur left : Int} {ws l : List Value} {m : Nat} (h : DlP num cur left ws l m) (h0 : 0 < left) {q r : Int} (e : q = num.fdiv (cur + 1) ∧ r = num.fmod (cur + 1)) : RotP (rlen 0 (cur - r)) l 8 := by
  have hr := h.r e
  have h1 := h.c1; have h2 := h.cw; have h3 := h.wl; have h4 := h.l.len
  have : rlen 0 (cur - r) = cur - r := by unfold rlen; split <;> lia
  rw [this]
  exact ⟨by lia, by lia, h.l.st, by lia, fun _ => by lia⟩
theorem DlP.item {num cur left : Int} {ws l : List Value} {m : Nat} (h : DlP num cur left ws l m) (h0 : 0 < left) : (0 ≤ cur ∧ cur.toNat < ws.length ∧ ws.length ≤ sizeLine) ∧ itemAt ws cur.toNat = .str (shS (itemAt ws cur.toNat)) (shT (itemAt ws cur.toNat)) := by
  have h1 := h.c1; have h2 := h.cw; have h3 := h.wl; have := line100
  have hi : cur.toNat < ws.length := by lia
  exact ⟨⟨by lia, hi, by lia⟩, h.w.st _ (List.mem_of_getElem? (itemAt_eq hi))⟩
theorem DlP.pushed {num cur left : Int} {ws l : List Value} {m : Nat} (h : DlP num cur left ws l m) (h0 : 0 < left) (n : Nat) {l1 : List Value} (e1 : l1 = rotN n l) :
    Line (l1 ++ [Value.str (shS (itemAt ws cur.toNat)) (shT (itemAt ws cur.toNat))]) (cur.toNat + 1) (8 + cur.toNat) := by
  subst e1
  have h1 := h.c1
  have r := h.l.rot (by lia) n
  have hi : cur.toNat < ws.length := by have := h.cw; lia
  have hw := h.w.wd _ (List.mem_of_getElem? (itemAt_eq hi))
  refine ⟨r.st.app (AllStr.one _ _), by simp [r.len], fun v hv => ?_⟩
  rcases List.mem_append.mp hv with hv | hv
  · exact r.wd v hv
  · rcases List.mem_cons.mp hv with rfl | hv
    · exact ⟨hw.1, by have := hw.2; show (shS (itemAt ws cur.toNat)).length ≤ _; lia⟩
    · simp at hv
theorem Line.more {l : List Value} {k b b' : Nat} (h : Line l k b) (hb : b ≤ b') : Line l k b' := ⟨h.st, h.len, fun v hv => ⟨(h.wd v hv).1, by have := (h.wd v hv).2; lia⟩⟩
theorem Line.mail {l : List Value} {k b : Nat} (h : Line l k b) (n : Nat) (hn : n ≤ k) (f : Nat → Tok) :
    Line (l.drop n ++ strsF f (((l.take n).map shS).map dotS) 0) k (b + 1) := by
  have hl := h.len
  refine ⟨fun v hv => ?_, by simp [strsF_len]; lia, fun v hv => ?_⟩
  · rcases List.mem_append.mp hv with hv | hv
    · exact h.st v (List.mem_of_mem_drop hv)
    · exact strsF_all _ _ _ v hv
  · rcases List.mem_append.mp hv with hv | hv
    · have := h.wd v (List.mem_of_mem_drop hv)
      exact ⟨this.1, by lia⟩
    · have hm : shS v ∈ (strsF f (((l.take n).map shS).map dotS) 0).map shS := List.mem_map_of_mem hv
      rw [strsF_map] at hm
      obtain ⟨x, hx, e⟩ := List.mem_map.mp hm
      obtain ⟨w, hw, rfl⟩ := List.mem_map.mp hx
      have := h.wd w (List.mem_of_mem_take hw)
      rw [← e]
      exact ⟨dotS_wd this.1, by rw [dotS_len]; lia⟩
structure DlStep (num cur : Int) (ws l : List Value) (num' : Int) (l' : List Value) : Prop where
  n : num' = num.fdiv (cur + 1)
  l : l'.map shS = dealT cur.toNat num (shS (itemAt ws cur.toNat)) (l.map shS)
  ok : Line l' (cur.toNat + 1) (8 + (cur.toNat + 1))
theorem fdiv_less {num b : Int} (h : num.natAbs < 65536) (hb : 2 ≤ b) : (num.fdiv b).natAbs < 65536 := by
  have h1 := Int.fmod_add_mul_fdiv num b
  have h2 := fmod_bd num (b := b) (by lia)
  generalize num.fdiv b = x at *
  generalize num.fmod b = y at *
  have e1 : x * 2 ≤ x * b ∨ x < 0 := by
    by_cases hx : 0 ≤ x
    · exact .inl (Int.mul_le_mul_of_nonneg_left hb hx)
    · exact .inr (by lia)
  rw [Int.mul_comm] at h1
  rcases Int.lt_or_le x 0 with hx | hx
  · have e2 : (-x) * 2 ≤ (-x) * b := Int.mul_le_mul_of_nonneg_left hb (by lia)
    have e3 : (x + 1) * b ≤ 0 := Int.mul_nonpos_of_nonpos_of_nonneg (by lia) (by lia)
    have e4 : (x + 1) * b = x * b + b := by rw [Int.add_mul]; lia
    have e5 : (-(x+1)) * 2 ≤ (-(x+1)) * b := Int.mul_le_mul_of_nonneg_left hb (by lia)
    have e6 : (-(x+1)) * b = -(x * b + b) := by rw [← e4, Int.neg_mul]
    have e7 : -x * b = -(x * b) := Int.neg_mul _ _
    lia
  · have e2 : x * 2 ≤ x * b := Int.mul_le_mul_of_nonneg_left hb hx
    lia
theorem DlStep.next {num cur left : Int} {ws l : List Value} {m : Nat} (h : DlP num cur left ws l (m + 1)) (h0 : 0 < left) {num' : Int} {l' : List Value} (s : DlStep num cur ws l num' l') : DlP num' (cur + 1) (left - 1) ws l' m := by
  have h1 := h.c1; have h2 := h.cw; have h3 := h.lm
  have e : (cur + 1).toNat = cur.toNat + 1 := by lia
  refine ⟨by lia, by lia, by lia, by lia, h.wl, ?_, h.w, by rw [e]; exact s.ok⟩
  rw [s.n]
  exact fdiv_less h.nb (by lia)
theorem rlen0 {x : Int} (h : 0 ≤ x) : rlen 0 x = x := by unfold rlen; split <;> lia
theorem DlStep.none {num cur left : Int} {ws l : List Value} {m : Nat} (h : DlP num cur left ws l m) (h0 : 0 < left) {q r : Int} {l1 : List Value} (e : q = num.fdiv (cur + 1) ∧ r = num.fmod (cur + 1)) (hr : ¬ r > 0)
    (e1 : l1 = rotN (rlen 0 (cur - r)).toNat l) : DlStep num cur ws l q (l1 ++ [Value.str (shS (itemAt ws cur.toNat)) (shT (itemAt ws cur.toNat))]) := by
  have h1 := h.c1; have hb := h.r e; have h4 := h.l.len
  have ln := h.pushed h0 _ e1
  refine ⟨e.1, ?_, ln.more (by lia)⟩
  have er : (num.fmod ((cur.toNat : Nat) + 1)).toNat = 0 := by rw [show ((cur.toNat : Nat) : Int) + 1 = cur + 1 by lia, ← e.2]; lia
  unfold dealT
  rw [er, e1, rlen0 (by lia), List.map_append, rotN_map _ _ (fun _ => by lia), show (cur - r).toNat = cur.toNat - 0 by lia]
  simp [shS]
theorem DlStep.some {num cur left : Int} {ws l : List Value} {m : Nat} (h : DlP num cur left ws l m) (h0 : 0 < left) {q r : Int} {l1 : List Value} (e : q = num.fdiv (cur + 1) ∧ r = num.fmod (cur + 1)) (hr : r > 0)
    (e1 : l1 = rotN (rlen 0 (cur - r)).toNat l) {l2 xs l3 l4 : List Value} (e2 : l2 = l1 ++ [Value.str (shS (itemAt ws cur.toNat)) (shT (itemAt ws cur.toNat))])
    (e3 : xs = [] ++ l2.take (rlen 0 r).toNat ∧ l3 = l2.drop (rlen 0 r).toNat) (c : Nat) (hc : c = 10 ∨ c = 13) (f : Nat → Tok)
    (e4 : l4 = l3 ++ (strsF f (Txt.split (quoted (joinV ⟨#[c]⟩ xs)) ⟨#[13, 10]⟩) 0).drop 0) : DlStep num cur ws l q l4 := by
  have h1 := h.c1; have hb := h.r e; have h4 := h.l.len
  have ln := h.pushed h0 _ e1
  rw [← e2] at ln
  rw [rlen0 (by lia), List.nil_append] at e3
  have hl2 := ln.len
  have hx : xs ≠ [] := by
    rw [e3.1]; intro hh
    have := congrArg List.length hh
    rw [List.length_take, List.length_nil] at this
    lia
  have sp : Txt.split (quoted (joinV ⟨#[c]⟩ xs)) ⟨#[13, 10]⟩ = (xs.map shS).map dotS := by
    refine mail_words c hc _ (by simpa using hx) ?_
    intro x hx
    obtain ⟨v, hv, rfl⟩ := List.mem_map.mp hx
    rw [e3.1] at hv
    exact (ln.wd v (List.mem_of_mem_take hv)).1
  rw [sp, e3.1, e3.2, List.drop_zero] at e4
  have er : (num.fmod ((cur.toNat : Nat) + 1)).toNat = r.toNat := by rw [show ((cur.toNat : Nat) : Int) + 1 = cur + 1 by lia, ← e.2]
  refine ⟨e.1, ?_, by rw [e4]; exact (ln.mail r.toNat (by lia) f).more (by lia)⟩
  unfold dealT
  rw [er, e4, List.map_append, strsF_map, List.map_drop, List.map_take]
  have e5 : l2.map shS = rotS (cur.toNat - r.toNat) (l.map shS) ++ [shS (itemAt ws cur.toNat)] := by
    rw [e2, e1, rlen0 (by lia), List.map_append, rotN_map _ _ (fun _ => by lia), show (cur - r).toNat = cur.toNat - r.toNat by lia]
    simp [shS]
  rw [e5]
structure DlR (num cur left : Int) (ws l : List Value) (num' : Int) (l' : List Value) : Prop where
  n : num' = dealN left.toNat cur.toNat num
  l : l'.map shS = dealL left.toNat cur.toNat num (ws.map shS) (l.map shS)
  ok : Line l' ws.length 14
theorem DlR.fin {num cur left : Int} {ws l : List Value} {m : Nat} (h : DlP num cur left ws l m) (h0 : left ≤ 0) : DlR num cur left ws l num l := by
  have h1 := h.l0; have h2 := h.cw; have h3 := h.wl
  have e : left.toNat = 0 := by lia
  have e2 : ws.length = cur.toNat := by lia
  refine ⟨by rw [e]; rfl, by rw [e]; rfl, ?_⟩
  rw [e2]
  exact h.l.more (by lia)
theorem DlR.step {num cur left : Int} {ws l : List Value} {m : Nat} (h : DlP num cur left ws l m) (h0 : 0 < left) {num1 num' : Int} {l1 l' : List Value} (s : DlStep num cur ws l num1 l1)
    (r : DlR num1 (cur + 1) (left - 1) ws l1 num' l') : DlR num cur left ws l num' l' := by
  have h1 := h.c1; have h2 := h.cw
  have e : left.toNat = (left - 1).toNat + 1 := by lia
  have e2 : (cur + 1).toNat = cur.toNat + 1 := by lia
  have e3 : ((cur.toNat : Nat) : Int) + 1 = cur + 1 := by lia
  refine ⟨?_, ?_, r.ok⟩
  · rw [r.n, e, dealN, s.n, e2, e3]
  · have hi : cur.toNat < ws.length := by lia
    have hw : shS (itemAt ws cur.toNat) = (ws.map shS).getD cur.toNat ⟨#[]⟩ := by
      rw [List.getD_eq_getElem?_getD, List.getElem?_map, itemAt_eq hi]; rfl
    rw [r.l, e, dealL, s.n, e2, s.l, hw, e3]
theorem DlP.ptP {num cur left : Int} {ws l : List Value} {m : Nat} (h : DlP num cur left ws l m) (h0 : 0 < left) {n : Nat} {l1 : List Value} (e1 : l1 = rotN n l) : l1.length ≤ sizeLine := by
  have h1 := h.c1; have h2 := h.cw; have h3 := h.wl; have h4 := h.l.len; have := line100
  rw [e1, rotN_len n l (fun _ => by lia)]; lia
theorem DlP.riter {num cur left : Int} {ws l : List Value} {m : Nat} (h : DlP num cur left ws l m) (h0 : 0 < left) {q r : Int} (e : q = num.fdiv (cur + 1) ∧ r = num.fmod (cur + 1)) :
    (1 : Int) = 1 ∧ (-(2 : Int) ^ 62 ≤ 0 ∧ (0 : Int) < 2 ^ 62) ∧ -(2 : Int) ^ 62 ≤ cur - r ∧ cur - r < (2 : Int) ^ 62 := by
  have h1 := h.c1; have h2 := h.cw; have h3 := h.wl; have hb := h.r e
  lia
theorem DlP.riter2 {num cur left : Int} {ws l : List Value} {m : Nat} (h : DlP num cur left ws l m) (h0 : 0 < left) {q r : Int} (e : q = num.fdiv (cur + 1) ∧ r = num.fmod (cur + 1)) :
    (1 : Int) = 1 ∧ (-(2 : Int) ^ 62 ≤ 0 ∧ (0 : Int) < 2 ^ 62) ∧ -(2 : Int) ^ 62 ≤ r ∧ r < (2 : Int) ^ 62 := by
  have h1 := h.c1; have h2 := h.cw; have h3 := h.wl; have hb := h.r e
  lia
theorem rot_z {cur x r : Int} (h : cur - x ≤ 0) (e : r = x) : rlen 0 (cur - r) ≤ 0 := by subst e; unfold rlen; split <;> lia
theorem rot_p {cur x r : Int} (h : 0 < cur - x) (e : r = x) : 0 < rlen 0 (cur - r) := by subst e; unfold rlen; split <;> lia
theorem DlP.rz {num cur left : Int} {ws l : List Value} {m : Nat} (h : DlP num cur left ws l m) : 0 ≤ num.fmod (cur + 1) ∧ num.fmod (cur + 1) ≤ cur := h.r (q := num.fdiv (cur + 1)) ⟨rfl, rfl⟩
theorem DlP.gm {num cur left : Int} {ws l : List Value} {m : Nat} (h : DlP num cur left ws l m) (h0 : 0 < left) {q r : Int} (e : q = num.fdiv (cur + 1) ∧ r = num.fmod (cur + 1)) (hr : r > 0) {n : Nat} {l1 : List Value} (e1 : l1 = rotN n l) :
    GmP (rlen 0 r) (l1 ++ [Value.str (shS (itemAt ws cur.toNat)) (shT (itemAt ws cur.toNat))]) [] 8 ∧ 0 < rlen 0 r := by
  have ln := h.pushed h0 n e1
  have hb := h.r e
  have h1 := h.c1; have h2 := h.cw; have h3 := h.wl
  have hl := ln.len
  rw [rlen0 (by lia)]
  exact ⟨⟨by lia, by lia, by lia, ln.st, by lia, by simp; lia⟩, by lia⟩
theorem joinOk_small {sep : Str} (hs : sep.length ≤ 2) {l : List Str} {b : Nat} (h : ∀ x ∈ l, x.length ≤ b) (hn : l.length * (b + 2) ≤ sizeLine) : JoinOk sep l = true := by
  have e : ∀ (l : List Str) (k : Nat), (∀ x ∈ l, x.length ≤ b) → l.foldl (fun (n : Nat) (p : Str) => n + p.length + sep.length) k ≤ k + l.length * (b + 2) := by
    intro l
    induction l with
    | nil => intro k _; simp
    | cons p l ih =>
      intro k h
      have h1 := h p (.head _)
      have := ih (k + p.length + sep.length) (fun x hx => h x (.tail _ hx))
      rw [List.foldl_cons, List.length_cons, Nat.succ_mul]
      lia
  have := e l 0 h
  unfold JoinOk tooLong
  rw [List.foldl_toArray' _ _ _ (by rfl)]
  simp
  lia
theorem joinL_len (sep : List Nat) (b : Nat) : ∀ ws : List (List Nat), (∀ w ∈ ws, w.length ≤ b) → (joinL sep ws).length ≤ ws.length * (b + sep.length)
  | [], _ => by simp [joinL]
  | [w], h => by have := h w (.head _); simp [joinL]; lia
  | w :: v :: ws, h => by
    have h1 := h w (.head _)
    have h2 := joinL_len sep b (v :: ws) (fun x hx => h x (.tail _ hx))
    rw [joinL, List.length_append, List.length_append, List.length_cons, Nat.succ_mul]
    lia
theorem join_len (sep : Str) (hs : sep.length ≤ 2) {l : List Str} {b : Nat} (h : ∀ x ∈ l, x.length ≤ b) : (Txt.join sep l).length ≤ l.length * (b + 2) := by
  have e1 : l = (l.map fun x => x.cps.toList).map sL := by
    rw [List.map_map]
    show l = l.map (fun x => sL x.cps.toList)
    simp [cps_sL]
  rw [e1, join_sL]
  have z := joinL_len sep.cps.toList b (l.map fun x => x.cps.toList) (fun w hw => by
    obtain ⟨x, hx, rfl⟩ := List.mem_map.mp hw
    have := h x hx
    show x.cps.toList.length ≤ b
    have e : x.cps.toList.length = x.length := by simp; rfl
    lia)
  have e2 : sep.cps.toList.length = sep.length := by simp; rfl
  have e3 : (sL (joinL sep.cps.toList (l.map fun x => x.cps.toList))).length = (joinL sep.cps.toList (l.map fun x => x.cps.toList)).length := by
    show (List.toArray _).size = _
    simp
  rw [e3]
  refine Nat.le_trans z ?_
  rw [List.length_map, List.length_map, List.length_map]
  exact Nat.mul_le_mul_left _ (by lia)
theorem quoted_len (x : Str) : (quoted x).length ≤ 4 * x.length := by
  have h1 := crlf_len x.cps.toList
  have h2 := dots_len (crlf x.cps.toList) true
  have e : x.cps.toList.length = x.length := by simp; rfl
  show (List.toArray _).size ≤ _
  unfold quotedL
  simp only [List.size_toArray]
  lia
theorem small_line : 10000 ≤ sizeLine := by decide
structure MailP (sep : Str) (xs l3 : List Value) : Prop where
  join : AllStr xs ∧ JoinOk sep (xs.map shS) = true
  quo : 8 * (joinV sep xs).length + 8 ≤ sizeLine
  split : (Str.length ⟨#[13, 10]⟩ == (0 : Nat)) = false ∧ Str.length (quoted (joinV sep xs)) ≤ sizeLine ∧ List.length (Txt.split (quoted (joinV sep xs)) ⟨#[13, 10]⟩) ≤ sizeLine
  fw : ∀ f, FwP 0 (strsF f (Txt.split (quoted (joinV sep xs)) ⟨#[13, 10]⟩) 0) l3 8
  fw1 : ∀ f, FwP 0 (strsF f (Txt.split (quoted (joinV sep xs)) ⟨#[13, 10]⟩) 0) l3 8 ∧ (0 : Int).toNat < (strsF f (Txt.split (quoted (joinV sep xs)) ⟨#[13, 10]⟩) 0).length
theorem DlP.mailP {num cur left : Int} {ws l : List Value} {m : Nat} (h : DlP num cur left ws l m) (h0 : 0 < left) {q r : Int} (e : q = num.fdiv (cur + 1) ∧ r = num.fmod (cur + 1)) (hr : r > 0) {n : Nat} {l1 : List Value} (e1 : l1 = rotN n l)
    {xs l3 : List Value} (e3 : xs = [] ++ (l1 ++ [Value.str (shS (itemAt ws cur.toNat)) (shT (itemAt ws cur.toNat))]).take (rlen 0 r).toNat ∧ l3 = (l1 ++ [Value.str (shS (itemAt ws cur.toNat)) (shT (itemAt ws cur.toNat))]).drop (rlen 0 r).toNat)
    (c : Nat) (hc : c = 10 ∨ c = 13) : MailP ⟨#[c]⟩ xs l3 := by
  have h1 := h.c1; have hb := h.r e; have h2 := h.cw; have h3 := h.wl
  have ln := h.pushed h0 n e1
  generalize (l1 ++ [Value.str (shS (itemAt ws cur.toNat)) (shT (itemAt ws cur.toNat))]) = l2 at ln e3
  rw [rlen0 (by lia), List.nil_append] at e3
  have hl2 := ln.len
  have hxl : xs.length = r.toNat := by rw [e3.1, List.length_take]; lia
  have hx : xs ≠ [] := by
    intro hh
    rw [hh] at hxl
    simp at hxl; lia
  have hst : AllStr xs := fun v hv => ln.st v (List.mem_of_mem_take (by rw [← e3.1]; exact hv))
  have hwd : ∀ v ∈ xs, WdS (shS v) ∧ (shS v).length ≤ 20 := fun v hv => by
    have := ln.wd v (List.mem_of_mem_take (by rw [← e3.1]; exact hv))
    exact ⟨this.1, by lia⟩
  have hln : ∀ x ∈ xs.map shS, x.length ≤ 20 := fun x hx => by
    obtain ⟨v, hv, rfl⟩ := List.mem_map.mp hx
    exact (hwd v hv).2
  have sp : Txt.split (quoted (joinV ⟨#[c]⟩ xs)) ⟨#[13, 10]⟩ = (xs.map shS).map dotS := by
    refine mail_words c hc _ (by simpa using hx) ?_
    intro x hx
    obtain ⟨v, hv, rfl⟩ := List.mem_map.mp hx
    exact (hwd v hv).1
  have sl := small_line
  have one : (⟨#[c]⟩ : Str).length ≤ 2 := by show 1 ≤ 2; decide
  have jl : (joinV ⟨#[c]⟩ xs).length ≤ 200 := by
    have := join_len ⟨#[c]⟩ one hln
    rw [List.length_map] at this
    show (Txt.join _ _).length ≤ _
    have h6 : xs.length * (20 + 2) ≤ 6 * 22 := Nat.mul_le_mul (by lia) (Nat.le_refl _)
    lia
  have ql := quoted_len (joinV ⟨#[c]⟩ xs)
  have spl : (Txt.split (quoted (joinV ⟨#[c]⟩ xs)) ⟨#[13, 10]⟩).length = r.toNat := by rw [sp]; simp [hxl]
  have fw : ∀ f, FwP 0 (strsF f (Txt.split (quoted (joinV ⟨#[c]⟩ xs)) ⟨#[13, 10]⟩) 0) l3 8 := fun f => by
    refine ⟨by lia, by rw [strsF_len, spl]; lia, by lia, by rw [strsF_len, spl]; lia, strsF_all _ _ _, ?_⟩
    rw [strsF_len, spl, e3.2, List.length_drop]
    lia
  refine ⟨⟨hst, joinOk_small one hln ?_⟩, by lia, ⟨by decide, by lia, by lia⟩, fw, fun f => ⟨fw f, ?_⟩⟩
  · rw [List.length_map]
    have h6 : xs.length * (20 + 2) ≤ 6 * 22 := Nat.mul_le_mul (by lia) (Nat.le_refl _)
    lia
  · rw [strsF_len, spl]
    show 0 < _
    lia
end Mine
end
section

namespace Mine
open PySem PySem.Spec PySem.Calls PyProof.Rows PySem.W PySem.W.X PySem.Builtin.Str
noncomputable def finF (B : Bs) (sh : Nat) (tn tw tk tb t1 t2 t3 : Tok) (n : Value) (w k b v1 v2 v3 : Value) : Obj := match sh with
  | 0 => frameO [kv B s_number tn n, kv B s_words tw w, kv B s_k tk k, kv B s_back tb b, kv B s_turn t1 v1] 5
  | 1 => frameO [kv B s_number tn n, kv B s_words tw w, kv B s_k tk k, kv B s_back tb b, kv B s_mail t2 v2, kv B s_word t3 v3] 6
  | 2 => frameO [kv B s_number tn n, kv B s_words tw w, kv B s_k tk k, kv B s_back tb b, kv B s_turn t1 v1, kv B s_mail t2 v2, kv B s_word t3 v3] 7
  | _ => frameO [kv B s_number tn n, kv B s_words tw w, kv B s_k tk k, kv B s_back tb b, kv B s_mail t2 v2, kv B s_word t3 v3, kv B s_turn t1 v1] 7
noncomputable def S_oT (W : Wd) (m : Nat) : Sp (BB W) :=
  let B := BB W
  let pr := fun q : Lt => [((q.a 0),frameO [kv B s_number (q.t 0) (.int (q.i 0) (q.t 1)),kv B s_words (q.t 2) (.ref (q.a 3)),kv B s_k (q.t 3) (q.v 0),kv B s_back (q.t 4) (q.v 1),kv B s_turn (q.t 5) (q.v 2)] 5),((q.a 1),cellO (.ref (q.a 4))),((q.a 2),fieldsO tRG [(.int (q.i 1) (q.t 6)),(.int (q.i 2) (q.t 7)),(.int 1 (q.t 8))]),((q.a 3),listO (q.l 0) (q.t 9))]++lxQ W q 4 10 3 3 1 0
  { d := 100
    c := fun q => forC (dlS W.w [2]) (q.a 2) (dlEnv W.w (q.a 0) (q.a 1))
    P := fun q => DlP (q.i 0) (q.i 1) (q.i 2) (q.l 0) (q.l 1) m
    pre := pr
    R := fun q e => DlR (q.i 0) (q.i 1) (q.i 2) (q.l 0) (q.l 1) (e.i 0) (e.l 0)
    res := fun q e => .ok .next
    out := fun q e => [((q.a 0),finF B (e.t 0) (e.t 1) (e.t 2) (e.t 3) (e.t 4) (e.t 5) (e.t 6) (e.t 7) (.int (e.i 0) (e.t 8)) (.ref (q.a 3)) (e.v 0) (e.v 1) (e.v 2) (e.v 3) (e.v 4)),((q.a 1),cellO (.ref (q.a 4))),((q.a 3),listO (q.l 0) (q.t 9)),((q.a 4),instO 69 (q.a 5)),((q.a 5),dictO [kv B s_lineno (q.t 10) (.int (q.i 3) (q.t 11)),kv B s_instream (q.t 12) (.ref (q.a 6)),kv B s_whitespace (q.t 13) (.str s_ws (q.t 14)),kv B s_pushback (q.t 15) (.ref (q.a 7))] 4),((q.a 7),listO (e.l 0) (e.t 9))]++(pr q).drop 7 }
noncomputable def on_oT : Code → View → Lt := fun c V => lt ([(cEnv c).locals,envCell 0 (cEnv c),valA (cIt c),dA V 0 1,cA V 1]++xA V 4) ([kT V 0 0,dT V 0 0,kT V 0 1,kT V 0 2,kT V 0 3,kT V 0 4,qT V 2 0,qT V 2 1,qT V 2 2,eP V 3]++xT V 5) [dI V 0 0,qI V 2 0,qI V 2 1,dI V 5 0,qI V 13 0] [valS (cellV (nthO V 11))] [dV V 0 2,dV V 0 3,dV V 0 4,nthV (sQ V 10) 0] [sQ V 3,sQ V 6,dropV 2 (sQ V 10)] [fdO (nthO V 7)]
noncomputable def S_oMW (W : Wd) (m : Nat) : Sp (BB W) :=
  let B := BB W
  let pr := fun q : Lt => [((q.a 0),frameO [kv B s_number (q.t 0) (.int (q.i 0) (q.t 1)),kv B s_words (q.t 2) (.ref (q.a 3)),kv B s_k (q.t 3) (q.v 0),kv B s_back (q.t 4) (q.v 1),kv B s_mail (q.t 5) (q.v 2),kv B s_word (q.t 6) (q.v 3)] 6),((q.a 1),cellO (.ref (q.a 4))),((q.a 2),fieldsO tRG [(.int (q.i 1) (q.t 7)),(.int (q.i 2) (q.t 8)),(.int 1 (q.t 9))]),((q.a 3),listO (q.l 0) (q.t 10))]++lxQ W q 4 11 3 4 1 0
  { d := 100
    c := fun q => forC (dlS W.w [2]) (q.a 2) (dlEnv W.w (q.a 0) (q.a 1))
    P := fun q => DlP (q.i 0) (q.i 1) (q.i 2) (q.l 0) (q.l 1) m
    pre := pr
    R := fun q e => DlR (q.i 0) (q.i 1) (q.i 2) (q.l 0) (q.l 1) (e.i 0) (e.l 0)
    res := fun q e => .ok .next
    out := fun q e => [((q.a 0),finF B (e.t 0) (e.t 1) (e.t 2) (e.t 3) (e.t 4) (e.t 5) (e.t 6) (e.t 7) (.int (e.i 0) (e.t 8)) (.ref (q.a 3)) (e.v 0) (e.v 1) (e.v 2) (e.v 3) (e.v 4)),((q.a 1),cellO (.ref (q.a 4))),((q.a 3),listO (q.l 0) (q.t 10)),((q.a 4),instO 69 (q.a 5)),((q.a 5),dictO [kv B s_lineno (q.t 11) (.int (q.i 3) (q.t 12)),kv B s_instream (q.t 13) (.ref (q.a 6)),kv B s_whitespace (q.t 14) (.str s_ws (q.t 15)),kv B s_pushback (q.t 16) (.ref (q.a 7))] 4),((q.a 7),listO (e.l 0) (e.t 9))]++(pr q).drop 7 }
noncomputable def on_oMW : Code → View → Lt := fun c V => lt ([(cEnv c).locals,envCell 0 (cEnv c),valA (cIt c),dA V 0 1,cA V 1]++xA V 4) ([kT V 0 0,dT V 0 0,kT V 0 1,kT V 0 2,kT V 0 3,kT V 0 4,kT V 0 5,qT V 2 0,qT V 2 1,qT V 2 2,eP V 3]++xT V 5) [dI V 0 0,qI V 2 0,qI V 2 1,dI V 5 0,qI V 13 0] [valS (cellV (nthO V 11))] [dV V 0 2,dV V 0 3,dV V 0 4,dV V 0 5,nthV (sQ V 10) 0] [sQ V 3,sQ V 6,dropV 2 (sQ V 10)] [fdO (nthO V 7)]
noncomputable def S_oW (W : Wd) (sh : Bool) (m : Nat) : Sp (BB W) :=
  let B := BB W
  let pr := fun q : Lt => [((q.a 0),frameO (p_mw sh [kv B s_number (q.t 0) (.int (q.i 0) (q.t 1)),kv B s_words (q.t 2) (.ref (q.a 3)),kv B s_k (q.t 3) (q.v 0),kv B s_back (q.t 4) (q.v 1),kv B s_turn (q.t 5) (q.v 2),kv B s_mail (q.t 6) (q.v 3),kv B s_word (q.t 7) (q.v 4)]) 7),((q.a 1),cellO (.ref (q.a 4))),((q.a 2),fieldsO tRG [(.int (q.i 1) (q.t 8)),(.int (q.i 2) (q.t 9)),(.int 1 (q.t 10))]),((q.a 3),listO (q.l 0) (q.t 11))]++lxQ W q 4 12 3 5 1 0
  { d := 100
    c := fun q => forC (dlS W.w [2]) (q.a 2) (dlEnv W.w (q.a 0) (q.a 1))
    P := fun q => DlP (q.i 0) (q.i 1) (q.i 2) (q.l 0) (q.l 1) m
    pre := pr
    R := fun q e => DlR (q.i 0) (q.i 1) (q.i 2) (q.l 0) (q.l 1) (e.i 0) (e.l 0)
    res := fun q e => .ok .next
    out := fun q e => [((q.a 0),finF B (e.t 0) (e.t 1) (e.t 2) (e.t 3) (e.t 4) (e.t 5) (e.t 6) (e.t 7) (.int (e.i 0) (e.t 8)) (.ref (q.a 3)) (e.v 0) (e.v 1) (e.v 2) (e.v 3) (e.v 4)),((q.a 1),cellO (.ref (q.a 4))),((q.a 3),listO (q.l 0) (q.t 11)),((q.a 4),instO 69 (q.a 5)),((q.a 5),dictO [kv B s_lineno (q.t 12) (.int (q.i 3) (q.t 13)),kv B s_instream (q.t 14) (.ref (q.a 6)),kv B s_whitespace (q.t 15) (.str s_ws (q.t 16)),kv B s_pushback (q.t 17) (.ref (q.a 7))] 4),((q.a 7),listO (e.l 0) (e.t 9))]++(pr q).drop 7 }
noncomputable def on_oW (sh : Bool) : Code → View → Lt := fun c V => lt ([(cEnv c).locals,envCell 0 (cEnv c),valA (cIt c),dA V 0 1,cA V 1]++xA V 4) ([kT V 0 0,dT V 0 0,kT V 0 1,kT V 0 2,kT V 0 3,dictKT (nthO V 0) (i_mw sh 4),dictKT (nthO V 0) (i_mw sh 5),dictKT (nthO V 0) (i_mw sh 6),qT V 2 0,qT V 2 1,qT V 2 2,eP V 3]++xT V 5) [dI V 0 0,qI V 2 0,qI V 2 1,dI V 5 0,qI V 13 0] [valS (cellV (nthO V 11))] [dV V 0 2,dV V 0 3,dictVal (nthO V 0) (i_mw sh 4),dictVal (nthO V 0) (i_mw sh 5),dictVal (nthO V 0) (i_mw sh 6),nthV (sQ V 10) 0] [sQ V 3,sQ V 6,dropV 2 (sQ V 10)] [fdO (nthO V 7)]
noncomputable def S_ob (W : Wd) (m : Nat) : Sp (BB W) :=
  let B := BB W
  let pr := fun q : Lt => [((q.a 0),frameO [kv B s_number (q.t 0) (.int (q.i 0) (q.t 1)),kv B s_words (q.t 2) (.ref (q.a 3))] 2),((q.a 1),cellO (.ref (q.a 4))),((q.a 2),fieldsO tRG [(.int (q.i 1) (q.t 3)),(.int (q.i 2) (q.t 4)),(.int 1 (q.t 5))]),((q.a 3),listO (q.l 0) (q.t 6))]++lxQ W q 4 7 3 0 1 0
  { d := 100
    c := fun q => forC (dlS W.w [2]) (q.a 2) (dlEnv W.w (q.a 0) (q.a 1))
    P := fun q => DlP (q.i 0) (q.i 1) (q.i 2) (q.l 0) (q.l 1) m ∧ 0 < (q.i 2) ∧ (q.i 1) = 1
    pre := pr
    R := fun q e => DlR (q.i 0) (q.i 1) (q.i 2) (q.l 0) (q.l 1) (e.i 0) (e.l 0)
    res := fun q e => .ok .next
    out := fun q e => [((q.a 0),finF B (e.t 0) (e.t 1) (e.t 2) (e.t 3) (e.t 4) (e.t 5) (e.t 6) (e.t 7) (.int (e.i 0) (e.t 8)) (.ref (q.a 3)) (e.v 0) (e.v 1) (e.v 2) (e.v 3) (e.v 4)),((q.a 1),cellO (.ref (q.a 4))),((q.a 3),listO (q.l 0) (q.t 6)),((q.a 4),instO 69 (q.a 5)),((q.a 5),dictO [kv B s_lineno (q.t 7) (.int (q.i 3) (q.t 8)),kv B s_instream (q.t 9) (.ref (q.a 6)),kv B s_whitespace (q.t 10) (.str s_ws (q.t 11)),kv B s_pushback (q.t 12) (.ref (q.a 7))] 4),((q.a 7),listO (e.l 0) (e.t 9))]++(pr q).drop 7 }
noncomputable def on_ob : Code → View → Lt := fun c V => lt ([(cEnv c).locals,envCell 0 (cEnv c),valA (cIt c),dA V 0 1,cA V 1]++xA V 4) ([kT V 0 0,dT V 0 0,kT V 0 1,qT V 2 0,qT V 2 1,qT V 2 2,eP V 3]++xT V 5) [dI V 0 0,qI V 2 0,qI V 2 1,dI V 5 0,qI V 13 0] [valS (cellV (nthO V 11))] [nthV (sQ V 10) 0] [sQ V 3,sQ V 6,dropV 2 (sQ V 10)] [fdO (nthO V 7)]
theorem oT_end (W : Wd) (O : (BB W).Ok) (m : Nat) (q : Lt) (hq : (S_oT W m).P q) (hl : (q.i 2) ≤ 0) : At (S_oT W m) 100 q := by
  refine tri_f O (stdG _) [] 2000 100 (hs := [0,3,0,3,6,0,3,3,3,1,0]) (is := hx 13 0x30c30c30c30c30c3082)
    (fun (ρ : Rho) => ob hl <| fin (S_oT W m) q (lt [] ([0,(q.t 0)]++sl q.t 2 4++[0,0,(q.t 1),(q.t 16)]) [(q.i 0)] [] [(q.v 0),(q.v 1),(q.v 2),.none,.none] [(q.l 1)] []) (DlR.fin hq hl) :) ?_
  induction W using y_0 <;> kernel_rfl
theorem oMW_end (W : Wd) (O : (BB W).Ok) (m : Nat) (q : Lt) (hq : (S_oMW W m).P q) (hl : (q.i 2) ≤ 0) : At (S_oMW W m) 100 q := by
  refine tri_f O (stdG _) [] 2000 100 (hs := [0,3,0,3,6,0,3,3,3,1,0]) (is := hx 13 0x30c30c30c30c30c3082)
    (fun (ρ : Rho) => ob hl <| fin (S_oMW W m) q (lt [] [1,(q.t 0),(q.t 2),(q.t 3),(q.t 4),0,(q.t 5),(q.t 6),(q.t 1),(q.t 17)] [(q.i 0)] [] [(q.v 0),(q.v 1),.none,(q.v 2),(q.v 3)] [(q.l 1)] []) (DlR.fin hq hl) :) ?_
  induction W using y_0 <;> kernel_rfl
theorem oW_end (W : Wd) (O : (BB W).Ok) (sh : Bool) (m : Nat) (q : Lt) (hq : (S_oW W sh m).P q) (hl : (q.i 2) ≤ 0) : At (S_oW W sh m) 100 q := by
  refine tri_f O (stdG _) [] 2000 100 (hs := [0,3,0,3,6,0,3,3,3,1,0]) (is := hx 13 0x30c30c30c30c30c3082)
    (fun (ρ : Rho) => ob hl <| fin (S_oW W sh m) q (lt [] ([cond sh 2 3,(q.t 0)]++sl q.t 2 6++[(q.t 1),(q.t 18)]) [(q.i 0)] [] (sl q.v 0 5) [(q.l 1)] []) (DlR.fin hq hl) :) ?_
  induction W, sh using y_1 <;> kernel_rfl
theorem oT_t00 (W : Wd) (O : (BB W).Ok) (m : Nat) (ih : (S_oT W m).Ok) (q : Lt) (hq : (S_oT W (m + 1)).P q) (hl : 0 < (q.i 2)) (hb : ¬ (q.i 0).fmod ((q.i 1) + 1) > 0) : At (S_oT W (m + 1)) 100 q := by
  refine tri_f O (stdG _) [U (S_pt W) (pt_ok W O) on_pt,U (S_idm W) (idm_ok W O) on_idm,U (S_rotT W 8) (rotT_ok W O 8) on_rotT,U (S_oT W m) ih on_oT] 2000 100 (hs := hx 165 0xf3ca28e0c30c200b0820820820820822800c00928024c04d34c10440c00000030000030000030871c71c71c71c71c01863420c102d0810010410010010400000000051400051451410410810400400410420410010010410810400400410010010410010c00000410010430c30c30c30460c00c0) (is := hx 13 0x0)
    (fun (ρ : Rho) => let z0 := itemAt (q.l 0) (Int.toNat (q.i 1)); ob hl <| ob (hq.idp hl) <| fun he0 : ((ρ.2 0).i 0) = (q.i 0).fdiv (q.i 1 + 1 : Int) ∧ ((ρ.2 0).i 1) = (q.i 0).fmod (q.i 1 + 1 : Int) => ob (DlP.riter hq hl he0) <| ob (hq.rot hl he0) <| fun he1 : ((ρ.2 1).l 0) = rotN (rlen 0 (q.i 1 - (ρ.2 0).i 1) : Int).toNat (q.l 1) => ob (hq.item hl) <| ob (DlP.ptP hq hl he1) <| fun _ : True => ob (A := (¬(ρ.2 0).i 1 > (0 : Int))) (by rw [he0.2]; exact hb) <| ob (DlStep.next hq hl (DlStep.none hq hl he0 (by rw [he0.2]; exact hb) he1)) <| fun he3 : DlR ((ρ.2 0).i 0 : Int) (q.i 1 + 1 : Int) (q.i 2 - 1 : Int) (q.l 0) ((ρ.2 1).l 0++[Value.str (shS z0) (shT z0)]) ((ρ.2 3).i 0) ((ρ.2 3).l 0) => fin (S_oT W (m + 1)) q (lt [] [((ρ.2 3).t 0),((ρ.2 3).t 1),((ρ.2 3).t 2),((ρ.2 3).t 3),((ρ.2 3).t 4),((ρ.2 3).t 5),((ρ.2 3).t 6),((ρ.2 3).t 7),((ρ.2 3).t 8),((ρ.2 3).t 9)] [((ρ.2 3).i 0)] [] [((ρ.2 3).v 0),((ρ.2 3).v 1),((ρ.2 3).v 2),((ρ.2 3).v 3),((ρ.2 3).v 4)] [((ρ.2 3).l 0)] []) ((DlR.step hq hl (DlStep.none hq hl he0 (by rw [he0.2]; exact hb) he1) he3)) :) ?_
  induction W using y_0 <;> kernel_rfl
theorem oT_t110 (W : Wd) (O : (BB W).Ok) (m : Nat) (ih : (S_oW W true m).Ok) (q : Lt) (hq : (S_oT W (m + 1)).P q) (hl : 0 < (q.i 2)) (hb : (q.i 0).fmod ((q.i 1) + 1) > 0) (hp : (q.i 1).fmod 2 = 0) : At (S_oT W (m + 1)) 100 q := by
  refine tri_f O (stdG _) [U (S_pt W) (pt_ok W O) on_pt,U (S_idm W) (idm_ok W O) on_idm,U (S_rotT W 8) (rotT_ok W O 8) on_rotT,U (S_gs W 8) (gs_ok W O 8) on_gs,U (S_qd W) (qd_ok W O) on_qd,U (S_fwTM W 8) (fun q hq => fwTM_run W O 8 q hq) on_fwTM,⟨(S_oW W true m).con ih,(on_oW true),fun _ => false,[],[]⟩] 2000 100 (hs := hx 251 0x1248000e1830820820820820820000d03850c10010010680800040c03c03cf0a708004104104104104104104004e00e0c3040b420400410400400410000002c000808050200b08200b0820820820820822800c00928024c04d34c10440c00000030000030000030871c71c71c71c71c01863420c102d0810010410010010400000000051400051451410410810400400410420410010010410810400400410010010410010c00000410010430c30c30c30460c00c0) (is := hx 13 0x0)
    (fun (ρ : Rho) => let z0 := strsF (ρ.2 5).t (Txt.split (quoted (joinV (mS [10]) ((ρ.2 3).l 0))) (mS [13,10])) 0; let z1 := itemAt (q.l 0) (Int.toNat (q.i 1)); ob hl <| ob (hq.idp hl) <| fun he0 : ((ρ.2 0).i 0) = (q.i 0).fdiv (q.i 1 + 1 : Int) ∧ ((ρ.2 0).i 1) = (q.i 0).fmod (q.i 1 + 1 : Int) => ob (DlP.riter hq hl he0) <| ob (hq.rot hl he0) <| fun he1 : ((ρ.2 1).l 0) = rotN (rlen 0 (q.i 1 - (ρ.2 0).i 1) : Int).toNat (q.l 1) => ob (hq.item hl) <| ob (DlP.ptP hq hl he1) <| fun _ : True => ob (A := ((ρ.2 0).i 1 > (0 : Int))) (by rw [he0.2]; exact hb) <| ob (A := ((2 : Int) ≠ (0 : Int))) (by decide) <| ob hp <| ob (DlP.riter2 hq hl he0) <| ob (DlP.gm hq hl he0 (by rw [he0.2]; exact hb) he1) <| fun he3 : ((ρ.2 3).l 0) = ([] : List Value)++((ρ.2 1).l 0++[Value.str (shS z1) (shT z1)]).take (rlen 0 ((ρ.2 0).i 1) : Int).toNat ∧ ((ρ.2 3).l 1) = ((ρ.2 1).l 0++[Value.str (shS z1) (shT z1)]).drop (rlen 0 ((ρ.2 0).i 1) : Int).toNat => ob ((DlP.mailP hq hl he0 (by rw [he0.2]; exact hb) he1 he3 10 (by decide)).join) <| ob ((DlP.mailP hq hl he0 (by rw [he0.2]; exact hb) he1 he3 10 (by decide)).quo) <| fun _ : True => ob ((DlP.mailP hq hl he0 (by rw [he0.2]; exact hb) he1 he3 10 (by decide)).split) <| ob trivial <| fun _ : True => ob (A := (FwP (0 : Int) z0 ((ρ.2 3).l 1) 8 ∧ (0 : Int).toNat < z0.length)) ((DlP.mailP hq hl he0 (by rw [he0.2]; exact hb) he1 he3 10 (by decide)).fw1 _) <| fun he5 : ((ρ.2 6).l 0) = ((ρ.2 3).l 1)++z0.drop (0 : Int).toNat => ob (A := (DlP ((ρ.2 0).i 0 : Int) (q.i 1 + 1 : Int) (q.i 2 - 1 : Int) (q.l 0) ((ρ.2 6).l 0) m)) (DlStep.next hq hl (DlStep.some hq hl he0 (by rw [he0.2]; exact hb) he1 rfl he3 10 (by decide) _ he5)) <| fun he6 : DlR ((ρ.2 0).i 0 : Int) (q.i 1 + 1 : Int) (q.i 2 - 1 : Int) (q.l 0) ((ρ.2 6).l 0) ((ρ.2 7).i 0) ((ρ.2 7).l 0) => fin (S_oT W (m + 1)) q (lt [] [((ρ.2 7).t 0),((ρ.2 7).t 1),((ρ.2 7).t 2),((ρ.2 7).t 3),((ρ.2 7).t 4),((ρ.2 7).t 5),((ρ.2 7).t 6),((ρ.2 7).t 7),((ρ.2 7).t 8),((ρ.2 7).t 9)] [((ρ.2 7).i 0)] [] [((ρ.2 7).v 0),((ρ.2 7).v 1),((ρ.2 7).v 2),((ρ.2 7).v 3),((ρ.2 7).v 4)] [((ρ.2 7).l 0)] []) ((DlR.step hq hl (DlStep.some hq hl he0 (by rw [he0.2]; exact hb) he1 rfl he3 10 (by decide) _ he5) he6)) :) ?_
  induction W using y_0 <;> kernel_rfl
theorem oT_t100 (W : Wd) (O : (BB W).Ok) (m : Nat) (ih : (S_oW W true m).Ok) (q : Lt) (hq : (S_oT W (m + 1)).P q) (hl : 0 < (q.i 2)) (hb : (q.i 0).fmod ((q.i 1) + 1) > 0) (hp : ¬ (q.i 1).fmod 2 = 0) : At (S_oT W (m + 1)) 100 q := by
  refine tri_f O (stdG _) [U (S_pt W) (pt_ok W O) on_pt,U (S_idm W) (idm_ok W O) on_idm,U (S_rotT W 8) (rotT_ok W O 8) on_rotT,U (S_gs W 8) (gs_ok W O 8) on_gs,U (S_qd W) (qd_ok W O) on_qd,U (S_fwTM W 8) (fun q hq => fwTM_run W O 8 q hq) on_fwTM,⟨(S_oW W true m).con ih,(on_oW true),fun _ => false,[],[]⟩] 2000 100 (hs := hx 251 0x1248000e1830820820820820820000d03850c10010010680800040c03c03cf0a708004104104104104104104004e00e0c3040b420400410400400410000002c000908050200b08200b0820820820820822800c00928024c04d34c10440c00000030000030000030871c71c71c71c71c01863420c102d0810010410010010400000000051400051451410410810400400410420410010010410810400400410010010410010c00000410010430c30c30c30460c00c0) (is := hx 13 0x0)
    (fun (ρ : Rho) => let z0 := strsF (ρ.2 5).t (Txt.split (quoted (joinV (mS [13]) ((ρ.2 3).l 0))) (mS [13,10])) 0; let z1 := itemAt (q.l 0) (Int.toNat (q.i 1)); ob hl <| ob (hq.idp hl) <| fun he0 : ((ρ.2 0).i 0) = (q.i 0).fdiv (q.i 1 + 1 : Int) ∧ ((ρ.2 0).i 1) = (q.i 0).fmod (q.i 1 + 1 : Int) => ob (DlP.riter hq hl he0) <| ob (hq.rot hl he0) <| fun he1 : ((ρ.2 1).l 0) = rotN (rlen 0 (q.i 1 - (ρ.2 0).i 1) : Int).toNat (q.l 1) => ob (hq.item hl) <| ob (DlP.ptP hq hl he1) <| fun _ : True => ob (A := ((ρ.2 0).i 1 > (0 : Int))) (by rw [he0.2]; exact hb) <| ob (A := ((2 : Int) ≠ (0 : Int))) (by decide) <| ob hp <| ob (DlP.riter2 hq hl he0) <| ob (DlP.gm hq hl he0 (by rw [he0.2]; exact hb) he1) <| fun he3 : ((ρ.2 3).l 0) = ([] : List Value)++((ρ.2 1).l 0++[Value.str (shS z1) (shT z1)]).take (rlen 0 ((ρ.2 0).i 1) : Int).toNat ∧ ((ρ.2 3).l 1) = ((ρ.2 1).l 0++[Value.str (shS z1) (shT z1)]).drop (rlen 0 ((ρ.2 0).i 1) : Int).toNat => ob ((DlP.mailP hq hl he0 (by rw [he0.2]; exact hb) he1 he3 13 (by decide)).join) <| ob ((DlP.mailP hq hl he0 (by rw [he0.2]; exact hb) he1 he3 13 (by decide)).quo) <| fun _ : True => ob ((DlP.mailP hq hl he0 (by rw [he0.2]; exact hb) he1 he3 13 (by decide)).split) <| ob trivial <| fun _ : True => ob (A := (FwP (0 : Int) z0 ((ρ.2 3).l 1) 8 ∧ (0 : Int).toNat < z0.length)) ((DlP.mailP hq hl he0 (by rw [he0.2]; exact hb) he1 he3 13 (by decide)).fw1 _) <| fun he5 : ((ρ.2 6).l 0) = ((ρ.2 3).l 1)++z0.drop (0 : Int).toNat => ob (A := (DlP ((ρ.2 0).i 0 : Int) (q.i 1 + 1 : Int) (q.i 2 - 1 : Int) (q.l 0) ((ρ.2 6).l 0) m)) (DlStep.next hq hl (DlStep.some hq hl he0 (by rw [he0.2]; exact hb) he1 rfl he3 13 (by decide) _ he5)) <| fun he6 : DlR ((ρ.2 0).i 0 : Int) (q.i 1 + 1 : Int) (q.i 2 - 1 : Int) (q.l 0) ((ρ.2 6).l 0) ((ρ.2 7).i 0) ((ρ.2 7).l 0) => fin (S_oT W (m + 1)) q (lt [] [((ρ.2 7).t 0),((ρ.2 7).t 1),((ρ.2 7).t 2),((ρ.2 7).t 3),((ρ.2 7).t 4),((ρ.2 7).t 5),((ρ.2 7).t 6),((ρ.2 7).t 7),((ρ.2 7).t 8),((ρ.2 7).t 9)] [((ρ.2 7).i 0)] [] [((ρ.2 7).v 0),((ρ.2 7).v 1),((ρ.2 7).v 2),((ρ.2 7).v 3),((ρ.2 7).v 4)] [((ρ.2 7).l 0)] []) ((DlR.step hq hl (DlStep.some hq hl he0 (by rw [he0.2]; exact hb) he1 rfl he3 13 (by decide) _ he5) he6)) :) ?_
  induction W using y_0 <;> kernel_rfl
theorem oW_t00 (W : Wd) (O : (BB W).Ok) (sh : Bool) (m : Nat) (ih : (S_oW W sh m).Ok) (q : Lt) (hq : (S_oW W sh (m + 1)).P q) (hl : 0 < (q.i 2)) (hb : ¬ (q.i 0).fmod ((q.i 1) + 1) > 0) : At (S_oW W sh (m + 1)) 100 q := by
  refine tri_f O (stdG _) [U (S_pt W) (pt_ok W O) on_pt,U (S_idm W) (idm_ok W O) on_idm,⟨(S_rotW W sh 8).con (rotW_ok W O sh 8),(on_rotW sh),fun _ => false,[],[]⟩,⟨(S_oW W sh m).con ih,(on_oW sh),fun _ => false,[],[]⟩] 2000 100 (hs := hx 165 0xf3ca28e0c30c200b0820820820820822800c00928024c04d34c10440c00000030000030000030871c71c71c71c71c01863420c102d0810010410010010400000000051400051451410410810400400410420410010010410810400400410010010410010c00000410010430c30c30c30460c00c0) (is := hx 13 0x0)
    (fun (ρ : Rho) => let z0 := itemAt (q.l 0) (Int.toNat (q.i 1)); ob hl <| ob (hq.idp hl) <| fun he0 : ((ρ.2 0).i 0) = (q.i 0).fdiv (q.i 1 + 1 : Int) ∧ ((ρ.2 0).i 1) = (q.i 0).fmod (q.i 1 + 1 : Int) => ob (DlP.riter hq hl he0) <| ob (hq.rot hl he0) <| fun he1 : ((ρ.2 1).l 0) = rotN (rlen 0 (q.i 1 - (ρ.2 0).i 1) : Int).toNat (q.l 1) => ob (hq.item hl) <| ob (DlP.ptP hq hl he1) <| fun _ : True => ob (A := (¬(ρ.2 0).i 1 > (0 : Int))) (by rw [he0.2]; exact hb) <| ob (DlStep.next hq hl (DlStep.none hq hl he0 (by rw [he0.2]; exact hb) he1)) <| fun he3 : DlR ((ρ.2 0).i 0 : Int) (q.i 1 + 1 : Int) (q.i 2 - 1 : Int) (q.l 0) ((ρ.2 1).l 0++[Value.str (shS z0) (shT z0)]) ((ρ.2 3).i 0) ((ρ.2 3).l 0) => fin (S_oW W sh (m + 1)) q (lt [] [((ρ.2 3).t 0),((ρ.2 3).t 1),((ρ.2 3).t 2),((ρ.2 3).t 3),((ρ.2 3).t 4),((ρ.2 3).t 5),((ρ.2 3).t 6),((ρ.2 3).t 7),((ρ.2 3).t 8),((ρ.2 3).t 9)] [((ρ.2 3).i 0)] [] [((ρ.2 3).v 0),((ρ.2 3).v 1),((ρ.2 3).v 2),((ρ.2 3).v 3),((ρ.2 3).v 4)] [((ρ.2 3).l 0)] []) ((DlR.step hq hl (DlStep.none hq hl he0 (by rw [he0.2]; exact hb) he1) he3)) :) ?_
  induction W, sh using y_1 <;> kernel_rfl
theorem oW_t110 (W : Wd) (O : (BB W).Ok) (sh : Bool) (m : Nat) (ih : (S_oW W sh m).Ok) (q : Lt) (hq : (S_oW W sh (m + 1)).P q) (hl : 0 < (q.i 2)) (hb : (q.i 0).fmod ((q.i 1) + 1) > 0) (hp : (q.i 1).fmod 2 = 0) : At (S_oW W sh (m + 1)) 100 q := by
  refine tri_f O (stdG _) [U (S_pt W) (pt_ok W O) on_pt,U (S_idm W) (idm_ok W O) on_idm,⟨(S_rotW W sh 8).con (rotW_ok W O sh 8),(on_rotW sh),fun _ => false,[],[]⟩,U (S_gs W 8) (gs_ok W O 8) on_gs,U (S_qd W) (qd_ok W O) on_qd,⟨(S_fwW W sh 8).con (fwW_ok W O sh 8),(on_fwW sh),fun _ => false,[],[]⟩,⟨(S_oW W sh m).con ih,(on_oW sh),fun _ => false,[],[]⟩] 2000 100 (hs := hx 251 0x1248000e1830820820820820820000d03850c10010010680800040c03c03cf0a708004104104104104104104004e00e0c3040b420400410400400410000002c000808050200b08200b0820820820820822800c00928024c04d34c10440c00000030000030000030871c71c71c71c71c01863420c102d0810010410010010400000000051400051451410410810400400410420410010010410810400400410010010410010c00000410010430c30c30c30460c00c0) (is := hx 13 0x0)
    (fun (ρ : Rho) => let z0 := itemAt (q.l 0) (Int.toNat (q.i 1)); let z1 := strsF (ρ.2 5).t (Txt.split (quoted (joinV (mS [10]) ((ρ.2 3).l 0))) (mS [13,10])) 0; ob hl <| ob (hq.idp hl) <| fun he0 : ((ρ.2 0).i 0) = (q.i 0).fdiv (q.i 1 + 1 : Int) ∧ ((ρ.2 0).i 1) = (q.i 0).fmod (q.i 1 + 1 : Int) => ob (DlP.riter hq hl he0) <| ob (hq.rot hl he0) <| fun he1 : ((ρ.2 1).l 0) = rotN (rlen 0 (q.i 1 - (ρ.2 0).i 1) : Int).toNat (q.l 1) => ob (hq.item hl) <| ob (DlP.ptP hq hl he1) <| fun _ : True => ob (A := ((ρ.2 0).i 1 > (0 : Int))) (by rw [he0.2]; exact hb) <| ob (A := ((2 : Int) ≠ (0 : Int))) (by decide) <| ob hp <| ob (DlP.riter2 hq hl he0) <| ob (DlP.gm hq hl he0 (by rw [he0.2]; exact hb) he1) <| fun he3 : ((ρ.2 3).l 0) = ([] : List Value)++((ρ.2 1).l 0++[Value.str (shS z0) (shT z0)]).take (rlen 0 ((ρ.2 0).i 1) : Int).toNat ∧ ((ρ.2 3).l 1) = ((ρ.2 1).l 0++[Value.str (shS z0) (shT z0)]).drop (rlen 0 ((ρ.2 0).i 1) : Int).toNat => ob ((DlP.mailP hq hl he0 (by rw [he0.2]; exact hb) he1 he3 10 (by decide)).join) <| ob ((DlP.mailP hq hl he0 (by rw [he0.2]; exact hb) he1 he3 10 (by decide)).quo) <| fun _ : True => ob ((DlP.mailP hq hl he0 (by rw [he0.2]; exact hb) he1 he3 10 (by decide)).split) <| ob trivial <| fun _ : True => ob (A := (FwP (0 : Int) z1 ((ρ.2 3).l 1) 8)) ((DlP.mailP hq hl he0 (by rw [he0.2]; exact hb) he1 he3 10 (by decide)).fw _) <| fun he5 : ((ρ.2 6).l 0) = ((ρ.2 3).l 1)++z1.drop (0 : Int).toNat => ob (A := (DlP ((ρ.2 0).i 0 : Int) (q.i 1 + 1 : Int) (q.i 2 - 1 : Int) (q.l 0) ((ρ.2 6).l 0) m)) (DlStep.next hq hl (DlStep.some hq hl he0 (by rw [he0.2]; exact hb) he1 rfl he3 10 (by decide) _ he5)) <| fun he6 : DlR ((ρ.2 0).i 0 : Int) (q.i 1 + 1 : Int) (q.i 2 - 1 : Int) (q.l 0) ((ρ.2 6).l 0) ((ρ.2 7).i 0) ((ρ.2 7).l 0) => fin (S_oW W sh (m + 1)) q (lt [] [((ρ.2 7).t 0),((ρ.2 7).t 1),((ρ.2 7).t 2),((ρ.2 7).t 3),((ρ.2 7).t 4),((ρ.2 7).t 5),((ρ.2 7).t 6),((ρ.2 7).t 7),((ρ.2 7).t 8),((ρ.2 7).t 9)] [((ρ.2 7).i 0)] [] [((ρ.2 7).v 0),((ρ.2 7).v 1),((ρ.2 7).v 2),((ρ.2 7).v 3),((ρ.2 7).v 4)] [((ρ.2 7).l 0)] []) ((DlR.step hq hl (DlStep.some hq hl he0 (by rw [he0.2]; exact hb) he1 rfl he3 10 (by decide) _ he5) he6)) :) ?_
  induction W, sh using y_1 <;> kernel_rfl
theorem oW_t100 (W : Wd) (O : (BB W).Ok) (sh : Bool) (m : Nat) (ih : (S_oW W sh m).Ok) (q : Lt) (hq : (S_oW W sh (m + 1)).P q) (hl : 0 < (q.i 2)) (hb : (q.i 0).fmod ((q.i 1) + 1) > 0) (hp : ¬ (q.i 1).fmod 2 = 0) : At (S_oW W sh (m + 1)) 100 q := by
  refine tri_f O (stdG _) [U (S_pt W) (pt_ok W O) on_pt,U (S_idm W) (idm_ok W O) on_idm,⟨(S_rotW W sh 8).con (rotW_ok W O sh 8),(on_rotW sh),fun _ => false,[],[]⟩,U (S_gs W 8) (gs_ok W O 8) on_gs,U (S_qd W) (qd_ok W O) on_qd,⟨(S_fwW W sh 8).con (fwW_ok W O sh 8),(on_fwW sh),fun _ => false,[],[]⟩,⟨(S_oW W sh m).con ih,(on_oW sh),fun _ => false,[],[]⟩] 2000 100 (hs := hx 251 0x1248000e1830820820820820820000d03850c10010010680800040c03c03cf0a708004104104104104104104004e00e0c3040b420400410400400410000002c000908050200b08200b0820820820820822800c00928024c04d34c10440c00000030000030000030871c71c71c71c71c01863420c102d0810010410010010400000000051400051451410410810400400410420410010010410810400400410010010410010c00000410010430c30c30c30460c00c0) (is := hx 13 0x0)
    (fun (ρ : Rho) => let z0 := itemAt (q.l 0) (Int.toNat (q.i 1)); let z1 := strsF (ρ.2 5).t (Txt.split (quoted (joinV (mS [13]) ((ρ.2 3).l 0))) (mS [13,10])) 0; ob hl <| ob (hq.idp hl) <| fun he0 : ((ρ.2 0).i 0) = (q.i 0).fdiv (q.i 1 + 1 : Int) ∧ ((ρ.2 0).i 1) = (q.i 0).fmod (q.i 1 + 1 : Int) => ob (DlP.riter hq hl he0) <| ob (hq.rot hl he0) <| fun he1 : ((ρ.2 1).l 0) = rotN (rlen 0 (q.i 1 - (ρ.2 0).i 1) : Int).toNat (q.l 1) => ob (hq.item hl) <| ob (DlP.ptP hq hl he1) <| fun _ : True => ob (A := ((ρ.2 0).i 1 > (0 : Int))) (by rw [he0.2]; exact hb) <| ob (A := ((2 : Int) ≠ (0 : Int))) (by decide) <| ob hp <| ob (DlP.riter2 hq hl he0) <| ob (DlP.gm hq hl he0 (by rw [he0.2]; exact hb) he1) <| fun he3 : ((ρ.2 3).l 0) = ([] : List Value)++((ρ.2 1).l 0++[Value.str (shS z0) (shT z0)]).take (rlen 0 ((ρ.2 0).i 1) : Int).toNat ∧ ((ρ.2 3).l 1) = ((ρ.2 1).l 0++[Value.str (shS z0) (shT z0)]).drop (rlen 0 ((ρ.2 0).i 1) : Int).toNat => ob ((DlP.mailP hq hl he0 (by rw [he0.2]; exact hb) he1 he3 13 (by decide)).join) <| ob ((DlP.mailP hq hl he0 (by rw [he0.2]; exact hb) he1 he3 13 (by decide)).quo) <| fun _ : True => ob ((DlP.mailP hq hl he0 (by rw [he0.2]; exact hb) he1 he3 13 (by decide)).split) <| ob trivial <| fun _ : True => ob (A := (FwP (0 : Int) z1 ((ρ.2 3).l 1) 8)) ((DlP.mailP hq hl he0 (by rw [he0.2]; exact hb) he1 he3 13 (by decide)).fw _) <| fun he5 : ((ρ.2 6).l 0) = ((ρ.2 3).l 1)++z1.drop (0 : Int).toNat => ob (A := (DlP ((ρ.2 0).i 0 : Int) (q.i 1 + 1 : Int) (q.i 2 - 1 : Int) (q.l 0) ((ρ.2 6).l 0) m)) (DlStep.next hq hl (DlStep.some hq hl he0 (by rw [he0.2]; exact hb) he1 rfl he3 13 (by decide) _ he5)) <| fun he6 : DlR ((ρ.2 0).i 0 : Int) (q.i 1 + 1 : Int) (q.i 2 - 1 : Int) (q.l 0) ((ρ.2 6).l 0) ((ρ.2 7).i 0) ((ρ.2 7).l 0) => fin (S_oW W sh (m + 1)) q (lt [] [((ρ.2 7).t 0),((ρ.2 7).t 1),((ρ.2 7).t 2),((ρ.2 7).t 3),((ρ.2 7).t 4),((ρ.2 7).t 5),((ρ.2 7).t 6),((ρ.2 7).t 7),((ρ.2 7).t 8),((ρ.2 7).t 9)] [((ρ.2 7).i 0)] [] [((ρ.2 7).v 0),((ρ.2 7).v 1),((ρ.2 7).v 2),((ρ.2 7).v 3),((ρ.2 7).v 4)] [((ρ.2 7).l 0)] []) ((DlR.step hq hl (DlStep.some hq hl he0 (by rw [he0.2]; exact hb) he1 rfl he3 13 (by decide) _ he5) he6)) :) ?_
  induction W, sh using y_1 <;> kernel_rfl
theorem oMW_t00 (W : Wd) (O : (BB W).Ok) (m : Nat) (ih : (S_oW W false m).Ok) (q : Lt) (hq : (S_oMW W (m + 1)).P q) (hl : 0 < (q.i 2)) (hb : ¬ (q.i 0).fmod ((q.i 1) + 1) > 0) (hz : 0 < (q.i 1) - (q.i 0).fmod ((q.i 1) + 1)) : At (S_oMW W (m + 1)) 100 q := by
  refine tri_f O (stdG _) [U (S_pt W) (pt_ok W O) on_pt,U (S_idm W) (idm_ok W O) on_idm,U (S_rot1MW W 8) (fun q hq => rot1MW_run W O 8 q hq) on_rot1MW,⟨(S_oW W false m).con ih,(on_oW false),fun _ => false,[],[]⟩] 2000 100 (hs := hx 165 0xf3ca28e0c30c200b0820820820820822800c00928024c04d34c10440c00000030000030000030871c71c71c71c71c01863420c102d0810010410010010400000000051400051451410410810400400410420410010010410810400400410010010410010c00000410010430c30c30c30460c00c0) (is := hx 13 0x0)
    (fun (ρ : Rho) => let z0 : Int := rlen 0 (q.i 1 - (ρ.2 0).i 1); let z1 := itemAt (q.l 0) (Int.toNat (q.i 1)); ob hl <| ob (hq.idp hl) <| fun he0 : ((ρ.2 0).i 0) = (q.i 0).fdiv (q.i 1 + 1 : Int) ∧ ((ρ.2 0).i 1) = (q.i 0).fmod (q.i 1 + 1 : Int) => ob (DlP.riter hq hl he0) <| ob (A := (RotP z0 (q.l 1) 8 ∧ 0 < z0)) (⟨(hq.rot hl he0),rot_p hz he0.2⟩) <| fun he1 : ((ρ.2 1).l 0) = rotN z0.toNat (q.l 1) => ob (hq.item hl) <| ob (DlP.ptP hq hl he1) <| fun _ : True => ob (A := (¬(ρ.2 0).i 1 > (0 : Int))) (by rw [he0.2]; exact hb) <| ob (DlStep.next hq hl (DlStep.none hq hl he0 (by rw [he0.2]; exact hb) he1)) <| fun he3 : DlR ((ρ.2 0).i 0 : Int) (q.i 1 + 1 : Int) (q.i 2 - 1 : Int) (q.l 0) ((ρ.2 1).l 0++[Value.str (shS z1) (shT z1)]) ((ρ.2 3).i 0) ((ρ.2 3).l 0) => fin (S_oMW W (m + 1)) q (lt [] [((ρ.2 3).t 0),((ρ.2 3).t 1),((ρ.2 3).t 2),((ρ.2 3).t 3),((ρ.2 3).t 4),((ρ.2 3).t 5),((ρ.2 3).t 6),((ρ.2 3).t 7),((ρ.2 3).t 8),((ρ.2 3).t 9)] [((ρ.2 3).i 0)] [] [((ρ.2 3).v 0),((ρ.2 3).v 1),((ρ.2 3).v 2),((ρ.2 3).v 3),((ρ.2 3).v 4)] [((ρ.2 3).l 0)] []) ((DlR.step hq hl (DlStep.none hq hl he0 (by rw [he0.2]; exact hb) he1) he3)) :) ?_
  induction W using y_0 <;> kernel_rfl
theorem oMW_t101 (W : Wd) (O : (BB W).Ok) (m : Nat) (ih : (S_oMW W m).Ok) (q : Lt) (hq : (S_oMW W (m + 1)).P q) (hl : 0 < (q.i 2)) (hb : (q.i 0).fmod ((q.i 1) + 1) > 0) (hp : ¬ (q.i 1).fmod 2 = 0) (hz : (q.i 1) - (q.i 0).fmod ((q.i 1) + 1) ≤ 0) : At (S_oMW W (m + 1)) 100 q := by
  refine tri_f O (stdG _) [U (S_pt W) (pt_ok W O) on_pt,U (S_idm W) (idm_ok W O) on_idm,U (S_rot0MW W 8) (fun q hq => rot0MW_run W O 8 q hq) on_rot0MW,U (S_gs W 8) (gs_ok W O 8) on_gs,U (S_qd W) (qd_ok W O) on_qd,U (S_fwMW W 8) (fwMW_ok W O 8) on_fwMW,U (S_oMW W m) ih on_oMW] 2000 100 (hs := hx 251 0x1248000e1830820820820820820000d03850c10010010680800040c03c03cf0a708004104104104104104104004e00e0c3040b420400410400400410000002c000908050200b08200b0820820820820822800c00928024c04d34c10440c00000030000030000030871c71c71c71c71c01863420c102d0810010410010010400000000051400051451410410810400400410420410010010410810400400410010010410010c00000410010430c30c30c30460c00c0) (is := hx 13 0x0)
    (fun (ρ : Rho) => let z0 := itemAt (q.l 0) (Int.toNat (q.i 1)); let z1 := strsF (ρ.2 5).t (Txt.split (quoted (joinV (mS [13]) ((ρ.2 3).l 0))) (mS [13,10])) 0; let z2 : Int := rlen 0 (q.i 1 - (ρ.2 0).i 1); ob hl <| ob (hq.idp hl) <| fun he0 : ((ρ.2 0).i 0) = (q.i 0).fdiv (q.i 1 + 1 : Int) ∧ ((ρ.2 0).i 1) = (q.i 0).fmod (q.i 1 + 1 : Int) => ob (DlP.riter hq hl he0) <| ob (A := (RotP z2 (q.l 1) 8 ∧ z2 ≤ 0)) (⟨(hq.rot hl he0),rot_z hz he0.2⟩) <| fun he1 : ((ρ.2 1).l 0) = rotN z2.toNat (q.l 1) => ob (hq.item hl) <| ob (DlP.ptP hq hl he1) <| fun _ : True => ob (A := ((ρ.2 0).i 1 > (0 : Int))) (by rw [he0.2]; exact hb) <| ob (A := ((2 : Int) ≠ (0 : Int))) (by decide) <| ob hp <| ob (DlP.riter2 hq hl he0) <| ob (DlP.gm hq hl he0 (by rw [he0.2]; exact hb) he1) <| fun he3 : ((ρ.2 3).l 0) = ([] : List Value)++((ρ.2 1).l 0++[Value.str (shS z0) (shT z0)]).take (rlen 0 ((ρ.2 0).i 1) : Int).toNat ∧ ((ρ.2 3).l 1) = ((ρ.2 1).l 0++[Value.str (shS z0) (shT z0)]).drop (rlen 0 ((ρ.2 0).i 1) : Int).toNat => ob ((DlP.mailP hq hl he0 (by rw [he0.2]; exact hb) he1 he3 13 (by decide)).join) <| ob ((DlP.mailP hq hl he0 (by rw [he0.2]; exact hb) he1 he3 13 (by decide)).quo) <| fun _ : True => ob ((DlP.mailP hq hl he0 (by rw [he0.2]; exact hb) he1 he3 13 (by decide)).split) <| ob trivial <| fun _ : True => ob (A := (FwP (0 : Int) z1 ((ρ.2 3).l 1) 8)) ((DlP.mailP hq hl he0 (by rw [he0.2]; exact hb) he1 he3 13 (by decide)).fw _) <| fun he5 : ((ρ.2 6).l 0) = ((ρ.2 3).l 1)++z1.drop (0 : Int).toNat => ob (A := (DlP ((ρ.2 0).i 0 : Int) (q.i 1 + 1 : Int) (q.i 2 - 1 : Int) (q.l 0) ((ρ.2 6).l 0) m)) (DlStep.next hq hl (DlStep.some hq hl he0 (by rw [he0.2]; exact hb) he1 rfl he3 13 (by decide) _ he5)) <| fun he6 : DlR ((ρ.2 0).i 0 : Int) (q.i 1 + 1 : Int) (q.i 2 - 1 : Int) (q.l 0) ((ρ.2 6).l 0) ((ρ.2 7).i 0) ((ρ.2 7).l 0) => fin (S_oMW W (m + 1)) q (lt [] [((ρ.2 7).t 0),((ρ.2 7).t 1),((ρ.2 7).t 2),((ρ.2 7).t 3),((ρ.2 7).t 4),((ρ.2 7).t 5),((ρ.2 7).t 6),((ρ.2 7).t 7),((ρ.2 7).t 8),((ρ.2 7).t 9)] [((ρ.2 7).i 0)] [] [((ρ.2 7).v 0),((ρ.2 7).v 1),((ρ.2 7).v 2),((ρ.2 7).v 3),((ρ.2 7).v 4)] [((ρ.2 7).l 0)] []) ((DlR.step hq hl (DlStep.some hq hl he0 (by rw [he0.2]; exact hb) he1 rfl he3 13 (by decide) _ he5) he6)) :) ?_
  induction W using y_0 <;> kernel_rfl
theorem oMW_t100 (W : Wd) (O : (BB W).Ok) (m : Nat) (ih : (S_oW W false m).Ok) (q : Lt) (hq : (S_oMW W (m + 1)).P q) (hl : 0 < (q.i 2)) (hb : (q.i 0).fmod ((q.i 1) + 1) > 0) (hp : ¬ (q.i 1).fmod 2 = 0) (hz : 0 < (q.i 1) - (q.i 0).fmod ((q.i 1) + 1)) : At (S_oMW W (m + 1)) 100 q := by
  refine tri_f O (stdG _) [U (S_pt W) (pt_ok W O) on_pt,U (S_idm W) (idm_ok W O) on_idm,U (S_rot1MW W 8) (fun q hq => rot1MW_run W O 8 q hq) on_rot1MW,U (S_gs W 8) (gs_ok W O 8) on_gs,U (S_qd W) (qd_ok W O) on_qd,⟨(S_fwW W false 8).con (fwW_ok W O false 8),(on_fwW false),fun _ => false,[],[]⟩,⟨(S_oW W false m).con ih,(on_oW false),fun _ => false,[],[]⟩] 2000 100 (hs := hx 251 0x1248000e1830820820820820820000d03850c10010010680800040c03c03cf0a708004104104104104104104004e00e0c3040b420400410400400410000002c000908050200b08200b0820820820820822800c00928024c04d34c10440c00000030000030000030871c71c71c71c71c01863420c102d0810010410010010400000000051400051451410410810400400410420410010010410810400400410010010410010c00000410010430c30c30c30460c00c0) (is := hx 13 0x0)
    (fun (ρ : Rho) => let z0 := itemAt (q.l 0) (Int.toNat (q.i 1)); let z1 := strsF (ρ.2 5).t (Txt.split (quoted (joinV (mS [13]) ((ρ.2 3).l 0))) (mS [13,10])) 0; let z2 : Int := rlen 0 (q.i 1 - (ρ.2 0).i 1); ob hl <| ob (hq.idp hl) <| fun he0 : ((ρ.2 0).i 0) = (q.i 0).fdiv (q.i 1 + 1 : Int) ∧ ((ρ.2 0).i 1) = (q.i 0).fmod (q.i 1 + 1 : Int) => ob (DlP.riter hq hl he0) <| ob (A := (RotP z2 (q.l 1) 8 ∧ 0 < z2)) (⟨(hq.rot hl he0),rot_p hz he0.2⟩) <| fun he1 : ((ρ.2 1).l 0) = rotN z2.toNat (q.l 1) => ob (hq.item hl) <| ob (DlP.ptP hq hl he1) <| fun _ : True => ob (A := ((ρ.2 0).i 1 > (0 : Int))) (by rw [he0.2]; exact hb) <| ob (A := ((2 : Int) ≠ (0 : Int))) (by decide) <| ob hp <| ob (DlP.riter2 hq hl he0) <| ob (DlP.gm hq hl he0 (by rw [he0.2]; exact hb) he1) <| fun he3 : ((ρ.2 3).l 0) = ([] : List Value)++((ρ.2 1).l 0++[Value.str (shS z0) (shT z0)]).take (rlen 0 ((ρ.2 0).i 1) : Int).toNat ∧ ((ρ.2 3).l 1) = ((ρ.2 1).l 0++[Value.str (shS z0) (shT z0)]).drop (rlen 0 ((ρ.2 0).i 1) : Int).toNat => ob ((DlP.mailP hq hl he0 (by rw [he0.2]; exact hb) he1 he3 13 (by decide)).join) <| ob ((DlP.mailP hq hl he0 (by rw [he0.2]; exact hb) he1 he3 13 (by decide)).quo) <| fun _ : True => ob ((DlP.mailP hq hl he0 (by rw [he0.2]; exact hb) he1 he3 13 (by decide)).split) <| ob trivial <| fun _ : True => ob (A := (FwP (0 : Int) z1 ((ρ.2 3).l 1) 8)) ((DlP.mailP hq hl he0 (by rw [he0.2]; exact hb) he1 he3 13 (by decide)).fw _) <| fun he5 : ((ρ.2 6).l 0) = ((ρ.2 3).l 1)++z1.drop (0 : Int).toNat => ob (A := (DlP ((ρ.2 0).i 0 : Int) (q.i 1 + 1 : Int) (q.i 2 - 1 : Int) (q.l 0) ((ρ.2 6).l 0) m)) (DlStep.next hq hl (DlStep.some hq hl he0 (by rw [he0.2]; exact hb) he1 rfl he3 13 (by decide) _ he5)) <| fun he6 : DlR ((ρ.2 0).i 0 : Int) (q.i 1 + 1 : Int) (q.i 2 - 1 : Int) (q.l 0) ((ρ.2 6).l 0) ((ρ.2 7).i 0) ((ρ.2 7).l 0) => fin (S_oMW W (m + 1)) q (lt [] [((ρ.2 7).t 0),((ρ.2 7).t 1),((ρ.2 7).t 2),((ρ.2 7).t 3),((ρ.2 7).t 4),((ρ.2 7).t 5),((ρ.2 7).t 6),((ρ.2 7).t 7),((ρ.2 7).t 8),((ρ.2 7).t 9)] [((ρ.2 7).i 0)] [] [((ρ.2 7).v 0),((ρ.2 7).v 1),((ρ.2 7).v 2),((ρ.2 7).v 3),((ρ.2 7).v 4)] [((ρ.2 7).l 0)] []) ((DlR.step hq hl (DlStep.some hq hl he0 (by rw [he0.2]; exact hb) he1 rfl he3 13 (by decide) _ he5) he6)) :) ?_
  induction W using y_0 <;> kernel_rfl
theorem oMW_t111 (W : Wd) (O : (BB W).Ok) (m : Nat) (ih : (S_oMW W m).Ok) (q : Lt) (hq : (S_oMW W (m + 1)).P q) (hl : 0 < (q.i 2)) (hb : (q.i 0).fmod ((q.i 1) + 1) > 0) (hp : (q.i 1).fmod 2 = 0) (hz : (q.i 1) - (q.i 0).fmod ((q.i 1) + 1) ≤ 0) : At (S_oMW W (m + 1)) 100 q := by
  refine tri_f O (stdG _) [U (S_pt W) (pt_ok W O) on_pt,U (S_idm W) (idm_ok W O) on_idm,U (S_rot0MW W 8) (fun q hq => rot0MW_run W O 8 q hq) on_rot0MW,U (S_gs W 8) (gs_ok W O 8) on_gs,U (S_qd W) (qd_ok W O) on_qd,U (S_fwMW W 8) (fwMW_ok W O 8) on_fwMW,U (S_oMW W m) ih on_oMW] 2000 100 (hs := hx 251 0x1248000e1830820820820820820000d03850c10010010680800040c03c03cf0a708004104104104104104104004e00e0c3040b420400410400400410000002c000808050200b08200b0820820820820822800c00928024c04d34c10440c00000030000030000030871c71c71c71c71c01863420c102d0810010410010010400000000051400051451410410810400400410420410010010410810400400410010010410010c00000410010430c30c30c30460c00c0) (is := hx 13 0x0)
    (fun (ρ : Rho) => let z0 := itemAt (q.l 0) (Int.toNat (q.i 1)); let z1 := strsF (ρ.2 5).t (Txt.split (quoted (joinV (mS [10]) ((ρ.2 3).l 0))) (mS [13,10])) 0; let z2 : Int := rlen 0 (q.i 1 - (ρ.2 0).i 1); ob hl <| ob (hq.idp hl) <| fun he0 : ((ρ.2 0).i 0) = (q.i 0).fdiv (q.i 1 + 1 : Int) ∧ ((ρ.2 0).i 1) = (q.i 0).fmod (q.i 1 + 1 : Int) => ob (DlP.riter hq hl he0) <| ob (A := (RotP z2 (q.l 1) 8 ∧ z2 ≤ 0)) (⟨(hq.rot hl he0),rot_z hz he0.2⟩) <| fun he1 : ((ρ.2 1).l 0) = rotN z2.toNat (q.l 1) => ob (hq.item hl) <| ob (DlP.ptP hq hl he1) <| fun _ : True => ob (A := ((ρ.2 0).i 1 > (0 : Int))) (by rw [he0.2]; exact hb) <| ob (A := ((2 : Int) ≠ (0 : Int))) (by decide) <| ob hp <| ob (DlP.riter2 hq hl he0) <| ob (DlP.gm hq hl he0 (by rw [he0.2]; exact hb) he1) <| fun he3 : ((ρ.2 3).l 0) = ([] : List Value)++((ρ.2 1).l 0++[Value.str (shS z0) (shT z0)]).take (rlen 0 ((ρ.2 0).i 1) : Int).toNat ∧ ((ρ.2 3).l 1) = ((ρ.2 1).l 0++[Value.str (shS z0) (shT z0)]).drop (rlen 0 ((ρ.2 0).i 1) : Int).toNat => ob ((DlP.mailP hq hl he0 (by rw [he0.2]; exact hb) he1 he3 10 (by decide)).join) <| ob ((DlP.mailP hq hl he0 (by rw [he0.2]; exact hb) he1 he3 10 (by decide)).quo) <| fun _ : True => ob ((DlP.mailP hq hl he0 (by rw [he0.2]; exact hb) he1 he3 10 (by decide)).split) <| ob trivial <| fun _ : True => ob (A := (FwP (0 : Int) z1 ((ρ.2 3).l 1) 8)) ((DlP.mailP hq hl he0 (by rw [he0.2]; exact hb) he1 he3 10 (by decide)).fw _) <| fun he5 : ((ρ.2 6).l 0) = ((ρ.2 3).l 1)++z1.drop (0 : Int).toNat => ob (A := (DlP ((ρ.2 0).i 0 : Int) (q.i 1 + 1 : Int) (q.i 2 - 1 : Int) (q.l 0) ((ρ.2 6).l 0) m)) (DlStep.next hq hl (DlStep.some hq hl he0 (by rw [he0.2]; exact hb) he1 rfl he3 10 (by decide) _ he5)) <| fun he6 : DlR ((ρ.2 0).i 0 : Int) (q.i 1 + 1 : Int) (q.i 2 - 1 : Int) (q.l 0) ((ρ.2 6).l 0) ((ρ.2 7).i 0) ((ρ.2 7).l 0) => fin (S_oMW W (m + 1)) q (lt [] [((ρ.2 7).t 0),((ρ.2 7).t 1),((ρ.2 7).t 2),((ρ.2 7).t 3),((ρ.2 7).t 4),((ρ.2 7).t 5),((ρ.2 7).t 6),((ρ.2 7).t 7),((ρ.2 7).t 8),((ρ.2 7).t 9)] [((ρ.2 7).i 0)] [] [((ρ.2 7).v 0),((ρ.2 7).v 1),((ρ.2 7).v 2),((ρ.2 7).v 3),((ρ.2 7).v 4)] [((ρ.2 7).l 0)] []) ((DlR.step hq hl (DlStep.some hq hl he0 (by rw [he0.2]; exact hb) he1 rfl he3 10 (by decide) _ he5) he6)) :) ?_
  induction W using y_0 <;> kernel_rfl
theorem oMW_t110 (W : Wd) (O : (BB W).Ok) (m : Nat) (ih : (S_oW W false m).Ok) (q : Lt) (hq : (S_oMW W (m + 1)).P q) (hl : 0 < (q.i 2)) (hb : (q.i 0).fmod ((q.i 1) + 1) > 0) (hp : (q.i 1).fmod 2 = 0) (hz : 0 < (q.i 1) - (q.i 0).fmod ((q.i 1) + 1)) : At (S_oMW W (m + 1)) 100 q := by
  refine tri_f O (stdG _) [U (S_pt W) (pt_ok W O) on_pt,U (S_idm W) (idm_ok W O) on_idm,U (S_rot1MW W 8) (fun q hq => rot1MW_run W O 8 q hq) on_rot1MW,U (S_gs W 8) (gs_ok W O 8) on_gs,U (S_qd W) (qd_ok W O) on_qd,⟨(S_fwW W false 8).con (fwW_ok W O false 8),(on_fwW false),fun _ => false,[],[]⟩,⟨(S_oW W false m).con ih,(on_oW false),fun _ => false,[],[]⟩] 2000 100 (hs := hx 251 0x1248000e1830820820820820820000d03850c10010010680800040c03c03cf0a708004104104104104104104004e00e0c3040b420400410400400410000002c000808050200b08200b0820820820820822800c00928024c04d34c10440c00000030000030000030871c71c71c71c71c01863420c102d0810010410010010400000000051400051451410410810400400410420410010010410810400400410010010410010c00000410010430c30c30c30460c00c0) (is := hx 13 0x0)
    (fun (ρ : Rho) => let z0 := itemAt (q.l 0) (Int.toNat (q.i 1)); let z1 := strsF (ρ.2 5).t (Txt.split (quoted (joinV (mS [10]) ((ρ.2 3).l 0))) (mS [13,10])) 0; let z2 : Int := rlen 0 (q.i 1 - (ρ.2 0).i 1); ob hl <| ob (hq.idp hl) <| fun he0 : ((ρ.2 0).i 0) = (q.i 0).fdiv (q.i 1 + 1 : Int) ∧ ((ρ.2 0).i 1) = (q.i 0).fmod (q.i 1 + 1 : Int) => ob (DlP.riter hq hl he0) <| ob (A := (RotP z2 (q.l 1) 8 ∧ 0 < z2)) (⟨(hq.rot hl he0),rot_p hz he0.2⟩) <| fun he1 : ((ρ.2 1).l 0) = rotN z2.toNat (q.l 1) => ob (hq.item hl) <| ob (DlP.ptP hq hl he1) <| fun _ : True => ob (A := ((ρ.2 0).i 1 > (0 : Int))) (by rw [he0.2]; exact hb) <| ob (A := ((2 : Int) ≠ (0 : Int))) (by decide) <| ob hp <| ob (DlP.riter2 hq hl he0) <| ob (DlP.gm hq hl he0 (by rw [he0.2]; exact hb) he1) <| fun he3 : ((ρ.2 3).l 0) = ([] : List Value)++((ρ.2 1).l 0++[Value.str (shS z0) (shT z0)]).take (rlen 0 ((ρ.2 0).i 1) : Int).toNat ∧ ((ρ.2 3).l 1) = ((ρ.2 1).l 0++[Value.str (shS z0) (shT z0)]).drop (rlen 0 ((ρ.2 0).i 1) : Int).toNat => ob ((DlP.mailP hq hl he0 (by rw [he0.2]; exact hb) he1 he3 10 (by decide)).join) <| ob ((DlP.mailP hq hl he0 (by rw [he0.2]; exact hb) he1 he3 10 (by decide)).quo) <| fun _ : True => ob ((DlP.mailP hq hl he0 (by rw [he0.2]; exact hb) he1 he3 10 (by decide)).split) <| ob trivial <| fun _ : True => ob (A := (FwP (0 : Int) z1 ((ρ.2 3).l 1) 8)) ((DlP.mailP hq hl he0 (by rw [he0.2]; exact hb) he1 he3 10 (by decide)).fw _) <| fun he5 : ((ρ.2 6).l 0) = ((ρ.2 3).l 1)++z1.drop (0 : Int).toNat => ob (A := (DlP ((ρ.2 0).i 0 : Int) (q.i 1 + 1 : Int) (q.i 2 - 1 : Int) (q.l 0) ((ρ.2 6).l 0) m)) (DlStep.next hq hl (DlStep.some hq hl he0 (by rw [he0.2]; exact hb) he1 rfl he3 10 (by decide) _ he5)) <| fun he6 : DlR ((ρ.2 0).i 0 : Int) (q.i 1 + 1 : Int) (q.i 2 - 1 : Int) (q.l 0) ((ρ.2 6).l 0) ((ρ.2 7).i 0) ((ρ.2 7).l 0) => fin (S_oMW W (m + 1)) q (lt [] [((ρ.2 7).t 0),((ρ.2 7).t 1),((ρ.2 7).t 2),((ρ.2 7).t 3),((ρ.2 7).t 4),((ρ.2 7).t 5),((ρ.2 7).t 6),((ρ.2 7).t 7),((ρ.2 7).t 8),((ρ.2 7).t 9)] [((ρ.2 7).i 0)] [] [((ρ.2 7).v 0),((ρ.2 7).v 1),((ρ.2 7).v 2),((ρ.2 7).v 3),((ρ.2 7).v 4)] [((ρ.2 7).l 0)] []) ((DlR.step hq hl (DlStep.some hq hl he0 (by rw [he0.2]; exact hb) he1 rfl he3 10 (by decide) _ he5) he6)) :) ?_
  induction W using y_0 <;> kernel_rfl
theorem ob_t00 (W : Wd) (O : (BB W).Ok) (m : Nat) (ih : (S_oT W m).Ok) (q : Lt) (hq : (S_ob W (m + 1)).P q) (hl : 0 < (q.i 2)) (hb : ¬ (q.i 0).fmod ((q.i 1) + 1) > 0) (hz : 0 < (q.i 1) - (q.i 0).fmod ((q.i 1) + 1)) : At (S_ob W (m + 1)) 100 q := by
  refine tri_f O (stdG _) [U (S_pt W) (pt_ok W O) on_pt,U (S_idm W) (idm_ok W O) on_idm,U (S_rot1 W 8) (fun q hq => rot1_run W O 8 q hq) on_rot1,U (S_oT W m) ih on_oT] 2000 100 (hs := hx 165 0xf3ca28e0c30c200b0820820820820822800c00928024c04d34c10440c00000030000030000030871c71c71c71c71c01863420c102d0810010410010010400000000051400051451410410810400400410420410010010410810400400410010010410010c00000410010430c30c30c30460c00c0) (is := hx 13 0x0)
    (fun (ρ : Rho) => let z0 : Int := rlen 0 (q.i 1 - (ρ.2 0).i 1); let z1 := itemAt (q.l 0) (Int.toNat (q.i 1)); ob hl <| ob (hq.1.idp hl) <| fun he0 : ((ρ.2 0).i 0) = (q.i 0).fdiv (q.i 1 + 1 : Int) ∧ ((ρ.2 0).i 1) = (q.i 0).fmod (q.i 1 + 1 : Int) => ob (DlP.riter hq.1 hl he0) <| ob (A := (RotP z0 (q.l 1) 8 ∧ 0 < z0)) (⟨(hq.1.rot hl he0),rot_p hz he0.2⟩) <| fun he1 : ((ρ.2 1).l 0) = rotN z0.toNat (q.l 1) => ob (hq.1.item hl) <| ob (DlP.ptP hq.1 hl he1) <| fun _ : True => ob (A := (¬(ρ.2 0).i 1 > (0 : Int))) (by rw [he0.2]; exact hb) <| ob (DlStep.next hq.1 hl (DlStep.none hq.1 hl he0 (by rw [he0.2]; exact hb) he1)) <| fun he3 : DlR ((ρ.2 0).i 0 : Int) (q.i 1 + 1 : Int) (q.i 2 - 1 : Int) (q.l 0) ((ρ.2 1).l 0++[Value.str (shS z1) (shT z1)]) ((ρ.2 3).i 0) ((ρ.2 3).l 0) => fin (S_ob W (m + 1)) q (lt [] [((ρ.2 3).t 0),((ρ.2 3).t 1),((ρ.2 3).t 2),((ρ.2 3).t 3),((ρ.2 3).t 4),((ρ.2 3).t 5),((ρ.2 3).t 6),((ρ.2 3).t 7),((ρ.2 3).t 8),((ρ.2 3).t 9)] [((ρ.2 3).i 0)] [] [((ρ.2 3).v 0),((ρ.2 3).v 1),((ρ.2 3).v 2),((ρ.2 3).v 3),((ρ.2 3).v 4)] [((ρ.2 3).l 0)] []) ((DlR.step hq.1 hl (DlStep.none hq.1 hl he0 (by rw [he0.2]; exact hb) he1) he3)) :) ?_
  induction W using y_0 <;> kernel_rfl
theorem ob_t101 (W : Wd) (O : (BB W).Ok) (m : Nat) (ih : (S_oMW W m).Ok) (q : Lt) (hq : (S_ob W (m + 1)).P q) (hl : 0 < (q.i 2)) (hb : (q.i 0).fmod ((q.i 1) + 1) > 0) (hp : ¬ (q.i 1).fmod 2 = 0) (hz : (q.i 1) - (q.i 0).fmod ((q.i 1) + 1) ≤ 0) : At (S_ob W (m + 1)) 100 q := by
  refine tri_f O (stdG _) [U (S_pt W) (pt_ok W O) on_pt,U (S_idm W) (idm_ok W O) on_idm,U (S_rot0 W 8) (fun q hq => rot0_run W O 8 q hq) on_rot0,U (S_gs W 8) (gs_ok W O 8) on_gs,U (S_qd W) (qd_ok W O) on_qd,U (S_fwM W 8) (fun q hq => fwM_run W O 8 q hq) on_fwM,U (S_oMW W m) ih on_oMW] 2000 100 (hs := hx 251 0x1248000e1830820820820820820000d03850c10010010680800040c03c03cf0a708004104104104104104104004e00e0c3040b420400410400400410000002c000908050200b08200b0820820820820822800c00928024c04d34c10440c00000030000030000030871c71c71c71c71c01863420c102d0810010410010010400000000051400051451410410810400400410420410010010410810400400410010010410010c00000410010430c30c30c30460c00c0) (is := hx 13 0x0)
    (fun (ρ : Rho) => let z0 := strsF (ρ.2 5).t (Txt.split (quoted (joinV (mS [13]) ((ρ.2 3).l 0))) (mS [13,10])) 0; let z1 := itemAt (q.l 0) (Int.toNat (q.i 1)); let z2 : Int := rlen 0 (q.i 1 - (ρ.2 0).i 1); ob hl <| ob (hq.1.idp hl) <| fun he0 : ((ρ.2 0).i 0) = (q.i 0).fdiv (q.i 1 + 1 : Int) ∧ ((ρ.2 0).i 1) = (q.i 0).fmod (q.i 1 + 1 : Int) => ob (DlP.riter hq.1 hl he0) <| ob (A := (RotP z2 (q.l 1) 8 ∧ z2 ≤ 0)) (⟨(hq.1.rot hl he0),rot_z hz he0.2⟩) <| fun he1 : ((ρ.2 1).l 0) = rotN z2.toNat (q.l 1) => ob (hq.1.item hl) <| ob (DlP.ptP hq.1 hl he1) <| fun _ : True => ob (A := ((ρ.2 0).i 1 > (0 : Int))) (by rw [he0.2]; exact hb) <| ob (A := ((2 : Int) ≠ (0 : Int))) (by decide) <| ob hp <| ob (DlP.riter2 hq.1 hl he0) <| ob (DlP.gm hq.1 hl he0 (by rw [he0.2]; exact hb) he1) <| fun he3 : ((ρ.2 3).l 0) = ([] : List Value)++((ρ.2 1).l 0++[Value.str (shS z1) (shT z1)]).take (rlen 0 ((ρ.2 0).i 1) : Int).toNat ∧ ((ρ.2 3).l 1) = ((ρ.2 1).l 0++[Value.str (shS z1) (shT z1)]).drop (rlen 0 ((ρ.2 0).i 1) : Int).toNat => ob ((DlP.mailP hq.1 hl he0 (by rw [he0.2]; exact hb) he1 he3 13 (by decide)).join) <| ob ((DlP.mailP hq.1 hl he0 (by rw [he0.2]; exact hb) he1 he3 13 (by decide)).quo) <| fun _ : True => ob ((DlP.mailP hq.1 hl he0 (by rw [he0.2]; exact hb) he1 he3 13 (by decide)).split) <| ob trivial <| fun _ : True => ob (A := (FwP (0 : Int) z0 ((ρ.2 3).l 1) 8 ∧ (0 : Int).toNat < z0.length)) ((DlP.mailP hq.1 hl he0 (by rw [he0.2]; exact hb) he1 he3 13 (by decide)).fw1 _) <| fun he5 : ((ρ.2 6).l 0) = ((ρ.2 3).l 1)++z0.drop (0 : Int).toNat => ob (A := (DlP ((ρ.2 0).i 0 : Int) (q.i 1 + 1 : Int) (q.i 2 - 1 : Int) (q.l 0) ((ρ.2 6).l 0) m)) (DlStep.next hq.1 hl (DlStep.some hq.1 hl he0 (by rw [he0.2]; exact hb) he1 rfl he3 13 (by decide) _ he5)) <| fun he6 : DlR ((ρ.2 0).i 0 : Int) (q.i 1 + 1 : Int) (q.i 2 - 1 : Int) (q.l 0) ((ρ.2 6).l 0) ((ρ.2 7).i 0) ((ρ.2 7).l 0) => fin (S_ob W (m + 1)) q (lt [] [((ρ.2 7).t 0),((ρ.2 7).t 1),((ρ.2 7).t 2),((ρ.2 7).t 3),((ρ.2 7).t 4),((ρ.2 7).t 5),((ρ.2 7).t 6),((ρ.2 7).t 7),((ρ.2 7).t 8),((ρ.2 7).t 9)] [((ρ.2 7).i 0)] [] [((ρ.2 7).v 0),((ρ.2 7).v 1),((ρ.2 7).v 2),((ρ.2 7).v 3),((ρ.2 7).v 4)] [((ρ.2 7).l 0)] []) ((DlR.step hq.1 hl (DlStep.some hq.1 hl he0 (by rw [he0.2]; exact hb) he1 rfl he3 13 (by decide) _ he5) he6)) :) ?_
  induction W using y_0 <;> kernel_rfl
theorem o_ok (W : Wd) (O : (BB W).Ok) : ∀ m, (S_oT W m).Ok ∧ (S_oMW W m).Ok ∧ (S_oW W true m).Ok ∧ (S_oW W false m).Ok
  | 0 => ⟨fun q hq => oT_end W O 0 q hq (by have h : DlP _ _ _ _ _ _ := hq; have := h.lm; lia), fun q hq => oMW_end W O 0 q hq (by have h : DlP _ _ _ _ _ _ := hq; have := h.lm; lia), fun q hq => oW_end W O true 0 q hq (by have h : DlP _ _ _ _ _ _ := hq; have := h.lm; lia), fun q hq => oW_end W O false 0 q hq (by have h : DlP _ _ _ _ _ _ := hq; have := h.lm; lia)⟩
  | m + 1 => ⟨fun q hq => by
      by_cases hl : (q.i 2) ≤ 0
      · exact oT_end W O (m + 1) q hq hl
      · by_cases hb : (q.i 0).fmod ((q.i 1) + 1) > 0
        · by_cases hp : (q.i 1).fmod 2 = 0
          · exact oT_t110 W O m (o_ok W O m).2.2.1 q hq (by lia) hb hp
          · exact oT_t100 W O m (o_ok W O m).2.2.1 q hq (by lia) hb hp
        · skip
          exact oT_t00 W O m (o_ok W O m).1 q hq (by lia) hb,
    fun q hq => by
      by_cases hl : (q.i 2) ≤ 0
      · exact oMW_end W O (m + 1) q hq hl
      · by_cases hb : (q.i 0).fmod ((q.i 1) + 1) > 0
        · by_cases hp : (q.i 1).fmod 2 = 0
          · by_cases hz : (q.i 1) - (q.i 0).fmod ((q.i 1) + 1) ≤ 0
            · exact oMW_t111 W O m (o_ok W O m).2.1 q hq (by lia) hb hp hz
            · have hz : 0 < (q.i 1) - (q.i 0).fmod ((q.i 1) + 1) := by lia
              exact oMW_t110 W O m (o_ok W O m).2.2.2 q hq (by lia) hb hp hz
          · by_cases hz : (q.i 1) - (q.i 0).fmod ((q.i 1) + 1) ≤ 0
            · exact oMW_t101 W O m (o_ok W O m).2.1 q hq (by lia) hb hp hz
            · have hz : 0 < (q.i 1) - (q.i 0).fmod ((q.i 1) + 1) := by lia
              exact oMW_t100 W O m (o_ok W O m).2.2.2 q hq (by lia) hb hp hz
        · skip
          have hz : 0 < (q.i 1) - (q.i 0).fmod ((q.i 1) + 1) := by have hh : DlP _ _ _ _ _ _ := hq; have := hh.rz; have := hh.c1; lia
          exact oMW_t00 W O m (o_ok W O m).2.2.2 q hq (by lia) hb hz,
    fun q hq => by
      by_cases hl : (q.i 2) ≤ 0
      · exact oW_end W O true (m + 1) q hq hl
      · by_cases hb : (q.i 0).fmod ((q.i 1) + 1) > 0
        · by_cases hp : (q.i 1).fmod 2 = 0
          · exact oW_t110 W O true m (o_ok W O m).2.2.1 q hq (by lia) hb hp
          · exact oW_t100 W O true m (o_ok W O m).2.2.1 q hq (by lia) hb hp
        · skip
          exact oW_t00 W O true m (o_ok W O m).2.2.1 q hq (by lia) hb,
    fun q hq => by
      by_cases hl : (q.i 2) ≤ 0
      · exact oW_end W O false (m + 1) q hq hl
      · by_cases hb : (q.i 0).fmod ((q.i 1) + 1) > 0
        · by_cases hp : (q.i 1).fmod 2 = 0
          · exact oW_t110 W O false m (o_ok W O m).2.2.2 q hq (by lia) hb hp
          · exact oW_t100 W O false m (o_ok W O m).2.2.2 q hq (by lia) hb hp
        · skip
          exact oW_t00 W O false m (o_ok W O m).2.2.2 q hq (by lia) hb⟩
theorem ob_ok (W : Wd) (O : (BB W).Ok) (m : Nat) : (S_ob W (m + 1)).Ok := fun q hq => by
  have hh : DlP _ _ _ _ _ _ := hq.1
  have h1 : (q.i 1) = 1 := hq.2.2
  have h2 := hh.rz
  by_cases hb : (q.i 0).fmod ((q.i 1) + 1) > 0
  · exact ob_t101 W O m (o_ok W O m).2.1 q hq hq.2.1 hb (by rw [h1]; decide) (by lia)
  · exact ob_t00 W O m (o_ok W O m).1 q hq hq.2.1 hb (by lia)
end Mine
end
section
namespace Mine
open PySem PySem.Spec PySem.Calls PyProof.Rows PySem.W PySem.W.X
noncomputable def execsZ : List Stmt → Env → Sem Flow := PySem.W.ZFast.zw12563942051412417395
theorem execsZ_eq : execs = execsZ := PySem.W.ZFast.ze12563942051412417395
noncomputable def Seg (B : Bs) (d : Nat) (sts : List Stmt) (env : Env) (pre : View) (post : Result → View → Prop) : Prop :=
  ∀ A s, Room A d → Rep B pre s → wpAny (model B.prog B.w) A (execs sts env) (fun f s' => ∃ V', post (.ok f) V' ∧ Rep B V' s' ∧ Ext B pre V' s s') (fun e s' => ∃ V', post (.error e) V' ∧ Rep B V' s' ∧ Ext B pre V' s s') s
noncomputable def blkS : Code → List Stmt
  | .block sts _ => sts
  | _ => []
noncomputable def blkE : Code → Env
  | .block _ env => env
  | _ => default
noncomputable abbrev SegC (B : Bs) (d : Nat) (c : Code) (pre : View) (post : Result → View → Prop) : Prop := Seg B d (blkS c) (blkE c) pre post
theorem seg_of_run_end {B : Bs} (O : B.Ok) (bc : List (BCut B)) (cs : List (Use B)) (n d : Nat) {sts : List Stmt} {env : Env} {pre : View} {hs is : List Nat} {post : Result → View → Prop}
    (h : N (run B bc cs n d (.tree Flow (execsZ sts env) (endK post is)) pre hs)) : Seg B d sts env pre post := fun A s R D => by
  have z := run_sound O bc cs n d _ pre hs h A s R D
  rw [execsZ_eq]
  have key : ∀ (r : Result) (s' : Shared), (∃ V' hs', N (endK post is r V' hs') ∧ Rep B V' s' ∧ Ext B pre V' s s') → ∃ V', post r V' ∧ Rep B V' s' ∧ Ext B pre V' s s' := by
    rintro r s' ⟨V', _, q, D', x⟩
    unfold endK at q
    split at q
    · rename_i q' e
      obtain ⟨ps, rest⟩ := q'
      have pm := pull_perm e
      refine ⟨ps, q, (D'.perm pm).left, ⟨x.same, fun a ha => x.new a ?_, x.there⟩⟩
      have pe : (excl V').Perm (excl (ps ++ rest)) := (pm.filter _).map _
      exact pe.mem_iff.mpr (by rw [excl_append]; exact List.mem_append_left _ ha)
    · cases q
  exact wpAny_mono z (fun f s' h => key _ _ h) (fun e s' h => key _ _ h)
theorem execs_app' {M : Model} {Γ : PySem.Ctx} {env : Env} {Q : Flow → Pos → Shared → Prop} {E : Value → Pos → Shared → Prop} (b : List Stmt) : ∀ (a : List Stmt) {p : Pos} {s : Shared},
    Sem.wp M Γ (execs a env) (fun f p' s' => match f with | .next => Sem.wp M Γ (execs b env) Q E p' s' | f => Q f p' s') E p s → Sem.wp M Γ (execs (a ++ b) env) Q E p s
  | [], p, s, h => h
  | st :: a, p, s, h => by
    rw [execs_cons, Sem.wp_bind'] at h
    rw [List.cons_append, execs_cons, Sem.wp_bind']
    refine Sem.wp_mono M Γ _ (fun f p' s' h' => ?_) (fun _ _ _ h' => h') _ _ h
    cases f with
    | next => exact execs_app' b a h'
    | _ => exact h'
theorem execs_app {M : Model} {A : Around} {env : Env} {Q : Flow → Shared → Prop} {E : Value → Shared → Prop} (a b : List Stmt) {s : Shared}
    (h : wpAny M A (execs a env) (fun f s' => match f with | .next => wpAny M A (execs b env) Q E s' | f => Q f s') E s) : wpAny M A (execs (a ++ b) env) Q E s := fun Γ p hΓ =>
  execs_app' b a (by
    have z := h Γ p hΓ
    refine Sem.wp_mono M Γ _ ?_ (fun _ _ _ x => x) _ _ z
    intro f p' s' h'
    cases f with
    | next => exact h' Γ p' hΓ
    | _ => exact h')
theorem Seg.app {B : Bs} {d : Nat} {a b : List Stmt} {env : Env} {pre : View} {mid : Result → View → Prop} {post : Result → View → Prop} (h : Seg B d a env pre mid)
    (hf : ∀ r V, mid r V → r = .ok .next) (k : ∀ V, mid (.ok .next) V → Seg B d b env V post) : Seg B d (a ++ b) env pre post := fun A s R D => by
  refine execs_app a b (wpAny_mono (h A s R D) (fun f s' ⟨V', q, D', x⟩ => ?_) (fun e s' ⟨V', q, _⟩ => by cases hf _ _ q))
  have := hf _ _ q
  injection this with this
  subst this
  exact wpAny_mono (k V' q A s' R D') (fun f s2 ⟨V2, q2, D2, x2⟩ => ⟨V2, q2, D2, x.trans x2⟩) (fun f s2 ⟨V2, q2, D2, x2⟩ => ⟨V2, q2, D2, x.trans x2⟩)
theorem Seg.mono {B : Bs} {d d' : Nat} {sts : List Stmt} {env : Env} {pre : View} {post post' : Result → View → Prop} (h : Seg B d sts env pre post) (hd : d ≤ d') (k : ∀ f V, post f V → post' f V) : Seg B d' sts env pre post' := fun A s R D =>
  wpAny_mono (h A s (R.le hd) D) (fun f s' ⟨V', q, D', x⟩ => ⟨V', k _ _ q, D', x⟩) (fun f s' ⟨V', q, D', x⟩ => ⟨V', k _ _ q, D', x⟩)
noncomputable def flowV : Flow → Value
  | .ret v => v
  | _ => .none
theorem tri_func {B : Bs} {d : Nat} {body : List Stmt} {env : Env} {pre : View} {post : Result → View → Prop} (h : Seg B d body env pre post) (hf : ∀ e V, ¬ post (.error e) V) :
    Tri B (d + 1) (.func body env) pre (fun r V => ∃ f, post (.ok f) V ∧ r = .ok (.ret (flowV f))) := fun A s R D => by
  refine codeAny_of_tree ?_
  refine wpAny_bind (wpAny_point ?_)
  refine wpAny_bind (wpAny_onRaise (wpAny_mono (h _ s (R.under rfl) D) (fun f s' ⟨V', q, D', x⟩ => ?_) (fun _ _ ⟨_, q, _⟩ => (hf _ _ q).elim)))
  cases f <;> exact wpAny_pure ⟨V', ⟨_, q, rfl⟩, D', x⟩
theorem seg_f {B : Bs} (O : B.Ok) (bc : List (BCut B)) (cs : List (Use B)) (n d : Nat) {sts : List Stmt} {env : Env} {pre : View} {hs is : List Nat} {post : Result → View → Prop} {T : Rho → Prop} (p : ∀ r, T r) (e : Eqn (run B bc cs n d (.tree Flow (execsZ sts env) (endK post is)) pre hs) T) : Seg B d sts env pre post := seg_of_run_end O bc cs n d (flat_N p e)
end Mine
end
section
namespace Mine
open PySem PySem.Spec PySem.Calls PyProof.Rows PySem.W PySem.W.X PySem.SeqAt
noncomputable def evalZ : Expr → Env → Sem Value := PySem.W.ZFast.zw14044960220447912780
theorem evalZ_eq : eval = evalZ := PySem.W.ZFast.ze14044960220447912780
noncomputable def eqW : Value → Value → Prop
  | .int i _, .int j _ => i = j
  | .str x _, .str y _ => x = y
  | _, _ => False
noncomputable def EqLs (P : Value → Value → Prop) : List Value → List Value → Prop
  | [], [] => True
  | x :: xs, y :: ys => P x y ∧ EqLs P xs ys
  | _, _ => False
theorem EqLs.len {P : Value → Value → Prop} : ∀ {xs ys : List Value}, EqLs P xs ys → xs.length = ys.length
  | [], [], _ => rfl
  | x :: xs, y :: ys, h => by simp [EqLs.len h.2]
  | [], y :: ys, h => h.elim
  | x :: xs, [], h => h.elim
theorem EqLs.at {P : Value → Value → Prop} : ∀ {xs ys : List Value}, EqLs P xs ys → ∀ j (h1 : j < xs.length) (h2 : j < ys.length), P xs[j] ys[j]
  | [], _, _, j, h1, _ => absurd h1 (Nat.not_lt_zero _)
  | x :: xs, [], h, _, _, _ => h.elim
  | x :: xs, y :: ys, h, 0, _, _ => h.1
  | x :: xs, y :: ys, h, j + 1, h1, h2 => EqLs.at h.2 j (by simpa using h1) (by simpa using h2)
theorem eqW_at {A : Around} {s : Shared} {x y : Value} (h : eqW x y) : EqAt A s x y true := by
  unfold eqW at h
  split at h
  · subst h
    rename_i i t u
    have z := EqAt.int_int (A := A) (s := s) i t i u
    rw [beq_self_eq_true] at z
    exact z
  · subst h
    rename_i i t u
    have z := EqAt.str_str (A := A) (s := s) i t i u
    rw [beq_self_eq_true] at z
    exact z
  · cases h
theorem tList_eq : tList = .type "list" := by unfold tList; kernel_rfl
theorem all_true (n : Nat) : (List.range n).all (fun _ => true) = true := by simp
end Mine
end
section
namespace Mine
open PySem PySem.Spec PySem.Calls PyProof.Rows PySem.W PySem.W.X PySem.Builtin PySem.Builtin.Str PySem.Builtin.Int PySem.StrLaws
structure DeP (num : Int) (ws : List Value) : Prop where
  w2 : 2 ≤ ws.length
  w6 : ws.length ≤ 6
  nb : num.natAbs < 65536
  w : Line ws ws.length 8
theorem DeP.item {num : Int} {ws : List Value} (h : DeP num ws) : ((0 : Int) ≤ 0 ∧ (0 : Int).toNat < ws.length ∧ ws.length ≤ sizeLine) ∧ itemAt ws (0 : Int).toNat = .str (shS (itemAt ws (0 : Int).toNat)) (shT (itemAt ws (0 : Int).toNat)) := by
  have h1 := h.w2; have h2 := h.w6; have := line100
  have hi : (0 : Int).toNat < ws.length := by show 0 < _; lia
  exact ⟨⟨by lia, hi, by lia⟩, h.w.st _ (List.mem_of_getElem? (itemAt_eq hi))⟩
theorem DeP.len {num : Int} {ws : List Value} (h : DeP num ws) : ws.length ≤ sizeLine := by
  have h2 := h.w6; have := line100; lia
theorem DeP.iter {num : Int} {ws : List Value} (h : DeP num ws) : (1 : Int) = 1 ∧ (-(2 : Int) ^ 62 ≤ 1 ∧ (1 : Int) < 2 ^ 62) ∧ -(2 : Int) ^ 62 ≤ (ws.length : Int) ∧ (ws.length : Int) < (2 : Int) ^ 62 := by
  have h2 := h.w6; lia
theorem DeP.rl {num : Int} {ws : List Value} (h : DeP num ws) : rlen 1 (ws.length : Int) = ws.length - 1 := by
  have h2 := h.w2
  unfold rlen; split <;> lia
theorem DeP.dl {num : Int} {ws : List Value} (h : DeP num ws) : DlP num 1 (rlen 1 (ws.length : Int)) ws [Value.str (shS (itemAt ws (0 : Int).toNat)) (shT (itemAt ws (0 : Int).toNat))] 8 ∧ 0 < rlen 1 (ws.length : Int) ∧ (1 : Int) = 1 := by
  have h1 := h.w2; have h2 := h.w6
  rw [h.rl]
  have hi : (0 : Int).toNat < ws.length := by show 0 < _; lia
  have hw := h.w.wd _ (List.mem_of_getElem? (itemAt_eq hi))
  refine ⟨⟨by lia, by lia, by lia, by lia, h2, h.nb, h.w, ⟨AllStr.one _ _, rfl, fun v hv => ?_⟩⟩, by lia, rfl⟩
  rcases List.mem_cons.mp hv with rfl | hv
  · exact ⟨hw.1, Nat.le_trans hw.2 (by decide)⟩
  · simp at hv
theorem DeP.R {num : Int} {ws : List Value} (h : DeP num ws) {n' : Int} {l' : List Value} (r : DlR num 1 (rlen 1 (ws.length : Int)) ws [Value.str (shS (itemAt ws (0 : Int).toNat)) (shT (itemAt ws (0 : Int).toNat))] n' l') :
    DlR num 1 (ws.length - 1 : Int) ws [Value.str (shS (itemAt ws 0)) (shT (itemAt ws 0))] n' l' := by
  rw [h.rl] at r; exact r
structure De2P (text : Str) (p : Int) (l ws : List Value) : Prop where
  gp : GP text p ⟨#[]⟩ [122]
  w2 : 2 ≤ ws.length
  w6 : ws.length ≤ 6
  sw : AllStr ws
  l : Line l ws.length 14
theorem De2P.ts {text : Str} {p : Int} {l ws : List Value} (h : De2P text p l ws) : TmP 0 ws l [] 8 ∧ (0 : Int).toNat < ws.length := by
  have h1 := h.w2; have h2 := h.w6; have h3 := h.l.len
  exact ⟨⟨by lia, by lia, by lia, ⟨by lia, by lia, by lia, h.l.st, by lia, by simp; lia⟩, h.sw⟩, by show 0 < _; lia⟩
theorem De2P.told {text : Str} {p : Int} {l ws : List Value} (h : De2P text p l ws) {xs l' : List Value} (e : xs = [] ++ l.take ((ws.length : Int) - 0).toNat ∧ l' = l.drop ((ws.length : Int) - 0).toNat) : xs = l := by
  rw [e.1, List.nil_append, List.take_of_length_le (by have := h.l.len; lia)]
theorem De2P.none {text : Str} {p : Int} {l ws : List Value} (h : De2P text p l ws) {xs l' : List Value} (e : xs = [] ++ l.take ((ws.length : Int) - 0).toNat ∧ l' = l.drop ((ws.length : Int) - 0).toNat) : l' = [] := by
  rw [e.2, List.drop_eq_nil_of_le (by have := h.l.len; lia)]
theorem De2P.gz {text : Str} {p : Int} {l ws : List Value} (h : De2P text p l ws) {xs l' : List Value} (e : xs = [] ++ l.take ((ws.length : Int) - 0).toNat ∧ l' = l.drop ((ws.length : Int) - 0).toNat) : l' = [] ∧ GP text p ⟨#[]⟩ [122] := ⟨h.none e, h.gp⟩
theorem De2P.ge {text : Str} {p : Int} {l ws : List Value} (h : De2P text p l ws) {xs l' : List Value} (e : xs = [] ++ l.take ((ws.length : Int) - 0).toNat ∧ l' = l.drop ((ws.length : Int) - 0).toNat) {p' n n' : Int} {k : List Nat} (e1 : 0 ≤ p' ∧ rem text p' = [] ∧ n' = n + nls k) : l' = [] ∧ GP text p' ⟨#[]⟩ [] := ⟨h.none e, e1.1, e1.2.1, Nat.zero_le _⟩
theorem nls_end {n n' : Int} {l : List Nat} (z : n' = n + nls l - nls []) : n' = n + nls l := by
  rw [z, show nls [] = 0 from rfl]; lia
theorem gp_z : GP ⟨#[122]⟩ 0 ⟨#[]⟩ [122] := ⟨by decide, by decide +kernel, by decide⟩
theorem DeP.p2 {num : Int} {ws : List Value} (h : DeP num ws) {k : Int} {w : Value} {n' : Int} {l' : List Value} (r : DlR num 1 k ws [w] n' l') : De2P ⟨#[122]⟩ 0 l' ws := ⟨gp_z, h.w2, h.w6, h.w.st, r.ok⟩
end Mine
end
section

namespace Mine
open PySem PySem.Spec PySem.Calls PyProof.Rows PySem.W PySem.W.X PySem.Builtin.Str
noncomputable def S_gz (W : Wd) (k : Nat) : Sp (BB W) :=
  let B := BB W
  { d := 80
    c := fun q => .call (.ref 59) ⟨[.ref (q.a 0)], []⟩
    P := fun q => GP (q.s 0) (q.i 1) ⟨#[]⟩ [k + 1]
    pre := fun q => lxV W (q.a 0) (q.a 1) (q.t 0) (q.i 0) (q.t 1) (q.t 2) (q.a 2) (q.t 3) (q.t 4) (q.t 5) (q.a 3) [] (q.t 6) (q.f 0) (q.a 4) (q.t 7) (q.a 5) (q.a 6) (q.a 7) (q.a 8) (q.a 9) (q.t 8) (q.v 0) (q.l 0) (q.s 0) (q.t 9) (q.a 10) (q.i 1) (q.t 10)
    R := fun q e => GR (q.s 0) (q.i 0) ⟨#[]⟩ [k + 1] [k + 1] [] (e.i 0) (e.i 1) (e.s 0)
    res := fun q e => .ok (.ret (.str (e.s 0) (e.t 2)))
    out := fun q e => lxV W (q.a 0) (q.a 1) (q.t 0) (e.i 1) (e.t 0) (q.t 2) (q.a 2) (q.t 3) (q.t 4) (q.t 5) (q.a 3) [] (q.t 6) (q.f 0) (q.a 4) (q.t 7) (q.a 5) (q.a 6) (q.a 7) (q.a 8) (q.a 9) (q.t 8) (q.v 0) (q.l 0) (q.s 0) (q.t 9) (q.a 10) (e.i 0) (e.t 1) }
theorem gz_run (W : Wd) (O : (BB W).Ok) (k : Nat) (q : Lt) (hq : (S_gz W k).P q) (hw : isWs (k + 1) = false) (h34 : k + 1 ≠ 34) (hk : k + 1 ≠ 92) : At (S_gz W k) 80 q := by
  refine tri_f O (stdG _) [U (S_rcK W k) (rcK_ok W O k) on_rcK,U (S_rcE W) (rcE_ok W O) on_rcE] 2000 80 (hs := hx 184 0x44004d0443403400012cb2cb2cb00c2cb2c000000000000000a04330000c2cb0442c02c02c02c02cb34d35208034d34200d34200d44200200104000004000000134d34d2cb0c30c30c30c30c32800c20000810401010010010010010430c30400000000000030020800000000020000000810000411001001001040c0082000002000000081001040001) (is := [4,4,4,4,4,4,4,4,4,4])
    (fun (ρ : Rho) => ob (g_ch hq) <| fun he0 : ((ρ.2 0).i 0) = (q.i 0) + nls [k + 1] => ob (A := ((⟨#[]⟩ : Str) ≠ ⟨#[k + 1]⟩)) (str0_ne _) <| ob (A := (sIn s_ws ⟨#[k + 1]⟩ = false)) ((sIn_ws _).trans hw) <| ob (A := ((⟨#[k + 1]⟩ : Str) ≠ ⟨#[34]⟩)) (str1_ne h34) <| ob (A := ((⟨#[k + 1]⟩ : Str) ≠ ⟨#[92]⟩)) (str1_ne hk) <| ob (A := (((⟨#[]⟩ : Str)++(⟨#[k + 1]⟩ : Str)).length ≤ sizeLine)) (g_len hq _) <| ob (chS_nil (g_next hq (k + 1)).1 (g_next hq (k + 1)).2.1) <| fun he1 : ((ρ.2 1).i 0) = ((ρ.2 0).i 0 : Int) => ob (A := ((⟨#[]⟩ : Str) = ⟨#[]⟩)) (rfl) <| fin (S_gz W k) q (lt [] [(ρ.2 1).2 0,(ρ.2 1).2 1,ρ.1 16] [q.i 1 + 1 + 1,(ρ.2 1).i 0] [mS []++Str.mk #[k + 1]] [] [] []) (g_step he0 (g_fin (g_next hq _) he1)) :) ?_
  induction W using y_0 <;> kernel_rfl
noncomputable def S_gzL (W : Wd) (k : Nat) : Sp (BB W) :=
  let B := BB W
  { d := 80
    c := fun q => .call (.ref 59) ⟨[.ref (q.a 0)], []⟩
    P := fun q => (q.l 0) = [] ∧ GP (q.s 0) (q.i 1) ⟨#[]⟩ [k + 1]
    pre := fun q => lxQ W q 0 0 0 0 0 0
    R := fun q e => 0 ≤ (e.i 0) ∧ rem (q.s 0) (e.i 0) = [] ∧ (e.i 1) = (q.i 0) + nls [k + 1]
    res := fun q e => .ok (.ret (.str ⟨#[k + 1]⟩ (e.t 2)))
    out := fun q e => lxV W (q.a 0) (q.a 1) (q.t 0) (e.i 1) (e.t 0) (q.t 2) (q.a 2) (q.t 3) (q.t 4) (q.t 5) (q.a 3) (q.l 0) (q.t 6) (q.f 0) (q.a 4) (q.t 7) (q.a 5) (q.a 6) (q.a 7) (q.a 8) (q.a 9) (q.t 8) (q.v 0) (q.l 1) (q.s 0) (q.t 9) (q.a 10) (e.i 0) (e.t 1) }
noncomputable def on_gzL : Code → View → Lt := fun c V => lt ([valA (nthV (cPos c) 0)]++xA V 0) ([]++xT V 1) [dI V 1 0,qI V 9 0] [valS (cellV (nthO V 7))] [nthV (sQ V 6) 0] [sQ V 2,dropV 2 (sQ V 6)] [fdO (nthO V 3)]
noncomputable def S_geL (W : Wd) : Sp (BB W) :=
  let B := BB W
  { d := 80
    c := fun q => .call (.ref 59) ⟨[.ref (q.a 0)], []⟩
    P := fun q => (q.l 0) = [] ∧ GP (q.s 0) (q.i 1) ⟨#[]⟩ []
    pre := fun q => lxQ W q 0 0 0 0 0 0
    R := fun q e => 0 ≤ (e.i 0) ∧ rem (q.s 0) (e.i 0) = [] ∧ (e.i 1) = (q.i 0) + nls []
    res := fun q e => .ok (.ret (.str ⟨#[]⟩ (e.t 2)))
    out := fun q e => lxV W (q.a 0) (q.a 1) (q.t 0) (e.i 1) (e.t 0) (q.t 2) (q.a 2) (q.t 3) (q.t 4) (q.t 5) (q.a 3) (q.l 0) (q.t 6) (q.f 0) (q.a 4) (q.t 7) (q.a 5) (q.a 6) (q.a 7) (q.a 8) (q.a 9) (q.t 8) (q.v 0) (q.l 1) (q.s 0) (q.t 9) (q.a 10) (e.i 0) (e.t 1) }
noncomputable def on_geL : Code → View → Lt := fun c V => lt ([valA (nthV (cPos c) 0)]++xA V 0) ([]++xT V 1) [dI V 1 0,qI V 9 0] [valS (cellV (nthO V 7))] [nthV (sQ V 6) 0] [sQ V 2,dropV 2 (sQ V 6)] [fdO (nthO V 3)]
theorem gzL_ok (W : Wd) (O : (BB W).Ok) {k : Nat} (hw : isWs (k + 1) = false) (h34 : k + 1 ≠ 34) (hk : k + 1 ≠ 92) : (S_gzL W k).Ok := fun q hq => by
  obtain ⟨h, hq⟩ := hq
  let q1 : Lt := lt [q.a 0, q.a 1, q.a 2, q.a 3, q.a 4, q.a 5, q.a 6, q.a 7, q.a 8, q.a 9, q.a 10] [q.t 0, q.t 1, q.t 2, q.t 3, q.t 4, q.t 5, q.t 6, q.t 7, q.t 8, q.t 9, q.t 10] [q.i 0, q.i 1] [q.s 0] [q.v 0] [q.l 1] [q.f 0]
  have e : (S_gzL W k).pre q = (S_gz W k).pre q1 := congrArg (fun XS => ([((q.a 0), instO 69 (q.a 1)), ((q.a 1), dictO [kv (BB W) s_lineno (q.t 0) (.int (q.i 0) (q.t 1)), kv (BB W) s_instream (q.t 2) (.ref (q.a 2)), kv (BB W) s_whitespace (q.t 3) (.str s_ws (q.t 4)), kv (BB W) s_pushback (q.t 5) (.ref (q.a 3))] 4), ((q.a 3), listO XS (q.t 6)), ((q.a 2), funcO (q.f 0) (some (q.a 4))), ((q.a 4), dictO [kv (BB W) s_read (q.t 7) (.ref (q.a 5))] 1), ((q.a 5), funcO (readFd W.w (q.a 6) (q.a 7) (q.a 8) (q.a 9)) none), ((q.a 9), codeZ s_readq (q.t 8) (q.v 0) (q.l 1)), ((q.a 6), cellO (.str (q.s 0) (q.t 9))), ((q.a 7), cellO (.ref (q.a 10))), ((q.a 10), listO [(.int (q.i 1) (q.t 10))] 0)] : View)) h
  rw [e]
  refine (gz_run W O k q1 hq hw h34 hk).mono (Nat.le_refl _) fun r V ⟨e', hR, hr, hV⟩ => ⟨lt [] [e'.t 0, e'.t 1, e'.t 2] [e'.i 0, e'.i 1] [] [] [] [], ⟨hR.1, hR.2.1, ?_⟩, hr.trans ?_, hV.trans ?_⟩
  · exact nls_end hR.2.2.2
  · have z := hR.2.2.1
    show Except.ok (Flow.ret (Value.str _ _)) = Except.ok (Flow.ret (Value.str _ _))
    rw [z]
    rfl
  · have z := congrArg (fun XS => (S_gzL W k).out (lt (sl q.a 0 11) (sl q.t 0 11) [q.i 0, q.i 1] [q.s 0] [q.v 0] [XS, q.l 1] [q.f 0]) (lt [] [e'.t 0, e'.t 1, e'.t 2] [e'.i 0, e'.i 1] [] [] [] [])) h
    exact z.symm
theorem geL_ok (W : Wd) (O : (BB W).Ok) : (S_geL W).Ok := fun q hq => by
  obtain ⟨h, hq⟩ := hq
  let q1 : Lt := lt [q.a 0, q.a 1, q.a 2, q.a 3, q.a 4, q.a 5, q.a 6, q.a 7, q.a 8, q.a 9, q.a 10] [q.t 0, q.t 1, q.t 2, q.t 3, q.t 4, q.t 5, q.t 6, q.t 7, q.t 8, q.t 9, q.t 10] [q.i 0, q.i 1] [q.s 0] [q.v 0] [q.l 1] [q.f 0]
  have e : (S_geL W).pre q = (S_gt W [] [] []).pre q1 := congrArg (fun XS => ([((q.a 0), instO 69 (q.a 1)), ((q.a 1), dictO [kv (BB W) s_lineno (q.t 0) (.int (q.i 0) (q.t 1)), kv (BB W) s_instream (q.t 2) (.ref (q.a 2)), kv (BB W) s_whitespace (q.t 3) (.str s_ws (q.t 4)), kv (BB W) s_pushback (q.t 5) (.ref (q.a 3))] 4), ((q.a 3), listO XS (q.t 6)), ((q.a 2), funcO (q.f 0) (some (q.a 4))), ((q.a 4), dictO [kv (BB W) s_read (q.t 7) (.ref (q.a 5))] 1), ((q.a 5), funcO (readFd W.w (q.a 6) (q.a 7) (q.a 8) (q.a 9)) none), ((q.a 9), codeZ s_readq (q.t 8) (q.v 0) (q.l 1)), ((q.a 6), cellO (.str (q.s 0) (q.t 9))), ((q.a 7), cellO (.ref (q.a 10))), ((q.a 10), listO [(.int (q.i 1) (q.t 10))] 0)] : View)) h
  rw [e]
  refine (gt_tri W O Lx1.fin q1 hq).mono (Nat.le_refl _) fun r V ⟨e', hR, hr, hV⟩ => ⟨lt [] [e'.t 0, e'.t 1, e'.t 2] [e'.i 0, e'.i 1] [] [] [] [], ⟨hR.1, hR.2.1, ?_⟩, hr.trans ?_, hV.trans ?_⟩
  · exact nls_end hR.2.2.2
  · have z := hR.2.2.1
    show Except.ok (Flow.ret (Value.str _ _)) = Except.ok (Flow.ret (Value.str _ _))
    rw [z]
    rfl
  · have z := congrArg (fun XS => (S_geL W).out (lt (sl q.a 0 11) (sl q.t 0 11) [q.i 0, q.i 1] [q.s 0] [q.v 0] [XS, q.l 1] [q.f 0]) (lt [] [e'.t 0, e'.t 1, e'.t 2] [e'.i 0, e'.i 1] [] [] [] [])) h
    exact z.symm
end Mine
end
section

namespace Mine
open PySem PySem.Spec PySem.Calls PyProof.Rows PySem.W PySem.W.X PySem.Builtin.Str
noncomputable def S_deS1 (W : Wd) : Sp (BB W) :=
  let B := BB W
  { d := 120
    c := fun q => .block (takeS 3 (stmtsOf (fdAt W.w 144))) (dlEnv W.w (q.a 0) (q.a 1))
    P := fun q => DeP (q.i 0) (q.l 0)
    pre := fun q => [((q.a 0),frameO [kv B s_number (q.t 0) (.int (q.i 0) (q.t 1)),kv B s_words (q.t 2) (.ref (q.a 2))] 2),((q.a 1),⟨tCell,none,.cell none,#[]⟩),((q.a 2),listO (q.l 0) (q.t 3))]
    R := fun q e => DlR (q.i 0) 1 ((q.l 0).length - 1 : Int) (q.l 0) [Value.str (shS (itemAt (q.l 0) 0)) (shT (itemAt (q.l 0) 0))] (e.i 0) (e.l 0)
    res := fun q e => .ok .next
    out := fun q e => [((q.a 0),finF B (e.t 0) (e.t 1) (e.t 2) (e.t 3) (e.t 4) (e.t 5) (e.t 6) (e.t 7) (.int (e.i 0) (e.t 8)) (.ref (q.a 2)) (e.v 0) (e.v 1) (e.v 2) (e.v 3) (e.v 4)),((q.a 1),cellO (.ref (e.a 0))),((q.a 2),listO (q.l 0) (q.t 3))]++lxV W (e.a 0) (e.a 1) (e.t 9) 1 (e.t 10) (e.t 11) (e.a 2) (e.t 12) (e.t 13) (e.t 14) (e.a 3) (e.l 0) (e.t 15) (e.f 0) (e.a 4) (e.t 16) (e.a 5) (e.a 6) (e.a 7) (e.a 8) (e.a 9) (e.t 17) (e.v 5) (e.l 1) ⟨#[122]⟩ (e.t 18) (e.a 10) 0 (e.t 19) }
theorem deS1_ok (W : Wd) (O : (BB W).Ok) (q : Lt) (hq : (S_deS1 W).P q) : SegC (BB W) 120 ((S_deS1 W).c q) ((S_deS1 W).pre q) ((S_deS1 W).post q) := by
  refine seg_f O (stdG _) [U (S_ls W) (ls_ok W O) on_ls,U (S_nl W) (nl_ok W O) on_nl,U (S_pt W) (pt_ok W O) on_pt,U (S_ob W 8) (ob_ok W O 7) on_ob] 2000 120 (hs := hx 104 0x410410410410412c030c3830c102d08100104100100104000000c74200b0000000000000000000002820c008c80234034d34b08100000004000004000004c30c0000000000070430000000c0000) (is := hx 13 0x0)
    (fun (ρ : Rho) => let z0 := itemAt (q.l 0) (Int.toNat 0); ob trivial <| fun _ : True => ob trivial <| fun _ : True => ob hq.item <| ob (A := (([] : List Value).length ≤ sizeLine)) (Nat.zero_le _) <| fun _ : True => ob hq.len <| ob hq.iter <| ob hq.dl <| fun he3 : DlR (q.i 0) (1 : Int) (rlen 1 ↑(List.length (q.l 0)) : Int) (q.l 0) ([(Value.str (shS z0) ((shT z0)))] : List Value) ((ρ.2 3).i 0) ((ρ.2 3).l 0) => fin (S_deS1 W) q (lt [(ρ.2 1).1 0,(ρ.2 1).1 1,(ρ.2 0).1 0,(ρ.2 1).1 2,(ρ.2 0).1 1,(ρ.2 0).1 2,(ρ.2 0).1 3,(ρ.2 0).1 4,(ρ.2 0).1 5,(ρ.2 0).1 6,(ρ.2 0).1 7] [((ρ.2 3).t 0),((ρ.2 3).t 1),((ρ.2 3).t 2),((ρ.2 3).t 3),((ρ.2 3).t 4),((ρ.2 3).t 5),((ρ.2 3).t 6),((ρ.2 3).t 7),((ρ.2 3).t 8),(ρ.2 1).2 0,(ρ.2 1).2 1,(ρ.2 1).2 2,(ρ.2 1).2 3,(ρ.2 1).2 4,(ρ.2 1).2 5,(ρ.2 3).2 9,(ρ.2 0).2 0,(ρ.2 0).2 1,ρ.1 0,(ρ.2 0).2 2] [((ρ.2 3).i 0)] [] [((ρ.2 3).v 0),((ρ.2 3).v 1),((ρ.2 3).v 2),((ρ.2 3).v 3),((ρ.2 3).v 4),(ρ.2 0).5 0] [(ρ.2 3).6 0,[]++(ρ.2 0).6 0] [(ρ.2 0).f 0]) (hq.R he3) :) ?_
  induction W using y_0 <;> kernel_rfl
noncomputable def S_deS2T (W : Wd) : Sp (BB W) :=
  let B := BB W
  { d := 120
    c := fun q => .block (dropS 3 (stmtsOf (fdAt W.w 144))) (dlEnv W.w (q.a 0) (q.a 1))
    P := fun q => De2P (q.s 0) (q.i 2) (q.l 1) (q.l 0)
    pre := fun q => [((q.a 0),frameO [kv B s_number (q.t 0) (.int (q.i 0) (q.t 1)),kv B s_words (q.t 2) (.ref (q.a 2)),kv B s_k (q.t 3) (q.v 0),kv B s_back (q.t 4) (q.v 1),kv B s_turn (q.t 5) (q.v 2)] 5),((q.a 1),cellO (.ref (q.a 3))),((q.a 2),listO (q.l 0) (q.t 6))]++lxQ W q 3 7 1 3 1 0
    R := fun q e => (e.l 0) = (q.l 1)
    res := fun q e => .ok (.ret (.ref (e.a 0)))
    out := fun q e => [((e.a 0),listO [(.int (q.i 0) (q.t 1)),(.ref (e.a 1)),(.str ⟨#[122]⟩ (e.t 0)),(.str ⟨#[]⟩ (e.t 1))] (e.t 2)),((e.a 1),listO (e.l 0) (e.t 3)),((q.a 2),listO (q.l 0) (q.t 6))] }
theorem deS2T_ok (W : Wd) (O : (BB W).Ok) (q : Lt) (hq : (S_deS2T W).P q) : SegC (BB W) 120 ((S_deS2T W).c q) ((S_deS2T W).pre q) ((S_deS2T W).post q) := by
  refine seg_f O (stdG _) [U (S_ts W 8) (ts_ok W O 8) on_ts,U (S_gzL W 121) (gzL_ok W O (k := 121) (by decide) (by decide) (by decide)) on_gzL,U (S_geL W) (geL_ok W O) on_geL] 2000 120 (hs := hx 92 0x2820c008100000004000004000004c0c30c30c30c30c32810c01440000001000001000001023cf04104f3c10820820820820820010c03c00c10030030c1) (is := [0,12,12])
    (fun (ρ : Rho) => ob hq.ts <| fun he0 : ((ρ.2 0).l 0) = ([] : List Value)++(q.l 1).take (((q.l 0).length : Int) - (0 : Int)).toNat ∧ ((ρ.2 0).l 1) = (q.l 1).drop (((q.l 0).length : Int) - (0 : Int)).toNat => ob (hq.gz he0) <| fun he1 : 0 ≤ ((ρ.2 1).i 0) ∧ rem (q.s 0) ((ρ.2 1).i 0) = [] ∧ ((ρ.2 1).i 1) = (q.i 1) + nls [121 + 1] => ob (hq.ge he0 he1) <| fun _ : 0 ≤ ((ρ.2 2).i 0) ∧ rem (q.s 0) ((ρ.2 2).i 0) = [] ∧ ((ρ.2 2).i 1) = ((ρ.2 1).i 1 : Int) + nls [] => fin (S_deS2T W) q (lt [ρ.1 4,ρ.1 1] [(ρ.2 1).2 2,(ρ.2 2).2 2,0,(ρ.2 0).2 1] [] [] [] [(ρ.2 0).6 0] []) ((hq.told he0)) :) ?_
  induction W using y_0 <;> kernel_rfl
noncomputable def S_deS2MW (W : Wd) : Sp (BB W) :=
  let B := BB W
  { d := 120
    c := fun q => .block (dropS 3 (stmtsOf (fdAt W.w 144))) (dlEnv W.w (q.a 0) (q.a 1))
    P := fun q => De2P (q.s 0) (q.i 2) (q.l 1) (q.l 0)
    pre := fun q => [((q.a 0),frameO [kv B s_number (q.t 0) (.int (q.i 0) (q.t 1)),kv B s_words (q.t 2) (.ref (q.a 2)),kv B s_k (q.t 3) (q.v 0),kv B s_back (q.t 4) (q.v 1),kv B s_mail (q.t 5) (q.v 2),kv B s_word (q.t 6) (q.v 3)] 6),((q.a 1),cellO (.ref (q.a 3))),((q.a 2),listO (q.l 0) (q.t 7))]++lxQ W q 3 8 1 4 1 0
    R := fun q e => (e.l 0) = (q.l 1)
    res := fun q e => .ok (.ret (.ref (e.a 0)))
    out := fun q e => [((e.a 0),listO [(.int (q.i 0) (q.t 1)),(.ref (e.a 1)),(.str ⟨#[122]⟩ (e.t 0)),(.str ⟨#[]⟩ (e.t 1))] (e.t 2)),((e.a 1),listO (e.l 0) (e.t 3)),((q.a 2),listO (q.l 0) (q.t 7))] }
theorem deS2MW_ok (W : Wd) (O : (BB W).Ok) (q : Lt) (hq : (S_deS2MW W).P q) : SegC (BB W) 120 ((S_deS2MW W).c q) ((S_deS2MW W).pre q) ((S_deS2MW W).post q) := by
  refine seg_f O (stdG _) [U (S_ts W 8) (ts_ok W O 8) on_ts,U (S_gzL W 121) (gzL_ok W O (k := 121) (by decide) (by decide) (by decide)) on_gzL,U (S_geL W) (geL_ok W O) on_geL] 2000 120 (hs := hx 92 0x2820c008100000004000004000004c0c30c30c30c30c32810c01440000001000001000001023cf04104f3c10820820820820820010c03c00c10030030c1) (is := [0,12,12])
    (fun (ρ : Rho) => ob hq.ts <| fun he0 : ((ρ.2 0).l 0) = ([] : List Value)++(q.l 1).take (((q.l 0).length : Int) - (0 : Int)).toNat ∧ ((ρ.2 0).l 1) = (q.l 1).drop (((q.l 0).length : Int) - (0 : Int)).toNat => ob (hq.gz he0) <| fun he1 : 0 ≤ ((ρ.2 1).i 0) ∧ rem (q.s 0) ((ρ.2 1).i 0) = [] ∧ ((ρ.2 1).i 1) = (q.i 1) + nls [121 + 1] => ob (hq.ge he0 he1) <| fun _ : 0 ≤ ((ρ.2 2).i 0) ∧ rem (q.s 0) ((ρ.2 2).i 0) = [] ∧ ((ρ.2 2).i 1) = ((ρ.2 1).i 1 : Int) + nls [] => fin (S_deS2MW W) q (lt [ρ.1 4,ρ.1 1] [(ρ.2 1).2 2,(ρ.2 2).2 2,0,(ρ.2 0).2 1] [] [] [] [(ρ.2 0).6 0] []) ((hq.told he0)) :) ?_
  induction W using y_0 <;> kernel_rfl
noncomputable def S_deS2W (W : Wd) (sh : Bool) : Sp (BB W) :=
  let B := BB W
  { d := 120
    c := fun q => .block (dropS 3 (stmtsOf (fdAt W.w 144))) (dlEnv W.w (q.a 0) (q.a 1))
    P := fun q => De2P (q.s 0) (q.i 2) (q.l 1) (q.l 0)
    pre := fun q => [((q.a 0),frameO (p_mw sh [kv B s_number (q.t 0) (.int (q.i 0) (q.t 1)),kv B s_words (q.t 2) (.ref (q.a 2)),kv B s_k (q.t 3) (q.v 0),kv B s_back (q.t 4) (q.v 1),kv B s_turn (q.t 5) (q.v 2),kv B s_mail (q.t 6) (q.v 3),kv B s_word (q.t 7) (q.v 4)]) 7),((q.a 1),cellO (.ref (q.a 3))),((q.a 2),listO (q.l 0) (q.t 8))]++lxQ W q 3 9 1 5 1 0
    R := fun q e => (e.l 0) = (q.l 1)
    res := fun q e => .ok (.ret (.ref (e.a 0)))
    out := fun q e => [((e.a 0),listO [(.int (q.i 0) (q.t 1)),(.ref (e.a 1)),(.str ⟨#[122]⟩ (e.t 0)),(.str ⟨#[]⟩ (e.t 1))] (e.t 2)),((e.a 1),listO (e.l 0) (e.t 3)),((q.a 2),listO (q.l 0) (q.t 8))] }
theorem deS2W_ok (W : Wd) (O : (BB W).Ok) (sh : Bool) (q : Lt) (hq : (S_deS2W W sh).P q) : SegC (BB W) 120 ((S_deS2W W sh).c q) ((S_deS2W W sh).pre q) ((S_deS2W W sh).post q) := by
  refine seg_f O (stdG _) [U (S_ts W 8) (ts_ok W O 8) on_ts,U (S_gzL W 121) (gzL_ok W O (k := 121) (by decide) (by decide) (by decide)) on_gzL,U (S_geL W) (geL_ok W O) on_geL] 2000 120 (hs := hx 92 0x2820c008100000004000004000004c0c30c30c30c30c32810c01440000001000001000001023cf04104f3c10820820820820820010c03c00c10030030c1) (is := [0,12,12])
    (fun (ρ : Rho) => ob hq.ts <| fun he0 : ((ρ.2 0).l 0) = ([] : List Value)++(q.l 1).take (((q.l 0).length : Int) - (0 : Int)).toNat ∧ ((ρ.2 0).l 1) = (q.l 1).drop (((q.l 0).length : Int) - (0 : Int)).toNat => ob (hq.gz he0) <| fun he1 : 0 ≤ ((ρ.2 1).i 0) ∧ rem (q.s 0) ((ρ.2 1).i 0) = [] ∧ ((ρ.2 1).i 1) = (q.i 1) + nls [121 + 1] => ob (hq.ge he0 he1) <| fun _ : 0 ≤ ((ρ.2 2).i 0) ∧ rem (q.s 0) ((ρ.2 2).i 0) = [] ∧ ((ρ.2 2).i 1) = ((ρ.2 1).i 1 : Int) + nls [] => fin (S_deS2W W sh) q (lt [ρ.1 4,ρ.1 1] [(ρ.2 1).2 2,(ρ.2 2).2 2,0,(ρ.2 0).2 1] [] [] [] [(ρ.2 0).6 0] []) ((hq.told he0)) :) ?_
  induction W, sh using y_1 <;> kernel_rfl
end Mine
end
section

namespace Mine
open PySem PySem.Spec PySem.Calls PyProof.Rows PySem.W PySem.W.X PySem.Builtin.Str
theorem takeS_app : ∀ (n : Nat) (l : List Stmt), takeS n l ++ dropS n l = l
  | 0, l => rfl
  | n + 1, [] => rfl
  | n + 1, s :: l => congrArg (s :: ·) (takeS_app n l)
noncomputable def S_deF (W : Wd) : Sp (BB W) :=
  let B := BB W
  { d := 121
    c := fun q => .func (stmtsOf (fdAt W.w 144)) (dlEnv W.w (q.a 0) (q.a 1))
    P := fun q => DeP (q.i 0) (q.l 0)
    pre := fun q => [((q.a 0),frameO [kv B s_number (q.t 0) (.int (q.i 0) (q.t 1)),kv B s_words (q.t 2) (.ref (q.a 2))] 2),((q.a 1),⟨tCell,none,.cell none,#[]⟩),((q.a 2),listO (q.l 0) (q.t 3))]
    R := fun q e => DlR (q.i 0) 1 ((q.l 0).length - 1 : Int) (q.l 0) [Value.str (shS (itemAt (q.l 0) 0)) (shT (itemAt (q.l 0) 0))] (e.i 0) (e.l 0)
    res := fun q e => .ok (.ret (.ref (e.a 0)))
    out := fun q e => [((e.a 0),listO [(.int (e.i 0) (e.t 0)),(.ref (e.a 1)),(.str ⟨#[122]⟩ (e.t 1)),(.str ⟨#[]⟩ (e.t 2))] (e.t 3)),((e.a 1),listO (e.l 0) (e.t 4)),((q.a 2),listO (q.l 0) (q.t 3))] }
noncomputable def on_deF : Code → View → Lt := fun c V => lt [(cEnv c).locals,envCell 0 (cEnv c),dA V 0 1] [kT V 0 0,dT V 0 0,kT V 0 1,eP V 2] [dI V 0 0] [] [] [sQ V 2] []
theorem deF_seg (W : Wd) (O : (BB W).Ok) (q : Lt) (hq : (S_deF W).P q) : Seg (BB W) 120 (stmtsOf (fdAt W.w 144)) (dlEnv W.w (q.a 0) (q.a 1)) ((S_deF W).pre q) ((S_deF W).post q) := by
  have hq : DeP _ _ := hq
  have h1 := deS1_ok W O q hq
  have z : Seg (BB W) 120 (takeS 3 (stmtsOf (fdAt W.w 144)) ++ dropS 3 (stmtsOf (fdAt W.w 144))) (dlEnv W.w (q.a 0) (q.a 1)) ((S_deF W).pre q) ((S_deF W).post q) := by
    refine Seg.app h1 (fun r V ⟨e, _, hr, _⟩ => hr) (fun V ⟨e, hR, _, hV⟩ => ?_)
    rw [hV]
    match h : e.t 0 with
    | 0 =>
      let q2 : Lt := lt [q.a 0, q.a 1, q.a 2, e.a 0, e.a 1, e.a 2, e.a 3, e.a 4, e.a 5, e.a 6, e.a 7, e.a 8, e.a 9, e.a 10] [e.t 1, e.t 8, e.t 2, e.t 3, e.t 4, e.t 5, q.t 3, e.t 9, e.t 10, e.t 11, e.t 12, e.t 13, e.t 14, e.t 15, e.t 16, e.t 17, e.t 18, e.t 19] [e.i 0, 1, 0] [⟨#[122]⟩] [e.v 0, e.v 1, e.v 2, e.v 5] [q.l 0, e.l 0, e.l 1] [e.f 0]
      have ev : (S_deS1 W).out q e = (S_deS2T W).pre q2 := congrArg (fun XS => ([((q.a 0), finF (BB W) XS (e.t 1) (e.t 2) (e.t 3) (e.t 4) (e.t 5) (e.t 6) (e.t 7) (.int (e.i 0) (e.t 8)) (.ref (q.a 2)) (e.v 0) (e.v 1) (e.v 2) (e.v 3) (e.v 4)), ((q.a 1), cellO (.ref (e.a 0))), ((q.a 2), listO (q.l 0) (q.t 3)), ((e.a 0), instO 69 (e.a 1)), ((e.a 1), dictO [kv (BB W) s_lineno (e.t 9) (.int 1 (e.t 10)), kv (BB W) s_instream (e.t 11) (.ref (e.a 2)), kv (BB W) s_whitespace (e.t 12) (.str s_ws (e.t 13)), kv (BB W) s_pushback (e.t 14) (.ref (e.a 3))] 4), ((e.a 3), listO (e.l 0) (e.t 15)), ((e.a 2), funcO (e.f 0) (some (e.a 4))), ((e.a 4), dictO [kv (BB W) s_read (e.t 16) (.ref (e.a 5))] 1), ((e.a 5), funcO (readFd W.w (e.a 6) (e.a 7) (e.a 8) (e.a 9)) none), ((e.a 9), codeZ s_readq (e.t 17) (e.v 5) (e.l 1)), ((e.a 6), cellO (.str ⟨#[122]⟩ (e.t 18))), ((e.a 7), cellO (.ref (e.a 10))), ((e.a 10), listO [(.int 0 (e.t 19))] 0)] : View)) h
      rw [ev]
      refine (deS2T_ok W O q2 (hq.p2 hR)).mono (Nat.le_refl _) fun r V ⟨e2, hR2, hr2, hV2⟩ => ⟨lt [e2.a 0, e2.a 1] [e.t 8, e2.t 0, e2.t 1, e2.t 2, e2.t 3] [e.i 0] [] [] [e2.l 0] [], ?_, hr2, hV2⟩
      have z : e2.l 0 = e.l 0 := hR2
      show DlR _ _ _ _ _ _ (e2.l 0)
      rw [z]; exact hR
    | 1 =>
      let q2 : Lt := lt [q.a 0, q.a 1, q.a 2, e.a 0, e.a 1, e.a 2, e.a 3, e.a 4, e.a 5, e.a 6, e.a 7, e.a 8, e.a 9, e.a 10] [e.t 1, e.t 8, e.t 2, e.t 3, e.t 4, e.t 6, e.t 7, q.t 3, e.t 9, e.t 10, e.t 11, e.t 12, e.t 13, e.t 14, e.t 15, e.t 16, e.t 17, e.t 18, e.t 19] [e.i 0, 1, 0] [⟨#[122]⟩] [e.v 0, e.v 1, e.v 3, e.v 4, e.v 5] [q.l 0, e.l 0, e.l 1] [e.f 0]
      have ev : (S_deS1 W).out q e = (S_deS2MW W).pre q2 := congrArg (fun XS => ([((q.a 0), finF (BB W) XS (e.t 1) (e.t 2) (e.t 3) (e.t 4) (e.t 5) (e.t 6) (e.t 7) (.int (e.i 0) (e.t 8)) (.ref (q.a 2)) (e.v 0) (e.v 1) (e.v 2) (e.v 3) (e.v 4)), ((q.a 1), cellO (.ref (e.a 0))), ((q.a 2), listO (q.l 0) (q.t 3)), ((e.a 0), instO 69 (e.a 1)), ((e.a 1), dictO [kv (BB W) s_lineno (e.t 9) (.int 1 (e.t 10)), kv (BB W) s_instream (e.t 11) (.ref (e.a 2)), kv (BB W) s_whitespace (e.t 12) (.str s_ws (e.t 13)), kv (BB W) s_pushback (e.t 14) (.ref (e.a 3))] 4), ((e.a 3), listO (e.l 0) (e.t 15)), ((e.a 2), funcO (e.f 0) (some (e.a 4))), ((e.a 4), dictO [kv (BB W) s_read (e.t 16) (.ref (e.a 5))] 1), ((e.a 5), funcO (readFd W.w (e.a 6) (e.a 7) (e.a 8) (e.a 9)) none), ((e.a 9), codeZ s_readq (e.t 17) (e.v 5) (e.l 1)), ((e.a 6), cellO (.str ⟨#[122]⟩ (e.t 18))), ((e.a 7), cellO (.ref (e.a 10))), ((e.a 10), listO [(.int 0 (e.t 19))] 0)] : View)) h
      rw [ev]
      refine (deS2MW_ok W O q2 (hq.p2 hR)).mono (Nat.le_refl _) fun r V ⟨e2, hR2, hr2, hV2⟩ => ⟨lt [e2.a 0, e2.a 1] [e.t 8, e2.t 0, e2.t 1, e2.t 2, e2.t 3] [e.i 0] [] [] [e2.l 0] [], ?_, hr2, hV2⟩
      have z : e2.l 0 = e.l 0 := hR2
      show DlR _ _ _ _ _ _ (e2.l 0)
      rw [z]; exact hR
    | 2 =>
      let q2 : Lt := lt [q.a 0, q.a 1, q.a 2, e.a 0, e.a 1, e.a 2, e.a 3, e.a 4, e.a 5, e.a 6, e.a 7, e.a 8, e.a 9, e.a 10] [e.t 1, e.t 8, e.t 2, e.t 3, e.t 4, e.t 5, e.t 6, e.t 7, q.t 3, e.t 9, e.t 10, e.t 11, e.t 12, e.t 13, e.t 14, e.t 15, e.t 16, e.t 17, e.t 18, e.t 19] [e.i 0, 1, 0] [⟨#[122]⟩] [e.v 0, e.v 1, e.v 2, e.v 3, e.v 4, e.v 5] [q.l 0, e.l 0, e.l 1] [e.f 0]
      have ev : (S_deS1 W).out q e = (S_deS2W W true).pre q2 := congrArg (fun XS => ([((q.a 0), finF (BB W) XS (e.t 1) (e.t 2) (e.t 3) (e.t 4) (e.t 5) (e.t 6) (e.t 7) (.int (e.i 0) (e.t 8)) (.ref (q.a 2)) (e.v 0) (e.v 1) (e.v 2) (e.v 3) (e.v 4)), ((q.a 1), cellO (.ref (e.a 0))), ((q.a 2), listO (q.l 0) (q.t 3)), ((e.a 0), instO 69 (e.a 1)), ((e.a 1), dictO [kv (BB W) s_lineno (e.t 9) (.int 1 (e.t 10)), kv (BB W) s_instream (e.t 11) (.ref (e.a 2)), kv (BB W) s_whitespace (e.t 12) (.str s_ws (e.t 13)), kv (BB W) s_pushback (e.t 14) (.ref (e.a 3))] 4), ((e.a 3), listO (e.l 0) (e.t 15)), ((e.a 2), funcO (e.f 0) (some (e.a 4))), ((e.a 4), dictO [kv (BB W) s_read (e.t 16) (.ref (e.a 5))] 1), ((e.a 5), funcO (readFd W.w (e.a 6) (e.a 7) (e.a 8) (e.a 9)) none), ((e.a 9), codeZ s_readq (e.t 17) (e.v 5) (e.l 1)), ((e.a 6), cellO (.str ⟨#[122]⟩ (e.t 18))), ((e.a 7), cellO (.ref (e.a 10))), ((e.a 10), listO [(.int 0 (e.t 19))] 0)] : View)) h
      rw [ev]
      refine (deS2W_ok W O true q2 (hq.p2 hR)).mono (Nat.le_refl _) fun r V ⟨e2, hR2, hr2, hV2⟩ => ⟨lt [e2.a 0, e2.a 1] [e.t 8, e2.t 0, e2.t 1, e2.t 2, e2.t 3] [e.i 0] [] [] [e2.l 0] [], ?_, hr2, hV2⟩
      have z : e2.l 0 = e.l 0 := hR2
      show DlR _ _ _ _ _ _ (e2.l 0)
      rw [z]; exact hR
    | m + 3 =>
      let q2 : Lt := lt [q.a 0, q.a 1, q.a 2, e.a 0, e.a 1, e.a 2, e.a 3, e.a 4, e.a 5, e.a 6, e.a 7, e.a 8, e.a 9, e.a 10] [e.t 1, e.t 8, e.t 2, e.t 3, e.t 4, e.t 5, e.t 6, e.t 7, q.t 3, e.t 9, e.t 10, e.t 11, e.t 12, e.t 13, e.t 14, e.t 15, e.t 16, e.t 17, e.t 18, e.t 19] [e.i 0, 1, 0] [⟨#[122]⟩] [e.v 0, e.v 1, e.v 2, e.v 3, e.v 4, e.v 5] [q.l 0, e.l 0, e.l 1] [e.f 0]
      have ev : (S_deS1 W).out q e = (S_deS2W W false).pre q2 := congrArg (fun XS => ([((q.a 0), finF (BB W) XS (e.t 1) (e.t 2) (e.t 3) (e.t 4) (e.t 5) (e.t 6) (e.t 7) (.int (e.i 0) (e.t 8)) (.ref (q.a 2)) (e.v 0) (e.v 1) (e.v 2) (e.v 3) (e.v 4)), ((q.a 1), cellO (.ref (e.a 0))), ((q.a 2), listO (q.l 0) (q.t 3)), ((e.a 0), instO 69 (e.a 1)), ((e.a 1), dictO [kv (BB W) s_lineno (e.t 9) (.int 1 (e.t 10)), kv (BB W) s_instream (e.t 11) (.ref (e.a 2)), kv (BB W) s_whitespace (e.t 12) (.str s_ws (e.t 13)), kv (BB W) s_pushback (e.t 14) (.ref (e.a 3))] 4), ((e.a 3), listO (e.l 0) (e.t 15)), ((e.a 2), funcO (e.f 0) (some (e.a 4))), ((e.a 4), dictO [kv (BB W) s_read (e.t 16) (.ref (e.a 5))] 1), ((e.a 5), funcO (readFd W.w (e.a 6) (e.a 7) (e.a 8) (e.a 9)) none), ((e.a 9), codeZ s_readq (e.t 17) (e.v 5) (e.l 1)), ((e.a 6), cellO (.str ⟨#[122]⟩ (e.t 18))), ((e.a 7), cellO (.ref (e.a 10))), ((e.a 10), listO [(.int 0 (e.t 19))] 0)] : View)) h
      rw [ev]
      refine (deS2W_ok W O false q2 (hq.p2 hR)).mono (Nat.le_refl _) fun r V ⟨e2, hR2, hr2, hV2⟩ => ⟨lt [e2.a 0, e2.a 1] [e.t 8, e2.t 0, e2.t 1, e2.t 2, e2.t 3] [e.i 0] [] [] [e2.l 0] [], ?_, hr2, hV2⟩
      have z : e2.l 0 = e.l 0 := hR2
      show DlR _ _ _ _ _ _ (e2.l 0)
      rw [z]; exact hR
  rw [takeS_app] at z
  exact z
theorem deF_ok (W : Wd) (O : (BB W).Ok) : (S_deF W).Ok := fun q hq => by
  refine (tri_func (deF_seg W O q hq) (fun e V ⟨e', _, h, _⟩ => by cases h)).mono (Nat.le_refl _) fun r V ⟨f, ⟨e, hR, hr, hV⟩, h2⟩ => ⟨e, hR, ?_, hV⟩
  have hr : Except.ok f = Except.ok (Flow.ret _) := hr
  injection hr with hr
  rw [h2, hr]; rfl
noncomputable def S_de (W : Wd) : Sp (BB W) :=
  let B := BB W
  { d := 130
    c := fun q => .call (.ref 144) ⟨[.int (q.i 0) (q.t 0), .ref (q.a 0)], []⟩
    P := fun q => DeP (q.i 0) (q.l 0)
    pre := fun q => [((q.a 0),listO (q.l 0) (q.t 1))]
    R := fun q e => DlR (q.i 0) 1 ((q.l 0).length - 1 : Int) (q.l 0) [Value.str (shS (itemAt (q.l 0) 0)) (shT (itemAt (q.l 0) 0))] (e.i 0) (e.l 0)
    res := fun q e => .ok (.ret (.ref (e.a 0)))
    out := fun q e => [((e.a 0),listO [(.int (e.i 0) (e.t 0)),(.ref (e.a 1)),(.str ⟨#[122]⟩ (e.t 1)),(.str ⟨#[]⟩ (e.t 2))] (e.t 3)),((e.a 1),listO (e.l 0) (e.t 4)),((q.a 0),listO (q.l 0) (q.t 1))] }
noncomputable def on_de : Code → View → Lt := fun c V => lt [valA (nthV (cPos c) 1)] [valT (nthV (cPos c) 0),eP V 0] [valI (nthV (cPos c) 0)] [] [] [sQ V 0] []
theorem de_run (W : Wd) (O : (BB W).Ok) (q : Lt) (hq : (S_de W).P q) : At (S_de W) 130 q := by
  refine tri_f O (stdG _) [U (S_deF W) (deF_ok W O) on_deF] 2000 130 (hs := hx 13 0x10c00c2082080001) (is := [0,0,0])
    (fun (ρ : Rho) => ob hq <| fun he0 : DlR (q.i 0) 1 ((q.l 0).length - 1 : Int) (q.l 0) [Value.str (shS (itemAt (q.l 0) 0)) (shT (itemAt (q.l 0) 0))] ((ρ.2 0).i 0) ((ρ.2 0).l 0) => fin (S_de W) q (lt [(ρ.2 0).1 0,(ρ.2 0).1 1] [(ρ.2 0).2 0,(ρ.2 0).2 1,(ρ.2 0).2 2,(ρ.2 0).2 3,(ρ.2 0).2 4] [(ρ.2 0).i 0] [] [] [(ρ.2 0).6 0] []) (he0) :) ?_
  induction W using y_0 <;> kernel_rfl
theorem de_ok (W : Wd) (O : (BB W).Ok) : (S_de W).Ok := fun q hq => de_run W O q hq
end Mine
end
section
namespace Mine
open PySem PySem.Spec PySem.Calls PyProof.Rows PySem.W PySem.W.X PySem.Builtin
noncomputable def partL (lo hi : Option Int) (l : List Value) : List Value :=
  let l1 := match hi with
    | some h => l.take h.toNat
    | none => l
  match lo with
    | some k => l1.drop k.toNat
    | none => l1
noncomputable def ptI : Option (Int × Tok) → Option Int
  | some p => some p.1
  | none => none
noncomputable def nonneg : Option Int → Prop
  | some i => 0 ≤ i
  | none => True
theorem clip (h : Int) (n : Nat) (hh : 0 ≤ h) : max 0 (min h (n : Int)) = ((min h.toNat n : Nat) : Int) := by lia
theorem partL_pick (items : List Value) {lo hi : Option Int} (h1 : nonneg lo) (h2 : nonneg hi) : (slicePick ⟨items⟩ lo hi none) = ⟨partL lo hi items⟩ := by
  have clipU : ∀ (h : Int), 0 ≤ h → slicePick ⟨items⟩ lo (some h) none = slicePick ⟨items⟩ lo (some ((min h.toNat items.length : Nat) : Int)) none := by
    intro h hh
    unfold slicePick sliceBounds
    have : (max 0 (min h (items.length : Int))) = max 0 (min ((min h.toNat items.length : Nat) : Int) (items.length : Int)) := by rw [clip h _ hh, clip _ _ (Int.natCast_nonneg _), Int.toNat_natCast, Nat.min_assoc, Nat.min_self]
    simp only [Option.getD_none, show (1 : Int) > 0 from by decide, if_true, show ¬ h < 0 from Int.not_lt.mpr hh, if_false, show ¬ ((min h.toNat items.length : Nat) : Int) < 0 from Int.not_lt.mpr (Int.natCast_nonneg _), List.size_toArray]
    rw [this]
  have clipL : ∀ (hi : Option Int) (h : Int), 0 ≤ h → slicePick ⟨items⟩ (some h) hi none = slicePick ⟨items⟩ (some ((min h.toNat items.length : Nat) : Int)) hi none := by
    intro hi h hh
    unfold slicePick sliceBounds
    have : (max 0 (min h (items.length : Int))) = max 0 (min ((min h.toNat items.length : Nat) : Int) (items.length : Int)) := by rw [clip h _ hh, clip _ _ (Int.natCast_nonneg _), Int.toNat_natCast, Nat.min_assoc, Nat.min_self]
    simp only [Option.getD_none, show (1 : Int) > 0 from by decide, if_true, show ¬ h < 0 from Int.not_lt.mpr hh, if_false, show ¬ ((min h.toNat items.length : Nat) : Int) < 0 from Int.not_lt.mpr (Int.natCast_nonneg _), List.size_toArray]
    rw [this]
  have tk : ∀ n : Nat, items.take (min n items.length) = items.take n := fun n => by
    by_cases h : n ≤ items.length
    · rw [Nat.min_eq_left h]
    · rw [Nat.min_eq_right (by lia), List.take_of_length_le (by lia : items.length ≤ n), List.take_of_length_le (Nat.le_refl _)]
  have dr : ∀ n : Nat, items.drop (min n items.length) = items.drop n := fun n => by
    by_cases h : n ≤ items.length
    · rw [Nat.min_eq_left h]
    · rw [Nat.min_eq_right (by lia), List.drop_of_length_le (by lia : items.length ≤ n), List.drop_of_length_le (Nat.le_refl _)]
  cases lo with
  | none =>
    cases hi with
    | none => exact slicePick_all _
    | some h =>
      rw [clipU h h2, slicePick_upto _ _ (by simp; lia)]
      show _ = (⟨items.take h.toNat⟩ : Array Value)
      rw [tk]
  | some a =>
    cases hi with
    | none =>
      rw [clipL none a h1, slicePick_from _ _ (by simp; lia)]
      show _ = (⟨items.drop a.toNat⟩ : Array Value)
      rw [dr]
    | some h =>
      have h1 : 0 ≤ a := h1
      have h2 : 0 ≤ h := h2
      rw [clipU h h2, clipL _ a h1]
      show _ = (⟨(items.take h.toNat).drop a.toNat⟩ : Array Value)
      by_cases hab : min a.toNat items.length ≤ min h.toNat items.length
      · rw [slicePick_run _ _ _ (by simp; lia) hab]
        congr 1
        rw [dr, ← tk h.toNat, List.drop_take]
        by_cases ha : a.toNat ≤ items.length
        · rw [Nat.min_eq_left ha]
        · rw [List.drop_of_length_le (by lia : items.length ≤ a.toNat)]; simp
      · unfold slicePick sliceBounds
        have e0 : ∀ k : Nat, (max 0 (min ((min k items.length : Nat) : Int) (items.length : Int))) = ((min k items.length : Nat) : Int) := fun k => by rw [clip _ _ (Int.natCast_nonneg _), Int.toNat_natCast, Nat.min_assoc, Nat.min_self]
        have e1 := e0 a.toNat
        have e2 := e0 h.toNat
        simp only [Option.getD_none, show (1 : Int) > 0 from by decide, if_true, show ¬ ((min a.toNat items.length : Nat) : Int) < 0 from Int.not_lt.mpr (Int.natCast_nonneg _), show ¬ ((min h.toNat items.length : Nat) : Int) < 0 from Int.not_lt.mpr (Int.natCast_nonneg _), if_false, List.size_toArray]
        rw [e1, e2, sliceRange_one]
        have : (min h.toNat items.length) - (min a.toNat items.length) = 0 := by lia
        rw [this]
        have : (items.take h.toNat).drop a.toNat = [] := List.drop_of_length_le (by rw [List.length_take]; lia)
        rw [this]
        rfl
noncomputable def lsliceF (args : List Value) (V : View) (hs : List Nat) (K : Result → View → List Nat → VC) : VC := match args with
  | [.ref l, .ref a] => match hs with
    | i :: hs => match hs with
      | j :: hs => match nth V i with
        | none => .ff
        | some p => match listParts p.2 with
          | none => .ff
          | some q => match q with
            | (items, ep) => match nth V j with
              | none => .ff
              | some p2 => match sliceParts p2.2 with
                | none => .ff
                | some r => .eq l p.1 <| .eq a p2.1 <| .ob ((nonneg (ptI r.1) ∧ nonneg (ptI r.2) ∧ items.length ≤ sizeLine)) <| .al fun a' => K (.ok (.ret (.ref a'))) ((a', ⟨p.2.cls, none, .seq ⟨partL (ptI r.1) (ptI r.2) items⟩ 0, #[]⟩) :: V) hs
      | [] => .ff
    | [] => .ff
  | _ => .ff
theorem part_is {p : Option (Int × Tok)} : IsPart (partValue p) (ptI p) := by
  cases p with
  | none => exact .none
  | some p => exact .int _ _
noncomputable def lsliceC (B : Bs) : BCut B where
  id := "list.__getitem__"
  code := 128106587276438692081757506308484131437
  d := 0
  f := lsliceF
  hid := by rw [← S.code_S]; decide +kernel
  ok := by
    intro args V hs K h A s _ D
    unfold lsliceF at h
    split at h
    · rename_i l a
      split at h
      · rename_i i hs'
        split at h
        · rename_i j hs
          split at h
          · cases h
          · rename_i p hp
            split at h
            · cases h
            · rename_i q hq
              split at h
              rename_i items ep
              split at h
              · cases h
              · rename_i p2 hp2
                split at h
                · cases h
                · rename_i r hr
                  obtain ⟨rfl, rfl, ⟨h1, h2, hsz⟩, h⟩ := h
                  rw [nth_eq] at hp hp2
                  have ho := D.has _ (List.mem_of_getElem? hp)
                  rw [listParts_is hq] at ho
                  obtain ⟨os, hos, hcs, hds⟩ := sliceParts_is (D.has _ (List.mem_of_getElem? hp2)) hr
                  have hTs : s.TypeIs (.ref p2.1) "slice" := ⟨os, hos, hcs⟩
                  have hc : p.2.cls = .type "list" := by rw [listParts_is hq]
                  have hl : s.heap.IsList p.1 ⟨items⟩ := ⟨_, ho, rfl, _, rfl⟩
                  refine codeAny_builtin (b := Builtin.«list.__getitem__») (entryFor_of_tree (by kernel_rfl)) ?_
                  rw [Around.under_plainId (by decide +kernel)]
                  show wpAny _ _ (Builtin.List.listSubscript? (.ref p2.1) >>= _) _ _ s
                  refine wpAny_bind ?_
                  unfold Builtin.List.listSubscript?
                  refine wpAny_bind (wpAny_specialOf hTs slice_no_index ?_)
                  simp only [Option.isNone_none, if_true]
                  refine wpAny_pure ?_
                  show wpAny _ _ (typeOf (.ref p2.1) >>= _) _ _ s
                  refine wpAny_bind (wpAny_typeOf hTs ?_)
                  rw [if_neg (by decide)]
                  rw [listSliceParts_eq]
                  have pl := part_is (p := r.1)
                  have pu := part_is (p := r.2)
                  refine wpAny_bind (wpAny_bind (wpAny_field hos hds (x := .none) rfl (wpAny_bind (wpAny_listPart .none ?_))))
                  rw [if_neg (show ¬ ((rawPart none == rawInt 0) = true) from Bool.false_ne_true)]
                  refine wpAny_bind (wpAny_field hos hds (x := partValue r.1) rfl (wpAny_bind (wpAny_listPart pl ?_)))
                  refine wpAny_bind (wpAny_field hos hds (x := partValue r.2) rfl (wpAny_bind (wpAny_listPart pu (wpAny_pure ?_))))
                  refine wpAny_bind (m := Builtin.List.listItems (.ref p.1)) ?_
                  unfold Builtin.List.listItems
                  refine wpAny_bind (wpAny_seqItems ho rfl (wpAny_pure ?_))
                  refine wpAny_bind (wpAny_of_eq (sliceIndices_raw (ptI r.1) (ptI r.2) none _ (by simp)) ?_)
                  have e := partL_pick items h1 h2
                  have z := D.alloc (o := listX (partL (ptI r.1) (ptI r.2) items) 0) rfl
                  rw [hc] at h
                  refine wpAny_bind (wpAny_newObj_type (wpAny_pure ?_) (Nat.le_trans (slicePick_size_le ⟨items⟩ (ptI r.1) (ptI r.2) none) hsz))
                  refine ⟨_, hs, h s.heap.objs.size, ?_, ?_⟩
                  · show Rep B _ { s with heap := s.heap.push (listX (slicePick ⟨items⟩ (ptI r.1) (ptI r.2) none).toList 0) }
                    rw [e]; exact z.1
                  · show Ext B _ _ _ { s with heap := s.heap.push (listX (slicePick ⟨items⟩ (ptI r.1) (ptI r.2) none).toList 0) }
                    rw [e]; exact z.2
        · cases h
      · cases h
    · cases h
noncomputable def AllInt (xs : List Value) : Prop := ∀ v ∈ xs, v = .int (shI v) (shT v)
noncomputable def isI (x : Int) (v : Value) : Bool := match v with
  | .int i _ => i == x
  | _ => false
theorem isI_gives {y : Value} {x : Int} (t : Tok) (h : y = .int (shI y) (shT y)) : MeetsSeq.EqGives y (.int x t) (isI x y) := by
  rw [h]
  exact MeetsSeq.EqGives.int _ _ _ _
noncomputable def idxI : List Value → Int → Nat
  | [], _ => 0
  | v :: l, x => match isI x v with
    | true => 0
    | false => idxI l x + 1
theorem idxI_at : ∀ (l : List Value) (x : Int), l.any (isI x) = true → ∃ h : idxI l x < l.length, isI x l[idxI l x] = true ∧ ∀ m (hm : m < l.length), m < idxI l x → isI x l[m] = false
  | [], x, h => by simp at h
  | v :: l, x, h => by
    cases e : isI x v with
    | true =>
      have e0 : idxI (v :: l) x = 0 := by unfold idxI; rw [e]
      simp only [e0]
      exact ⟨by simp, e, fun m hm h0 => absurd h0 (Nat.not_lt_zero _)⟩
    | false =>
      have e0 : idxI (v :: l) x = idxI l x + 1 := by rw [idxI]; rw [e]
      rw [List.any_cons, e, Bool.false_or] at h
      obtain ⟨h1, h2, h3⟩ := idxI_at l x h
      simp only [e0]
      refine ⟨by simpa using h1, by simpa using h2, fun m hm h0 => ?_⟩
      cases m with
      | zero => exact e
      | succ m => exact h3 m (by simpa using hm) (by lia)
noncomputable def idxF (rest items : List Value) (_ep _h : Nat) : Option (Prop × LO) := match rest with
  | [.int x _] => some (AllInt items ∧ items.any (isI x) = true ∧ items.length ≤ sizeLine, .int (idxI items x : Nat))
  | _ => none
theorem idxF_some {rest items : List Value} {ep h : Nat} {P : Prop} {o : LO} (e : idxF rest items ep h = some (P, o)) : ∃ x t, rest = [.int x t] ∧ P = (AllInt items ∧ items.any (isI x) = true ∧ items.length ≤ sizeLine) ∧ o = .int (idxI items x : Nat) := by
  unfold idxF at e
  split at e
  · cases e; exact ⟨_, _, rfl, rfl, rfl⟩
  · cases e
noncomputable def idxC (B : Bs) : BCut B := lcut B "list.index" 573295221500217757297261 Builtin.«list.index» idxF (by decide +kernel) (entryFor_of_tree (by kernel_rfl)) (by decide +kernel) (by
  intro l rest items ep h P o e hP prog w A R s ho hR
  obtain ⟨x, t, rfl, rfl, rfl⟩ := idxF_some e
  obtain ⟨h1, h2, h3⟩ := hP
  obtain ⟨g1, g2, g3⟩ := idxI_at items x h2
  exact MeetsSeq.list_index l ⟨items⟩ ep (.int x t) (isI x) (fun y hy => isI_gives t (h1 y (by simpa using hy))) (idxI items x) g1 (by have := line63; lia) g2 (fun m hm h0 => g3 m hm h0) prog w A R s ⟨ho, hR _ _⟩)
noncomputable def cntF (rest items : List Value) (_ep _h : Nat) : Option (Prop × LO) := match rest with
  | [.int x _] => some (AllInt items ∧ items.length ≤ sizeLine, .int (items.countP (isI x) : Nat))
  | _ => none
theorem cntF_some {rest items : List Value} {ep h : Nat} {P : Prop} {o : LO} (e : cntF rest items ep h = some (P, o)) : ∃ x t, rest = [.int x t] ∧ P = (AllInt items ∧ items.length ≤ sizeLine) ∧ o = .int (items.countP (isI x) : Nat) := by
  unfold cntF at e
  split at e
  · cases e; exact ⟨_, _, rfl, rfl, rfl⟩
  · cases e
noncomputable def cntC (B : Bs) : BCut B := lcut B "list.count" 554573001519379114125933 Builtin.«list.count» cntF (by decide +kernel) (entryFor_of_tree (by kernel_rfl)) (by decide +kernel) (by
  intro l rest items ep h P o e hP prog w A R s ho hR
  obtain ⟨x, t, rfl, rfl, rfl⟩ := cntF_some e
  exact MeetsSeq.list_count l ⟨items⟩ ep (.int x t) (isI x) (fun y hy => isI_gives t (hP.1 y (by simpa using hy))) prog w A R s ⟨ho, hR _ _⟩)
noncomputable def ctnB : Nat → Bool
  | 0 => false
  | _ => true
noncomputable def ctnF (rest items : List Value) (_ep h : Nat) : Option (Prop × LO) := match rest with
  | [.int x _] => some (AllInt items ∧ items.any (isI x) = ctnB h, .ret (.bool (ctnB h)))
  | _ => none
theorem ctnF_some {rest items : List Value} {ep h : Nat} {P : Prop} {o : LO} (e : ctnF rest items ep h = some (P, o)) : ∃ x t, rest = [.int x t] ∧ P = (AllInt items ∧ items.any (isI x) = ctnB h) ∧ o = .ret (.bool (ctnB h)) := by
  unfold ctnF at e
  split at e
  · cases e; exact ⟨_, _, rfl, rfl, rfl⟩
  · cases e
noncomputable def ctnC (B : Bs) : BCut B := lcut B "list.__contains__" 32795317678217157189674408721764467370605 Builtin.«list.__contains__» ctnF (by decide +kernel) (entryFor_of_tree (by kernel_rfl)) (by decide +kernel) (by
  intro l rest items ep h P o e hP prog w A R s ho hR
  obtain ⟨x, t, rfl, rfl, rfl⟩ := ctnF_some e
  refine MeetsSeq.list_contains l ⟨items⟩ ep (.int x t) (isI x) (fun y hy => isI_gives t (hP.1 y (by simpa using hy))) prog w A R s ⟨ho, ?_⟩
  have e2 : (⟨items⟩ : Array Value).any (isI x) = ctnB h := by rw [← hP.2]; simp
  rw [e2]
  exact hR s.toks)
end Mine
end
section
namespace Mine
open PySem PySem.Spec PySem.Calls PyProof.Rows PySem.W PySem.W.X PySem.Builtin PySem.Builtin.Str PySem.Builtin.Int PySem.StrLaws
structure Cel (cs : List Value) (b : Int) : Prop where
  ai : AllInt cs
  l2 : cs.length = 2
  bd : ∀ v ∈ cs, 0 ≤ shI v ∧ shI v ≤ b
structure C1P (cur left : Int) (xs cs : List Value) (m : Nat) : Prop where
  c0 : 0 ≤ cur
  l0 : 0 ≤ left
  lm : left ≤ m
  cl : cur + left = xs.length
  x63 : xs.length ≤ 63
  xi : AllInt xs
  cel : Cel cs (1000000 * (cur + 1))
theorem item_int {l : List Value} (h : AllInt l) {i : Nat} (hi : i < l.length) : itemAt l i = .int (shI (itemAt l i)) (shT (itemAt l i)) := h _ (List.mem_of_getElem? (itemAt_eq hi))
theorem item_mem {l : List Value} {i : Nat} (hi : i < l.length) : itemAt l i ∈ l := List.mem_of_getElem? (itemAt_eq hi)
theorem get_ob {l : List Value} (h : AllInt l) {k : Int} (h0 : 0 ≤ k) (h1 : k.toNat < l.length) (h2 : l.length ≤ 1000) : (0 ≤ k ∧ k.toNat < l.length ∧ l.length ≤ sizeLine) ∧ itemAt l k.toNat = .int (shI (itemAt l k.toNat)) (shT (itemAt l k.toNat)) := by
  have := line1000
  exact ⟨⟨h0, h1, by lia⟩, item_int h h1⟩
theorem fmod2 (k : Int) : 0 ≤ k.fmod 2 ∧ k.fmod 2 < 2 := fmod_bd k (by decide)
theorem C1P.g1 {cur left : Int} {xs cs : List Value} {m : Nat} (h : C1P cur left xs cs m) : (0 ≤ cur.fmod 2 ∧ (cur.fmod 2).toNat < cs.length ∧ cs.length ≤ sizeLine) ∧ itemAt cs (cur.fmod 2).toNat = .int (shI (itemAt cs (cur.fmod 2).toNat)) (shT (itemAt cs (cur.fmod 2).toNat)) := by
  have := fmod2 cur; have h2 := h.cel.l2
  exact get_ob h.cel.ai this.1 (by lia) (by lia)
theorem C1P.g2 {cur left : Int} {xs cs : List Value} {m : Nat} (h : C1P cur left xs cs m) (h0 : 0 < left) : (0 ≤ cur ∧ cur.toNat < xs.length ∧ xs.length ≤ sizeLine) ∧ itemAt xs cur.toNat = .int (shI (itemAt xs cur.toNat)) (shT (itemAt xs cur.toNat)) := by
  have := h.c0; have := h.cl; have := h.x63
  exact get_ob h.xi h.c0 (by lia) (by lia)
theorem C1P.s {cur left : Int} {xs cs : List Value} {m : Nat} (h : C1P cur left xs cs m) : 0 ≤ cur.fmod 2 ∧ (cur.fmod 2).toNat < cs.length ∧ cs.length ≤ sizeLine := h.g1.1
theorem setV_mem {l : List Value} {i : Nat} {v w : Value} (h : w ∈ setV l i v) : w ∈ l ∨ w = v := by
  rw [setV_eq] at h
  exact List.mem_or_eq_of_mem_set h
theorem C1P.next {cur left : Int} {xs cs : List Value} {m : Nat} (h : C1P cur left xs cs (m + 1)) (h0 : 0 < left) (t : Tok) : C1P (cur + 1) (left - 1) xs (setV cs (cur.fmod 2).toNat (.int (shI (itemAt cs (cur.fmod 2).toNat) + (shI (itemAt xs cur.toNat)).fmod ((10 : Int) ^ (6 : Int).toNat)) t)) m := by
  have h1 := h.c0; have h2 := h.cl; have h3 := h.lm; have h4 := h.cel.l2
  have hb := fmod_bd (shI (itemAt xs cur.toNat)) (b := (10 : Int) ^ (6 : Int).toNat) (by decide)
  have e : (10 : Int) ^ (6 : Int).toNat = 1000000 := by decide
  have hi : (cur.fmod 2).toNat < cs.length := h.g1.1.2.1
  have hv := h.cel.bd _ (item_mem hi)
  refine ⟨by lia, by lia, by lia, by lia, h.x63, h.xi, ⟨fun v hv => ?_, by rw [setV_len]; exact h4, fun v hv' => ?_⟩⟩
  · rcases setV_mem hv with hv | rfl
    · exact h.cel.ai v hv
    · rfl
  · rcases setV_mem hv' with hv' | rfl
    · have := h.cel.bd v hv'; lia
    · show 0 ≤ shI (itemAt cs (cur.fmod 2).toNat) + _ ∧ shI (itemAt cs (cur.fmod 2).toNat) + _ ≤ _
      rw [e] at hb ⊢
      generalize (shI (itemAt xs cur.toNat)).fmod 1000000 = z at *
      lia
theorem C1P.fin {cur left : Int} {xs cs : List Value} {m : Nat} (h : C1P cur left xs cs m) (h0 : left ≤ 0) : Cel cs 100000000 := by
  have h1 := h.c0; have h2 := h.cl; have h3 := h.l0; have h4 := h.x63
  exact ⟨h.cel.ai, h.cel.l2, fun v hv => by have := h.cel.bd v hv; lia⟩
noncomputable def sepL : Nat → List Nat
  | 0 => [10]
  | 1 => [9]
  | _ => [13, 10]
noncomputable def bitAt (b k : Int) : Bool := decide (bAnd (b.fdiv (2 ^ k.toNat)) 1 = 1)
noncomputable def escL (c : Nat) : List Nat := if c = 34 ∨ c = 92 then [92, c] else [c]
noncomputable def bodyL (q : Bool) (c : Nat) : List Nat := if q then 34 :: 46 :: (escL c ++ [34]) else [92, 46, 92, c]
noncomputable def pcL (q : Bool) (c k : Nat) : List Nat := bodyL q c ++ sepL (k % 3)
noncomputable def txtL (sg : List Nat) (b : Int) : Nat → Nat → List Nat
  | 0, _ => []
  | m + 1, k => pcL (bitAt b k) (sg.getD k 0) k ++ txtL sg b m (k + 1)
structure TxP (cur left : Int) (sg : Str) (cs : List Value) (text : Str) (m : Nat) : Prop where
  c0 : 0 ≤ cur
  l0 : 0 ≤ left
  lm : left ≤ m
  cl : cur + left = sg.length
  s6 : sg.length ≤ 6
  cel : Cel cs 100000000
  tl : text.length ≤ 8 * cur.toNat
structure TxR (cur left : Int) (sg : Str) (cs : List Value) (text text' : Str) : Prop where
  t : text' = text ++ sL (txtL sg.cps.toList (shI (itemAt cs 1)) left.toNat cur.toNat)
theorem len_lit (l : List Nat) : Str.length ⟨⟨l⟩⟩ = l.length := rfl
theorem chAt_len (x : Str) (i : Int) : (chAt x i).length = 1 := rfl
theorem chAt_sL (x : Str) (i : Int) : chAt x i = sL [x.cps.toList.getD i.toNat 0] := by
  unfold chAt sL
  congr 1
  apply Array.ext'
  show [x.cps.getD i.toNat 0] = [x.cps.toList.getD i.toNat 0]
  congr 1
  simp [Array.getD, List.getD]
  by_cases h : i.toNat < x.cps.size
  · simp [h]
  · simp [h]
theorem sIn_q (c : Nat) : sIn ⟨#[34, 92]⟩ (sL [c]) = decide (c = 34 ∨ c = 92) := by
  show sIn ⟨#[34, 92]⟩ (⟨#[c]⟩ : Str) = _
  unfold sIn
  rw [StrLaws.found_one]
  simp
theorem sep3_ob (cur : Int) (a b c : Tok) : ((0 : Int) ≤ cur.fmod 3 ∧ (cur.fmod 3).toNat < ([Value.str ⟨#[10]⟩ a] ++ ([Value.str ⟨#[9]⟩ b] ++ ([Value.str ⟨#[13, 10]⟩ c] ++ []))).length ∧ ([Value.str ⟨#[10]⟩ a] ++ ([Value.str ⟨#[9]⟩ b] ++ ([Value.str ⟨#[13, 10]⟩ c] ++ []))).length ≤ sizeLine) ∧
    itemAt ([Value.str ⟨#[10]⟩ a] ++ ([Value.str ⟨#[9]⟩ b] ++ ([Value.str ⟨#[13, 10]⟩ c] ++ []))) (cur.fmod 3).toNat = .str (shS (itemAt ([Value.str ⟨#[10]⟩ a] ++ ([Value.str ⟨#[9]⟩ b] ++ ([Value.str ⟨#[13, 10]⟩ c] ++ []))) (cur.fmod 3).toNat)) (shT (itemAt ([Value.str ⟨#[10]⟩ a] ++ ([Value.str ⟨#[9]⟩ b] ++ ([Value.str ⟨#[13, 10]⟩ c] ++ []))) (cur.fmod 3).toNat)) := by
  have h := fmod_bd cur (b := 3) (by decide)
  have h3 : (cur.fmod 3).toNat = 0 ∨ (cur.fmod 3).toNat = 1 ∨ (cur.fmod 3).toNat = 2 := by lia
  refine ⟨⟨h.1, by show _ < 3; lia, by show 3 ≤ _; decide⟩, ?_⟩
  rcases h3 with h3 | h3 | h3 <;> rw [h3] <;> rfl
theorem fmod3 {cur : Int} (h : 0 ≤ cur) : (cur.fmod 3).toNat = cur.toNat % 3 := by
  rw [Int.fmod_eq_emod_of_nonneg _ (by decide)]
  lia
theorem sep3_s {cur : Int} (h0 : 0 ≤ cur) (a b c : Tok) : shS (itemAt ([Value.str ⟨#[10]⟩ a] ++ ([Value.str ⟨#[9]⟩ b] ++ ([Value.str ⟨#[13, 10]⟩ c] ++ []))) (cur.fmod 3).toNat) = sL (sepL (cur.toNat % 3)) := by
  rw [fmod3 h0]
  have h3 : cur.toNat % 3 = 0 ∨ cur.toNat % 3 = 1 ∨ cur.toNat % 3 = 2 := by lia
  rcases h3 with h3 | h3 | h3 <;> rw [h3] <;> rfl
section
variable {cur left : Int} {sg : Str} {cs : List Value} {text : Str} {m : Nat}
theorem TxP.cb (h : TxP cur left sg cs text m) : ((0 : Int) ≤ 1 ∧ (1 : Int).toNat < cs.length ∧ cs.length ≤ sizeLine) ∧ itemAt cs (1 : Int).toNat = .int (shI (itemAt cs (1 : Int).toNat)) (shT (itemAt cs (1 : Int).toNat)) := by
  have h2 := h.cel.l2
  exact get_ob h.cel.ai (by decide) (by show 1 < _; lia) (by lia)
theorem TxP.sgo (h : TxP cur left sg cs text m) (h0 : 0 < left) : 0 ≤ cur ∧ cur.toNat < sg.length ∧ sg.length ≤ sizeLine := by
  have := h.c0; have := h.cl; have := h.s6; have := line100
  exact ⟨h.c0, by lia, by lia⟩
theorem body_q (b cur : Int) (sg : Str) (h : bAnd (b.fdiv (2 ^ cur.toNat)) 1 = 1) (h0 : 0 ≤ cur) (hs : sIn ⟨#[34, 92]⟩ (chAt sg cur) = true) : (⟨#[34, 46]⟩ ++ ⟨#[92]⟩ ++ chAt sg cur ++ ⟨#[34]⟩ : Str) = sL (bodyL (bitAt b cur.toNat) (sg.cps.toList.getD cur.toNat 0)) := by
  rw [chAt_sL] at hs ⊢
  rw [sIn_q, decide_eq_true_eq] at hs
  have hb : bitAt b cur.toNat = true := by unfold bitAt; rw [Int.toNat_of_nonneg h0]; exact decide_eq_true h
  rw [hb]
  unfold bodyL escL
  rw [if_pos rfl, if_pos hs]
  rfl
theorem body_r (b cur : Int) (sg : Str) (h : bAnd (b.fdiv (2 ^ cur.toNat)) 1 = 1) (h0 : 0 ≤ cur) (hs : sIn ⟨#[34, 92]⟩ (chAt sg cur) = false) : (⟨#[34, 46]⟩ ++ chAt sg cur ++ ⟨#[34]⟩ : Str) = sL (bodyL (bitAt b cur.toNat) (sg.cps.toList.getD cur.toNat 0)) := by
  rw [chAt_sL] at hs ⊢
  rw [sIn_q, decide_eq_false_iff_not] at hs
  have hb : bitAt b cur.toNat = true := by unfold bitAt; rw [Int.toNat_of_nonneg h0]; exact decide_eq_true h
  rw [hb]
  unfold bodyL escL
  rw [if_pos rfl, if_neg hs]
  rfl
theorem body_b (b cur : Int) (sg : Str) (h : bAnd (b.fdiv (2 ^ cur.toNat)) 1 ≠ 1) (h0 : 0 ≤ cur) : (⟨#[92, 46, 92]⟩ ++ chAt sg cur : Str) = sL (bodyL (bitAt b cur.toNat) (sg.cps.toList.getD cur.toNat 0)) := by
  rw [chAt_sL]
  have hb : bitAt b cur.toNat = false := by unfold bitAt; rw [Int.toNat_of_nonneg h0]; exact decide_eq_false h
  rw [hb]
  rfl
theorem bodyL_len (q : Bool) (c : Nat) : (bodyL q c).length ≤ 5 := by
  unfold bodyL escL
  split
  · split <;> simp
  · simp
theorem sepL_len (k : Nat) : (sepL k).length ≤ 2 := by
  match k with
  | 0 => decide
  | 1 => decide
  | k + 2 => show 2 ≤ 2; decide
theorem TxP.next (h : TxP cur left sg cs text (m + 1)) (h0 : 0 < left) {b : Int} {Y : Str} {x y z : Tok} (hY : Y = sL (bodyL (bitAt b cur.toNat) (sg.cps.toList.getD cur.toNat 0))) :
    TxP (cur + 1) (left - 1) sg cs (text ++ Y ++ shS (itemAt ([Value.str ⟨#[10]⟩ x] ++ ([Value.str ⟨#[9]⟩ y] ++ ([Value.str ⟨#[13, 10]⟩ z] ++ []))) (cur.fmod 3).toNat)) m := by
  have h1 := h.c0; have h2 := h.cl; have h3 := h.lm; have h4 := h.tl
  refine ⟨by lia, by lia, by lia, by lia, h.s6, h.cel, ?_⟩
  rw [sep3_s h1, hY, Str.length_append, Str.length_append, sL_len, sL_len]
  have := bodyL_len (bitAt b cur.toNat) (sg.cps.toList.getD cur.toNat 0)
  have := sepL_len (cur.toNat % 3)
  lia
theorem TxR.step (h : TxP cur left sg cs text (m + 1)) (h0 : 0 < left) {Y : Str} {x y z : Tok} (hY : Y = sL (bodyL (bitAt (shI (itemAt cs 1)) cur.toNat) (sg.cps.toList.getD cur.toNat 0))) {text' : Str}
    (r : TxR (cur + 1) (left - 1) sg cs (text ++ Y ++ shS (itemAt ([Value.str ⟨#[10]⟩ x] ++ ([Value.str ⟨#[9]⟩ y] ++ ([Value.str ⟨#[13, 10]⟩ z] ++ []))) (cur.fmod 3).toNat)) text') : TxR cur left sg cs text text' := by
  have h1 := h.c0
  have e := r.t
  refine ⟨?_⟩
  rw [sep3_s h1, hY] at e
  rw [e, show left.toNat = (left - 1).toNat + 1 by lia, txtL, show (cur + 1).toNat = cur.toNat + 1 by lia]
  unfold pcL
  rw [Str.append_assoc, Str.append_assoc, sL_app, sL_app]
  simp
theorem TxR.fin (h : TxP cur left sg cs text m) (h0 : left ≤ 0) : TxR cur left sg cs text text := by
  refine ⟨?_⟩
  rw [show left.toNat = 0 by lia]
  exact (Str.append_empty text).symm
theorem TxP.o1 (h : TxP cur left sg cs text m) (h0 : 0 < left) {Y : Str} (hY : Y.length ≤ 8) : (text ++ Y).length ≤ sizeLine := by
  have := h.tl; have := h.c0; have := h.cl; have := h.s6; have := small_line
  rw [Str.length_append]; lia
theorem TxP.o2 (h : TxP cur left sg cs text m) (h0 : 0 < left) {Y : Str} (hY : Y.length ≤ 8) (x y z : Tok) : (text ++ Y ++ shS (itemAt ([Value.str ⟨#[10]⟩ x] ++ ([Value.str ⟨#[9]⟩ y] ++ ([Value.str ⟨#[13, 10]⟩ z] ++ []))) (cur.fmod 3).toNat)).length ≤ sizeLine := by
  have := h.tl; have h1 := h.c0; have := h.cl; have := h.s6; have := small_line
  have := sepL_len (cur.toNat % 3)
  rw [sep3_s h1, Str.length_append, Str.length_append, sL_len]; lia
end
end Mine
end
section

namespace Mine
open PySem PySem.Spec PySem.Calls PyProof.Rows PySem.W PySem.W.X PySem.Builtin.Str
noncomputable def s_script : Str := ⟨#[115, 99, 114, 105, 112, 116]⟩
noncomputable def s_cells : Str := ⟨#[99, 101, 108, 108, 115]⟩
noncomputable def s_count : Str := ⟨#[99, 111, 117, 110, 116]⟩
noncomputable def s_signs : Str := ⟨#[115, 105, 103, 110, 115]⟩
noncomputable def s_source : Str := ⟨#[115, 111, 117, 114, 99, 101]⟩
noncomputable def s_order : Str := ⟨#[111, 114, 100, 101, 114]⟩
noncomputable def s_feeds : Str := ⟨#[102, 101, 101, 100, 115]⟩
noncomputable def s_quotient : Str := ⟨#[113, 117, 111, 116, 105, 101, 110, 116]⟩
noncomputable def s_places : Str := ⟨#[112, 108, 97, 99, 101, 115]⟩
noncomputable def s_forth : Str := ⟨#[102, 111, 114, 116, 104]⟩
noncomputable def s_greater : Str := ⟨#[103, 114, 101, 97, 116, 101, 114]⟩
noncomputable def s_other : Str := ⟨#[111, 116, 104, 101, 114]⟩
noncomputable def s_hence : Str := ⟨#[104, 101, 110, 99, 101]⟩
noncomputable def s_lesser : Str := ⟨#[108, 101, 115, 115, 101, 114]⟩
noncomputable def s_j : Str := ⟨#[106]⟩
noncomputable def s_sign : Str := ⟨#[115, 105, 103, 110]⟩
noncomputable def stdH (B : Bs) : List (BCut B) := stdG B ++ [lsliceC B, idxC B, cntC B, ctnC B]
noncomputable def lwEnv (w : World) (L c0 c1 c2 c3 c4 c5 c6 c7 : Addr) : Env := envF w 149 L ⟨#[108, 97, 119, 46, 60, 108, 111, 99, 97, 108, 115, 62, 46]⟩ [(s_lesser, c7), (s_greater, c6), (s_places, c5), (s_order, c4), (s_words, c3), (s_source, c2), (s_signs, c1), (s_count, c0)]
noncomputable def lwS (w : World) (p : List Nat) : Stmt := pathS (stmtsOf (fdAt w 149)) p
noncomputable def S_c1 (W : Wd) (m : Nat) : Sp (BB W) :=
  let B := BB W
  { d := 60
    c := fun q => forC (lwS W.w [1]) (q.a 9) (lwEnv W.w (q.a 0) (q.a 1) (q.a 2) (q.a 3) (q.a 4) (q.a 5) (q.a 6) (q.a 7) (q.a 8))
    P := fun q => C1P (q.i 0) (q.i 1) (q.l 0) (q.l 1) m
    pre := fun q => [((q.a 0),frameO [kv B s_script (q.t 0) (.ref (q.a 10)),kv B s_cells (q.t 1) (.ref (q.a 11)),kv B s_k (q.t 2) (q.v 0)] 3),((q.a 9),fieldsO tRG [(.int (q.i 0) (q.t 3)),(.int (q.i 1) (q.t 4)),(.int 1 (q.t 5))]),((q.a 10),listO (q.l 0) (q.t 6)),((q.a 11),listO (q.l 1) (q.t 7))]
    R := fun q e => Cel (e.l 0) 100000000
    res := fun q e => .ok .next
    out := fun q e => [((q.a 0),frameO [kv B s_script (q.t 0) (.ref (q.a 10)),kv B s_cells (q.t 1) (.ref (q.a 11)),kv B s_k (q.t 2) (e.v 0)] 3),((q.a 10),listO (q.l 0) (q.t 6)),((q.a 11),listO (e.l 0) (e.t 0))] }
noncomputable def on_c1 : Code → View → Lt := fun c V => lt [(cEnv c).locals,envCell 7 (cEnv c),envCell 6 (cEnv c),envCell 5 (cEnv c),envCell 4 (cEnv c),envCell 3 (cEnv c),envCell 2 (cEnv c),envCell 1 (cEnv c),envCell 0 (cEnv c),valA (cIt c),dA V 0 0,dA V 0 1] [kT V 0 0,kT V 0 1,kT V 0 2,qT V 1 0,qT V 1 1,qT V 1 2,eP V 2,eP V 3] [qI V 1 0,qI V 1 1] [] [dV V 0 2] [sQ V 2,sQ V 3] []
noncomputable def S_c1f (W : Wd) (m : Nat) : Sp (BB W) :=
  let B := BB W
  { d := 60
    c := fun q => forC (lwS W.w [1]) (q.a 9) (lwEnv W.w (q.a 0) (q.a 1) (q.a 2) (q.a 3) (q.a 4) (q.a 5) (q.a 6) (q.a 7) (q.a 8))
    P := fun q => C1P (q.i 0) (q.i 1) (q.l 0) (q.l 1) m ∧ 0 < (q.i 1)
    pre := fun q => [((q.a 0),frameO [kv B s_script (q.t 0) (.ref (q.a 10)),kv B s_cells (q.t 1) (.ref (q.a 11))] 2),((q.a 9),fieldsO tRG [(.int (q.i 0) (q.t 2)),(.int (q.i 1) (q.t 3)),(.int 1 (q.t 4))]),((q.a 10),listO (q.l 0) (q.t 5)),((q.a 11),listO (q.l 1) (q.t 6))]
    R := fun q e => Cel (e.l 0) 100000000
    res := fun q e => .ok .next
    out := fun q e => [((q.a 0),frameO [kv B s_script (q.t 0) (.ref (q.a 10)),kv B s_cells (q.t 1) (.ref (q.a 11)),kv B s_k (e.t 0) (e.v 0)] 3),((q.a 10),listO (q.l 0) (q.t 5)),((q.a 11),listO (e.l 0) (e.t 1))] }
noncomputable def on_c1f : Code → View → Lt := fun c V => lt [(cEnv c).locals,envCell 7 (cEnv c),envCell 6 (cEnv c),envCell 5 (cEnv c),envCell 4 (cEnv c),envCell 3 (cEnv c),envCell 2 (cEnv c),envCell 1 (cEnv c),envCell 0 (cEnv c),valA (cIt c),dA V 0 0,dA V 0 1] [kT V 0 0,kT V 0 1,qT V 1 0,qT V 1 1,qT V 1 2,eP V 2,eP V 3] [qI V 1 0,qI V 1 1] [] [] [sQ V 2,sQ V 3] []
theorem c1_end (W : Wd) (O : (BB W).Ok) (m : Nat) (q : Lt) (hq : (S_c1 W m).P q) (hl : (q.i 1) ≤ 0) : At (S_c1 W m) 60 q := by
  refine tri_f O (stdH _) [] 2000 60 (hs := [0,2,0,2,6,0,2,2,2,1,0]) (is := [2,3,3])
    (fun (ρ : Rho) => ob hl <| fin (S_c1 W m) q (lt [] [(q.t 7)] [] [] [(q.v 0)] [(q.l 1)] []) (C1P.fin hq hl) :) ?_
  induction W using y_0 <;> kernel_rfl
theorem c1_step (W : Wd) (O : (BB W).Ok) (m : Nat) (ih : (S_c1 W m).Ok) (q : Lt) (hq : (S_c1 W (m + 1)).P q) (hl : 0 < (q.i 1)) : At (S_c1 W (m + 1)) 60 q := by
  refine tri_f O (stdH _) [U (S_c1 W m) ih on_c1] 2000 60 (hs := hx 62 0x1000c10e10840041000140807020010a00830030c3041043802100104502001041042082082082046080080) (is := [0,0,0])
    (fun (ρ : Rho) => let z0 := Int.toNat (Int.fmod (q.i 0) 2); ob hl <| ob (A := ((2 : Int) ≠ (0 : Int))) (by first | assumption | lia | decide | (constructor <;> first | assumption | lia | decide)) <| ob hq.g1 <| ob (hq.g2 hl) <| ob (A := ((0 : Int) < (6 : Int) ∧ (2 : Int) ≤ (10 : Int) ∧ ↑(Builtin.Int.intBits (10 : Int)) * (6 : Int) ≤ (2 : Int) ^ 27)) (by first | assumption | lia | decide | (constructor <;> first | assumption | lia | decide)) <| ob (A := ((10 : Int) ^ Int.toNat (6 : Int) ≠ (0 : Int))) (by first | assumption | lia | decide | (constructor <;> first | assumption | lia | decide)) <| ob hq.s <| ob (A := (C1P (q.i 0 + 1 : Int) (q.i 1 - 1 : Int) (q.l 0) (setV (q.l 1) z0 (Value.int (shI (itemAt (q.l 1) z0) + Int.fmod (shI (itemAt (q.l 0) ((q.i 0).toNat))) (10 ^ Int.toNat 6)) (ρ.n 8))) m)) (hq.next hl _) <| fun he0 : Cel ((ρ.2 0).l 0) 100000000 => fin (S_c1 W (m + 1)) q (lt [] [(ρ.2 0).2 0] [] [] [(ρ.2 0).5 0] [(ρ.2 0).6 0] []) (he0) :) ?_
  induction W using y_0 <;> kernel_rfl
theorem c1f_step (W : Wd) (O : (BB W).Ok) (m : Nat) (ih : (S_c1 W m).Ok) (q : Lt) (hq : (S_c1f W (m + 1)).P q) (hl : 0 < (q.i 1)) : At (S_c1f W (m + 1)) 60 q := by
  refine tri_f O (stdH _) [U (S_c1 W m) ih on_c1] 2000 60 (hs := hx 62 0x1000c10e10840041000140807020010a00830030c3041043802100104502001041042082082082046080080) (is := [0,0,0])
    (fun (ρ : Rho) => let z0 := Int.toNat (Int.fmod (q.i 0) 2); ob hl <| ob (A := ((2 : Int) ≠ (0 : Int))) (by first | assumption | lia | decide | (constructor <;> first | assumption | lia | decide)) <| ob hq.1.g1 <| ob (hq.1.g2 hl) <| ob (A := ((0 : Int) < (6 : Int) ∧ (2 : Int) ≤ (10 : Int) ∧ ↑(Builtin.Int.intBits (10 : Int)) * (6 : Int) ≤ (2 : Int) ^ 27)) (by first | assumption | lia | decide | (constructor <;> first | assumption | lia | decide)) <| ob (A := ((10 : Int) ^ Int.toNat (6 : Int) ≠ (0 : Int))) (by first | assumption | lia | decide | (constructor <;> first | assumption | lia | decide)) <| ob hq.1.s <| ob (A := (C1P (q.i 0 + 1 : Int) (q.i 1 - 1 : Int) (q.l 0) (setV (q.l 1) z0 (Value.int (shI (itemAt (q.l 1) z0) + Int.fmod (shI (itemAt (q.l 0) ((q.i 0).toNat))) (10 ^ Int.toNat 6)) (ρ.n 8))) m)) (hq.1.next hl _) <| fun he0 : Cel ((ρ.2 0).l 0) 100000000 => fin (S_c1f W (m + 1)) q (lt [] [ρ.1 1,(ρ.2 0).2 0] [] [] [(ρ.2 0).5 0] [(ρ.2 0).6 0] []) (he0) :) ?_
  induction W using y_0 <;> kernel_rfl
theorem c1_ok (W : Wd) (O : (BB W).Ok) : ∀ m, (S_c1 W m).Ok
  | 0 => fun q hq => c1_end W O 0 q hq (by have h : C1P _ _ _ _ _ := hq; have := h.lm; lia)
  | m + 1 => fun q hq => by
    by_cases hl : (q.i 1) ≤ 0
    · exact c1_end W O (m + 1) q hq hl
    · exact c1_step W O m (c1_ok W O m) q hq (by lia)
theorem c1f_ok (W : Wd) (O : (BB W).Ok) (m : Nat) : (S_c1f W (m + 1)).Ok := fun q hq => c1f_step W O m (c1_ok W O m) q hq hq.2
noncomputable def S_tx (W : Wd) (sh : Bool) (m : Nat) : Sp (BB W) :=
  let B := BB W
  let pr := fun q : Lt => [((q.a 0),frameO (p_ab sh [kv B s_script (q.t 0) (.ref (q.a 10)),kv B s_cells (q.t 1) (.ref (q.a 11)),kv B s_k (q.t 2) (q.v 0),kv B s_number (q.t 3) (q.v 1),kv B s_text (q.t 4) (.str (q.s 0) (q.t 5))]) 5),((q.a 9),fieldsO tRG [(.int (q.i 0) (q.t 6)),(.int (q.i 1) (q.t 7)),(.int 1 (q.t 8))]),((q.a 11),listO (q.l 0) (q.t 9)),((q.a 2),cellO (.str (q.s 1) (q.t 10)))]
  { d := 60
    c := fun q => forC (lwS W.w [6]) (q.a 9) (lwEnv W.w (q.a 0) (q.a 1) (q.a 2) (q.a 3) (q.a 4) (q.a 5) (q.a 6) (q.a 7) (q.a 8))
    P := fun q => TxP (q.i 0) (q.i 1) (q.s 1) (q.l 0) (q.s 0) m
    pre := pr
    R := fun q e => TxR (q.i 0) (q.i 1) (q.s 1) (q.l 0) (q.s 0) (e.s 0)
    res := fun q e => .ok .next
    out := fun q e => [((q.a 0),frameO (p_ab sh [kv B s_script (q.t 0) (.ref (q.a 10)),kv B s_cells (q.t 1) (.ref (q.a 11)),kv B s_k (q.t 2) (e.v 0),kv B s_number (q.t 3) (q.v 1),kv B s_text (q.t 4) (.str (e.s 0) (e.t 0))]) 5)]++(pr q).drop 2 }
noncomputable def on_tx (sh : Bool) : Code → View → Lt := fun c V => lt [(cEnv c).locals,envCell 7 (cEnv c),envCell 6 (cEnv c),envCell 5 (cEnv c),envCell 4 (cEnv c),envCell 3 (cEnv c),envCell 2 (cEnv c),envCell 1 (cEnv c),envCell 0 (cEnv c),valA (cIt c),dA V 0 0,dA V 0 1] [kT V 0 0,kT V 0 1,dictKT (nthO V 0) (i_ab sh 2),dictKT (nthO V 0) (i_ab sh 3),dictKT (nthO V 0) (i_ab sh 4),valT (dictVal (nthO V 0) (i_ab sh 4)),qT V 1 0,qT V 1 1,qT V 1 2,eP V 2,cT V 3] [qI V 1 0,qI V 1 1] [valS (dictVal (nthO V 0) (i_ab sh 4)),valS (cellV (nthO V 3))] [dictVal (nthO V 0) (i_ab sh 2),dictVal (nthO V 0) (i_ab sh 3)] [sQ V 2] []
noncomputable def S_txf (W : Wd) (m : Nat) : Sp (BB W) :=
  let B := BB W
  let pr := fun q : Lt => [((q.a 0),frameO [kv B s_script (q.t 0) (.ref (q.a 10)),kv B s_cells (q.t 1) (.ref (q.a 11)),kv B s_number (q.t 2) (q.v 0),kv B s_text (q.t 3) (.str (q.s 0) (q.t 4))] 4),((q.a 9),fieldsO tRG [(.int (q.i 0) (q.t 5)),(.int (q.i 1) (q.t 6)),(.int 1 (q.t 7))]),((q.a 11),listO (q.l 0) (q.t 8)),((q.a 2),cellO (.str (q.s 1) (q.t 9)))]
  { d := 60
    c := fun q => forC (lwS W.w [6]) (q.a 9) (lwEnv W.w (q.a 0) (q.a 1) (q.a 2) (q.a 3) (q.a 4) (q.a 5) (q.a 6) (q.a 7) (q.a 8))
    P := fun q => TxP (q.i 0) (q.i 1) (q.s 1) (q.l 0) (q.s 0) m ∧ 0 < (q.i 1)
    pre := pr
    R := fun q e => TxR (q.i 0) (q.i 1) (q.s 1) (q.l 0) (q.s 0) (e.s 0)
    res := fun q e => .ok .next
    out := fun q e => [((q.a 0),frameO [kv B s_script (q.t 0) (.ref (q.a 10)),kv B s_cells (q.t 1) (.ref (q.a 11)),kv B s_number (q.t 2) (q.v 0),kv B s_text (q.t 3) (.str (e.s 0) (e.t 1)),kv B s_k (e.t 0) (e.v 0)] 5)]++(pr q).drop 2 }
noncomputable def on_txf : Code → View → Lt := fun c V => lt [(cEnv c).locals,envCell 7 (cEnv c),envCell 6 (cEnv c),envCell 5 (cEnv c),envCell 4 (cEnv c),envCell 3 (cEnv c),envCell 2 (cEnv c),envCell 1 (cEnv c),envCell 0 (cEnv c),valA (cIt c),dA V 0 0,dA V 0 1] [kT V 0 0,kT V 0 1,kT V 0 2,kT V 0 3,dT V 0 3,qT V 1 0,qT V 1 1,qT V 1 2,eP V 2,cT V 3] [qI V 1 0,qI V 1 1] [valS (dV V 0 3),valS (cellV (nthO V 3))] [dV V 0 2] [sQ V 2] []
theorem tx_q (W : Wd) (O : (BB W).Ok) (sh : Bool) (m : Nat) (ih : (S_tx W sh m).Ok) (q : Lt) (hq : (S_tx W sh (m + 1)).P q) (hl : 0 < (q.i 1)) (hb : bAnd ((shI (itemAt (q.l 0) 1)).fdiv (2 ^ ((q.i 0)).toNat)) 1 = 1) (hs : sIn ⟨#[34, 92]⟩ (chAt (q.s 1) (q.i 0)) = true) : At (S_tx W sh (m + 1)) 60 q := by
  refine tri_f O (stdH _) [⟨(S_tx W sh m).con ih,(on_tx sh),fun _ => false,[],[]⟩] 2000 60 (hs := hx 89 0x104104400308248200008080204004105408008104148201208048202a08004400040202a0800440480806020170800410a00830030c3041042082082082046080080) (is := [0,0,0])
    (fun (ρ : Rho) => ob (A := (rngD (It.mk (Value.ref (q.a 9)) (q.i 0) (q.i 1) (1 : Int) #[]) (1))) (hl) <| ob (A := (((0 : Int) ≤ (1 : Int) ∧ Int.toNat (1 : Int) < List.length (q.l 0) ∧ List.length (q.l 0) ≤ sizeLine) ∧ itemAt (q.l 0) (Int.toNat (1 : Int)) = Value.int (shI (itemAt (q.l 0) (Int.toNat (1 : Int)))) (shT (itemAt (q.l 0) (Int.toNat (1 : Int)))))) (hq.cb) <| ob (A := ((0 : Int) ≤ q.i 0)) (hq.c0) <| ob (A := (True)) (trivial) <| ob (A := (bAnd (Int.fdiv (shI (itemAt (q.l 0) (Int.toNat (1 : Int)))) ((2 : Int) ^ (q.i 0).toNat)) (1 : Int) = (1 : Int))) (hb) <| ob (A := ((0 : Int) ≤ q.i 0 ∧ (q.i 0).toNat < Str.length (q.s 1) ∧ Str.length (q.s 1) ≤ sizeLine)) (hq.sgo hl) <| ob (A := (sIn (mS [34,92]) (chAt (q.s 1) (q.i 0)) = true)) (hs) <| ob (A := ((0 : Int) ≤ q.i 0 ∧ (q.i 0).toNat < Str.length (q.s 1) ∧ Str.length (q.s 1) ≤ sizeLine)) (hq.sgo hl) <| ob (A := (Str.length (mS [34,46]++mS [92]++chAt (q.s 1) (q.i 0)) ≤ sizeLine)) (by simp only [Str.length_append,len_lit,chAt_len,List.length_cons,List.length_nil]; exact Nat.le_trans (by decide) small_line) <| ob (A := (Str.length (mS [34,46]++mS [92]++chAt (q.s 1) (q.i 0)++mS [34]) ≤ sizeLine)) (by simp only [Str.length_append,len_lit,chAt_len,List.length_cons,List.length_nil]; exact Nat.le_trans (by decide) small_line) <| ob (A := (Str.length (q.s 0++(mS [34,46]++mS [92]++chAt (q.s 1) (q.i 0)++mS [34])) ≤ sizeLine)) (hq.o1 hl (by simp only [Str.length_append,len_lit,chAt_len,List.length_cons,List.length_nil]; decide)) <| ob (A := ((3 : Int) ≠ (0 : Int))) (by first | assumption | lia | decide | (constructor <;> first | assumption | lia | decide)) <| ob (A := (((0 : Int) ≤ Int.fmod (q.i 0) (3 : Int) ∧ Int.toNat (Int.fmod (q.i 0) (3 : Int)) < List.length ([Value.str (mS [10]) (ρ.1 18)]++([Value.str (mS [9]) (ρ.1 19)]++([Value.str (mS [13,10]) (ρ.1 20)]++[]))) ∧ List.length ([Value.str (mS [10]) (ρ.1 18)]++([Value.str (mS [9]) (ρ.1 19)]++([Value.str (mS [13,10]) (ρ.1 20)]++[]))) ≤ sizeLine) ∧ itemAt ([Value.str (mS [10]) (ρ.1 18)]++([Value.str (mS [9]) (ρ.1 19)]++([Value.str (mS [13,10]) (ρ.1 20)]++[]))) (Int.toNat (Int.fmod (q.i 0) (3 : Int))) = Value.str (shS (itemAt ([Value.str (mS [10]) (ρ.1 18)]++([Value.str (mS [9]) (ρ.1 19)]++([Value.str (mS [13,10]) (ρ.1 20)]++[]))) (Int.toNat (Int.fmod (q.i 0) (3 : Int))))) (shT (itemAt ([Value.str (mS [10]) (ρ.1 18)]++([Value.str (mS [9]) (ρ.1 19)]++([Value.str (mS [13,10]) (ρ.1 20)]++[]))) (Int.toNat (Int.fmod (q.i 0) (3 : Int))))))) (sep3_ob _ _ _ _) <| ob (A := (Str.length (q.s 0++(mS [34,46]++mS [92]++chAt (q.s 1) (q.i 0)++mS [34])++shS (itemAt ([Value.str (mS [10]) (ρ.1 18)]++([Value.str (mS [9]) (ρ.1 19)]++([Value.str (mS [13,10]) (ρ.1 20)]++[]))) (Int.toNat (Int.fmod (q.i 0) (3 : Int))))) ≤ sizeLine)) (hq.o2 hl (by simp only [Str.length_append,len_lit,chAt_len,List.length_cons,List.length_nil]; decide) _ _ _) <| ob (A := (TxP (q.i 0 + 1 : Int) (q.i 1 - 1 : Int) (q.s 1) (q.l 0) (q.s 0++(mS [34,46]++mS [92]++chAt (q.s 1) (q.i 0)++mS [34])++shS (itemAt ([Value.str (mS [10]) (ρ.n 18)]++([Value.str (mS [9]) (ρ.n 19)]++([Value.str (mS [13,10]) (ρ.n 20)]++[]))) (Int.toNat (Int.fmod (q.i 0) 3)))) m)) (hq.next hl (body_q _ _ _ hb hq.c0 hs)) <| fun he0 : TxR (q.i 0 + 1 : Int) (q.i 1 - 1 : Int) (q.s 1) (q.l 0) (q.s 0++(mS [34,46]++mS [92]++chAt (q.s 1) (q.i 0)++mS [34])++shS (itemAt ([Value.str (mS [10]) (ρ.n 18)]++([Value.str (mS [9]) (ρ.n 19)]++([Value.str (mS [13,10]) (ρ.n 20)]++[]))) (Int.toNat (Int.fmod (q.i 0) 3)))) ((ρ.2 0).s 0) => fin (S_tx W sh (m + 1)) q (lt [] [(ρ.2 0).2 0] [] [(ρ.2 0).s 0] [(ρ.2 0).5 0] [] []) ((TxR.step hq hl (body_q _ _ _ hb hq.c0 hs) he0)) :) ?_
  induction W, sh using y_1 <;> kernel_rfl
theorem tx_r (W : Wd) (O : (BB W).Ok) (sh : Bool) (m : Nat) (ih : (S_tx W sh m).Ok) (q : Lt) (hq : (S_tx W sh (m + 1)).P q) (hl : 0 < (q.i 1)) (hb : bAnd ((shI (itemAt (q.l 0) 1)).fdiv (2 ^ ((q.i 0)).toNat)) 1 = 1) (hs : sIn ⟨#[34, 92]⟩ (chAt (q.s 1) (q.i 0)) = false) : At (S_tx W sh (m + 1)) 60 q := by
  refine tri_f O (stdH _) [⟨(S_tx W sh m).con ih,(on_tx sh),fun _ => false,[],[]⟩] 2000 60 (hs := hx 89 0x104104400308248200008080204004105408008104148201208048202a08004400044202a0800440480806020170800410a00830030c3041042082082082046080080) (is := [0,0,0])
    (fun (ρ : Rho) => ob (A := (rngD (It.mk (Value.ref (q.a 9)) (q.i 0) (q.i 1) (1 : Int) #[]) (1))) (hl) <| ob (A := (((0 : Int) ≤ (1 : Int) ∧ Int.toNat (1 : Int) < List.length (q.l 0) ∧ List.length (q.l 0) ≤ sizeLine) ∧ itemAt (q.l 0) (Int.toNat (1 : Int)) = Value.int (shI (itemAt (q.l 0) (Int.toNat (1 : Int)))) (shT (itemAt (q.l 0) (Int.toNat (1 : Int)))))) (hq.cb) <| ob (A := ((0 : Int) ≤ q.i 0)) (hq.c0) <| ob (A := (True)) (trivial) <| ob (A := (bAnd (Int.fdiv (shI (itemAt (q.l 0) (Int.toNat (1 : Int)))) ((2 : Int) ^ (q.i 0).toNat)) (1 : Int) = (1 : Int))) (hb) <| ob (A := ((0 : Int) ≤ q.i 0 ∧ (q.i 0).toNat < Str.length (q.s 1) ∧ Str.length (q.s 1) ≤ sizeLine)) (hq.sgo hl) <| ob (A := (sIn (mS [34,92]) (chAt (q.s 1) (q.i 0)) = false)) (hs) <| ob (A := ((0 : Int) ≤ q.i 0 ∧ (q.i 0).toNat < Str.length (q.s 1) ∧ Str.length (q.s 1) ≤ sizeLine)) (hq.sgo hl) <| ob (A := (Str.length (mS [34,46]++chAt (q.s 1) (q.i 0)) ≤ sizeLine)) (by simp only [Str.length_append,len_lit,chAt_len,List.length_cons,List.length_nil]; exact Nat.le_trans (by decide) small_line) <| ob (A := (Str.length (mS [34,46]++chAt (q.s 1) (q.i 0)++mS [34]) ≤ sizeLine)) (by simp only [Str.length_append,len_lit,chAt_len,List.length_cons,List.length_nil]; exact Nat.le_trans (by decide) small_line) <| ob (A := (Str.length (q.s 0++(mS [34,46]++chAt (q.s 1) (q.i 0)++mS [34])) ≤ sizeLine)) (hq.o1 hl (by simp only [Str.length_append,len_lit,chAt_len,List.length_cons,List.length_nil]; decide)) <| ob (A := ((3 : Int) ≠ (0 : Int))) (by first | assumption | lia | decide | (constructor <;> first | assumption | lia | decide)) <| ob (A := (((0 : Int) ≤ Int.fmod (q.i 0) (3 : Int) ∧ Int.toNat (Int.fmod (q.i 0) (3 : Int)) < List.length ([Value.str (mS [10]) (ρ.1 17)]++([Value.str (mS [9]) (ρ.1 18)]++([Value.str (mS [13,10]) (ρ.1 19)]++[]))) ∧ List.length ([Value.str (mS [10]) (ρ.1 17)]++([Value.str (mS [9]) (ρ.1 18)]++([Value.str (mS [13,10]) (ρ.1 19)]++[]))) ≤ sizeLine) ∧ itemAt ([Value.str (mS [10]) (ρ.1 17)]++([Value.str (mS [9]) (ρ.1 18)]++([Value.str (mS [13,10]) (ρ.1 19)]++[]))) (Int.toNat (Int.fmod (q.i 0) (3 : Int))) = Value.str (shS (itemAt ([Value.str (mS [10]) (ρ.1 17)]++([Value.str (mS [9]) (ρ.1 18)]++([Value.str (mS [13,10]) (ρ.1 19)]++[]))) (Int.toNat (Int.fmod (q.i 0) (3 : Int))))) (shT (itemAt ([Value.str (mS [10]) (ρ.1 17)]++([Value.str (mS [9]) (ρ.1 18)]++([Value.str (mS [13,10]) (ρ.1 19)]++[]))) (Int.toNat (Int.fmod (q.i 0) (3 : Int))))))) (sep3_ob _ _ _ _) <| ob (A := (Str.length (q.s 0++(mS [34,46]++chAt (q.s 1) (q.i 0)++mS [34])++shS (itemAt ([Value.str (mS [10]) (ρ.1 17)]++([Value.str (mS [9]) (ρ.1 18)]++([Value.str (mS [13,10]) (ρ.1 19)]++[]))) (Int.toNat (Int.fmod (q.i 0) (3 : Int))))) ≤ sizeLine)) (hq.o2 hl (by simp only [Str.length_append,len_lit,chAt_len,List.length_cons,List.length_nil]; decide) _ _ _) <| ob (A := (TxP (q.i 0 + 1 : Int) (q.i 1 - 1 : Int) (q.s 1) (q.l 0) (q.s 0++(mS [34,46]++chAt (q.s 1) (q.i 0)++mS [34])++shS (itemAt ([Value.str (mS [10]) (ρ.n 17)]++([Value.str (mS [9]) (ρ.n 18)]++([Value.str (mS [13,10]) (ρ.n 19)]++[]))) (Int.toNat (Int.fmod (q.i 0) 3)))) m)) (hq.next hl (body_r _ _ _ hb hq.c0 hs)) <| fun he0 : TxR (q.i 0 + 1 : Int) (q.i 1 - 1 : Int) (q.s 1) (q.l 0) (q.s 0++(mS [34,46]++chAt (q.s 1) (q.i 0)++mS [34])++shS (itemAt ([Value.str (mS [10]) (ρ.n 17)]++([Value.str (mS [9]) (ρ.n 18)]++([Value.str (mS [13,10]) (ρ.n 19)]++[]))) (Int.toNat (Int.fmod (q.i 0) 3)))) ((ρ.2 0).s 0) => fin (S_tx W sh (m + 1)) q (lt [] [(ρ.2 0).2 0] [] [(ρ.2 0).s 0] [(ρ.2 0).5 0] [] []) ((TxR.step hq hl (body_r _ _ _ hb hq.c0 hs) he0)) :) ?_
  induction W, sh using y_1 <;> kernel_rfl
theorem tx_b (W : Wd) (O : (BB W).Ok) (sh : Bool) (m : Nat) (ih : (S_tx W sh m).Ok) (q : Lt) (hq : (S_tx W sh (m + 1)).P q) (hl : 0 < (q.i 1)) (hb : bAnd ((shI (itemAt (q.l 0) 1)).fdiv (2 ^ ((q.i 0)).toNat)) 1 ≠ 1) : At (S_tx W sh (m + 1)) 60 q := by
  refine tri_f O (stdH _) [⟨(S_tx W sh m).con ih,(on_tx sh),fun _ => false,[],[]⟩] 2000 60 (hs := hx 76 0x410411000c209208000202008100104150200204105208048202a0800440490806020170800410a00830030c3041042082082082046080080) (is := [0,0,0])
    (fun (ρ : Rho) => ob (A := (rngD (It.mk (Value.ref (q.a 9)) (q.i 0) (q.i 1) (1 : Int) #[]) (1))) (hl) <| ob (A := (((0 : Int) ≤ (1 : Int) ∧ Int.toNat (1 : Int) < List.length (q.l 0) ∧ List.length (q.l 0) ≤ sizeLine) ∧ itemAt (q.l 0) (Int.toNat (1 : Int)) = Value.int (shI (itemAt (q.l 0) (Int.toNat (1 : Int)))) (shT (itemAt (q.l 0) (Int.toNat (1 : Int)))))) (hq.cb) <| ob (A := ((0 : Int) ≤ q.i 0)) (hq.c0) <| ob (A := (True)) (trivial) <| ob (A := (bAnd (Int.fdiv (shI (itemAt (q.l 0) (Int.toNat (1 : Int)))) ((2 : Int) ^ (q.i 0).toNat)) (1 : Int) ≠ (1 : Int))) (hb) <| ob (A := ((0 : Int) ≤ q.i 0 ∧ (q.i 0).toNat < Str.length (q.s 1) ∧ Str.length (q.s 1) ≤ sizeLine)) (hq.sgo hl) <| ob (A := (Str.length (mS [92,46,92]++chAt (q.s 1) (q.i 0)) ≤ sizeLine)) (by simp only [Str.length_append,len_lit,chAt_len,List.length_cons,List.length_nil]; exact Nat.le_trans (by decide) small_line) <| ob (A := (Str.length (q.s 0++(mS [92,46,92]++chAt (q.s 1) (q.i 0))) ≤ sizeLine)) (hq.o1 hl (by simp only [Str.length_append,len_lit,chAt_len,List.length_cons,List.length_nil]; decide)) <| ob (A := ((3 : Int) ≠ (0 : Int))) (by first | assumption | lia | decide | (constructor <;> first | assumption | lia | decide)) <| ob (A := (((0 : Int) ≤ Int.fmod (q.i 0) (3 : Int) ∧ Int.toNat (Int.fmod (q.i 0) (3 : Int)) < List.length ([Value.str (mS [10]) (ρ.1 12)]++([Value.str (mS [9]) (ρ.1 13)]++([Value.str (mS [13,10]) (ρ.1 14)]++[]))) ∧ List.length ([Value.str (mS [10]) (ρ.1 12)]++([Value.str (mS [9]) (ρ.1 13)]++([Value.str (mS [13,10]) (ρ.1 14)]++[]))) ≤ sizeLine) ∧ itemAt ([Value.str (mS [10]) (ρ.1 12)]++([Value.str (mS [9]) (ρ.1 13)]++([Value.str (mS [13,10]) (ρ.1 14)]++[]))) (Int.toNat (Int.fmod (q.i 0) (3 : Int))) = Value.str (shS (itemAt ([Value.str (mS [10]) (ρ.1 12)]++([Value.str (mS [9]) (ρ.1 13)]++([Value.str (mS [13,10]) (ρ.1 14)]++[]))) (Int.toNat (Int.fmod (q.i 0) (3 : Int))))) (shT (itemAt ([Value.str (mS [10]) (ρ.1 12)]++([Value.str (mS [9]) (ρ.1 13)]++([Value.str (mS [13,10]) (ρ.1 14)]++[]))) (Int.toNat (Int.fmod (q.i 0) (3 : Int))))))) (sep3_ob _ _ _ _) <| ob (A := (Str.length (q.s 0++(mS [92,46,92]++chAt (q.s 1) (q.i 0))++shS (itemAt ([Value.str (mS [10]) (ρ.1 12)]++([Value.str (mS [9]) (ρ.1 13)]++([Value.str (mS [13,10]) (ρ.1 14)]++[]))) (Int.toNat (Int.fmod (q.i 0) (3 : Int))))) ≤ sizeLine)) (hq.o2 hl (by simp only [Str.length_append,len_lit,chAt_len,List.length_cons,List.length_nil]; decide) _ _ _) <| ob (A := (TxP (q.i 0 + 1 : Int) (q.i 1 - 1 : Int) (q.s 1) (q.l 0) (q.s 0++(mS [92,46,92]++chAt (q.s 1) (q.i 0))++shS (itemAt ([Value.str (mS [10]) (ρ.n 12)]++([Value.str (mS [9]) (ρ.n 13)]++([Value.str (mS [13,10]) (ρ.n 14)]++[]))) (Int.toNat (Int.fmod (q.i 0) 3)))) m)) (hq.next hl (body_b _ _ _ hb hq.c0)) <| fun he0 : TxR (q.i 0 + 1 : Int) (q.i 1 - 1 : Int) (q.s 1) (q.l 0) (q.s 0++(mS [92,46,92]++chAt (q.s 1) (q.i 0))++shS (itemAt ([Value.str (mS [10]) (ρ.n 12)]++([Value.str (mS [9]) (ρ.n 13)]++([Value.str (mS [13,10]) (ρ.n 14)]++[]))) (Int.toNat (Int.fmod (q.i 0) 3)))) ((ρ.2 0).s 0) => fin (S_tx W sh (m + 1)) q (lt [] [(ρ.2 0).2 0] [] [(ρ.2 0).s 0] [(ρ.2 0).5 0] [] []) ((TxR.step hq hl (body_b _ _ _ hb hq.c0) he0)) :) ?_
  induction W, sh using y_1 <;> kernel_rfl
theorem tx_end (W : Wd) (O : (BB W).Ok) (sh : Bool) (m : Nat) (q : Lt) (hq : (S_tx W sh m).P q) (hl : (q.i 1) ≤ 0) : At (S_tx W sh m) 60 q := by
  refine tri_f O (stdH _) [] 2000 60 (hs := [0,2,0,2,6,0,2,2,2,1,0]) (is := [2,3,3])
    (fun (ρ : Rho) => ob hl <| fin (S_tx W sh m) q (lt [] [(q.t 5)] [] [(q.s 0)] [(q.v 0)] [] []) ((TxR.fin hq hl)) :) ?_
  induction W, sh using y_1 <;> kernel_rfl
theorem tx_ok (W : Wd) (O : (BB W).Ok) (sh : Bool) : ∀ m, (S_tx W sh m).Ok
  | 0 => fun q hq => tx_end W O sh 0 q hq (by have h : TxP _ _ _ _ _ _ := hq; have := h.lm; lia)
  | m + 1 => fun q hq => by
    by_cases hl : (q.i 1) ≤ 0
    · exact tx_end W O sh (m + 1) q hq hl
    · by_cases hb : bAnd ((shI (itemAt (q.l 0) 1)).fdiv (2 ^ ((q.i 0)).toNat)) 1 = 1
      · cases hs : sIn ⟨#[34, 92]⟩ (chAt (q.s 1) (q.i 0)) with
        | true => exact tx_q W O sh m (tx_ok W O sh m) q hq (by first | lia | exact hq.2) hb hs
        | false => exact tx_r W O sh m (tx_ok W O sh m) q hq (by first | lia | exact hq.2) hb hs
      · exact tx_b W O sh m (tx_ok W O sh m) q hq (by first | lia | exact hq.2) hb
theorem txf_q (W : Wd) (O : (BB W).Ok) (m : Nat) (ih : (S_tx W false m).Ok) (q : Lt) (hq : (S_txf W (m + 1)).P q) (hl : 0 < (q.i 1)) (hb : bAnd ((shI (itemAt (q.l 0) 1)).fdiv (2 ^ ((q.i 0)).toNat)) 1 = 1) (hs : sIn ⟨#[34, 92]⟩ (chAt (q.s 1) (q.i 0)) = true) : At (S_txf W (m + 1)) 60 q := by
  refine tri_f O (stdH _) [⟨(S_tx W false m).con ih,(on_tx false),fun _ => false,[],[]⟩] 2000 60 (hs := hx 89 0x104104400308248200008080204004105408008104148201208048202a08004400040202a0800440480806020170800410a00830030c3041042082082082046080080) (is := [0,0,0])
    (fun (ρ : Rho) => ob (A := (rngD (It.mk (Value.ref (q.a 9)) (q.i 0) (q.i 1) (1 : Int) #[]) (1))) (hl) <| ob (A := (((0 : Int) ≤ (1 : Int) ∧ Int.toNat (1 : Int) < List.length (q.l 0) ∧ List.length (q.l 0) ≤ sizeLine) ∧ itemAt (q.l 0) (Int.toNat (1 : Int)) = Value.int (shI (itemAt (q.l 0) (Int.toNat (1 : Int)))) (shT (itemAt (q.l 0) (Int.toNat (1 : Int)))))) (hq.1.cb) <| ob (A := ((0 : Int) ≤ q.i 0)) (hq.1.c0) <| ob (A := (True)) (trivial) <| ob (A := (bAnd (Int.fdiv (shI (itemAt (q.l 0) (Int.toNat (1 : Int)))) ((2 : Int) ^ (q.i 0).toNat)) (1 : Int) = (1 : Int))) (hb) <| ob (A := ((0 : Int) ≤ q.i 0 ∧ (q.i 0).toNat < Str.length (q.s 1) ∧ Str.length (q.s 1) ≤ sizeLine)) (hq.1.sgo hl) <| ob (A := (sIn (mS [34,92]) (chAt (q.s 1) (q.i 0)) = true)) (hs) <| ob (A := ((0 : Int) ≤ q.i 0 ∧ (q.i 0).toNat < Str.length (q.s 1) ∧ Str.length (q.s 1) ≤ sizeLine)) (hq.1.sgo hl) <| ob (A := (Str.length (mS [34,46]++mS [92]++chAt (q.s 1) (q.i 0)) ≤ sizeLine)) (by simp only [Str.length_append,len_lit,chAt_len,List.length_cons,List.length_nil]; exact Nat.le_trans (by decide) small_line) <| ob (A := (Str.length (mS [34,46]++mS [92]++chAt (q.s 1) (q.i 0)++mS [34]) ≤ sizeLine)) (by simp only [Str.length_append,len_lit,chAt_len,List.length_cons,List.length_nil]; exact Nat.le_trans (by decide) small_line) <| ob (A := (Str.length (q.s 0++(mS [34,46]++mS [92]++chAt (q.s 1) (q.i 0)++mS [34])) ≤ sizeLine)) (hq.1.o1 hl (by simp only [Str.length_append,len_lit,chAt_len,List.length_cons,List.length_nil]; decide)) <| ob (A := ((3 : Int) ≠ (0 : Int))) (by first | assumption | lia | decide | (constructor <;> first | assumption | lia | decide)) <| ob (A := (((0 : Int) ≤ Int.fmod (q.i 0) (3 : Int) ∧ Int.toNat (Int.fmod (q.i 0) (3 : Int)) < List.length ([Value.str (mS [10]) (ρ.1 18)]++([Value.str (mS [9]) (ρ.1 19)]++([Value.str (mS [13,10]) (ρ.1 20)]++[]))) ∧ List.length ([Value.str (mS [10]) (ρ.1 18)]++([Value.str (mS [9]) (ρ.1 19)]++([Value.str (mS [13,10]) (ρ.1 20)]++[]))) ≤ sizeLine) ∧ itemAt ([Value.str (mS [10]) (ρ.1 18)]++([Value.str (mS [9]) (ρ.1 19)]++([Value.str (mS [13,10]) (ρ.1 20)]++[]))) (Int.toNat (Int.fmod (q.i 0) (3 : Int))) = Value.str (shS (itemAt ([Value.str (mS [10]) (ρ.1 18)]++([Value.str (mS [9]) (ρ.1 19)]++([Value.str (mS [13,10]) (ρ.1 20)]++[]))) (Int.toNat (Int.fmod (q.i 0) (3 : Int))))) (shT (itemAt ([Value.str (mS [10]) (ρ.1 18)]++([Value.str (mS [9]) (ρ.1 19)]++([Value.str (mS [13,10]) (ρ.1 20)]++[]))) (Int.toNat (Int.fmod (q.i 0) (3 : Int))))))) (sep3_ob _ _ _ _) <| ob (A := (Str.length (q.s 0++(mS [34,46]++mS [92]++chAt (q.s 1) (q.i 0)++mS [34])++shS (itemAt ([Value.str (mS [10]) (ρ.1 18)]++([Value.str (mS [9]) (ρ.1 19)]++([Value.str (mS [13,10]) (ρ.1 20)]++[]))) (Int.toNat (Int.fmod (q.i 0) (3 : Int))))) ≤ sizeLine)) (hq.1.o2 hl (by simp only [Str.length_append,len_lit,chAt_len,List.length_cons,List.length_nil]; decide) _ _ _) <| ob (A := (TxP (q.i 0 + 1 : Int) (q.i 1 - 1 : Int) (q.s 1) (q.l 0) (q.s 0++(mS [34,46]++mS [92]++chAt (q.s 1) (q.i 0)++mS [34])++shS (itemAt ([Value.str (mS [10]) (ρ.n 18)]++([Value.str (mS [9]) (ρ.n 19)]++([Value.str (mS [13,10]) (ρ.n 20)]++[]))) (Int.toNat (Int.fmod (q.i 0) 3)))) m)) (hq.1.next hl (body_q _ _ _ hb hq.1.c0 hs)) <| fun he0 : TxR (q.i 0 + 1 : Int) (q.i 1 - 1 : Int) (q.s 1) (q.l 0) (q.s 0++(mS [34,46]++mS [92]++chAt (q.s 1) (q.i 0)++mS [34])++shS (itemAt ([Value.str (mS [10]) (ρ.n 18)]++([Value.str (mS [9]) (ρ.n 19)]++([Value.str (mS [13,10]) (ρ.n 20)]++[]))) (Int.toNat (Int.fmod (q.i 0) 3)))) ((ρ.2 0).s 0) => fin (S_txf W (m + 1)) q (lt [] [ρ.1 1,(ρ.2 0).2 0] [] [(ρ.2 0).s 0] [(ρ.2 0).5 0] [] []) ((TxR.step hq.1 hl (body_q _ _ _ hb hq.1.c0 hs) he0)) :) ?_
  induction W using y_0 <;> kernel_rfl
theorem txf_r (W : Wd) (O : (BB W).Ok) (m : Nat) (ih : (S_tx W false m).Ok) (q : Lt) (hq : (S_txf W (m + 1)).P q) (hl : 0 < (q.i 1)) (hb : bAnd ((shI (itemAt (q.l 0) 1)).fdiv (2 ^ ((q.i 0)).toNat)) 1 = 1) (hs : sIn ⟨#[34, 92]⟩ (chAt (q.s 1) (q.i 0)) = false) : At (S_txf W (m + 1)) 60 q := by
  refine tri_f O (stdH _) [⟨(S_tx W false m).con ih,(on_tx false),fun _ => false,[],[]⟩] 2000 60 (hs := hx 89 0x104104400308248200008080204004105408008104148201208048202a08004400044202a0800440480806020170800410a00830030c3041042082082082046080080) (is := [0,0,0])
    (fun (ρ : Rho) => ob (A := (rngD (It.mk (Value.ref (q.a 9)) (q.i 0) (q.i 1) (1 : Int) #[]) (1))) (hl) <| ob (A := (((0 : Int) ≤ (1 : Int) ∧ Int.toNat (1 : Int) < List.length (q.l 0) ∧ List.length (q.l 0) ≤ sizeLine) ∧ itemAt (q.l 0) (Int.toNat (1 : Int)) = Value.int (shI (itemAt (q.l 0) (Int.toNat (1 : Int)))) (shT (itemAt (q.l 0) (Int.toNat (1 : Int)))))) (hq.1.cb) <| ob (A := ((0 : Int) ≤ q.i 0)) (hq.1.c0) <| ob (A := (True)) (trivial) <| ob (A := (bAnd (Int.fdiv (shI (itemAt (q.l 0) (Int.toNat (1 : Int)))) ((2 : Int) ^ (q.i 0).toNat)) (1 : Int) = (1 : Int))) (hb) <| ob (A := ((0 : Int) ≤ q.i 0 ∧ (q.i 0).toNat < Str.length (q.s 1) ∧ Str.length (q.s 1) ≤ sizeLine)) (hq.1.sgo hl) <| ob (A := (sIn (mS [34,92]) (chAt (q.s 1) (q.i 0)) = false)) (hs) <| ob (A := ((0 : Int) ≤ q.i 0 ∧ (q.i 0).toNat < Str.length (q.s 1) ∧ Str.length (q.s 1) ≤ sizeLine)) (hq.1.sgo hl) <| ob (A := (Str.length (mS [34,46]++chAt (q.s 1) (q.i 0)) ≤ sizeLine)) (by simp only [Str.length_append,len_lit,chAt_len,List.length_cons,List.length_nil]; exact Nat.le_trans (by decide) small_line) <| ob (A := (Str.length (mS [34,46]++chAt (q.s 1) (q.i 0)++mS [34]) ≤ sizeLine)) (by simp only [Str.length_append,len_lit,chAt_len,List.length_cons,List.length_nil]; exact Nat.le_trans (by decide) small_line) <| ob (A := (Str.length (q.s 0++(mS [34,46]++chAt (q.s 1) (q.i 0)++mS [34])) ≤ sizeLine)) (hq.1.o1 hl (by simp only [Str.length_append,len_lit,chAt_len,List.length_cons,List.length_nil]; decide)) <| ob (A := ((3 : Int) ≠ (0 : Int))) (by first | assumption | lia | decide | (constructor <;> first | assumption | lia | decide)) <| ob (A := (((0 : Int) ≤ Int.fmod (q.i 0) (3 : Int) ∧ Int.toNat (Int.fmod (q.i 0) (3 : Int)) < List.length ([Value.str (mS [10]) (ρ.1 17)]++([Value.str (mS [9]) (ρ.1 18)]++([Value.str (mS [13,10]) (ρ.1 19)]++[]))) ∧ List.length ([Value.str (mS [10]) (ρ.1 17)]++([Value.str (mS [9]) (ρ.1 18)]++([Value.str (mS [13,10]) (ρ.1 19)]++[]))) ≤ sizeLine) ∧ itemAt ([Value.str (mS [10]) (ρ.1 17)]++([Value.str (mS [9]) (ρ.1 18)]++([Value.str (mS [13,10]) (ρ.1 19)]++[]))) (Int.toNat (Int.fmod (q.i 0) (3 : Int))) = Value.str (shS (itemAt ([Value.str (mS [10]) (ρ.1 17)]++([Value.str (mS [9]) (ρ.1 18)]++([Value.str (mS [13,10]) (ρ.1 19)]++[]))) (Int.toNat (Int.fmod (q.i 0) (3 : Int))))) (shT (itemAt ([Value.str (mS [10]) (ρ.1 17)]++([Value.str (mS [9]) (ρ.1 18)]++([Value.str (mS [13,10]) (ρ.1 19)]++[]))) (Int.toNat (Int.fmod (q.i 0) (3 : Int))))))) (sep3_ob _ _ _ _) <| ob (A := (Str.length (q.s 0++(mS [34,46]++chAt (q.s 1) (q.i 0)++mS [34])++shS (itemAt ([Value.str (mS [10]) (ρ.1 17)]++([Value.str (mS [9]) (ρ.1 18)]++([Value.str (mS [13,10]) (ρ.1 19)]++[]))) (Int.toNat (Int.fmod (q.i 0) (3 : Int))))) ≤ sizeLine)) (hq.1.o2 hl (by simp only [Str.length_append,len_lit,chAt_len,List.length_cons,List.length_nil]; decide) _ _ _) <| ob (A := (TxP (q.i 0 + 1 : Int) (q.i 1 - 1 : Int) (q.s 1) (q.l 0) (q.s 0++(mS [34,46]++chAt (q.s 1) (q.i 0)++mS [34])++shS (itemAt ([Value.str (mS [10]) (ρ.n 17)]++([Value.str (mS [9]) (ρ.n 18)]++([Value.str (mS [13,10]) (ρ.n 19)]++[]))) (Int.toNat (Int.fmod (q.i 0) 3)))) m)) (hq.1.next hl (body_r _ _ _ hb hq.1.c0 hs)) <| fun he0 : TxR (q.i 0 + 1 : Int) (q.i 1 - 1 : Int) (q.s 1) (q.l 0) (q.s 0++(mS [34,46]++chAt (q.s 1) (q.i 0)++mS [34])++shS (itemAt ([Value.str (mS [10]) (ρ.n 17)]++([Value.str (mS [9]) (ρ.n 18)]++([Value.str (mS [13,10]) (ρ.n 19)]++[]))) (Int.toNat (Int.fmod (q.i 0) 3)))) ((ρ.2 0).s 0) => fin (S_txf W (m + 1)) q (lt [] [ρ.1 1,(ρ.2 0).2 0] [] [(ρ.2 0).s 0] [(ρ.2 0).5 0] [] []) ((TxR.step hq.1 hl (body_r _ _ _ hb hq.1.c0 hs) he0)) :) ?_
  induction W using y_0 <;> kernel_rfl
theorem txf_b (W : Wd) (O : (BB W).Ok) (m : Nat) (ih : (S_tx W false m).Ok) (q : Lt) (hq : (S_txf W (m + 1)).P q) (hl : 0 < (q.i 1)) (hb : bAnd ((shI (itemAt (q.l 0) 1)).fdiv (2 ^ ((q.i 0)).toNat)) 1 ≠ 1) : At (S_txf W (m + 1)) 60 q := by
  refine tri_f O (stdH _) [⟨(S_tx W false m).con ih,(on_tx false),fun _ => false,[],[]⟩] 2000 60 (hs := hx 76 0x410411000c209208000202008100104150200204105208048202a0800440490806020170800410a00830030c3041042082082082046080080) (is := [0,0,0])
    (fun (ρ : Rho) => ob (A := (rngD (It.mk (Value.ref (q.a 9)) (q.i 0) (q.i 1) (1 : Int) #[]) (1))) (hl) <| ob (A := (((0 : Int) ≤ (1 : Int) ∧ Int.toNat (1 : Int) < List.length (q.l 0) ∧ List.length (q.l 0) ≤ sizeLine) ∧ itemAt (q.l 0) (Int.toNat (1 : Int)) = Value.int (shI (itemAt (q.l 0) (Int.toNat (1 : Int)))) (shT (itemAt (q.l 0) (Int.toNat (1 : Int)))))) (hq.1.cb) <| ob (A := ((0 : Int) ≤ q.i 0)) (hq.1.c0) <| ob (A := (True)) (trivial) <| ob (A := (bAnd (Int.fdiv (shI (itemAt (q.l 0) (Int.toNat (1 : Int)))) ((2 : Int) ^ (q.i 0).toNat)) (1 : Int) ≠ (1 : Int))) (hb) <| ob (A := ((0 : Int) ≤ q.i 0 ∧ (q.i 0).toNat < Str.length (q.s 1) ∧ Str.length (q.s 1) ≤ sizeLine)) (hq.1.sgo hl) <| ob (A := (Str.length (mS [92,46,92]++chAt (q.s 1) (q.i 0)) ≤ sizeLine)) (by simp only [Str.length_append,len_lit,chAt_len,List.length_cons,List.length_nil]; exact Nat.le_trans (by decide) small_line) <| ob (A := (Str.length (q.s 0++(mS [92,46,92]++chAt (q.s 1) (q.i 0))) ≤ sizeLine)) (hq.1.o1 hl (by simp only [Str.length_append,len_lit,chAt_len,List.length_cons,List.length_nil]; decide)) <| ob (A := ((3 : Int) ≠ (0 : Int))) (by first | assumption | lia | decide | (constructor <;> first | assumption | lia | decide)) <| ob (A := (((0 : Int) ≤ Int.fmod (q.i 0) (3 : Int) ∧ Int.toNat (Int.fmod (q.i 0) (3 : Int)) < List.length ([Value.str (mS [10]) (ρ.1 12)]++([Value.str (mS [9]) (ρ.1 13)]++([Value.str (mS [13,10]) (ρ.1 14)]++[]))) ∧ List.length ([Value.str (mS [10]) (ρ.1 12)]++([Value.str (mS [9]) (ρ.1 13)]++([Value.str (mS [13,10]) (ρ.1 14)]++[]))) ≤ sizeLine) ∧ itemAt ([Value.str (mS [10]) (ρ.1 12)]++([Value.str (mS [9]) (ρ.1 13)]++([Value.str (mS [13,10]) (ρ.1 14)]++[]))) (Int.toNat (Int.fmod (q.i 0) (3 : Int))) = Value.str (shS (itemAt ([Value.str (mS [10]) (ρ.1 12)]++([Value.str (mS [9]) (ρ.1 13)]++([Value.str (mS [13,10]) (ρ.1 14)]++[]))) (Int.toNat (Int.fmod (q.i 0) (3 : Int))))) (shT (itemAt ([Value.str (mS [10]) (ρ.1 12)]++([Value.str (mS [9]) (ρ.1 13)]++([Value.str (mS [13,10]) (ρ.1 14)]++[]))) (Int.toNat (Int.fmod (q.i 0) (3 : Int))))))) (sep3_ob _ _ _ _) <| ob (A := (Str.length (q.s 0++(mS [92,46,92]++chAt (q.s 1) (q.i 0))++shS (itemAt ([Value.str (mS [10]) (ρ.1 12)]++([Value.str (mS [9]) (ρ.1 13)]++([Value.str (mS [13,10]) (ρ.1 14)]++[]))) (Int.toNat (Int.fmod (q.i 0) (3 : Int))))) ≤ sizeLine)) (hq.1.o2 hl (by simp only [Str.length_append,len_lit,chAt_len,List.length_cons,List.length_nil]; decide) _ _ _) <| ob (A := (TxP (q.i 0 + 1 : Int) (q.i 1 - 1 : Int) (q.s 1) (q.l 0) (q.s 0++(mS [92,46,92]++chAt (q.s 1) (q.i 0))++shS (itemAt ([Value.str (mS [10]) (ρ.n 12)]++([Value.str (mS [9]) (ρ.n 13)]++([Value.str (mS [13,10]) (ρ.n 14)]++[]))) (Int.toNat (Int.fmod (q.i 0) 3)))) m)) (hq.1.next hl (body_b _ _ _ hb hq.1.c0)) <| fun he0 : TxR (q.i 0 + 1 : Int) (q.i 1 - 1 : Int) (q.s 1) (q.l 0) (q.s 0++(mS [92,46,92]++chAt (q.s 1) (q.i 0))++shS (itemAt ([Value.str (mS [10]) (ρ.n 12)]++([Value.str (mS [9]) (ρ.n 13)]++([Value.str (mS [13,10]) (ρ.n 14)]++[]))) (Int.toNat (Int.fmod (q.i 0) 3)))) ((ρ.2 0).s 0) => fin (S_txf W (m + 1)) q (lt [] [ρ.1 1,(ρ.2 0).2 0] [] [(ρ.2 0).s 0] [(ρ.2 0).5 0] [] []) ((TxR.step hq.1 hl (body_b _ _ _ hb hq.1.c0) he0)) :) ?_
  induction W using y_0 <;> kernel_rfl
theorem txf_ok (W : Wd) (O : (BB W).Ok) (m : Nat) : (S_txf W (m + 1)).Ok := fun q hq => by
  by_cases hb : bAnd ((shI (itemAt (q.l 0) 1)).fdiv (2 ^ ((q.i 0)).toNat)) 1 = 1
  · cases hs : sIn ⟨#[34, 92]⟩ (chAt (q.s 1) (q.i 0)) with
    | true => exact txf_q W O m (tx_ok W O false m) q hq (by first | lia | exact hq.2) hb hs
    | false => exact txf_r W O m (tx_ok W O false m) q hq (by first | lia | exact hq.2) hb hs
  · exact txf_b W O m (tx_ok W O false m) q hq (by first | lia | exact hq.2) hb
end Mine
end
section
namespace Mine
open PySem PySem.Spec PySem.Calls PyProof.Rows PySem.W PySem.W.X PySem.Builtin PySem.Builtin.Str PySem.Builtin.Int PySem.StrLaws
inductive Rd : List Nat → List (List Nat) → List Nat → Prop where
  | nil {l : List Nat} : Rd l [] l
  | cons {l l1 tk rest : List Nat} {ws : List (List Nat)} : Lx1 l tk l1 → Rd l1 ws rest → Rd l (tk :: ws) rest
structure WoP (text : Str) (p left : Int) (pbs xs : List Value) (l : List Nat) (ws : List (List Nat)) : Prop where
  lw : left = ws.length
  gp : GP text p ⟨#[]⟩ l
  pb : pbs = []
  xa : AllStr xs
  xl : xs.length + ws.length ≤ 1000
structure WoR (text : Str) (n : Int) (xs : List Value) (l : List Nat) (ws : List (List Nat)) (rest : List Nat) (p' n' : Int) (xs' : List Value) : Prop where
  xa : AllStr xs'
  xm : xs'.map shS = xs.map shS ++ ws.map sL
  p0 : 0 ≤ p'
  rm : rem text p' = rest
  nl : n' = n + nls l - nls rest
section
variable {text : Str} {p left n : Int} {pbs xs : List Value} {l l1 tk rest : List Nat} {ws : List (List Nat)}
theorem WoP.l0 (h : WoP text p left pbs xs l []) : left ≤ 0 := by have := h.lw; simp at this; lia
theorem WoP.lp (h : WoP text p left pbs xs l (tk :: ws)) : 0 < left := by have := h.lw; simp at this; lia
theorem WoP.fin (h : WoP text p left pbs xs l []) : WoR text n xs l [] l p n xs := ⟨h.xa, by simp, h.gp.1, h.gp.2.1, by lia⟩
theorem WoP.ob (h : WoP text p left pbs xs l (tk :: ws)) : xs.length ≤ sizeLine := by have := h.xl; have := line1000; lia
theorem WoP.gt (h : WoP text p left pbs xs l ws) : pbs = [] ∧ GP text p ⟨#[]⟩ l := ⟨h.pb, h.gp⟩
theorem lx3_len {l tk rest : List Nat} (z : Lx3 l tk rest) : rest.length ≤ l.length := by
  induction z with
  | ws _ => simp
  | esc _ ih => simp; lia
  | chr _ _ _ ih => simp; lia
theorem lx2_len {l tk rest : List Nat} (z : Lx2 l tk rest) : rest.length ≤ l.length := by
  induction z with
  | q => simp
  | esc _ ih => simp; lia
  | chr _ _ _ ih => simp; lia
theorem lx1_len {l tk rest : List Nat} (z : Lx1 l tk rest) : rest.length ≤ l.length := by
  induction z with
  | fin => simp
  | ws _ _ ih => simp; lia
  | quo h => have := lx2_len h; simp; lia
  | esc h => have := lx3_len h; simp; lia
  | chr _ _ _ h => have := lx3_len h; simp; lia
theorem WoP.next (h : WoP text p left pbs xs l (tk :: ws)) (z : Lx1 l tk l1) {p1 n1 : Int} {tok : Str} {t : Tok} (r : GR text n ⟨#[]⟩ l tk l1 p1 n1 tok) : WoP text p1 (left - 1) pbs (xs ++ [Value.str tok t]) l1 ws := by
  have h1 := h.lw; have h2 := h.xl; have h3 := lx1_len z; have h4 := h.gp.2.2
  simp only [List.length_cons] at h1 h2
  exact ⟨by lia, ⟨r.1, r.2.1, by lia⟩, h.pb, h.xa.app (AllStr.one _ _), by simp; lia⟩
theorem WoP.step (h : WoP text p left pbs xs l (tk :: ws)) {p1 n1 p2 n2 : Int} {tok : Str} {t : Tok} {xs' : List Value} (r : GR text n ⟨#[]⟩ l tk l1 p1 n1 tok) (r2 : WoR text n1 (xs ++ [Value.str tok t]) l1 ws rest p2 n2 xs') : WoR text n xs l (tk :: ws) rest p2 n2 xs' := by
  refine ⟨r2.xa, ?_, r2.p0, r2.rm, ?_⟩
  · rw [r2.xm, List.map_append, List.append_assoc]
    congr 1
    show shS (Value.str tok t) :: _ = _
    have e : tok = sL tk := r.2.2.1.trans (Str.empty_append _)
    rw [List.map_cons, ← e]
    rfl
  · have e1 := r2.nl; have e2 := r.2.2.2
    lia
end
end Mine
end
section

namespace Mine
open PySem PySem.Spec PySem.Calls PyProof.Rows PySem.W PySem.W.X PySem.Builtin.Str
noncomputable def S_wo (W : Wd) (l : List Nat) (ws : List (List Nat)) (rest : List Nat) : Sp (BB W) :=
  let B := BB W
  { d := 100
    c := fun q => .compLoop (exOf (lwS W.w [8])) 0 (.ref (q.a 2)) (.ref (q.a 3)) (compEnv (exOf (lwS W.w [8])) (lwEnv W.w (q.a 1) 0 0 (q.a 4) 0 0 0 0 0) (q.a 0) [(s_source, (q.a 4))])
    P := fun q => WoP (q.s 0) (q.i 3) (q.i 1) (q.l 1) (q.l 0) l ws
    pre := fun q => [((q.a 0),dictO [kv B s_k (q.t 0) (q.v 0)] 1),((q.a 2),fieldsO tRG [(.int (q.i 0) (q.t 1)),(.int (q.i 1) (q.t 2)),(.int 1 (q.t 3))]),((q.a 3),listO (q.l 0) (q.t 4)),((q.a 4),cellO (.ref (q.a 5)))]++lxQ W q 5 5 2 1 1 0
    R := fun q e => WoR (q.s 0) (q.i 2) (q.l 0) l ws rest (e.i 0) (e.i 1) (e.l 0)
    res := fun q e => .ok .next
    out := fun q e => [((q.a 0),dictO [kv B s_k (q.t 0) (e.v 0)] 1),((q.a 3),listO (e.l 0) (e.t 0)),((q.a 4),cellO (.ref (q.a 5)))]++lxV W (q.a 5) (q.a 6) (q.t 5) (e.i 1) (e.t 1) (q.t 7) (q.a 7) (q.t 8) (q.t 9) (q.t 10) (q.a 8) (q.l 1) (q.t 11) (q.f 0) (q.a 9) (q.t 12) (q.a 10) (q.a 11) (q.a 12) (q.a 13) (q.a 14) (q.t 13) (q.v 1) (q.l 2) (q.s 0) (q.t 14) (q.a 15) (e.i 0) (e.t 2) }
noncomputable def on_wo : Code → View → Lt := fun c V => lt ([(cEnv c).locals,envFrame (cEnv c),valA (cIt c),valA (cAcc c),envCell 0 (cEnv c),cA V 3]++xA V 4) ([kT V 0 0,qT V 1 0,qT V 1 1,qT V 1 2,eP V 2]++xT V 5) [qI V 1 0,qI V 1 1,dI V 5 0,qI V 13 0] [valS (cellV (nthO V 11))] [dV V 0 0,nthV (sQ V 10) 0] [sQ V 2,sQ V 6,dropV 2 (sQ V 10)] [fdO (nthO V 7)]
noncomputable def S_wf (W : Wd) (l : List Nat) (ws : List (List Nat)) (rest : List Nat) : Sp (BB W) :=
  let B := BB W
  { d := 100
    c := fun q => .compLoop (exOf (lwS W.w [8])) 0 (.ref (q.a 2)) (.ref (q.a 3)) (compEnv (exOf (lwS W.w [8])) (lwEnv W.w (q.a 1) 0 0 (q.a 4) 0 0 0 0 0) (q.a 0) [(s_source, (q.a 4))])
    P := fun q => WoP (q.s 0) (q.i 3) (q.i 1) (q.l 1) (q.l 0) l ws ∧ 0 < (q.i 1)
    pre := fun q => [((q.a 0),dictO [] 0),((q.a 2),fieldsO tRG [(.int (q.i 0) (q.t 0)),(.int (q.i 1) (q.t 1)),(.int 1 (q.t 2))]),((q.a 3),listO (q.l 0) (q.t 3)),((q.a 4),cellO (.ref (q.a 5)))]++lxQ W q 5 4 2 0 1 0
    R := fun q e => WoR (q.s 0) (q.i 2) (q.l 0) l ws rest (e.i 0) (e.i 1) (e.l 0)
    res := fun q e => .ok .next
    out := fun q e => [((q.a 0),dictO [kv B s_k (e.t 0) (e.v 0)] 1),((q.a 3),listO (e.l 0) (e.t 1)),((q.a 4),cellO (.ref (q.a 5)))]++lxV W (q.a 5) (q.a 6) (q.t 4) (e.i 1) (e.t 2) (q.t 6) (q.a 7) (q.t 7) (q.t 8) (q.t 9) (q.a 8) (q.l 1) (q.t 10) (q.f 0) (q.a 9) (q.t 11) (q.a 10) (q.a 11) (q.a 12) (q.a 13) (q.a 14) (q.t 12) (q.v 0) (q.l 2) (q.s 0) (q.t 13) (q.a 15) (e.i 0) (e.t 3) }
noncomputable def on_wf : Code → View → Lt := fun c V => lt ([(cEnv c).locals,envFrame (cEnv c),valA (cIt c),valA (cAcc c),envCell 0 (cEnv c),cA V 3]++xA V 4) ([qT V 1 0,qT V 1 1,qT V 1 2,eP V 2]++xT V 5) [qI V 1 0,qI V 1 1,dI V 5 0,qI V 13 0] [valS (cellV (nthO V 11))] [nthV (sQ V 10) 0] [sQ V 2,sQ V 6,dropV 2 (sQ V 10)] [fdO (nthO V 7)]
noncomputable def S_wa (W : Wd) (l : List Nat) (ws : List (List Nat)) (rest : List Nat) : Sp (BB W) := Sp.start (S_wf W l ws rest)
noncomputable abbrev on_wa := on_wf
theorem wo_end (W : Wd) (O : (BB W).Ok) (l : List Nat) (q : Lt) (hq : (S_wo W l [] l).P q) : At (S_wo W l [] l) 100 q := by
  refine tri_f O (stdH _) [] 2000 100 (hs := [0,2,0,2,6,0,2,2,2,1]) (is := hx 13 0x30c30c30c30c30c30c2)
    (fun (ρ : Rho) => ob hq.l0 <| fin (S_wo W l [] l) q (lt [] [(q.t 4),(q.t 6),(q.t 15)] [(q.i 3),(q.i 2)] [] [(q.v 0)] [(q.l 0)] []) (hq.fin) :) ?_
  induction W using y_0 <;> kernel_rfl
theorem wo_step (W : Wd) (O : (BB W).Ok) (l l1 tk rest : List Nat) (ws : List (List Nat)) (z : Lx1 l tk l1) (ih : (S_wo W l1 ws rest).Ok) (q : Lt) (hq : (S_wo W l (tk :: ws) rest).P q) : At (S_wo W l (tk :: ws) rest) 100 q := by
  refine tri_f O (stdH _) [U (S_gtL W l tk l1) (gtL_ok W O z) on_gtL,U (S_wo W l1 ws rest) ih on_wo] 2000 100 (hs := hx 67 0xa28a28e04331e08d00410410410410410a003006140000005000005000005101042082082082046080080) (is := hx 13 0x0)
    (fun (ρ : Rho) => let z0 := q.l 0++[Value.str ((ρ.2 0).s 0) ((ρ.2 0).t 2)]; ob (A := (rngD (It.mk (Value.ref (q.a 2)) (q.i 0) (q.i 1) (1 : Int) #[]) (1))) (hq.lp) <| ob (A := ((q.l 1) = [] ∧ GP (q.s 0) (q.i 3) ⟨#[]⟩ l)) (hq.gt) <| fun he0 : GR (q.s 0) (q.i 2) ⟨#[]⟩ l tk l1 ((ρ.2 0).i 0) ((ρ.2 0).i 1) ((ρ.2 0).s 0) => ob (A := (List.length (q.l 0) ≤ sizeLine)) (hq.ob) <| ob (A := (WoP (q.s 0) ((ρ.2 0).i 0 : Int) (q.i 1 - 1 : Int) (q.l 1) z0 l1 ws)) (hq.next z he0) <| fun he1 : WoR (q.s 0) ((ρ.2 0).i 1 : Int) z0 l1 ws rest ((ρ.2 1).i 0) ((ρ.2 1).i 1) ((ρ.2 1).l 0) => fin (S_wo W l (tk::ws) rest) q (lt [] [(ρ.2 1).2 0,(ρ.2 1).2 1,(ρ.2 1).2 2] [(ρ.2 1).i 0,(ρ.2 1).i 1] [] [(ρ.2 1).5 0] [(ρ.2 1).6 0] []) ((hq.step he0 he1)) :) ?_
  induction W using y_0 <;> kernel_rfl
theorem wf_step (W : Wd) (O : (BB W).Ok) (l l1 tk rest : List Nat) (ws : List (List Nat)) (z : Lx1 l tk l1) (ih : (S_wo W l1 ws rest).Ok) (q : Lt) (hq : (S_wf W l (tk :: ws) rest).P q) : At (S_wf W l (tk :: ws) rest) 100 q := by
  refine tri_f O (stdH _) [U (S_gtL W l tk l1) (gtL_ok W O z) on_gtL,U (S_wo W l1 ws rest) ih on_wo] 2000 100 (hs := hx 67 0xa28a28e04331e08d00410410410410410a003006140000005000005000005101042082082082046080080) (is := hx 13 0x0)
    (fun (ρ : Rho) => let z0 := q.l 0++[Value.str ((ρ.2 0).s 0) ((ρ.2 0).t 2)]; ob (A := (rngD (It.mk (Value.ref (q.a 2)) (q.i 0) (q.i 1) (1 : Int) #[]) (1))) (hq.1.lp) <| ob (A := ((q.l 1) = [] ∧ GP (q.s 0) (q.i 3) ⟨#[]⟩ l)) (hq.1.gt) <| fun he0 : GR (q.s 0) (q.i 2) ⟨#[]⟩ l tk l1 ((ρ.2 0).i 0) ((ρ.2 0).i 1) ((ρ.2 0).s 0) => ob (A := (List.length (q.l 0) ≤ sizeLine)) (hq.1.ob) <| ob (A := (WoP (q.s 0) ((ρ.2 0).i 0 : Int) (q.i 1 - 1 : Int) (q.l 1) z0 l1 ws)) (hq.1.next z he0) <| fun he1 : WoR (q.s 0) ((ρ.2 0).i 1 : Int) z0 l1 ws rest ((ρ.2 1).i 0) ((ρ.2 1).i 1) ((ρ.2 1).l 0) => fin (S_wf W l (tk::ws) rest) q (lt [] [ρ.1 1,(ρ.2 1).2 0,(ρ.2 1).2 1,(ρ.2 1).2 2] [(ρ.2 1).i 0,(ρ.2 1).i 1] [] [(ρ.2 1).5 0] [(ρ.2 1).6 0] []) ((hq.1.step he0 he1)) :) ?_
  induction W using y_0 <;> kernel_rfl
theorem wo_ok (W : Wd) (O : (BB W).Ok) {l rest : List Nat} {ws : List (List Nat)} (z : Rd l ws rest) : (S_wo W l ws rest).Ok := by
  induction z with
  | nil => exact fun q hq => wo_end W O _ q hq
  | cons z _ ih => exact fun q hq => wo_step W O _ _ _ _ _ z ih q hq
theorem wf_ok (W : Wd) (O : (BB W).Ok) {l rest : List Nat} {ws : List (List Nat)} (z : Rd l ws rest) : (S_wf W l ws rest).Ok := by
  cases z with
  | nil => exact fun q hq => absurd hq.2 (by have h := hq.1.l0; lia)
  | cons z h => exact fun q hq => wf_step W O _ _ _ _ _ z (wo_ok W O h) q hq
theorem wa_true (W : Wd) (O : (BB W).Ok) (l : List Nat) (ws : List (List Nat)) (rest : List Nat) (z : Rd l ws rest) (q : Lt) (hq : (S_wa W l ws rest).P q) (hb : W.b2 = true) : At (S_wa W l ws rest) 100 q := by
  refine tri_f O (stdH _) [U (S_wf W l ws rest) (wf_ok W O z) on_wf] 2000 100 (hs := hx 18 0x3800c0) (is := hx 13 0x0)
    (fun (ρ : Rho) => ob hq <| fun he0 : WoR (q.s 0) (q.i 2) (q.l 0) l ws rest ((ρ.2 0).i 0) ((ρ.2 0).i 1) ((ρ.2 0).l 0) => fin (S_wa W l ws rest) q (lt [] [(ρ.2 0).2 0,(ρ.2 0).2 1,(ρ.2 0).2 2,(ρ.2 0).2 3] [(ρ.2 0).i 0,(ρ.2 0).i 1] [] [(ρ.2 0).5 0] [(ρ.2 0).6 0] []) (he0) :) ?_
  induction W, hb using y_true <;> kernel_rfl
theorem wa_false (W : Wd) (O : (BB W).Ok) (l : List Nat) (ws : List (List Nat)) (rest : List Nat) (z : Rd l ws rest) (q : Lt) (hq : (S_wa W l ws rest).P q) (hb : W.b2 = false) : At (S_wa W l ws rest) 100 q := by
  refine tri_f O (stdH _) [U (S_wf W l ws rest) (wf_ok W O z) on_wf] 2000 100 (hs := hx 24 0x3800c2002002080) (is := hx 13 0x0)
    (fun (ρ : Rho) => ob hq <| fun he0 : WoR (q.s 0) (q.i 2) (q.l 0) l ws rest ((ρ.2 0).i 0) ((ρ.2 0).i 1) ((ρ.2 0).l 0) => fin (S_wa W l ws rest) q (lt [] [(ρ.2 0).2 0,(ρ.2 0).2 1,(ρ.2 0).2 2,(ρ.2 0).2 3] [(ρ.2 0).i 0,(ρ.2 0).i 1] [] [(ρ.2 0).5 0] [(ρ.2 0).6 0] []) (he0) :) ?_
  induction W, hb using y_false <;> kernel_rfl
theorem wa_ok (W : Wd) (O : (BB W).Ok) (l : List Nat) (ws : List (List Nat)) (rest : List Nat) (z : Rd l ws rest) : (S_wa W l ws rest).Ok := fun q hq => by
  cases hb : W.b2 with
  | true => exact wa_true W O l ws rest z q hq hb
  | false => exact wa_false W O l ws rest z q hq hb
end Mine
end
section
namespace Mine
open PySem PySem.Spec PySem.Calls PyProof.Rows PySem.W PySem.W.X PySem.Builtin PySem.Builtin.Str PySem.Builtin.Int PySem.StrLaws
structure SgR (sg : Str) (xs : List Value) : Prop where
  xa : AllStr xs
  xm : xs.map shS = sg.cps.toList.map (fun c => sL [46, c])
noncomputable def allStrB : List Value → Bool
  | [] => true
  | .str _ _ :: l => allStrB l
  | _ => false
theorem allStrB_is : ∀ {l : List Value}, allStrB l = true → AllStr l
  | [], _ => fun v hv => by simp at hv
  | .str x t :: l, h => fun v hv => by
    rcases List.mem_cons.mp hv with rfl | hv
    · rfl
    · exact allStrB_is (l := l) h v hv
theorem SgR.of (sg : Str) (xs : List Value) (h : allStrB xs = true) (h2 : xs.map shS = sg.cps.toList.map (fun c => sL [46, c])) : SgR sg xs := ⟨allStrB_is h, h2⟩
noncomputable def SgP (sg : Str) : Prop := sg = ⟨#[97, 34, 92, 32]⟩ ∨ sg = ⟨#[97, 34, 92, 32, 35]⟩ ∨ sg = ⟨#[97, 34, 92, 32, 35, 98]⟩
structure RgP (cur left : Int) (m : Nat) : Prop where
  c0 : 0 ≤ cur
  l0 : 0 ≤ left
  lm : left ≤ m
theorem RgP.next {cur left : Int} {m : Nat} (h : RgP cur left (m + 1)) (h0 : 0 < left) : RgP (cur + 1) (left - 1) m := by
  have := h.c0; have := h.lm; exact ⟨by lia, by lia, by lia⟩
noncomputable def feedN : Nat → Nat → Nat
  | 0, _ => 0
  | m + 1, k => (if k % 3 = 1 then 0 else 1) + feedN m (k + 1)
structure FdP (cur left : Int) (xs : List Value) (m : Nat) : Prop where
  rg : RgP cur left m
  xl : xs.length + left.toNat ≤ 1000
structure FdR (cur left : Int) (xs xs' : List Value) : Prop where
  n : xs'.length = xs.length + feedN left.toNat cur.toNat
section
variable {cur left : Int} {xs xs' : List Value} {m : Nat}
theorem FdP.m0 (h : FdP cur left xs 0) : left ≤ 0 := by have := h.rg.lm; lia
theorem FdP.fin (h : FdP cur left xs m) (h0 : left ≤ 0) : FdR cur left xs xs := ⟨by rw [show left.toNat = 0 by lia]; rfl⟩
theorem FdP.ob (h : FdP cur left xs m) : xs.length ≤ sizeLine := by have := h.xl; have := line1000; lia
theorem FdP.next (h : FdP cur left xs (m + 1)) (h0 : 0 < left) (v : Value) : FdP (cur + 1) (left - 1) (xs ++ [v]) m := by
  have := h.xl; exact ⟨h.rg.next h0, by simp; lia⟩
theorem FdP.nextf (h : FdP cur left xs (m + 1)) (h0 : 0 < left) : FdP (cur + 1) (left - 1) xs m := by
  have := h.xl; exact ⟨h.rg.next h0, by lia⟩
theorem FdP.rt (h : FdP cur left xs (m + 1)) (h0 : 0 < left) (hb : cur.fmod 3 ≠ 1) {v : Value} (r : FdR (cur + 1) (left - 1) (xs ++ [v]) xs') : FdR cur left xs xs' := by
  have h1 := h.rg.c0
  have e := r.n
  have h3 := fmod3 h1
  refine ⟨?_⟩
  rw [e, show left.toNat = (left - 1).toNat + 1 by lia, feedN, if_neg (by rw [← h3]; have := fmod_bd cur (b := 3) (by decide); lia), show (cur + 1).toNat = cur.toNat + 1 by lia]
  simp; lia
theorem FdP.rf (h : FdP cur left xs (m + 1)) (h0 : 0 < left) (hb : ¬ cur.fmod 3 ≠ 1) (r : FdR (cur + 1) (left - 1) xs xs') : FdR cur left xs xs' := by
  have h1 := h.rg.c0
  have e := r.n
  have h3 := fmod3 h1
  refine ⟨?_⟩
  rw [e, show left.toNat = (left - 1).toNat + 1 by lia, feedN, if_pos (by rw [← h3]; have := fmod_bd cur (b := 3) (by decide); lia), show (cur + 1).toNat = cur.toNat + 1 by lia]
  lia
end
end Mine
end
section

namespace Mine
open PySem PySem.Spec PySem.Calls PyProof.Rows PySem.W PySem.W.X PySem.Builtin.Str
noncomputable def S_fd (W : Wd) (m : Nat) : Sp (BB W) :=
  let B := BB W
  { d := 100
    c := fun q => .compLoop (exOf (lwS W.w [10])) 0 (.ref (q.a 2)) (.ref (q.a 3)) (compEnv (exOf (lwS W.w [10])) (lwEnv W.w (q.a 1) 0 0 0 0 0 0 0 0) (q.a 0) [])
    P := fun q => FdP (q.i 0) (q.i 1) (q.l 0) m
    pre := fun q => [((q.a 0),dictO [kv B s_k (q.t 0) (q.v 0)] 1),((q.a 2),fieldsO tRG [(.int (q.i 0) (q.t 1)),(.int (q.i 1) (q.t 2)),(.int 1 (q.t 3))]),((q.a 3),listO (q.l 0) (q.t 4))]
    R := fun q e => FdR (q.i 0) (q.i 1) (q.l 0) (e.l 0)
    res := fun q e => .ok .next
    out := fun q e => [((q.a 0),dictO [kv B s_k (q.t 0) (e.v 0)] 1),((q.a 3),listO (e.l 0) (e.t 0))] }
noncomputable def on_fd : Code → View → Lt := fun c V => lt [(cEnv c).locals,envFrame (cEnv c),valA (cIt c),valA (cAcc c)] [kT V 0 0,qT V 1 0,qT V 1 1,qT V 1 2,eP V 2] [qI V 1 0,qI V 1 1] [] [dV V 0 0] [sQ V 2] []
noncomputable def S_fdf (W : Wd) (m : Nat) : Sp (BB W) :=
  let B := BB W
  { d := 100
    c := fun q => .compLoop (exOf (lwS W.w [10])) 0 (.ref (q.a 2)) (.ref (q.a 3)) (compEnv (exOf (lwS W.w [10])) (lwEnv W.w (q.a 1) 0 0 0 0 0 0 0 0) (q.a 0) [])
    P := fun q => FdP (q.i 0) (q.i 1) (q.l 0) m ∧ 0 < (q.i 1)
    pre := fun q => [((q.a 0),dictO [] 0),((q.a 2),fieldsO tRG [(.int (q.i 0) (q.t 0)),(.int (q.i 1) (q.t 1)),(.int 1 (q.t 2))]),((q.a 3),listO (q.l 0) (q.t 3))]
    R := fun q e => FdR (q.i 0) (q.i 1) (q.l 0) (e.l 0)
    res := fun q e => .ok .next
    out := fun q e => [((q.a 0),dictO [kv B s_k (e.t 0) (e.v 0)] 1),((q.a 3),listO (e.l 0) (e.t 1))] }
noncomputable def on_fdf : Code → View → Lt := fun c V => lt [(cEnv c).locals,envFrame (cEnv c),valA (cIt c),valA (cAcc c)] [qT V 1 0,qT V 1 1,qT V 1 2,eP V 2] [qI V 1 0,qI V 1 1] [] [] [sQ V 2] []
noncomputable def S_fda (W : Wd) (m : Nat) : Sp (BB W) := Sp.start (S_fdf W m)
noncomputable abbrev on_fda := on_fdf
theorem fd_end (W : Wd) (O : (BB W).Ok) (m : Nat) (q : Lt) (hq : (S_fd W m).P q) (hl : (q.i 1) ≤ 0) : At (S_fd W m) 100 q := by
  refine tri_f O (stdH _) [] 2000 100 (hs := [0,2,0,2,6,0,2,2,2,1]) (is := [2,3])
    (fun (ρ : Rho) => ob hl <| fin (S_fd W m) q (lt [] [(q.t 4)] [] [] [(q.v 0)] [(q.l 0)] []) ((hq.fin hl)) :) ?_
  induction W using y_0 <;> kernel_rfl
theorem fd_t (W : Wd) (O : (BB W).Ok) (m : Nat) (ih : (S_fd W m).Ok) (q : Lt) (hq : (S_fd W (m + 1)).P q) (hl : 0 < (q.i 1)) (hb : (q.i 0).fmod 3 ≠ 1) : At (S_fd W (m + 1)) 100 q := by
  refine tri_f O (stdH _) [U (S_fd W m) ih on_fd] 2000 100 (hs := hx 34 0x300309e083001282014080041042082082082046080080) (is := [0,0])
    (fun (ρ : Rho) => let z0 := q.l 0++[Value.int (q.i 0) (ρ.n 0)]; ob hl <| ob (A := ((3 : Int) ≠ (0 : Int))) (by first | assumption | lia | decide | (constructor <;> first | assumption | lia | decide)) <| ob hb <| ob hq.ob <| ob (A := (FdP (q.i 0 + 1 : Int) (q.i 1 - 1 : Int) z0 m)) (hq.next hl _) <| fun he0 : FdR (q.i 0 + 1 : Int) (q.i 1 - 1 : Int) z0 ((ρ.2 0).l 0) => fin (S_fd W (m + 1)) q (lt [] [(ρ.2 0).2 0] [] [] [(ρ.2 0).5 0] [(ρ.2 0).6 0] []) ((hq.rt hl hb he0)) :) ?_
  induction W using y_0 <;> kernel_rfl
theorem fd_f (W : Wd) (O : (BB W).Ok) (m : Nat) (ih : (S_fd W m).Ok) (q : Lt) (hq : (S_fd W (m + 1)).P q) (hl : 0 < (q.i 1)) (hb : ¬ (q.i 0).fmod 3 ≠ 1) : At (S_fd W (m + 1)) 100 q := by
  refine tri_f O (stdH _) [U (S_fd W m) ih on_fd] 2000 100 (hs := hx 28 0x30032c2014080041042082082082046080080) (is := [0,0])
    (fun (ρ : Rho) => ob hl <| ob (A := ((3 : Int) ≠ (0 : Int))) (by first | assumption | lia | decide | (constructor <;> first | assumption | lia | decide)) <| ob (Classical.not_not.mp hb) <| ob (hq.nextf hl) <| fun he0 : FdR (q.i 0 + 1 : Int) (q.i 1 - 1 : Int) (q.l 0) ((ρ.2 0).l 0) => fin (S_fd W (m + 1)) q (lt [] [(ρ.2 0).2 0] [] [] [(ρ.2 0).5 0] [(ρ.2 0).6 0] []) ((hq.rf hl hb he0)) :) ?_
  induction W using y_0 <;> kernel_rfl
theorem fd_ok (W : Wd) (O : (BB W).Ok) : ∀ m, (S_fd W m).Ok
  | 0 => fun q hq => fd_end W O 0 q hq (hq.m0)
  | m + 1 => fun q hq => by
    by_cases hl : (q.i 1) ≤ 0
    · exact fd_end W O (m + 1) q hq hl
    · by_cases hb : (q.i 0).fmod 3 ≠ 1
      · exact fd_t W O  m (fd_ok W O m) q hq (by first | lia | exact hq.2) hb
      · exact fd_f W O  m (fd_ok W O m) q hq (by first | lia | exact hq.2) hb
theorem fdf_t (W : Wd) (O : (BB W).Ok) (m : Nat) (ih : (S_fd W m).Ok) (q : Lt) (hq : (S_fdf W (m + 1)).P q) (hl : 0 < (q.i 1)) (hb : (q.i 0).fmod 3 ≠ 1) : At (S_fdf W (m + 1)) 100 q := by
  refine tri_f O (stdH _) [U (S_fd W m) ih on_fd] 2000 100 (hs := hx 34 0x300309e083001282014080041042082082082046080080) (is := [0,0])
    (fun (ρ : Rho) => let z0 := q.l 0++[Value.int (q.i 0) (ρ.n 0)]; ob hl <| ob (A := ((3 : Int) ≠ (0 : Int))) (by first | assumption | lia | decide | (constructor <;> first | assumption | lia | decide)) <| ob hb <| ob hq.1.ob <| ob (A := (FdP (q.i 0 + 1 : Int) (q.i 1 - 1 : Int) z0 m)) (hq.1.next hl _) <| fun he0 : FdR (q.i 0 + 1 : Int) (q.i 1 - 1 : Int) z0 ((ρ.2 0).l 0) => fin (S_fdf W (m + 1)) q (lt [] [ρ.1 1,(ρ.2 0).2 0] [] [] [(ρ.2 0).5 0] [(ρ.2 0).6 0] []) ((hq.1.rt hl hb he0)) :) ?_
  induction W using y_0 <;> kernel_rfl
theorem fdf_f (W : Wd) (O : (BB W).Ok) (m : Nat) (ih : (S_fd W m).Ok) (q : Lt) (hq : (S_fdf W (m + 1)).P q) (hl : 0 < (q.i 1)) (hb : ¬ (q.i 0).fmod 3 ≠ 1) : At (S_fdf W (m + 1)) 100 q := by
  refine tri_f O (stdH _) [U (S_fd W m) ih on_fd] 2000 100 (hs := hx 28 0x30032c2014080041042082082082046080080) (is := [0,0])
    (fun (ρ : Rho) => ob hl <| ob (A := ((3 : Int) ≠ (0 : Int))) (by first | assumption | lia | decide | (constructor <;> first | assumption | lia | decide)) <| ob (Classical.not_not.mp hb) <| ob (hq.1.nextf hl) <| fun he0 : FdR (q.i 0 + 1 : Int) (q.i 1 - 1 : Int) (q.l 0) ((ρ.2 0).l 0) => fin (S_fdf W (m + 1)) q (lt [] [ρ.1 1,(ρ.2 0).2 0] [] [] [(ρ.2 0).5 0] [(ρ.2 0).6 0] []) ((hq.1.rf hl hb he0)) :) ?_
  induction W using y_0 <;> kernel_rfl
theorem fdf_ok (W : Wd) (O : (BB W).Ok) (m : Nat) : (S_fdf W (m + 1)).Ok := fun q hq => by
  by_cases hb : (q.i 0).fmod 3 ≠ 1
  · exact fdf_t W O  m (fd_ok W O m) q hq (by first | lia | exact hq.2) hb
  · exact fdf_f W O  m (fd_ok W O m) q hq (by first | lia | exact hq.2) hb
theorem fda_true (W : Wd) (O : (BB W).Ok) (m : Nat) (q : Lt) (hq : (S_fda W (m + 1)).P q) (hb : W.b2 = true) : At (S_fda W (m + 1)) 100 q := by
  refine tri_f O (stdH _) [U (S_fdf W (m + 1)) (fdf_ok W O m) on_fdf] 2000 100 (hs := [0,3,0,3,0,0,0]) (is := [0,0])
    (fun (ρ : Rho) => ob hq <| fun he0 : FdR (q.i 0) (q.i 1) (q.l 0) ((ρ.2 0).l 0) => fin (S_fda W (m + 1)) q (lt [] [(ρ.2 0).2 0,(ρ.2 0).2 1] [] [] [(ρ.2 0).5 0] [(ρ.2 0).6 0] []) (he0) :) ?_
  induction W, hb using y_true <;> kernel_rfl
theorem fda_false (W : Wd) (O : (BB W).Ok) (m : Nat) (q : Lt) (hq : (S_fda W (m + 1)).P q) (hb : W.b2 = false) : At (S_fda W (m + 1)) 100 q := by
  refine tri_f O (stdH _) [U (S_fdf W (m + 1)) (fdf_ok W O m) on_fdf] 2000 100 (hs := hx 13 0xc00c2002002080) (is := [0,0])
    (fun (ρ : Rho) => ob hq <| fun he0 : FdR (q.i 0) (q.i 1) (q.l 0) ((ρ.2 0).l 0) => fin (S_fda W (m + 1)) q (lt [] [(ρ.2 0).2 0,(ρ.2 0).2 1] [] [] [(ρ.2 0).5 0] [(ρ.2 0).6 0] []) (he0) :) ?_
  induction W, hb using y_false <;> kernel_rfl
theorem fda_ok (W : Wd) (O : (BB W).Ok) (m : Nat) : (S_fda W (m + 1)).Ok := fun q hq => by
  cases hb : W.b2 with
  | true => exact fda_true W O m q hq hb
  | false => exact fda_false W O m q hq hb
end Mine
end
section
namespace Mine
open PySem PySem.Spec PySem.Calls PyProof.Rows PySem.W PySem.W.X PySem.Builtin PySem.Builtin.Str PySem.Builtin.Int PySem.StrLaws
theorem AllInt.one (i : Int) (t : Tok) : AllInt [.int i t] := fun v hv => by
  rcases List.mem_cons.mp hv with rfl | hv
  · rfl
  · simp at hv
theorem AllInt.app {l m : List Value} (h : AllInt l) (h' : AllInt m) : AllInt (l ++ m) := fun x hx => by
  rcases List.mem_append.mp hx with hx | hx
  · exact h x hx
  · exact h' x hx
noncomputable def insI (l : List Int) (i : Nat) (x : Int) : List Int := l.take i ++ x :: l.drop i
noncomputable def ordL : Nat → Nat → Int → List Int → List Int
  | 0, _, _, l => l
  | m + 1, k, n, l => ordL m (k + 1) (n.fdiv (k + 1)) (insI l (k - n.fmod (k + 1)).toNat k)
theorem insV_map (l : List Value) (i : Nat) (x : Int) (t : Tok) : (insV l i (.int x t)).map shI = insI (l.map shI) i x := by
  rw [insV_eq]; unfold insI; simp [shI]
theorem insV_len (l : List Value) (i : Nat) (v : Value) : (insV l i v).length = l.length + 1 := by
  rw [insV_eq]; simp [List.length_take, List.length_drop]; lia
theorem insV_all {l : List Value} (h : AllInt l) (i : Nat) (x : Int) (t : Tok) : AllInt (insV l i (.int x t)) := fun v hv => by
  rw [insV_eq] at hv
  rcases List.mem_append.mp hv with hv | hv
  · exact h v (List.mem_of_mem_take hv)
  · rcases List.mem_cons.mp hv with rfl | hv
    · rfl
    · exact h v (List.mem_of_mem_drop hv)
structure OrP (cur left quo : Int) (od : List Value) (m : Nat) : Prop where
  rg : RgP cur left m
  c1 : 1 ≤ cur
  c6 : cur + left ≤ 6
  ol : od.length = cur.toNat
  oa : AllInt od
  qb : quo.natAbs < 65536
structure OrR (cur left quo : Int) (od : List Value) (quo' : Int) (od' : List Value) : Prop where
  oa : AllInt od'
  om : od'.map shI = ordL left.toNat cur.toNat quo (od.map shI)
  q : quo' = dealN left.toNat cur.toNat quo
section
variable {cur left quo : Int} {od : List Value} {m : Nat}
theorem OrP.m0 (h : OrP cur left quo od 0) : left ≤ 0 := by have := h.rg.lm; lia
theorem OrP.fin (h : OrP cur left quo od m) (h0 : left ≤ 0) : OrR cur left quo od quo od := by
  have e : left.toNat = 0 := by lia
  exact ⟨h.oa, by rw [e]; rfl, by rw [e]; rfl⟩
theorem OrP.fm (h : OrP cur left quo od m) : 0 ≤ quo.fmod (cur + 1) ∧ quo.fmod (cur + 1) ≤ cur := by
  have h1 := h.c1
  have := fmod_bd quo (b := cur + 1) (by lia)
  lia
theorem OrP.ne (h : OrP cur left quo od m) : cur + 1 ≠ 0 := by have := h.c1; lia
theorem OrP.dv (h : OrP cur left quo od m) : cur + 1 ≠ 0 ∧ Builtin.divisionGoesByPylong quo (cur + 1) = false := by
  have h1 := h.c1; have h2 := h.c6; have h3 := h.rg.l0
  exact ⟨by lia, noPy (k := 16) (by decide) (by show _ < 65536; lia)⟩
theorem OrP.ins (h : OrP cur left quo od m) : 0 ≤ cur - quo.fmod (cur + 1) ∧ (cur - quo.fmod (cur + 1)).toNat ≤ od.length ∧ od.length ≤ sizeLine := by
  have := h.fm; have := h.ol; have := h.c6; have := h.rg.l0; have := line100
  exact ⟨by lia, by lia, by lia⟩
theorem OrP.next (h : OrP cur left quo od (m + 1)) (h0 : 0 < left) (t : Tok) : OrP (cur + 1) (left - 1) (quo.fdiv (cur + 1)) (insV od (cur - quo.fmod (cur + 1)).toNat (.int cur t)) m := by
  have h1 := h.c1; have h2 := h.c6; have h3 := h.ol
  exact ⟨h.rg.next h0, by lia, by lia, by rw [insV_len]; lia, insV_all h.oa _ _ _, fdiv_less h.qb (by lia)⟩
theorem OrP.step (h : OrP cur left quo od (m + 1)) (h0 : 0 < left) {t : Tok} {quo' : Int} {od' : List Value} (r : OrR (cur + 1) (left - 1) (quo.fdiv (cur + 1)) (insV od (cur - quo.fmod (cur + 1)).toNat (.int cur t)) quo' od') : OrR cur left quo od quo' od' := by
  have h1 := h.c1
  have e : left.toNat = (left - 1).toNat + 1 := by lia
  have e2 : (cur + 1).toNat = cur.toNat + 1 := by lia
  have e3 : ((cur.toNat : Nat) : Int) + 1 = cur + 1 := by lia
  have e4 : ((cur.toNat : Nat) : Int) = cur := by lia
  refine ⟨r.oa, ?_, ?_⟩
  · rw [r.om, e, ordL, insV_map, e2, e3, e4]
  · rw [r.q, e, dealN, e2, e3]
end
noncomputable def plcL (od : List Value) : Nat → Int → List Int
  | 0, _ => []
  | m + 1, k => (idxI od k : Int) :: plcL od m (k + 1)
structure PlP (cur left : Int) (od xs : List Value) (m : Nat) : Prop where
  rg : RgP cur left m
  oa : AllInt od
  ol : od.length ≤ 1000
  has : ∀ j : Int, cur ≤ j → j < cur + left → od.any (isI j) = true
  xa : AllInt xs
  xl : xs.length + left.toNat ≤ 1000
structure PlR (cur left : Int) (od xs xs' : List Value) : Prop where
  xa : AllInt xs'
  xm : xs'.map shI = xs.map shI ++ plcL od left.toNat cur
section
variable {cur left : Int} {od xs xs' : List Value} {m : Nat}
theorem PlP.m0 (h : PlP cur left od xs 0) : left ≤ 0 := by have := h.rg.lm; lia
theorem PlP.fin (h : PlP cur left od xs m) (h0 : left ≤ 0) : PlR cur left od xs xs := ⟨h.xa, by rw [show left.toNat = 0 by lia]; simp [plcL]⟩
theorem PlP.ix (h : PlP cur left od xs m) (h0 : 0 < left) : AllInt od ∧ od.any (isI cur) = true ∧ od.length ≤ sizeLine := by
  have := h.ol; have := line1000
  exact ⟨h.oa, h.has cur (by lia) (by lia), by lia⟩
theorem PlP.ob (h : PlP cur left od xs m) : xs.length ≤ sizeLine := by have := h.xl; have := line1000; lia
theorem PlP.next (h : PlP cur left od xs (m + 1)) (h0 : 0 < left) {i : Int} {t : Tok} : PlP (cur + 1) (left - 1) od (xs ++ [.int i t]) m := by
  have := h.xl
  exact ⟨h.rg.next h0, h.oa, h.ol, fun j h1 h2 => h.has j (by lia) (by lia), h.xa.app (AllInt.one _ _), by simp; lia⟩
theorem PlP.step (h : PlP cur left od xs (m + 1)) (h0 : 0 < left) {t : Tok} (r : PlR (cur + 1) (left - 1) od (xs ++ [.int (idxI od cur : Nat) t]) xs') : PlR cur left od xs xs' := by
  refine ⟨r.xa, ?_⟩
  rw [r.xm, show left.toNat = (left - 1).toNat + 1 by lia, plcL]
  simp [shI]
end
end Mine
end
section

namespace Mine
open PySem PySem.Spec PySem.Calls PyProof.Rows PySem.W PySem.W.X PySem.Builtin.Str
noncomputable def S_or (W : Wd) (sh : Bool) (m : Nat) : Sp (BB W) :=
  let B := BB W
  { d := 100
    c := fun q => forC (lwS W.w [14]) (q.a 9) (lwEnv W.w (q.a 0) (q.a 1) (q.a 2) (q.a 3) (q.a 4) (q.a 5) (q.a 6) (q.a 7) (q.a 8))
    P := fun q => OrP (q.i 1) (q.i 2) (q.i 0) (q.l 0) m
    pre := fun q => [((q.a 0),frameO (p_ab sh [kv B s_script (q.t 0) (q.v 0),kv B s_cells (q.t 1) (q.v 1),kv B s_k (q.t 2) (q.v 2),kv B s_number (q.t 3) (q.v 3),kv B s_text (q.t 4) (q.v 4),kv B s_feeds (q.t 5) (q.v 5),kv B s_quotient (q.t 6) (.int (q.i 0) (q.t 7))]) 7),((q.a 9),fieldsO tRG [(.int (q.i 1) (q.t 8)),(.int (q.i 2) (q.t 9)),(.int 1 (q.t 10))]),((q.a 5),cellO (.ref (q.a 10))),((q.a 10),listO (q.l 0) (q.t 11))]
    R := fun q e => OrR (q.i 1) (q.i 2) (q.i 0) (q.l 0) (e.i 0) (e.l 0)
    res := fun q e => .ok .next
    out := fun q e => [((q.a 0),frameO (p_ab sh [kv B s_script (q.t 0) (q.v 0),kv B s_cells (q.t 1) (q.v 1),kv B s_k (q.t 2) (e.v 0),kv B s_number (q.t 3) (q.v 3),kv B s_text (q.t 4) (q.v 4),kv B s_feeds (q.t 5) (q.v 5),kv B s_quotient (q.t 6) (.int (e.i 0) (e.t 0))]) 7),((q.a 5),cellO (.ref (q.a 10))),((q.a 10),listO (e.l 0) (e.t 1))] }
noncomputable def on_or (sh : Bool) : Code → View → Lt := fun c V => lt [(cEnv c).locals,envCell 7 (cEnv c),envCell 6 (cEnv c),envCell 5 (cEnv c),envCell 4 (cEnv c),envCell 3 (cEnv c),envCell 2 (cEnv c),envCell 1 (cEnv c),envCell 0 (cEnv c),valA (cIt c),cA V 2] [kT V 0 0,kT V 0 1,dictKT (nthO V 0) (i_ab sh 2),dictKT (nthO V 0) (i_ab sh 3),dictKT (nthO V 0) (i_ab sh 4),kT V 0 5,kT V 0 6,dT V 0 6,qT V 1 0,qT V 1 1,qT V 1 2,eP V 3] [dI V 0 6,qI V 1 0,qI V 1 1] [] [dV V 0 0,dV V 0 1,dictVal (nthO V 0) (i_ab sh 2),dictVal (nthO V 0) (i_ab sh 3),dictVal (nthO V 0) (i_ab sh 4),dV V 0 5] [sQ V 3] []
theorem or_end (W : Wd) (O : (BB W).Ok) (sh : Bool) (m : Nat) (q : Lt) (hq : (S_or W sh m).P q) (hl : (q.i 2) ≤ 0) : At (S_or W sh m) 100 q := by
  refine tri_f O (stdH _) [] 2000 100 (hs := [0,2,0,2,6,0,2,2,2,1,0]) (is := [2,3,3])
    (fun (ρ : Rho) => ob hl <| fin (S_or W sh m) q (lt [] [(q.t 7),(q.t 11)] [(q.i 0)] [] [(q.v 2)] [(q.l 0)] []) ((hq.fin hl)) :) ?_
  induction W, sh using y_1 <;> kernel_rfl
theorem or_s (W : Wd) (O : (BB W).Ok) (sh : Bool) (m : Nat) (ih : (S_or W sh m).Ok) (q : Lt) (hq : (S_or W sh (m + 1)).P q) (hl : 0 < (q.i 2)) : At (S_or W sh (m + 1)) 100 q := by
  refine tri_f O (stdH _) [⟨(S_or W sh m).con ih,(on_or sh),fun _ => false,[],[]⟩] 2000 100 (hs := hx 53 0x40030415420000010400ec0840010005020000010411041040c1042082082082046080080) (is := [0,0,0])
    (fun (ρ : Rho) => let z0 := insV (q.l 0) (Int.toNat (q.i 1 - Int.fmod (q.i 0) (q.i 1 + 1))) (Value.int (q.i 1) (ρ.n 0)); let z1 : Int := Int.fdiv (q.i 0) (q.i 1 + 1); ob hl <| ob hq.ne <| ob hq.ins <| ob hq.dv <| ob (A := (OrP (q.i 1 + 1 : Int) (q.i 2 - 1 : Int) z1 z0 m)) (hq.next hl _) <| fun he0 : OrR (q.i 1 + 1 : Int) (q.i 2 - 1 : Int) z1 z0 ((ρ.2 0).i 0) ((ρ.2 0).l 0) => fin (S_or W sh (m + 1)) q (lt [] [(ρ.2 0).2 0,(ρ.2 0).2 1] [(ρ.2 0).i 0] [] [(ρ.2 0).5 0] [(ρ.2 0).6 0] []) ((hq.step hl he0)) :) ?_
  induction W, sh using y_1 <;> kernel_rfl
theorem or_ok (W : Wd) (O : (BB W).Ok) (sh : Bool) : ∀ m, (S_or W sh m).Ok
  | 0 => fun q hq => or_end W O sh 0 q hq (hq.m0)
  | m + 1 => fun q hq => by
    by_cases hl : (q.i 2) ≤ 0
    · exact or_end W O sh (m + 1) q hq hl
    · exact or_s W O sh m (or_ok W O sh m) q hq (by lia)
noncomputable def S_pl (W : Wd) (m : Nat) : Sp (BB W) :=
  let B := BB W
  { d := 100
    c := fun q => .compLoop (exOf (lwS W.w [15])) 0 (.ref (q.a 2)) (.ref (q.a 3)) (compEnv (exOf (lwS W.w [15])) (lwEnv W.w (q.a 1) 0 0 0 0 (q.a 4) 0 0 0) (q.a 0) [(s_order, (q.a 4))])
    P := fun q => PlP (q.i 0) (q.i 1) (q.l 1) (q.l 0) m
    pre := fun q => [((q.a 0),dictO [kv B s_k (q.t 0) (q.v 0)] 1),((q.a 2),fieldsO tRG [(.int (q.i 0) (q.t 1)),(.int (q.i 1) (q.t 2)),(.int 1 (q.t 3))]),((q.a 3),listO (q.l 0) (q.t 4)),((q.a 4),cellO (.ref (q.a 5))),((q.a 5),listO (q.l 1) (q.t 5))]
    R := fun q e => PlR (q.i 0) (q.i 1) (q.l 1) (q.l 0) (e.l 0)
    res := fun q e => .ok .next
    out := fun q e => [((q.a 0),dictO [kv B s_k (q.t 0) (e.v 0)] 1),((q.a 3),listO (e.l 0) (e.t 0)),((q.a 4),cellO (.ref (q.a 5))),((q.a 5),listO (q.l 1) (q.t 5))] }
noncomputable def on_pl : Code → View → Lt := fun c V => lt [(cEnv c).locals,envFrame (cEnv c),valA (cIt c),valA (cAcc c),envCell 0 (cEnv c),cA V 3] [kT V 0 0,qT V 1 0,qT V 1 1,qT V 1 2,eP V 2,eP V 4] [qI V 1 0,qI V 1 1] [] [dV V 0 0] [sQ V 2,sQ V 4] []
noncomputable def S_plf (W : Wd) (m : Nat) : Sp (BB W) :=
  let B := BB W
  { d := 100
    c := fun q => .compLoop (exOf (lwS W.w [15])) 0 (.ref (q.a 2)) (.ref (q.a 3)) (compEnv (exOf (lwS W.w [15])) (lwEnv W.w (q.a 1) 0 0 0 0 (q.a 4) 0 0 0) (q.a 0) [(s_order, (q.a 4))])
    P := fun q => PlP (q.i 0) (q.i 1) (q.l 1) (q.l 0) m ∧ 0 < (q.i 1)
    pre := fun q => [((q.a 0),dictO [] 0),((q.a 2),fieldsO tRG [(.int (q.i 0) (q.t 0)),(.int (q.i 1) (q.t 1)),(.int 1 (q.t 2))]),((q.a 3),listO (q.l 0) (q.t 3)),((q.a 4),cellO (.ref (q.a 5))),((q.a 5),listO (q.l 1) (q.t 4))]
    R := fun q e => PlR (q.i 0) (q.i 1) (q.l 1) (q.l 0) (e.l 0)
    res := fun q e => .ok .next
    out := fun q e => [((q.a 0),dictO [kv B s_k (e.t 0) (e.v 0)] 1),((q.a 3),listO (e.l 0) (e.t 1)),((q.a 4),cellO (.ref (q.a 5))),((q.a 5),listO (q.l 1) (q.t 4))] }
noncomputable def on_plf : Code → View → Lt := fun c V => lt [(cEnv c).locals,envFrame (cEnv c),valA (cIt c),valA (cAcc c),envCell 0 (cEnv c),cA V 3] [qT V 1 0,qT V 1 1,qT V 1 2,eP V 2,eP V 4] [qI V 1 0,qI V 1 1] [] [] [sQ V 2,sQ V 4] []
noncomputable def S_pla (W : Wd) (m : Nat) : Sp (BB W) := Sp.start (S_plf W m)
noncomputable abbrev on_pla := on_plf
theorem pl_end (W : Wd) (O : (BB W).Ok) (m : Nat) (q : Lt) (hq : (S_pl W m).P q) (hl : (q.i 1) ≤ 0) : At (S_pl W m) 100 q := by
  refine tri_f O (stdH _) [] 2000 100 (hs := [0,2,0,2,6,0,2,2,2,1]) (is := [2,3,3,3])
    (fun (ρ : Rho) => ob hl <| fin (S_pl W m) q (lt [] [(q.t 4)] [] [] [(q.v 0)] [(q.l 0)] []) ((hq.fin hl)) :) ?_
  induction W using y_0 <;> kernel_rfl
theorem pl_s (W : Wd) (O : (BB W).Ok) (m : Nat) (ih : (S_pl W m).Ok) (q : Lt) (hq : (S_pl W (m + 1)).P q) (hl : 0 < (q.i 1)) : At (S_pl W (m + 1)) 100 q := by
  refine tri_f O (stdH _) [U (S_pl W m) ih on_pl] 2000 100 (hs := hx 40 0x500309e08300012f085001145145101042082082082046080080) (is := [0,0,0,0])
    (fun (ρ : Rho) => let z0 := q.l 0++[Value.int (↑(idxI (q.l 1) (q.i 0))) (ρ.n 2)]; ob (A := (rngD (It.mk (Value.ref (q.a 2)) (q.i 0) (q.i 1) (1 : Int) #[]) (1))) (hl) <| ob (A := (AllInt (q.l 1) ∧ List.any (q.l 1) (isI (q.i 0)) = true ∧ List.length (q.l 1) ≤ sizeLine)) (hq.ix hl) <| ob (A := (List.length (q.l 0) ≤ sizeLine)) (hq.ob) <| ob (A := (PlP (q.i 0 + 1 : Int) (q.i 1 - 1 : Int) (q.l 1) z0 m)) (hq.next hl) <| fun he0 : PlR (q.i 0 + 1 : Int) (q.i 1 - 1 : Int) (q.l 1) z0 ((ρ.2 0).l 0) => fin (S_pl W (m + 1)) q (lt [] [(ρ.2 0).2 0] [] [] [(ρ.2 0).5 0] [(ρ.2 0).6 0] []) ((hq.step hl he0)) :) ?_
  induction W using y_0 <;> kernel_rfl
theorem pl_ok (W : Wd) (O : (BB W).Ok) : ∀ m, (S_pl W m).Ok
  | 0 => fun q hq => pl_end W O 0 q hq (hq.m0)
  | m + 1 => fun q hq => by
    by_cases hl : (q.i 1) ≤ 0
    · exact pl_end W O (m + 1) q hq hl
    · exact pl_s W O  m (pl_ok W O m) q hq (by first | lia | exact hq.2)
theorem plf_s (W : Wd) (O : (BB W).Ok) (m : Nat) (ih : (S_pl W m).Ok) (q : Lt) (hq : (S_plf W (m + 1)).P q) (hl : 0 < (q.i 1)) : At (S_plf W (m + 1)) 100 q := by
  refine tri_f O (stdH _) [U (S_pl W m) ih on_pl] 2000 100 (hs := hx 40 0x500309e08300012f085001145145101042082082082046080080) (is := [0,0,0,0])
    (fun (ρ : Rho) => let z0 := q.l 0++[Value.int (↑(idxI (q.l 1) (q.i 0))) (ρ.n 2)]; ob (A := (rngD (It.mk (Value.ref (q.a 2)) (q.i 0) (q.i 1) (1 : Int) #[]) (1))) (hl) <| ob (A := (AllInt (q.l 1) ∧ List.any (q.l 1) (isI (q.i 0)) = true ∧ List.length (q.l 1) ≤ sizeLine)) (hq.1.ix hl) <| ob (A := (List.length (q.l 0) ≤ sizeLine)) (hq.1.ob) <| ob (A := (PlP (q.i 0 + 1 : Int) (q.i 1 - 1 : Int) (q.l 1) z0 m)) (hq.1.next hl) <| fun he0 : PlR (q.i 0 + 1 : Int) (q.i 1 - 1 : Int) (q.l 1) z0 ((ρ.2 0).l 0) => fin (S_plf W (m + 1)) q (lt [] [ρ.1 1,(ρ.2 0).2 0] [] [] [(ρ.2 0).5 0] [(ρ.2 0).6 0] []) ((hq.1.step hl he0)) :) ?_
  induction W using y_0 <;> kernel_rfl
theorem plf_ok (W : Wd) (O : (BB W).Ok) (m : Nat) : (S_plf W (m + 1)).Ok := fun q hq => by
  exact plf_s W O  m (pl_ok W O m) q hq (by first | lia | exact hq.2)
theorem pla_true (W : Wd) (O : (BB W).Ok) (m : Nat) (q : Lt) (hq : (S_pla W (m + 1)).P q) (hb : W.b2 = true) : At (S_pla W (m + 1)) 100 q := by
  refine tri_f O (stdH _) [U (S_plf W (m + 1)) (plf_ok W O m) on_plf] 2000 100 (hs := [0,3,0,5,0,0,0,0,0]) (is := [0,0,0,0])
    (fun (ρ : Rho) => ob hq <| fun he0 : PlR (q.i 0) (q.i 1) (q.l 1) (q.l 0) ((ρ.2 0).l 0) => fin (S_pla W (m + 1)) q (lt [] [(ρ.2 0).2 0,(ρ.2 0).2 1] [] [] [(ρ.2 0).5 0] [(ρ.2 0).6 0] []) (he0) :) ?_
  induction W, hb using y_true <;> kernel_rfl
theorem pla_false (W : Wd) (O : (BB W).Ok) (m : Nat) (q : Lt) (hq : (S_pla W (m + 1)).P q) (hb : W.b2 = false) : At (S_pla W (m + 1)) 100 q := by
  refine tri_f O (stdH _) [U (S_plf W (m + 1)) (plf_ok W O m) on_plf] 2000 100 (hs := hx 15 0x1400c2002002080) (is := [0,0,0,0])
    (fun (ρ : Rho) => ob hq <| fun he0 : PlR (q.i 0) (q.i 1) (q.l 1) (q.l 0) ((ρ.2 0).l 0) => fin (S_pla W (m + 1)) q (lt [] [(ρ.2 0).2 0,(ρ.2 0).2 1] [] [] [(ρ.2 0).5 0] [(ρ.2 0).6 0] []) (he0) :) ?_
  induction W, hb using y_false <;> kernel_rfl
theorem pla_ok (W : Wd) (O : (BB W).Ok) (m : Nat) : (S_pla W (m + 1)).Ok := fun q hq => by
  cases hb : W.b2 with
  | true => exact pla_true W O m q hq hb
  | false => exact pla_false W O m q hq hb
end Mine
end
section
namespace Mine
open PySem PySem.Spec PySem.Calls PyProof.Rows PySem.W PySem.W.X PySem.Builtin PySem.Builtin.Str PySem.Builtin.Int PySem.StrLaws
structure LsP (i : Int) (ys : List Value) (m : Nat) : Prop where
  i0 : 0 ≤ i
  im : (ys.length : Int) ≤ i + m
  il : i ≤ ys.length
  yl : ys.length ≤ 100
theorem LsP.next {i : Int} {ys : List Value} {m : Nat} (h : LsP i ys (m + 1)) (hi : i.toNat < ys.length) : LsP (i + 1) ys m := by
  have := h.i0; have := h.im; exact ⟨by lia, by lia, by lia, h.yl⟩
theorem drop_item {ys : List Value} {i : Int} (h0 : 0 ≤ i) (hi : i.toNat < ys.length) : ys.drop i.toNat = itemAt ys i.toNat :: ys.drop (i + 1).toNat := by
  have h3 := itemAt_eq hi
  rw [List.getElem?_eq_getElem hi] at h3
  rw [List.drop_eq_getElem_cons hi, Option.some.inj h3, show (i + 1).toNat = i.toNat + 1 by lia]
noncomputable def cntB (p : Int → Bool) (ys : List Value) : Nat := (ys.map shI).countP p
structure GiP (i : Int) (ys xs : List Value) (m : Nat) : Prop where
  ls : LsP i ys m
  ya : AllInt ys
  xl : xs.length + ys.length ≤ 500 + i.toNat
structure GiR (p : Int → Bool) (i : Int) (ys xs xs' : List Value) : Prop where
  n : xs'.length = xs.length + cntB p (ys.drop i.toNat)
section
variable {p : Int → Bool} {i : Int} {ys xs xs' : List Value} {m : Nat}
theorem GiP.m0 (h : GiP i ys xs 0) : ys.length ≤ i.toNat := by have := h.ls.im; have := h.ls.i0; lia
theorem GiP.fin (h : GiP i ys xs m) (hi : ys.length ≤ i.toNat) : GiR p i ys xs xs := ⟨by rw [List.drop_eq_nil_of_le hi]; simp [cntB]⟩
theorem GiP.item (h : GiP i ys xs m) (hi : i.toNat < ys.length) : itemAt ys i.toNat = .int (shI (itemAt ys i.toNat)) (shT (itemAt ys i.toNat)) ∧ i.toNat < ys.length := ⟨item_int h.ya hi, hi⟩
theorem GiP.ob (h : GiP i ys xs m) : xs.length ≤ sizeLine := by have := h.xl; have := h.ls.il; have := h.ls.i0; have := h.ls.yl; have := line1000; lia
theorem GiP.next (h : GiP i ys xs (m + 1)) (hi : i.toNat < ys.length) {v : Value} : GiP (i + 1) ys (xs ++ [v]) m := by
  have := h.xl; have := h.ls.i0
  exact ⟨h.ls.next hi, h.ya, by simp; lia⟩
theorem GiP.nextf (h : GiP i ys xs (m + 1)) (hi : i.toNat < ys.length) : GiP (i + 1) ys xs m := by
  have := h.xl; have := h.ls.i0
  exact ⟨h.ls.next hi, h.ya, by lia⟩
theorem GiP.rt (h : GiP i ys xs (m + 1)) (hi : i.toNat < ys.length) (hb : p (shI (itemAt ys i.toNat)) = true) {v : Value} (r : GiR p (i + 1) ys (xs ++ [v]) xs') : GiR p i ys xs xs' := by
  have e := r.n
  refine ⟨?_⟩
  rw [e, drop_item h.ls.i0 hi]
  unfold cntB
  rw [List.map_cons, List.countP_cons, hb]
  simp; lia
theorem GiP.rf (h : GiP i ys xs (m + 1)) (hi : i.toNat < ys.length) (hb : p (shI (itemAt ys i.toNat)) = false) (r : GiR p (i + 1) ys xs xs') : GiR p i ys xs xs' := by
  have e := r.n
  refine ⟨?_⟩
  rw [e, drop_item h.ls.i0 hi]
  unfold cntB
  rw [List.map_cons, List.countP_cons, hb]
  simp
end
noncomputable def greL (f : Int → Int → Bool) (od pc : List Value) : Nat → Int → List Int
  | 0, _ => []
  | m + 1, k => (cntB (f k) (od.take (shI (itemAt pc k.toNat)).toNat) : Int) :: greL f od pc m (k + 1)
structure GrP (cur left : Int) (od pc xs : List Value) (m : Nat) : Prop where
  rg : RgP cur left m
  oa : AllInt od
  ol : od.length ≤ 100
  pa : AllInt pc
  pl : cur + left ≤ pc.length
  p1 : pc.length ≤ 100
  p0 : ∀ v ∈ pc, 0 ≤ shI v
  xa : AllInt xs
  xl : xs.length + left.toNat ≤ 1000
structure GrR (f : Int → Int → Bool) (cur left : Int) (od pc xs xs' : List Value) : Prop where
  xa : AllInt xs'
  xm : xs'.map shI = xs.map shI ++ greL f od pc left.toNat cur
section
variable {f : Int → Int → Bool} {cur left : Int} {od pc xs xs' : List Value} {m : Nat}
theorem GrP.m0 (h : GrP cur left od pc xs 0) : left ≤ 0 := by have := h.rg.lm; lia
theorem GrP.fin (h : GrP cur left od pc xs m) (h0 : left ≤ 0) : GrR f cur left od pc xs xs := ⟨h.xa, by rw [show left.toNat = 0 by lia]; simp [greL]⟩
theorem GrP.g (h : GrP cur left od pc xs m) (h0 : 0 < left) : (0 ≤ cur ∧ cur.toNat < pc.length ∧ pc.length ≤ sizeLine) ∧ itemAt pc cur.toNat = .int (shI (itemAt pc cur.toNat)) (shT (itemAt pc cur.toNat)) := by
  have := h.rg.c0; have := h.pl; have := h.p1
  exact get_ob h.pa h.rg.c0 (by lia) (by lia)
theorem GrP.sl (h : GrP cur left od pc xs m) (h0 : 0 < left) : nonneg (ptI none) ∧ nonneg (ptI (some (shI (itemAt pc cur.toNat), shT (itemAt pc cur.toNat)))) ∧ od.length ≤ sizeLine := by
  have := h.rg.c0; have := h.pl; have := h.ol; have := line1000
  exact ⟨trivial, h.p0 _ (item_mem (by lia)), by lia⟩
theorem GrP.gi (h : GrP cur left od pc xs m) (h0 : 0 < left) : GiP 0 (partL (ptI none) (ptI (some (shI (itemAt pc cur.toNat), shT (itemAt pc cur.toNat)))) od) [] 101 := by
  have := h.ol
  have e : (partL (ptI none) (ptI (some (shI (itemAt pc cur.toNat), shT (itemAt pc cur.toNat)))) od).length ≤ od.length := by
    show (od.take _).length ≤ _
    rw [List.length_take]; lia
  exact ⟨⟨by lia, by lia, by lia, by lia⟩, fun v hv => h.oa v (List.mem_of_mem_take hv), by simp; lia⟩
theorem GrP.ob (h : GrP cur left od pc xs m) : xs.length ≤ sizeLine := by have := h.xl; have := line1000; lia
theorem GrP.len (h : GrP cur left od pc xs m) {n : Nat} {ys : List Value} (hy : ys = []) {p : Int → Bool} {zs : List Value} (r : GiR p 0 (partL (ptI none) (ptI (some (shI (itemAt pc n), shT (itemAt pc n)))) od) ys zs) : zs.length ≤ sizeLine := by
  have e := r.n
  subst hy
  have := h.ol; have := line1000
  have : cntB p ((partL (ptI none) (ptI (some (shI (itemAt pc n), shT (itemAt pc n)))) od).drop (0 : Int).toNat) ≤ od.length := by
    unfold cntB
    refine Nat.le_trans List.countP_le_length ?_
    rw [List.length_map, List.length_drop]
    show (od.take _).length - 0 ≤ _
    rw [List.length_take]; lia
  rw [e, List.length_nil]; lia
theorem GrP.next (h : GrP cur left od pc xs (m + 1)) (h0 : 0 < left) {i : Int} {t : Tok} : GrP (cur + 1) (left - 1) od pc (xs ++ [.int i t]) m := by
  have := h.xl; have := h.pl
  exact ⟨h.rg.next h0, h.oa, h.ol, h.pa, by lia, h.p1, h.p0, h.xa.app (AllInt.one _ _), by simp; lia⟩
theorem GrP.step (h : GrP cur left od pc xs (m + 1)) (h0 : 0 < left) {zs : List Value} {t : Tok} (r1 : GiR (f cur) 0 (partL (ptI none) (ptI (some (shI (itemAt pc cur.toNat), shT (itemAt pc cur.toNat)))) od) [] zs) (r : GrR f (cur + 1) (left - 1) od pc (xs ++ [.int (zs.length : Int) t]) xs') : GrR f cur left od pc xs xs' := by
  refine ⟨r.xa, ?_⟩
  rw [r.xm, show left.toNat = (left - 1).toNat + 1 by lia, greL, r1.n]
  simp [shI]
  rfl
end
end Mine
end
section

namespace Mine
open PySem PySem.Spec PySem.Calls PyProof.Rows PySem.W PySem.W.X PySem.Builtin.Str
noncomputable def S_gri (W : Wd) (m : Nat) : Sp (BB W) :=
  let B := BB W
  { d := 100
    c := fun q => .compLoop (kids (exOf (lwS W.w [17])) [0, 1]) 0 (.ref (q.a 2)) (.ref (q.a 3)) (compEnv (kids (exOf (lwS W.w [17])) [0, 1]) (compEnv (exOf (lwS W.w [17])) (lwEnv W.w (q.a 1) 0 0 0 0 0 0 0 0) 0 []) (q.a 0) [(s_k, (q.a 4))])
    P := fun q => GiP (q.i 1) (q.l 0) (q.l 1) m
    pre := fun q => [((q.a 0),dictO [kv B s_j (q.t 0) (q.v 0)] 1),((q.a 4),cellO (.int (q.i 0) (q.t 1))),((q.a 2),fieldsO tLI [(.ref (q.a 5)),(.int (q.i 1) (q.t 2))]),((q.a 5),listO (q.l 0) (q.t 3)),((q.a 3),listO (q.l 1) (q.t 4))]
    R := fun q e => GiR (fun j => decide (j > (q.i 0))) (q.i 1) (q.l 0) (q.l 1) (e.l 0)
    res := fun q e => .ok .next
    out := fun q e => [((q.a 0),dictO [kv B s_j (q.t 0) (e.v 0)] 1),((q.a 4),cellO (.int (q.i 0) (q.t 1))),((q.a 5),listO (q.l 0) (q.t 3)),((q.a 3),listO (e.l 0) (e.t 0))] }
noncomputable def on_gri : Code → View → Lt := fun c V => lt [(cEnv c).locals,envFrame (cEnv c),valA (cIt c),valA (cAcc c),envCell 0 (cEnv c),valA (nthV (sQ V 2) 0)] [kT V 0 0,cT V 1,qT V 2 1,eP V 3,eP V 4] [valI (cellV (nthO V 1)),qI V 2 1] [] [dV V 0 0] [sQ V 3,sQ V 4] []
noncomputable def S_grif (W : Wd) (m : Nat) : Sp (BB W) :=
  let B := BB W
  { d := 100
    c := fun q => .compLoop (kids (exOf (lwS W.w [17])) [0, 1]) 0 (.ref (q.a 2)) (.ref (q.a 3)) (compEnv (kids (exOf (lwS W.w [17])) [0, 1]) (compEnv (exOf (lwS W.w [17])) (lwEnv W.w (q.a 1) 0 0 0 0 0 0 0 0) 0 []) (q.a 0) [(s_k, (q.a 4))])
    P := fun q => GiP (q.i 1) (q.l 0) (q.l 1) m ∧ (q.i 1).toNat < (q.l 0).length
    pre := fun q => [((q.a 0),dictO [] 0),((q.a 4),cellO (.int (q.i 0) (q.t 0))),((q.a 2),fieldsO tLI [(.ref (q.a 5)),(.int (q.i 1) (q.t 1))]),((q.a 5),listO (q.l 0) (q.t 2)),((q.a 3),listO (q.l 1) (q.t 3))]
    R := fun q e => GiR (fun j => decide (j > (q.i 0))) (q.i 1) (q.l 0) (q.l 1) (e.l 0)
    res := fun q e => .ok .next
    out := fun q e => [((q.a 0),dictO [kv B s_j (e.t 0) (e.v 0)] 1),((q.a 4),cellO (.int (q.i 0) (q.t 0))),((q.a 5),listO (q.l 0) (q.t 2)),((q.a 3),listO (e.l 0) (e.t 1))] }
noncomputable def on_grif : Code → View → Lt := fun c V => lt [(cEnv c).locals,envFrame (cEnv c),valA (cIt c),valA (cAcc c),envCell 0 (cEnv c),valA (nthV (sQ V 2) 0)] [cT V 1,qT V 2 1,eP V 3,eP V 4] [valI (cellV (nthO V 1)),qI V 2 1] [] [] [sQ V 3,sQ V 4] []
noncomputable def S_gria (W : Wd) (m : Nat) : Sp (BB W) := Sp.start (S_grif W m)
noncomputable abbrev on_gria := on_grif
noncomputable def S_grie (W : Wd) (m : Nat) : Sp (BB W) :=
  let B := BB W
  { d := 100
    c := fun q => .compStart (kids (exOf (lwS W.w [17])) [0, 1]) 0 (.ref (q.a 2)) (.ref (q.a 3)) (compEnv (kids (exOf (lwS W.w [17])) [0, 1]) (compEnv (exOf (lwS W.w [17])) (lwEnv W.w (q.a 1) 0 0 0 0 0 0 0 0) 0 []) (q.a 0) [(s_k, (q.a 4))])
    P := fun q => GiP (q.i 1) (q.l 0) (q.l 1) m ∧ (q.l 0).length ≤ (q.i 1).toNat
    pre := fun q => [((q.a 0),dictO [] 0),((q.a 4),cellO (.int (q.i 0) (q.t 0))),((q.a 2),fieldsO tLI [(.ref (q.a 5)),(.int (q.i 1) (q.t 1))]),((q.a 5),listO (q.l 0) (q.t 2)),((q.a 3),listO (q.l 1) (q.t 3))]
    R := fun q e => GiR (fun j => decide (j > (q.i 0))) (q.i 1) (q.l 0) (q.l 1) (e.l 0)
    res := fun q e => .ok .next
    out := fun q e => [((q.a 0),dictO [] 0),((q.a 4),cellO (.int (q.i 0) (q.t 0))),((q.a 5),listO (q.l 0) (q.t 2)),((q.a 3),listO (e.l 0) (e.t 0))] }
noncomputable def on_grie : Code → View → Lt := fun c V => lt [(cEnv c).locals,envFrame (cEnv c),valA (cIt c),valA (cAcc c),envCell 0 (cEnv c),valA (nthV (sQ V 2) 0)] [cT V 1,qT V 2 1,eP V 3,eP V 4] [valI (cellV (nthO V 1)),qI V 2 1] [] [] [sQ V 3,sQ V 4] []
theorem gri_end (W : Wd) (O : (BB W).Ok) (m : Nat) (q : Lt) (hq : (S_gri W m).P q) (hl : ((q.l 0)).length ≤ ((q.i 1)).toNat) : At (S_gri W m) 100 q := by
  refine tri_f O (stdH _) [] 2000 100 (hs := hx 12 0x430c40c30050c00c0) (is := [2,2,3,3])
    (fun (ρ : Rho) => ob hl <| fin (S_gri W m) q (lt [] [(q.t 4)] [] [] [(q.v 0)] [(q.l 1)] []) ((hq.fin hl)) :) ?_
  induction W using y_0 <;> kernel_rfl
theorem gri_t (W : Wd) (O : (BB W).Ok) (m : Nat) (ih : (S_gri W m).Ok) (q : Lt) (hq : (S_gri W (m + 1)).P q) (hl : ((q.i 1)).toNat < ((q.l 0)).length) (hb : (shI (itemAt (q.l 0) (q.i 1).toNat)) > (q.i 0)) : At (S_gri W (m + 1)) 100 q := by
  refine tri_f O (stdH _) [U (S_gri W m) ih on_gri] 2000 100 (hs := hx 32 0x500311e0850010820020410430c40c30850c00c0) (is := [0,0,0,0])
    (fun (ρ : Rho) => let z0 := itemAt (q.l 0) ((q.i 1).toNat); let z1 := itemAt (q.l 0) (Int.toNat (q.i 1)); ob (A := (risD (It.mk (Value.ref (q.a 2)) (q.i 1) (0 : Int) (0 : Int) (Array.mk (q.l 0))) (2))) (hq.item hl) <| ob (A := (shI z0 > q.i 0)) (hb) <| ob (A := (List.length (q.l 1) ≤ sizeLine)) (hq.ob) <| ob (A := (GiP (q.i 1 + 1 : Int) (q.l 0) (q.l 1++[Value.int (shI z0) (shT z0)]) m)) (hq.next hl) <| fun he0 : GiR (fun j => decide (j > (q.i 0))) (q.i 1 + 1 : Int) (q.l 0) (q.l 1++[Value.int (shI z1) (shT z1)]) ((ρ.2 0).l 0) => fin (S_gri W (m + 1)) q (lt [] [(ρ.2 0).2 0] [] [] [(ρ.2 0).5 0] [(ρ.2 0).6 0] []) ((hq.rt hl (decide_eq_true hb) he0)) :) ?_
  induction W using y_0 <;> kernel_rfl
theorem gri_f (W : Wd) (O : (BB W).Ok) (m : Nat) (ih : (S_gri W m).Ok) (q : Lt) (hq : (S_gri W (m + 1)).P q) (hl : ((q.i 1)).toNat < ((q.l 0)).length) (hb : ¬ (shI (itemAt (q.l 0) (q.i 1).toNat)) > (q.i 0)) : At (S_gri W (m + 1)) 100 q := by
  refine tri_f O (stdH _) [U (S_gri W m) ih on_gri] 2000 100 (hs := hx 26 0x50030c20020410430c40c30850c00c0) (is := [0,0,0,0])
    (fun (ρ : Rho) => ob (hq.item hl) <| ob hb <| ob (hq.nextf hl) <| fun he0 : GiR (fun j => decide (j > (q.i 0))) (q.i 1 + 1 : Int) (q.l 0) (q.l 1) ((ρ.2 0).l 0) => fin (S_gri W (m + 1)) q (lt [] [(ρ.2 0).2 0] [] [] [(ρ.2 0).5 0] [(ρ.2 0).6 0] []) ((hq.rf hl (decide_eq_false hb) he0)) :) ?_
  induction W using y_0 <;> kernel_rfl
theorem gri_ok (W : Wd) (O : (BB W).Ok) : ∀ m, (S_gri W m).Ok
  | 0 => fun q hq => gri_end W O 0 q hq (hq.m0)
  | m + 1 => fun q hq => by
    by_cases hl : ((q.l 0)).length ≤ ((q.i 1)).toNat
    · exact gri_end W O (m + 1) q hq hl
    · by_cases hb : (shI (itemAt (q.l 0) (q.i 1).toNat)) > (q.i 0)
      · exact gri_t W O m (gri_ok W O m) q hq (by lia) hb
      · exact gri_f W O m (gri_ok W O m) q hq (by lia) hb
theorem grif_t (W : Wd) (O : (BB W).Ok) (m : Nat) (ih : (S_gri W m).Ok) (q : Lt) (hq : (S_grif W (m + 1)).P q) (hl : ((q.i 1)).toNat < ((q.l 0)).length) (hb : (shI (itemAt (q.l 0) (q.i 1).toNat)) > (q.i 0)) : At (S_grif W (m + 1)) 100 q := by
  refine tri_f O (stdH _) [U (S_gri W m) ih on_gri] 2000 100 (hs := hx 32 0x500311e0850010820020410430c40c30850c00c0) (is := [0,0,0,0])
    (fun (ρ : Rho) => let z0 := itemAt (q.l 0) ((q.i 1).toNat); let z1 := itemAt (q.l 0) (Int.toNat (q.i 1)); ob (A := (risD (It.mk (Value.ref (q.a 2)) (q.i 1) (0 : Int) (0 : Int) (Array.mk (q.l 0))) (2))) (hq.1.item hl) <| ob (A := (shI z0 > q.i 0)) (hb) <| ob (A := (List.length (q.l 1) ≤ sizeLine)) (hq.1.ob) <| ob (A := (GiP (q.i 1 + 1 : Int) (q.l 0) (q.l 1++[Value.int (shI z0) (shT z0)]) m)) (hq.1.next hl) <| fun he0 : GiR (fun j => decide (j > (q.i 0))) (q.i 1 + 1 : Int) (q.l 0) (q.l 1++[Value.int (shI z1) (shT z1)]) ((ρ.2 0).l 0) => fin (S_grif W (m + 1)) q (lt [] [ρ.1 0,(ρ.2 0).2 0] [] [] [(ρ.2 0).5 0] [(ρ.2 0).6 0] []) ((hq.1.rt hl (decide_eq_true hb) he0)) :) ?_
  induction W using y_0 <;> kernel_rfl
theorem grif_f (W : Wd) (O : (BB W).Ok) (m : Nat) (ih : (S_gri W m).Ok) (q : Lt) (hq : (S_grif W (m + 1)).P q) (hl : ((q.i 1)).toNat < ((q.l 0)).length) (hb : ¬ (shI (itemAt (q.l 0) (q.i 1).toNat)) > (q.i 0)) : At (S_grif W (m + 1)) 100 q := by
  refine tri_f O (stdH _) [U (S_gri W m) ih on_gri] 2000 100 (hs := hx 26 0x50030c20020410430c40c30850c00c0) (is := [0,0,0,0])
    (fun (ρ : Rho) => ob (hq.1.item hl) <| ob hb <| ob (hq.1.nextf hl) <| fun he0 : GiR (fun j => decide (j > (q.i 0))) (q.i 1 + 1 : Int) (q.l 0) (q.l 1) ((ρ.2 0).l 0) => fin (S_grif W (m + 1)) q (lt [] [ρ.1 0,(ρ.2 0).2 0] [] [] [(ρ.2 0).5 0] [(ρ.2 0).6 0] []) ((hq.1.rf hl (decide_eq_false hb) he0)) :) ?_
  induction W using y_0 <;> kernel_rfl
theorem grif_ok (W : Wd) (O : (BB W).Ok) (m : Nat) : (S_grif W (m + 1)).Ok := fun q hq => by
  by_cases hb : (shI (itemAt (q.l 0) (q.i 1).toNat)) > (q.i 0)
  · exact grif_t W O m (gri_ok W O m) q hq hq.2 hb
  · exact grif_f W O m (gri_ok W O m) q hq hq.2 hb
theorem gria_true (W : Wd) (O : (BB W).Ok) (m : Nat) (q : Lt) (hq : (S_gria W (m + 1)).P q) (hb : W.b2 = true) : At (S_gria W (m + 1)) 100 q := by
  refine tri_f O (stdH _) [U (S_grif W (m + 1)) (grif_ok W O m) on_grif] 2000 100 (hs := [0,3,0,5,0,0,0,0,0]) (is := [0,0,0,0])
    (fun (ρ : Rho) => ob hq <| fun he0 : GiR (fun j => decide (j > (q.i 0))) (q.i 1) (q.l 0) (q.l 1) ((ρ.2 0).l 0) => fin (S_gria W (m + 1)) q (lt [] [(ρ.2 0).2 0,(ρ.2 0).2 1] [] [] [(ρ.2 0).5 0] [(ρ.2 0).6 0] []) (he0) :) ?_
  induction W, hb using y_true <;> kernel_rfl
theorem gria_false (W : Wd) (O : (BB W).Ok) (m : Nat) (q : Lt) (hq : (S_gria W (m + 1)).P q) (hb : W.b2 = false) : At (S_gria W (m + 1)) 100 q := by
  refine tri_f O (stdH _) [U (S_grif W (m + 1)) (grif_ok W O m) on_grif] 2000 100 (hs := hx 15 0x1400c30030030c0) (is := [0,0,0,0])
    (fun (ρ : Rho) => ob hq <| fun he0 : GiR (fun j => decide (j > (q.i 0))) (q.i 1) (q.l 0) (q.l 1) ((ρ.2 0).l 0) => fin (S_gria W (m + 1)) q (lt [] [(ρ.2 0).2 0,(ρ.2 0).2 1] [] [] [(ρ.2 0).5 0] [(ρ.2 0).6 0] []) (he0) :) ?_
  induction W, hb using y_false <;> kernel_rfl
theorem gria_ok (W : Wd) (O : (BB W).Ok) (m : Nat) : (S_gria W (m + 1)).Ok := fun q hq => by
  cases hb : W.b2 with
  | true => exact gria_true W O m q hq hb
  | false => exact gria_false W O m q hq hb
theorem grie_true (W : Wd) (O : (BB W).Ok) (m : Nat) (q : Lt) (hq : (S_grie W (m + 1)).P q) (hb : W.b2 = true) : At (S_grie W (m + 1)) 100 q := by
  refine tri_f O (stdH _) [] 2000 100 (hs := hx 13 0x10c31030c0143003000) (is := [2,2,3,3])
    (fun (ρ : Rho) => ob hq.2 <| fin (S_grie W (m + 1)) q (lt [] [(q.t 3)] [] [] [] [(q.l 1)] []) ((hq.1.fin hq.2)) :) ?_
  induction W, hb using y_true <;> kernel_rfl
theorem grie_false (W : Wd) (O : (BB W).Ok) (m : Nat) (q : Lt) (hq : (S_grie W (m + 1)).P q) (hb : W.b2 = false) : At (S_grie W (m + 1)) 100 q := by
  refine tri_f O (stdH _) [] 2000 100 (hs := hx 19 0x10c31030c01430030030030030c0) (is := [2,2,3,3])
    (fun (ρ : Rho) => ob hq.2 <| fin (S_grie W (m + 1)) q (lt [] [(q.t 3)] [] [] [] [(q.l 1)] []) ((hq.1.fin hq.2)) :) ?_
  induction W, hb using y_false <;> kernel_rfl
theorem grie_ok (W : Wd) (O : (BB W).Ok) (m : Nat) : (S_grie W (m + 1)).Ok := fun q hq => by
  cases hb : W.b2 with
  | true => exact grie_true W O m q hq hb
  | false => exact grie_false W O m q hq hb
noncomputable def S_gr (W : Wd) (m : Nat) : Sp (BB W) :=
  let B := BB W
  let pr := fun q : Lt => [((q.a 0),dictO [] 0),((q.a 4),cellO (q.v 0)),((q.a 2),fieldsO tRG [(.int (q.i 0) (q.t 0)),(.int (q.i 1) (q.t 1)),(.int 1 (q.t 2))]),((q.a 3),listO (q.l 0) (q.t 3)),((q.a 5),cellO (.ref (q.a 7))),((q.a 7),listO (q.l 1) (q.t 4)),((q.a 6),cellO (.ref (q.a 8))),((q.a 8),listO (q.l 2) (q.t 5))]
  { d := 110
    c := fun q => .compLoop (exOf (lwS W.w [17])) 0 (.ref (q.a 2)) (.ref (q.a 3)) (compEnv (exOf (lwS W.w [17])) (lwEnv W.w (q.a 1) 0 0 0 0 0 0 0 0) (q.a 0) [(s_k, (q.a 4)), (s_places, (q.a 5)), (s_order, (q.a 6))])
    P := fun q => GrP (q.i 0) (q.i 1) (q.l 2) (q.l 1) (q.l 0) m
    pre := pr
    R := fun q e => GrR (fun k => fun j => decide (j > k)) (q.i 0) (q.i 1) (q.l 2) (q.l 1) (q.l 0) (e.l 0)
    res := fun q e => .ok .next
    out := fun q e => [((q.a 0),dictO [] 0),((q.a 4),cellO (e.v 0)),((q.a 3),listO (e.l 0) (e.t 0))]++(pr q).drop 4 }
noncomputable def on_gr : Code → View → Lt := fun c V => lt [(cEnv c).locals,envFrame (cEnv c),valA (cIt c),valA (cAcc c),envCell 0 (cEnv c),envCell 1 (cEnv c),envCell 2 (cEnv c),cA V 4,cA V 6] [qT V 2 0,qT V 2 1,qT V 2 2,eP V 3,eP V 5,eP V 7] [qI V 2 0,qI V 2 1] [] [cellV (nthO V 1)] [sQ V 3,sQ V 5,sQ V 7] []
noncomputable def S_grf (W : Wd) (m : Nat) : Sp (BB W) :=
  let B := BB W
  let pr := fun q : Lt => [((q.a 0),dictO [] 0),((q.a 4),⟨tCell,none,.cell none,#[]⟩),((q.a 2),fieldsO tRG [(.int (q.i 0) (q.t 0)),(.int (q.i 1) (q.t 1)),(.int 1 (q.t 2))]),((q.a 3),listO (q.l 0) (q.t 3)),((q.a 5),cellO (.ref (q.a 7))),((q.a 7),listO (q.l 1) (q.t 4)),((q.a 6),cellO (.ref (q.a 8))),((q.a 8),listO (q.l 2) (q.t 5))]
  { d := 110
    c := fun q => .compLoop (exOf (lwS W.w [17])) 0 (.ref (q.a 2)) (.ref (q.a 3)) (compEnv (exOf (lwS W.w [17])) (lwEnv W.w (q.a 1) 0 0 0 0 0 0 0 0) (q.a 0) [(s_k, (q.a 4)), (s_places, (q.a 5)), (s_order, (q.a 6))])
    P := fun q => GrP (q.i 0) (q.i 1) (q.l 2) (q.l 1) (q.l 0) m ∧ 0 < (q.i 1)
    pre := pr
    R := fun q e => GrR (fun k => fun j => decide (j > k)) (q.i 0) (q.i 1) (q.l 2) (q.l 1) (q.l 0) (e.l 0)
    res := fun q e => .ok .next
    out := fun q e => [((q.a 0),dictO [] 0),((q.a 4),cellO (e.v 0)),((q.a 3),listO (e.l 0) (e.t 0))]++(pr q).drop 4 }
noncomputable def on_grf : Code → View → Lt := fun c V => lt [(cEnv c).locals,envFrame (cEnv c),valA (cIt c),valA (cAcc c),envCell 0 (cEnv c),envCell 1 (cEnv c),envCell 2 (cEnv c),cA V 4,cA V 6] [qT V 2 0,qT V 2 1,qT V 2 2,eP V 3,eP V 5,eP V 7] [qI V 2 0,qI V 2 1] [] [] [sQ V 3,sQ V 5,sQ V 7] []
noncomputable def S_gra (W : Wd) (m : Nat) : Sp (BB W) := Sp.start (S_grf W m)
noncomputable abbrev on_gra := on_grf
theorem gr_end (W : Wd) (O : (BB W).Ok) (m : Nat) (q : Lt) (hq : (S_gr W m).P q) (hl : (q.i 1) ≤ 0) : At (S_gr W m) 110 q := by
  refine tri_f O (stdH _) [] 2000 110 (hs := [0,3,0,3,6,0,3,3,3,1]) (is := [2,2,3,3,3,3,3])
    (fun (ρ : Rho) => ob hl <| fin (S_gr W m) q (lt [] [(q.t 3)] [] [] [(q.v 0)] [(q.l 0)] []) ((hq.fin hl)) :) ?_
  induction W using y_0 <;> kernel_rfl
theorem gr_s (W : Wd) (O : (BB W).Ok) (m : Nat) (ih : (S_gr W m).Ok) (q : Lt) (hq : (S_gr W (m + 1)).P q) (hl : 0 < (q.i 1)) (hy : 0 < ((partL (ptI none) (ptI (some (shI (itemAt (q.l 1) ((q.i 0)).toNat), shT (itemAt (q.l 1) ((q.i 0)).toNat)))) (q.l 2))).length) : At (S_gr W (m + 1)) 110 q := by
  refine tri_f O (stdH _) [U (S_gria W (100 + 1)) (gria_ok W O 100) on_gria,U (S_gr W m) ih on_gr] 2000 110 (hs := hx 75 0x41041041011480431de088003742001041001045005003040040041008b822402492411600860061860851c00020830c30c30c30460c00c0) (is := [0,0,0,0,0,0,0])
    (fun (ρ : Rho) => let z0 := partL (ptI none) (ptI (some (shI (itemAt (q.l 1) ((q.i 0)).toNat),shT (itemAt (q.l 1) ((q.i 0)).toNat)))) (q.l 2); let z1 := itemAt (q.l 1) ((q.i 0).toNat); let z2 := q.l 0++[Value.int (↑(List.length ((ρ.2 0).l 0))) (ρ.n 6)]; ob (A := (rngD (It.mk (Value.ref (q.a 2)) (q.i 0) (q.i 1) (1 : Int) #[]) (1))) (hl) <| ob (A := (((0 : Int) ≤ q.i 0 ∧ (q.i 0).toNat < List.length (q.l 1) ∧ List.length (q.l 1) ≤ sizeLine) ∧ itemAt (q.l 1) ((q.i 0).toNat) = Value.int (shI z1) (shT z1))) (hq.g hl) <| ob (A := (nonneg (ptI none) ∧ nonneg (ptI (some (shI z1,shT z1))) ∧ List.length (q.l 2) ≤ sizeLine)) (hq.sl hl) <| ob (A := (GiP (0 : Int) (z0) ([] : List Value) (100 + 1) ∧ (0 : Int).toNat < (z0).length)) (⟨hq.gi hl,hy⟩) <| fun he0 : GiR (fun j => decide (j > (q.i 0))) (0 : Int) (z0) ([] : List Value) ((ρ.2 0).l 0) => ob (A := (List.length ((ρ.2 0).l 0) ≤ sizeLine)) (hq.len rfl he0) <| ob (A := (List.length (q.l 0) ≤ sizeLine)) (hq.ob) <| ob (A := (GrP (q.i 0 + 1 : Int) (q.i 1 - 1 : Int) (q.l 2) (q.l 1) z2 m)) (hq.next hl) <| fun he1 : GrR (fun k => fun j => decide (j > k)) (q.i 0 + 1 : Int) (q.i 1 - 1 : Int) (q.l 2) (q.l 1) z2 ((ρ.2 1).l 0) => fin (S_gr W (m + 1)) q (lt [] [(ρ.2 1).2 0] [] [] [(ρ.2 1).5 0] [(ρ.2 1).6 0] []) ((hq.step hl he0 he1)) :) ?_
  induction W using y_0 <;> kernel_rfl
theorem gr_e (W : Wd) (O : (BB W).Ok) (m : Nat) (ih : (S_gr W m).Ok) (q : Lt) (hq : (S_gr W (m + 1)).P q) (hl : 0 < (q.i 1)) (hy : ((partL (ptI none) (ptI (some (shI (itemAt (q.l 1) ((q.i 0)).toNat), shT (itemAt (q.l 1) ((q.i 0)).toNat)))) (q.l 2))).length ≤ 0) : At (S_gr W (m + 1)) 110 q := by
  refine tri_f O (stdH _) [U (S_grie W (100 + 1)) (grie_ok W O 100) on_grie,U (S_gr W m) ih on_gr] 2000 110 (hs := hx 73 0x41041041011480431de088003742001001045005003040040041008b822402492411600860061860851c00020830c30c30c30460c00c0) (is := [0,0,0,0,0,0,0])
    (fun (ρ : Rho) => let z0 := partL (ptI none) (ptI (some (shI (itemAt (q.l 1) ((q.i 0)).toNat),shT (itemAt (q.l 1) ((q.i 0)).toNat)))) (q.l 2); let z1 := itemAt (q.l 1) ((q.i 0).toNat); let z2 := q.l 0++[Value.int (↑(List.length ((ρ.2 0).l 0))) (ρ.n 6)]; ob (A := (rngD (It.mk (Value.ref (q.a 2)) (q.i 0) (q.i 1) (1 : Int) #[]) (1))) (hl) <| ob (A := (((0 : Int) ≤ q.i 0 ∧ (q.i 0).toNat < List.length (q.l 1) ∧ List.length (q.l 1) ≤ sizeLine) ∧ itemAt (q.l 1) ((q.i 0).toNat) = Value.int (shI z1) (shT z1))) (hq.g hl) <| ob (A := (nonneg (ptI none) ∧ nonneg (ptI (some (shI z1,shT z1))) ∧ List.length (q.l 2) ≤ sizeLine)) (hq.sl hl) <| ob (A := (GiP (0 : Int) (z0) ([] : List Value) (100 + 1) ∧ (z0).length ≤ (0 : Int).toNat)) (⟨hq.gi hl,hy⟩) <| fun he0 : GiR (fun j => decide (j > (q.i 0))) (0 : Int) (z0) ([] : List Value) ((ρ.2 0).l 0) => ob (A := (List.length ((ρ.2 0).l 0) ≤ sizeLine)) (hq.len rfl he0) <| ob (A := (List.length (q.l 0) ≤ sizeLine)) (hq.ob) <| ob (A := (GrP (q.i 0 + 1 : Int) (q.i 1 - 1 : Int) (q.l 2) (q.l 1) z2 m)) (hq.next hl) <| fun he1 : GrR (fun k => fun j => decide (j > k)) (q.i 0 + 1 : Int) (q.i 1 - 1 : Int) (q.l 2) (q.l 1) z2 ((ρ.2 1).l 0) => fin (S_gr W (m + 1)) q (lt [] [(ρ.2 1).2 0] [] [] [(ρ.2 1).5 0] [(ρ.2 1).6 0] []) ((hq.step hl he0 he1)) :) ?_
  induction W using y_0 <;> kernel_rfl
theorem gr_ok (W : Wd) (O : (BB W).Ok) : ∀ m, (S_gr W m).Ok
  | 0 => fun q hq => gr_end W O 0 q hq (hq.m0)
  | m + 1 => fun q hq => by
    by_cases hl : (q.i 1) ≤ 0
    · exact gr_end W O (m + 1) q hq hl
    · exact if hy : 0 < ((partL (ptI none) (ptI (some (shI (itemAt (q.l 1) ((q.i 0)).toNat), shT (itemAt (q.l 1) ((q.i 0)).toNat)))) (q.l 2))).length then gr_s W O m (gr_ok W O m) q hq (by lia) hy else gr_e W O m (gr_ok W O m) q hq (by lia) (Nat.le_of_not_lt hy)
theorem grf_s (W : Wd) (O : (BB W).Ok) (m : Nat) (ih : (S_gr W m).Ok) (q : Lt) (hq : (S_grf W (m + 1)).P q) (hl : 0 < (q.i 1)) (hy : 0 < ((partL (ptI none) (ptI (some (shI (itemAt (q.l 1) ((q.i 0)).toNat), shT (itemAt (q.l 1) ((q.i 0)).toNat)))) (q.l 2))).length) : At (S_grf W (m + 1)) 110 q := by
  refine tri_f O (stdH _) [U (S_gria W (100 + 1)) (gria_ok W O 100) on_gria,U (S_gr W m) ih on_gr] 2000 110 (hs := hx 75 0x41041041011480431de088003742001041001045005003040040041008b822402492411600860061860851c00020830c30c30c30460c00c0) (is := [0,0,0,0,0,0,0])
    (fun (ρ : Rho) => let z0 := partL (ptI none) (ptI (some (shI (itemAt (q.l 1) ((q.i 0)).toNat),shT (itemAt (q.l 1) ((q.i 0)).toNat)))) (q.l 2); let z1 := itemAt (q.l 1) ((q.i 0).toNat); let z2 := q.l 0++[Value.int (↑(List.length ((ρ.2 0).l 0))) (ρ.n 6)]; ob (A := (rngD (It.mk (Value.ref (q.a 2)) (q.i 0) (q.i 1) (1 : Int) #[]) (1))) (hl) <| ob (A := (((0 : Int) ≤ q.i 0 ∧ (q.i 0).toNat < List.length (q.l 1) ∧ List.length (q.l 1) ≤ sizeLine) ∧ itemAt (q.l 1) ((q.i 0).toNat) = Value.int (shI z1) (shT z1))) (hq.1.g hl) <| ob (A := (nonneg (ptI none) ∧ nonneg (ptI (some (shI z1,shT z1))) ∧ List.length (q.l 2) ≤ sizeLine)) (hq.1.sl hl) <| ob (A := (GiP (0 : Int) (z0) ([] : List Value) (100 + 1) ∧ (0 : Int).toNat < (z0).length)) (⟨hq.1.gi hl,hy⟩) <| fun he0 : GiR (fun j => decide (j > (q.i 0))) (0 : Int) (z0) ([] : List Value) ((ρ.2 0).l 0) => ob (A := (List.length ((ρ.2 0).l 0) ≤ sizeLine)) (hq.1.len rfl he0) <| ob (A := (List.length (q.l 0) ≤ sizeLine)) (hq.1.ob) <| ob (A := (GrP (q.i 0 + 1 : Int) (q.i 1 - 1 : Int) (q.l 2) (q.l 1) z2 m)) (hq.1.next hl) <| fun he1 : GrR (fun k => fun j => decide (j > k)) (q.i 0 + 1 : Int) (q.i 1 - 1 : Int) (q.l 2) (q.l 1) z2 ((ρ.2 1).l 0) => fin (S_grf W (m + 1)) q (lt [] [(ρ.2 1).2 0] [] [] [(ρ.2 1).5 0] [(ρ.2 1).6 0] []) ((hq.1.step hl he0 he1)) :) ?_
  induction W using y_0 <;> kernel_rfl
theorem grf_e (W : Wd) (O : (BB W).Ok) (m : Nat) (ih : (S_gr W m).Ok) (q : Lt) (hq : (S_grf W (m + 1)).P q) (hl : 0 < (q.i 1)) (hy : ((partL (ptI none) (ptI (some (shI (itemAt (q.l 1) ((q.i 0)).toNat), shT (itemAt (q.l 1) ((q.i 0)).toNat)))) (q.l 2))).length ≤ 0) : At (S_grf W (m + 1)) 110 q := by
  refine tri_f O (stdH _) [U (S_grie W (100 + 1)) (grie_ok W O 100) on_grie,U (S_gr W m) ih on_gr] 2000 110 (hs := hx 73 0x41041041011480431de088003742001001045005003040040041008b822402492411600860061860851c00020830c30c30c30460c00c0) (is := [0,0,0,0,0,0,0])
    (fun (ρ : Rho) => let z0 := partL (ptI none) (ptI (some (shI (itemAt (q.l 1) ((q.i 0)).toNat),shT (itemAt (q.l 1) ((q.i 0)).toNat)))) (q.l 2); let z1 := itemAt (q.l 1) ((q.i 0).toNat); let z2 := q.l 0++[Value.int (↑(List.length ((ρ.2 0).l 0))) (ρ.n 6)]; ob (A := (rngD (It.mk (Value.ref (q.a 2)) (q.i 0) (q.i 1) (1 : Int) #[]) (1))) (hl) <| ob (A := (((0 : Int) ≤ q.i 0 ∧ (q.i 0).toNat < List.length (q.l 1) ∧ List.length (q.l 1) ≤ sizeLine) ∧ itemAt (q.l 1) ((q.i 0).toNat) = Value.int (shI z1) (shT z1))) (hq.1.g hl) <| ob (A := (nonneg (ptI none) ∧ nonneg (ptI (some (shI z1,shT z1))) ∧ List.length (q.l 2) ≤ sizeLine)) (hq.1.sl hl) <| ob (A := (GiP (0 : Int) (z0) ([] : List Value) (100 + 1) ∧ (z0).length ≤ (0 : Int).toNat)) (⟨hq.1.gi hl,hy⟩) <| fun he0 : GiR (fun j => decide (j > (q.i 0))) (0 : Int) (z0) ([] : List Value) ((ρ.2 0).l 0) => ob (A := (List.length ((ρ.2 0).l 0) ≤ sizeLine)) (hq.1.len rfl he0) <| ob (A := (List.length (q.l 0) ≤ sizeLine)) (hq.1.ob) <| ob (A := (GrP (q.i 0 + 1 : Int) (q.i 1 - 1 : Int) (q.l 2) (q.l 1) z2 m)) (hq.1.next hl) <| fun he1 : GrR (fun k => fun j => decide (j > k)) (q.i 0 + 1 : Int) (q.i 1 - 1 : Int) (q.l 2) (q.l 1) z2 ((ρ.2 1).l 0) => fin (S_grf W (m + 1)) q (lt [] [(ρ.2 1).2 0] [] [] [(ρ.2 1).5 0] [(ρ.2 1).6 0] []) ((hq.1.step hl he0 he1)) :) ?_
  induction W using y_0 <;> kernel_rfl
theorem grf_ok (W : Wd) (O : (BB W).Ok) (m : Nat) : (S_grf W (m + 1)).Ok := fun q hq => if hy : 0 < ((partL (ptI none) (ptI (some (shI (itemAt (q.l 1) ((q.i 0)).toNat), shT (itemAt (q.l 1) ((q.i 0)).toNat)))) (q.l 2))).length then grf_s W O m (gr_ok W O m) q hq hq.2 hy else grf_e W O m (gr_ok W O m) q hq hq.2 (Nat.le_of_not_lt hy)
theorem gra_true (W : Wd) (O : (BB W).Ok) (m : Nat) (q : Lt) (hq : (S_gra W (m + 1)).P q) (hb : W.b2 = true) : At (S_gra W (m + 1)) 110 q := by
  refine tri_f O (stdH _) [U (S_grf W (m + 1)) (grf_ok W O m) on_grf] 2000 110 (hs := hx 12 0x2000c0) (is := [0,0,0,0,0,0,0])
    (fun (ρ : Rho) => ob hq <| fun he0 : GrR (fun k => fun j => decide (j > k)) (q.i 0) (q.i 1) (q.l 2) (q.l 1) (q.l 0) ((ρ.2 0).l 0) => fin (S_gra W (m + 1)) q (lt [] [(ρ.2 0).2 0] [] [] [(ρ.2 0).5 0] [(ρ.2 0).6 0] []) (he0) :) ?_
  induction W, hb using y_true <;> kernel_rfl
theorem gra_false (W : Wd) (O : (BB W).Ok) (m : Nat) (q : Lt) (hq : (S_gra W (m + 1)).P q) (hb : W.b2 = false) : At (S_gra W (m + 1)) 110 q := by
  refine tri_f O (stdH _) [U (S_grf W (m + 1)) (grf_ok W O m) on_grf] 2000 110 (hs := hx 18 0x2000c30030030c0) (is := [0,0,0,0,0,0,0])
    (fun (ρ : Rho) => ob hq <| fun he0 : GrR (fun k => fun j => decide (j > k)) (q.i 0) (q.i 1) (q.l 2) (q.l 1) (q.l 0) ((ρ.2 0).l 0) => fin (S_gra W (m + 1)) q (lt [] [(ρ.2 0).2 0] [] [] [(ρ.2 0).5 0] [(ρ.2 0).6 0] []) (he0) :) ?_
  induction W, hb using y_false <;> kernel_rfl
theorem gra_ok (W : Wd) (O : (BB W).Ok) (m : Nat) : (S_gra W (m + 1)).Ok := fun q hq => by
  cases hb : W.b2 with
  | true => exact gra_true W O m q hq hb
  | false => exact gra_false W O m q hq hb
end Mine
end
section

namespace Mine
open PySem PySem.Spec PySem.Calls PyProof.Rows PySem.W PySem.W.X PySem.Builtin.Str
noncomputable def S_lei (W : Wd) (m : Nat) : Sp (BB W) :=
  let B := BB W
  { d := 100
    c := fun q => .compLoop (kids (exOf (lwS W.w [22])) [0, 1]) 0 (.ref (q.a 2)) (.ref (q.a 3)) (compEnv (kids (exOf (lwS W.w [22])) [0, 1]) (compEnv (exOf (lwS W.w [22])) (lwEnv W.w (q.a 1) 0 0 0 0 0 0 0 0) 0 []) (q.a 0) [(s_k, (q.a 4))])
    P := fun q => GiP (q.i 1) (q.l 0) (q.l 1) m
    pre := fun q => [((q.a 0),dictO [kv B s_j (q.t 0) (q.v 0)] 1),((q.a 4),cellO (.int (q.i 0) (q.t 1))),((q.a 2),fieldsO tLI [(.ref (q.a 5)),(.int (q.i 1) (q.t 2))]),((q.a 5),listO (q.l 0) (q.t 3)),((q.a 3),listO (q.l 1) (q.t 4))]
    R := fun q e => GiR (fun j => decide (j < (q.i 0))) (q.i 1) (q.l 0) (q.l 1) (e.l 0)
    res := fun q e => .ok .next
    out := fun q e => [((q.a 0),dictO [kv B s_j (q.t 0) (e.v 0)] 1),((q.a 4),cellO (.int (q.i 0) (q.t 1))),((q.a 5),listO (q.l 0) (q.t 3)),((q.a 3),listO (e.l 0) (e.t 0))] }
noncomputable def on_lei : Code → View → Lt := fun c V => lt [(cEnv c).locals,envFrame (cEnv c),valA (cIt c),valA (cAcc c),envCell 0 (cEnv c),valA (nthV (sQ V 2) 0)] [kT V 0 0,cT V 1,qT V 2 1,eP V 3,eP V 4] [valI (cellV (nthO V 1)),qI V 2 1] [] [dV V 0 0] [sQ V 3,sQ V 4] []
noncomputable def S_leif (W : Wd) (m : Nat) : Sp (BB W) :=
  let B := BB W
  { d := 100
    c := fun q => .compLoop (kids (exOf (lwS W.w [22])) [0, 1]) 0 (.ref (q.a 2)) (.ref (q.a 3)) (compEnv (kids (exOf (lwS W.w [22])) [0, 1]) (compEnv (exOf (lwS W.w [22])) (lwEnv W.w (q.a 1) 0 0 0 0 0 0 0 0) 0 []) (q.a 0) [(s_k, (q.a 4))])
    P := fun q => GiP (q.i 1) (q.l 0) (q.l 1) m ∧ (q.i 1).toNat < (q.l 0).length
    pre := fun q => [((q.a 0),dictO [] 0),((q.a 4),cellO (.int (q.i 0) (q.t 0))),((q.a 2),fieldsO tLI [(.ref (q.a 5)),(.int (q.i 1) (q.t 1))]),((q.a 5),listO (q.l 0) (q.t 2)),((q.a 3),listO (q.l 1) (q.t 3))]
    R := fun q e => GiR (fun j => decide (j < (q.i 0))) (q.i 1) (q.l 0) (q.l 1) (e.l 0)
    res := fun q e => .ok .next
    out := fun q e => [((q.a 0),dictO [kv B s_j (e.t 0) (e.v 0)] 1),((q.a 4),cellO (.int (q.i 0) (q.t 0))),((q.a 5),listO (q.l 0) (q.t 2)),((q.a 3),listO (e.l 0) (e.t 1))] }
noncomputable def on_leif : Code → View → Lt := fun c V => lt [(cEnv c).locals,envFrame (cEnv c),valA (cIt c),valA (cAcc c),envCell 0 (cEnv c),valA (nthV (sQ V 2) 0)] [cT V 1,qT V 2 1,eP V 3,eP V 4] [valI (cellV (nthO V 1)),qI V 2 1] [] [] [sQ V 3,sQ V 4] []
noncomputable def S_leia (W : Wd) (m : Nat) : Sp (BB W) := Sp.start (S_leif W m)
noncomputable abbrev on_leia := on_leif
noncomputable def S_leie (W : Wd) (m : Nat) : Sp (BB W) :=
  let B := BB W
  { d := 100
    c := fun q => .compStart (kids (exOf (lwS W.w [22])) [0, 1]) 0 (.ref (q.a 2)) (.ref (q.a 3)) (compEnv (kids (exOf (lwS W.w [22])) [0, 1]) (compEnv (exOf (lwS W.w [22])) (lwEnv W.w (q.a 1) 0 0 0 0 0 0 0 0) 0 []) (q.a 0) [(s_k, (q.a 4))])
    P := fun q => GiP (q.i 1) (q.l 0) (q.l 1) m ∧ (q.l 0).length ≤ (q.i 1).toNat
    pre := fun q => [((q.a 0),dictO [] 0),((q.a 4),cellO (.int (q.i 0) (q.t 0))),((q.a 2),fieldsO tLI [(.ref (q.a 5)),(.int (q.i 1) (q.t 1))]),((q.a 5),listO (q.l 0) (q.t 2)),((q.a 3),listO (q.l 1) (q.t 3))]
    R := fun q e => GiR (fun j => decide (j < (q.i 0))) (q.i 1) (q.l 0) (q.l 1) (e.l 0)
    res := fun q e => .ok .next
    out := fun q e => [((q.a 0),dictO [] 0),((q.a 4),cellO (.int (q.i 0) (q.t 0))),((q.a 5),listO (q.l 0) (q.t 2)),((q.a 3),listO (e.l 0) (e.t 0))] }
noncomputable def on_leie : Code → View → Lt := fun c V => lt [(cEnv c).locals,envFrame (cEnv c),valA (cIt c),valA (cAcc c),envCell 0 (cEnv c),valA (nthV (sQ V 2) 0)] [cT V 1,qT V 2 1,eP V 3,eP V 4] [valI (cellV (nthO V 1)),qI V 2 1] [] [] [sQ V 3,sQ V 4] []
theorem lei_end (W : Wd) (O : (BB W).Ok) (m : Nat) (q : Lt) (hq : (S_lei W m).P q) (hl : ((q.l 0)).length ≤ ((q.i 1)).toNat) : At (S_lei W m) 100 q := by
  refine tri_f O (stdH _) [] 2000 100 (hs := hx 12 0x430c40c30050c00c0) (is := [2,2,3,3])
    (fun (ρ : Rho) => ob hl <| fin (S_lei W m) q (lt [] [(q.t 4)] [] [] [(q.v 0)] [(q.l 1)] []) ((hq.fin hl)) :) ?_
  induction W using y_0 <;> kernel_rfl
theorem lei_t (W : Wd) (O : (BB W).Ok) (m : Nat) (ih : (S_lei W m).Ok) (q : Lt) (hq : (S_lei W (m + 1)).P q) (hl : ((q.i 1)).toNat < ((q.l 0)).length) (hb : (shI (itemAt (q.l 0) (q.i 1).toNat)) < (q.i 0)) : At (S_lei W (m + 1)) 100 q := by
  refine tri_f O (stdH _) [U (S_lei W m) ih on_lei] 2000 100 (hs := hx 32 0x500311e0850010020020410430c40c30850c00c0) (is := [0,0,0,0])
    (fun (ρ : Rho) => let z0 := itemAt (q.l 0) ((q.i 1).toNat); let z1 := itemAt (q.l 0) (Int.toNat (q.i 1)); ob (A := (risD (It.mk (Value.ref (q.a 2)) (q.i 1) (0 : Int) (0 : Int) (Array.mk (q.l 0))) (2))) (hq.item hl) <| ob (A := (shI z0 < q.i 0)) (hb) <| ob (A := (List.length (q.l 1) ≤ sizeLine)) (hq.ob) <| ob (A := (GiP (q.i 1 + 1 : Int) (q.l 0) (q.l 1++[Value.int (shI z0) (shT z0)]) m)) (hq.next hl) <| fun he0 : GiR (fun j => decide (j < (q.i 0))) (q.i 1 + 1 : Int) (q.l 0) (q.l 1++[Value.int (shI z1) (shT z1)]) ((ρ.2 0).l 0) => fin (S_lei W (m + 1)) q (lt [] [(ρ.2 0).2 0] [] [] [(ρ.2 0).5 0] [(ρ.2 0).6 0] []) ((hq.rt hl (decide_eq_true hb) he0)) :) ?_
  induction W using y_0 <;> kernel_rfl
theorem lei_f (W : Wd) (O : (BB W).Ok) (m : Nat) (ih : (S_lei W m).Ok) (q : Lt) (hq : (S_lei W (m + 1)).P q) (hl : ((q.i 1)).toNat < ((q.l 0)).length) (hb : ¬ (shI (itemAt (q.l 0) (q.i 1).toNat)) < (q.i 0)) : At (S_lei W (m + 1)) 100 q := by
  refine tri_f O (stdH _) [U (S_lei W m) ih on_lei] 2000 100 (hs := hx 26 0x50030420020410430c40c30850c00c0) (is := [0,0,0,0])
    (fun (ρ : Rho) => ob (hq.item hl) <| ob hb <| ob (hq.nextf hl) <| fun he0 : GiR (fun j => decide (j < (q.i 0))) (q.i 1 + 1 : Int) (q.l 0) (q.l 1) ((ρ.2 0).l 0) => fin (S_lei W (m + 1)) q (lt [] [(ρ.2 0).2 0] [] [] [(ρ.2 0).5 0] [(ρ.2 0).6 0] []) ((hq.rf hl (decide_eq_false hb) he0)) :) ?_
  induction W using y_0 <;> kernel_rfl
theorem lei_ok (W : Wd) (O : (BB W).Ok) : ∀ m, (S_lei W m).Ok
  | 0 => fun q hq => lei_end W O 0 q hq (hq.m0)
  | m + 1 => fun q hq => by
    by_cases hl : ((q.l 0)).length ≤ ((q.i 1)).toNat
    · exact lei_end W O (m + 1) q hq hl
    · by_cases hb : (shI (itemAt (q.l 0) (q.i 1).toNat)) < (q.i 0)
      · exact lei_t W O m (lei_ok W O m) q hq (by lia) hb
      · exact lei_f W O m (lei_ok W O m) q hq (by lia) hb
theorem leif_t (W : Wd) (O : (BB W).Ok) (m : Nat) (ih : (S_lei W m).Ok) (q : Lt) (hq : (S_leif W (m + 1)).P q) (hl : ((q.i 1)).toNat < ((q.l 0)).length) (hb : (shI (itemAt (q.l 0) (q.i 1).toNat)) < (q.i 0)) : At (S_leif W (m + 1)) 100 q := by
  refine tri_f O (stdH _) [U (S_lei W m) ih on_lei] 2000 100 (hs := hx 32 0x500311e0850010020020410430c40c30850c00c0) (is := [0,0,0,0])
    (fun (ρ : Rho) => let z0 := itemAt (q.l 0) ((q.i 1).toNat); let z1 := itemAt (q.l 0) (Int.toNat (q.i 1)); ob (A := (risD (It.mk (Value.ref (q.a 2)) (q.i 1) (0 : Int) (0 : Int) (Array.mk (q.l 0))) (2))) (hq.1.item hl) <| ob (A := (shI z0 < q.i 0)) (hb) <| ob (A := (List.length (q.l 1) ≤ sizeLine)) (hq.1.ob) <| ob (A := (GiP (q.i 1 + 1 : Int) (q.l 0) (q.l 1++[Value.int (shI z0) (shT z0)]) m)) (hq.1.next hl) <| fun he0 : GiR (fun j => decide (j < (q.i 0))) (q.i 1 + 1 : Int) (q.l 0) (q.l 1++[Value.int (shI z1) (shT z1)]) ((ρ.2 0).l 0) => fin (S_leif W (m + 1)) q (lt [] [ρ.1 0,(ρ.2 0).2 0] [] [] [(ρ.2 0).5 0] [(ρ.2 0).6 0] []) ((hq.1.rt hl (decide_eq_true hb) he0)) :) ?_
  induction W using y_0 <;> kernel_rfl
theorem leif_f (W : Wd) (O : (BB W).Ok) (m : Nat) (ih : (S_lei W m).Ok) (q : Lt) (hq : (S_leif W (m + 1)).P q) (hl : ((q.i 1)).toNat < ((q.l 0)).length) (hb : ¬ (shI (itemAt (q.l 0) (q.i 1).toNat)) < (q.i 0)) : At (S_leif W (m + 1)) 100 q := by
  refine tri_f O (stdH _) [U (S_lei W m) ih on_lei] 2000 100 (hs := hx 26 0x50030420020410430c40c30850c00c0) (is := [0,0,0,0])
    (fun (ρ : Rho) => ob (hq.1.item hl) <| ob hb <| ob (hq.1.nextf hl) <| fun he0 : GiR (fun j => decide (j < (q.i 0))) (q.i 1 + 1 : Int) (q.l 0) (q.l 1) ((ρ.2 0).l 0) => fin (S_leif W (m + 1)) q (lt [] [ρ.1 0,(ρ.2 0).2 0] [] [] [(ρ.2 0).5 0] [(ρ.2 0).6 0] []) ((hq.1.rf hl (decide_eq_false hb) he0)) :) ?_
  induction W using y_0 <;> kernel_rfl
theorem leif_ok (W : Wd) (O : (BB W).Ok) (m : Nat) : (S_leif W (m + 1)).Ok := fun q hq => by
  by_cases hb : (shI (itemAt (q.l 0) (q.i 1).toNat)) < (q.i 0)
  · exact leif_t W O m (lei_ok W O m) q hq hq.2 hb
  · exact leif_f W O m (lei_ok W O m) q hq hq.2 hb
theorem leia_true (W : Wd) (O : (BB W).Ok) (m : Nat) (q : Lt) (hq : (S_leia W (m + 1)).P q) (hb : W.b2 = true) : At (S_leia W (m + 1)) 100 q := by
  refine tri_f O (stdH _) [U (S_leif W (m + 1)) (leif_ok W O m) on_leif] 2000 100 (hs := [0,3,0,5,0,0,0,0,0]) (is := [0,0,0,0])
    (fun (ρ : Rho) => ob hq <| fun he0 : GiR (fun j => decide (j < (q.i 0))) (q.i 1) (q.l 0) (q.l 1) ((ρ.2 0).l 0) => fin (S_leia W (m + 1)) q (lt [] [(ρ.2 0).2 0,(ρ.2 0).2 1] [] [] [(ρ.2 0).5 0] [(ρ.2 0).6 0] []) (he0) :) ?_
  induction W, hb using y_true <;> kernel_rfl
theorem leia_false (W : Wd) (O : (BB W).Ok) (m : Nat) (q : Lt) (hq : (S_leia W (m + 1)).P q) (hb : W.b2 = false) : At (S_leia W (m + 1)) 100 q := by
  refine tri_f O (stdH _) [U (S_leif W (m + 1)) (leif_ok W O m) on_leif] 2000 100 (hs := hx 15 0x1400c30030030c0) (is := [0,0,0,0])
    (fun (ρ : Rho) => ob hq <| fun he0 : GiR (fun j => decide (j < (q.i 0))) (q.i 1) (q.l 0) (q.l 1) ((ρ.2 0).l 0) => fin (S_leia W (m + 1)) q (lt [] [(ρ.2 0).2 0,(ρ.2 0).2 1] [] [] [(ρ.2 0).5 0] [(ρ.2 0).6 0] []) (he0) :) ?_
  induction W, hb using y_false <;> kernel_rfl
theorem leia_ok (W : Wd) (O : (BB W).Ok) (m : Nat) : (S_leia W (m + 1)).Ok := fun q hq => by
  cases hb : W.b2 with
  | true => exact leia_true W O m q hq hb
  | false => exact leia_false W O m q hq hb
theorem leie_true (W : Wd) (O : (BB W).Ok) (m : Nat) (q : Lt) (hq : (S_leie W (m + 1)).P q) (hb : W.b2 = true) : At (S_leie W (m + 1)) 100 q := by
  refine tri_f O (stdH _) [] 2000 100 (hs := hx 13 0x10c31030c0143003000) (is := [2,2,3,3])
    (fun (ρ : Rho) => ob hq.2 <| fin (S_leie W (m + 1)) q (lt [] [(q.t 3)] [] [] [] [(q.l 1)] []) ((hq.1.fin hq.2)) :) ?_
  induction W, hb using y_true <;> kernel_rfl
theorem leie_false (W : Wd) (O : (BB W).Ok) (m : Nat) (q : Lt) (hq : (S_leie W (m + 1)).P q) (hb : W.b2 = false) : At (S_leie W (m + 1)) 100 q := by
  refine tri_f O (stdH _) [] 2000 100 (hs := hx 19 0x10c31030c01430030030030030c0) (is := [2,2,3,3])
    (fun (ρ : Rho) => ob hq.2 <| fin (S_leie W (m + 1)) q (lt [] [(q.t 3)] [] [] [] [(q.l 1)] []) ((hq.1.fin hq.2)) :) ?_
  induction W, hb using y_false <;> kernel_rfl
theorem leie_ok (W : Wd) (O : (BB W).Ok) (m : Nat) : (S_leie W (m + 1)).Ok := fun q hq => by
  cases hb : W.b2 with
  | true => exact leie_true W O m q hq hb
  | false => exact leie_false W O m q hq hb
noncomputable def S_le (W : Wd) (m : Nat) : Sp (BB W) :=
  let B := BB W
  let pr := fun q : Lt => [((q.a 0),dictO [] 0),((q.a 4),cellO (q.v 0)),((q.a 2),fieldsO tRG [(.int (q.i 0) (q.t 0)),(.int (q.i 1) (q.t 1)),(.int 1 (q.t 2))]),((q.a 3),listO (q.l 0) (q.t 3)),((q.a 5),cellO (.ref (q.a 7))),((q.a 7),listO (q.l 1) (q.t 4)),((q.a 6),cellO (.ref (q.a 8))),((q.a 8),listO (q.l 2) (q.t 5))]
  { d := 110
    c := fun q => .compLoop (exOf (lwS W.w [22])) 0 (.ref (q.a 2)) (.ref (q.a 3)) (compEnv (exOf (lwS W.w [22])) (lwEnv W.w (q.a 1) 0 0 0 0 0 0 0 0) (q.a 0) [(s_k, (q.a 4)), (s_places, (q.a 5)), (s_order, (q.a 6))])
    P := fun q => GrP (q.i 0) (q.i 1) (q.l 2) (q.l 1) (q.l 0) m
    pre := pr
    R := fun q e => GrR (fun k => fun j => decide (j < k)) (q.i 0) (q.i 1) (q.l 2) (q.l 1) (q.l 0) (e.l 0)
    res := fun q e => .ok .next
    out := fun q e => [((q.a 0),dictO [] 0),((q.a 4),cellO (e.v 0)),((q.a 3),listO (e.l 0) (e.t 0))]++(pr q).drop 4 }
noncomputable def on_le : Code → View → Lt := fun c V => lt [(cEnv c).locals,envFrame (cEnv c),valA (cIt c),valA (cAcc c),envCell 0 (cEnv c),envCell 1 (cEnv c),envCell 2 (cEnv c),cA V 4,cA V 6] [qT V 2 0,qT V 2 1,qT V 2 2,eP V 3,eP V 5,eP V 7] [qI V 2 0,qI V 2 1] [] [cellV (nthO V 1)] [sQ V 3,sQ V 5,sQ V 7] []
noncomputable def S_lef (W : Wd) (m : Nat) : Sp (BB W) :=
  let B := BB W
  let pr := fun q : Lt => [((q.a 0),dictO [] 0),((q.a 4),⟨tCell,none,.cell none,#[]⟩),((q.a 2),fieldsO tRG [(.int (q.i 0) (q.t 0)),(.int (q.i 1) (q.t 1)),(.int 1 (q.t 2))]),((q.a 3),listO (q.l 0) (q.t 3)),((q.a 5),cellO (.ref (q.a 7))),((q.a 7),listO (q.l 1) (q.t 4)),((q.a 6),cellO (.ref (q.a 8))),((q.a 8),listO (q.l 2) (q.t 5))]
  { d := 110
    c := fun q => .compLoop (exOf (lwS W.w [22])) 0 (.ref (q.a 2)) (.ref (q.a 3)) (compEnv (exOf (lwS W.w [22])) (lwEnv W.w (q.a 1) 0 0 0 0 0 0 0 0) (q.a 0) [(s_k, (q.a 4)), (s_places, (q.a 5)), (s_order, (q.a 6))])
    P := fun q => GrP (q.i 0) (q.i 1) (q.l 2) (q.l 1) (q.l 0) m ∧ 0 < (q.i 1)
    pre := pr
    R := fun q e => GrR (fun k => fun j => decide (j < k)) (q.i 0) (q.i 1) (q.l 2) (q.l 1) (q.l 0) (e.l 0)
    res := fun q e => .ok .next
    out := fun q e => [((q.a 0),dictO [] 0),((q.a 4),cellO (e.v 0)),((q.a 3),listO (e.l 0) (e.t 0))]++(pr q).drop 4 }
noncomputable def on_lef : Code → View → Lt := fun c V => lt [(cEnv c).locals,envFrame (cEnv c),valA (cIt c),valA (cAcc c),envCell 0 (cEnv c),envCell 1 (cEnv c),envCell 2 (cEnv c),cA V 4,cA V 6] [qT V 2 0,qT V 2 1,qT V 2 2,eP V 3,eP V 5,eP V 7] [qI V 2 0,qI V 2 1] [] [] [sQ V 3,sQ V 5,sQ V 7] []
noncomputable def S_lea (W : Wd) (m : Nat) : Sp (BB W) := Sp.start (S_lef W m)
noncomputable abbrev on_lea := on_lef
theorem le_end (W : Wd) (O : (BB W).Ok) (m : Nat) (q : Lt) (hq : (S_le W m).P q) (hl : (q.i 1) ≤ 0) : At (S_le W m) 110 q := by
  refine tri_f O (stdH _) [] 2000 110 (hs := [0,3,0,3,6,0,3,3,3,1]) (is := [2,2,3,3,3,3,3])
    (fun (ρ : Rho) => ob hl <| fin (S_le W m) q (lt [] [(q.t 3)] [] [] [(q.v 0)] [(q.l 0)] []) ((hq.fin hl)) :) ?_
  induction W using y_0 <;> kernel_rfl
theorem le_s (W : Wd) (O : (BB W).Ok) (m : Nat) (ih : (S_le W m).Ok) (q : Lt) (hq : (S_le W (m + 1)).P q) (hl : 0 < (q.i 1)) (hy : 0 < ((partL (ptI none) (ptI (some (shI (itemAt (q.l 1) ((q.i 0)).toNat), shT (itemAt (q.l 1) ((q.i 0)).toNat)))) (q.l 2))).length) : At (S_le W (m + 1)) 110 q := by
  refine tri_f O (stdH _) [U (S_leia W (100 + 1)) (leia_ok W O 100) on_leia,U (S_le W m) ih on_le] 2000 110 (hs := hx 75 0x41041041011480431de088003742001041001045005003040040041008b822402492411600860061860851c00020830c30c30c30460c00c0) (is := [0,0,0,0,0,0,0])
    (fun (ρ : Rho) => let z0 := partL (ptI none) (ptI (some (shI (itemAt (q.l 1) ((q.i 0)).toNat),shT (itemAt (q.l 1) ((q.i 0)).toNat)))) (q.l 2); let z1 := itemAt (q.l 1) ((q.i 0).toNat); let z2 := q.l 0++[Value.int (↑(List.length ((ρ.2 0).l 0))) (ρ.n 6)]; ob (A := (rngD (It.mk (Value.ref (q.a 2)) (q.i 0) (q.i 1) (1 : Int) #[]) (1))) (hl) <| ob (A := (((0 : Int) ≤ q.i 0 ∧ (q.i 0).toNat < List.length (q.l 1) ∧ List.length (q.l 1) ≤ sizeLine) ∧ itemAt (q.l 1) ((q.i 0).toNat) = Value.int (shI z1) (shT z1))) (hq.g hl) <| ob (A := (nonneg (ptI none) ∧ nonneg (ptI (some (shI z1,shT z1))) ∧ List.length (q.l 2) ≤ sizeLine)) (hq.sl hl) <| ob (A := (GiP (0 : Int) (z0) ([] : List Value) (100 + 1) ∧ (0 : Int).toNat < (z0).length)) (⟨hq.gi hl,hy⟩) <| fun he0 : GiR (fun j => decide (j < (q.i 0))) (0 : Int) (z0) ([] : List Value) ((ρ.2 0).l 0) => ob (A := (List.length ((ρ.2 0).l 0) ≤ sizeLine)) (hq.len rfl he0) <| ob (A := (List.length (q.l 0) ≤ sizeLine)) (hq.ob) <| ob (A := (GrP (q.i 0 + 1 : Int) (q.i 1 - 1 : Int) (q.l 2) (q.l 1) z2 m)) (hq.next hl) <| fun he1 : GrR (fun k => fun j => decide (j < k)) (q.i 0 + 1 : Int) (q.i 1 - 1 : Int) (q.l 2) (q.l 1) z2 ((ρ.2 1).l 0) => fin (S_le W (m + 1)) q (lt [] [(ρ.2 1).2 0] [] [] [(ρ.2 1).5 0] [(ρ.2 1).6 0] []) ((hq.step hl he0 he1)) :) ?_
  induction W using y_0 <;> kernel_rfl
theorem le_e (W : Wd) (O : (BB W).Ok) (m : Nat) (ih : (S_le W m).Ok) (q : Lt) (hq : (S_le W (m + 1)).P q) (hl : 0 < (q.i 1)) (hy : ((partL (ptI none) (ptI (some (shI (itemAt (q.l 1) ((q.i 0)).toNat), shT (itemAt (q.l 1) ((q.i 0)).toNat)))) (q.l 2))).length ≤ 0) : At (S_le W (m + 1)) 110 q := by
  refine tri_f O (stdH _) [U (S_leie W (100 + 1)) (leie_ok W O 100) on_leie,U (S_le W m) ih on_le] 2000 110 (hs := hx 73 0x41041041011480431de088003742001001045005003040040041008b822402492411600860061860851c00020830c30c30c30460c00c0) (is := [0,0,0,0,0,0,0])
    (fun (ρ : Rho) => let z0 := partL (ptI none) (ptI (some (shI (itemAt (q.l 1) ((q.i 0)).toNat),shT (itemAt (q.l 1) ((q.i 0)).toNat)))) (q.l 2); let z1 := itemAt (q.l 1) ((q.i 0).toNat); let z2 := q.l 0++[Value.int (↑(List.length ((ρ.2 0).l 0))) (ρ.n 6)]; ob (A := (rngD (It.mk (Value.ref (q.a 2)) (q.i 0) (q.i 1) (1 : Int) #[]) (1))) (hl) <| ob (A := (((0 : Int) ≤ q.i 0 ∧ (q.i 0).toNat < List.length (q.l 1) ∧ List.length (q.l 1) ≤ sizeLine) ∧ itemAt (q.l 1) ((q.i 0).toNat) = Value.int (shI z1) (shT z1))) (hq.g hl) <| ob (A := (nonneg (ptI none) ∧ nonneg (ptI (some (shI z1,shT z1))) ∧ List.length (q.l 2) ≤ sizeLine)) (hq.sl hl) <| ob (A := (GiP (0 : Int) (z0) ([] : List Value) (100 + 1) ∧ (z0).length ≤ (0 : Int).toNat)) (⟨hq.gi hl,hy⟩) <| fun he0 : GiR (fun j => decide (j < (q.i 0))) (0 : Int) (z0) ([] : List Value) ((ρ.2 0).l 0) => ob (A := (List.length ((ρ.2 0).l 0) ≤ sizeLine)) (hq.len rfl he0) <| ob (A := (List.length (q.l 0) ≤ sizeLine)) (hq.ob) <| ob (A := (GrP (q.i 0 + 1 : Int) (q.i 1 - 1 : Int) (q.l 2) (q.l 1) z2 m)) (hq.next hl) <| fun he1 : GrR (fun k => fun j => decide (j < k)) (q.i 0 + 1 : Int) (q.i 1 - 1 : Int) (q.l 2) (q.l 1) z2 ((ρ.2 1).l 0) => fin (S_le W (m + 1)) q (lt [] [(ρ.2 1).2 0] [] [] [(ρ.2 1).5 0] [(ρ.2 1).6 0] []) ((hq.step hl he0 he1)) :) ?_
  induction W using y_0 <;> kernel_rfl
theorem le_ok (W : Wd) (O : (BB W).Ok) : ∀ m, (S_le W m).Ok
  | 0 => fun q hq => le_end W O 0 q hq (hq.m0)
  | m + 1 => fun q hq => by
    by_cases hl : (q.i 1) ≤ 0
    · exact le_end W O (m + 1) q hq hl
    · exact if hy : 0 < ((partL (ptI none) (ptI (some (shI (itemAt (q.l 1) ((q.i 0)).toNat), shT (itemAt (q.l 1) ((q.i 0)).toNat)))) (q.l 2))).length then le_s W O m (le_ok W O m) q hq (by lia) hy else le_e W O m (le_ok W O m) q hq (by lia) (Nat.le_of_not_lt hy)
theorem lef_s (W : Wd) (O : (BB W).Ok) (m : Nat) (ih : (S_le W m).Ok) (q : Lt) (hq : (S_lef W (m + 1)).P q) (hl : 0 < (q.i 1)) (hy : 0 < ((partL (ptI none) (ptI (some (shI (itemAt (q.l 1) ((q.i 0)).toNat), shT (itemAt (q.l 1) ((q.i 0)).toNat)))) (q.l 2))).length) : At (S_lef W (m + 1)) 110 q := by
  refine tri_f O (stdH _) [U (S_leia W (100 + 1)) (leia_ok W O 100) on_leia,U (S_le W m) ih on_le] 2000 110 (hs := hx 75 0x41041041011480431de088003742001041001045005003040040041008b822402492411600860061860851c00020830c30c30c30460c00c0) (is := [0,0,0,0,0,0,0])
    (fun (ρ : Rho) => let z0 := partL (ptI none) (ptI (some (shI (itemAt (q.l 1) ((q.i 0)).toNat),shT (itemAt (q.l 1) ((q.i 0)).toNat)))) (q.l 2); let z1 := itemAt (q.l 1) ((q.i 0).toNat); let z2 := q.l 0++[Value.int (↑(List.length ((ρ.2 0).l 0))) (ρ.n 6)]; ob (A := (rngD (It.mk (Value.ref (q.a 2)) (q.i 0) (q.i 1) (1 : Int) #[]) (1))) (hl) <| ob (A := (((0 : Int) ≤ q.i 0 ∧ (q.i 0).toNat < List.length (q.l 1) ∧ List.length (q.l 1) ≤ sizeLine) ∧ itemAt (q.l 1) ((q.i 0).toNat) = Value.int (shI z1) (shT z1))) (hq.1.g hl) <| ob (A := (nonneg (ptI none) ∧ nonneg (ptI (some (shI z1,shT z1))) ∧ List.length (q.l 2) ≤ sizeLine)) (hq.1.sl hl) <| ob (A := (GiP (0 : Int) (z0) ([] : List Value) (100 + 1) ∧ (0 : Int).toNat < (z0).length)) (⟨hq.1.gi hl,hy⟩) <| fun he0 : GiR (fun j => decide (j < (q.i 0))) (0 : Int) (z0) ([] : List Value) ((ρ.2 0).l 0) => ob (A := (List.length ((ρ.2 0).l 0) ≤ sizeLine)) (hq.1.len rfl he0) <| ob (A := (List.length (q.l 0) ≤ sizeLine)) (hq.1.ob) <| ob (A := (GrP (q.i 0 + 1 : Int) (q.i 1 - 1 : Int) (q.l 2) (q.l 1) z2 m)) (hq.1.next hl) <| fun he1 : GrR (fun k => fun j => decide (j < k)) (q.i 0 + 1 : Int) (q.i 1 - 1 : Int) (q.l 2) (q.l 1) z2 ((ρ.2 1).l 0) => fin (S_lef W (m + 1)) q (lt [] [(ρ.2 1).2 0] [] [] [(ρ.2 1).5 0] [(ρ.2 1).6 0] []) ((hq.1.step hl he0 he1)) :) ?_
  induction W using y_0 <;> kernel_rfl
theorem lef_e (W : Wd) (O : (BB W).Ok) (m : Nat) (ih : (S_le W m).Ok) (q : Lt) (hq : (S_lef W (m + 1)).P q) (hl : 0 < (q.i 1)) (hy : ((partL (ptI none) (ptI (some (shI (itemAt (q.l 1) ((q.i 0)).toNat), shT (itemAt (q.l 1) ((q.i 0)).toNat)))) (q.l 2))).length ≤ 0) : At (S_lef W (m + 1)) 110 q := by
  refine tri_f O (stdH _) [U (S_leie W (100 + 1)) (leie_ok W O 100) on_leie,U (S_le W m) ih on_le] 2000 110 (hs := hx 73 0x41041041011480431de088003742001001045005003040040041008b822402492411600860061860851c00020830c30c30c30460c00c0) (is := [0,0,0,0,0,0,0])
    (fun (ρ : Rho) => let z0 := partL (ptI none) (ptI (some (shI (itemAt (q.l 1) ((q.i 0)).toNat),shT (itemAt (q.l 1) ((q.i 0)).toNat)))) (q.l 2); let z1 := itemAt (q.l 1) ((q.i 0).toNat); let z2 := q.l 0++[Value.int (↑(List.length ((ρ.2 0).l 0))) (ρ.n 6)]; ob (A := (rngD (It.mk (Value.ref (q.a 2)) (q.i 0) (q.i 1) (1 : Int) #[]) (1))) (hl) <| ob (A := (((0 : Int) ≤ q.i 0 ∧ (q.i 0).toNat < List.length (q.l 1) ∧ List.length (q.l 1) ≤ sizeLine) ∧ itemAt (q.l 1) ((q.i 0).toNat) = Value.int (shI z1) (shT z1))) (hq.1.g hl) <| ob (A := (nonneg (ptI none) ∧ nonneg (ptI (some (shI z1,shT z1))) ∧ List.length (q.l 2) ≤ sizeLine)) (hq.1.sl hl) <| ob (A := (GiP (0 : Int) (z0) ([] : List Value) (100 + 1) ∧ (z0).length ≤ (0 : Int).toNat)) (⟨hq.1.gi hl,hy⟩) <| fun he0 : GiR (fun j => decide (j < (q.i 0))) (0 : Int) (z0) ([] : List Value) ((ρ.2 0).l 0) => ob (A := (List.length ((ρ.2 0).l 0) ≤ sizeLine)) (hq.1.len rfl he0) <| ob (A := (List.length (q.l 0) ≤ sizeLine)) (hq.1.ob) <| ob (A := (GrP (q.i 0 + 1 : Int) (q.i 1 - 1 : Int) (q.l 2) (q.l 1) z2 m)) (hq.1.next hl) <| fun he1 : GrR (fun k => fun j => decide (j < k)) (q.i 0 + 1 : Int) (q.i 1 - 1 : Int) (q.l 2) (q.l 1) z2 ((ρ.2 1).l 0) => fin (S_lef W (m + 1)) q (lt [] [(ρ.2 1).2 0] [] [] [(ρ.2 1).5 0] [(ρ.2 1).6 0] []) ((hq.1.step hl he0 he1)) :) ?_
  induction W using y_0 <;> kernel_rfl
theorem lef_ok (W : Wd) (O : (BB W).Ok) (m : Nat) : (S_lef W (m + 1)).Ok := fun q hq => if hy : 0 < ((partL (ptI none) (ptI (some (shI (itemAt (q.l 1) ((q.i 0)).toNat), shT (itemAt (q.l 1) ((q.i 0)).toNat)))) (q.l 2))).length then lef_s W O m (le_ok W O m) q hq hq.2 hy else lef_e W O m (le_ok W O m) q hq hq.2 (Nat.le_of_not_lt hy)
theorem lea_true (W : Wd) (O : (BB W).Ok) (m : Nat) (q : Lt) (hq : (S_lea W (m + 1)).P q) (hb : W.b2 = true) : At (S_lea W (m + 1)) 110 q := by
  refine tri_f O (stdH _) [U (S_lef W (m + 1)) (lef_ok W O m) on_lef] 2000 110 (hs := hx 12 0x2000c0) (is := [0,0,0,0,0,0,0])
    (fun (ρ : Rho) => ob hq <| fun he0 : GrR (fun k => fun j => decide (j < k)) (q.i 0) (q.i 1) (q.l 2) (q.l 1) (q.l 0) ((ρ.2 0).l 0) => fin (S_lea W (m + 1)) q (lt [] [(ρ.2 0).2 0] [] [] [(ρ.2 0).5 0] [(ρ.2 0).6 0] []) (he0) :) ?_
  induction W, hb using y_true <;> kernel_rfl
theorem lea_false (W : Wd) (O : (BB W).Ok) (m : Nat) (q : Lt) (hq : (S_lea W (m + 1)).P q) (hb : W.b2 = false) : At (S_lea W (m + 1)) 110 q := by
  refine tri_f O (stdH _) [U (S_lef W (m + 1)) (lef_ok W O m) on_lef] 2000 110 (hs := hx 18 0x2000c30030030c0) (is := [0,0,0,0,0,0,0])
    (fun (ρ : Rho) => ob hq <| fun he0 : GrR (fun k => fun j => decide (j < k)) (q.i 0) (q.i 1) (q.l 2) (q.l 1) (q.l 0) ((ρ.2 0).l 0) => fin (S_lea W (m + 1)) q (lt [] [(ρ.2 0).2 0] [] [] [(ρ.2 0).5 0] [(ρ.2 0).6 0] []) (he0) :) ?_
  induction W, hb using y_false <;> kernel_rfl
theorem lea_ok (W : Wd) (O : (BB W).Ok) (m : Nat) : (S_lea W (m + 1)).Ok := fun q hq => by
  cases hb : W.b2 with
  | true => exact lea_true W O m q hq hb
  | false => exact lea_false W O m q hq hb
end Mine
end
section
namespace Mine
open PySem PySem.Spec PySem.Calls PyProof.Rows PySem.W PySem.W.X PySem.Builtin PySem.Builtin.Range
theorem rlen_sizeN (a b : Int) : rangeSize a b (-1) = rlen b a := by
  unfold rangeSize rlen
  rw [if_neg (by decide)]
  by_cases h : a > b
  · rw [if_pos h, if_pos (by lia), show (-(-1) : Int) = 1 from rfl, Int.ediv_one]; lia
  · rw [if_neg h, if_neg (by lia)]
noncomputable def riterNF (args : List Value) (V : View) (hs : List Nat) (K : Result → View → List Nat → VC) : VC := match args with
  | [.ref a] => match hs with
    | [] => .ff
    | i :: hs => match nth V i with
      | none => .ff
      | some p => match rangeParts p.2 with
        | none => .ff
        | some q => match q with
          | (x, y, z) => .eq a p.1 <| .ob ((z = -1 ∧ (-(2 ^ 62) ≤ x ∧ x < 2 ^ 62) ∧ -(2 ^ 62) ≤ y ∧ y < 2 ^ 62)) <| .al fun a' => K (.ok (.ret (.ref a'))) ((a', { cls := .type "range_iterator", data := .fields ⟨[.int x 0, .int (rlen y x) 0, .int (-1) 0]⟩ }) :: V) hs
  | _ => .ff
noncomputable def riterNC (B : Bs) : BCut B where
  id := "range.__iter__"
  code := 1954752940192971970453299505619571
  d := 0
  f := riterNF
  hid := by rw [← S.code_S]; decide +kernel
  ok := by
    intro args V hs K h A s _ D
    unfold riterNF at h
    split at h
    · rename_i a
      split at h
      · cases h
      · rename_i i hs
        split at h
        · cases h
        · rename_i p hp
          split at h
          · cases h
          · rename_i q hq
            split at h
            rename_i x y z
            obtain ⟨rfl, ⟨rfl, ⟨h1, h2⟩, h3, h4⟩, h⟩ := h
            rw [nth_eq] at hp
            have ho := D.has _ (List.mem_of_getElem? hp)
            obtain ⟨t, u, v, e⟩ := rangeParts_is hq
            rw [e] at ho
            have hl : rlen y x ≤ 2 ^ 63 - 1 ∧ 0 ≤ rlen y x := by unfold rlen; split <;> lia
            have hsm : (rangeFitsLong x && rangeFitsLong y && rangeFitsLong (-1) && rangeFitsLong (rangeSize x y (-1)) && (rangeSize x y (-1) == 0 || if (-1 : Int) > 0 then rangeFitsLong (y + (-1 - 1)) else rangeFitsLong (y + (-1 + 1)))) = true := by
              rw [rlen_sizeN, if_neg (by decide)]
              unfold rangeFitsLong
              simp only [Bool.and_eq_true, Bool.or_eq_true, decide_eq_true_eq]
              refine ⟨⟨⟨⟨⟨by lia, by lia⟩, by lia, by lia⟩, by lia, by lia⟩, by lia, by lia⟩, .inr ⟨by lia, by lia⟩⟩
            refine codeAny_builtin (b := Builtin.«range.__iter__») (entryFor_of_tree (by kernel_rfl)) ?_
            rw [Around.under_plainId (by decide +kernel)]
            refine AutoRange.range___iter___range_1 p.1 x y (-1) t u v (by rw [hsm]; simp) _ _ _ (fun r s' => AK B V s K r s') s ⟨ho, ?_⟩
            rw [if_pos hsm, rlen_sizeN]
            have z := D.alloc (o := { cls := .type "range_iterator", data := .fields ⟨[.int x 0, .int (rlen y x) 0, .int (-1) 0]⟩ }) rfl
            exact ⟨_, hs, h s.heap.objs.size, z.1.toks' _, z.2.trans (ext_toks' _)⟩
    · cases h
end Mine
end
section
namespace Mine
open PySem PySem.Spec PySem.Calls PyProof.Rows PySem.W PySem.W.X PySem.Builtin PySem.Builtin.Str PySem.Builtin.Int PySem.StrLaws
noncomputable def tolW (sg : Str) (gs : List Value) (k : Int) : Str := repS ⟨#[46]⟩ (1 + shI (itemAt gs k.toNat)) ++ chAt sg k
theorem repS_len (n : Int) : (repS ⟨#[46]⟩ n).length = n.toNat := by
  show (List.flatten _).toArray.size = _
  simp
structure ToP (i : Int) (ys : List Value) (sg : Str) (gs xs : List Value) (m : Nat) : Prop where
  ls : LsP i ys m
  ya : AllInt ys
  yg : ∀ v ∈ ys, 0 ≤ shI v ∧ shI v < gs.length ∧ shI v < sg.length
  ga : AllInt gs
  gl : gs.length ≤ 100
  g0 : ∀ v ∈ gs, 0 ≤ shI v ∧ shI v ≤ 20
  sl : sg.length ≤ 100
  xa : AllStr xs
  xl : xs.length + ys.length ≤ 500 + i.toNat
structure ToR (i : Int) (ys : List Value) (sg : Str) (gs xs xs' : List Value) : Prop where
  xa : AllStr xs'
  xm : xs'.map shS = xs.map shS ++ (ys.drop i.toNat).map (fun v => tolW sg gs (shI v))
section
variable {i : Int} {ys gs xs xs' : List Value} {sg : Str} {m : Nat}
theorem ToP.m0 (h : ToP i ys sg gs xs 0) : ys.length ≤ i.toNat := by have := h.ls.im; have := h.ls.i0; lia
theorem ToP.fin (h : ToP i ys sg gs xs m) (hi : ys.length ≤ i.toNat) : ToR i ys sg gs xs xs := ⟨h.xa, by rw [List.drop_eq_nil_of_le hi]; simp⟩
theorem ToP.item (h : ToP i ys sg gs xs m) (hi : i.toNat < ys.length) : itemAt ys i.toNat = .int (shI (itemAt ys i.toNat)) (shT (itemAt ys i.toNat)) ∧ i.toNat < ys.length := ⟨item_int h.ya hi, hi⟩
theorem ToP.g (h : ToP i ys sg gs xs m) (hi : i.toNat < ys.length) : (0 ≤ shI (itemAt ys i.toNat) ∧ (shI (itemAt ys i.toNat)).toNat < gs.length ∧ gs.length ≤ sizeLine) ∧ itemAt gs (shI (itemAt ys i.toNat)).toNat = .int (shI (itemAt gs (shI (itemAt ys i.toNat)).toNat)) (shT (itemAt gs (shI (itemAt ys i.toNat)).toNat)) := by
  have := h.yg _ (item_mem hi); have := h.gl
  exact get_ob h.ga (by lia) (by lia) (by lia)
theorem ToP.gb (h : ToP i ys sg gs xs m) (hi : i.toNat < ys.length) : 0 ≤ shI (itemAt gs (shI (itemAt ys i.toNat)).toNat) ∧ shI (itemAt gs (shI (itemAt ys i.toNat)).toNat) ≤ 20 := h.g0 _ (item_mem (by have := h.yg _ (item_mem hi); lia))
theorem ToP.mul (h : ToP i ys sg gs xs m) (hi : i.toNat < ys.length) : ((1 + shI (itemAt gs (shI (itemAt ys i.toNat)).toNat) ≤ (sizeLine : Int)) ∧ (⟨#[46]⟩ : Str).length * (1 + shI (itemAt gs (shI (itemAt ys i.toNat)).toNat)).toNat ≤ sizeLine) ∧ -(2 ^ 62) ≤ 1 + shI (itemAt gs (shI (itemAt ys i.toNat)).toNat) := by
  have := h.gb hi
  have := small_line
  have e : (⟨#[46]⟩ : Str).length = 1 := rfl
  rw [e]
  lia
theorem ToP.sg1 (h : ToP i ys sg gs xs m) (hi : i.toNat < ys.length) : 0 ≤ shI (itemAt ys i.toNat) ∧ (shI (itemAt ys i.toNat)).toNat < sg.length ∧ sg.length ≤ sizeLine := by
  have := h.yg _ (item_mem hi); have := h.sl; have := small_line
  lia
theorem ToP.add (h : ToP i ys sg gs xs m) (hi : i.toNat < ys.length) : (repS ⟨#[46]⟩ (1 + shI (itemAt gs (shI (itemAt ys i.toNat)).toNat)) ++ chAt sg (shI (itemAt ys i.toNat))).length ≤ sizeLine := by
  have := h.gb hi
  have := small_line
  rw [Str.length_append, repS_len, chAt_len]
  lia
theorem ToP.ob (h : ToP i ys sg gs xs m) : xs.length ≤ sizeLine := by have := h.xl; have := h.ls.il; have := h.ls.i0; have := h.ls.yl; have := line1000; lia
theorem ToP.next (h : ToP i ys sg gs xs (m + 1)) (hi : i.toNat < ys.length) {x : Str} {t : Tok} : ToP (i + 1) ys sg gs (xs ++ [.str x t]) m := by
  have := h.xl; have := h.ls.i0
  exact ⟨h.ls.next hi, h.ya, h.yg, h.ga, h.gl, h.g0, h.sl, h.xa.app (AllStr.one _ _), by simp; lia⟩
theorem ToP.step (h : ToP i ys sg gs xs (m + 1)) (hi : i.toNat < ys.length) {t : Tok} (r : ToR (i + 1) ys sg gs (xs ++ [.str (repS ⟨#[46]⟩ (1 + shI (itemAt gs (shI (itemAt ys i.toNat)).toNat)) ++ chAt sg (shI (itemAt ys i.toNat))) t]) xs') : ToR i ys sg gs xs xs' := by
  refine ⟨r.xa, ?_⟩
  rw [r.xm, drop_item h.ls.i0 hi]
  simp [shS, tolW]
end
noncomputable def rvsL (ws : List Value) (cnt : Int) : Nat → Int → List Str
  | 0, _ => []
  | m + 1, k => shS (itemAt ws (cnt - 1 - k).toNat) :: rvsL ws cnt m (k + 1)
structure RvP (cur left cnt : Int) (ws xs : List Value) (m : Nat) : Prop where
  rg : RgP cur left m
  cl : cur + left = cnt
  cw : cnt = ws.length
  w6 : ws.length ≤ 6
  wa : AllStr ws
  xa : AllStr xs
  xl : xs.length + left.toNat ≤ 1000
structure RvR (cur left cnt : Int) (ws xs xs' : List Value) : Prop where
  xa : AllStr xs'
  xm : xs'.map shS = xs.map shS ++ rvsL ws cnt left.toNat cur
section
variable {cur left cnt : Int} {ws xs xs' : List Value} {m : Nat}
theorem RvP.m0 (h : RvP cur left cnt ws xs 0) : left ≤ 0 := by have := h.rg.lm; lia
theorem RvP.fin (h : RvP cur left cnt ws xs m) (h0 : left ≤ 0) : RvR cur left cnt ws xs xs := ⟨h.xa, by rw [show left.toNat = 0 by lia]; simp [rvsL]⟩
theorem RvP.g (h : RvP cur left cnt ws xs m) (h0 : 0 < left) : (0 ≤ cnt - 1 - cur ∧ (cnt - 1 - cur).toNat < ws.length ∧ ws.length ≤ sizeLine) ∧ itemAt ws (cnt - 1 - cur).toNat = .str (shS (itemAt ws (cnt - 1 - cur).toNat)) (shT (itemAt ws (cnt - 1 - cur).toNat)) := by
  have := h.rg.c0; have := h.cl; have := h.cw; have := h.w6; have := line100
  have hi : (cnt - 1 - cur).toNat < ws.length := by lia
  exact ⟨⟨by lia, hi, by lia⟩, h.wa _ (item_mem hi)⟩
theorem RvP.ob (h : RvP cur left cnt ws xs m) : xs.length ≤ sizeLine := by have := h.xl; have := line1000; lia
theorem RvP.next (h : RvP cur left cnt ws xs (m + 1)) (h0 : 0 < left) {x : Str} {t : Tok} : RvP (cur + 1) (left - 1) cnt ws (xs ++ [.str x t]) m := by
  have := h.xl; have := h.cl
  exact ⟨h.rg.next h0, by lia, h.cw, h.w6, h.wa, h.xa.app (AllStr.one _ _), by simp; lia⟩
theorem RvP.step (h : RvP cur left cnt ws xs (m + 1)) (h0 : 0 < left) {t : Tok} (r : RvR (cur + 1) (left - 1) cnt ws (xs ++ [.str (shS (itemAt ws (cnt - 1 - cur).toNat)) t]) xs') : RvR cur left cnt ws xs xs' := by
  refine ⟨r.xa, ?_⟩
  rw [r.xm, show left.toNat = (left - 1).toNat + 1 by lia, rvsL]
  simp [shS]
end
noncomputable def dotsOf (tl pc : List Value) (k : Int) : Int := (cntS (shS (itemAt tl (shI (itemAt pc k.toNat)).toNat)) ⟨#[46]⟩ : Nat)
noncomputable def othL (tl pc : List Value) (cnt : Int) : Nat → Int → Int → Int
  | 0, _, o => o
  | m + 1, k, o => othL tl pc cnt m (k + 1) (o * (cnt - k) + dotsOf tl pc k - 1)
structure OtP (cur left cnt o : Int) (pc tl : List Value) (m : Nat) : Prop where
  rg : RgP cur left m
  cl : cur + left ≤ cnt
  c6 : cnt ≤ 6
  pl : cnt ≤ pc.length
  p1 : pc.length ≤ 100
  pa : AllInt pc
  pt : ∀ v ∈ pc, 0 ≤ shI v ∧ shI v < tl.length
  tl1 : tl.length ≤ 100
  ta : AllStr tl
  td : ∀ v ∈ tl, cntS (shS v) ⟨#[46]⟩ ≤ 20
  ob : o.natAbs ≤ 100 ^ cur.toNat
structure OtR (cur left cnt o : Int) (pc tl : List Value) (o' : Int) : Prop where
  e : o' = othL tl pc cnt left.toNat cur o
section
variable {cur left cnt o : Int} {pc tl : List Value} {m : Nat}
theorem OtP.m0 (h : OtP cur left cnt o pc tl 0) : left ≤ 0 := by have := h.rg.lm; lia
theorem OtP.fin (h : OtP cur left cnt o pc tl m) (h0 : left ≤ 0) : OtR cur left cnt o pc tl o := ⟨by rw [show left.toNat = 0 by lia]; rfl⟩
theorem pow_small {k : Nat} (h : k ≤ 6) : 100 ^ k ≤ 1000000000000 := by
  calc 100 ^ k ≤ 100 ^ 6 := Nat.pow_le_pow_right (by decide) h
    _ = _ := by decide
theorem mulOk_small {a b : Int} (h : a.natAbs ≤ 1000000000000000000) : IntMulOk a b := IntMulOk.of_left (intBits_le_64 (by lia) (by lia))
theorem OtP.mul (h : OtP cur left cnt o pc tl m) : IntMulOk o (cnt - cur) := by
  have := h.c6; have := h.cl; have := h.rg.l0; have := h.rg.c0
  have := pow_small (k := cur.toNat) (by lia)
  have := h.ob
  exact mulOk_small (by lia)
theorem OtP.g1 (h : OtP cur left cnt o pc tl m) (h0 : 0 < left) : (0 ≤ cur ∧ cur.toNat < pc.length ∧ pc.length ≤ sizeLine) ∧ itemAt pc cur.toNat = .int (shI (itemAt pc cur.toNat)) (shT (itemAt pc cur.toNat)) := by
  have := h.rg.c0; have := h.pl; have := h.p1; have := h.cl
  exact get_ob h.pa h.rg.c0 (by lia) (by lia)
theorem tl_get {pc tl : List Value} (pt : ∀ v ∈ pc, 0 ≤ shI v ∧ shI v < tl.length) (tl1 : tl.length ≤ 100) (ta : AllStr tl) {n : Nat} (hn : n < pc.length) :
    (0 ≤ shI (itemAt pc n) ∧ (shI (itemAt pc n)).toNat < tl.length ∧ tl.length ≤ sizeLine) ∧ itemAt tl (shI (itemAt pc n)).toNat = .str (shS (itemAt tl (shI (itemAt pc n)).toNat)) (shT (itemAt tl (shI (itemAt pc n)).toNat)) := by
  have := pt _ (item_mem hn); have := line100
  have hi : (shI (itemAt pc n)).toNat < tl.length := by lia
  exact ⟨⟨by lia, hi, by lia⟩, ta _ (item_mem hi)⟩
theorem OtP.g2 (h : OtP cur left cnt o pc tl m) (h0 : 0 < left) : (0 ≤ shI (itemAt pc cur.toNat) ∧ (shI (itemAt pc cur.toNat)).toNat < tl.length ∧ tl.length ≤ sizeLine) ∧ itemAt tl (shI (itemAt pc cur.toNat)).toNat = .str (shS (itemAt tl (shI (itemAt pc cur.toNat)).toNat)) (shT (itemAt tl (shI (itemAt pc cur.toNat)).toNat)) :=
  tl_get h.pt h.tl1 h.ta (h.g1 h0).1.2.1
theorem dots_bd {pc tl : List Value} (pt : ∀ v ∈ pc, 0 ≤ shI v ∧ shI v < tl.length) (td : ∀ v ∈ tl, cntS (shS v) ⟨#[46]⟩ ≤ 20) {k : Int} (hn : k.toNat < pc.length) : 0 ≤ dotsOf tl pc k ∧ dotsOf tl pc k ≤ 20 := by
  have := pt _ (item_mem hn)
  have := td _ (item_mem (l := tl) (i := (shI (itemAt pc k.toNat)).toNat) (by lia))
  unfold dotsOf
  lia
theorem mul_bd {o c : Int} {K : Nat} (h : o.natAbs ≤ K) (h0 : 0 ≤ c) (h1 : c ≤ 7) : (o * c).natAbs ≤ K * 7 := by
  rw [Int.natAbs_mul]
  exact Nat.mul_le_mul h (by lia)
theorem OtP.next (h : OtP cur left cnt o pc tl (m + 1)) (h0 : 0 < left) : OtP (cur + 1) (left - 1) cnt (o * (cnt - cur) + dotsOf tl pc cur - 1) pc tl m := by
  have h1 := h.cl; have h2 := h.c6; have h3 := h.rg.c0
  have hd := dots_bd h.pt h.td (h.g1 h0).1.2.1
  have hm := mul_bd (c := cnt - cur) h.ob (by lia) (by lia)
  have hp : 1 ≤ 100 ^ cur.toNat := Nat.pow_le_pow_right (by decide : 0 < 100) (Nat.zero_le _)
  refine ⟨h.rg.next h0, by lia, h2, h.pl, h.p1, h.pa, h.pt, h.tl1, h.ta, h.td, ?_⟩
  rw [show (cur + 1).toNat = cur.toNat + 1 by lia, Nat.pow_succ]
  generalize o * (cnt - cur) = z at *
  lia
theorem OtP.step (h : OtP cur left cnt o pc tl (m + 1)) (h0 : 0 < left) {o' : Int} (r : OtR (cur + 1) (left - 1) cnt (o * (cnt - cur) + dotsOf tl pc cur - 1) pc tl o') : OtR cur left cnt o pc tl o' := by
  refine ⟨?_⟩
  rw [r.e, show left.toNat = (left - 1).toNat + 1 by lia, othL]
end
noncomputable def bakL (tl pc : List Value) : Nat → Int → Int → Int
  | 0, _, o => o
  | m + 1, k, o => bakL tl pc m (k - 1) (o * (k + 1) + k + 1 - dotsOf tl pc k)
structure BkP (cur left o : Int) (pc tl : List Value) (m : Nat) : Prop where
  l0 : 0 ≤ left
  lm : left ≤ m
  c0 : cur = left
  c5 : cur ≤ 5
  pl : cur < pc.length
  p1 : pc.length ≤ 100
  pa : AllInt pc
  pt : ∀ v ∈ pc, 0 ≤ shI v ∧ shI v < tl.length
  tl1 : tl.length ≤ 100
  ta : AllStr tl
  td : ∀ v ∈ tl, cntS (shS v) ⟨#[46]⟩ ≤ 20
  ob : o.natAbs ≤ 65536 * 100 ^ (5 - cur.toNat)
structure BkR (cur left o : Int) (pc tl : List Value) (o' : Int) : Prop where
  e : o' = bakL tl pc left.toNat cur o
section
variable {cur left o : Int} {pc tl : List Value} {m : Nat}
theorem BkP.m0 (h : BkP cur left o pc tl 0) : left ≤ 0 := by have := h.lm; lia
theorem BkP.fin (h : BkP cur left o pc tl m) (h0 : left ≤ 0) : BkR cur left o pc tl o := ⟨by rw [show left.toNat = 0 by lia]; rfl⟩
theorem BkP.mul (h : BkP cur left o pc tl m) : IntMulOk o (cur + 1) := by
  have := pow_small (k := 5 - cur.toNat) (by lia)
  have := h.ob
  exact mulOk_small (by lia)
theorem BkP.g1 (h : BkP cur left o pc tl m) (h0 : 0 < left) : (0 ≤ cur ∧ cur.toNat < pc.length ∧ pc.length ≤ sizeLine) ∧ itemAt pc cur.toNat = .int (shI (itemAt pc cur.toNat)) (shT (itemAt pc cur.toNat)) := by
  have := h.c0; have := h.pl; have := h.p1
  exact get_ob h.pa (by lia) (by lia) (by lia)
theorem BkP.g2 (h : BkP cur left o pc tl m) (h0 : 0 < left) : (0 ≤ shI (itemAt pc cur.toNat) ∧ (shI (itemAt pc cur.toNat)).toNat < tl.length ∧ tl.length ≤ sizeLine) ∧ itemAt tl (shI (itemAt pc cur.toNat)).toNat = .str (shS (itemAt tl (shI (itemAt pc cur.toNat)).toNat)) (shT (itemAt tl (shI (itemAt pc cur.toNat)).toNat)) :=
  tl_get h.pt h.tl1 h.ta (h.g1 h0).1.2.1
theorem BkP.next (h : BkP cur left o pc tl (m + 1)) (h0 : 0 < left) : BkP (cur + -1) (left - 1) (o * (cur + 1) + cur + 1 - dotsOf tl pc cur) pc tl m := by
  have h1 := h.c0; have h2 := h.c5; have h3 := h.pl; have h4 := h.lm
  have hd := dots_bd h.pt h.td (h.g1 h0).1.2.1
  have hm := mul_bd (c := cur + 1) h.ob (by lia) (by lia)
  have hp : 1 ≤ 100 ^ (5 - cur.toNat) := Nat.pow_le_pow_right (by decide : 0 < 100) (Nat.zero_le _)
  refine ⟨by lia, by lia, by lia, by lia, by lia, h.p1, h.pa, h.pt, h.tl1, h.ta, h.td, ?_⟩
  rw [show 5 - (cur + -1).toNat = (5 - cur.toNat) + 1 by lia, Nat.pow_succ]
  generalize o * (cur + 1) = z at *
  lia
theorem BkP.step (h : BkP cur left o pc tl (m + 1)) (h0 : 0 < left) {o' : Int} (r : BkR (cur + -1) (left - 1) (o * (cur + 1) + cur + 1 - dotsOf tl pc cur) pc tl o') : BkR cur left o pc tl o' := by
  refine ⟨?_⟩
  rw [r.e, show left.toNat = (left - 1).toNat + 1 by lia, bakL]
  rfl
end
end Mine
end
section

namespace Mine
open PySem PySem.Spec PySem.Calls PyProof.Rows PySem.W PySem.W.X PySem.Builtin.Str
noncomputable def stdI (B : Bs) : List (BCut B) := stdH B ++ [riterNC B]
noncomputable def S_t1 (W : Wd) (m : Nat) : Sp (BB W) :=
  let B := BB W
  let pr := fun q : Lt => [((q.a 0),dictO [kv B s_k (q.t 0) (q.v 0)] 1),((q.a 2),fieldsO tLI [(.ref (q.a 6)),(.int (q.i 0) (q.t 1))]),((q.a 3),listO (q.l 0) (q.t 2)),((q.a 4),cellO (.str (q.s 0) (q.t 3))),((q.a 5),cellO (.ref (q.a 7))),((q.a 7),listO (q.l 1) (q.t 4)),((q.a 6),listO (q.l 2) (q.t 5))]
  { d := 100
    c := fun q => .compLoop (kids (exOf (lwS W.w [18])) [1, 1]) 0 (.ref (q.a 2)) (.ref (q.a 3)) (compEnv (kids (exOf (lwS W.w [18])) [1, 1]) (lwEnv W.w (q.a 1) 0 (q.a 4) 0 0 0 0 (q.a 5) 0) (q.a 0) [(s_signs, (q.a 4)), (s_greater, (q.a 5))])
    P := fun q => ToP (q.i 0) (q.l 2) (q.s 0) (q.l 1) (q.l 0) m
    pre := pr
    R := fun q e => ToR (q.i 0) (q.l 2) (q.s 0) (q.l 1) (q.l 0) (e.l 0)
    res := fun q e => .ok .next
    out := fun q e => [((q.a 0),dictO [kv B s_k (q.t 0) (e.v 0)] 1),((q.a 3),listO (e.l 0) (e.t 0))]++(pr q).drop 3 }
noncomputable def on_t1 : Code → View → Lt := fun c V => lt [(cEnv c).locals,envFrame (cEnv c),valA (cIt c),valA (cAcc c),envCell 0 (cEnv c),envCell 1 (cEnv c),valA (nthV (sQ V 1) 0),cA V 4] [kT V 0 0,qT V 1 1,eP V 2,cT V 3,eP V 5,eP V 6] [qI V 1 1] [valS (cellV (nthO V 3))] [dV V 0 0] [sQ V 2,sQ V 5,sQ V 6] []
noncomputable def S_t1f (W : Wd) (m : Nat) : Sp (BB W) :=
  let B := BB W
  let pr := fun q : Lt => [((q.a 0),dictO [] 0),((q.a 2),fieldsO tLI [(.ref (q.a 6)),(.int (q.i 0) (q.t 0))]),((q.a 3),listO (q.l 0) (q.t 1)),((q.a 4),cellO (.str (q.s 0) (q.t 2))),((q.a 5),cellO (.ref (q.a 7))),((q.a 7),listO (q.l 1) (q.t 3)),((q.a 6),listO (q.l 2) (q.t 4))]
  { d := 100
    c := fun q => .compLoop (kids (exOf (lwS W.w [18])) [1, 1]) 0 (.ref (q.a 2)) (.ref (q.a 3)) (compEnv (kids (exOf (lwS W.w [18])) [1, 1]) (lwEnv W.w (q.a 1) 0 (q.a 4) 0 0 0 0 (q.a 5) 0) (q.a 0) [(s_signs, (q.a 4)), (s_greater, (q.a 5))])
    P := fun q => ToP (q.i 0) (q.l 2) (q.s 0) (q.l 1) (q.l 0) m ∧ ((q.i 0)).toNat < ((q.l 2)).length
    pre := pr
    R := fun q e => ToR (q.i 0) (q.l 2) (q.s 0) (q.l 1) (q.l 0) (e.l 0)
    res := fun q e => .ok .next
    out := fun q e => [((q.a 0),dictO [kv B s_k (e.t 0) (e.v 0)] 1),((q.a 3),listO (e.l 0) (e.t 1))]++(pr q).drop 3 }
noncomputable def on_t1f : Code → View → Lt := fun c V => lt [(cEnv c).locals,envFrame (cEnv c),valA (cIt c),valA (cAcc c),envCell 0 (cEnv c),envCell 1 (cEnv c),valA (nthV (sQ V 1) 0),cA V 4] [qT V 1 1,eP V 2,cT V 3,eP V 5,eP V 6] [qI V 1 1] [valS (cellV (nthO V 3))] [] [sQ V 2,sQ V 5,sQ V 6] []
noncomputable def S_t1a (W : Wd) (m : Nat) : Sp (BB W) := Sp.start (S_t1f W m)
noncomputable abbrev on_t1a := on_t1f
theorem t1_end (W : Wd) (O : (BB W).Ok) (m : Nat) (q : Lt) (hq : (S_t1 W m).P q) (hl : ((q.l 2)).length ≤ ((q.i 0)).toNat) : At (S_t1 W m) 100 q := by
  refine tri_f O (stdI _) [] 2000 100 (hs := hx 12 0x42087082005080080) (is := [2,3,3,3,3,3])
    (fun (ρ : Rho) => ob hl <| fin (S_t1 W m) q (lt [] [(q.t 2)] [] [] [(q.v 0)] [(q.l 0)] []) ((hq.fin hl)) :) ?_
  induction W using y_0 <;> kernel_rfl
theorem t1_s (W : Wd) (O : (BB W).Ok) (m : Nat) (ih : (S_t1 W m).Ok) (q : Lt) (hq : (S_t1 W (m + 1)).P q) (hl : ((q.i 0)).toNat < ((q.l 2)).length) : At (S_t1 W (m + 1)) 100 q := by
  refine tri_f O (stdI _) [U (S_t1 W m) ih on_t1] 2000 100 (hs := hx 54 0x700309e083012080a8200112b080000000045802180186181141042087082085080080) (is := [0,0,0,0,0,0])
    (fun (ρ : Rho) => let z0 := shI (itemAt (q.l 2) ((q.i 0).toNat)); let z1 := shI (itemAt (q.l 2) (Int.toNat (q.i 0))); let z2 := itemAt (q.l 2) ((q.i 0).toNat); ob (A := (risD (It.mk (Value.ref (q.a 2)) (q.i 0) (0 : Int) (0 : Int) (Array.mk (q.l 2))) (2))) (hq.item hl) <| ob (A := (((0 : Int) ≤ shI z2 ∧ Int.toNat z0 < List.length (q.l 1) ∧ List.length (q.l 1) ≤ sizeLine) ∧ itemAt (q.l 1) (Int.toNat z0) = Value.int (shI (itemAt (q.l 1) (Int.toNat z0))) (shT (itemAt (q.l 1) (Int.toNat z0))))) (hq.g hl) <| ob (A := (((1 : Int) + shI (itemAt (q.l 1) (Int.toNat z0)) ≤ ↑sizeLine ∧ Str.length (mS [46]) * Int.toNat ((1 : Int) + shI (itemAt (q.l 1) (Int.toNat z0))) ≤ sizeLine) ∧ -(2 : Int) ^ 62 ≤ (1 : Int) + shI (itemAt (q.l 1) (Int.toNat z0)))) (hq.mul hl) <| ob (A := ((0 : Int) ≤ shI z2 ∧ Int.toNat z0 < Str.length (q.s 0) ∧ Str.length (q.s 0) ≤ sizeLine)) (hq.sg1 hl) <| ob (A := (Str.length (repS (mS [46]) ((1 : Int) + shI (itemAt (q.l 1) (Int.toNat z0)))++chAt (q.s 0) z0) ≤ sizeLine)) (hq.add hl) <| ob (A := (List.length (q.l 0) ≤ sizeLine)) (hq.ob) <| ob (A := (ToP (q.i 0 + 1 : Int) (q.l 2) (q.s 0) (q.l 1) (q.l 0++[Value.str (repS (mS [46]) (1 + shI (itemAt (q.l 1) (Int.toNat z0)))++chAt (q.s 0) z0) (ρ.n 6)]) m)) (hq.next hl) <| fun he0 : ToR (q.i 0 + 1 : Int) (q.l 2) (q.s 0) (q.l 1) (q.l 0++[Value.str (repS (mS [46]) (1 + shI (itemAt (q.l 1) (Int.toNat z1)))++chAt (q.s 0) z1) (ρ.n 6)]) ((ρ.2 0).l 0) => fin (S_t1 W (m + 1)) q (lt [] [(ρ.2 0).2 0] [] [] [(ρ.2 0).5 0] [(ρ.2 0).6 0] []) ((hq.step hl he0)) :) ?_
  induction W using y_0 <;> kernel_rfl
theorem t1_ok (W : Wd) (O : (BB W).Ok) : ∀ m, (S_t1 W m).Ok
  | 0 => fun q hq => t1_end W O 0 q hq (hq.m0)
  | m + 1 => fun q hq => by
    by_cases hl : ((q.l 2)).length ≤ ((q.i 0)).toNat
    · exact t1_end W O (m + 1) q hq hl
    · exact t1_s W O  m (t1_ok W O m) q hq (by first | lia | exact hq.2)
theorem t1f_s (W : Wd) (O : (BB W).Ok) (m : Nat) (ih : (S_t1 W m).Ok) (q : Lt) (hq : (S_t1f W (m + 1)).P q) (hl : ((q.i 0)).toNat < ((q.l 2)).length) : At (S_t1f W (m + 1)) 100 q := by
  refine tri_f O (stdI _) [U (S_t1 W m) ih on_t1] 2000 100 (hs := hx 54 0x700309e083012080a8200112b080000000045802180186181141042087082085080080) (is := [0,0,0,0,0,0])
    (fun (ρ : Rho) => let z0 := shI (itemAt (q.l 2) ((q.i 0).toNat)); let z1 := shI (itemAt (q.l 2) (Int.toNat (q.i 0))); let z2 := itemAt (q.l 2) ((q.i 0).toNat); ob (A := (risD (It.mk (Value.ref (q.a 2)) (q.i 0) (0 : Int) (0 : Int) (Array.mk (q.l 2))) (2))) (hq.1.item hl) <| ob (A := (((0 : Int) ≤ shI z2 ∧ Int.toNat z0 < List.length (q.l 1) ∧ List.length (q.l 1) ≤ sizeLine) ∧ itemAt (q.l 1) (Int.toNat z0) = Value.int (shI (itemAt (q.l 1) (Int.toNat z0))) (shT (itemAt (q.l 1) (Int.toNat z0))))) (hq.1.g hl) <| ob (A := (((1 : Int) + shI (itemAt (q.l 1) (Int.toNat z0)) ≤ ↑sizeLine ∧ Str.length (mS [46]) * Int.toNat ((1 : Int) + shI (itemAt (q.l 1) (Int.toNat z0))) ≤ sizeLine) ∧ -(2 : Int) ^ 62 ≤ (1 : Int) + shI (itemAt (q.l 1) (Int.toNat z0)))) (hq.1.mul hl) <| ob (A := ((0 : Int) ≤ shI z2 ∧ Int.toNat z0 < Str.length (q.s 0) ∧ Str.length (q.s 0) ≤ sizeLine)) (hq.1.sg1 hl) <| ob (A := (Str.length (repS (mS [46]) ((1 : Int) + shI (itemAt (q.l 1) (Int.toNat z0)))++chAt (q.s 0) z0) ≤ sizeLine)) (hq.1.add hl) <| ob (A := (List.length (q.l 0) ≤ sizeLine)) (hq.1.ob) <| ob (A := (ToP (q.i 0 + 1 : Int) (q.l 2) (q.s 0) (q.l 1) (q.l 0++[Value.str (repS (mS [46]) (1 + shI (itemAt (q.l 1) (Int.toNat z0)))++chAt (q.s 0) z0) (ρ.n 6)]) m)) (hq.1.next hl) <| fun he0 : ToR (q.i 0 + 1 : Int) (q.l 2) (q.s 0) (q.l 1) (q.l 0++[Value.str (repS (mS [46]) (1 + shI (itemAt (q.l 1) (Int.toNat z1)))++chAt (q.s 0) z1) (ρ.n 6)]) ((ρ.2 0).l 0) => fin (S_t1f W (m + 1)) q (lt [] [ρ.1 0,(ρ.2 0).2 0] [] [] [(ρ.2 0).5 0] [(ρ.2 0).6 0] []) ((hq.1.step hl he0)) :) ?_
  induction W using y_0 <;> kernel_rfl
theorem t1f_ok (W : Wd) (O : (BB W).Ok) (m : Nat) : (S_t1f W (m + 1)).Ok := fun q hq => by
  exact t1f_s W O  m (t1_ok W O m) q hq (by first | lia | exact hq.2)
theorem t1a_true (W : Wd) (O : (BB W).Ok) (m : Nat) (q : Lt) (hq : (S_t1a W (m + 1)).P q) (hb : W.b2 = true) : At (S_t1a W (m + 1)) 100 q := by
  refine tri_f O (stdI _) [U (S_t1f W (m + 1)) (t1f_ok W O m) on_t1f] 2000 100 (hs := [0,3,0,7,0,0,0,0,0,0,0]) (is := [0,0,0,0,0,0])
    (fun (ρ : Rho) => ob hq <| fun he0 : ToR (q.i 0) (q.l 2) (q.s 0) (q.l 1) (q.l 0) ((ρ.2 0).l 0) => fin (S_t1a W (m + 1)) q (lt [] [(ρ.2 0).2 0,(ρ.2 0).2 1] [] [] [(ρ.2 0).5 0] [(ρ.2 0).6 0] []) (he0) :) ?_
  induction W, hb using y_true <;> kernel_rfl
theorem t1a_false (W : Wd) (O : (BB W).Ok) (m : Nat) (q : Lt) (hq : (S_t1a W (m + 1)).P q) (hb : W.b2 = false) : At (S_t1a W (m + 1)) 100 q := by
  refine tri_f O (stdI _) [U (S_t1f W (m + 1)) (t1f_ok W O m) on_t1f] 2000 100 (hs := hx 17 0x1c00c2002002080) (is := [0,0,0,0,0,0])
    (fun (ρ : Rho) => ob hq <| fun he0 : ToR (q.i 0) (q.l 2) (q.s 0) (q.l 1) (q.l 0) ((ρ.2 0).l 0) => fin (S_t1a W (m + 1)) q (lt [] [(ρ.2 0).2 0,(ρ.2 0).2 1] [] [] [(ρ.2 0).5 0] [(ρ.2 0).6 0] []) (he0) :) ?_
  induction W, hb using y_false <;> kernel_rfl
theorem t1a_ok (W : Wd) (O : (BB W).Ok) (m : Nat) : (S_t1a W (m + 1)).Ok := fun q hq => by
  cases hb : W.b2 with
  | true => exact t1a_true W O m q hq hb
  | false => exact t1a_false W O m q hq hb
noncomputable def S_t2 (W : Wd) (m : Nat) : Sp (BB W) :=
  let B := BB W
  let pr := fun q : Lt => [((q.a 0),dictO [kv B s_k (q.t 0) (q.v 0)] 1),((q.a 2),fieldsO tLI [(.ref (q.a 6)),(.int (q.i 0) (q.t 1))]),((q.a 3),listO (q.l 0) (q.t 2)),((q.a 4),cellO (.str (q.s 0) (q.t 3))),((q.a 5),cellO (.ref (q.a 7))),((q.a 7),listO (q.l 1) (q.t 4)),((q.a 6),listO (q.l 2) (q.t 5))]
  { d := 100
    c := fun q => .compLoop (kids (exOf (lwS W.w [23])) [1, 1]) 0 (.ref (q.a 2)) (.ref (q.a 3)) (compEnv (kids (exOf (lwS W.w [23])) [1, 1]) (lwEnv W.w (q.a 1) 0 (q.a 4) 0 0 0 0 0 (q.a 5)) (q.a 0) [(s_signs, (q.a 4)), (s_lesser, (q.a 5))])
    P := fun q => ToP (q.i 0) (q.l 2) (q.s 0) (q.l 1) (q.l 0) m
    pre := pr
    R := fun q e => ToR (q.i 0) (q.l 2) (q.s 0) (q.l 1) (q.l 0) (e.l 0)
    res := fun q e => .ok .next
    out := fun q e => [((q.a 0),dictO [kv B s_k (q.t 0) (e.v 0)] 1),((q.a 3),listO (e.l 0) (e.t 0))]++(pr q).drop 3 }
noncomputable def on_t2 : Code → View → Lt := fun c V => lt [(cEnv c).locals,envFrame (cEnv c),valA (cIt c),valA (cAcc c),envCell 0 (cEnv c),envCell 1 (cEnv c),valA (nthV (sQ V 1) 0),cA V 4] [kT V 0 0,qT V 1 1,eP V 2,cT V 3,eP V 5,eP V 6] [qI V 1 1] [valS (cellV (nthO V 3))] [dV V 0 0] [sQ V 2,sQ V 5,sQ V 6] []
noncomputable def S_t2f (W : Wd) (m : Nat) : Sp (BB W) :=
  let B := BB W
  let pr := fun q : Lt => [((q.a 0),dictO [] 0),((q.a 2),fieldsO tLI [(.ref (q.a 6)),(.int (q.i 0) (q.t 0))]),((q.a 3),listO (q.l 0) (q.t 1)),((q.a 4),cellO (.str (q.s 0) (q.t 2))),((q.a 5),cellO (.ref (q.a 7))),((q.a 7),listO (q.l 1) (q.t 3)),((q.a 6),listO (q.l 2) (q.t 4))]
  { d := 100
    c := fun q => .compLoop (kids (exOf (lwS W.w [23])) [1, 1]) 0 (.ref (q.a 2)) (.ref (q.a 3)) (compEnv (kids (exOf (lwS W.w [23])) [1, 1]) (lwEnv W.w (q.a 1) 0 (q.a 4) 0 0 0 0 0 (q.a 5)) (q.a 0) [(s_signs, (q.a 4)), (s_lesser, (q.a 5))])
    P := fun q => ToP (q.i 0) (q.l 2) (q.s 0) (q.l 1) (q.l 0) m ∧ ((q.i 0)).toNat < ((q.l 2)).length
    pre := pr
    R := fun q e => ToR (q.i 0) (q.l 2) (q.s 0) (q.l 1) (q.l 0) (e.l 0)
    res := fun q e => .ok .next
    out := fun q e => [((q.a 0),dictO [kv B s_k (e.t 0) (e.v 0)] 1),((q.a 3),listO (e.l 0) (e.t 1))]++(pr q).drop 3 }
noncomputable def on_t2f : Code → View → Lt := fun c V => lt [(cEnv c).locals,envFrame (cEnv c),valA (cIt c),valA (cAcc c),envCell 0 (cEnv c),envCell 1 (cEnv c),valA (nthV (sQ V 1) 0),cA V 4] [qT V 1 1,eP V 2,cT V 3,eP V 5,eP V 6] [qI V 1 1] [valS (cellV (nthO V 3))] [] [sQ V 2,sQ V 5,sQ V 6] []
noncomputable def S_t2a (W : Wd) (m : Nat) : Sp (BB W) := Sp.start (S_t2f W m)
noncomputable abbrev on_t2a := on_t2f
theorem t2_end (W : Wd) (O : (BB W).Ok) (m : Nat) (q : Lt) (hq : (S_t2 W m).P q) (hl : ((q.l 2)).length ≤ ((q.i 0)).toNat) : At (S_t2 W m) 100 q := by
  refine tri_f O (stdI _) [] 2000 100 (hs := hx 12 0x42087082005080080) (is := [2,3,3,3,3,3])
    (fun (ρ : Rho) => ob hl <| fin (S_t2 W m) q (lt [] [(q.t 2)] [] [] [(q.v 0)] [(q.l 0)] []) ((hq.fin hl)) :) ?_
  induction W using y_0 <;> kernel_rfl
theorem t2_s (W : Wd) (O : (BB W).Ok) (m : Nat) (ih : (S_t2 W m).Ok) (q : Lt) (hq : (S_t2 W (m + 1)).P q) (hl : ((q.i 0)).toNat < ((q.l 2)).length) : At (S_t2 W (m + 1)) 100 q := by
  refine tri_f O (stdI _) [U (S_t2 W m) ih on_t2] 2000 100 (hs := hx 54 0x700309e083012080a8200112b080000000045802180186181141042087082085080080) (is := [0,0,0,0,0,0])
    (fun (ρ : Rho) => let z0 := shI (itemAt (q.l 2) ((q.i 0).toNat)); let z1 := shI (itemAt (q.l 2) (Int.toNat (q.i 0))); let z2 := itemAt (q.l 2) ((q.i 0).toNat); ob (A := (risD (It.mk (Value.ref (q.a 2)) (q.i 0) (0 : Int) (0 : Int) (Array.mk (q.l 2))) (2))) (hq.item hl) <| ob (A := (((0 : Int) ≤ shI z2 ∧ Int.toNat z0 < List.length (q.l 1) ∧ List.length (q.l 1) ≤ sizeLine) ∧ itemAt (q.l 1) (Int.toNat z0) = Value.int (shI (itemAt (q.l 1) (Int.toNat z0))) (shT (itemAt (q.l 1) (Int.toNat z0))))) (hq.g hl) <| ob (A := (((1 : Int) + shI (itemAt (q.l 1) (Int.toNat z0)) ≤ ↑sizeLine ∧ Str.length (mS [46]) * Int.toNat ((1 : Int) + shI (itemAt (q.l 1) (Int.toNat z0))) ≤ sizeLine) ∧ -(2 : Int) ^ 62 ≤ (1 : Int) + shI (itemAt (q.l 1) (Int.toNat z0)))) (hq.mul hl) <| ob (A := ((0 : Int) ≤ shI z2 ∧ Int.toNat z0 < Str.length (q.s 0) ∧ Str.length (q.s 0) ≤ sizeLine)) (hq.sg1 hl) <| ob (A := (Str.length (repS (mS [46]) ((1 : Int) + shI (itemAt (q.l 1) (Int.toNat z0)))++chAt (q.s 0) z0) ≤ sizeLine)) (hq.add hl) <| ob (A := (List.length (q.l 0) ≤ sizeLine)) (hq.ob) <| ob (A := (ToP (q.i 0 + 1 : Int) (q.l 2) (q.s 0) (q.l 1) (q.l 0++[Value.str (repS (mS [46]) (1 + shI (itemAt (q.l 1) (Int.toNat z0)))++chAt (q.s 0) z0) (ρ.n 6)]) m)) (hq.next hl) <| fun he0 : ToR (q.i 0 + 1 : Int) (q.l 2) (q.s 0) (q.l 1) (q.l 0++[Value.str (repS (mS [46]) (1 + shI (itemAt (q.l 1) (Int.toNat z1)))++chAt (q.s 0) z1) (ρ.n 6)]) ((ρ.2 0).l 0) => fin (S_t2 W (m + 1)) q (lt [] [(ρ.2 0).2 0] [] [] [(ρ.2 0).5 0] [(ρ.2 0).6 0] []) ((hq.step hl he0)) :) ?_
  induction W using y_0 <;> kernel_rfl
theorem t2_ok (W : Wd) (O : (BB W).Ok) : ∀ m, (S_t2 W m).Ok
  | 0 => fun q hq => t2_end W O 0 q hq (hq.m0)
  | m + 1 => fun q hq => by
    by_cases hl : ((q.l 2)).length ≤ ((q.i 0)).toNat
    · exact t2_end W O (m + 1) q hq hl
    · exact t2_s W O  m (t2_ok W O m) q hq (by first | lia | exact hq.2)
theorem t2f_s (W : Wd) (O : (BB W).Ok) (m : Nat) (ih : (S_t2 W m).Ok) (q : Lt) (hq : (S_t2f W (m + 1)).P q) (hl : ((q.i 0)).toNat < ((q.l 2)).length) : At (S_t2f W (m + 1)) 100 q := by
  refine tri_f O (stdI _) [U (S_t2 W m) ih on_t2] 2000 100 (hs := hx 54 0x700309e083012080a8200112b080000000045802180186181141042087082085080080) (is := [0,0,0,0,0,0])
    (fun (ρ : Rho) => let z0 := shI (itemAt (q.l 2) ((q.i 0).toNat)); let z1 := shI (itemAt (q.l 2) (Int.toNat (q.i 0))); let z2 := itemAt (q.l 2) ((q.i 0).toNat); ob (A := (risD (It.mk (Value.ref (q.a 2)) (q.i 0) (0 : Int) (0 : Int) (Array.mk (q.l 2))) (2))) (hq.1.item hl) <| ob (A := (((0 : Int) ≤ shI z2 ∧ Int.toNat z0 < List.length (q.l 1) ∧ List.length (q.l 1) ≤ sizeLine) ∧ itemAt (q.l 1) (Int.toNat z0) = Value.int (shI (itemAt (q.l 1) (Int.toNat z0))) (shT (itemAt (q.l 1) (Int.toNat z0))))) (hq.1.g hl) <| ob (A := (((1 : Int) + shI (itemAt (q.l 1) (Int.toNat z0)) ≤ ↑sizeLine ∧ Str.length (mS [46]) * Int.toNat ((1 : Int) + shI (itemAt (q.l 1) (Int.toNat z0))) ≤ sizeLine) ∧ -(2 : Int) ^ 62 ≤ (1 : Int) + shI (itemAt (q.l 1) (Int.toNat z0)))) (hq.1.mul hl) <| ob (A := ((0 : Int) ≤ shI z2 ∧ Int.toNat z0 < Str.length (q.s 0) ∧ Str.length (q.s 0) ≤ sizeLine)) (hq.1.sg1 hl) <| ob (A := (Str.length (repS (mS [46]) ((1 : Int) + shI (itemAt (q.l 1) (Int.toNat z0)))++chAt (q.s 0) z0) ≤ sizeLine)) (hq.1.add hl) <| ob (A := (List.length (q.l 0) ≤ sizeLine)) (hq.1.ob) <| ob (A := (ToP (q.i 0 + 1 : Int) (q.l 2) (q.s 0) (q.l 1) (q.l 0++[Value.str (repS (mS [46]) (1 + shI (itemAt (q.l 1) (Int.toNat z0)))++chAt (q.s 0) z0) (ρ.n 6)]) m)) (hq.1.next hl) <| fun he0 : ToR (q.i 0 + 1 : Int) (q.l 2) (q.s 0) (q.l 1) (q.l 0++[Value.str (repS (mS [46]) (1 + shI (itemAt (q.l 1) (Int.toNat z1)))++chAt (q.s 0) z1) (ρ.n 6)]) ((ρ.2 0).l 0) => fin (S_t2f W (m + 1)) q (lt [] [ρ.1 0,(ρ.2 0).2 0] [] [] [(ρ.2 0).5 0] [(ρ.2 0).6 0] []) ((hq.1.step hl he0)) :) ?_
  induction W using y_0 <;> kernel_rfl
theorem t2f_ok (W : Wd) (O : (BB W).Ok) (m : Nat) : (S_t2f W (m + 1)).Ok := fun q hq => by
  exact t2f_s W O  m (t2_ok W O m) q hq (by first | lia | exact hq.2)
theorem t2a_true (W : Wd) (O : (BB W).Ok) (m : Nat) (q : Lt) (hq : (S_t2a W (m + 1)).P q) (hb : W.b2 = true) : At (S_t2a W (m + 1)) 100 q := by
  refine tri_f O (stdI _) [U (S_t2f W (m + 1)) (t2f_ok W O m) on_t2f] 2000 100 (hs := [0,3,0,7,0,0,0,0,0,0,0]) (is := [0,0,0,0,0,0])
    (fun (ρ : Rho) => ob hq <| fun he0 : ToR (q.i 0) (q.l 2) (q.s 0) (q.l 1) (q.l 0) ((ρ.2 0).l 0) => fin (S_t2a W (m + 1)) q (lt [] [(ρ.2 0).2 0,(ρ.2 0).2 1] [] [] [(ρ.2 0).5 0] [(ρ.2 0).6 0] []) (he0) :) ?_
  induction W, hb using y_true <;> kernel_rfl
theorem t2a_false (W : Wd) (O : (BB W).Ok) (m : Nat) (q : Lt) (hq : (S_t2a W (m + 1)).P q) (hb : W.b2 = false) : At (S_t2a W (m + 1)) 100 q := by
  refine tri_f O (stdI _) [U (S_t2f W (m + 1)) (t2f_ok W O m) on_t2f] 2000 100 (hs := hx 17 0x1c00c2002002080) (is := [0,0,0,0,0,0])
    (fun (ρ : Rho) => ob hq <| fun he0 : ToR (q.i 0) (q.l 2) (q.s 0) (q.l 1) (q.l 0) ((ρ.2 0).l 0) => fin (S_t2a W (m + 1)) q (lt [] [(ρ.2 0).2 0,(ρ.2 0).2 1] [] [] [(ρ.2 0).5 0] [(ρ.2 0).6 0] []) (he0) :) ?_
  induction W, hb using y_false <;> kernel_rfl
theorem t2a_ok (W : Wd) (O : (BB W).Ok) (m : Nat) : (S_t2a W (m + 1)).Ok := fun q hq => by
  cases hb : W.b2 with
  | true => exact t2a_true W O m q hq hb
  | false => exact t2a_false W O m q hq hb
noncomputable def S_rv (W : Wd) (m : Nat) : Sp (BB W) :=
  let B := BB W
  let pr := fun q : Lt => [((q.a 0),dictO [kv B s_k (q.t 0) (q.v 0)] 1),((q.a 2),fieldsO tRG [(.int (q.i 0) (q.t 1)),(.int (q.i 1) (q.t 2)),(.int 1 (q.t 3))]),((q.a 3),listO (q.l 0) (q.t 4)),((q.a 4),cellO (.ref (q.a 6))),((q.a 6),listO (q.l 1) (q.t 5)),((q.a 5),cellO (.int (q.i 2) (q.t 6)))]
  { d := 100
    c := fun q => .compLoop (kids (exOf (lwS W.w [21])) [2]) 0 (.ref (q.a 2)) (.ref (q.a 3)) (compEnv (kids (exOf (lwS W.w [21])) [2]) (lwEnv W.w (q.a 1) (q.a 5) 0 0 (q.a 4) 0 0 0 0) (q.a 0) [(s_words, (q.a 4)), (s_count, (q.a 5))])
    P := fun q => RvP (q.i 0) (q.i 1) (q.i 2) (q.l 1) (q.l 0) m
    pre := pr
    R := fun q e => RvR (q.i 0) (q.i 1) (q.i 2) (q.l 1) (q.l 0) (e.l 0)
    res := fun q e => .ok .next
    out := fun q e => [((q.a 0),dictO [kv B s_k (q.t 0) (e.v 0)] 1),((q.a 3),listO (e.l 0) (e.t 0))]++(pr q).drop 3 }
noncomputable def on_rv : Code → View → Lt := fun c V => lt [(cEnv c).locals,envFrame (cEnv c),valA (cIt c),valA (cAcc c),envCell 0 (cEnv c),envCell 1 (cEnv c),cA V 3] [kT V 0 0,qT V 1 0,qT V 1 1,qT V 1 2,eP V 2,eP V 4,cT V 5] [qI V 1 0,qI V 1 1,valI (cellV (nthO V 5))] [] [dV V 0 0] [sQ V 2,sQ V 4] []
noncomputable def S_rvf (W : Wd) (m : Nat) : Sp (BB W) :=
  let B := BB W
  let pr := fun q : Lt => [((q.a 0),dictO [] 0),((q.a 2),fieldsO tRG [(.int (q.i 0) (q.t 0)),(.int (q.i 1) (q.t 1)),(.int 1 (q.t 2))]),((q.a 3),listO (q.l 0) (q.t 3)),((q.a 4),cellO (.ref (q.a 6))),((q.a 6),listO (q.l 1) (q.t 4)),((q.a 5),cellO (.int (q.i 2) (q.t 5)))]
  { d := 100
    c := fun q => .compLoop (kids (exOf (lwS W.w [21])) [2]) 0 (.ref (q.a 2)) (.ref (q.a 3)) (compEnv (kids (exOf (lwS W.w [21])) [2]) (lwEnv W.w (q.a 1) (q.a 5) 0 0 (q.a 4) 0 0 0 0) (q.a 0) [(s_words, (q.a 4)), (s_count, (q.a 5))])
    P := fun q => RvP (q.i 0) (q.i 1) (q.i 2) (q.l 1) (q.l 0) m ∧ 0 < (q.i 1)
    pre := pr
    R := fun q e => RvR (q.i 0) (q.i 1) (q.i 2) (q.l 1) (q.l 0) (e.l 0)
    res := fun q e => .ok .next
    out := fun q e => [((q.a 0),dictO [kv B s_k (e.t 0) (e.v 0)] 1),((q.a 3),listO (e.l 0) (e.t 1))]++(pr q).drop 3 }
noncomputable def on_rvf : Code → View → Lt := fun c V => lt [(cEnv c).locals,envFrame (cEnv c),valA (cIt c),valA (cAcc c),envCell 0 (cEnv c),envCell 1 (cEnv c),cA V 3] [qT V 1 0,qT V 1 1,qT V 1 2,eP V 2,eP V 4,cT V 5] [qI V 1 0,qI V 1 1,valI (cellV (nthO V 5))] [] [] [sQ V 2,sQ V 4] []
noncomputable def S_rva (W : Wd) (m : Nat) : Sp (BB W) := Sp.start (S_rvf W m)
noncomputable abbrev on_rva := on_rvf
theorem rv_end (W : Wd) (O : (BB W).Ok) (m : Nat) (q : Lt) (hq : (S_rv W m).P q) (hl : (q.i 1) ≤ 0) : At (S_rv W m) 100 q := by
  refine tri_f O (stdI _) [] 2000 100 (hs := [0,2,0,2,6,0,2,2,2,1]) (is := [2,3,3,3,3])
    (fun (ρ : Rho) => ob hl <| fin (S_rv W m) q (lt [] [(q.t 4)] [] [] [(q.v 0)] [(q.l 0)] []) ((hq.fin hl)) :) ?_
  induction W using y_0 <;> kernel_rfl
theorem rv_s (W : Wd) (O : (BB W).Ok) (m : Nat) (ih : (S_rv W m).Ok) (q : Lt) (hq : (S_rv W (m + 1)).P q) (hl : 0 < (q.i 1)) : At (S_rv W (m + 1)) 100 q := by
  refine tri_f O (stdI _) [U (S_rv W m) ih on_rv] 2000 100 (hs := hx 45 0x600309e083002120085005145000040006101042082082082046080080) (is := [0,0,0,0,0])
    (fun (ρ : Rho) => let z0 := itemAt (q.l 1) (Int.toNat (q.i 2 - 1 - q.i 0)); let z1 := q.i 2 - (1 : Int) - q.i 0; ob (A := (rngD (It.mk (Value.ref (q.a 2)) (q.i 0) (q.i 1) (1 : Int) #[]) (1))) (hl) <| ob (A := (((0 : Int) ≤ q.i 2 - (1 : Int) - q.i 0 ∧ Int.toNat z1 < List.length (q.l 1) ∧ List.length (q.l 1) ≤ sizeLine) ∧ itemAt (q.l 1) (Int.toNat z1) = Value.str (shS (itemAt (q.l 1) (Int.toNat z1))) (shT (itemAt (q.l 1) (Int.toNat z1))))) (hq.g hl) <| ob (A := (List.length (q.l 0) ≤ sizeLine)) (hq.ob) <| ob (A := (RvP (q.i 0 + 1 : Int) (q.i 1 - 1 : Int) (q.i 2) (q.l 1) (q.l 0++[Value.str (shS z0) (shT z0)]) m)) (hq.next hl) <| fun he0 : RvR (q.i 0 + 1 : Int) (q.i 1 - 1 : Int) (q.i 2) (q.l 1) (q.l 0++[Value.str (shS z0) (shT z0)]) ((ρ.2 0).l 0) => fin (S_rv W (m + 1)) q (lt [] [(ρ.2 0).2 0] [] [] [(ρ.2 0).5 0] [(ρ.2 0).6 0] []) ((hq.step hl he0)) :) ?_
  induction W using y_0 <;> kernel_rfl
theorem rv_ok (W : Wd) (O : (BB W).Ok) : ∀ m, (S_rv W m).Ok
  | 0 => fun q hq => rv_end W O 0 q hq (hq.m0)
  | m + 1 => fun q hq => by
    by_cases hl : (q.i 1) ≤ 0
    · exact rv_end W O (m + 1) q hq hl
    · exact rv_s W O  m (rv_ok W O m) q hq (by first | lia | exact hq.2)
theorem rvf_s (W : Wd) (O : (BB W).Ok) (m : Nat) (ih : (S_rv W m).Ok) (q : Lt) (hq : (S_rvf W (m + 1)).P q) (hl : 0 < (q.i 1)) : At (S_rvf W (m + 1)) 100 q := by
  refine tri_f O (stdI _) [U (S_rv W m) ih on_rv] 2000 100 (hs := hx 45 0x600309e083002120085005145000040006101042082082082046080080) (is := [0,0,0,0,0])
    (fun (ρ : Rho) => let z0 := itemAt (q.l 1) (Int.toNat (q.i 2 - 1 - q.i 0)); let z1 := q.i 2 - (1 : Int) - q.i 0; ob (A := (rngD (It.mk (Value.ref (q.a 2)) (q.i 0) (q.i 1) (1 : Int) #[]) (1))) (hl) <| ob (A := (((0 : Int) ≤ q.i 2 - (1 : Int) - q.i 0 ∧ Int.toNat z1 < List.length (q.l 1) ∧ List.length (q.l 1) ≤ sizeLine) ∧ itemAt (q.l 1) (Int.toNat z1) = Value.str (shS (itemAt (q.l 1) (Int.toNat z1))) (shT (itemAt (q.l 1) (Int.toNat z1))))) (hq.1.g hl) <| ob (A := (List.length (q.l 0) ≤ sizeLine)) (hq.1.ob) <| ob (A := (RvP (q.i 0 + 1 : Int) (q.i 1 - 1 : Int) (q.i 2) (q.l 1) (q.l 0++[Value.str (shS z0) (shT z0)]) m)) (hq.1.next hl) <| fun he0 : RvR (q.i 0 + 1 : Int) (q.i 1 - 1 : Int) (q.i 2) (q.l 1) (q.l 0++[Value.str (shS z0) (shT z0)]) ((ρ.2 0).l 0) => fin (S_rvf W (m + 1)) q (lt [] [ρ.1 1,(ρ.2 0).2 0] [] [] [(ρ.2 0).5 0] [(ρ.2 0).6 0] []) ((hq.1.step hl he0)) :) ?_
  induction W using y_0 <;> kernel_rfl
theorem rvf_ok (W : Wd) (O : (BB W).Ok) (m : Nat) : (S_rvf W (m + 1)).Ok := fun q hq => by
  exact rvf_s W O  m (rv_ok W O m) q hq (by first | lia | exact hq.2)
theorem rva_true (W : Wd) (O : (BB W).Ok) (m : Nat) (q : Lt) (hq : (S_rva W (m + 1)).P q) (hb : W.b2 = true) : At (S_rva W (m + 1)) 100 q := by
  refine tri_f O (stdI _) [U (S_rvf W (m + 1)) (rvf_ok W O m) on_rvf] 2000 100 (hs := [0,3,0,6,0,0,0,0,0,0]) (is := [0,0,0,0,0])
    (fun (ρ : Rho) => ob hq <| fun he0 : RvR (q.i 0) (q.i 1) (q.i 2) (q.l 1) (q.l 0) ((ρ.2 0).l 0) => fin (S_rva W (m + 1)) q (lt [] [(ρ.2 0).2 0,(ρ.2 0).2 1] [] [] [(ρ.2 0).5 0] [(ρ.2 0).6 0] []) (he0) :) ?_
  induction W, hb using y_true <;> kernel_rfl
theorem rva_false (W : Wd) (O : (BB W).Ok) (m : Nat) (q : Lt) (hq : (S_rva W (m + 1)).P q) (hb : W.b2 = false) : At (S_rva W (m + 1)) 100 q := by
  refine tri_f O (stdI _) [U (S_rvf W (m + 1)) (rvf_ok W O m) on_rvf] 2000 100 (hs := hx 16 0x1800c2002002080) (is := [0,0,0,0,0])
    (fun (ρ : Rho) => ob hq <| fun he0 : RvR (q.i 0) (q.i 1) (q.i 2) (q.l 1) (q.l 0) ((ρ.2 0).l 0) => fin (S_rva W (m + 1)) q (lt [] [(ρ.2 0).2 0,(ρ.2 0).2 1] [] [] [(ρ.2 0).5 0] [(ρ.2 0).6 0] []) (he0) :) ?_
  induction W, hb using y_false <;> kernel_rfl
theorem rva_ok (W : Wd) (O : (BB W).Ok) (m : Nat) : (S_rva W (m + 1)).Ok := fun q hq => by
  cases hb : W.b2 with
  | true => exact rva_true W O m q hq hb
  | false => exact rva_false W O m q hq hb
end Mine
end
section

namespace Mine
open PySem PySem.Spec PySem.Calls PyProof.Rows PySem.W PySem.W.X PySem.Builtin.Str
noncomputable def S_ot (W : Wd) (sh : Bool) (m : Nat) : Sp (BB W) :=
  let B := BB W
  let pr := fun q : Lt => [((q.a 0),frameO (p_ab sh [kv B s_script (q.t 0) (q.v 0),kv B s_cells (q.t 1) (q.v 1),kv B s_k (q.t 2) (q.v 2),kv B s_number (q.t 3) (q.v 3),kv B s_text (q.t 4) (q.v 4),kv B s_feeds (q.t 5) (q.v 5),kv B s_quotient (q.t 6) (q.v 6),kv B s_forth (q.t 7) (.ref (q.a 10)),kv B s_other (q.t 8) (.int (q.i 0) (q.t 9))]) 9),((q.a 9),fieldsO tRG [(.int (q.i 1) (q.t 10)),(.int (q.i 2) (q.t 11)),(.int 1 (q.t 12))]),((q.a 1),cellO (.int (q.i 3) (q.t 13))),((q.a 6),cellO (.ref (q.a 11))),((q.a 11),listO (q.l 0) (q.t 14)),((q.a 10),listO [(q.v 7),(.ref (q.a 12)),(q.v 8),(q.v 9)] (q.t 15)),((q.a 12),listO (q.l 1) (q.t 16))]
  { d := 100
    c := fun q => forC (lwS W.w [20]) (q.a 9) (lwEnv W.w (q.a 0) (q.a 1) (q.a 2) (q.a 3) (q.a 4) (q.a 5) (q.a 6) (q.a 7) (q.a 8))
    P := fun q => OtP (q.i 1) (q.i 2) (q.i 3) (q.i 0) (q.l 0) (q.l 1) m
    pre := pr
    R := fun q e => OtR (q.i 1) (q.i 2) (q.i 3) (q.i 0) (q.l 0) (q.l 1) (e.i 0)
    res := fun q e => .ok .next
    out := fun q e => [((q.a 0),frameO (p_ab sh [kv B s_script (q.t 0) (q.v 0),kv B s_cells (q.t 1) (q.v 1),kv B s_k (q.t 2) (e.v 0),kv B s_number (q.t 3) (q.v 3),kv B s_text (q.t 4) (q.v 4),kv B s_feeds (q.t 5) (q.v 5),kv B s_quotient (q.t 6) (q.v 6),kv B s_forth (q.t 7) (.ref (q.a 10)),kv B s_other (q.t 8) (.int (e.i 0) (e.t 0))]) 9)]++(pr q).drop 2 }
noncomputable def on_ot (sh : Bool) : Code → View → Lt := fun c V => lt [(cEnv c).locals,envCell 7 (cEnv c),envCell 6 (cEnv c),envCell 5 (cEnv c),envCell 4 (cEnv c),envCell 3 (cEnv c),envCell 2 (cEnv c),envCell 1 (cEnv c),envCell 0 (cEnv c),valA (cIt c),dA V 0 7,cA V 3,valA (nthV (sQ V 5) 1)] [kT V 0 0,kT V 0 1,dictKT (nthO V 0) (i_ab sh 2),dictKT (nthO V 0) (i_ab sh 3),dictKT (nthO V 0) (i_ab sh 4),kT V 0 5,kT V 0 6,kT V 0 7,kT V 0 8,dT V 0 8,qT V 1 0,qT V 1 1,qT V 1 2,cT V 2,eP V 4,eP V 5,eP V 6] [dI V 0 8,qI V 1 0,qI V 1 1,valI (cellV (nthO V 2))] [] [dV V 0 0,dV V 0 1,dictVal (nthO V 0) (i_ab sh 2),dictVal (nthO V 0) (i_ab sh 3),dictVal (nthO V 0) (i_ab sh 4),dV V 0 5,dV V 0 6,nthV (sQ V 5) 0,nthV (sQ V 5) 2,nthV (sQ V 5) 3] [sQ V 4,sQ V 6] []
theorem ot_end (W : Wd) (O : (BB W).Ok) (sh : Bool) (m : Nat) (q : Lt) (hq : (S_ot W sh m).P q) (hl : (q.i 2) ≤ 0) : At (S_ot W sh m) 100 q := by
  refine tri_f O (stdI _) [] 2000 100 (hs := [0,2,0,2,6,0,2,2,2,1,0]) (is := [2,3,3,3,3,3])
    (fun (ρ : Rho) => ob hl <| fin (S_ot W sh m) q (lt [] [(q.t 9)] [(q.i 0)] [] [(q.v 2)] [] []) ((hq.fin hl)) :) ?_
  induction W, sh using y_1 <;> kernel_rfl
theorem ot_s (W : Wd) (O : (BB W).Ok) (sh : Bool) (m : Nat) (ih : (S_ot W sh m).Ok) (q : Lt) (hq : (S_ot W sh (m + 1)).P q) (hl : 0 < (q.i 2)) : At (S_ot W sh (m + 1)) 100 q := by
  refine tri_f O (stdI _) [⟨(S_ot W sh m).con ih,(on_ot sh),fun _ => false,[],[]⟩] 2000 100 (hs := hx 71 0x1c00c10400000290800021a00870071c7044802140145141106006006186056080000043041042082082082046080080) (is := [0,0,0,0,0,0])
    (fun (ρ : Rho) => ob hl <| ob hq.mul <| ob (hq.g1 hl) <| ob (hq.g2 hl) <| ob (A := (True)) (by first | assumption | lia | decide | (constructor <;> first | assumption | lia | decide)) <| ob (hq.next hl) <| fun he0 : OtR (q.i 1 + 1 : Int) (q.i 2 - 1 : Int) (q.i 3) (q.i 0 * (q.i 3 - q.i 1) + ↑(cntS (shS (itemAt (q.l 1) (Int.toNat (shI (itemAt (q.l 0) (Int.toNat (q.i 1))))))) (mS [46])) - 1 : Int) (q.l 0) (q.l 1) ((ρ.2 0).i 0) => fin (S_ot W sh (m + 1)) q (lt [] [(ρ.2 0).2 0] [(ρ.2 0).i 0] [] [(ρ.2 0).5 0] [] []) ((hq.step hl he0)) :) ?_
  induction W, sh using y_1 <;> kernel_rfl
theorem ot_ok (W : Wd) (O : (BB W).Ok) (sh : Bool) : ∀ m, (S_ot W sh m).Ok
  | 0 => fun q hq => ot_end W O sh 0 q hq (hq.m0)
  | m + 1 => fun q hq => by
    by_cases hl : (q.i 2) ≤ 0
    · exact ot_end W O sh (m + 1) q hq hl
    · exact ot_s W O sh m (ot_ok W O sh m) q hq (by lia)
noncomputable def S_bk (W : Wd) (sh : Bool) (m : Nat) : Sp (BB W) :=
  let B := BB W
  let pr := fun q : Lt => [((q.a 0),frameO (p_ab sh [kv B s_script (q.t 0) (q.v 0),kv B s_cells (q.t 1) (q.v 1),kv B s_k (q.t 2) (q.v 2),kv B s_number (q.t 3) (q.v 3),kv B s_text (q.t 4) (q.v 4),kv B s_feeds (q.t 5) (q.v 5),kv B s_quotient (q.t 6) (q.v 6),kv B s_forth (q.t 7) (q.v 7),kv B s_other (q.t 8) (q.v 8),kv B s_hence (q.t 9) (.ref (q.a 10)),kv B s_back (q.t 10) (.int (q.i 0) (q.t 11))]) 11),((q.a 9),fieldsO tRG [(.int (q.i 1) (q.t 12)),(.int (q.i 2) (q.t 13)),(.int (-1) (q.t 14))]),((q.a 6),cellO (.ref (q.a 11))),((q.a 11),listO (q.l 0) (q.t 15)),((q.a 10),listO [(q.v 9),(.ref (q.a 12)),(q.v 10),(q.v 11)] (q.t 16)),((q.a 12),listO (q.l 1) (q.t 17))]
  { d := 100
    c := fun q => forC (lwS W.w [25]) (q.a 9) (lwEnv W.w (q.a 0) (q.a 1) (q.a 2) (q.a 3) (q.a 4) (q.a 5) (q.a 6) (q.a 7) (q.a 8))
    P := fun q => BkP (q.i 1) (q.i 2) (q.i 0) (q.l 0) (q.l 1) m
    pre := pr
    R := fun q e => BkR (q.i 1) (q.i 2) (q.i 0) (q.l 0) (q.l 1) (e.i 0)
    res := fun q e => .ok .next
    out := fun q e => [((q.a 0),frameO (p_ab sh [kv B s_script (q.t 0) (q.v 0),kv B s_cells (q.t 1) (q.v 1),kv B s_k (q.t 2) (e.v 0),kv B s_number (q.t 3) (q.v 3),kv B s_text (q.t 4) (q.v 4),kv B s_feeds (q.t 5) (q.v 5),kv B s_quotient (q.t 6) (q.v 6),kv B s_forth (q.t 7) (q.v 7),kv B s_other (q.t 8) (q.v 8),kv B s_hence (q.t 9) (.ref (q.a 10)),kv B s_back (q.t 10) (.int (e.i 0) (e.t 0))]) 11)]++(pr q).drop 2 }
noncomputable def on_bk (sh : Bool) : Code → View → Lt := fun c V => lt [(cEnv c).locals,envCell 7 (cEnv c),envCell 6 (cEnv c),envCell 5 (cEnv c),envCell 4 (cEnv c),envCell 3 (cEnv c),envCell 2 (cEnv c),envCell 1 (cEnv c),envCell 0 (cEnv c),valA (cIt c),dA V 0 9,cA V 2,valA (nthV (sQ V 4) 1)] [kT V 0 0,kT V 0 1,dictKT (nthO V 0) (i_ab sh 2),dictKT (nthO V 0) (i_ab sh 3),dictKT (nthO V 0) (i_ab sh 4),kT V 0 5,kT V 0 6,kT V 0 7,kT V 0 8,kT V 0 9,kT V 0 10,dT V 0 10,qT V 1 0,qT V 1 1,qT V 1 2,eP V 3,eP V 4,eP V 5] [dI V 0 10,qI V 1 0,qI V 1 1] [] [dV V 0 0,dV V 0 1,dictVal (nthO V 0) (i_ab sh 2),dictVal (nthO V 0) (i_ab sh 3),dictVal (nthO V 0) (i_ab sh 4),dV V 0 5,dV V 0 6,dV V 0 7,dV V 0 8,nthV (sQ V 4) 0,nthV (sQ V 4) 2,nthV (sQ V 4) 3] [sQ V 3,sQ V 5] []
theorem bk_end (W : Wd) (O : (BB W).Ok) (sh : Bool) (m : Nat) (q : Lt) (hq : (S_bk W sh m).P q) (hl : (q.i 2) ≤ 0) : At (S_bk W sh m) 100 q := by
  refine tri_f O (stdI _) [] 2000 100 (hs := [0,2,0,2,6,0,2,2,2,1,0]) (is := [2,3,3,3,3])
    (fun (ρ : Rho) => ob hl <| fin (S_bk W sh m) q (lt [] [(q.t 11)] [(q.i 0)] [] [(q.v 2)] [] []) ((hq.fin hl)) :) ?_
  induction W, sh using y_1 <;> kernel_rfl
theorem bk_s (W : Wd) (O : (BB W).Ok) (sh : Bool) (m : Nat) (ih : (S_bk W sh m).Ok) (q : Lt) (hq : (S_bk W sh (m + 1)).P q) (hl : 0 < (q.i 2)) : At (S_bk W sh (m + 1)) 100 q := by
  refine tri_f O (stdI _) [⟨(S_bk W sh m).con ih,(on_bk sh),fun _ => false,[],[]⟩] 2000 100 (hs := hx 72 0x1800c10400290800021600860061860438021001041010c5005005145040000001582000001041042082082082046080080) (is := [0,0,0,0,0])
    (fun (ρ : Rho) => ob hl <| ob hq.mul <| ob (hq.g1 hl) <| ob (hq.g2 hl) <| ob (A := (True)) (by first | assumption | lia | decide | (constructor <;> first | assumption | lia | decide)) <| ob (hq.next hl) <| fun he0 : BkR (q.i 1 + -1 : Int) (q.i 2 - 1 : Int) (q.i 0 * (q.i 1 + 1) + q.i 1 + 1 - ↑(cntS (shS (itemAt (q.l 1) (Int.toNat (shI (itemAt (q.l 0) (Int.toNat (q.i 1))))))) (mS [46])) : Int) (q.l 0) (q.l 1) ((ρ.2 0).i 0) => fin (S_bk W sh (m + 1)) q (lt [] [(ρ.2 0).2 0] [(ρ.2 0).i 0] [] [(ρ.2 0).5 0] [] []) ((hq.step hl he0)) :) ?_
  induction W, sh using y_1 <;> kernel_rfl
theorem bk_ok (W : Wd) (O : (BB W).Ok) (sh : Bool) : ∀ m, (S_bk W sh m).Ok
  | 0 => fun q hq => bk_end W O sh 0 q hq (hq.m0)
  | m + 1 => fun q hq => by
    by_cases hl : (q.i 2) ≤ 0
    · exact bk_end W O sh (m + 1) q hq hl
    · exact bk_s W O sh m (bk_ok W O sh m) q hq (by lia)
end Mine
end
section
namespace Mine
open PySem PySem.Spec PySem.Calls PyProof.Rows PySem.W PySem.W.X PySem.Builtin PySem.Builtin.Str PySem.Builtin.Int PySem.StrLaws
structure L1P (xs : List Value) : Prop where
  xi : AllInt xs
  xl : xs.length ≤ 63
noncomputable def CntSg (cnt : Int) (sg : Str) : Prop := (cnt = 4 ∧ sg = ⟨#[97, 34, 92, 32]⟩) ∨ (cnt = 5 ∧ sg = ⟨#[97, 34, 92, 32, 35]⟩) ∨ (cnt = 6 ∧ sg = ⟨#[97, 34, 92, 32, 35, 98]⟩)
structure L1R (cnt num : Int) (sg text : Str) : Prop where
  c : CntSg cnt sg
  nb : -1440 ≤ num ∧ num ≤ 1440
  tx : ∃ b, text = sL (txtL sg.cps.toList b cnt.toNat 0)
theorem cntSg_of (n : Nat) (t : Tok) : CntSg (4 + (n : Int).fmod 3) (sliceV ⟨#[97, 34, 92, 32, 35, 98]⟩ none (some (4 + (n : Int).fmod 3, t))) := by
  have h := fmod_bd (n : Int) (b := 3) (by decide)
  have h3 : (n : Int).fmod 3 = 0 ∨ (n : Int).fmod 3 = 1 ∨ (n : Int).fmod 3 = 2 := by lia
  rcases h3 with h3 | h3 | h3 <;> rw [h3]
  · exact .inl ⟨rfl, rfl⟩
  · exact .inr (.inl ⟨rfl, rfl⟩)
  · exact .inr (.inr ⟨rfl, rfl⟩)
theorem CntSg.len {cnt : Int} {sg : Str} (h : CntSg cnt sg) : (sg.length : Int) = cnt ∧ 4 ≤ cnt ∧ cnt ≤ 6 := by
  rcases h with ⟨rfl, rfl⟩ | ⟨rfl, rfl⟩ | ⟨rfl, rfl⟩ <;> decide
section
variable {xs : List Value}
theorem L1P.len (h : L1P xs) : xs.length ≤ sizeLine := by have := h.xl; have := line1000; lia
theorem L1P.it (h : L1P xs) : (1 : Int) = 1 ∧ (-(2 : Int) ^ 62 ≤ 0 ∧ (0 : Int) < 2 ^ 62) ∧ -(2 : Int) ^ 62 ≤ (xs.length : Int) ∧ (xs.length : Int) < (2 : Int) ^ 62 := by have := h.xl; lia
theorem L1P.c1 (h : L1P xs) (h0 : 0 < xs.length) (a b : Tok) : C1P 0 (rlen 0 (xs.length : Int)) xs [.int 1000 a, .int 45 b] (63 + 1) ∧ 0 < rlen 0 (xs.length : Int) := by
  have := h.xl
  rw [rlen0 (by lia)]
  refine ⟨⟨by lia, by lia, by lia, by lia, h.xl, h.xi, ⟨fun v hv => ?_, rfl, fun v hv => ?_⟩⟩, by lia⟩
  · simp at hv; rcases hv with rfl | rfl <;> rfl
  · simp at hv; rcases hv with rfl | rfl <;> (simp [shI])
theorem cel45 (a b : Tok) : Cel [.int 1000 a, .int 45 b] 100000000 := ⟨fun v hv => by simp at hv; rcases hv with rfl | rfl <;> rfl, rfl, fun v hv => by simp at hv; rcases hv with rfl | rfl <;> simp [shI]⟩
theorem cel_g {cs : List Value} (h : Cel cs 100000000) : ((0 : Int) ≤ 0 ∧ (0 : Int).toNat < cs.length ∧ cs.length ≤ sizeLine) ∧ itemAt cs (0 : Int).toNat = .int (shI (itemAt cs (0 : Int).toNat)) (shT (itemAt cs (0 : Int).toNat)) := by
  have h2 := h.l2
  exact get_ob h.ai (by decide) (by show 0 < _; lia) (by lia)
theorem cnt_it (n : Nat) : (1 : Int) = 1 ∧ (-(2 : Int) ^ 62 ≤ 0 ∧ (0 : Int) < 2 ^ 62) ∧ -(2 : Int) ^ 62 ≤ 4 + (n : Int).fmod 3 ∧ 4 + (n : Int).fmod 3 < (2 : Int) ^ 62 := by
  have h := fmod_bd (n : Int) (b := 3) (by decide)
  lia
theorem sg_ob (n : Nat) (t : Tok) : (sliceV ⟨#[97, 34, 92, 32, 35, 98]⟩ none (some (4 + (n : Int).fmod 3, t))).length ≤ sizeLine := by
  have := (cntSg_of n t).len; have := small_line; lia
theorem tx_p {cs : List Value} (h : Cel cs 100000000) (n : Nat) (t : Tok) : TxP 0 (rlen 0 (4 + (n : Int).fmod 3)) (sliceV ⟨#[97, 34, 92, 32, 35, 98]⟩ none (some (4 + (n : Int).fmod 3, t))) cs ⟨#[]⟩ 8 := by
  have := (cntSg_of n t).len
  rw [rlen0 (by lia)]
  exact ⟨by lia, by lia, by lia, by lia, by lia, h, by decide⟩
theorem tx_p0 {cs : List Value} (h : Cel cs 100000000) (n : Nat) (t : Tok) : TxP 0 (rlen 0 (4 + (n : Int).fmod 3)) (sliceV ⟨#[97, 34, 92, 32, 35, 98]⟩ none (some (4 + (n : Int).fmod 3, t))) cs ⟨#[]⟩ (7 + 1) ∧ 0 < rlen 0 (4 + (n : Int).fmod 3) := by
  have := (cntSg_of n t).len
  refine ⟨tx_p h n t, ?_⟩
  rw [rlen0 (by lia)]
  lia
theorem l1_R {a : Int} {cs : List Value} {n : Nat} {t : Tok} {text : Str} (r : TxR 0 (rlen 0 (4 + (n : Int).fmod 3)) (sliceV ⟨#[97, 34, 92, 32, 35, 98]⟩ none (some (4 + (n : Int).fmod 3, t))) cs ⟨#[]⟩ text) :
    L1R (4 + (n : Int).fmod 3) (a.fmod 2881 - 1440) (sliceV ⟨#[97, 34, 92, 32, 35, 98]⟩ none (some (4 + (n : Int).fmod 3, t))) text := by
  have h := cntSg_of n t
  have h2 := h.len
  have h3 := fmod_bd a (b := 2881) (by decide)
  refine ⟨h, by lia, ⟨shI (itemAt cs 1), ?_⟩⟩
  have e := r.t
  rw [rlen0 (by lia)] at e
  rw [e]
  exact Str.empty_append _
theorem l1_R0 {cs : List Value} {n : Nat} {t : Tok} {text : Str} (r : TxR 0 (rlen 0 (4 + (n : Int).fmod 3)) (sliceV ⟨#[97, 34, 92, 32, 35, 98]⟩ none (some (4 + (n : Int).fmod 3, t))) cs ⟨#[]⟩ text) :
    L1R (4 + (n : Int).fmod 3) ((1000 : Int).fmod 2881 - 1440) (sliceV ⟨#[97, 34, 92, 32, 35, 98]⟩ none (some (4 + (n : Int).fmod 3, t))) text := l1_R r
theorem rl_nil (h : xs = []) : rlen 0 (xs.length : Int) ≤ 0 := by subst h; decide
end
end Mine
end
section
namespace Mine
open PySem PySem.Spec PySem.Calls PyProof.Rows PySem.W PySem.W.X PySem.SeqAt
noncomputable def isListB (o : Obj) : Bool := o.cls == .type "list"
noncomputable def lstT (a b : Value) : Sem Unit := match a, b with
  | .ref x, .ref y => do
    let o ← load x
    let o' ← load y
    if isListB o && isListB o' then pure () else unsupported "ne"
  | _, _ => unsupported "ne"
end Mine
lay_z Mine.isListB Mine.lstT
namespace Mine
open PySem PySem.Spec PySem.Calls PyProof.Rows PySem.W PySem.W.X PySem.SeqAt
noncomputable def lstTZ : Value → Value → Sem Unit := PySem.W.ZFast.zw1208679033682648827
theorem lstTZ_eq : lstT = lstTZ := PySem.W.ZFast.ze1208679033682648827
inductive Pc where
  | blk (sts : List Stmt)
  | ne (l r : Expr) (pos pos2 : Pos) (body : List Stmt)
noncomputable def Pc.sts : Pc → List Stmt
  | .blk s => s
  | .ne l r pos pos2 body => [.If (.Compare l [.NotEq] [r] pos) body [] pos2]
noncomputable def neCode (a b : Value) : Code := .call (.builtin "list.__ne__") ⟨[a, b], []⟩
noncomputable def runP (B : Bs) (bc : List (BCut B)) (cs : List (Use B)) (n d : Nat) (env : Env) (Q : Result → View → List Nat → VC) : List Pc → View → List Nat → VC
  | [], V, hs => Q (.ok .next) V hs
  | p :: ps, V, hs => match p with
    | .blk sts => run B bc cs n d (.tree Flow (execsZ sts env) fun r V1 hs1 => match r with
      | .ok f => match f with
        | .next => runP B bc cs n d env Q ps V1 hs1
        | .ret v => Q (.ok (.ret v)) V1 hs1
        | _ => .ff
      | .error _ => .ff) V hs
    | .ne l r _ _ _ => run B bc cs n d (.tree Value (evalZ l env) fun r1 V1 hs1 => match r1 with
      | .ok a => run B bc cs n d (.tree Value (evalZ r env) fun r2 V2 hs2 => match r2 with
        | .ok b => run B bc cs n d (.tree Unit (lstTZ a b) fun r3 V3 hs3 => match r3 with
          | .ok _ => run B bc cs n d (.code (neCode a b) fun r4 V4 hs4 => match r4 with
            | .ok f => match f with
              | .ret v => match v with
                | .bool t => match t with
                  | false => runP B bc cs n d env Q ps V4 hs4
                  | true => .ff
                | _ => .ff
              | _ => .ff
            | .error _ => .ff) V3 hs3
          | .error _ => .ff) V2 hs2
        | .error _ => .ff) V1 hs1
      | .error _ => .ff) V hs
noncomputable def pcsSts : List Pc → List Stmt
  | [] => []
  | p :: ps => p.sts ++ pcsSts ps
section
variable {prog : Program} {w : World} {A : Around} {E : Value → Shared → Prop} {s : Shared}
theorem neT_lists {a b : Value} {Q : Unit → Shared → Prop} {E' : Value → Shared → Prop} (hu : A.units < cLine) (h : wpAny (model prog w) A (lstT a b) Q E' s) {R : Value → Shared → Prop}
    (k : Q () s → wpAny (model prog w) A (PySem.call (.builtin "list.__ne__") [a, b]) (fun v s' => v ≠ .notImplemented ∧ R v s') E s) : wpAny (model prog w) A (compareOp .NotEq a b) R E s := by
  unfold lstT at h
  split at h
  · rename_i x y
    rcases hx : s.heap.get? x with _ | o
    · intro Γ p hΓ
      have z := h Γ p hΓ
      rw [Sem.wp_bind', Sem.wp_cmd_load] at z
      obtain ⟨o, ho, _⟩ := z
      rw [hx] at ho; cases ho
    · rcases hy : s.heap.get? y with _ | o'
      · intro Γ p hΓ
        have z := h Γ p hΓ
        rw [Sem.wp_bind', Sem.wp_cmd_load] at z
        obtain ⟨o1, ho, z⟩ := z
        rw [Sem.wp_bind', Sem.wp_cmd_load] at z
        obtain ⟨o2, ho, _⟩ := z
        rw [hy] at ho; cases ho
      · have h2 : wpAny (model prog w) A (if isListB o && isListB o' then pure () else unsupported "ne") Q E' s := fun Γ p hΓ => by
          have z := h Γ p hΓ
          rw [Sem.wp_bind', Sem.wp_cmd_load] at z
          obtain ⟨o1, ho, z⟩ := z
          rw [hx] at ho
          cases ho
          rw [Sem.wp_bind', Sem.wp_cmd_load] at z
          obtain ⟨o2, ho, z⟩ := z
          rw [hy] at ho
          cases ho
          exact z
        cases hc : (isListB o && isListB o') with
        | true =>
          rw [hc] at h2
          rw [Bool.and_eq_true] at hc
          have c1 : o.cls = .type "list" := eq_of_beq hc.1
          have c2 : o'.cls = .type "list" := eq_of_beq hc.2
          intro Γ p hΓ
          have hq : Q () s := h2 Γ p hΓ
          exact wpAny_richCompare_same_room (a := .ref x) (b := .ref y) (s := s) (op := .NotEq) (T := "list") (id := "list.__ne__") ⟨o, hx, c1⟩ ⟨o', hy, c2⟩ F.slot_list_ne (k hq) hu Γ p hΓ
        | false =>
          rw [hc] at h2
          intro Γ p hΓ
          exact (h2 Γ p hΓ : False).elim
  · intro Γ p hΓ
    exact (h Γ p hΓ : False).elim
end
theorem runP_sound {B : Bs} (O : B.Ok) (bc : List (BCut B)) (cs : List (Use B)) (n d : Nat) (hd : 1 ≤ d) {env : Env} {Q : Result → View → List Nat → VC} : ∀ (ps : List Pc) {V : View} {hs : List Nat}, N (runP B bc cs n d env Q ps V hs) →
    ∀ A s, Room A d → Rep B V s → wpAny (model B.prog B.w) A (execs (pcsSts ps) env) (fun f s' => AK B V s Q (.ok f) s') (fun e s' => AK B V s Q (.error e) s') s
  | [], V, hs, h, A, s, R, D => wpAny_pure ⟨V, hs, h, D, Ext.refl V s⟩
  | .blk sts :: ps, V, hs, h, A, s, R, D => by
    have z := run_sound O bc cs n d _ V hs h A s R D
    refine execs_app sts (pcsSts ps) ?_
    have e : execs sts env = execsZ sts env := by rw [execsZ_eq]
    rw [e]
    refine wpAny_mono z (fun f s1 ⟨V1, hs1, q, D1, x1⟩ => ?_) (fun e s1 ⟨V1, hs1, q, _⟩ => (q : False).elim)
    cases f with
    | next =>
      have q : N (runP B bc cs n d env Q ps V1 hs1) := q
      exact wpAny_mono (runP_sound O bc cs n d hd ps q A s1 R D1) (fun f s2 ⟨V2, hs2, q2, D2, x2⟩ => ⟨V2, hs2, q2, D2, x1.trans x2⟩) (fun e s2 ⟨V2, hs2, q2, D2, x2⟩ => ⟨V2, hs2, q2, D2, x1.trans x2⟩)
    | ret v => exact ⟨V1, hs1, q, D1, x1⟩
    | brk => exact (q : False).elim
    | cont => exact (q : False).elim
  | .ne l r pos pos2 body :: ps, V, hs, h, A, s, R, D => by
    have hu : A.units < cLine := by have := R.units; lia
    have hm : behindInMarks .NotEq r = false := by
      unfold behindInMarks
      split
      · simp
      · rfl
    refine execs_app _ (pcsSts ps) ?_
    have one : ∀ {st : Stmt} {Q : Flow → Shared → Prop} {E : Value → Shared → Prop} {s : Shared}, wpAny (model B.prog B.w) A (exec st env) (fun f s' => Q f s') E s → wpAny (model B.prog B.w) A (execs [st] env) Q E s := by
      intro st Q E s h
      rw [execs_cons]
      refine wpAny_bind (wpAny_mono h (fun f s' h' => ?_) (fun _ _ x => x))
      cases f <;> exact wpAny_pure h'
    refine one (wpAny_If (wpAny_isTrue_Compare1 ?_ hm))
    have z := run_sound O bc cs n d _ V hs h A s R D
    have el : eval l env = evalZ l env := by rw [evalZ_eq]
    have er : eval r env = evalZ r env := by rw [evalZ_eq]
    rw [el, er]
    refine wpAny_mono z (fun a s1 ⟨V1, hs1, q1, D1, x1⟩ => ?_) (fun e s1 ⟨V1, hs1, q, _⟩ => (q : False).elim)
    have z2 := run_sound O bc cs n d _ V1 hs1 q1 A s1 R D1
    refine wpAny_mono z2 (fun b s2 ⟨V2, hs2, q2, D2, x2⟩ => ?_) (fun e s1 ⟨V1, hs1, q, _⟩ => (q : False).elim)
    have z3 := run_sound O bc cs n d _ V2 hs2 q2 A s2 R D2
    have z3 : wpAny (model B.prog B.w) A (lstTZ a b) _ _ s2 := z3
    rw [← lstTZ_eq] at z3
    refine neT_lists hu z3 (fun ⟨V3, hs3, q3, D3, x3⟩ => ?_)
    have z4 := run_sound O bc cs n d _ V3 hs3 q3 A s2 R D3
    refine wpAny_call (codeAny_mono z4 ?_)
    rintro r4 s4 ⟨V4, hs4, q4, D4, x4⟩
    cases r4 with
    | error e => exact (q4 : False).elim
    | ok f =>
      cases f with
      | ret v =>
        cases v with
        | bool t =>
          cases t with
          | true => exact (q4 : False).elim
          | false =>
            have q4 : N (runP B bc cs n d env Q ps V4 hs4) := q4
            refine ⟨(fun x => nomatch x), wpAny_truthy_bool ?_⟩
            have x := ((x1.trans x2).trans x3).trans x4
            exact wpAny_pure (wpAny_mono (runP_sound O bc cs n d hd ps q4 A s4 R D4) (fun f s5 ⟨V5, hs5, q5, D5, x5⟩ => ⟨V5, hs5, q5, D5, x.trans x5⟩) (fun e s5 ⟨V5, hs5, q5, D5, x5⟩ => ⟨V5, hs5, q5, D5, x.trans x5⟩))
        | _ => exact (q4 : False).elim
      | _ => exact (q4 : False).elim
noncomputable def neOf : Stmt → Pc
  | .If (.Compare l [.NotEq] [r] pos) body [] pos2 => .ne l r pos pos2 body
  | st => .blk [st]
theorem pcs_of_run_end {B : Bs} (O : B.Ok) (bc : List (BCut B)) (cs : List (Use B)) (n d : Nat) (hd : 1 ≤ d) {sts : List Stmt} {env : Env} {pre : View} {hs is : List Nat} {post : Result → View → Prop}
    (hp : pcsSts (sts.map neOf) = sts) (h : N (runP B bc cs n d env (endK post is) (sts.map neOf) pre hs)) : Seg B d sts env pre post := fun A s R D => by
  have z := runP_sound O bc cs n d hd _ h A s R D
  rw [hp] at z
  have key : ∀ (r : Result) (s' : Shared), (∃ V' hs', N (endK post is r V' hs') ∧ Rep B V' s' ∧ Ext B pre V' s s') → ∃ V', post r V' ∧ Rep B V' s' ∧ Ext B pre V' s s' := by
    rintro r s' ⟨V', _, q, D', x⟩
    unfold endK at q
    split at q
    · rename_i q' e
      obtain ⟨ps, rest⟩ := q'
      have pm := pull_perm e
      refine ⟨ps, q, (D'.perm pm).left, ⟨x.same, fun a ha => x.new a ?_, x.there⟩⟩
      have pe : (excl V').Perm (excl (ps ++ rest)) := (pm.filter _).map _
      exact pe.mem_iff.mpr (by rw [excl_append]; exact List.mem_append_left _ ha)
    · cases q
  exact wpAny_mono z (fun f s' h => key _ _ h) (fun e s' h => key _ _ h)
theorem pcs_f {B : Bs} (O : B.Ok) (bc : List (BCut B)) (cs : List (Use B)) (n d : Nat) (hd : 1 ≤ d) {sts : List Stmt} {env : Env} {pre : View} {hs is : List Nat} {post : Result → View → Prop} (hp : pcsSts (sts.map neOf) = sts) {T : Rho → Prop} (p : ∀ r, T r) (e : Eqn (runP B bc cs n d env (endK post is) (sts.map neOf) pre hs) T) : Seg B d sts env pre post := pcs_of_run_end O bc cs n d hd hp (flat_N p e)
end Mine
end
section
namespace Mine
open PySem PySem.Spec PySem.Calls PyProof.Rows PySem.W PySem.W.X PySem.Builtin PySem.SeqAt
noncomputable def eqN (c : Addr) (zs : List Value) (d : Addr) (ws : List Value) : Value → Value → Prop
  | .int i _, .int j _ => i = j
  | .str x _, .str y _ => x = y
  | .ref a, .ref b => (a = c ∧ b = d) ∧ EqLs eqW zs ws
  | _, _ => False
noncomputable def neF' (args : List Value) (V : View) (hs : List Nat) (K : Result → View → List Nat → VC) : VC := match args with
  | [.ref a, .ref b] => match hs with
    | i :: hs => match hs with
      | j :: hs => match hs with
        | k :: hs => match hs with
          | l :: hs => match nth V i with
            | none => .ff
            | some p => match listParts p.2 with
              | none => .ff
              | some q => match nth V j with
                | none => .ff
                | some p2 => match listParts p2.2 with
                  | none => .ff
                  | some q2 => match nth V k with
                    | none => .ff
                    | some p3 => match listParts p3.2 with
                      | none => .ff
                      | some q3 => match nth V l with
                        | none => .ff
                        | some p4 => match listParts p4.2 with
                          | none => .ff
                          | some q4 => .eq a p.1 <| .eq b p2.1 <| .ob (EqLs (eqN p3.1 q3.1 p4.1 q4.1) q.1 q2.1) <| K (.ok (.ret (.bool false))) V hs
          | [] => .ff
        | [] => .ff
      | [] => .ff
    | [] => .ff
  | _ => .ff
theorem eqN_at {B : Bs} {V : View} {A : Around} {s : Shared} (D : Rep B V s) (hu : A.units < cLine) {c d : Addr} {zs ws : List Value} {n m : Nat} (hc : s.heap.get? c = some (listX zs n)) (hd : s.heap.get? d = some (listX ws m)) {x y : Value} (h : eqN c zs d ws x y) : EqAt A s x y true := by
  unfold eqN at h
  split at h
  · exact eqW_at (show eqW _ _ from h)
  · exact eqW_at (show eqW _ _ from h)
  · obtain ⟨⟨rfl, rfl⟩, he⟩ := h
    rename_i a b
    by_cases e : a = b
    · subst e; exact EqAt.same _
    · refine EqAt.of_refs e ?_
      have z := RcAt.lists (e := fun _ => true) (l := a) (b := b) ⟨_, hc, rfl, n, rfl⟩ ⟨_, hd, rfl, m, rfl⟩ he.len hu (fun j h1 h2 => eqW_at (he.at j h1 h2))
      rw [all_true] at z
      exact z
  · cases h
noncomputable def neC (B : Bs) : BCut B where
  id := "list.__ne__"
  code := 116512115458775698011089517
  d := 1
  f := neF'
  hid := by rw [← S.code_S]; decide +kernel
  ok := by
    intro args V hs K h A s R D
    unfold neF' at h
    repeat' split at h
    all_goals first | exact False.elim h | skip
    rename_i a b _ i _ j _ k _ l hs p hp _ q hq _ p2 hp2 _ q2 hq2 _ p3 hp3 _ q3 hq3 _ p4 hp4 _ q4 hq4
    obtain ⟨rfl, rfl, he, h⟩ := h
    rw [nth_eq] at hp hp2 hp3 hp4
    have ho := D.has _ (List.mem_of_getElem? hp)
    have ho2 := D.has _ (List.mem_of_getElem? hp2)
    have ho3 := D.has _ (List.mem_of_getElem? hp3)
    have ho4 := D.has _ (List.mem_of_getElem? hp4)
    rw [listParts_is hq] at ho
    rw [listParts_is hq2] at ho2
    rw [listParts_is hq3] at ho3
    rw [listParts_is hq4] at ho4
    have hu : A.units + 1 < cLine := by have := R.units; lia
    refine codeAny_builtin (b := Builtin.«list.__ne__») (entryFor_of_tree (by kernel_rfl)) ?_
    rw [Around.under_plainId (by decide +kernel)]
    have z := list_neAt p.1 p2.1 ⟨q.1⟩ ⟨q2.1⟩ q.2 q2.2 none none #[] #[] he.len (fun _ => true) B.prog B.w A (fun r s' => AK B V s K r s') s
    refine z ⟨ho, ho2, fun j h1 h2 => eqN_at D (A := A.in1) hu ho3 ho4 (he.at j h1 h2), ?_⟩
    rw [all_true]
    exact ⟨V, _, h, D, Ext.refl V s⟩
end Mine
end
section

namespace Mine
open PySem PySem.Spec PySem.Calls PyProof.Rows PySem.W PySem.W.X PySem.Builtin.Str
noncomputable def stdJ (B : Bs) : List (BCut B) := stdI B ++ [neC B]
noncomputable def S_l1A (W : Wd) : Sp (BB W) :=
  let B := BB W
  { d := 150
    c := fun q => .block (takeS 8 (stmtsOf (fdAt W.w 149))) (lwEnv W.w (q.a 0) (q.a 1) (q.a 2) (q.a 3) (q.a 4) (q.a 5) (q.a 6) (q.a 7) (q.a 8))
    P := fun q => L1P (q.l 0) ∧ 0 < (q.l 0).length
    pre := fun q => [((q.a 0),frameO [kv B s_script (q.t 0) (.ref (q.a 9))] 1),((q.a 1),⟨tCell,none,.cell none,#[]⟩),((q.a 2),⟨tCell,none,.cell none,#[]⟩),((q.a 3),⟨tCell,none,.cell none,#[]⟩),((q.a 4),⟨tCell,none,.cell none,#[]⟩),((q.a 5),⟨tCell,none,.cell none,#[]⟩),((q.a 6),⟨tCell,none,.cell none,#[]⟩),((q.a 7),⟨tCell,none,.cell none,#[]⟩),((q.a 8),⟨tCell,none,.cell none,#[]⟩),((q.a 9),listO (q.l 0) (q.t 1))]
    R := fun q e => L1R (e.i 0) (e.i 1) (e.s 0) (e.s 1)
    res := fun q e => .ok .next
    out := fun q e => [((q.a 0),frameO [kv B s_script (q.t 0) (.ref (q.a 9)),kv B s_cells (e.t 0) (e.v 0),kv B s_k (e.t 1) (e.v 1),kv B s_number (e.t 2) (.int (e.i 1) (e.t 3)),kv B s_text (e.t 4) (e.v 2)] 5),((q.a 1),cellO (.int (e.i 0) (e.t 5))),((q.a 2),cellO (.str (e.s 0) (e.t 6))),((q.a 3),cellO (.ref (e.a 0))),((q.a 4),⟨tCell,none,.cell none,#[]⟩),((q.a 5),⟨tCell,none,.cell none,#[]⟩),((q.a 6),⟨tCell,none,.cell none,#[]⟩),((q.a 7),⟨tCell,none,.cell none,#[]⟩),((q.a 8),⟨tCell,none,.cell none,#[]⟩)]++lxV W (e.a 0) (e.a 1) (e.t 7) 1 (e.t 8) (e.t 9) (e.a 2) (e.t 10) (e.t 11) (e.t 12) (e.a 3) [] (e.t 13) (e.f 0) (e.a 4) (e.t 14) (e.a 5) (e.a 6) (e.a 7) (e.a 8) (e.a 9) (e.t 15) (e.v 3) (e.l 0) (e.s 1) (e.t 16) (e.a 10) 0 (e.t 17)++[((q.a 9),listO (q.l 0) (q.t 1))] }
theorem l1A_ok (W : Wd) (O : (BB W).Ok) (q : Lt) (hq : (S_l1A W).P q) : SegC (BB W) 150 ((S_l1A W).c q) ((S_l1A W).pre q) ((S_l1A W).post q) := by
  refine seg_f O (stdJ _) [U (S_c1f W (63 + 1)) (c1f_ok W O 63) on_c1f,⟨(S_tx W true 8).con (tx_ok W O true 8),(on_tx true),fun _ => false,[],[]⟩,U (S_ls W) (ls_ok W O) on_ls,U (S_nl W) (nl_ok W O) on_nl] 2000 150 (hs := hx 125 0x134c00000000001c30c00000830010001430031010c102d0810010410010010400000060000821c70130801410400140800428020c00c30c114500050200174200100004a0031000c102d08100104100100104000000a742002000000082) (is := hx 20 0xc000000000000000f3cf3cf3cb40a)
    (fun (ρ : Rho) => let z0 := some (4 + Int.fmod (↑(List.length (q.l 0))) 3,ρ.n 13); let z1 := mS [97,34,92,32,35,98]; let z2 : Int := rlen 0 (4 + Int.fmod (↑(List.length (q.l 0))) 3); let z3 : Int := rlen 0 ↑(List.length (q.l 0)); ob hq.1.len <| ob hq.1.it <| ob (A := (C1P (0 : Int) z3 (q.l 0) ([(Value.int (1000) (ρ.1 0)),(Value.int (45) (ρ.1 1))] : List Value) (63 + 1) ∧ 0 < z3)) (hq.1.c1 hq.2 _ _) <| fun he0 : Cel ((ρ.2 0).l 0) 100000000 => ob hq.1.len <| ob (A := ((3 : Int) ≠ (0 : Int))) (by first | assumption | lia | decide | (constructor <;> first | assumption | lia | decide)) <| ob (cel_g he0) <| ob (A := ((2881 : Int) ≠ (0 : Int))) (by first | assumption | lia | decide | (constructor <;> first | assumption | lia | decide)) <| ob (A := (Str.length (sliceV z1 none (some ((4 : Int) + Int.fmod ↑(List.length (q.l 0)) (3 : Int),ρ.1 13))) ≤ sizeLine)) (sg_ob _ _) <| ob (A := ((1 : Int) = (1 : Int) ∧ (-(2 : Int) ^ 62 ≤ (0 : Int) ∧ (0 : Int) < (2 : Int) ^ 62) ∧ -(2 : Int) ^ 62 ≤ (4 : Int) + Int.fmod ↑(List.length (q.l 0)) (3 : Int) ∧ (4 : Int) + Int.fmod ↑(List.length (q.l 0)) (3 : Int) < (2 : Int) ^ 62)) (cnt_it _) <| ob (A := (TxP (0 : Int) z2 (sliceV z1 none z0) ((ρ.2 0).l 0) (⟨#[]⟩) 8)) (tx_p he0 _ _) <| fun he1 : TxR (0 : Int) z2 (sliceV z1 none z0) ((ρ.2 0).l 0) (⟨#[]⟩) ((ρ.2 1).s 0) => ob trivial <| fun _ : True => ob trivial <| fun _ : True => fin (S_l1A W) q (lt [(ρ.2 3).1 0,(ρ.2 3).1 1,(ρ.2 2).1 0,(ρ.2 3).1 2,(ρ.2 2).1 1,(ρ.2 2).1 2,(ρ.2 2).1 3,(ρ.2 2).1 4,(ρ.2 2).1 5,(ρ.2 2).1 6,(ρ.2 2).1 7] [ρ.1 3,(ρ.2 0).2 0,ρ.1 19,ρ.1 18,ρ.1 24,ρ.1 13,ρ.1 22,(ρ.2 3).2 0,(ρ.2 3).2 1,(ρ.2 3).2 2,(ρ.2 3).2 3,(ρ.2 3).2 4,(ρ.2 3).2 5,(ρ.2 3).2 6,(ρ.2 2).2 0,(ρ.2 2).2 1,(ρ.2 1).2 0,(ρ.2 2).2 2] [4 + Int.fmod (↑(List.length (q.l 0))) 3,Int.fmod (shI (itemAt ((ρ.2 0).l 0) (Int.toNat 0))) 2881 - 1440] [sliceV z1 none z0,(ρ.2 1).s 0] [(.ref (ρ.1 2)),(ρ.2 1).5 0,(.str ((ρ.2 1).s 0) ((ρ.2 1).2 0)),(ρ.2 2).5 0] [[]++(ρ.2 2).6 0] [(ρ.2 2).f 0]) ((l1_R he1)) :) ?_
  induction W using y_0 <;> kernel_rfl
noncomputable def S_l1B (W : Wd) : Sp (BB W) :=
  let B := BB W
  { d := 150
    c := fun q => .block (takeS 8 (stmtsOf (fdAt W.w 149))) (lwEnv W.w (q.a 0) (q.a 1) (q.a 2) (q.a 3) (q.a 4) (q.a 5) (q.a 6) (q.a 7) (q.a 8))
    P := fun q => L1P (q.l 0) ∧ (q.l 0) = []
    pre := fun q => [((q.a 0),frameO [kv B s_script (q.t 0) (.ref (q.a 9))] 1),((q.a 1),⟨tCell,none,.cell none,#[]⟩),((q.a 2),⟨tCell,none,.cell none,#[]⟩),((q.a 3),⟨tCell,none,.cell none,#[]⟩),((q.a 4),⟨tCell,none,.cell none,#[]⟩),((q.a 5),⟨tCell,none,.cell none,#[]⟩),((q.a 6),⟨tCell,none,.cell none,#[]⟩),((q.a 7),⟨tCell,none,.cell none,#[]⟩),((q.a 8),⟨tCell,none,.cell none,#[]⟩),((q.a 9),listO (q.l 0) (q.t 1))]
    R := fun q e => L1R (e.i 0) (e.i 1) (e.s 0) (e.s 1)
    res := fun q e => .ok .next
    out := fun q e => [((q.a 0),frameO [kv B s_script (q.t 0) (.ref (q.a 9)),kv B s_cells (e.t 0) (e.v 0),kv B s_number (e.t 2) (.int (e.i 1) (e.t 3)),kv B s_text (e.t 4) (e.v 2),kv B s_k (e.t 1) (e.v 1)] 5),((q.a 1),cellO (.int (e.i 0) (e.t 5))),((q.a 2),cellO (.str (e.s 0) (e.t 6))),((q.a 3),cellO (.ref (e.a 0))),((q.a 4),⟨tCell,none,.cell none,#[]⟩),((q.a 5),⟨tCell,none,.cell none,#[]⟩),((q.a 6),⟨tCell,none,.cell none,#[]⟩),((q.a 7),⟨tCell,none,.cell none,#[]⟩),((q.a 8),⟨tCell,none,.cell none,#[]⟩)]++lxV W (e.a 0) (e.a 1) (e.t 7) 1 (e.t 8) (e.t 9) (e.a 2) (e.t 10) (e.t 11) (e.t 12) (e.a 3) [] (e.t 13) (e.f 0) (e.a 4) (e.t 14) (e.a 5) (e.a 6) (e.a 7) (e.a 8) (e.a 9) (e.t 15) (e.v 3) (e.l 0) (e.s 1) (e.t 16) (e.a 10) 0 (e.t 17)++[((q.a 9),listO (q.l 0) (q.t 1))] }
theorem l1B_ok (W : Wd) (O : (BB W).Ok) (q : Lt) (hq : (S_l1B W).P q) : SegC (BB W) 150 ((S_l1B W).c q) ((S_l1B W).pre q) ((S_l1B W).post q) := by
  refine seg_f O (stdJ _) [U (S_txf W (7 + 1)) (txf_ok W O 7) on_txf,U (S_ls W) (ls_ok W O) on_ls,U (S_nl W) (nl_ok W O) on_nl] 2000 150 (hs := hx 127 0x155400000000001c20c00000430010001c60081000c102d0810010410010010400000080001c72490130801c61800140801401401451461c700050200e74200600000104104018100100102d08100104100100104000000a742002000000082) (is := hx 20 0x1c000000000000001145145144b48a)
    (fun (ρ : Rho) => let z0 : Int := rlen 0 (4 + Int.fmod (↑(List.length (q.l 0))) 3); let z1 := some (4 + Int.fmod (↑(List.length (q.l 0))) 3,ρ.n 15); let z2 := mS [97,34,92,32,35,98]; ob hq.1.len <| ob hq.1.it <| ob (rl_nil hq.2) <| ob hq.1.len <| ob (A := ((3 : Int) ≠ (0 : Int))) (by first | assumption | lia | decide | (constructor <;> first | assumption | lia | decide)) <| ob (A := ((2881 : Int) ≠ (0 : Int))) (by first | assumption | lia | decide | (constructor <;> first | assumption | lia | decide)) <| ob (A := (Str.length (sliceV z2 none (some ((4 : Int) + Int.fmod ↑(List.length (q.l 0)) (3 : Int),ρ.1 15))) ≤ sizeLine)) (sg_ob _ _) <| ob (A := ((1 : Int) = (1 : Int) ∧ (-(2 : Int) ^ 62 ≤ (0 : Int) ∧ (0 : Int) < (2 : Int) ^ 62) ∧ -(2 : Int) ^ 62 ≤ (4 : Int) + Int.fmod ↑(List.length (q.l 0)) (3 : Int) ∧ (4 : Int) + Int.fmod ↑(List.length (q.l 0)) (3 : Int) < (2 : Int) ^ 62)) (cnt_it _) <| ob (A := (TxP (0 : Int) z0 (sliceV z2 none z1) ([(Value.int (1000) (ρ.1 0)),(Value.int (45) (ρ.1 1))] : List Value) (⟨#[]⟩) (7 + 1) ∧ 0 < z0)) (tx_p0 (cel45 _ _) _ _) <| fun he0 : TxR (0 : Int) z0 (sliceV z2 none z1) ([(Value.int (1000) (ρ.1 0)),(Value.int (45) (ρ.1 1))] : List Value) (⟨#[]⟩) ((ρ.2 0).s 0) => ob trivial <| fun _ : True => ob trivial <| fun _ : True => fin (S_l1B W) q (lt [(ρ.2 2).1 0,(ρ.2 2).1 1,(ρ.2 1).1 0,(ρ.2 2).1 2,(ρ.2 1).1 1,(ρ.2 1).1 2,(ρ.2 1).1 3,(ρ.2 1).1 4,(ρ.2 1).1 5,(ρ.2 1).1 6,(ρ.2 1).1 7] [ρ.1 3,(ρ.2 0).2 0,ρ.1 21,ρ.1 20,ρ.1 26,ρ.1 15,ρ.1 24,(ρ.2 2).2 0,(ρ.2 2).2 1,(ρ.2 2).2 2,(ρ.2 2).2 3,(ρ.2 2).2 4,(ρ.2 2).2 5,(ρ.2 2).2 6,(ρ.2 1).2 0,(ρ.2 1).2 1,(ρ.2 0).2 1,(ρ.2 1).2 2] [4 + Int.fmod (↑(List.length (q.l 0))) 3,(-440)] [sliceV z2 none z1,(ρ.2 0).s 0] [(.ref (ρ.1 2)),(ρ.2 0).5 0,(.str ((ρ.2 0).s 0) ((ρ.2 0).2 1)),(ρ.2 1).5 0] [[]++(ρ.2 1).6 0] [(ρ.2 1).f 0]) ((l1_R0 he0)) :) ?_
  induction W using y_0 <;> kernel_rfl
end Mine
end
section
namespace Mine
open PySem PySem.Spec PySem.Calls PyProof.Rows PySem.W PySem.W.X PySem.Builtin PySem.Builtin.Str
noncomputable def asciiS (x : Str) : Bool := x.cps.all (· < 128)
noncomputable def siterF (args : List Value) (V : View) (hs : List Nat) (K : Result → View → List Nat → VC) : VC := match args with
  | [.str x t] => .ob (asciiS x = true) <| .al fun a' => K (.ok (.ret (.ref a'))) ((a', { cls := .type "str_ascii_iterator", data := .fields ⟨[.str x t, .int 0 0]⟩ }) :: V) hs
  | _ => .ff
noncomputable def siterC (B : Bs) : BCut B where
  id := "str.__iter__"
  code := 29827162783706237342122734964
  d := 0
  f := siterF
  hid := by rw [← S.code_S]; decide +kernel
  ok := by
    intro args V hs K h A s _ D
    unfold siterF at h
    split at h
    · rename_i x t
      obtain ⟨ha, h⟩ := h
      refine codeAny_builtin (b := Builtin.«str.__iter__») (entryFor_of_tree (by kernel_rfl)) ?_
      rw [Around.under_plainId (by decide +kernel)]
      have z := D.alloc (o := { cls := .type "str_ascii_iterator", data := .fields ⟨[.str x t, .int 0 0]⟩ }) rfl
      obtain ⟨hp, g, d, tk, os⟩ := s
      unfold Builtin.«str.__iter__»
      have e : (isExactStr (Value.str x t) && x.cps.all (· < 128)) = true := by
        show (true && asciiS x) = true
        rw [ha]; rfl
      show wpAny _ _ (newFields (if (isExactStr (Value.str x t) && x.cps.all (· < 128)) = true then "str_ascii_iterator" else "str_iterator") [Value.str x t, rawInt 0] >>= fun v => ret v) _ _ _
      rw [if_pos e]
      unfold newFields
      refine wpAny_bind (wpAny_newObj_type ?_ ?_)
      · exact wpAny_pure ⟨_, hs, h _, z.1, z.2⟩
      · show 2 ≤ _; decide
    · cases h
end Mine
end
section

namespace Mine
open PySem PySem.Spec PySem.Calls PyProof.Rows PySem.W PySem.W.X PySem.Builtin.Str
noncomputable abbrev tSA : Value := .type "str_ascii_iterator"
noncomputable def stdK (B : Bs) : List (BCut B) := stdJ B ++ [siterC B]
noncomputable def S_sk4 (W : Wd) : Sp (BB W) :=
  let B := BB W
  { d := 100
    c := fun q => .compStart (kids (exOf (lwS W.w [9])) [1]) 0 (.ref (q.a 2)) (.ref (q.a 3)) (compEnv (kids (exOf (lwS W.w [9])) [1]) (lwEnv W.w (q.a 1) 0 0 0 0 0 0 0 0) (q.a 0) [])
    P := fun q => True
    pre := fun q => [((q.a 0),dictO [] 0),((q.a 2),fieldsO tSA [(.str ⟨#[97,34,92,32]⟩ (q.t 0)),(.int 0 (q.t 1))]),((q.a 3),listO [] (q.t 2))]
    R := fun q e => SgR ⟨#[97, 34, 92, 32]⟩ (e.l 0)
    res := fun q e => .ok .next
    out := fun q e => [((q.a 0),dictO [kv B s_sign (e.t 0) (e.v 0)] 1),((q.a 3),listO (e.l 0) (e.t 1))] }
theorem sk4_true (W : Wd) (O : (BB W).Ok) (q : Lt) (hb : W.b2 = true) : At (S_sk4 W) 100 q := by
  refine tri_f O (stdH _) [] 2000 100 (hs := hx 91 0x10820820020020030c30030000010410820820020020030c30030000010410820820020020030c30030000010410820820020020030c3003000001041082082002002000) (is := [2,3])
    (fun (ρ : Rho) => fin (S_sk4 W) q (lt [] [ρ.1 1,(q.t 2) + 1 + 1 + 1 + 1] [] [] [(.str (⟨#[32]⟩) (ρ.1 12))] [[Value.str ⟨#[46,97]⟩ (ρ.1 3),Value.str ⟨#[46,34]⟩ (ρ.1 7),Value.str ⟨#[46,92]⟩ (ρ.1 11),Value.str ⟨#[46,32]⟩ (ρ.1 15)]] []) (SgR.of _ _ rfl rfl) :) ?_
  induction W, hb using y_true <;> kernel_rfl
theorem sk4_false (W : Wd) (O : (BB W).Ok) (q : Lt) (hb : W.b2 = false) : At (S_sk4 W) 100 q := by
  refine tri_f O (stdH _) [] 2000 100 (hs := hx 97 0x10820820020020030c30030000010410820820020020030c30030000010410820820020020030c30030000010410820820020020030c3003000001041082082002002002002002080) (is := [2,3])
    (fun (ρ : Rho) => fin (S_sk4 W) q (lt [] [ρ.1 1,(q.t 2) + 1 + 1 + 1 + 1] [] [] [(.str (⟨#[32]⟩) (ρ.1 12))] [[Value.str ⟨#[46,97]⟩ (ρ.1 3),Value.str ⟨#[46,34]⟩ (ρ.1 7),Value.str ⟨#[46,92]⟩ (ρ.1 11),Value.str ⟨#[46,32]⟩ (ρ.1 15)]] []) (SgR.of _ _ rfl rfl) :) ?_
  induction W, hb using y_false <;> kernel_rfl
noncomputable def S_sk5 (W : Wd) : Sp (BB W) :=
  let B := BB W
  { d := 100
    c := fun q => .compStart (kids (exOf (lwS W.w [9])) [1]) 0 (.ref (q.a 2)) (.ref (q.a 3)) (compEnv (kids (exOf (lwS W.w [9])) [1]) (lwEnv W.w (q.a 1) 0 0 0 0 0 0 0 0) (q.a 0) [])
    P := fun q => True
    pre := fun q => [((q.a 0),dictO [] 0),((q.a 2),fieldsO tSA [(.str ⟨#[97,34,92,32,35]⟩ (q.t 0)),(.int 0 (q.t 1))]),((q.a 3),listO [] (q.t 2))]
    R := fun q e => SgR ⟨#[97, 34, 92, 32, 35]⟩ (e.l 0)
    res := fun q e => .ok .next
    out := fun q e => [((q.a 0),dictO [kv B s_sign (e.t 0) (e.v 0)] 1),((q.a 3),listO (e.l 0) (e.t 1))] }
theorem sk5_true (W : Wd) (O : (BB W).Ok) (q : Lt) (hb : W.b2 = true) : At (S_sk5 W) 100 q := by
  refine tri_f O (stdH _) [] 2000 100 (hs := hx 111 0x10820820020020030c30030000010410820820020020030c30030000010410820820020020030c30030000010410820820020020030c30030000010410820820020020030c3003000001041082082002002000) (is := [2,3])
    (fun (ρ : Rho) => fin (S_sk5 W) q (lt [] [ρ.1 1,(q.t 2) + 1 + 1 + 1 + 1 + 1] [] [] [(.str (⟨#[35]⟩) (ρ.1 16))] [[Value.str ⟨#[46,97]⟩ (ρ.1 3),Value.str ⟨#[46,34]⟩ (ρ.1 7),Value.str ⟨#[46,92]⟩ (ρ.1 11),Value.str ⟨#[46,32]⟩ (ρ.1 15),Value.str ⟨#[46,35]⟩ (ρ.1 19)]] []) (SgR.of _ _ rfl rfl) :) ?_
  induction W, hb using y_true <;> kernel_rfl
theorem sk5_false (W : Wd) (O : (BB W).Ok) (q : Lt) (hb : W.b2 = false) : At (S_sk5 W) 100 q := by
  refine tri_f O (stdH _) [] 2000 100 (hs := hx 117 0x10820820020020030c30030000010410820820020020030c30030000010410820820020020030c30030000010410820820020020030c30030000010410820820020020030c3003000001041082082002002002002002080) (is := [2,3])
    (fun (ρ : Rho) => fin (S_sk5 W) q (lt [] [ρ.1 1,(q.t 2) + 1 + 1 + 1 + 1 + 1] [] [] [(.str (⟨#[35]⟩) (ρ.1 16))] [[Value.str ⟨#[46,97]⟩ (ρ.1 3),Value.str ⟨#[46,34]⟩ (ρ.1 7),Value.str ⟨#[46,92]⟩ (ρ.1 11),Value.str ⟨#[46,32]⟩ (ρ.1 15),Value.str ⟨#[46,35]⟩ (ρ.1 19)]] []) (SgR.of _ _ rfl rfl) :) ?_
  induction W, hb using y_false <;> kernel_rfl
noncomputable def S_sk6 (W : Wd) : Sp (BB W) :=
  let B := BB W
  { d := 100
    c := fun q => .compStart (kids (exOf (lwS W.w [9])) [1]) 0 (.ref (q.a 2)) (.ref (q.a 3)) (compEnv (kids (exOf (lwS W.w [9])) [1]) (lwEnv W.w (q.a 1) 0 0 0 0 0 0 0 0) (q.a 0) [])
    P := fun q => True
    pre := fun q => [((q.a 0),dictO [] 0),((q.a 2),fieldsO tSA [(.str ⟨#[97,34,92,32,35,98]⟩ (q.t 0)),(.int 0 (q.t 1))]),((q.a 3),listO [] (q.t 2))]
    R := fun q e => SgR ⟨#[97, 34, 92, 32, 35, 98]⟩ (e.l 0)
    res := fun q e => .ok .next
    out := fun q e => [((q.a 0),dictO [kv B s_sign (e.t 0) (e.v 0)] 1),((q.a 3),listO (e.l 0) (e.t 1))] }
theorem sk6_true (W : Wd) (O : (BB W).Ok) (q : Lt) (hb : W.b2 = true) : At (S_sk6 W) 100 q := by
  refine tri_f O (stdH _) [] 2000 100 (hs := hx 131 0x10820820020020030c30030000010410820820020020030c30030000010410820820020020030c30030000010410820820020020030c30030000010410820820020020030c30030000010410820820020020030c3003000001041082082002002000) (is := [2,3])
    (fun (ρ : Rho) => fin (S_sk6 W) q (lt [] [ρ.1 1,(q.t 2) + 1 + 1 + 1 + 1 + 1 + 1] [] [] [(.str (⟨#[98]⟩) (ρ.1 20))] [[Value.str ⟨#[46,97]⟩ (ρ.1 3),Value.str ⟨#[46,34]⟩ (ρ.1 7),Value.str ⟨#[46,92]⟩ (ρ.1 11),Value.str ⟨#[46,32]⟩ (ρ.1 15),Value.str ⟨#[46,35]⟩ (ρ.1 19),Value.str ⟨#[46,98]⟩ (ρ.1 23)]] []) (SgR.of _ _ rfl rfl) :) ?_
  induction W, hb using y_true <;> kernel_rfl
theorem sk6_false (W : Wd) (O : (BB W).Ok) (q : Lt) (hb : W.b2 = false) : At (S_sk6 W) 100 q := by
  refine tri_f O (stdH _) [] 2000 100 (hs := hx 137 0x10820820020020030c30030000010410820820020020030c30030000010410820820020020030c30030000010410820820020020030c30030000010410820820020020030c30030000010410820820020020030c3003000001041082082002002002002002080) (is := [2,3])
    (fun (ρ : Rho) => fin (S_sk6 W) q (lt [] [ρ.1 1,(q.t 2) + 1 + 1 + 1 + 1 + 1 + 1] [] [] [(.str (⟨#[98]⟩) (ρ.1 20))] [[Value.str ⟨#[46,97]⟩ (ρ.1 3),Value.str ⟨#[46,34]⟩ (ρ.1 7),Value.str ⟨#[46,92]⟩ (ρ.1 11),Value.str ⟨#[46,32]⟩ (ρ.1 15),Value.str ⟨#[46,35]⟩ (ρ.1 19),Value.str ⟨#[46,98]⟩ (ρ.1 23)]] []) (SgR.of _ _ rfl rfl) :) ?_
  induction W, hb using y_false <;> kernel_rfl
noncomputable def S_sk (W : Wd) : Sp (BB W) :=
  let B := BB W
  { d := 100
    c := fun q => .compStart (kids (exOf (lwS W.w [9])) [1]) 0 (.ref (q.a 2)) (.ref (q.a 3)) (compEnv (kids (exOf (lwS W.w [9])) [1]) (lwEnv W.w (q.a 1) 0 0 0 0 0 0 0 0) (q.a 0) [])
    P := fun q => SgP (q.s 0)
    pre := fun q => [((q.a 0),dictO [] 0),((q.a 2),fieldsO tSA [(.str (q.s 0) (q.t 0)),(.int 0 (q.t 1))]),((q.a 3),listO [] (q.t 2))]
    R := fun q e => SgR (q.s 0) (e.l 0)
    res := fun q e => .ok .next
    out := fun q e => [((q.a 0),dictO [kv B s_sign (e.t 0) (e.v 0)] 1),((q.a 3),listO (e.l 0) (e.t 1))] }
noncomputable def on_sk : Code → View → Lt := fun c V => lt [(cEnv c).locals,envFrame (cEnv c),valA (cIt c),valA (cAcc c)] [qT V 1 0,qT V 1 1,eP V 2] [] [valS (nthV (sQ V 1) 0)] [] [] []
theorem sk_ok (W : Wd) (O : (BB W).Ok) : (S_sk W).Ok := fun q hq => by
  have hq : SgP _ := hq
  rcases hq with h | h | h
  · have e : (S_sk W).pre q = (S_sk4 W).pre q := congrArg (fun XS => ([((q.a 0), dictO [] 0), ((q.a 2), fieldsO tSA [(.str XS (q.t 0)), (.int 0 (q.t 1))]), ((q.a 3), listO [] (q.t 2))] : View)) h
    have c : (S_sk W).post q = (S_sk4 W).post q := by
      funext r V
      show (∃ e, SgR ((q.s 0)) _ ∧ _) = _
      rw [h]
      rfl
    rw [e, c]
    cases hb : W.b2 with
    | true => exact sk4_true W O q hb
    | false => exact sk4_false W O q hb
  · have e : (S_sk W).pre q = (S_sk5 W).pre q := congrArg (fun XS => ([((q.a 0), dictO [] 0), ((q.a 2), fieldsO tSA [(.str XS (q.t 0)), (.int 0 (q.t 1))]), ((q.a 3), listO [] (q.t 2))] : View)) h
    have c : (S_sk W).post q = (S_sk5 W).post q := by
      funext r V
      show (∃ e, SgR ((q.s 0)) _ ∧ _) = _
      rw [h]
      rfl
    rw [e, c]
    cases hb : W.b2 with
    | true => exact sk5_true W O q hb
    | false => exact sk5_false W O q hb
  · have e : (S_sk W).pre q = (S_sk6 W).pre q := congrArg (fun XS => ([((q.a 0), dictO [] 0), ((q.a 2), fieldsO tSA [(.str XS (q.t 0)), (.int 0 (q.t 1))]), ((q.a 3), listO [] (q.t 2))] : View)) h
    have c : (S_sk W).post q = (S_sk6 W).post q := by
      funext r V
      show (∃ e, SgR ((q.s 0)) _ ∧ _) = _
      rw [h]
      rfl
    rw [e, c]
    cases hb : W.b2 with
    | true => exact sk6_true W O q hb
    | false => exact sk6_false W O q hb
end Mine
end
section
namespace Mine
open PySem PySem.Spec PySem.Calls PyProof.Rows PySem.W PySem.W.X PySem.Builtin PySem.Builtin.Str PySem.Builtin.Int PySem.StrLaws
noncomputable def digs : Nat → Nat → Int → List Nat
  | 0, _, _ => []
  | m + 1, k, n => (n.fmod (k + 1)).toNat :: digs m (k + 1) (n.fdiv (k + 1))
noncomputable def rotG {α : Type} : Nat → List α → List α
  | 0, l => l
  | n + 1, l => rotG n (l.drop 1 ++ l.take 1)
noncomputable def dealDT {α : Type} (dot : α → α) (k b : Nat) (w : α) (l : List α) : List α := (rotG (k - b) l ++ [w]).drop b ++ ((rotG (k - b) l ++ [w]).take b).map dot
noncomputable def dealD {α : Type} (dot : α → α) : List Nat → Nat → (Nat → α) → List α → List α
  | [], _, _, l => l
  | b :: ds, k, ws, l => dealD dot ds (k + 1) ws (dealDT dot k b (ws k) l)
theorem rotS_G : ∀ (n : Nat) (l : List Str), rotS n l = rotG n l
  | 0, _ => rfl
  | n + 1, l => rotS_G n _
theorem dealL_dig : ∀ (m k : Nat) (n : Int) (ws l : List Str), dealL m k n ws l = dealD dotS (digs m k n) k (fun i => ws.getD i ⟨#[]⟩) l
  | 0, _, _, _, _ => rfl
  | m + 1, k, n, ws, l => by
    rw [dealL, dealL_dig m, digs, dealD]
    congr 1
    unfold dealT dealDT
    simp only [rotS_G]
theorem rotG_map {α β : Type} (f : α → β) : ∀ (n : Nat) (l : List α), rotG n (l.map f) = (rotG n l).map f
  | 0, _ => rfl
  | n + 1, l => by rw [rotG, rotG, ← rotG_map f n]; simp
theorem dealD_map {α β : Type} (f : α → β) (da : α → α) (db : β → β) (hd : ∀ x, db (f x) = f (da x)) : ∀ (ds : List Nat) (k : Nat) (ws : Nat → α) (vs : Nat → β) (l : List α),
    (∀ i, k ≤ i → i < k + ds.length → vs i = f (ws i)) → dealD db ds k vs (l.map f) = (dealD da ds k ws l).map f
  | [], _, _, _, _, _ => rfl
  | b :: ds, k, ws, vs, l, h => by
    rw [dealD, dealD]
    have e : dealDT db k b (vs k) (l.map f) = (dealDT da k b (ws k) l).map f := by
      unfold dealDT
      rw [rotG_map, h k (Nat.le_refl _) (by simp)]
      simp only [List.map_append, List.map_drop, List.map_take, List.map_map, List.map_cons, List.map_nil]
      congr 1
      have : db ∘ f = f ∘ da := funext hd
      rw [this, hd]
    rw [e]
    exact dealD_map f da db hd ds (k + 1) ws vs _ (fun i h1 h2 => h i (by lia) (by simp; lia))
noncomputable def insN (l : List Nat) (i x : Nat) : List Nat := l.take i ++ x :: l.drop i
noncomputable def ordD : List Nat → Nat → List Nat → List Nat
  | [], _, l => l
  | b :: ds, k, l => ordD ds (k + 1) (insN l (k - b) k)
noncomputable abbrev toI (l : List Nat) : List Int := l.map (fun (x : Nat) => (x : Int))
theorem ordL_dig : ∀ (m k : Nat) (n : Int) (l : List Nat), ordL m k n (toI l) = toI (ordD (digs m k n) k l)
  | 0, _, _, _ => rfl
  | m + 1, k, n, l => by
    rw [ordL, digs, ordD, ← ordL_dig m]
    congr 1
    have h := fmod_bd n (b := (k : Int) + 1) (by lia)
    have e : ((k : Int) - n.fmod (k + 1)).toNat = k - (n.fmod (k + 1)).toNat := by lia
    unfold insI insN
    rw [e]
    simp [toI]
noncomputable def allD : Nat → Nat → List (List Nat)
  | 0, _ => [[]]
  | m + 1, k => (List.range (k + 1)).flatMap fun b => (allD m (k + 1)).map (b :: ·)
theorem digs_mem : ∀ (m k : Nat) (n : Int), digs m k n ∈ allD m k
  | 0, _, _ => by simp [digs, allD]
  | m + 1, k, n => by
    have h := fmod_bd n (b := (k : Int) + 1) (by lia)
    rw [digs, allD, List.mem_flatMap]
    exact ⟨_, List.mem_range.mpr (by lia), List.mem_map.mpr ⟨_, digs_mem m (k + 1) _, rfl⟩⟩
theorem digs_len : ∀ (m k : Nat) (n : Int), (digs m k n).length = m
  | 0, _, _ => rfl
  | m + 1, k, n => by rw [digs, List.length_cons, digs_len m]
noncomputable def idxN : List Nat → Nat → Nat
  | [], _ => 0
  | v :: l, x => if v == x then 0 else idxN l x + 1
noncomputable def gN (od : List Nat) (k : Nat) : Nat := (od.take (idxN od k)).countP (fun j => decide (k < j))
noncomputable def lN (od : List Nat) (k : Nat) : Nat := (od.take (idxN od k)).countP (fun j => decide (j < k))
noncomputable def othN (od : List Nat) (C : Nat) : Nat → Nat → Nat → Nat
  | 0, _, o => o
  | m + 1, k, o => othN od C m (k + 1) (o * (C - k) + gN od k)
noncomputable def dotP (p : Nat × Nat) : Nat × Nat := (p.1 + 1, p.2)
noncomputable def chk (C : Nat) (D : List Nat) : Bool :=
  let od := ordD D 1 [0]
  let oth := othN od C (C - 1) 0 0
  decide (oth < 60000) && (od.length == C && (od.all (fun x => decide (x < C)) && ((List.range C).all (fun k => od.any (fun v => v == k)) && (dealD dotP D 1 (fun i => (0, i)) [(0, 0)] == od.map (fun k => (gN od k, k)) &&
    (decide (dealN (C - 1) 1 (-(oth : Int) - 1) = -1) && (dealD dotP (digs (C - 1) 1 (-(oth : Int) - 1)) 1 (fun i => (0, C - 1 - i)) [(0, C - 1)] == od.map (fun k => (lN od k, k)) &&
    (List.range (C - 1)).all (fun i => lN od (i + 1) + D.getD i 0 == i + 1)))))))
theorem chk4 : (allD 3 1).all (chk 4) = true := by decide +kernel
theorem chk5 : (allD 4 1).all (chk 5) = true := by decide +kernel
theorem chk6 : (allD 5 1).all (chk 6) = true := by decide +kernel
noncomputable def AllWs (w : List Nat) : Prop := ∀ x ∈ w, isWs x = true ∧ 0 < x
theorem lx1_ws {w : List Nat} (h : AllWs w) {l tk r : List Nat} (z : Lx1 l tk r) : Lx1 (w ++ l) tk r := by
  induction w with
  | nil => exact z
  | cons x w ih =>
    obtain ⟨h1, h2⟩ := h x (.head _)
    obtain ⟨y, rfl⟩ : ∃ y, x = y + 1 := ⟨x - 1, by lia⟩
    exact .ws h1 (ih (fun x hx => h x (.tail _ hx)))
theorem allWs_lx {w : List Nat} (h : AllWs w) : Lx1 w [] [] := by
  have := lx1_ws h Lx1.fin
  rw [List.append_nil] at this
  exact this
noncomputable def okc (c : Nat) : Prop := c ≠ 0 ∧ c ≠ 10 ∧ c ≠ 13 ∧ c ≠ 46 ∧ c < 128
theorem sep_ws (k : Nat) : AllWs (sepL k) := by
  match k with
  | 0 => intro x hx; simp [sepL] at hx; subst hx; decide
  | 1 => intro x hx; simp [sepL] at hx; subst hx; decide
  | k + 2 => intro x hx; simp [sepL] at hx; rcases hx with rfl | rfl <;> decide
theorem pc_lx {q : Bool} {c : Nat} (h : okc c) (k : Nat) (R : List Nat) : ∃ w, AllWs w ∧ Lx1 (pcL q c k ++ R) [46, c] (w ++ R) := by
  obtain ⟨d, rfl⟩ : ∃ d, c = d + 1 := ⟨c - 1, by have := h.1; lia⟩
  unfold pcL bodyL
  cases q with
  | true =>
    refine ⟨sepL (k % 3), sep_ws _, ?_⟩
    rw [if_pos rfl]
    have z : Lx2 (46 :: (escL (d + 1) ++ [34]) ++ (sepL (k % 3) ++ R)) [46, d + 1] (sepL (k % 3) ++ R) := by
      refine Lx2.chr (c := 45) (by decide) (by decide) ?_
      unfold escL
      split
      · exact Lx2.esc Lx2.q
      · rename_i hn
        exact Lx2.chr (fun e => hn (.inl e)) (fun e => hn (.inr e)) Lx2.q
    have z2 := Lx1.quo z
    simpa using z2
  | false =>
    rw [if_neg (by simp)]
    have hs : ∃ s w, sepL (k % 3) = s :: w ∧ AllWs w ∧ isWs s = true ∧ 0 < s := by
      have hh := sep_ws (k % 3)
      cases e : sepL (k % 3) with
      | nil =>
        exfalso
        have : k % 3 = 0 ∨ k % 3 = 1 ∨ k % 3 = 2 := by lia
        rcases this with h | h | h <;> rw [h] at e <;> simp [sepL] at e
      | cons s w => rw [e] at hh; exact ⟨s, w, rfl, fun x hx => hh x (.tail _ hx), hh s (.head _)⟩
    obtain ⟨s, w, e, hw, h1, h2⟩ := hs
    refine ⟨w, hw, ?_⟩
    rw [e]
    obtain ⟨y, rfl⟩ : ∃ y, s = y + 1 := ⟨s - 1, by lia⟩
    exact Lx1.esc (c := 45) (Lx3.esc (Lx3.ws h1))
theorem rd_txt (sg : List Nat) (b : Int) : ∀ (m k : Nat) (w : List Nat), AllWs w → (∀ i, k ≤ i → i < k + m → okc (sg.getD i 0)) → ∃ w', AllWs w' ∧ Rd (w ++ txtL sg b m k) ((List.range' k m).map (fun i => [46, sg.getD i 0])) w'
  | 0, k, w, hw, _ => ⟨w, hw, by rw [txtL, List.append_nil]; exact .nil⟩
  | m + 1, k, w, hw, h => by
    obtain ⟨w1, hw1, z⟩ := pc_lx (q := bitAt b k) (h k (Nat.le_refl _) (by lia)) k (txtL sg b m (k + 1))
    obtain ⟨w2, hw2, z2⟩ := rd_txt sg b m (k + 1) w1 hw1 (fun i h1 h2 => h i (by lia) (by lia))
    refine ⟨w2, hw2, ?_⟩
    rw [txtL, List.range'_succ, List.map_cons]
    exact .cons (lx1_ws hw z) z2
theorem nls_app (a b : List Nat) : nls (a ++ b) = nls a + nls b := by
  unfold nls; rw [List.filter_append, List.length_append]; lia
theorem nls_pc {q : Bool} {c : Nat} (h : okc c) (k : Nat) : nls (pcL q c k) = if k % 3 = 1 then 0 else 1 := by
  have hc : (c == 10) = false := by simpa using h.2.1
  have e1 : nls (bodyL q c) = 0 := by
    cases q with
    | false => simp [bodyL, nls, List.filter, hc]
    | true => by_cases hh : c = 34 ∨ c = 92 <;> simp [bodyL, escL, hh, nls, List.filter, hc]
  unfold pcL
  rw [nls_app, e1]
  have : k % 3 = 0 ∨ k % 3 = 1 ∨ k % 3 = 2 := by lia
  rcases this with h | h | h <;> rw [h] <;> rfl
theorem nls_txt (sg : List Nat) (b : Int) : ∀ (m k : Nat), (∀ i, k ≤ i → i < k + m → okc (sg.getD i 0)) → nls (txtL sg b m k) = (feedN m k : Int)
  | 0, _, _ => rfl
  | m + 1, k, h => by
    rw [txtL, nls_app, nls_pc (h k (Nat.le_refl _) (by lia)), nls_txt sg b m (k + 1) (fun i h1 h2 => h i (by lia) (by lia)), feedN]
    split <;> lia
theorem pcL_len (q : Bool) (c k : Nat) : (pcL q c k).length ≤ 7 := by
  unfold pcL
  rw [List.length_append]
  have := bodyL_len q c; have := sepL_len (k % 3); lia
theorem txtL_len (sg : List Nat) (b : Int) : ∀ (m k : Nat), (txtL sg b m k).length ≤ 7 * m
  | 0, _ => Nat.le_refl _
  | m + 1, k => by
    rw [txtL, List.length_append]
    have := pcL_len (bitAt b k) (sg.getD k 0) k; have := txtL_len sg b m (k + 1); lia
theorem eqLs_str {c : Addr} {zs : List Value} {d : Addr} {ws : List Value} : ∀ {xs ys : List Value}, AllStr xs → AllStr ys → xs.map shS = ys.map shS → EqLs (eqN c zs d ws) xs ys
  | [], [], _, _, _ => trivial
  | x :: xs, y :: ys, h1, h2, h => by
    rw [List.map_cons, List.map_cons] at h
    injection h with e1 e2
    refine ⟨?_, eqLs_str (fun v hv => h1 v (.tail _ hv)) (fun v hv => h2 v (.tail _ hv)) e2⟩
    rw [h1 x (.head _), h2 y (.head _)]
    exact e1
  | [], y :: ys, _, _, h => by simp at h
  | x :: xs, [], _, _, h => by simp at h
theorem eqLs_strW : ∀ {xs ys : List Value}, AllStr xs → AllStr ys → xs.map shS = ys.map shS → EqLs eqW xs ys
  | [], [], _, _, _ => trivial
  | x :: xs, y :: ys, h1, h2, h => by
    rw [List.map_cons, List.map_cons] at h
    injection h with e1 e2
    refine ⟨?_, eqLs_strW (fun v hv => h1 v (.tail _ hv)) (fun v hv => h2 v (.tail _ hv)) e2⟩
    rw [h1 x (.head _), h2 y (.head _)]
    exact e1
  | [], y :: ys, _, _, h => by simp at h
  | x :: xs, [], _, _, h => by simp at h
noncomputable def wd (sg : List Nat) (p : Nat × Nat) : Str := sL (List.replicate (p.1 + 1) 46 ++ [sg.getD p.2 0])
theorem wd_dot (sg : List Nat) (p : Nat × Nat) : dotS (wd sg p) = wd sg (dotP p) := by
  unfold wd dotP dotS
  show sL [46] ++ _ = _
  rw [sL_app]
  congr 1
theorem wd_cnt (sg : List Nat) (p : Nat × Nat) (h : okc (sg.getD p.2 0)) : cntS (wd sg p) ⟨#[46]⟩ = p.1 + 1 := by
  unfold cntS
  rw [count_one]
  show (List.toArray _).toList.count 46 = _
  rw [List.toList_toArray, List.count_append, List.count_replicate_self, List.count_singleton]
  have : (sg.getD p.2 0 == 46) = false := by simpa using h.2.2.2.1
  rw [this]
  rfl
theorem rep46 : ∀ g : Nat, (List.replicate g [46]).flatten = List.replicate g 46
  | 0 => rfl
  | g + 1 => by rw [List.replicate_succ, List.flatten_cons, rep46 g]; rfl
theorem tolW_wd (sg : Str) (gs : List Value) (k : Nat) {g : Nat} (h : shI (itemAt gs k) = g) : tolW sg gs (k : Int) = wd sg.cps.toList (g, k) := by
  unfold tolW wd
  rw [Int.toNat_natCast, h, chAt_sL, Int.toNat_natCast]
  have : repS ⟨#[46]⟩ (1 + (g : Int)) = sL (List.replicate (g + 1) 46) := by
    unfold repS sL
    rw [show (1 + (g : Int)).toNat = g + 1 by lia]
    congr 1
    show (List.flatten (List.replicate (g + 1) [46])).toArray = _
    rw [rep46]
  rw [this, sL_app]
structure ChkF (C : Nat) (D : List Nat) : Prop where
  ob : othN (ordD D 1 [0]) C (C - 1) 0 0 < 60000
  len : (ordD D 1 [0]).length = C
  lt : ∀ x ∈ ordD D 1 [0], x < C
  has : ∀ k, k < C → k ∈ ordD D 1 [0]
  told : dealD dotP D 1 (fun i => (0, i)) [(0, 0)] = (ordD D 1 [0]).map (fun k => (gN (ordD D 1 [0]) k, k))
  n1 : dealN (C - 1) 1 (-(othN (ordD D 1 [0]) C (C - 1) 0 0 : Int) - 1) = -1
  told2 : dealD dotP (digs (C - 1) 1 (-(othN (ordD D 1 [0]) C (C - 1) 0 0 : Int) - 1)) 1 (fun i => (0, C - 1 - i)) [(0, C - 1)] = (ordD D 1 [0]).map (fun k => (lN (ordD D 1 [0]) k, k))
  dig : ∀ i, i < C - 1 → lN (ordD D 1 [0]) (i + 1) + D.getD i 0 = i + 1
theorem chk_f {C : Nat} {D : List Nat} (h : chk C D = true) : ChkF C D := by
  unfold chk at h
  simp only [Bool.and_eq_true, beq_iff_eq, List.all_eq_true, decide_eq_true_eq, List.mem_range, List.any_eq_true] at h
  obtain ⟨h0, h1, h2, h3, h4, h5, h6, h7⟩ := h
  exact ⟨h0, h1, h2, fun k hk => by obtain ⟨v, hv, e⟩ := h3 k hk; rw [← e]; exact hv, h4, h5, h6, h7⟩
structure Ctx (cnt num : Int) (sg : Str) (C : Nat) : Prop where
  cC : cnt = C
  c4 : 4 ≤ C
  c6 : C ≤ 6
  sl : sg.length = C
  nb : -1440 ≤ num ∧ num ≤ 1440
  ok : ∀ k, k < C → okc (sg.cps.toList.getD k 0)
  ck : ∀ D ∈ allD (C - 1) 1, ChkF C D
theorem ctx_of {cnt num : Int} {sg : Str} (h : CntSg cnt sg) (nb : -1440 ≤ num ∧ num ≤ 1440) : ∃ C, Ctx cnt num sg C := by
  have all : ∀ {m : Nat} {C : Nat}, (allD m 1).all (chk C) = true → ∀ D ∈ allD m 1, ChkF C D := fun h D hD => chk_f (List.all_eq_true.mp h D hD)
  rcases h with ⟨rfl, rfl⟩ | ⟨rfl, rfl⟩ | ⟨rfl, rfl⟩
  · refine ⟨4, rfl, by decide, by decide, rfl, nb, fun k hk => ?_, all chk4⟩
    have : k = 0 ∨ k = 1 ∨ k = 2 ∨ k = 3 := by lia
    rcases this with rfl | rfl | rfl | rfl <;> (unfold okc; decide)
  · refine ⟨5, rfl, by decide, by decide, rfl, nb, fun k hk => ?_, all chk5⟩
    have : k = 0 ∨ k = 1 ∨ k = 2 ∨ k = 3 ∨ k = 4 := by lia
    rcases this with rfl | rfl | rfl | rfl | rfl <;> (unfold okc; decide)
  · refine ⟨6, rfl, by decide, by decide, rfl, nb, fun k hk => ?_, all chk6⟩
    have : k = 0 ∨ k = 1 ∨ k = 2 ∨ k = 3 ∨ k = 4 ∨ k = 5 := by lia
    rcases this with rfl | rfl | rfl | rfl | rfl | rfl <;> (unfold okc; decide)
theorem CntSg.ascii {cnt : Int} {sg : Str} (h : CntSg cnt sg) : asciiS sg = true ∧ SgP sg := by
  rcases h with ⟨rfl, rfl⟩ | ⟨rfl, rfl⟩ | ⟨rfl, rfl⟩
  · exact ⟨by decide +kernel, .inl rfl⟩
  · exact ⟨by decide +kernel, .inr (.inl rfl)⟩
  · exact ⟨by decide +kernel, .inr (.inr rfl)⟩
theorem ws_sg {cnt : Int} {sg : Str} {C : Nat} (h : CntSg cnt sg) (hC : sg.length = C) : ((List.range' 0 C).map (fun i => [46, sg.cps.toList.getD i 0])).map sL = sg.cps.toList.map (fun c => sL [46, c]) := by
  subst hC
  rcases h with ⟨rfl, rfl⟩ | ⟨rfl, rfl⟩ | ⟨rfl, rfl⟩ <;> rfl
theorem idxI_N : ∀ {od : List Value} {ON : List Nat} (k : Nat), AllInt od → od.map shI = toI ON → idxI od (k : Int) = idxN ON k
  | [], [], k, _, _ => rfl
  | v :: od, x :: ON, k, h, e => by
    rw [List.map_cons] at e
    show _ = _
    injection e with e1 e2
    have hv := h v (.head _)
    have ih := idxI_N (od := od) (ON := ON) k (fun w hw => h w (.tail _ hw)) e2
    have b : isI (k : Int) v = (x == k) := by
      rw [hv]
      show (shI v == (k : Int)) = (x == k)
      rw [e1]
      by_cases hx : x = k
      · subst hx; simp
      · have : ¬ ((x : Int) = (k : Int)) := by lia
        rw [beq_false_of_ne hx, beq_false_of_ne this]
    rw [idxI, idxN, b]
    cases hb : x == k <;> simp [ih]
  | [], x :: ON, k, _, e => by simp [toI] at e
  | v :: od, [], k, _, e => by simp [toI] at e
theorem toI_item {gs : List Value} {l : List Nat} (e : gs.map shI = toI l) {k : Nat} (hk : k < l.length) : shI (itemAt gs k) = (l.getD k 0 : Int) := by
  have hl : gs.length = l.length := by have := congrArg List.length e; simpa [toI] using this
  have h1 : (gs.map shI)[k]? = (toI l)[k]? := by rw [e]
  rw [List.getElem?_map, itemAt_eq (by lia)] at h1
  simp only [toI, List.getElem?_map, List.getElem?_eq_getElem hk, Option.map_some, Option.some.injEq] at h1
  rw [h1]
  simp [List.getD, hk]
theorem any_isI {od : List Value} {ON : List Nat} {k : Nat} (h : AllInt od) (e : od.map shI = toI ON) (hk : k ∈ ON) : od.any (isI (k : Int)) = true := by
  have hm : (k : Int) ∈ od.map shI := by rw [e]; exact List.mem_map_of_mem hk
  obtain ⟨v, hv, e2⟩ := List.mem_map.mp hm
  rw [List.any_eq_true]
  refine ⟨v, hv, ?_⟩
  rw [h v hv]
  show (shI v == (k : Int)) = true
  rw [e2]; simp
theorem idxN_get : ∀ {ON : List Nat} {k : Nat}, k ∈ ON → idxN ON k < ON.length ∧ ON.getD (idxN ON k) 0 = k
  | [], _, h => by simp at h
  | x :: ON, k, h => by
    rw [idxN]
    by_cases hx : x = k
    · subst hx; simp
    · rcases List.mem_cons.mp h with rfl | h
      · exact absurd rfl hx
      · have ih := idxN_get h
        rw [if_neg (by simpa using hx)]
        exact ⟨by simp; exact ih.1, by simpa using ih.2⟩
theorem plcL_N {od : List Value} {ON : List Nat} (h : AllInt od) (e : od.map shI = toI ON) : ∀ (m k : Nat), plcL od m (k : Int) = toI ((List.range' k m).map (idxN ON))
  | 0, _ => rfl
  | m + 1, k => by
    rw [plcL, idxI_N k h e]
    have := plcL_N h e m (k + 1)
    rw [show ((k : Int) + 1) = ((k + 1 : Nat) : Int) by lia, this, List.range'_succ]
    rfl
theorem range_getD (f : Nat → Nat) {C k : Nat} (h : k < C) : ((List.range' 0 C).map f).getD k 0 = f k := by
  simp [List.getD, h]
theorem cnt_cast (p : Int → Bool) (q : Nat → Bool) (h : ∀ j : Nat, p (j : Int) = q j) : ∀ l : List Nat, (toI l).countP p = l.countP q
  | [] => rfl
  | x :: l => by
    have ih := cnt_cast p q h l
    show List.countP p ((x : Int) :: toI l) = _
    rw [List.countP_cons, List.countP_cons, ih, h]
theorem greL_N {od pc : List Value} {ON : List Nat} {C : Nat} (e : od.map shI = toI ON) (ep : pc.map shI = toI ((List.range' 0 C).map (idxN ON))) (f : Int → Int → Bool) (fn : Nat → Nat → Bool) (hf : ∀ k j : Nat, f (k : Int) (j : Int) = fn k j) :
    ∀ (m k : Nat), k + m ≤ C → greL f od pc m (k : Int) = toI ((List.range' k m).map (fun k => (ON.take (idxN ON k)).countP (fn k)))
  | 0, _, _ => rfl
  | m + 1, k, hk => by
    rw [greL, Int.toNat_natCast, toI_item ep (by simp; lia), range_getD _ (by lia), Int.toNat_natCast]
    have ih := greL_N e ep f fn hf m (k + 1) (by lia)
    rw [show ((k : Int) + 1) = ((k + 1 : Nat) : Int) by lia, ih, List.range'_succ]
    show (_ : Int) :: _ = (_ : Int) :: _
    congr 1
    unfold cntB
    rw [List.map_take, e]
    have : (toI ON).take (idxN ON k) = toI (ON.take (idxN ON k)) := by simp [toI]
    rw [this, cnt_cast (f k) (fn k) (fun j => hf k j)]
theorem rvsL_N (ws : List Value) (C : Nat) : ∀ (m k : Nat), k + m ≤ C → rvsL ws (C : Int) m (k : Int) = (List.range' k m).map (fun i => shS (itemAt ws (C - 1 - i)))
  | 0, _, _ => rfl
  | m + 1, k, h => by
    rw [rvsL, show ((C : Int) - 1 - k).toNat = C - 1 - k by lia, show ((k : Int) + 1) = ((k + 1 : Nat) : Int) by lia, rvsL_N ws C m (k + 1) (by lia), List.range'_succ]
    rfl
theorem othL_N {tl pc : List Value} {ON : List Nat} {C : Nat} (hd : ∀ k, k < C → dotsOf tl pc (k : Int) = gN ON k + 1) : ∀ (m k o : Nat), k + m ≤ C → othL tl pc (C : Int) m (k : Int) (o : Int) = othN ON C m k o
  | 0, _, _, _ => rfl
  | m + 1, k, o, h => by
    rw [othL, othN, hd k (by lia), ← othL_N hd m (k + 1) _ (by lia)]
    have e : ((o * (C - k) + gN ON k : Nat) : Int) = (o : Int) * ((C : Int) - k) + (gN ON k + 1) - 1 := by
      rw [Int.natCast_add, Int.natCast_mul, Int.natCast_sub (by lia)]; lia
    rw [e]
    congr 1
theorem bakL_N {tl pc : List Value} : ∀ (m k : Nat) (n : Int), (∀ i, i < m → dotsOf tl pc ((k + i : Nat) : Int) + ((digs m k n).getD i 0 : Int) = ((k + i : Nat) : Int) + 1) → bakL tl pc m ((k + m : Nat) - 1 : Int) (dealN m k n) = n
  | 0, _, _, _ => rfl
  | m + 1, k, n, h => by
    have key : ∀ (m : Nat) (k : Nat) (o : Int) , bakL tl pc (m + 1) (((k + m : Nat) : Int)) o = bakL tl pc m (((k + m : Nat) : Int) - 1) (o * (((k + m : Nat) : Int) + 1) + ((k + m : Nat) : Int) + 1 - dotsOf tl pc ((k + m : Nat) : Int)) := fun m k o => rfl
    have split : ∀ (m : Nat) (k : Nat) (o : Int), bakL tl pc (m + 1) (((k + m : Nat) : Int)) o = (let o' := bakL tl pc m (((k + 1 + m : Nat) : Int) - 1) o; o' * ((k : Int) + 1) + k + 1 - dotsOf tl pc (k : Int)) := by
      intro m
      induction m with
      | zero => intro k o; rfl
      | succ m ih =>
        intro k o
        rw [key (m + 1) k o]
        have e1 : (((k + (m + 1) : Nat) : Int) - 1) = ((k + m : Nat) : Int) := by lia
        rw [e1, ih k _]
        have e2 : ((k + 1 + (m + 1) : Nat) : Int) - 1 = ((k + 1 + m : Nat) : Int) := by lia
        rw [e2]
        have e3 := key m (k + 1) o
        rw [e3]
        have e4 : ((k + 1 + m : Nat) : Int) = ((k + (m + 1) : Nat) : Int) := by lia
        rw [e4]
    have e0 : ((k + (m + 1) : Nat) : Int) - 1 = ((k + m : Nat) : Int) := by lia
    rw [e0, split m k _]
    have ih := bakL_N m (k + 1) (n.fdiv (k + 1)) (fun i hi => by
      have := h (i + 1) (by lia)
      rw [digs, List.getD_cons_succ] at this
      rw [show k + 1 + i = k + (i + 1) by lia]
      exact this)
    rw [dealN]
    have h0 := h 0 (by lia)
    rw [digs, List.getD_cons_zero, Nat.add_zero] at h0
    have hm := fmod_bd n (b := (k : Int) + 1) (by lia)
    rw [Int.toNat_of_nonneg hm.1] at h0
    show (bakL tl pc m _ _) * _ + _ + _ - _ = n
    rw [ih]
    have := Int.fmod_add_mul_fdiv n ((k : Int) + 1)
    rw [Int.mul_comm] at this
    lia
structure WlG (sg : List Nat) (C : Nat) (f : Nat → Nat) (wl : List Value) : Prop where
  wa : AllStr wl
  wm : wl.map shS = (List.range' 0 C).map (fun i => wd sg (0, f i))
  fl : ∀ i, i < C → f i < C
section
variable {sg : List Nat} {C : Nat} {f : Nat → Nat} {wl : List Value}
theorem WlG.len (h : WlG sg C f wl) : wl.length = C := by have := congrArg List.length h.wm; simpa using this
theorem WlG.item (h : WlG sg C f wl) {i : Nat} (hi : i < C) : shS (itemAt wl i) = wd sg (0, f i) := by
  have e : (wl.map shS)[i]? = ((List.range' 0 C).map (fun i => wd sg (0, f i)))[i]? := by rw [h.wm]
  rw [List.getElem?_map, itemAt_eq (by rw [h.len]; exact hi)] at e
  simpa [hi] using e
theorem WlG.deP (h : WlG sg C f wl) (c4 : 4 ≤ C) (c6 : C ≤ 6) (ok : ∀ k, k < C → okc (sg.getD k 0)) {num : Int} (hn : num.natAbs < 65536) : DeP num wl := by
  have hl := h.len
  refine ⟨by lia, by lia, hn, ⟨h.wa, rfl, fun v hv => ?_⟩⟩
  have hm : shS v ∈ wl.map shS := List.mem_map_of_mem hv
  rw [h.wm] at hm
  obtain ⟨i, hi, e⟩ := List.mem_map.mp hm
  have hi : i < C := by simpa using hi
  have o := ok _ (h.fl i hi)
  rw [← e]
  refine ⟨⟨[sg.getD (f i) 0], rfl, fun c hc => ?_⟩, by show 2 ≤ 8; decide⟩
  have : c = sg.getD (f i) 0 := by simpa using hc
  subst this
  exact ⟨o.2.1, o.2.2.1⟩
theorem WlG.deal (h : WlG sg C f wl) (c4 : 4 ≤ C) {n n' : Int} {tl : List Value} (r : DlR n 1 ((wl.length : Int) - 1) wl [Value.str (shS (itemAt wl 0)) (shT (itemAt wl 0))] n' tl) :
    n' = dealN (C - 1) 1 n ∧ tl.map shS = (dealD dotP (digs (C - 1) 1 n) 1 (fun i => (0, f i)) [(0, f 0)]).map (wd sg) ∧ AllStr tl ∧ tl.length = C ∧ ∀ v ∈ tl, (shS v).length ≤ 14 := by
  have hl := h.len
  have e1 : ((wl.length : Int) - 1).toNat = C - 1 := by lia
  have e2 : (1 : Int).toNat = 1 := rfl
  refine ⟨by rw [r.n, e1, e2], ?_, r.ok.st, by rw [r.ok.len, hl], fun v hv => (r.ok.wd v hv).2⟩
  rw [r.l, e1, e2, dealL_dig]
  have w0 : [Value.str (shS (itemAt wl 0)) (shT (itemAt wl 0))].map shS = [(0, f 0)].map (wd sg) := by
    show [shS (itemAt wl 0)] = [wd sg (0, f 0)]
    rw [h.item (by lia)]
  rw [w0]
  refine dealD_map (wd sg) dotP dotS (fun x => wd_dot sg x) _ _ _ _ _ (fun i h1 h2 => ?_)
  rw [digs_len] at h2
  rw [List.getD_eq_getElem?_getD, h.wm]
  simp [show i < C by lia]
end
structure L2P (cnt num : Int) (sg text : Str) (p n : Int) (pbs : List Value) (l : List Nat) (ws : List (List Nat)) (rest : List Nat) : Prop where
  c : CntSg cnt sg
  nb : -1440 ≤ num ∧ num ≤ 1440
  p0 : p = 0
  n1 : n = 1
  pb : pbs = []
  tx : text = sL l
  hl : ∃ b, l = txtL sg.cps.toList b cnt.toNat 0
  hw : ws = (List.range' 0 cnt.toNat).map (fun i => [46, sg.cps.toList.getD i 0])
structure OdF (C : Nat) (num : Int) (od : List Value) : Prop where
  oa : AllInt od
  om : od.map shI = toI (ordD (digs (C - 1) 1 num) 1 [0])
section
variable {cnt num : Int} {sg text : Str} {p n : Int} {pbs : List Value} {l : List Nat} {ws : List (List Nat)} {rest : List Nat}
theorem L2P.ctx (h : L2P cnt num sg text p n pbs l ws rest) : Ctx cnt num sg cnt.toNat := by
  obtain ⟨C, x⟩ := ctx_of h.c h.nb
  have : cnt.toNat = C := by have := x.cC; lia
  rw [this]; exact x
theorem L2P.cb (h : L2P cnt num sg text p n pbs l ws rest) : 4 ≤ cnt ∧ cnt ≤ 6 := by have x := h.ctx; have := x.c4; have := x.c6; have := x.cC; lia
theorem L2P.it (h : L2P cnt num sg text p n pbs l ws rest) : (1 : Int) = 1 ∧ (-(2 : Int) ^ 62 ≤ 0 ∧ (0 : Int) < 2 ^ 62) ∧ -(2 : Int) ^ 62 ≤ cnt ∧ cnt < (2 : Int) ^ 62 := by have := h.cb; lia
theorem L2P.it1 (h : L2P cnt num sg text p n pbs l ws rest) : (1 : Int) = 1 ∧ (-(2 : Int) ^ 62 ≤ 1 ∧ (1 : Int) < 2 ^ 62) ∧ -(2 : Int) ^ 62 ≤ cnt ∧ cnt < (2 : Int) ^ 62 := by have := h.cb; lia
theorem L2P.it2 (h : L2P cnt num sg text p n pbs l ws rest) : (1 : Int) = 1 ∧ (-(2 : Int) ^ 62 ≤ 0 ∧ (0 : Int) < 2 ^ 62) ∧ -(2 : Int) ^ 62 ≤ cnt - 1 ∧ cnt - 1 < (2 : Int) ^ 62 := by have := h.cb; lia
theorem L2P.it3 (h : L2P cnt num sg text p n pbs l ws rest) : (-1 : Int) = -1 ∧ (-(2 : Int) ^ 62 ≤ cnt - 1 ∧ cnt - 1 < 2 ^ 62) ∧ -(2 : Int) ^ 62 ≤ 0 ∧ (0 : Int) < (2 : Int) ^ 62 := by have := h.cb; lia
theorem L2P.rl (h : L2P cnt num sg text p n pbs l ws rest) : rlen 0 cnt = cnt := rlen0 (by have := h.cb; lia)
theorem L2P.rl1 (h : L2P cnt num sg text p n pbs l ws rest) : rlen 0 (cnt - 1) = cnt - 1 := rlen0 (by have := h.cb; lia)
theorem L2P.rg (h : L2P cnt num sg text p n pbs l ws rest) : RgP 0 cnt (8 + 1) := by have := h.cb; exact ⟨by lia, by lia, by lia⟩
theorem L2P.wa (h : L2P cnt num sg text p n pbs l ws rest) : WoP text p (rlen 0 cnt) pbs [] l ws ∧ 0 < rlen 0 cnt := by
  have hc := h.cb
  obtain ⟨b, hb⟩ := h.hl
  have hl := txtL_len sg.cps.toList b cnt.toNat 0
  rw [← hb] at hl
  rw [h.rl]
  refine ⟨⟨?_, ⟨by rw [h.p0]; decide, ?_, ?_⟩, h.pb, fun v hv => by simp at hv, ?_⟩, by lia⟩
  · rw [h.hw]; simp; lia
  · rw [h.tx, h.p0]; show (List.toArray l).toList.drop 0 = l; simp
  · have := small_line; show 0 + l.length ≤ _; lia
  · rw [h.hw]; simp; lia
theorem L2P.wl (h : L2P cnt num sg text p n pbs l ws rest) {p' n' : Int} {wl : List Value} (r : WoR text n [] l ws rest p' n' wl) : WlG sg.cps.toList cnt.toNat (fun i => i) wl := by
  refine ⟨r.xa, ?_, fun i hi => hi⟩
  rw [r.xm, h.hw, List.map_map]
  rfl
theorem L2P.eq1 (h : L2P cnt num sg text p n pbs l ws rest) {p' n' : Int} {wl xs zs1 zs2 : List Value} {c d : Addr} (r : WoR text n [] l ws rest p' n' wl) (r1 : SgR sg xs) : EqLs (eqN c zs1 d zs2) wl xs := by
  refine eqLs_str r.xa r1.xa ?_
  rw [r.xm, r1.xm, h.hw, List.map_nil, List.nil_append, ws_sg h.c h.ctx.sl]
theorem L2P.fd (h : L2P cnt num sg text p n pbs l ws rest) : FdP 0 (rlen 0 cnt) [] (8 + 1) ∧ 0 < rlen 0 cnt := by
  have hc := h.cb
  rw [h.rl]
  exact ⟨⟨h.rg, by simp; lia⟩, by lia⟩
theorem L2P.fl (h : L2P cnt num sg text p n pbs l ws rest) {xs : List Value} (r : FdR 0 (rlen 0 cnt) [] xs) : xs.length = feedN cnt.toNat 0 := by
  have e := r.n
  rw [h.rl] at e
  rw [e]; simp
theorem feedN_le : ∀ (m k : Nat), feedN m k ≤ m
  | 0, _ => Nat.le_refl _
  | m + 1, k => by have := feedN_le m (k + 1); rw [feedN]; split <;> lia
theorem L2P.fo (h : L2P cnt num sg text p n pbs l ws rest) {xs : List Value} (r : FdR 0 (rlen 0 cnt) [] xs) : xs.length ≤ sizeLine := by
  have := h.fl r; have := feedN_le cnt.toNat 0; have := h.cb; have := small_line; lia
theorem L2P.gw (h : L2P cnt num sg text p n pbs l ws rest) {p' n' : Int} {wl : List Value} (r : WoR text n [] l ws rest p' n' wl) (hr : rest.length ≤ sizeLine) : pbs = [] ∧ GP text p' ⟨#[]⟩ rest := ⟨h.pb, r.p0, r.rm, by show 0 + _ ≤ _; lia⟩
theorem L2P.ge (h : L2P cnt num sg text p n pbs l ws rest) {p' : Int} {m : Prop} (r : 0 ≤ p' ∧ rem text p' = [] ∧ m) : pbs = [] ∧ GP text p' ⟨#[]⟩ [] := ⟨h.pb, r.1, r.2.1, Nat.zero_le _⟩
theorem L2P.eq2 (h : L2P cnt num sg text p n pbs l ws rest) {p0 p1 p2 n0 n1 n2 : Int} {wl fs : List Value} (r : WoR text n [] l ws rest p0 n0 wl) (r3 : 0 ≤ p1 ∧ rem text p1 = [] ∧ n1 = n0 + nls rest) (r4 : 0 ≤ p2 ∧ rem text p2 = [] ∧ n2 = n1 + nls []) (r2 : FdR 0 (rlen 0 cnt) [] fs) : n2 = 1 + (fs.length : Int) := by
  obtain ⟨b, hb⟩ := h.hl
  have hn := nls_txt sg.cps.toList b cnt.toNat 0 (fun i _ hi => h.ctx.ok i (by lia))
  rw [← hb] at hn
  have e0 := r.nl; have e3 := r3.2.2; have e4 := r4.2.2
  have z : nls [] = 0 := rfl
  have := h.fl r2; have := h.n1
  lia
theorem L2P.or (h : L2P cnt num sg text p n pbs l ws rest) (t : Tok) : OrP 1 (rlen 1 cnt) num [.int 0 t] 8 := by
  have hc := h.cb; have := h.nb
  have e : rlen 1 cnt = cnt - 1 := by unfold rlen; rw [if_pos (by lia)]
  rw [e]
  exact ⟨⟨by lia, by lia, by lia⟩, by lia, by lia, rfl, AllInt.one _ _, by lia⟩
theorem L2P.od (h : L2P cnt num sg text p n pbs l ws rest) {t : Tok} {quo : Int} {od : List Value} (r : OrR 1 (rlen 1 cnt) num [.int 0 t] quo od) : OdF cnt.toNat num od ∧ quo = dealN (cnt.toNat - 1) 1 num := by
  have hc := h.cb
  have e : rlen 1 cnt = cnt - 1 := by unfold rlen; rw [if_pos (by lia)]
  have e1 : (cnt - 1).toNat = cnt.toNat - 1 := by lia
  refine ⟨⟨r.oa, ?_⟩, ?_⟩
  · rw [r.om, e, e1]
    exact ordL_dig (cnt.toNat - 1) 1 num [0]
  · rw [r.q, e, e1]; rfl
theorem L2P.ck (h : L2P cnt num sg text p n pbs l ws rest) : ChkF cnt.toNat (digs (cnt.toNat - 1) 1 num) := h.ctx.ck _ (digs_mem _ _ _)
theorem L2P.ol (h : L2P cnt num sg text p n pbs l ws rest) {od : List Value} (o : OdF cnt.toNat num od) : od.length = cnt.toNat := by
  have := congrArg List.length o.om
  rw [List.length_map, List.length_map, h.ck.len] at this
  exact this
theorem L2P.pl (h : L2P cnt num sg text p n pbs l ws rest) {od : List Value} (o : OdF cnt.toNat num od) : PlP 0 (rlen 0 cnt) od [] (8 + 1) ∧ 0 < rlen 0 cnt := by
  have hc := h.cb; have := h.ol o
  rw [h.rl]
  refine ⟨⟨h.rg, o.oa, by lia, fun j h0 h1 => ?_, fun v hv => by simp at hv, by simp; lia⟩, by lia⟩
  obtain ⟨k, rfl⟩ := Int.eq_ofNat_of_zero_le h0
  exact any_isI o.oa o.om (h.ck.has k (by lia))
structure PcF (C : Nat) (num : Int) (pc : List Value) : Prop where
  pa : AllInt pc
  pm : pc.map shI = toI ((List.range' 0 C).map (idxN (ordD (digs (C - 1) 1 num) 1 [0])))
theorem L2P.pc (h : L2P cnt num sg text p n pbs l ws rest) {od pc : List Value} (o : OdF cnt.toNat num od) (r : PlR 0 (rlen 0 cnt) od [] pc) : PcF cnt.toNat num pc := by
  refine ⟨r.xa, ?_⟩
  have e := r.xm
  rw [h.rl] at e
  rw [e]
  exact plcL_N o.oa o.om cnt.toNat 0
theorem PcF.len {C : Nat} {pc : List Value} (x : PcF C num pc) : pc.length = C := by have := congrArg List.length x.pm; simpa [toI] using this
theorem PcF.at {C : Nat} {pc : List Value} (x : PcF C num pc) {k : Nat} (hk : k < C) : shI (itemAt pc k) = idxN (ordD (digs (C - 1) 1 num) 1 [0]) k := by
  rw [toI_item x.pm (by simpa using hk), range_getD _ hk]
theorem PcF.bd {C : Nat} {pc : List Value} (x : PcF C num pc) (ck : ChkF C (digs (C - 1) 1 num)) : ∀ v ∈ pc, 0 ≤ shI v ∧ shI v < C := fun v hv => by
  have hm : shI v ∈ pc.map shI := List.mem_map_of_mem hv
  rw [x.pm] at hm
  obtain ⟨y, hy, e⟩ := List.mem_map.mp hm
  obtain ⟨k, hk, rfl⟩ := List.mem_map.mp hy
  have hk : k < C := by simpa using hk
  have := (idxN_get (ck.has k hk)).1
  rw [ck.len] at this
  lia
theorem L2P.gr (h : L2P cnt num sg text p n pbs l ws rest) {od pc : List Value} (o : OdF cnt.toNat num od) (x : PcF cnt.toNat num pc) : GrP 0 (rlen 0 cnt) od pc [] (8 + 1) ∧ 0 < rlen 0 cnt := by
  have hc := h.cb; have := h.ol o; have := x.len
  rw [h.rl]
  exact ⟨⟨h.rg, o.oa, by lia, x.pa, by lia, by lia, fun v hv => (x.bd h.ck v hv).1, fun v hv => by simp at hv, by simp; lia⟩, by lia⟩
structure GsF (C : Nat) (g : Nat → Nat) (gs : List Value) : Prop where
  ga : AllInt gs
  gm : gs.map shI = toI ((List.range' 0 C).map g)
theorem GsF.len {C : Nat} {g : Nat → Nat} {gs : List Value} (x : GsF C g gs) : gs.length = C := by have := congrArg List.length x.gm; simpa [toI] using this
theorem GsF.at {C : Nat} {g : Nat → Nat} {gs : List Value} (x : GsF C g gs) {k : Nat} (hk : k < C) : shI (itemAt gs k) = g k := by rw [toI_item x.gm (by simpa using hk), range_getD _ hk]
theorem L2P.g1 (h : L2P cnt num sg text p n pbs l ws rest) {od pc gs : List Value} (o : OdF cnt.toNat num od) (x : PcF cnt.toNat num pc) (r : GrR (fun k j => decide (j > k)) 0 (rlen 0 cnt) od pc [] gs) : GsF cnt.toNat (gN (ordD (digs (cnt.toNat - 1) 1 num) 1 [0])) gs := by
  refine ⟨r.xa, ?_⟩
  have e := r.xm
  rw [h.rl] at e
  rw [e]
  exact greL_N o.om x.pm _ (fun k j => decide (k < j)) (fun k j => by simp) cnt.toNat 0 (by lia)
theorem L2P.g2 (h : L2P cnt num sg text p n pbs l ws rest) {od pc gs : List Value} (o : OdF cnt.toNat num od) (x : PcF cnt.toNat num pc) (r : GrR (fun k j => decide (j < k)) 0 (rlen 0 cnt) od pc [] gs) : GsF cnt.toNat (lN (ordD (digs (cnt.toNat - 1) 1 num) 1 [0])) gs := by
  refine ⟨r.xa, ?_⟩
  have e := r.xm
  rw [h.rl] at e
  rw [e]
  exact greL_N o.om x.pm _ (fun k j => decide (j < k)) (fun k j => by simp) cnt.toNat 0 (by lia)
theorem count_le {od : List Nat} {C : Nat} (hl : od.length = C) (k : Nat) (q : Nat → Bool) : (od.take (idxN od k)).countP q ≤ C := by
  refine Nat.le_trans List.countP_le_length ?_
  rw [List.length_take]; lia
theorem L2P.to (h : L2P cnt num sg text p n pbs l ws rest) {od gs : List Value} (o : OdF cnt.toNat num od) {g : Nat → Nat} (x : GsF cnt.toNat g gs) (hg : ∀ k, g k ≤ 20) : ToP 0 od sg gs [] (8 + 1) ∧ (0 : Int).toNat < od.length := by
  have hc := h.cb; have hol := h.ol o; have hgl := x.len; have hs := h.ctx.sl
  refine ⟨⟨⟨by lia, by lia, by lia, by lia⟩, o.oa, fun v hv => ?_, x.ga, by lia, fun v hv => ?_, by lia, fun v hv => by simp at hv, by simp; lia⟩, by show 0 < _; lia⟩
  · have hm : shI v ∈ od.map shI := List.mem_map_of_mem hv
    rw [o.om] at hm
    obtain ⟨k, hk, e⟩ := List.mem_map.mp hm
    have := h.ck.lt k hk
    lia
  · have hm : shI v ∈ gs.map shI := List.mem_map_of_mem hv
    rw [x.gm] at hm
    obtain ⟨y, hy, e⟩ := List.mem_map.mp hm
    obtain ⟨k, hk, rfl⟩ := List.mem_map.mp hy
    have := hg k
    lia
theorem L2P.gle (h : L2P cnt num sg text p n pbs l ws rest) : (∀ k, gN (ordD (digs (cnt.toNat - 1) 1 num) 1 [0]) k ≤ 20) ∧ ∀ k, lN (ordD (digs (cnt.toNat - 1) 1 num) 1 [0]) k ≤ 20 := by
  have hc := h.cb
  have hl := h.ck.len
  refine ⟨fun k => ?_, fun k => ?_⟩
  · have := count_le hl k (fun j => decide (k < j))
    unfold gN; lia
  · have := count_le hl k (fun j => decide (j < k))
    unfold lN; lia
theorem L2P.tom (h : L2P cnt num sg text p n pbs l ws rest) {od gs xs : List Value} (o : OdF cnt.toNat num od) {g : Nat → Nat} (x : GsF cnt.toNat g gs) (r : ToR 0 od sg gs [] xs) :
    xs.map shS = ((ordD (digs (cnt.toNat - 1) 1 num) 1 [0]).map (fun k => (g k, k))).map (wd sg.cps.toList) := by
  have e := r.xm
  rw [show (0 : Int).toNat = 0 from rfl, List.drop_zero, List.map_nil, List.nil_append] at e
  have e2 : od.map (fun v => tolW sg gs (shI v)) = (od.map shI).map (fun i => tolW sg gs i) := by rw [List.map_map]; rfl
  rw [e, e2, o.om, List.map_map, List.map_map]
  apply List.map_congr_left
  intro k hk
  exact tolW_wd sg gs k (x.at (h.ck.lt k hk))
structure TlF (C : Nat) (num : Int) (sg : Str) (g : Nat → Nat) (tl : List Value) : Prop where
  ta : AllStr tl
  tm : tl.map shS = ((ordD (digs (C - 1) 1 num) 1 [0]).map (fun k => (g k, k))).map (wd sg.cps.toList)
theorem L2P.t1 (h : L2P cnt num sg text p n pbs l ws rest) {p' n' : Int} {wl tl : List Value} (r : WoR text n [] l ws rest p' n' wl) {q : Int} (d : DlR num 1 ((wl.length : Int) - 1) wl [Value.str (shS (itemAt wl 0)) (shT (itemAt wl 0))] q tl) :
    q = dealN (cnt.toNat - 1) 1 num ∧ TlF cnt.toNat num sg (gN (ordD (digs (cnt.toNat - 1) 1 num) 1 [0])) tl := by
  have z := (h.wl r).deal h.ctx.c4 d
  exact ⟨z.1, z.2.2.1, by rw [z.2.1, h.ck.told]⟩
theorem L2P.eq3 (h : L2P cnt num sg text p n pbs l ws rest) {od gs xs tl : List Value} (o : OdF cnt.toNat num od) {g : Nat → Nat} (x : GsF cnt.toNat g gs) (r : ToR 0 od sg gs [] xs) (t : TlF cnt.toNat num sg g tl) : EqLs eqW tl xs :=
  eqLs_strW t.ta r.xa (by rw [t.tm, h.tom o x r])
theorem TlF.len {C : Nat} {g : Nat → Nat} {tl : List Value} (t : TlF C num sg g tl) (ck : ChkF C (digs (C - 1) 1 num)) : tl.length = C := by
  have := congrArg List.length t.tm
  rw [List.length_map, List.length_map, List.length_map, ck.len] at this
  exact this
theorem TlF.at {C : Nat} {g : Nat → Nat} {tl : List Value} (t : TlF C num sg g tl) (ck : ChkF C (digs (C - 1) 1 num)) {k : Nat} (hk : k < C) : shS (itemAt tl (idxN (ordD (digs (C - 1) 1 num) 1 [0]) k)) = wd sg.cps.toList (g k, k) := by
  have hi := idxN_get (ck.has k hk)
  have e : (tl.map shS)[idxN (ordD (digs (C - 1) 1 num) 1 [0]) k]? = (((ordD (digs (C - 1) 1 num) 1 [0]).map (fun k => (g k, k))).map (wd sg.cps.toList))[idxN (ordD (digs (C - 1) 1 num) 1 [0]) k]? := by rw [t.tm]
  rw [List.getElem?_map, itemAt_eq (by rw [t.len ck]; have := hi.1; rw [ck.len] at this; exact this), List.getElem?_map, List.getElem?_map, List.getElem?_eq_getElem hi.1] at e
  have e2 : (ordD (digs (C - 1) 1 num) 1 [0])[idxN (ordD (digs (C - 1) 1 num) 1 [0]) k] = k := by
    have := hi.2
    rw [List.getD_eq_getElem?_getD, List.getElem?_eq_getElem hi.1] at this
    exact this
  rw [e2] at e
  simpa using e
theorem TlF.dots {C : Nat} {g : Nat → Nat} {tl pc : List Value} (t : TlF C num sg g tl) (ck : ChkF C (digs (C - 1) 1 num)) (x : PcF C num pc) (ok : ∀ k, k < C → okc (sg.cps.toList.getD k 0)) {k : Nat} (hk : k < C) : dotsOf tl pc (k : Int) = g k + 1 := by
  unfold dotsOf
  rw [Int.toNat_natCast, x.at hk, Int.toNat_natCast, t.at ck hk, wd_cnt _ _ (ok k hk)]
  rfl
theorem TlF.td {C : Nat} {g : Nat → Nat} {tl : List Value} (t : TlF C num sg g tl) (ck : ChkF C (digs (C - 1) 1 num)) (ok : ∀ k, k < C → okc (sg.cps.toList.getD k 0)) (hg : ∀ k, g k ≤ 19) : ∀ v ∈ tl, cntS (shS v) ⟨#[46]⟩ ≤ 20 := fun v hv => by
  have hm : shS v ∈ tl.map shS := List.mem_map_of_mem hv
  rw [t.tm] at hm
  obtain ⟨y, hy, e⟩ := List.mem_map.mp hm
  obtain ⟨k, hk, rfl⟩ := List.mem_map.mp hy
  rw [← e, wd_cnt _ _ (ok k (ck.lt k hk))]
  have := hg k
  show g k + 1 ≤ 20
  lia
theorem L2P.gle' (h : L2P cnt num sg text p n pbs l ws rest) : (∀ k, gN (ordD (digs (cnt.toNat - 1) 1 num) 1 [0]) k ≤ 19) ∧ ∀ k, lN (ordD (digs (cnt.toNat - 1) 1 num) 1 [0]) k ≤ 19 := by
  have hc := h.cb
  have hl := h.ck.len
  refine ⟨fun k => ?_, fun k => ?_⟩
  · have := count_le hl k (fun j => decide (k < j))
    unfold gN; lia
  · have := count_le hl k (fun j => decide (j < k))
    unfold lN; lia
theorem dealN_bd : ∀ (m k : Nat) (n : Int), 1 ≤ k → n.natAbs < 65536 → (dealN m k n).natAbs < 65536
  | 0, _, _, _, h => h
  | m + 1, k, n, hk, h => dealN_bd m (k + 1) _ (by lia) (fdiv_less h (by lia))
theorem L2P.ot (h : L2P cnt num sg text p n pbs l ws rest) {pc tl : List Value} (x : PcF cnt.toNat num pc) (t : TlF cnt.toNat num sg (gN (ordD (digs (cnt.toNat - 1) 1 num) 1 [0])) tl) : OtP 0 (rlen 0 (cnt - 1)) cnt 0 pc tl 8 := by
  have hc := h.cb; have := x.len; have hl := t.len h.ck
  rw [h.rl1]
  exact ⟨⟨by lia, by lia, by lia⟩, by lia, by lia, by lia, by lia, x.pa, fun v hv => by have := x.bd h.ck v hv; lia, by lia, t.ta, t.td h.ck h.ctx.ok h.gle'.1, by decide⟩
theorem L2P.oth (h : L2P cnt num sg text p n pbs l ws rest) {pc tl : List Value} (x : PcF cnt.toNat num pc) (t : TlF cnt.toNat num sg (gN (ordD (digs (cnt.toNat - 1) 1 num) 1 [0])) tl) {o : Int} (r : OtR 0 (rlen 0 (cnt - 1)) cnt 0 pc tl o) : o = othN (ordD (digs (cnt.toNat - 1) 1 num) 1 [0]) cnt.toNat (cnt.toNat - 1) 0 0 := by
  have hc := h.cb
  have e := r.e
  rw [h.rl1, show (cnt - 1).toNat = cnt.toNat - 1 by lia] at e
  have z := othL_N (C := cnt.toNat) (fun k hk => t.dots h.ck x h.ctx.ok hk) (cnt.toNat - 1) 0 0 (by lia)
  rw [show ((cnt.toNat : Nat) : Int) = cnt by lia] at z
  rw [e]; exact z
theorem L2P.d2 (h : L2P cnt num sg text p n pbs l ws rest) {p' n' : Int} {wl : List Value} (r : WoR text n [] l ws rest p' n' wl) : RvP 0 (rlen 0 cnt) cnt wl [] (8 + 1) ∧ 0 < rlen 0 cnt := by
  have hc := h.cb; have hl := (h.wl r).len
  rw [h.rl]
  exact ⟨⟨h.rg, by lia, by lia, by lia, r.xa, fun v hv => by simp at hv, by simp; lia⟩, by lia⟩
theorem L2P.rv (h : L2P cnt num sg text p n pbs l ws rest) {p' n' : Int} {wl rl : List Value} (r : WoR text n [] l ws rest p' n' wl) (v : RvR 0 (rlen 0 cnt) cnt wl [] rl) : WlG sg.cps.toList cnt.toNat (fun i => cnt.toNat - 1 - i) rl := by
  have hc := h.cb
  refine ⟨v.xa, ?_, fun i hi => by lia⟩
  have e := v.xm
  rw [h.rl] at e
  have z := rvsL_N wl cnt.toNat cnt.toNat 0 (by lia)
  rw [show ((cnt.toNat : Nat) : Int) = cnt by lia] at z
  rw [e, List.map_nil, List.nil_append]
  refine z.trans (List.map_congr_left fun i hi => ?_)
  have hi : i < cnt.toNat := by simpa using hi
  exact (h.wl r).item (by lia)
theorem L2P.dp1 (h : L2P cnt num sg text p n pbs l ws rest) {p' n' : Int} {wl : List Value} (r : WoR text n [] l ws rest p' n' wl) : DeP num wl := (h.wl r).deP h.ctx.c4 h.ctx.c6 h.ctx.ok (by have := h.nb; lia)
theorem L2P.dp2 (h : L2P cnt num sg text p n pbs l ws rest) {p' n' : Int} {wl rl pc tl : List Value} (r : WoR text n [] l ws rest p' n' wl) (v : RvR 0 (rlen 0 cnt) cnt wl [] rl) (x : PcF cnt.toNat num pc)
    (t : TlF cnt.toNat num sg (gN (ordD (digs (cnt.toNat - 1) 1 num) 1 [0])) tl) {o : Int} (ro : OtR 0 (rlen 0 (cnt - 1)) cnt 0 pc tl o) : DeP (Builtin.bitNot o) rl :=
  (h.rv r v).deP h.ctx.c4 h.ctx.c6 h.ctx.ok (by have e := h.oth x t ro; have := h.ck.ob; show (-o - 1).natAbs < _; lia)
theorem L2P.t2 (h : L2P cnt num sg text p n pbs l ws rest) {p' n' : Int} {wl rl pc tl tl2 : List Value} (r : WoR text n [] l ws rest p' n' wl) (v : RvR 0 (rlen 0 cnt) cnt wl [] rl) (x : PcF cnt.toNat num pc)
    (t : TlF cnt.toNat num sg (gN (ordD (digs (cnt.toNat - 1) 1 num) 1 [0])) tl) {o : Int} (ro : OtR 0 (rlen 0 (cnt - 1)) cnt 0 pc tl o) {q : Int} (d : DlR (Builtin.bitNot o) 1 ((rl.length : Int) - 1) rl [Value.str (shS (itemAt rl 0)) (shT (itemAt rl 0))] q tl2) :
    q = -1 ∧ TlF cnt.toNat num sg (lN (ordD (digs (cnt.toNat - 1) 1 num) 1 [0])) tl2 := by
  have z := (h.rv r v).deal h.ctx.c4 d
  have e := h.oth x t ro
  have e2 : Builtin.bitNot o = -(othN (ordD (digs (cnt.toNat - 1) 1 num) 1 [0]) cnt.toNat (cnt.toNat - 1) 0 0 : Int) - 1 := by rw [e]; rfl
  rw [e2] at z
  refine ⟨by rw [z.1, h.ck.n1], z.2.2.1, ?_⟩
  rw [z.2.1]
  have c2 := h.ck.told2
  rw [← c2]
  rfl
theorem L2P.bk (h : L2P cnt num sg text p n pbs l ws rest) {pc tl : List Value} (x : PcF cnt.toNat num pc) (t : TlF cnt.toNat num sg (lN (ordD (digs (cnt.toNat - 1) 1 num) 1 [0])) tl) {q : Int} (hq : q = dealN (cnt.toNat - 1) 1 num) : BkP (cnt - 1) (rlen 0 (cnt - 1)) q pc tl 8 := by
  have hc := h.cb; have := x.len; have hl := t.len h.ck
  rw [h.rl1]
  have hb : q.natAbs < 65536 := by rw [hq]; exact dealN_bd _ _ _ (by decide) (by have := h.nb; lia)
  refine ⟨by lia, by lia, by lia, by lia, by lia, by lia, x.pa, fun v hv => by have := x.bd h.ck v hv; lia, by lia, t.ta, t.td h.ck h.ctx.ok h.gle'.2, ?_⟩
  have : 1 ≤ 100 ^ (5 - (cnt - 1).toNat) := Nat.pow_le_pow_right (by decide : 0 < 100) (Nat.zero_le _)
  lia
theorem L2P.fin (h : L2P cnt num sg text p n pbs l ws rest) {pc tl : List Value} (x : PcF cnt.toNat num pc) (t : TlF cnt.toNat num sg (lN (ordD (digs (cnt.toNat - 1) 1 num) 1 [0])) tl) {q o : Int} (hq : q = dealN (cnt.toNat - 1) 1 num) (r : BkR (cnt - 1) (rlen 0 (cnt - 1)) q pc tl o) : o = num := by
  have hc := h.cb
  have e := r.e
  rw [h.rl1, show (cnt - 1).toNat = cnt.toNat - 1 by lia, hq] at e
  have z := bakL_N (tl := tl) (pc := pc) (cnt.toNat - 1) 1 num (fun i hi => by
    have h1 := t.dots h.ck x h.ctx.ok (k := 1 + i) (by lia)
    have h2 := h.ck.dig i hi
    rw [h1]
    rw [show 1 + i = i + 1 by lia]
    lia)
  rw [show (((1 + (cnt.toNat - 1) : Nat) : Int) - 1) = cnt - 1 by lia] at z
  rw [e, z]
theorem rd_len {l rest : List Nat} {ws : List (List Nat)} (z : Rd l ws rest) : rest.length ≤ l.length := by
  induction z with
  | nil => exact Nat.le_refl _
  | cons z _ ih => exact Nat.le_trans ih (lx1_len z)
theorem L2P.rr (h : L2P cnt num sg text p n pbs l ws rest) (z : Rd l ws rest) : rest.length ≤ sizeLine := by
  have hc := h.cb
  obtain ⟨b, hb⟩ := h.hl
  have hl := txtL_len sg.cps.toList b cnt.toNat 0
  rw [← hb] at hl
  have := rd_len z; have := small_line; lia
theorem L1R.l2 {cnt num : Int} {sg text : Str} (r : L1R cnt num sg text) : ∃ l ws rest, L2P cnt num sg text 0 1 [] l ws rest ∧ Rd l ws rest ∧ Lx1 rest [] [] := by
  obtain ⟨b, hb⟩ := r.tx
  obtain ⟨C, x⟩ := ctx_of r.c r.nb
  have hC : cnt.toNat = C := by have := x.cC; lia
  obtain ⟨w', hw, z⟩ := rd_txt sg.cps.toList b cnt.toNat 0 [] (fun x hx => by simp at hx) (fun i _ hi => x.ok i (by lia))
  exact ⟨_, _, w', ⟨r.c, r.nb, rfl, rfl, rfl, hb, ⟨b, rfl⟩, rfl⟩, z, allWs_lx hw⟩
end
theorem eqN_s {c : Addr} {zs : List Value} {d : Addr} {ws : List Value} {x y : Str} {t u : Tok} (h : x = y) : eqN c zs d ws (.str x t) (.str y u) := h
theorem eqN_i {c : Addr} {zs : List Value} {d : Addr} {ws : List Value} {x y : Int} {t u : Tok} (h : x = y) : eqN c zs d ws (.int x t) (.int y u) := h
theorem eqN_r {c : Addr} {zs : List Value} {d : Addr} {ws : List Value} (h : EqLs eqW zs ws) : eqN c zs d ws (.ref c) (.ref d) := ⟨⟨rfl, rfl⟩, h⟩
theorem eqL3 {P : Value → Value → Prop} {a b c x y z : Value} (h1 : P a x) (h2 : P b y) (h3 : P c z) : EqLs P [a, b, c] [x, y, z] := ⟨h1, h2, h3, trivial⟩
theorem eqL4 {P : Value → Value → Prop} {a b c d x y z w : Value} (h1 : P a x) (h2 : P b y) (h3 : P c z) (h4 : P d w) : EqLs P [a, b, c, d] [x, y, z, w] := ⟨h1, h2, h3, h4, trivial⟩
end Mine
end
section

namespace Mine
open PySem PySem.Spec PySem.Calls PyProof.Rows PySem.W PySem.W.X PySem.Builtin.Str
noncomputable def S_gew (W : Wd) (l : List Nat) : Sp (BB W) :=
  let B := BB W
  { d := 80
    c := fun q => .call (.ref 59) ⟨[.ref (q.a 0)], []⟩
    P := fun q => (q.l 0) = [] ∧ GP (q.s 0) (q.i 1) ⟨#[]⟩ l
    pre := fun q => lxQ W q 0 0 0 0 0 0
    R := fun q e => 0 ≤ (e.i 0) ∧ rem (q.s 0) (e.i 0) = [] ∧ (e.i 1) = (q.i 0) + nls l
    res := fun q e => .ok (.ret (.str ⟨#[]⟩ (e.t 2)))
    out := fun q e => lxV W (q.a 0) (q.a 1) (q.t 0) (e.i 1) (e.t 0) (q.t 2) (q.a 2) (q.t 3) (q.t 4) (q.t 5) (q.a 3) (q.l 0) (q.t 6) (q.f 0) (q.a 4) (q.t 7) (q.a 5) (q.a 6) (q.a 7) (q.a 8) (q.a 9) (q.t 8) (q.v 0) (q.l 1) (q.s 0) (q.t 9) (q.a 10) (e.i 0) (e.t 1) }
noncomputable def on_gew : Code → View → Lt := fun c V => lt ([valA (nthV (cPos c) 0)]++xA V 0) ([]++xT V 1) [dI V 1 0,qI V 9 0] [valS (cellV (nthO V 7))] [nthV (sQ V 6) 0] [sQ V 2,dropV 2 (sQ V 6)] [fdO (nthO V 3)]
theorem gew_ok (W : Wd) (O : (BB W).Ok) {l : List Nat} (z : Lx1 l [] []) : (S_gew W l).Ok := fun q hq => by
  obtain ⟨h, hq⟩ := hq
  let q1 : Lt := lt [q.a 0, q.a 1, q.a 2, q.a 3, q.a 4, q.a 5, q.a 6, q.a 7, q.a 8, q.a 9, q.a 10] [q.t 0, q.t 1, q.t 2, q.t 3, q.t 4, q.t 5, q.t 6, q.t 7, q.t 8, q.t 9, q.t 10] [q.i 0, q.i 1] [q.s 0] [q.v 0] [q.l 1] [q.f 0]
  have e : (S_gew W l).pre q = (S_gt W l [] []).pre q1 := congrArg (fun XS => ([((q.a 0), instO 69 (q.a 1)), ((q.a 1), dictO [kv (BB W) s_lineno (q.t 0) (.int (q.i 0) (q.t 1)), kv (BB W) s_instream (q.t 2) (.ref (q.a 2)), kv (BB W) s_whitespace (q.t 3) (.str s_ws (q.t 4)), kv (BB W) s_pushback (q.t 5) (.ref (q.a 3))] 4), ((q.a 3), listO XS (q.t 6)), ((q.a 2), funcO (q.f 0) (some (q.a 4))), ((q.a 4), dictO [kv (BB W) s_read (q.t 7) (.ref (q.a 5))] 1), ((q.a 5), funcO (readFd W.w (q.a 6) (q.a 7) (q.a 8) (q.a 9)) none), ((q.a 9), codeZ s_readq (q.t 8) (q.v 0) (q.l 1)), ((q.a 6), cellO (.str (q.s 0) (q.t 9))), ((q.a 7), cellO (.ref (q.a 10))), ((q.a 10), listO [(.int (q.i 1) (q.t 10))] 0)] : View)) h
  rw [e]
  refine (gt_tri W O z q1 hq).mono (Nat.le_refl _) fun r V ⟨e', hR, hr, hV⟩ => ⟨lt [] [e'.t 0, e'.t 1, e'.t 2] [e'.i 0, e'.i 1] [] [] [] [], ⟨hR.1, hR.2.1, ?_⟩, hr.trans ?_, hV.trans ?_⟩
  · exact nls_end hR.2.2.2
  · have z := hR.2.2.1
    show Except.ok (Flow.ret (Value.str _ _)) = Except.ok (Flow.ret (Value.str _ _))
    rw [z]
    rfl
  · have z := congrArg (fun XS => (S_gew W l).out (lt (sl q.a 0 11) (sl q.t 0 11) [q.i 0, q.i 1] [q.s 0] [q.v 0] [XS, q.l 1] [q.f 0]) (lt [] [e'.t 0, e'.t 1, e'.t 2] [e'.i 0, e'.i 1] [] [] [] [])) h
    exact z.symm
noncomputable def S_l2 (W : Wd) (sh : Bool) (l : List Nat) (ws : List (List Nat)) (rest : List Nat) : Sp (BB W) :=
  let B := BB W
  { d := 150
    c := fun q => .block (dropS 8 (stmtsOf (fdAt W.w 149))) (lwEnv W.w (q.a 0) (q.a 1) (q.a 2) (q.a 3) (q.a 4) (q.a 5) (q.a 6) (q.a 7) (q.a 8))
    P := fun q => L2P (q.i 1) (q.i 0) (q.s 0) (q.s 1) (q.i 3) (q.i 2) (q.l 0) l ws rest
    pre := fun q => [((q.a 0),frameO (p_ab sh [kv B s_script (q.t 0) (.ref (q.a 9)),kv B s_cells (q.t 1) (q.v 0),kv B s_k (q.t 2) (q.v 1),kv B s_number (q.t 3) (.int (q.i 0) (q.t 4)),kv B s_text (q.t 5) (q.v 2)]) 5),((q.a 1),cellO (.int (q.i 1) (q.t 6))),((q.a 2),cellO (.str (q.s 0) (q.t 7))),((q.a 3),cellO (.ref (q.a 10))),((q.a 4),⟨tCell,none,.cell none,#[]⟩),((q.a 5),⟨tCell,none,.cell none,#[]⟩),((q.a 6),⟨tCell,none,.cell none,#[]⟩),((q.a 7),⟨tCell,none,.cell none,#[]⟩),((q.a 8),⟨tCell,none,.cell none,#[]⟩)]++lxQ W q 10 8 2 3 0 1++[((q.a 9),listO (q.l 2) (q.t 19))]
    R := fun q e => True
    res := fun q e => .ok (.ret (.bool true))
    out := fun q e => [((q.a 9),listO (q.l 2) (q.t 19))] }
theorem l2_ok (W : Wd) (O : (BB W).Ok) (sh : Bool) (l : List Nat) (ws : List (List Nat)) (rest : List Nat) (z : Rd l ws rest) (zr : Lx1 rest [] []) (q : Lt) (hq : (S_l2 W sh l ws rest).P q) : SegC (BB W) 150 ((S_l2 W sh l ws rest).c q) ((S_l2 W sh l ws rest).pre q) ((S_l2 W sh l ws rest).post q) := by
  refine pcs_f O (stdK _) [U (S_wa W l ws rest) (wa_ok W O l ws rest z) on_wa,U (S_sk W) (sk_ok W O) on_sk,U (S_fda W (8 + 1)) (fda_ok W O 8) on_fda,U (S_gew W rest) (gew_ok W O zr) on_gew,⟨(S_or W sh 8).con (or_ok W O sh 8),(on_or sh),fun _ => false,[],[]⟩,U (S_pla W (8 + 1)) (pla_ok W O 8) on_pla,U (S_de W) (de_ok W O) on_de,U (S_gra W (8 + 1)) (gra_ok W O 8) on_gra,U (S_t1a W (8 + 1)) (t1a_ok W O 8) on_t1a,⟨(S_ot W sh 8).con (ot_ok W O sh 8),(on_ot sh),fun _ => false,[],[]⟩,U (S_rva W (8 + 1)) (rva_ok W O 8) on_rva,U (S_lea W (8 + 1)) (lea_ok W O 8) on_lea,U (S_t2a W (8 + 1)) (t2a_ok W O 8) on_t2a,⟨(S_bk W sh 8).con (bk_ok W O sh 8),(on_bk sh),fun _ => false,[],[]⟩,U (S_gew W []) (gew_ok W O Lx1.fin) on_gew] 2000 150 (by decide) (hp := by kernel_rfl) (hs := hx 531 0x808004130c28a01718d0c10320810010410010010400000000000140005965c05c05d75d608e00dcc238004e0410450b35c00401cc0c10070071c6000475d5358a2800400482c3040b420400410400400410000001c00092410460c00410424eb001006283040b4204004104004004100000008000000100c30a2a80141c90c102d0810010410010010400000000290004d308e00dcc238004e0410450a59000401c80c10070071c638e9e71451620010012070c102d08100104100100104000001f00024964118301f1808200410420800401450c102d08100104100100104000001a00005a0181040c102d0810010410010010400000180005d75db6c004007308200108000c74201500008004100000100000005200000000000000028e0c00810000000400000400000522082082082082082830c02890000002400002400002480410545000400c20c102d081001041001001040000012000043043cc21000840410400400c10c1d020114924810412492492492492491000403800c102d081001041001001040000002000) (is := [57])
    (fun (ρ : Rho) => let z0 : Int := rlen 0 (q.i 1 - 1); let z1 : Int := Builtin.bitNot ((ρ.2 10).i 0); ob (A := ((1 : Int) = (1 : Int) ∧ (-(2 : Int) ^ 62 ≤ (0 : Int) ∧ (0 : Int) < (2 : Int) ^ 62) ∧ -(2 : Int) ^ 62 ≤ q.i 1 ∧ q.i 1 < (2 : Int) ^ 62)) (hq.it) <| ob (A := (WoP (q.s 1) (q.i 3) (rlen 0 (q.i 1) : Int) (q.l 0) ([] : List Value) l ws ∧ 0 < (rlen 0 (q.i 1) : Int))) (hq.wa) <| fun he0 : WoR (q.s 1) (q.i 2) ([] : List Value) l ws rest ((ρ.2 0).i 0) ((ρ.2 0).i 1) ((ρ.2 0).l 0) => ob (A := (asciiS (q.s 0) = true)) (hq.c.ascii.1) <| ob (A := (SgP (q.s 0))) (hq.c.ascii.2) <| fun he1 : SgR (q.s 0) ((ρ.2 1).l 0) => ob (A := (EqLs (eqN (ρ.1 4) ((ρ.2 0).l 0) (ρ.1 7) ((ρ.2 1).l 0)) ((ρ.2 0).l 0) ((ρ.2 1).l 0))) (hq.eq1 he0 he1) <| ob (A := ((1 : Int) = (1 : Int) ∧ (-(2 : Int) ^ 62 ≤ (0 : Int) ∧ (0 : Int) < (2 : Int) ^ 62) ∧ -(2 : Int) ^ 62 ≤ q.i 1 ∧ q.i 1 < (2 : Int) ^ 62)) (hq.it) <| ob (A := (FdP (0 : Int) (rlen 0 (q.i 1) : Int) ([] : List Value) (8 + 1) ∧ 0 < (rlen 0 (q.i 1) : Int))) (hq.fd) <| fun he2 : FdR (0 : Int) (rlen 0 (q.i 1) : Int) ([] : List Value) ((ρ.2 2).l 0) => ob (A := ((q.l 0) = [] ∧ GP (q.s 1) ((ρ.2 0).i 0 : Int) ⟨#[]⟩ rest)) (hq.gw he0 (hq.rr z)) <| fun he3 : 0 ≤ ((ρ.2 3).i 0) ∧ rem (q.s 1) ((ρ.2 3).i 0) = [] ∧ ((ρ.2 3).i 1) = ((ρ.2 0).i 1 : Int) + nls rest => ob (A := ((q.l 0) = [] ∧ GP (q.s 1) ((ρ.2 3).i 0 : Int) ⟨#[]⟩ [])) (hq.ge he3) <| fun he4 : 0 ≤ ((ρ.2 4).i 0) ∧ rem (q.s 1) ((ρ.2 4).i 0) = [] ∧ ((ρ.2 4).i 1) = ((ρ.2 3).i 1 : Int) + nls [] => ob (A := (List.length ((ρ.2 2).l 0) ≤ sizeLine)) (hq.fo he2) <| ob (A := (EqLs (eqN (ρ.1 17) ([Value.str (Str.mk #[]) ((ρ.2 3).t 2)]++([Value.str (Str.mk #[]) ((ρ.2 4).t 2)]++([Value.int ((ρ.2 4).i 1) ((ρ.2 4).t 0)]++[]))) (ρ.1 23) ([Value.str (mS []) (ρ.1 18)]++([Value.str (mS []) (ρ.1 19)]++([Value.int ((1 : Int) + ↑(List.length ((ρ.2 2).l 0))) (ρ.1 22)]++[])))) ([Value.str (Str.mk #[]) ((ρ.2 3).t 2)]++([Value.str (Str.mk #[]) ((ρ.2 4).t 2)]++([Value.int ((ρ.2 4).i 1) ((ρ.2 4).t 0)]++[]))) ([Value.str (mS []) (ρ.1 18)]++([Value.str (mS []) (ρ.1 19)]++([Value.int ((1 : Int) + ↑(List.length ((ρ.2 2).l 0))) (ρ.1 22)]++[]))))) (eqL3 (eqN_s rfl) (eqN_s rfl) (eqN_i (hq.eq2 he0 he3 he4 he2))) <| ob (A := ((1 : Int) = (1 : Int) ∧ (-(2 : Int) ^ 62 ≤ (1 : Int) ∧ (1 : Int) < (2 : Int) ^ 62) ∧ -(2 : Int) ^ 62 ≤ q.i 1 ∧ q.i 1 < (2 : Int) ^ 62)) (hq.it1) <| ob (A := (OrP (1 : Int) (rlen 1 (q.i 1) : Int) (q.i 0) ([(Value.int (0) (ρ.1 24))] : List Value) 8)) (hq.or _) <| fun he5 : OrR (1 : Int) (rlen 1 (q.i 1) : Int) (q.i 0) ([(Value.int (0) (ρ.1 24))] : List Value) ((ρ.2 5).i 0) ((ρ.2 5).l 0) => ob (A := ((1 : Int) = (1 : Int) ∧ (-(2 : Int) ^ 62 ≤ (0 : Int) ∧ (0 : Int) < (2 : Int) ^ 62) ∧ -(2 : Int) ^ 62 ≤ q.i 1 ∧ q.i 1 < (2 : Int) ^ 62)) (hq.it) <| ob (A := (PlP (0 : Int) (rlen 0 (q.i 1) : Int) ((ρ.2 5).l 0) ([] : List Value) (8 + 1) ∧ 0 < (rlen 0 (q.i 1) : Int))) (hq.pl (hq.od he5).1) <| fun he6 : PlR (0 : Int) (rlen 0 (q.i 1) : Int) ((ρ.2 5).l 0) ([] : List Value) ((ρ.2 6).l 0) => ob (A := (DeP (q.i 0) ((ρ.2 0).l 0))) (hq.dp1 he0) <| fun he7 : DlR (q.i 0) 1 (((ρ.2 0).l 0).length - 1 : Int) ((ρ.2 0).l 0) [Value.str (shS (itemAt ((ρ.2 0).l 0) 0)) (shT (itemAt ((ρ.2 0).l 0) 0))] ((ρ.2 7).i 0) ((ρ.2 7).l 0) => ob (A := ((1 : Int) = (1 : Int) ∧ (-(2 : Int) ^ 62 ≤ (0 : Int) ∧ (0 : Int) < (2 : Int) ^ 62) ∧ -(2 : Int) ^ 62 ≤ q.i 1 ∧ q.i 1 < (2 : Int) ^ 62)) (hq.it) <| ob (A := (GrP (0 : Int) (rlen 0 (q.i 1) : Int) ((ρ.2 5).l 0) ((ρ.2 6).l 0) ([] : List Value) (8 + 1) ∧ 0 < (rlen 0 (q.i 1) : Int))) (hq.gr (hq.od he5).1 (hq.pc (hq.od he5).1 he6)) <| fun he8 : GrR (fun k => fun j => decide (j > k)) (0 : Int) (rlen 0 (q.i 1) : Int) ((ρ.2 5).l 0) ((ρ.2 6).l 0) ([] : List Value) ((ρ.2 8).l 0) => ob (A := (ToP (0 : Int) ((ρ.2 5).l 0) (q.s 0) ((ρ.2 8).l 0) ([] : List Value) (8 + 1) ∧ ((0 : Int)).toNat < (((ρ.2 5).l 0)).length)) (hq.to (hq.od he5).1 (hq.g1 (hq.od he5).1 (hq.pc (hq.od he5).1 he6) he8) hq.gle.1) <| fun he9 : ToR (0 : Int) ((ρ.2 5).l 0) (q.s 0) ((ρ.2 8).l 0) ([] : List Value) ((ρ.2 9).l 0) => ob (A := (EqLs (eqN ((ρ.2 7).a 1) ((ρ.2 7).l 0) (ρ.1 46) ((ρ.2 9).l 0)) [Value.int ((ρ.2 7).i 0) ((ρ.2 7).t 0),Value.ref ((ρ.2 7).a 1),Value.str (Str.mk #[122]) ((ρ.2 7).t 1),Value.str (Str.mk #[]) ((ρ.2 7).t 2)] ([Value.int ((ρ.2 5).i 0) ((ρ.2 5).t 0)]++([Value.ref (ρ.1 46)]++([Value.str (mS [122]) (ρ.1 48)]++([Value.str (mS []) (ρ.1 49)]++[])))))) (eqL4 (eqN_i ((hq.t1 he0 he7).1.trans (hq.od he5).2.symm)) (eqN_r (hq.eq3 (hq.od he5).1 (hq.g1 (hq.od he5).1 (hq.pc (hq.od he5).1 he6) he8) he9 (hq.t1 he0 he7).2)) (eqN_s rfl) (eqN_s rfl)) <| ob (A := ((1 : Int) = (1 : Int) ∧ (-(2 : Int) ^ 62 ≤ (0 : Int) ∧ (0 : Int) < (2 : Int) ^ 62) ∧ -(2 : Int) ^ 62 ≤ q.i 1 - (1 : Int) ∧ q.i 1 - (1 : Int) < (2 : Int) ^ 62)) (hq.it2) <| ob (A := (OtP (0 : Int) z0 (q.i 1) (0 : Int) ((ρ.2 6).l 0) ((ρ.2 7).l 0) 8)) (hq.ot (hq.pc (hq.od he5).1 he6) (hq.t1 he0 he7).2) <| fun he10 : OtR (0 : Int) z0 (q.i 1) (0 : Int) ((ρ.2 6).l 0) ((ρ.2 7).l 0) ((ρ.2 10).i 0) => ob (A := ((1 : Int) = (1 : Int) ∧ (-(2 : Int) ^ 62 ≤ (0 : Int) ∧ (0 : Int) < (2 : Int) ^ 62) ∧ -(2 : Int) ^ 62 ≤ q.i 1 ∧ q.i 1 < (2 : Int) ^ 62)) (hq.it) <| ob (A := (RvP (0 : Int) (rlen 0 (q.i 1) : Int) (q.i 1) ((ρ.2 0).l 0) ([] : List Value) (8 + 1) ∧ 0 < (rlen 0 (q.i 1) : Int))) (hq.d2 he0) <| fun he11 : RvR (0 : Int) (rlen 0 (q.i 1) : Int) (q.i 1) ((ρ.2 0).l 0) ([] : List Value) ((ρ.2 11).l 0) => ob (A := (DeP z1 ((ρ.2 11).l 0))) (hq.dp2 he0 he11 (hq.pc (hq.od he5).1 he6) (hq.t1 he0 he7).2 he10) <| fun he12 : DlR z1 1 (((ρ.2 11).l 0).length - 1 : Int) ((ρ.2 11).l 0) [Value.str (shS (itemAt ((ρ.2 11).l 0) 0)) (shT (itemAt ((ρ.2 11).l 0) 0))] ((ρ.2 12).i 0) ((ρ.2 12).l 0) => ob (A := ((1 : Int) = (1 : Int) ∧ (-(2 : Int) ^ 62 ≤ (0 : Int) ∧ (0 : Int) < (2 : Int) ^ 62) ∧ -(2 : Int) ^ 62 ≤ q.i 1 ∧ q.i 1 < (2 : Int) ^ 62)) (hq.it) <| ob (A := (GrP (0 : Int) (rlen 0 (q.i 1) : Int) ((ρ.2 5).l 0) ((ρ.2 6).l 0) ([] : List Value) (8 + 1) ∧ 0 < (rlen 0 (q.i 1) : Int))) (hq.gr (hq.od he5).1 (hq.pc (hq.od he5).1 he6)) <| fun he13 : GrR (fun k => fun j => decide (j < k)) (0 : Int) (rlen 0 (q.i 1) : Int) ((ρ.2 5).l 0) ((ρ.2 6).l 0) ([] : List Value) ((ρ.2 13).l 0) => ob (A := (ToP (0 : Int) ((ρ.2 5).l 0) (q.s 0) ((ρ.2 13).l 0) ([] : List Value) (8 + 1) ∧ ((0 : Int)).toNat < (((ρ.2 5).l 0)).length)) (hq.to (hq.od he5).1 (hq.g2 (hq.od he5).1 (hq.pc (hq.od he5).1 he6) he13) hq.gle.2) <| fun he14 : ToR (0 : Int) ((ρ.2 5).l 0) (q.s 0) ((ρ.2 13).l 0) ([] : List Value) ((ρ.2 14).l 0) => ob (A := (EqLs (eqN ((ρ.2 12).a 1) ((ρ.2 12).l 0) (ρ.1 77) ((ρ.2 14).l 0)) [Value.int ((ρ.2 12).i 0) ((ρ.2 12).t 0),Value.ref ((ρ.2 12).a 1),Value.str (Str.mk #[122]) ((ρ.2 12).t 1),Value.str (Str.mk #[]) ((ρ.2 12).t 2)] ([Value.int (-1 : Int) (ρ.1 75)]++([Value.ref (ρ.1 77)]++([Value.str (mS [122]) (ρ.1 79)]++([Value.str (mS []) (ρ.1 80)]++[])))))) (eqL4 (eqN_i (hq.t2 he0 he11 (hq.pc (hq.od he5).1 he6) (hq.t1 he0 he7).2 he10 he12).1) (eqN_r (hq.eq3 (hq.od he5).1 (hq.g2 (hq.od he5).1 (hq.pc (hq.od he5).1 he6) he13) he14 (hq.t2 he0 he11 (hq.pc (hq.od he5).1 he6) (hq.t1 he0 he7).2 he10 he12).2)) (eqN_s rfl) (eqN_s rfl)) <| ob (A := ((-1 : Int) = (-1 : Int) ∧ (-(2 : Int) ^ 62 ≤ q.i 1 - (1 : Int) ∧ q.i 1 - (1 : Int) < (2 : Int) ^ 62) ∧ -(2 : Int) ^ 62 ≤ (0 : Int) ∧ (0 : Int) < (2 : Int) ^ 62)) (hq.it3) <| ob (A := (BkP (q.i 1 - 1 : Int) z0 ((ρ.2 7).i 0 : Int) ((ρ.2 6).l 0) ((ρ.2 12).l 0) 8)) (hq.bk (hq.pc (hq.od he5).1 he6) (hq.t2 he0 he11 (hq.pc (hq.od he5).1 he6) (hq.t1 he0 he7).2 he10 he12).2 (hq.t1 he0 he7).1) <| fun he15 : BkR (q.i 1 - 1 : Int) z0 ((ρ.2 7).i 0 : Int) ((ρ.2 6).l 0) ((ρ.2 12).l 0) ((ρ.2 15).i 0) => ob (A := ((ρ.2 15).i 0 = q.i 0)) (hq.fin (hq.pc (hq.od he5).1 he6) (hq.t2 he0 he11 (hq.pc (hq.od he5).1 he6) (hq.t1 he0 he7).2 he10 he12).2 (hq.t1 he0 he7).1 he15) <| fin (S_l2 W sh l ws rest) q (lt [] [] [] [] [] [] []) (trivial) :) ?_
  induction W, sh using y_1 <;> kernel_rfl
end Mine
end
section

namespace Mine
open PySem PySem.Spec PySem.Calls PyProof.Rows PySem.W PySem.W.X PySem.Builtin.Str
noncomputable def S_lwF (W : Wd) : Sp (BB W) :=
  let B := BB W
  { d := 151
    c := fun q => .func (stmtsOf (fdAt W.w 149)) (lwEnv W.w (q.a 0) (q.a 1) (q.a 2) (q.a 3) (q.a 4) (q.a 5) (q.a 6) (q.a 7) (q.a 8))
    P := fun q => L1P (q.l 0)
    pre := fun q => [((q.a 0),frameO [kv B s_script (q.t 0) (.ref (q.a 9))] 1),((q.a 1),⟨tCell,none,.cell none,#[]⟩),((q.a 2),⟨tCell,none,.cell none,#[]⟩),((q.a 3),⟨tCell,none,.cell none,#[]⟩),((q.a 4),⟨tCell,none,.cell none,#[]⟩),((q.a 5),⟨tCell,none,.cell none,#[]⟩),((q.a 6),⟨tCell,none,.cell none,#[]⟩),((q.a 7),⟨tCell,none,.cell none,#[]⟩),((q.a 8),⟨tCell,none,.cell none,#[]⟩),((q.a 9),listO (q.l 0) (q.t 1))]
    R := fun q e => True
    res := fun q e => .ok (.ret (.bool true))
    out := fun q e => [((q.a 9),listO (q.l 0) (q.t 1))] }
noncomputable def on_lwF : Code → View → Lt := fun c V => lt [(cEnv c).locals,envCell 7 (cEnv c),envCell 6 (cEnv c),envCell 5 (cEnv c),envCell 4 (cEnv c),envCell 3 (cEnv c),envCell 2 (cEnv c),envCell 1 (cEnv c),envCell 0 (cEnv c),dA V 0 0] [kT V 0 0,eP V 9] [] [] [] [sQ V 9] []
theorem lwF_seg (W : Wd) (O : (BB W).Ok) (q : Lt) (hq : (S_lwF W).P q) : Seg (BB W) 150 (stmtsOf (fdAt W.w 149)) (lwEnv W.w (q.a 0) (q.a 1) (q.a 2) (q.a 3) (q.a 4) (q.a 5) (q.a 6) (q.a 7) (q.a 8)) ((S_lwF W).pre q) ((S_lwF W).post q) := by
  have hq : L1P (q.l 0) := hq
  have z : Seg (BB W) 150 (takeS 8 (stmtsOf (fdAt W.w 149)) ++ dropS 8 (stmtsOf (fdAt W.w 149))) (lwEnv W.w (q.a 0) (q.a 1) (q.a 2) (q.a 3) (q.a 4) (q.a 5) (q.a 6) (q.a 7) (q.a 8)) ((S_lwF W).pre q) ((S_lwF W).post q) := by
    by_cases hn : (q.l 0) = []
    · refine Seg.app (l1B_ok W O q ⟨hq, hn⟩) (fun r V ⟨e, _, hr, _⟩ => hr) (fun V ⟨e, hR, _, hV⟩ => ?_)
      obtain ⟨l, ws, rest, h2, z, zr⟩ := L1R.l2 hR
      let q2 : Lt := lt [q.a 0, q.a 1, q.a 2, q.a 3, q.a 4, q.a 5, q.a 6, q.a 7, q.a 8, q.a 9, e.a 0, e.a 1, e.a 2, e.a 3, e.a 4, e.a 5, e.a 6, e.a 7, e.a 8, e.a 9, e.a 10] [q.t 0, e.t 0, e.t 1, e.t 2, e.t 3, e.t 4, e.t 5, e.t 6, e.t 7, e.t 8, e.t 9, e.t 10, e.t 11, e.t 12, e.t 13, e.t 14, e.t 15, e.t 16, e.t 17, q.t 1] [e.i 1, e.i 0, 1, 0] [e.s 0, e.s 1] [e.v 0, e.v 1, e.v 2, e.v 3] [[], e.l 0, q.l 0] [e.f 0]
      have ev : (S_l1B W).out q e = (S_l2 W false l ws rest).pre q2 := rfl
      rw [hV, ev]
      exact (l2_ok W O false l ws rest z zr q2 h2).mono (Nat.le_refl _) fun r V ⟨e2, _, hr2, hV2⟩ => ⟨e2, trivial, hr2, hV2⟩
    · refine Seg.app (l1A_ok W O q ⟨hq, List.length_pos_iff.mpr hn⟩) (fun r V ⟨e, _, hr, _⟩ => hr) (fun V ⟨e, hR, _, hV⟩ => ?_)
      obtain ⟨l, ws, rest, h2, z, zr⟩ := L1R.l2 hR
      let q2 : Lt := lt [q.a 0, q.a 1, q.a 2, q.a 3, q.a 4, q.a 5, q.a 6, q.a 7, q.a 8, q.a 9, e.a 0, e.a 1, e.a 2, e.a 3, e.a 4, e.a 5, e.a 6, e.a 7, e.a 8, e.a 9, e.a 10] [q.t 0, e.t 0, e.t 1, e.t 2, e.t 3, e.t 4, e.t 5, e.t 6, e.t 7, e.t 8, e.t 9, e.t 10, e.t 11, e.t 12, e.t 13, e.t 14, e.t 15, e.t 16, e.t 17, q.t 1] [e.i 1, e.i 0, 1, 0] [e.s 0, e.s 1] [e.v 0, e.v 1, e.v 2, e.v 3] [[], e.l 0, q.l 0] [e.f 0]
      have ev : (S_l1A W).out q e = (S_l2 W true l ws rest).pre q2 := rfl
      rw [hV, ev]
      exact (l2_ok W O true l ws rest z zr q2 h2).mono (Nat.le_refl _) fun r V ⟨e2, _, hr2, hV2⟩ => ⟨e2, trivial, hr2, hV2⟩
  rw [takeS_app] at z
  exact z
theorem lwF_ok (W : Wd) (O : (BB W).Ok) : (S_lwF W).Ok := fun q hq => by
  refine (tri_func (lwF_seg W O q hq) (fun e V ⟨e', _, h, _⟩ => by cases h)).mono (Nat.le_refl _) fun r V ⟨f, ⟨e, hR, hr, hV⟩, h2⟩ => ⟨e, hR, ?_, hV⟩
  have hr : Except.ok f = Except.ok (Flow.ret _) := hr
  injection hr with hr
  rw [h2, hr]; rfl
noncomputable def S_lw (W : Wd) : Sp (BB W) :=
  let B := BB W
  { d := 160
    c := fun q => .call (.ref 149) ⟨[.ref (q.a 0)], []⟩
    P := fun q => L1P (q.l 0)
    pre := fun q => [((q.a 0),listO (q.l 0) (q.t 0))]
    R := fun q e => True
    res := fun q e => .ok (.ret (.bool true))
    out := fun q e => [((q.a 0),listO (q.l 0) (q.t 0))] }
theorem lw_run (W : Wd) (O : (BB W).Ok) (q : Lt) (hq : (S_lw W).P q) : At (S_lw W) 160 q := by
  refine tri_f O (stdK _) [U (S_lwF W) (lwF_ok W O) on_lwF] 2000 160 (hs := hx 18 0x420c41461c82800c9240001) (is := [0])
    (fun (ρ : Rho) => ob hq <| fun _ : True => fin (S_lw W) q (lt [] [] [] [] [] [] []) (trivial) :) ?_
  induction W using y_0 <;> kernel_rfl
end Mine
end
section
namespace Mine
open PySem PySem.Spec PySem.Calls PyProof.Rows PySem.W PySem.W.X
theorem ints_all {vs : List Value} {ns : List Int} (h : IntsAre vs ns) : AllInt vs ∧ vs.length = ns.length := by
  induction h with
  | nil => exact ⟨fun v hv => by simp at hv, rfl⟩
  | cons n t h ih =>
    refine ⟨fun v hv => ?_, by simp [ih.2]⟩
    rcases List.mem_cons.mp hv with rfl | hv
    · rfl
    · exact ih.1 v hv
noncomputable def popH (h : Heap) : Heap := { h with objs := h.objs.pop }
theorem popH_get {h : Heap} {b : Addr} (hb : b + 1 ≠ h.objs.size) : (popH h).get? b = h.get? b := by
  unfold popH Heap.get?
  have hb' : @HAdd.hAdd Nat Nat Nat _ b 1 ≠ h.objs.size := hb
  have : h.objs.pop[b]? = h.objs[b]? := by
    rw [Array.getElem?_pop]
    by_cases h1 : b < h.objs.size - 1
    · rw [if_pos h1]
    · rw [if_neg h1]
      have h2 : h.objs.size ≤ b := by
        rcases Nat.lt_or_ge b h.objs.size with h2 | h2
        · exact absurd (show b + 1 = h.objs.size from Nat.le_antisymm h2 (by have := Nat.le_of_not_lt h1; exact Nat.le_add_of_sub_le this)) hb
        · exact h2
      exact (Array.getElem?_eq_none h2).symm
  simp only [this]
theorem popH_last {h : Heap} {b : Addr} (hb : b + 1 = h.objs.size) : (popH h).get? b = none := by
  unfold popH Heap.get?
  have hb' : @HAdd.hAdd Nat Nat Nat _ b 1 = h.objs.size := hb
  have : h.objs.pop[b]? = none := by rw [Array.getElem?_pop, if_neg (by intro hh; have : b < h.objs.size - 1 := hh; lia)]
  simp only [this]
noncomputable def KTfree (a : Nat) : KT → Nat → Nat → Bool
  | .nil, _, _ => true
  | .node v l r, s, b => !(v.isSome && Nat.beq b a) && (KTfree a l (2 * s) (s + b) && KTfree a r (2 * s) (2 * s + b))
theorem holds_but {h h' : Heap} {a : Nat} (k : ∀ b o, b ≠ a → h.get? b = some o → h'.get? b = some o) : ∀ {t : KT} {s b : Nat}, KT.Holds h s b t → KTfree a t s b = true → KT.Holds h' s b t
  | .nil, _, _, _, _ => trivial
  | .node v l r, s, b, H, F => by
    have F : (!(v.isSome && Nat.beq b a) && (KTfree a l (2 * s) (s + b) && KTfree a r (2 * s) (2 * s + b))) = true := F
    rw [Bool.and_eq_true, Bool.and_eq_true] at F
    refine ⟨fun o e => k _ _ ?_ (H.1 o e), holds_but k H.2.1 F.2.1, holds_but k H.2.2 F.2.2⟩
    subst e
    intro hb
    subst hb
    have := F.1
    rw [Nat.beq_refl] at this
    simp at this
noncomputable def obAt (w : World) (a : Addr) : Obj := ((ktw w).get a).getD ⟨.none, none, .plain, #[]⟩
theorem room160 : Room callerA 160 := ⟨rfl, by decide, by decide⟩
theorem law_call (w : World) (s₁ : Shared) (vs : List Value) (ns : List Int) (ZH : KT.Holds s₁.heap 1 0 (Mine.hd.ktop_300 w.params)) (lim : s₁.heap.NoLimit) (hg : s₁.gens = #[]) (hsz : s₁.heap.objs.size = 151) (hol : s₁.heap.get? 150 = some { cls := .type "list", data := .seq vs.toArray }) (hI : IntsAre vs ns) (h63 : ns.length ≤ 63) :
    codeAny (model PySem.Challenge.pw_pw0018_03 w) callerA (.call (.ref 149) ⟨[.ref 150], []⟩) (fun r s' => r = .ok (.ret (.bool true)) ∧ OldK s₁.heap s'.heap ∧ s'.os = s₁.os ∧ s'.gens = s₁.gens) s₁ := by
  have back : ∀ b o, b ≠ 150 → s₁.heap.get? b = some o → (popH s₁.heap).get? b = some o := fun b o hb e => by
    rw [popH_get (fun h => hb (by have h : @HAdd.hAdd Nat Nat Nat _ b 1 = _ := h; rw [hsz] at h; exact Nat.succ.inj h))]; exact e
  have fwd : ∀ b o, (popH s₁.heap).get? b = some o → s₁.heap.get? b = some o := fun b o e => by
    by_cases hb : b = 150
    · subst hb; rw [popH_last hsz.symm] at e; cases e
    · rw [popH_get (fun h => hb (by have h : @HAdd.hAdd Nat Nat Nat _ b 1 = _ := h; rw [hsz] at h; exact Nat.succ.inj h))] at e; exact e
  let W : Wd := ⟨w, popH s₁.heap, w.params.followText rowA, w.params.followText rowB, s₁.gens, s₁.drawn, s₁.os⟩
  have ZP : KT.Holds (popH s₁.heap) 1 0 (Mine.hd.ktop_300 w.params) := holds_but (a := 150) back ZH (by kernel_rfl)
  have O : (BB W).Ok := by
    refine ⟨ZP, rfl, rfl, ?_, ⟨by show cStatics ∉ []; simp, ?_⟩⟩
    · obtain ⟨mc, ⟨o, es, ep, ho, r⟩, hm⟩ := lim
      exact ⟨mc, ⟨o, es, ep, back _ _ (by decide) ho, r⟩, hm⟩
    · intro t ht
      have ht : t ∈ [tS, tI, tD] := ht
      simp only [List.mem_cons, List.not_mem_nil, or_false] at ht
      rcases ht with rfl | rfl | rfl <;> decide
  let q : Lt := lt [150] [0] [] [] [] [vs] []
  have hP : (S_lw W).P q := ⟨(ints_all hI).1, by have := (ints_all hI).2; show vs.length ≤ 63; lia⟩
  have tab : ∀ t : Tab, (Mine.hd.ktop_300 w.params).get t.addr = some (tableObj #[]) → TabOk s₁.heap t := fun t e => ⟨[], .inl rfl, by
    have z := KT.Holds.get ZH e
    rw [Nat.one_mul, Nat.add_zero] at z
    rw [z]
    cases t with
    | mk a ms => cases ms <;> rfl, fun p hp => by simp at hp⟩
  have D : Rep (BB W) ((S_lw W).pre q) s₁ := by
    refine ⟨⟨rfl, rfl, rfl, fun b o e _ _ => fwd b o e, fun b hb => (by simp [BB, BBg] at hb), fun t ht => ?_⟩, fun p hp => ?_, ?_, fun a ha => ?_⟩
    · have ht : t ∈ [tS, tI, tD] := ht
      simp only [List.mem_cons, List.not_mem_nil, or_false] at ht
      rcases ht with rfl | rfl | rfl <;> exact tab _ (by kernel_rfl)
    · have hp : p ∈ [((150 : Addr), listO vs 0)] := hp
      simp only [List.mem_cons, List.not_mem_nil, or_false] at hp
      subst hp
      show s₁.heap.get? 150 = some (listO vs 0)
      rw [hol]
      unfold listO
      rw [tList_eq]
    · have e : excl ((S_lw W).pre q) = [150] := by
        show excl [((150 : Addr), listO vs 0)] = [150]
        rw [excl_cons, if_neg (by unfold listO; rw [tList_eq]; rw [show isCodeO _ = false from notCode_list _]; simp)]
        rfl
      rw [e]; simp
    · have e : excl ((S_lw W).pre q) = [150] := by
        show excl [((150 : Addr), listO vs 0)] = [150]
        rw [excl_cons, if_neg (by unfold listO; rw [tList_eq]; rw [show isCodeO _ = false from notCode_list _]; simp)]
        rfl
      rw [e] at ha
      have : a = 150 := by simpa using ha
      subst this
      refine ⟨.inl (popH_last hsz.symm), fun ⟨t, ht, h⟩ => ?_⟩
      have ht : t ∈ [tS, tI, tD] := ht
      simp only [List.mem_cons, List.not_mem_nil, or_false] at ht
      rcases ht with rfl | rfl | rfl <;> revert h <;> decide
  have z := lw_run W O q hP callerA s₁ room160 D
  refine codeAny_mono z ?_
  rintro r s' ⟨V', ⟨e, _, hr, hV⟩, D', x⟩
  have main : ∀ b o, s₁.heap.get? b = some o → asItWas s₁.heap s'.heap b o ∧ ∃ o', s'.heap.get? b = some o' := by
    intro b o eb
    by_cases hb : b = 150
    · subst hb
      rw [hol] at eb
      cases eb
      have m : ((150 : Addr), listO vs 0) ∈ V' := by rw [hV]; exact .head _
      have h1 : s'.heap.get? 150 = some (listO vs 0) := D'.has _ m
      have h2 : s'.heap.get? 150 = some { cls := .type "list", data := .seq vs.toArray } := by
        rw [h1]
        unfold listO
        rw [tList_eq]
      exact ⟨.inl h2, _, h2⟩
    · by_cases ht : ∀ t ∈ [tS, tI, tD], b ≠ t.addr
      · have h2 := D'.good.kept b o (back b o hb eb) (by simp [BB, BBg]) ht
        exact ⟨.inl h2, _, h2⟩
      · have ht2 : ∃ t ∈ [tS, tI, tD], b = t.addr := by
          simp only [Classical.not_forall] at ht
          obtain ⟨t, ht, hne⟩ := ht
          exact ⟨t, ht, Classical.not_not.mp hne⟩
        clear ht
        obtain ⟨t, ht, rfl⟩ := ht2
        obtain ⟨as, _, h2, _⟩ := D'.good.tabs t ht
        simp only [List.mem_cons, List.not_mem_nil, or_false] at ht
        have key : ∀ (P : Addr) (c : Addr) (o : Obj) (v : Array Value), s₁.heap.get? P = some o → (∃ c, s₁.heap.TableAt c P #[]) → s'.heap.get? P = some (tableObj v) → asItWas s₁.heap s'.heap P o ∧ ∃ o', s'.heap.get? P = some o' := fun P c o v e ⟨c', hc⟩ h => by
          have eo : o = tableObj #[] := Option.some.inj (e.symm.trans hc.2)
          subst eo
          exact ⟨.inr (.inl ⟨hc.isCodeTable, rfl, #[], v, rfl, by rw [h]; simp [tableObj]⟩), _, h⟩
        rcases ht with rfl | rfl | rfl
        · exact key _ 138 o _ eb (table_kt ZH (c := 138) (o := obAt w 138) (vs := fieldsA (obAt w 138)) (by kernel_rfl) (by kernel_rfl) (by kernel_rfl) (by kernel_rfl)) h2
        · exact key _ 93 o _ eb (table_kt ZH (c := 93) (o := obAt w 93) (vs := fieldsA (obAt w 93)) (by kernel_rfl) (by kernel_rfl) (by kernel_rfl) (by kernel_rfl)) h2
        · exact key _ 100 o _ eb (table_kt ZH (c := 100) (o := obAt w 100) (vs := fieldsA (obAt w 100)) (by kernel_rfl) (by kernel_rfl) (by kernel_rfl) (by kernel_rfl)) h2
  exact ⟨hr, ⟨fun b o eb => (main b o eb).1, fun b o eb => (main b o eb).2⟩, D'.good.os, D'.good.g⟩
end Mine
end
open Mine in
theorem PySem.Challenge.cw_pw0018_03_holds : PySem.Challenge.rw_pw0018_03.Holds := by
  exact hd_W law_call
