import PyProof.Rows.All
import Wide.All
import OpenK.AllK
import Wide.FinOn
import PySem.Challenge.RW_ph0001_01
open PySem PySem.W PySem.W.X PyProof.Rows
set_option Elab.async false
set_option maxRecDepth 100000
set_option linter.unusedVariables false
namespace Mine

/-! ## The engine: a run of the model's tree by the kernel, over symbolic addresses -/

noncomputable abbrev den : Code → Sem Fin := PySem.W.Fast.tw11892475500146522536 PySem.W.Fast.tw14364793385576792824
theorem den_eq (c : Code) : denote table c = den c := by
  rw [table_eq_tree, PySem.W.Fast.te11892475500146522536, PySem.W.Fast.te14364793385576792824]
noncomputable abbrev quietF : Code → Bool := PySem.W.ZFast.zw17772548960776305114
theorem quiet_eq (c : Code) : c.quiet = quietF c := by rw [PySem.W.ZFast.ze17772548960776305114]
noncomputable abbrev weightF : Code → Nat := PySem.W.ZFast.zw1243936422450756474
theorem weight_eq (c : Code) : c.weight = weightF c := by rw [PySem.W.ZFast.ze1243936422450756474]
noncomputable abbrev bindF := @PySem.W.Fast.tw9782568553167038054
noncomputable abbrev newEnvF := @PySem.W.Fast.tw11113344188204177931

/-- where a run goes back to -/
inductive KF (α : Type) where
  | top (k : Result → Sem α)
  | ret (c : Code) (k : Result → Sem Fin) (κ : KF α)
/-- where a run stands: in the tree it began with, in a code under it, at a function's door -/
inductive Cf (α : Type) where
  | top (t : Sem α)
  | sub (c : Code) (κ : KF α) (t : Sem Fin)
  | ent (c : Code) (κ : KF α) (t : Sem Fin)
noncomputable def KF.back {α : Type} (κ : KF α) (r : Result) : Cf α := match κ with
  | .top k => .top (k r)
  | .ret c k κ' => .sub c κ' (k r)
noncomputable def KF.wt {α : Type} : KF α → Nat
  | .top _ => 0
  | .ret c _ κ => κ.wt + weightF c

/-- pairs that must be equal -/
noncomputable abbrev Ad := List (Value × Value)
inductive Rs (α : Type) where
  | ok (a : α) (T : BT) (m i : Nat) (ad : Ad) (ps : List Prop)
  | err (e : Value) (T : BT) (m i : Nat) (ad : Ad) (ps : List Prop)
  | bad (n : Nat)
noncomputable abbrev Rest (α : Type) := BT → Nat → Nat → Nat → Ad → List Prop → Rs α
/-- what a hook says -/
structure HO where
  v : Value
  T : BT
  m : Nat
  i : Nat
  orc : Nat
  ad : Ad
  ps : List Prop
noncomputable def HO.go {β : Type} (f : Value → BT → Nat → Nat → Nat → Ad → List Prop → β) (o : HO) : β := match o with
  | ⟨v, T, m, i, orc, ad, ps⟩ => f v T m i orc ad ps
theorem HO.go_eq {β : Type} (f : Value → BT → Nat → Nat → Nat → Ad → List Prop → β) (o : HO) : o.go f = f o.v o.T o.m o.i o.orc o.ad o.ps := by cases o; rfl
noncomputable abbrev Hk := (Nat → Nat) → (Nat → Nat) → Code → BT → Nat → Nat → Nat → Ad → List Prop → Option HO

structure EG where
  g : Setting
  kt : Nat → Option Obj
  r : Nat
  fn : Nat → Bool
  H : Nat → Hk
  h : Nat

/-- a plain function's door: its frame is laid, the look at the stack left out -/
noncomputable def doorT (fa : Nat) (fd : FuncData) (body : List Stmt) (args : Args) : Sem Fin :=
  Sem.bind (bindF fd args) fun binds => Sem.bind (newEnvF fd.scope fd.globals fd.closure binds (fd.qualname ++ (⟨#[46, 60, 108, 111, 99, 97, 108, 115, 62, 46]⟩ : Str)) (some fa) fd.code none fd.builtins) fun env => .pure (.again (.func body env))

noncomputable def iterCls : Nat → Value
  | 0 => .type "range_iterator"
  | _ + 1 => .type "list_iterator"
noncomputable def inl {α : Type} (G : EG) (ρ : Nat → Nat) (ih : Cf α → Rest α) (c : Code) (κ : KF α) (T : BT) (m i orc : Nat) (ad : Ad) (ps : List Prop) : Rs α := match c with
  | .call f args => match f with
    | .ref fa => match G.fn fa with
      | true => match Nat.ble κ.wt 100 with
        | true => match G.kt fa with
          | some o => match o.data with
            | .func fd => match fd.body with
              | .stmts body => ih (.ent c κ (doorT fa fd body args)) T m i orc ad ps
              | .expr _ => .bad 30
            | _ => .bad 31
          | none => .bad 32
        | false => .bad 33
      | false => .bad 34
    | _ => ih (.sub c κ (den c)) T m i orc ad ps
  | .compStart e d it acc env => match it with
    | .ref a => match e with
      | .ListComp elt gens scope pos => match gens with
        | [⟨target, iter, ifs, z⟩] => match z with
          | .ofNat (Nat.zero) => match d with
            | 0 => match orc % 1024 with
              | 0 => .bad 40
              | j + 1 => match T.get j with
                | some o => ih (.sub (.compLoop (.ListComp elt [⟨target, iter, ifs, 0⟩] scope pos) 0 (.ref a) acc env) κ (den (.compLoop (.ListComp elt [⟨target, iter, ifs, 0⟩] scope pos) 0 (.ref a) acc env))) T m i (orc / 1024 / 1024) ((o.cls, iterCls (orc / 1024 % 1024)) :: (.ref a, .ref (ρ j)) :: ad) ps
                | none => .bad 41
            | _ + 1 => .bad 42
          | _ => .bad 43
        | _ => .bad 44
      | _ => .bad 45
    | _ => .bad 46
  | _ => ih (.sub c κ (den c)) T m i orc ad ps

noncomputable def isCall : Code → Bool
  | .call _ _ => true
  | _ => false
noncomputable def node {α β : Type} (G : EG) (ρ τ : Nat → Nat) (ih : Cf α → Rest α) (w : Sem β → Cf α) (mk : (Result → Sem β) → KF α) (pp : β → Rest α) (pe : Value → Rest α) (t : Sem β) (T : BT) (m i orc : Nat) (ad : Ad) (ps : List Prop) : Rs α := match t with
  | .pure b => pp b T m i orc ad ps
  | .raise e => pe e T m i orc ad ps
  | .rule _ k => ih (w (k ())) T m i orc ad ps
  | .at _ k => ih (w (k ())) T m i orc ad ps
  | .point _ k => ih (w (k ())) T m i orc ad ps
  | .ask k => ih (w (k G.g)) T m i orc ad ps
  | .load a _ k => match orc % 1024 with
    | 0 => match G.kt a with
      | some o => ih (w (k o)) T m i (orc / 1024) ad ps
      | none => .bad 1
    | j + 1 => match T.get j with
      | some o => ih (w (k o)) T m i (orc / 1024) ((.ref a, .ref (ρ j)) :: ad) ps
      | none => .bad 2
  | .alloc o k => match o.isFreed with
    | true => .bad 3
    | false => match (T.ins m o).get m with
      | some _ => ih (w (k (ρ m))) (T.ins m o) (m + 1) i orc ad ps
      | none => .bad 4
  | .update a _ f k => match orc % 1024 with
    | 0 => .bad 5
    | j + 1 => match Nat.ble G.r j with
      | true => match T.get j with
        | some o => match (f o).isFreed with
          | false => ih (w (k ())) (T.set j f) m i (orc / 1024) ((.ref a, .ref (ρ j)) :: ad) ps
          | true => .bad 6
        | none => .bad 7
      | false => .bad 8
  | .fresh k => ih (w (k (τ i))) T m (i + 1) orc ad ps
  | .handled own k => match own with
    | false => ih (w (k none)) T m i orc ad ps
    | true => .bad 9
  | .call c hd _ _ k => match hd with
    | none => match isCall c with
      | true => match orc % 1024 with
        | 0 => inl G ρ ih c (mk k) T m i (orc / 1024) ad ps
        | h + 1 => match Nat.ble (mk k).wt 100 with
          | true => match G.H h ρ τ c T m i (orc / 1024) ad ps with
            | some o => o.go fun v T m i orc ad ps => ih (w (k (.ok (.ret v)))) T m i orc ad ps
            | none => .bad 20
          | false => .bad 21
      | false => inl G ρ ih c (mk k) T m i orc ad ps
    | some _ => .bad 10
  | .stack _ => .bad 11
  | _ => .bad 12

noncomputable def isCallT {β : Type} : Sem β → Bool
  | .call .. => true
  | _ => false
/-- a code's end -/
noncomputable def fin {α : Type} (G : EG) (ρ : Nat → Nat) (ih : Cf α → Rest α) (κ : KF α) (f : Fin) (T : BT) (m i orc : Nat) (ad : Ad) (ps : List Prop) : Rs α := match f with
  | .done f => ih (κ.back (.ok f)) T m i orc ad ps
  | .again c => match quietF c with
    | true => inl G ρ ih c κ T m i orc ad ps
    | false => .bad 13
/-- the door's end -/
noncomputable def fin2 {α : Type} (ih : Cf α → Rest α) (c₀ : Code) (κ : KF α) (f : Fin) (T : BT) (m i orc : Nat) (ad : Ad) (ps : List Prop) : Rs α := match f with
  | .done _ => .bad 14
  | .again c => match quietF c with
    | true => match Nat.ble (κ.wt + weightF c₀) 200 with
      | true => ih (.sub c κ (den c)) T m i orc ad ps
      | false => .bad 18
    | false => .bad 17
noncomputable def stepE {α : Type} (G : EG) (ρ τ : Nat → Nat) (ih : Cf α → Rest α) (C : Cf α) (T : BT) (m i orc : Nat) (ad : Ad) (ps : List Prop) : Rs α := match C with
  | .top t => node G ρ τ ih .top .top (fun a T m i _ ad ps => .ok a T m i ad ps) (fun e T m i _ ad ps => .err e T m i ad ps) t T m i orc ad ps
  | .sub c κ t => node G ρ τ ih (.sub c κ) (fun k => .ret c k κ) (fin G ρ ih κ) (fun e => ih (κ.back (.error e))) t T m i orc ad ps
  | .ent c κ t => match isCallT t with
    | true => .bad 16
    | false => node G ρ τ ih (.ent c κ) (fun _ => κ) (fin2 ih c κ) (fun _ _ _ _ _ _ _ => .bad 15) t T m i orc ad ps
noncomputable def runE {α : Type} (G : EG) (ρ τ : Nat → Nat) : Nat → Cf α → Rest α
  | 0 => fun _ _ _ _ _ _ _ => .bad 0
  | n + 1 => stepE G ρ τ (runE G ρ τ n)

/-! ## Its soundness -/
noncomputable def AllP : List Prop → Prop
  | [] => True
  | p :: l => p ∧ AllP l
noncomputable def ObOk (ad : Ad) (ps : List Prop) : Prop := (∀ p ∈ ad, p.1 = p.2) ∧ AllP ps
theorem ObOk.tail {p : Value × Value} {ad : Ad} {ps : List Prop} (h : ObOk (p :: ad) ps) : ObOk ad ps := ⟨fun q hq => h.1 q (.tail _ hq), h.2⟩
theorem ObOk.head {p : Value × Value} {ad : Ad} {ps : List Prop} (h : ObOk (p :: ad) ps) : p.1 = p.2 := h.1 p (.head _)

noncomputable def Agree (f g : Nat → Nat) (m : Nat) : Prop := ∀ j, j < m → g j = f j
theorem Agree.refl (f : Nat → Nat) (m : Nat) : Agree f f m := fun _ _ => rfl
theorem Agree.mono {f g : Nat → Nat} {m m' : Nat} (h : Agree f g m') (l : m ≤ m') : Agree f g m := fun j hj => h j (Nat.lt_of_lt_of_le hj l)
theorem Agree.trans {f g k : Nat → Nat} {m : Nat} (x : Agree f g m) (y : Agree g k m) : Agree f k m := fun j hj => (y j hj).trans (x j hj)

/-- what holds all along: the heap of the start, the stream's state -/
structure Bs where
  K : Addr → Option Obj
  GP : Array GenState → Prop
  os : OsState
/-- a heap that bears them -/
noncomputable def Ext (K : Addr → Option Obj) (h : Heap) : Prop := ∀ b o, K b = some o → h.get? b = some o
structure Rep (B : Bs) (r : Nat) (ρ : Nat → Nat) (T : BT) (m : Nat) (s : Shared) : Prop where
  own : ∀ j o, T.get j = some o → j < m ∧ s.heap.get? (ρ j) = some o
  new : ∀ j o, r ≤ j → T.get j = some o → B.K (ρ j) = none
  inj : ∀ j j' o o', r ≤ j → T.get j = some o → T.get j' = some o' → ρ j = ρ j' → j = j'
  keep : Ext B.K s.heap
  gens : B.GP s.gens
  os : s.os = B.os
theorem Rep.agree {B : Bs} {r : Nat} {ρ ρ' : Nat → Nat} {T : BT} {m : Nat} {s : Shared} (R : Rep B r ρ T m s) (a : Agree ρ ρ' m) : Rep B r ρ' T m s := by
  have e : ∀ j o, T.get j = some o → ρ' j = ρ j := fun j o h => a j (R.own j o h).1
  refine ⟨fun j o h => ⟨(R.own j o h).1, by rw [e j o h]; exact (R.own j o h).2⟩, fun j o hr h => by rw [e j o h]; exact R.new j o hr h, fun j j' o o' hr h h' q => ?_, R.keep, R.gens, R.os⟩
  rw [e j o h, e j' o' h'] at q
  exact R.inj j j' o o' hr h h' q
theorem Rep.toks {B : Bs} {r : Nat} {ρ : Nat → Nat} {T : BT} {m : Nat} {s : Shared} (R : Rep B r ρ T m s) (t : Nat) : Rep B r ρ T m { s with toks := t } := ⟨R.own, R.new, R.inj, R.keep, R.gens, R.os⟩
theorem Rep.alloc {B : Bs} {r : Nat} {ρ ρ' : Nat → Nat} {T : BT} {m : Nat} {s : Shared} (R : Rep B r ρ T m s) {o : Obj} (hf : o.isFreed = false) (hg : ((T.ins m o).get m).isSome = true)
    (a : Agree ρ ρ' m) (e : ρ' m = s.heap.objs.size) : Rep B r ρ' (T.ins m o) (m + 1) { s with heap := s.heap.push o } := by
  have R' := R.agree a
  have hnone : B.K s.heap.objs.size = none := by
    cases q : B.K s.heap.objs.size with
    | none => rfl
    | some x => exact absurd (Heap.lt_size (R.keep _ _ q)) (Nat.lt_irrefl _)
  have G := BT.get_ins o T m hg
  refine ⟨fun j o' h => ?_, fun j o' hr h => ?_, fun j j' o₁ o₂ hr h h' q => ?_, fun b o' h => Heap.get?_push_of_some _ (R.keep b o' h), R.gens, R.os⟩
  · rw [G] at h
    by_cases hj : j = m
    · subst hj
      rw [if_pos rfl] at h
      cases h
      exact ⟨Nat.lt_succ_self _, by rw [e]; exact Heap.get?_push_size _ hf⟩
    · rw [if_neg hj] at h
      exact ⟨Nat.lt_succ_of_lt (R'.own j o' h).1, Heap.get?_push_of_some _ (R'.own j o' h).2⟩
  · rw [G] at h
    by_cases hj : j = m
    · subst hj; rw [e]; exact hnone
    · rw [if_neg hj] at h; exact R'.new j o' hr h
  · rw [G] at h h'
    by_cases hj : j = m
    · by_cases hj' : j' = m
      · rw [hj, hj']
      · rw [if_neg hj'] at h'
        have z := Heap.lt_size (R'.own j' o₂ h').2
        rw [← q, hj, e] at z
        exact absurd z (Nat.lt_irrefl _)
    · rw [if_neg hj] at h
      by_cases hj' : j' = m
      · have z := Heap.lt_size (R'.own j o₁ h).2
        rw [q, hj', e] at z
        exact absurd z (Nat.lt_irrefl _)
      · rw [if_neg hj'] at h'
        exact R'.inj j j' o₁ o₂ hr h h' q
theorem Rep.upd {B : Bs} {r : Nat} {ρ : Nat → Nat} {T : BT} {m : Nat} {s : Shared} (R : Rep B r ρ T m s) {j : Nat} {o : Obj} {f : Obj → Obj} (hr : r ≤ j) (hj : T.get j = some o) (hf : (f o).isFreed = false) :
    Rep B r ρ (T.set j f) m { s with heap := s.heap.update (ρ j) f } := by
  have hs : Heap.SameBut (ρ j) s.heap (s.heap.update (ρ j) f) := Heap.SameBut.update ..
  have ho := (R.own j o hj).2
  have key : ∀ {k : Nat} {x : Obj}, (T.set j f).get k = some x → ∃ y, T.get k = some y ∧ (k = j → x = f o) ∧ (k ≠ j → x = y) := by
    intro k x h
    rw [BT.get_set] at h
    by_cases hk : k = j
    · subst hk
      rw [if_pos rfl, hj] at h
      cases h
      exact ⟨o, hj, fun _ => rfl, fun q => absurd rfl q⟩
    · rw [if_neg hk] at h
      exact ⟨x, h, fun q => absurd q hk, fun _ => rfl⟩
  refine ⟨fun k x h => ?_, fun k x hk h => ?_, fun k k' x x' hk h h' q => ?_, fun b x h => ?_, R.gens, R.os⟩
  · obtain ⟨y, hy, h1, h2⟩ := key h
    refine ⟨(R.own k y hy).1, ?_⟩
    by_cases q : k = j
    · subst q
      rw [h1 rfl]
      exact Heap.get?_update_self f ho hf
    · rw [h2 q]
      exact (hs.2 _ fun z => q (R.inj j k o y hr hj hy z.symm).symm).trans (R.own k y hy).2
  · obtain ⟨y, hy, _⟩ := key h
    exact R.new k y hk hy
  · obtain ⟨y, hy, _⟩ := key h
    obtain ⟨y', hy', _⟩ := key h'
    exact R.inj k k' y y' hk hy hy' q
  · refine (hs.2 b fun z => ?_).trans (R.keep b x h)
    subst z
    rw [R.new j o hr hj] at h
    cases h

/-- the run's surroundings -/
structure Vw (α : Type) where
  prog : Program
  w : World
  A : Around
  Q : α → Shared → Prop
  E : Value → Shared → Prop
  B : Bs
section
variable {α : Type} (V : Vw α)
noncomputable def Vw.M : Model := model V.prog V.w
noncomputable def AC : KF α → Around
  | .top _ => V.A.mark none
  | .ret c _ κ => ((AC κ).under c).mark none
noncomputable def PC (A : Around) (R : Result → Shared → Prop) : Fin → Shared → Prop := fun f s => match f with
  | .done f => R (.ok f) s
  | .again c => c.quiet = true ∧ codeAny (model V.prog V.w) A c R s
noncomputable def PE (R : Result → Shared → Prop) : Value → Shared → Prop := fun e s => R (.error e) s
noncomputable def RK : KF α → Result → Shared → Prop
  | .top k => fun r s => wpAny (model V.prog V.w) V.A (k r) V.Q V.E s
  | .ret c k κ => fun r s => wpAny (model V.prog V.w) ((AC V κ).under c) (k r) (PC V (AC V κ) (RK κ)) (PE (RK κ)) s
noncomputable def Means : Cf α → Shared → Prop
  | .top t => wpAny (model V.prog V.w) V.A t V.Q V.E
  | .sub c κ t => wpAny (model V.prog V.w) ((AC V κ).under c) t (PC V (AC V κ) (RK V κ)) (PE (RK V κ))
  | .ent c κ t => wpAny (model V.prog V.w) ((AC V κ).under c) (t >>= fun f => enterFrame >>= fun _ => pure f) (PC V (AC V κ) (RK V κ)) (PE (RK V κ))
theorem back_means (κ : KF α) (r : Result) (s : Shared) : Means V (κ.back r) s = RK V κ r s := by cases κ <;> rfl
theorem mark_none (A : Around) : A.mark none = A := by cases A; simp [Around.mark]
theorem AC_handled (h : V.A.handled = none) : ∀ κ : KF α, (AC V κ).handled = none
  | .top _ => by simp [AC, mark_none, h]
  | .ret c _ κ => by
    have := AC_handled h κ
    simp [AC, mark_none, Around.under, this]
theorem AC_depth : ∀ κ : KF α, (AC V κ).depth = V.A.depth + κ.wt
  | .top _ => by simp [AC, mark_none, KF.wt]
  | .ret c _ κ => by
    have := AC_depth κ
    simp only [AC, mark_none, Around.under, KF.wt, this, weight_eq]
    omega
theorem codeAny_tree {A : Around} {c : Code} {R : Result → Shared → Prop} {s : Shared} (h : wpAny (model V.prog V.w) (A.under c) (den c) (PC V A R) (PE R) s) : codeAny (model V.prog V.w) A c R s := by
  rw [← den_eq] at h
  exact codeAny_of_tree h
theorem sub_means {c : Code} {κ : KF α} {s : Shared} (h : Means V (.sub c κ (den c)) s) : codeAny (model V.prog V.w) (AC V κ) c (RK V κ) s := codeAny_tree V h
end

/-- a hook's word: what it may do -/
structure HLoc (H : Hk) : Prop where
  mm : ∀ {ρ τ c T m i orc ad ps o}, H ρ τ c T m i orc ad ps = some o → m ≤ o.m ∧ i ≤ o.i
  ob : ∀ {ρ τ c T m i orc ad ps o}, H ρ τ c T m i orc ad ps = some o → ObOk o.ad o.ps → ObOk ad ps
  loc : ∀ {ρ τ c T m i orc ad ps o ρ' τ'}, H ρ τ c T m i orc ad ps = some o → Agree ρ ρ' o.m → Agree τ τ' o.i → H ρ' τ' c T m i orc ad ps = some o
noncomputable def HOkH (prog : Program) (w : World) (B : Bs) (r h : Nat) (H : Hk) : Prop :=
  ∀ (c : Code) (T : BT) (m i orc : Nat) (ad : Ad) (ps : List Prop) (ρ τ : Nat → Nat) (s : Shared) (A : Around) (Q : Value → Shared → Prop),
    Rep B r ρ T m s → A.handled = none → A.depth + h < recursionLimit →
    (∀ ρ' τ', Agree ρ ρ' m → Agree τ τ' i → ∃ o, H ρ' τ' c T m i orc ad ps = some o ∧ ObOk o.ad o.ps ∧ ∀ s', Rep B r ρ' o.T o.m s' → Q o.v s') → wpAny (model prog w) A (runValue c) Q (fun _ _ => False) s

noncomputable abbrev HOk (prog : Program) (w : World) (B : Bs) (r : Nat) (H : Hk) : Prop := HOkH prog w B r 200 H
theorem HOkH.more {prog : Program} {w : World} {B : Bs} {r h h' : Nat} {H : Hk} (k : HOkH prog w B r h H) (l : h ≤ h') : HOkH prog w B r h' H :=
  fun c T m i orc ad ps ρ τ s A Q hR hh hd => k c T m i orc ad ps ρ τ s A Q hR hh (Nat.lt_of_le_of_lt (Nat.add_le_add_left l _) hd)
/-- what a function that may be entered has -/
noncomputable def FnOk (K : Addr → Option Obj) (kt : Nat → Option Obj) (fa : Nat) : Prop := ∀ o fd body, kt fa = some o → o.data = .func fd → fd.body = .stmts body →
  fd.scope.isCoroutine = false ∧ fd.scope.isGenerator = false ∧ ∀ h, Ext K h → h.CodeRec fd.code fd.qualname
structure GOk {α : Type} (V : Vw α) (G : EG) : Prop where
  g : G.g = ⟨V.prog, V.w.params⟩
  kt : ∀ a o, G.kt a = some o → V.B.K a = some o
  lim : ∀ h, Ext V.B.K h → h.NoLimit
  fn : ∀ fa, G.fn fa = true → FnOk V.B.K G.kt fa
  hl : ∀ n, HLoc (G.H n)
  hk : ∀ n, HOkH V.prog V.w V.B G.r G.h (G.H n)
  hh : V.A.handled = none
  h200 : 200 ≤ G.h
  room : V.A.depth + 100 + G.h < recursionLimit

noncomputable def Good {α : Type} (V : Vw α) (r : Nat) (ρ : Nat → Nat) : Rs α → Prop
  | .ok a T m _ ad ps => ObOk ad ps ∧ ∀ s, Rep V.B r ρ T m s → V.Q a s
  | .err e T m _ ad ps => ObOk ad ps ∧ ∀ s, Rep V.B r ρ T m s → V.E e s
  | .bad _ => False

section
variable {α : Type} {V : Vw α} {G : EG} (K : GOk V G)
noncomputable abbrev ObIH (V : Vw α) (G : EG) (ih : Cf α → Rest α) : Prop := ∀ (ρ : Nat → Nat) C T m i orc ad ps, Good V G.r ρ (ih C T m i orc ad ps) → ObOk ad ps

theorem ob_inl {ρ₀ : Nat → Nat} {ih : Cf α → Rest α} (IH : ObIH V G ih) (ρ : Nat → Nat) (c : Code) (κ : KF α) (T m i orc ad ps) (h : Good V G.r ρ (inl G ρ₀ ih c κ T m i orc ad ps)) : ObOk ad ps := by
  unfold inl at h
  repeat' split at h
  all_goals first
    | exact h.elim
    | exact IH _ _ _ _ _ _ _ _ h
    | exact (IH _ _ _ _ _ _ _ _ h).tail.tail
include K in
theorem ob_node {β : Type} {ρ₀ τ₀ : Nat → Nat} {ih : Cf α → Rest α} (IH : ObIH V G ih) {w : Sem β → Cf α} {mk : (Result → Sem β) → KF α} {pp : β → Rest α} {pe : Value → Rest α}
    (hp : ∀ ρ b T m i orc ad ps, Good V G.r ρ (pp b T m i orc ad ps) → ObOk ad ps) (he : ∀ ρ b T m i orc ad ps, Good V G.r ρ (pe b T m i orc ad ps) → ObOk ad ps)
    (ρ : Nat → Nat) (t : Sem β) (T m i orc ad ps) (h : Good V G.r ρ (node G ρ₀ τ₀ ih w mk pp pe t T m i orc ad ps)) : ObOk ad ps := by
  unfold node at h
  simp only [HO.go_eq] at h
  repeat' split at h
  all_goals first
    | exact h.elim
    | exact hp _ _ _ _ _ _ _ _ h
    | exact he _ _ _ _ _ _ _ _ h
    | exact IH _ _ _ _ _ _ _ _ h
    | exact (IH _ _ _ _ _ _ _ _ h).tail
    | exact ob_inl IH _ _ _ _ _ _ _ _ _ h
    | (rename_i hH; exact (K.hl _).ob hH (IH _ _ _ _ _ _ _ _ h))
theorem ob_fin {ρ₀ : Nat → Nat} {ih : Cf α → Rest α} (IH : ObIH V G ih) (ρ : Nat → Nat) (κ : KF α) (f : Fin) (T m i orc ad ps) (h : Good V G.r ρ (fin G ρ₀ ih κ f T m i orc ad ps)) : ObOk ad ps := by
  unfold fin at h
  repeat' split at h
  all_goals first
    | exact h.elim
    | exact IH _ _ _ _ _ _ _ _ h
    | exact ob_inl IH _ _ _ _ _ _ _ _ _ h
theorem ob_fin2 {ih : Cf α → Rest α} (IH : ObIH V G ih) (ρ : Nat → Nat) (c₀ : Code) (κ : KF α) (f : Fin) (T m i orc ad ps) (h : Good V G.r ρ (fin2 ih c₀ κ f T m i orc ad ps)) : ObOk ad ps := by
  unfold fin2 at h
  repeat' split at h
  all_goals first
    | exact h.elim
    | exact IH _ _ _ _ _ _ _ _ h
include K in
theorem ob_step {ρ₀ τ₀ : Nat → Nat} {ih : Cf α → Rest α} (IH : ObIH V G ih) (ρ : Nat → Nat) (C : Cf α) (T m i orc ad ps) (h : Good V G.r ρ (stepE G ρ₀ τ₀ ih C T m i orc ad ps)) : ObOk ad ps := by
  cases C with
  | top t =>
    unfold stepE at h
    dsimp only at h
    refine ob_node K IH ?_ ?_ _ _ _ _ _ _ _ _ h
    · exact fun _ _ _ _ _ _ _ _ z => And.left z
    · exact fun _ _ _ _ _ _ _ _ z => And.left z
  | sub c κ t => exact ob_node K IH (fun _ b _ _ _ _ _ _ z => ob_fin IH _ _ _ _ _ _ _ _ _ z) (fun _ _ _ _ _ _ _ _ z => IH _ _ _ _ _ _ _ _ z) _ _ _ _ _ _ _ _ h
  | ent c κ t =>
    unfold stepE at h
    dsimp only at h
    split at h
    · exact h.elim
    · refine ob_node K IH ?_ ?_ _ _ _ _ _ _ _ _ h
      · exact fun _ b _ _ _ _ _ _ z => ob_fin2 IH _ _ _ _ _ _ _ _ _ _ z
      · exact fun _ _ _ _ _ _ _ _ z => False.elim z
include K in
theorem ob_run {ρ₀ τ₀ : Nat → Nat} : ∀ n, ObIH V G (runE (α := α) G ρ₀ τ₀ n)
  | 0 => fun _ _ _ _ _ _ _ _ h => h.elim
  | n + 1 => fun _ _ _ _ _ _ _ _ h => ob_step K (ob_run n) _ _ _ _ _ _ _ _ h

/-- the run's word, n steps on -/
noncomputable def Snd (V : Vw α) (G : EG) (ih : (Nat → Nat) → (Nat → Nat) → Cf α → Rest α) : Prop := ∀ (C : Cf α) (ρ τ : Nat → Nat) (T : BT) (m i orc : Nat) (ad : Ad) (ps : List Prop) (s : Shared),
  Rep V.B G.r ρ T m s → (∀ ρ' τ', Agree ρ ρ' m → Agree τ τ' i → Good V G.r ρ' (ih ρ' τ' C T m i orc ad ps)) → Means V C s

theorem pyIter_self {prog : Program} {w : World} {A : Around} {E : Value → Shared → Prop} {s : Shared} {it : Addr} {o : Obj} {n : Nat} {Q : Value → Shared → Prop} (ho : s.heap.get? it = some o) (hc : o.cls = iterCls n) (h : Q (.ref it) s) :
    wpAny (model prog w) A (pyIter (.ref it)) Q E s := by
  cases n with
  | zero =>
    have hT : s.TypeIs (.ref it) "range_iterator" := ⟨_, ho, hc⟩
    refine wpAny_pyIter_slot hT F.slot_range_iterator_iter (wpAny_call_entry F.slot_range_iterator_iter hT F.entry_range_iterator_iter ?_ (F.args_range_iterator_iter_1 _))
    show wpAny _ _ (ret (.ref it)) _ _ s
    exact wpAny_pure ⟨_, rfl, "range_iterator", _, hT, F.slot_range_iterator_next.lookup, h⟩
  | succ n =>
    have hT : s.TypeIs (.ref it) "list_iterator" := ⟨_, ho, hc⟩
    refine wpAny_pyIter_slot hT slot_listiter_iter (wpAny_call_entry slot_listiter_iter hT entry_listiter_iter ?_ (args_listiter_iter _))
    show wpAny _ _ (ret (.ref it)) _ _ s
    exact wpAny_pure ⟨_, rfl, "list_iterator", _, hT, slot_listiter_next.lookup, h⟩

theorem locals_str : (Str.ofString ".<locals>.") = (⟨#[46, 60, 108, 111, 99, 97, 108, 115, 62, 46]⟩ : Str) := by decide +kernel
/-- a plain function's door, whole -/
theorem door {prog : Program} {w : World} {A : Around} {R : Result → Shared → Prop} {s : Shared} {a : Addr} {args : Args} {o : Obj} {fd : FuncData} {body : List Stmt}
    (ho : s.heap.get? a = some o) (hd : o.data = .func fd) (hco : fd.scope.isCoroutine = false) (hgen : fd.scope.isGenerator = false) (hbody : fd.body = .stmts body) (hcd : s.heap.CodeRec fd.code fd.qualname)
    (h : wpAny (model prog w) (A.under (.call (.ref a) args)) (doorT a fd body args >>= fun f => enterFrame >>= fun _ => pure f) (fun fin s' => match fin with | .done f => R (.ok f) s' | .again c' => c'.quiet = true ∧ codeAny (model prog w) A c' R s') (fun e s' => R (.error e) s') s) :
    codeAny (model prog w) A (.call (.ref a) args) R s := by
  refine codeAny_of_tree ?_
  show wpAny _ _ (callAny (.ref a) args) _ _ s
  simp only [callAny]
  refine wpAny_bind (wpAny_load ho ?_)
  obtain ⟨c, oc, vs, tq, hc, hoc, hdc, hq⟩ := hcd
  simp only [hd, callFunction, hco, hgen, hbody, hc]
  refine wpAny_bind (m := field (.ref c) 1) (wpAny_field hoc hdc hq (wpAny_bind (wpAny_pure ?_)))
  have e : (doorT a fd body args >>= fun f => enterFrame >>= fun _ => pure f) = (bindArgs fd args >>= fun binds => newFunctionEnv fd.scope fd.globals fd.closure binds (fd.qualname ++ Str.ofString ".<locals>.") (some a) (Value.ref c) none fd.builtins >>= fun env => enterFrame >>= fun _ => again (.func body env)) := by
    have e1 : doorT a fd body args = (bindArgs fd args >>= fun binds => newFunctionEnv fd.scope fd.globals fd.closure binds (fd.qualname ++ Str.ofString ".<locals>.") (some a) fd.code none fd.builtins >>= fun env => again (.func body env)) := by
      rw [locals_str, PySem.W.Fast.te9782568553167038054, PySem.W.Fast.te11113344188204177931]
      rfl
    rw [e1, hc, bind_assoc]
    refine congrArg _ (funext fun binds => ?_)
    rw [bind_assoc]
    rfl
  rw [e] at h
  exact h
end
section
variable {α : Type} {V : Vw α} {G : EG} (K : GOk V G) {ih : (Nat → Nat) → (Nat → Nat) → Cf α → Rest α} (IH : Snd V G ih) (OB : ∀ ρ τ, ObIH V G (ih ρ τ))
include K IH OB

theorem inl_sound (c : Code) (κ : KF α) (ρ τ : Nat → Nat) (T : BT) (m i orc : Nat) (ad : Ad) (ps : List Prop) (s : Shared) (hR : Rep V.B G.r ρ T m s)
    (H : ∀ ρ' τ', Agree ρ ρ' m → Agree τ τ' i → Good V G.r ρ' (inl G ρ' (ih ρ' τ') c κ T m i orc ad ps)) : codeAny (model V.prog V.w) (AC V κ) c (RK V κ) s := by
  have H0 := H ρ τ (Agree.refl ρ m) (Agree.refl τ i)
  have plain : (∀ ρ' τ', Agree ρ ρ' m → Agree τ τ' i → Good V G.r ρ' (ih ρ' τ' (.sub c κ (den c)) T m i orc ad ps)) → codeAny (model V.prog V.w) (AC V κ) c (RK V κ) s :=
    fun Z => sub_means V (IH _ ρ τ T m i orc ad ps s hR Z)
  cases c with
  | call f args =>
    cases f with
    | ref fa =>
      simp only [inl] at H H0
      cases hfn : G.fn fa with
      | false => simp only [hfn] at H0; exact H0.elim
      | true =>
        simp only [hfn] at H H0
        cases hw : Nat.ble κ.wt 100 with
        | false => simp only [hw] at H0; exact H0.elim
        | true =>
          simp only [hw] at H H0
          cases ho : G.kt fa with
          | none => simp only [ho] at H0; exact H0.elim
          | some o =>
            simp only [ho] at H H0
            cases hd : o.data with
            | func fd =>
              simp only [hd] at H H0
              cases hb : fd.body with
              | expr e => simp only [hb] at H0; exact H0.elim
              | stmts body =>
                simp only [hb] at H H0
                obtain ⟨f1, f2, f3⟩ := K.fn fa hfn o fd body ho hd hb
                have hh : s.heap.get? fa = some o := hR.keep _ _ (K.kt _ _ ho)
                exact door hh hd f1 f2 hb (f3 _ hR.keep) (IH (.ent (.call (.ref fa) args) κ (doorT fa fd body args)) ρ τ T m i orc ad ps s hR H)
            | _ => simp only [hd] at H0; exact H0.elim
    | _ => exact plain H
  | compStart e d it acc env =>
    cases it with
    | ref a =>
      cases e with
      | ListComp elt gens scope pos =>
        cases gens with
        | nil => simp only [inl] at H0; exact H0.elim
        | cons g gs =>
          cases gs with
          | cons _ _ => simp only [inl] at H0; exact H0.elim
          | nil =>
            obtain ⟨target, iter, ifs, z⟩ := g
            cases z with
            | negSucc _ => simp only [inl] at H0; exact H0.elim
            | ofNat z =>
              cases z with
              | succ _ => simp only [inl] at H0; exact H0.elim
              | zero =>
                cases d with
                | succ _ => simp only [inl] at H0; exact H0.elim
                | zero =>
                  simp only [inl] at H H0
                  cases hj : orc % 1024 with
                  | zero => simp only [hj] at H0; exact H0.elim
                  | succ j =>
                    simp only [hj] at H H0
                    cases ho : T.get j with
                    | none => simp only [ho] at H0; exact H0.elim
                    | some o =>
                      simp only [ho] at H H0
                      have ob := OB _ _ _ _ _ _ _ _ _ _ H0
                      have e1 : o.cls = iterCls (orc / 1024 % 1024) := ob.head
                      have e2 : a = ρ j := by have := ob.tail.head; injection this
                      have go : codeAny (model V.prog V.w) (AC V κ) (.compLoop (.ListComp elt [⟨target, iter, ifs, 0⟩] scope pos) 0 (.ref a) acc env) (RK V κ) s :=
                        sub_means V (IH _ ρ τ T m i (orc / 1024 / 1024) ((o.cls, iterCls (orc / 1024 % 1024)) :: (.ref a, .ref (ρ j)) :: ad) ps s hR fun ρ' τ' aρ aτ => by
                          have Z := H ρ' τ' aρ aτ
                          rw [aρ j (hR.own j o ho).1] at Z
                          exact Z)
                      exact codeAny_compStart_list go (pyIter_self (e2 ▸ (hR.own j o ho).2) e1 go)
      | _ => simp only [inl] at H0; exact H0.elim
    | _ => simp only [inl] at H0; exact H0.elim
  | _ => exact plain H

omit K IH OB in
theorem wpAny_hook {β γ : Type} {prog : Program} {w : World} {A : Around} {c : Code} {g : Bool} {l : List Value} {k : Result → Sem β} {F : β → Sem γ} {Q : γ → Shared → Prop} {E : Value → Shared → Prop} {s : Shared}
    (h : wpAny (model prog w) A (runValue c) (fun v s' => wpAny (model prog w) A (k (.ok (.ret v)) >>= F) Q E s') (fun _ _ => False) s) : wpAny (model prog w) A (.call c none g l k >>= F) Q E s := fun Γ p hΓ => by
  show Sem.wp _ Γ (.call c none g l fun r => k r >>= F) _ _ p s
  have z := h Γ p hΓ
  rw [Sem.wp_runValue] at z
  rw [Sem.wp_call]
  refine wpCode_mono (fun r s' q => ?_) z
  match r, q with
  | .ok (.ret v), q => exact q Γ p hΓ
theorem node_sound {β γ : Type} {w : Sem β → Cf α} {mk : (Result → Sem β) → KF α} {pp : (Nat → Nat) → (Nat → Nat) → β → Rest α} {pe : (Nat → Nat) → (Nat → Nat) → Value → Rest α}
    {A : Around} {F : β → Sem γ} {Q : γ → Shared → Prop} {E : Value → Shared → Prop} (hA : A.handled = none) 
    (hw : ∀ t s, Means V (w t) s = wpAny (model V.prog V.w) A (t >>= F) Q E s)
    (t : Sem β) (ρ τ : Nat → Nat) (T : BT) (m i orc : Nat) (ad : Ad) (ps : List Prop) (s : Shared) (hR : Rep V.B G.r ρ T m s)
    (hp : ∀ b, t = .pure b → (∀ ρ' τ', Agree ρ ρ' m → Agree τ τ' i → Good V G.r ρ' (pp ρ' τ' b T m i orc ad ps)) → Means V (w (.pure b)) s)
    (he : ∀ e, t = .raise e → (∀ ρ' τ', Agree ρ ρ' m → Agree τ τ' i → Good V G.r ρ' (pe ρ' τ' e T m i orc ad ps)) → Means V (w (.raise e)) s)
    (hdep : ∀ c g l k, t = .call c none g l k → A.depth = (AC V (mk k)).depth)
    (hc : ∀ c g l k, t = .call c none g l k → codeAny (model V.prog V.w) (AC V (mk k)) c (RK V (mk k)) s → Means V (w (.call c none g l k)) s)
    (H : ∀ ρ' τ', Agree ρ ρ' m → Agree τ τ' i → Good V G.r ρ' (node G ρ' τ' (ih ρ' τ') w mk (pp ρ' τ') (pe ρ' τ') t T m i orc ad ps)) : Means V (w t) s := by
  have H0 := H ρ τ (Agree.refl ρ m) (Agree.refl τ i)
  cases t with
  | pure b => exact hp b rfl H
  | raise e => exact he e rfl H
  | rule tag k =>
    have Z := IH (w (k ())) ρ τ T m i orc ad ps s hR H
    rw [hw] at Z ⊢
    exact x_rule Z
  | «at» p k =>
    have Z := IH (w (k ())) ρ τ T m i orc ad ps s hR H
    rw [hw] at Z ⊢
    exact x_at Z
  | point l k =>
    have Z := IH (w (k ())) ρ τ T m i orc ad ps s hR H
    rw [hw] at Z ⊢
    exact x_point Z
  | ask k =>
    have Z := IH (w (k G.g)) ρ τ T m i orc ad ps s hR H
    rw [K.g, hw] at Z
    rw [hw]
    exact x_ask Z
  | load a q k =>
    simp only [node] at H H0
    cases hj : orc % 1024 with
    | zero =>
      simp only [hj] at H H0
      cases ho : G.kt a with
      | none => simp only [ho] at H0; exact H0.elim
      | some o =>
        simp only [ho] at H H0
        have Z := IH (w (k o)) ρ τ T m i _ ad ps s hR H
        rw [hw] at Z ⊢
        exact x_load (hR.keep _ _ (K.kt _ _ ho)) Z
    | succ j =>
      simp only [hj] at H H0
      cases ho : T.get j with
      | none => simp only [ho] at H0; exact H0.elim
      | some o =>
        simp only [ho] at H H0
        have ob := OB _ _ _ _ _ _ _ _ _ _ H0
        have e2 : a = ρ j := by have := ob.head; injection this
        have Z := IH (w (k o)) ρ τ T m i (orc / 1024) ((.ref a, .ref (ρ j)) :: ad) ps s hR fun ρ' τ' aρ aτ => by
          have Z := H ρ' τ' aρ aτ
          rw [aρ j (hR.own j o ho).1] at Z
          exact Z
        rw [hw] at Z ⊢
        exact x_load (e2 ▸ (hR.own j o ho).2) Z
  | alloc o k =>
    simp only [node] at H H0
    cases hf : o.isFreed with
    | true => simp only [hf] at H0; exact H0.elim
    | false =>
      simp only [hf] at H H0
      cases hg : (T.ins m o).get m with
      | none => simp only [hg] at H0; exact H0.elim
      | some o' =>
        simp only [hg] at H H0
        let ρ₁ : Nat → Nat := fun j => if j = m then s.heap.objs.size else ρ j
        have a₁ : Agree ρ ρ₁ m := fun j hj => if_neg (Nat.ne_of_lt hj)
        have e₁ : ρ₁ m = s.heap.objs.size := if_pos rfl
        have hR₁ : Rep V.B G.r ρ₁ (T.ins m o) (m + 1) { s with heap := s.heap.push o } := hR.alloc hf (by rw [hg]; rfl) a₁ e₁
        have Z := IH (w (k s.heap.objs.size)) ρ₁ τ (T.ins m o) (m + 1) i orc ad ps _ hR₁ fun ρ' τ' aρ aτ => by
          have Z := H ρ' τ' (a₁.trans (aρ.mono (Nat.le_succ m))) aτ
          rw [aρ m (Nat.lt_succ_self m), e₁] at Z
          exact Z
        rw [hw] at Z ⊢
        exact wpAny_bind (m := PySem.alloc o) (f := fun a => k a >>= F) (wpAny_alloc Z)
  | update a q f k =>
    simp only [node] at H H0
    cases hj : orc % 1024 with
    | zero => simp only [hj] at H0; exact H0.elim
    | succ j =>
      simp only [hj] at H H0
      cases hr : Nat.ble G.r j with
      | false => simp only [hr] at H0; exact H0.elim
      | true =>
        simp only [hr] at H H0
        cases ho : T.get j with
        | none => simp only [ho] at H0; exact H0.elim
        | some o =>
          simp only [ho] at H H0
          cases hf : (f o).isFreed with
          | true => simp only [hf] at H0; exact H0.elim
          | false =>
            simp only [hf] at H H0
            have ob := OB _ _ _ _ _ _ _ _ _ _ H0
            have e2 : a = ρ j := by have := ob.head; injection this
            subst e2
            have Z := IH (w (k ())) ρ τ (T.set j f) m i (orc / 1024) ((.ref (ρ j), .ref (ρ j)) :: ad) ps _ (hR.upd (Nat.le_of_ble_eq_true hr) ho hf) fun ρ' τ' aρ aτ => by
              have Z := H ρ' τ' aρ aτ
              rw [aρ j (hR.own j o ho).1] at Z
              exact Z
            rw [hw] at Z ⊢
            exact wpAny_bind (m := updatePart (ρ j) q f) (f := fun u => k u >>= F) (wpAny_updatePart (hR.own j o ho).2 Z)
  | fresh k =>
    let τ₁ : Nat → Nat := fun j => if j = i then s.toks else τ j
    have a₁ : Agree τ τ₁ i := fun j hj => if_neg (Nat.ne_of_lt hj)
    have e₁ : τ₁ i = s.toks := if_pos rfl
    have Z := IH (w (k s.toks)) ρ τ₁ T m (i + 1) orc ad ps _ (hR.toks (s.toks + 1)) fun ρ' τ' aρ aτ => by
      have Z := H ρ' τ' aρ (a₁.trans (aτ.mono (Nat.le_succ i)))
      simp only [node] at Z
      rw [aτ i (Nat.lt_succ_self i), e₁] at Z
      exact Z
    rw [hw] at Z ⊢
    exact x_fresh Z
  | handled own k =>
    cases own with
    | true => simp only [node] at H0; exact H0.elim
    | false =>
      have Z := IH (w (k none)) ρ τ T m i orc ad ps s hR H
      rw [hw] at Z ⊢
      exact x_handled (hA ▸ Z)
  | call c hd g l k =>
    cases hd with
    | some _ => simp only [node] at H0; exact H0.elim
    | none =>
      simp only [node] at H H0
      cases hic : isCall c with
      | false => simp only [hic] at H; exact hc c g l k rfl (inl_sound K IH OB c (mk k) ρ τ T m i orc ad ps s hR H)
      | true =>
        simp only [hic] at H H0
        cases hj : orc % 1024 with
        | zero => simp only [hj] at H; exact hc c g l k rfl (inl_sound K IH OB c (mk k) ρ τ T m i _ ad ps s hR H)
        | succ h =>
          simp only [hj] at H H0
          cases hwt : Nat.ble (mk k).wt 100 with
          | false => simp only [hwt] at H0; exact H0.elim
          | true =>
            simp only [hwt] at H
            have hd : A.depth + G.h < recursionLimit := by
              rw [hdep c g l k rfl, AC_depth]
              have := Nat.le_of_ble_eq_true hwt
              have := K.room
              omega
            rw [hw]
            refine wpAny_hook (K.hk h c T m i (orc / 1024) ad ps ρ τ s A _ hR hA hd fun ρ' τ' aρ aτ => ?_)
            have Z := H ρ' τ' aρ aτ
            cases ho : G.H h ρ' τ' c T m i (orc / 1024) ad ps with
            | none => simp only [ho] at Z; exact Z.elim
            | some o =>
              simp only [ho, HO.go_eq] at Z
              refine ⟨o, rfl, OB _ _ _ _ _ _ _ _ _ _ Z, fun s' hR' => ?_⟩
              rw [← hw]
              refine IH _ ρ' τ' o.T o.m o.i o.orc o.ad o.ps s' hR' fun ρ'' τ'' bρ bτ => ?_
              have mm := (K.hl h).mm ho
              have Z' := H ρ'' τ'' (aρ.trans (bρ.mono mm.1)) (aτ.trans (bτ.mono mm.2))
              have ho' := (K.hl h).loc ho bρ bτ
              simp only [ho', HO.go_eq] at Z'
              exact Z'
  | _ => simp only [node] at H0; exact H0.elim

theorem step_sound : Snd V G fun ρ τ => stepE G ρ τ (ih ρ τ) := by
  intro C ρ τ T m i orc ad ps s hR H
  cases C with
  | top t =>
    refine node_sound K IH OB (w := .top) (mk := .top) (A := V.A) (F := pure) (Q := V.Q) (E := V.E) (pp := fun _ _ a T m i _ ad ps => .ok a T m i ad ps) (pe := fun _ _ e T m i _ ad ps => .err e T m i ad ps) K.hh
      (fun t s => by rw [bind_pure]; rfl) t ρ τ T m i orc ad ps s hR (fun b _ Z => ?_) (fun e _ Z => ?_) (fun c g l k _ => by rw [AC_depth]; rfl) (fun c g l k _ Z => ?_) H
    · exact wpAny_pure ((Z ρ τ (Agree.refl ρ m) (Agree.refl τ i)).2 s hR)
    · exact wpAny_throw ((Z ρ τ (Agree.refl ρ m) (Agree.refl τ i)).2 s hR)
    · exact x_call Z (by intro q; cases q)
  | sub c κ t =>
    refine node_sound K IH OB (w := .sub c κ) (mk := fun k => .ret c k κ) (A := (AC V κ).under c) (F := pure) (Q := PC V (AC V κ) (RK V κ)) (E := PE (RK V κ)) (pp := fun ρ τ => fin G ρ (ih ρ τ) κ) (pe := fun ρ τ e => ih ρ τ (κ.back (.error e)))
      (AC_handled V K.hh κ) (fun t s => by rw [bind_pure]; rfl) t ρ τ T m i orc ad ps s hR (fun b _ Z => ?_) (fun e _ Z => ?_) (fun c g l k _ => rfl) (fun c g l k _ Z => ?_) H
    · refine wpAny_pure ?_
      cases b with
      | done f =>
        show RK V κ (.ok f) s
        rw [← back_means]
        exact IH _ ρ τ T m i orc ad ps s hR Z
      | again c' =>
        simp only [fin] at Z
        cases hq : quietF c' with
        | false =>
          have := Z ρ τ (Agree.refl ρ m) (Agree.refl τ i)
          simp only [hq] at this
          exact this.elim
        | true =>
          simp only [hq] at Z
          exact ⟨by rw [quiet_eq]; exact hq, inl_sound K IH OB c' κ ρ τ T m i orc ad ps s hR Z⟩
    · refine wpAny_throw ?_
      show RK V κ (.error e) s
      rw [← back_means]
      exact IH _ ρ τ T m i orc ad ps s hR Z
    · exact x_call Z (by intro q; cases q)
  | ent c κ t =>
    cases ht : isCallT t with
    | true =>
      have := H ρ τ (Agree.refl ρ m) (Agree.refl τ i)
      simp only [stepE, ht] at this
      exact this.elim
    | false =>
      simp only [stepE, ht] at H
      refine node_sound K IH OB (w := .ent c κ) (mk := fun _ => κ) (A := (AC V κ).under c) (F := fun f => enterFrame >>= fun _ => pure f) (Q := PC V (AC V κ) (RK V κ)) (E := PE (RK V κ)) (pp := fun ρ τ => fin2 (ih ρ τ) c κ) (pe := fun _ _ _ _ _ _ _ _ _ => .bad 15)
        (AC_handled V K.hh κ) (fun t s => rfl) t ρ τ T m i orc ad ps s hR (fun b _ Z => ?_) (fun e _ Z => ?_) (fun c g l k q => by subst q; cases ht) (fun c g l k q Z => ?_) H
      · show wpAny _ _ (enterFrame >>= fun _ => pure b) _ _ s
        have Z0 := Z ρ τ (Agree.refl ρ m) (Agree.refl τ i)
        cases b with
        | done f => simp only [fin2] at Z0; exact Z0.elim
        | again c' =>
          simp only [fin2] at Z Z0
          cases hq : quietF c' with
          | false => simp only [hq] at Z0; exact Z0.elim
          | true =>
            simp only [hq] at Z Z0
            cases hwt : Nat.ble (κ.wt + weightF c) 200 with
            | false => simp only [hwt] at Z0; exact Z0.elim
            | true =>
              simp only [hwt] at Z Z0
              have hlim : s.heap.NoLimit := K.lim _ hR.keep
              refine wpAny_bind (wpAny_enterFrame hlim ?_ (wpAny_pure ⟨by rw [quiet_eq]; exact hq, sub_means V (IH _ ρ τ T m i orc ad ps s hR Z)⟩))
              show (AC V κ).depth + c.weight < recursionLimit
              rw [AC_depth, weight_eq]
              have := Nat.le_of_ble_eq_true hwt
              have := K.room
              have := K.h200
              omega
      · exact (Z ρ τ (Agree.refl ρ m) (Agree.refl τ i)).elim
      · subst q; cases ht
end
theorem run_sound {α : Type} {V : Vw α} {G : EG} (K : GOk V G) : ∀ n, Snd V G fun ρ τ => runE G ρ τ n
  | 0 => fun _ ρ τ _ m i _ _ _ _ _ H => (H ρ τ (Agree.refl ρ m) (Agree.refl τ i)).elim
  | n + 1 => step_sound K (run_sound K n) fun _ _ => ob_run K n
/-! ## A ledger out of a list; a run's use -/
noncomputable def fillT : List Obj → Nat → BT → BT
  | [], _, t => t
  | o :: l, n, t => fillT l (n + 1) (t.ins n o)
noncomputable def mkT (l : List Obj) : BT := fillT l 0 .nil
noncomputable def Full (t : BT) (n : Nat) : Prop := ∀ i, (t.get i).isSome = true ↔ i < n
theorem full_nil : Full .nil 0 := fun i => by simp [BT.get]
theorem full_nil_of {n : Nat} (h : Full .nil n) : n = 0 := by
  cases n with
  | zero => rfl
  | succ n => have := (h 0).mpr (Nat.succ_pos n); simp [BT.get] at this
theorem full_left {v : Obj} {l r : BT} {n : Nat} (h : Full (.node v l r) n) : Full l (n / 2) := fun i => by
  have q := h (2 * i + 1)
  rw [BT.get_node, if_neg (by omega), if_pos (by omega), show (2 * i + 1) / 2 = i by omega] at q
  rw [q]; omega
theorem full_right {v : Obj} {l r : BT} {n : Nat} (h : Full (.node v l r) n) : Full r ((n - 1) / 2) := fun i => by
  have q := h (2 * i + 2)
  rw [BT.get_node, if_neg (by omega), if_neg (by omega), show (2 * i + 2) / 2 - 1 = i by omega] at q
  rw [q]; omega
theorem full_some (o : Obj) : ∀ (t : BT) (n : Nat), Full t n → ((t.ins n o).get n).isSome = true
  | .nil, n, h => by
    have := full_nil_of h
    subst this; rfl
  | .node v l r, n, h => by
    have hn : 0 < n := (h 0).mp (by rw [BT.get_node, if_pos rfl]; rfl)
    rw [BT.ins_node, if_neg (by omega)]
    by_cases p : n % 2 = 1
    · rw [if_pos p, BT.get_node, if_neg (by omega), if_pos p]
      exact full_some o l (n / 2) (full_left h)
    · rw [if_neg p, BT.get_node, if_neg (by omega), if_neg p]
      have := full_some o r ((n - 1) / 2) (full_right h)
      rw [show (n - 1) / 2 = n / 2 - 1 by omega] at this
      exact this
theorem full_ins {o : Obj} {t : BT} {n : Nat} (h : Full t n) : Full (t.ins n o) (n + 1) := fun i => by
  rw [BT.get_ins o t n (full_some o t n h)]
  by_cases q : i = n
  · subst q; simp
  · rw [if_neg q, h i]; omega
theorem fillT_get : ∀ (l : List Obj) (n : Nat) (t : BT), Full t n → (∀ i, (fillT l n t).get i = if i < n then t.get i else l[i - n]?) ∧ Full (fillT l n t) (n + l.length)
  | [], n, t, h => ⟨fun i => by
      show t.get i = _
      by_cases q : i < n
      · rw [if_pos q]
      · rw [if_neg q]
        have : ¬ (t.get i).isSome = true := fun z => q ((h i).mp z)
        simp at this; simp [this], h⟩
  | o :: l, n, t, h => by
    obtain ⟨a, b⟩ := fillT_get l (n + 1) (t.ins n o) (full_ins h)
    refine ⟨fun i => ?_, by have := b; rw [List.length_cons, show n + (l.length + 1) = n + 1 + l.length by omega]; exact this⟩
    show (fillT l (n + 1) (t.ins n o)).get i = _
    rw [a i, BT.get_ins o t n (full_some o t n h)]
    by_cases q : i < n
    · rw [if_pos (by omega), if_neg (by omega), if_pos q]
    · rw [if_neg q]
      by_cases p : i = n
      · subst p; rw [if_pos (by omega), if_pos rfl, Nat.sub_self]; rfl
      · rw [if_neg (by omega), show i - n = (i - (n + 1)) + 1 by omega]; rfl
theorem mkT_get (l : List Obj) (i : Nat) : (mkT l).get i = l[i]? := by
  have := (fillT_get l 0 .nil full_nil).1 i
  rw [if_neg (Nat.not_lt_zero i), Nat.sub_zero] at this
  exact this

/-- a ledger anew: the objects named, at their places -/
theorem Rep.make {B : Bs} {s : Shared} (r : Nat) (ρ : Nat → Nat) (os : List Obj) (hk : Ext B.K s.heap) (hg : B.GP s.gens) (ho : s.os = B.os)
    (h : ∀ i o, os[i]? = some o → s.heap.get? (ρ i) = some o) (hn : ∀ i, r ≤ i → i < os.length → B.K (ρ i) = none)
    (hi : ∀ i j, r ≤ i → i < os.length → j < os.length → ρ i = ρ j → i = j) : Rep B r ρ (mkT os) os.length s where
  own := fun j o e => by rw [mkT_get] at e; exact ⟨(List.getElem?_eq_some_iff.mp e).1, h j o e⟩
  new := fun j o hr e => by rw [mkT_get] at e; exact hn j hr (List.getElem?_eq_some_iff.mp e).1
  inj := fun j j' o o' hr e e' q => by
    rw [mkT_get] at e e'
    exact hi j j' hr (List.getElem?_eq_some_iff.mp e).1 (List.getElem?_eq_some_iff.mp e').1 q
  keep := hk
  gens := hg
  os := ho

noncomputable def Rs.val {α : Type} : Rs α → Option α
  | .ok a .. => some a
  | _ => none
noncomputable def Rs.led {α : Type} : Rs α → BT
  | .ok _ T .. => T
  | .err _ T .. => T
  | .bad _ => .nil
noncomputable def Rs.ads {α : Type} : Rs α → Ad
  | .ok _ _ _ _ ad _ => ad
  | .err _ _ _ _ ad _ => ad
  | .bad _ => []
noncomputable def Rs.pss {α : Type} : Rs α → List Prop
  | .ok _ _ _ _ _ ps => ps
  | .err _ _ _ _ _ ps => ps
  | .bad _ => [False]
noncomputable def Rs.sz {α : Type} : Rs α → Nat
  | .ok _ _ m .. => m
  | .err _ _ m .. => m
  | .bad _ => 0
noncomputable def Rs.why {α : Type} : Rs α → Nat
  | .ok .. => 1000
  | .err .. => 1001
  | .bad n => n
/-- all that is asked of a run, at once -/
noncomputable def Rs.said {α : Type} (js : List Nat) (r : Rs α) : Option α × List Value × List Prop × List (Option Obj) := (r.val, r.ads.map (·.1), r.pss, js.map r.led.get)
noncomputable def Rs.owed {α : Type} (r : Rs α) : List Value := r.ads.map (·.2)
theorem map_eq_all : ∀ {l : Ad}, l.map (·.1) = l.map (·.2) → ∀ p ∈ l, p.1 = p.2
  | [], _, _, h => nomatch h
  | q :: l, e, p, h => by
    rw [List.map_cons, List.map_cons] at e
    injection e with e1 e2
    rcases List.mem_cons.mp h with rfl | h
    · exact e1
    · exact map_eq_all e2 p h
theorem good_of {α : Type} {V : Vw α} {r₀ : Nat} {ρ : Nat → Nat} {r : Rs α} {js : List Nat} {a : α} {ps : List Prop} {os : List (Option Obj)}
    (h : r.said js = (some a, r.owed, ps, os)) (hp : AllP ps) (hQ : ∀ T m s, Rep V.B r₀ ρ T m s → js.map T.get = os → V.Q a s) : Good V r₀ ρ r := by
  simp only [Rs.said, Rs.owed, Prod.mk.injEq] at h
  obtain ⟨h1, h2, h3, h4⟩ := h
  cases r with
  | ok a' T m i ad ps' =>
    simp only [Rs.val, Option.some.injEq] at h1
    subst h1
    simp only [Rs.pss] at h3
    subst h3
    exact ⟨⟨map_eq_all h2, hp⟩, fun s hs => hQ T m s hs h4⟩
  | err => cases h1
  | bad => cases h1
/-- the engine's use -/
theorem eng {α : Type} {prog : Program} {w : World} {A : Around} {Q : α → Shared → Prop} {E : Value → Shared → Prop} {B : Bs} {G : EG} (K : GOk ⟨prog, w, A, Q, E, B⟩ G) (n : Nat) {t : Sem α} {T : BT} {m i orc : Nat} {s : Shared} {ρ τ : Nat → Nat}
    (js : List Nat) (a : (Nat → Nat) → (Nat → Nat) → α) (ps : (Nat → Nat) → (Nat → Nat) → List Prop) (os : (Nat → Nat) → (Nat → Nat) → List (Option Obj)) (hR : Rep B G.r ρ T m s)
    (h : ∀ ρ' τ', Agree ρ ρ' m → Agree τ τ' i → (runE G ρ' τ' n (.top t) T m i orc [] []).said js = (some (a ρ' τ'), (runE G ρ' τ' n (.top t) T m i orc [] []).owed, ps ρ' τ', os ρ' τ'))
    (hp : ∀ ρ' τ', Agree ρ ρ' m → Agree τ τ' i → AllP (ps ρ' τ'))
    (hQ : ∀ ρ' τ' T' m' s', Agree ρ ρ' m → Agree τ τ' i → Rep B G.r ρ' T' m' s' → js.map T'.get = os ρ' τ' → Q (a ρ' τ') s') : wpAny (model prog w) A t Q E s :=
  run_sound K n (.top t) ρ τ T m i orc [] [] s hR fun ρ' τ' aρ aτ => good_of (h ρ' τ' aρ aτ) (hp ρ' τ' aρ aτ) fun T' m' s' hs ho => hQ ρ' τ' T' m' s' aρ aτ hs ho
/-! ## The top's objects -/
noncomputable def ent (P : Params) (n : Str) (t : Nat) (v : Value) : DictEntry := ⟨PyData.keyHash P n, .str n t, v⟩
noncomputable def glob (P : Params) : Obj :=
  { cls := .type "dict", data := .dict #[
      ent P ⟨#[95, 95, 110, 97, 109, 101, 95, 95]⟩ 165 (.str ⟨#[108, 97, 119, 95, 112, 104, 48, 48, 48, 49, 95, 48, 49]⟩ 221),
      ent P ⟨#[95, 95, 100, 111, 99, 95, 95]⟩ 166 (.none),
      ent P ⟨#[95, 95, 112, 97, 99, 107, 97, 103, 101, 95, 95]⟩ 167 (.none),
      ent P ⟨#[95, 95, 108, 111, 97, 100, 101, 114, 95, 95]⟩ 168 (.builtin "__main__.__loader__#opaque"),
      ent P ⟨#[95, 95, 115, 112, 101, 99, 95, 95]⟩ 169 (.none),
      ent P ⟨#[95, 95, 97, 110, 110, 111, 116, 97, 116, 105, 111, 110, 115, 95, 95]⟩ 170 (.ref 6),
      ent P ⟨#[95, 95, 98, 117, 105, 108, 116, 105, 110, 115, 95, 95]⟩ 171 (.ref 4),
      ent P ⟨#[95, 95, 102, 105, 108, 101, 95, 95]⟩ 173 (.str ⟨#[47, 99, 108, 97, 105, 109, 47, 99, 117, 116, 46, 112, 121]⟩ 172),
      ent P ⟨#[95, 95, 99, 97, 99, 104, 101, 100, 95, 95]⟩ 174 (.none),
      ent P ⟨#[95, 105, 116, 101, 114, 95, 101, 115, 99, 97, 112, 101, 100, 95, 99, 104, 97, 114, 115]⟩ 198 (.ref 21),
      ent P ⟨#[95, 115, 116, 114, 105, 112, 95, 113, 117, 111, 116, 101, 100, 95, 114, 101, 97, 108, 110, 97, 109, 101, 115]⟩ 210 (.ref 28),
      ent P ⟨#[95, 99, 104, 101, 99, 107, 95, 112, 97, 114, 101, 110, 116, 104, 101, 115, 105, 115]⟩ 220 (.ref 35),
      ent P ⟨#[95, 108, 97, 119, 95, 115, 116, 97, 114, 116]⟩ 228 (.ref 40),
      ent P ⟨#[95, 108, 97, 119, 95, 116, 101, 120, 116]⟩ 234 (.ref 45),
      ent P ⟨#[95, 108, 97, 119, 95, 109, 97, 116, 101]⟩ 243 (.ref 52),
      ent P ⟨#[95, 108, 97, 119, 95, 115, 108, 105, 100, 101]⟩ 249 (.ref 57),
      ent P ⟨#[95, 108, 97, 119, 95, 112, 108, 97, 99, 101, 115]⟩ 255 (.ref 62),
      ent P ⟨#[95, 108, 97, 119, 95, 101, 109, 112, 116, 105, 101, 100]⟩ 268 (.ref 69),
      ent P ⟨#[108, 97, 119]⟩ 279 (.ref 76)] 19 }
noncomputable def statics : Obj := { cls := .none, data := .dict #[] }
noncomputable def modName : Nat → Value
  | 0 => .str ⟨#[99, 112, 121, 51, 49, 51, 46, 101, 109, 97, 105, 108, 46, 117, 116, 105, 108, 115]⟩ 187
  | _ => .str ⟨#[108, 97, 119, 95, 112, 104, 48, 48, 48, 49, 95, 48, 49]⟩ 221
/-- the i-th statement's function, its code object at c -/
noncomputable def fdAt (i c md : Nat) : FuncData := match PySem.Challenge.pw_ph0001_01.main.body[i]? with
  | some (.FunctionDef name args body _ _ _ scope _ _ _) => { name := name, qualname := name, params := args, body := .stmts body, scope := scope, globals := 3, closure := [], defaults := .none, kwdefaults := .none, pyModule := modName md, code := .ref c }
  | _ => default
noncomputable def fnAt (i c md : Nat) : Obj := { cls := .type "function", data := .func (fdAt i c md) }
noncomputable def look : List (Nat × Obj) → Nat → Option Obj
  | [], _ => none
  | p :: l, a => match Nat.beq p.1 a with
    | true => some p.2
    | false => look l a
noncomputable def bltns (P : Params) : Obj := PySem.W.boot_o_0 P
noncomputable def topR (P : Params) : List (Nat × Obj) := [(3, glob P), (2, statics), (45, fnAt 6 44 1), (52, fnAt 7 51 1), (57, fnAt 8 56 1), (62, fnAt 9 61 1), (35, fnAt 3 34 0), (28, fnAt 2 27 0), (21, fnAt 1 20 0), (69, fnAt 10 68 1), (40, fnAt 5 39 1), (76, fnAt 11 75 1)]
noncomputable def kr (P : Params) : Nat → Option Obj := look (topR P)
lay_quick Mine.kr
/-- the builtins' own object is not laid: its law alone would weigh more than all of the walk -/
noncomputable def withB (k : Params → Nat → Option Obj) (P : Params) (a : Nat) : Option Obj := match Nat.beq 0 a with
  | true => some (bltns P)
  | false => k P a
noncomputable def kt : Params → Nat → Option Obj := withB kr
/-! ## Rules for a generator's body -/
section
variable {M : Model} {A : Around} {R : GenEnd} {Y : Protocol} {n : Nat} {s₀ : Shared} {c : Code} {fs : List Frame} {s : Shared} {env : Env}
  {K : Flow → Sem Fin} {H : Value → Sem Fin} {gd : Bool → Bool} {lv : List Value → List Value}
theorem seg_stmt {st : Stmt} (h : wpAny M (A.over c fs) (exec st env) (fun f s' => Seg M A R Y n s₀ c (K f) fs s') (fun _ _ => False) s) :
    Seg M A R Y n s₀ c ((exec st env).wrap K H gd lv) fs s := seg_wrap (wpAny_mono h (fun _ _ x => x) fun _ _ x => x.elim)
theorem seg_If {test : Expr} {body orelse : List Stmt} {pos : Pos}
    (h : wpAny M (A.over c fs) (isTrue test env (eval test env)) (fun b s' => Seg M A R Y n s₀ c ((execs (if b then body else orelse) env).wrap K H gd lv) fs s') (fun _ _ => False) s) :
    Seg M A R Y n s₀ c ((exec (.If test body orelse pos) env).wrap K H gd lv) fs s := by
  rw [exec_If]
  show Seg M A R Y n s₀ c (.at pos fun _ => (isTrue test env (eval test env) >>= fun b => if b = true then execs body env else execs orelse env).wrap K H gd lv) fs s
  refine seg_at ?_
  rw [Sem.bind_eq_wrap', Sem.wrap_wrap]
  refine seg_wrap (wpAny_mono h (fun b s' h' => ?_) fun _ _ x => x.elim)
  cases b <;> exact h'
theorem seg_For {target iter : Expr} {body orelse : List Stmt} {pos : Pos}
    (h : wpAny M (A.over c fs) (eval iter env) (fun xv s₁ => wpAny M (A.over c fs) (pyIter xv) (fun it s₂ => ∀ p (k : Result → Sem Fin), (∀ f, k (.ok f) = K f) →
      Seg M A R Y n s₀ (.forLoop target it body orelse env) (M.den (.forLoop target it body orelse env)) (.ret k none (gd false) (lv []) c p [] :: fs) s₂) (fun _ _ => False) s₁) (fun _ _ => False) s)
    (hs : ∀ x, foldedSetIterable iter env x = pure x) :
    Seg M A R Y n s₀ c ((exec (.For target iter body orelse pos) env).wrap K H gd lv) fs s := by
  rw [exec_For]
  show Seg M A R Y n s₀ c (.at pos fun _ => (eval iter env >>= fun xv => foldedSetIterable iter env xv >>= fun x => standAt iter.pos >>= fun _ => holding [x] (pyIter x) >>= fun it => runOwn (.forLoop target it body orelse env) env).wrap K H gd lv) fs s
  refine seg_at ?_
  rw [Sem.bind_eq_wrap', Sem.wrap_wrap]
  refine seg_wrap (wpAny_mono h (fun xv s₁ h₁ => ?_) fun _ _ x => x.elim)
  rw [hs xv]
  show Seg M A R Y n s₀ c (.at iter.pos fun _ => (holding [xv] (pyIter xv) >>= fun it => runOwn (.forLoop target it body orelse env) env).wrap K H gd lv) fs s₁
  refine seg_at ?_
  rw [Sem.bind_eq_wrap', Sem.wrap_wrap]
  refine seg_wrap (wpAny_holding (wpAny_mono h₁ (fun it s₂ h₂ => ?_) fun _ _ x => x.elim))
  exact seg_call fun p => h₂ p _ fun f => rfl
end
section
variable {prog : Program} {w : World} {A : Around} {R : GenEnd} {Y : Protocol} {n : Nat} {s₀ : Shared} {fs : List Frame} {s : Shared} {env : Env}
theorem seg_forLoop {target : Expr} {it : Value} {body orelse : List Stmt}
    (h : wpAny (model prog w) (A.over (.forLoop target it body orelse env) fs) (pyNext it) (fun r s₁ => match r with
      | none => Seg (model prog w) A R Y n s₀ (.block orelse env) ((model prog w).den (.block orelse env)) fs s₁
      | some v => wpAny (model prog w) (A.over (.forLoop target it body orelse env) fs) (letOwnedTupleGo target it v) (fun _ s₂ =>
          wpAny (model prog w) (A.over (.forLoop target it body orelse env) fs) (assign target env v) (fun _ s₃ => ∀ H : Value → Sem Fin,
            Seg (model prog w) A R Y n s₀ (.forLoop target it body orelse env) ((execs body env).wrap (fun f => match f with
              | .next | .cont => .pure (.again (.forLoop target it body orelse env))
              | .brk => .pure (.done .next)
              | .ret v => .pure (.done (.ret v))) H id id) fs s₃) (fun _ _ => False) s₂) (fun _ _ => False) s₁) (fun _ _ => False) s) :
    Seg (model prog w) A R Y n s₀ (.forLoop target it body orelse env) ((model prog w).den (.forLoop target it body orelse env)) fs s := by
  show Seg _ A R Y n s₀ _ ((forTurn target it body orelse env).onRaise (fun x => do noteFrame x env; theTreesLotGoes x)) fs s
  unfold forTurn
  rw [Sem.onRaise_eq_wrap]
  show Seg _ A R Y n s₀ _ (.at target.pos fun _ => (((pyNext it).onRaise fun _ => standAt { target.pos with line := 0 }) >>= fun r => match r with
    | none => again (.block orelse env)
    | some v => letOwnedTupleGo target it v >>= fun _ => assign target env v >>= fun _ => execs body env >>= fun f => match f with
      | .next | .cont => again (.forLoop target it body orelse env)
      | .brk => pure (.done .next)
      | .ret v => pure (.done (.ret v))).wrap Sem.pure _ id id) fs s
  refine seg_at ?_
  rw [Sem.bind_eq_wrap', Sem.wrap_wrap]
  refine seg_wrap (wpAny_onRaise (wpAny_mono h (fun r s₁ h₁ => ?_) fun _ _ x => x.elim))
  cases r with
  | none => exact seg_again rfl h₁
  | some v =>
    show Seg _ A R Y n s₀ _ (Sem.wrap Sem.pure _ id id (letOwnedTupleGo target it v >>= fun _ => assign target env v >>= fun _ => execs body env >>= fun f => _)) fs s₁
    rw [Sem.bind_eq_wrap', Sem.wrap_wrap]
    refine seg_wrap (wpAny_mono h₁ (fun _ s₂ h₂ => ?_) fun _ _ x => x.elim)
    rw [Sem.bind_eq_wrap', Sem.wrap_wrap]
    refine seg_wrap (wpAny_mono h₂ (fun _ s₃ h₃ => ?_) fun _ _ x => x.elim)
    rw [Sem.bind_eq_wrap', Sem.wrap_wrap]
    rw [Sem.wrap_congr (execs body env) _ _ (K' := fun f => match f with
      | .next | .cont => .pure (.again (.forLoop target it body orelse env))
      | .brk => .pure (.done .next)
      | .ret v => .pure (.done (.ret v))) (fun f => by cases f <;> rfl) (fun e => rfl)]
    exact h₃ _
theorem seg_block_nil (h : Seg (model prog w) A R Y n s₀ (.block [] env) (.pure (.done .next)) fs s) : Seg (model prog w) A R Y n s₀ (.block [] env) ((model prog w).den (.block [] env)) fs s := h
end
/-! ## The text's parts, by their places -/
noncomputable def bodyOf (i : Nat) : List Stmt := match PySem.Challenge.pw_ph0001_01.main.body[i]? with
  | some (.FunctionDef _ _ body _ _ _ _ _ _ _) => body
  | _ => []
/-- a frame of the i-th statement's function -/
noncomputable def envOf (i fa c : Nat) (L : Addr) : Env := { scope := (fdAt i c 0).scope, locals := L, globals := 3, cells := [], qual := (fdAt i c 0).qualname ++ (⟨#[46, 60, 108, 111, 99, 97, 108, 115, 62, 46]⟩ : Str), func := some fa, code := .ref c, frame := some L, builtins := 0 }
/-- a frame's object -/
noncomputable def fro (P : Params) (es : List (Str × Nat × Value)) : Obj := { cls := .type "frame", data := .dict (es.map fun e => ent P e.1 e.2.1 e.2.2).toArray es.length }
noncomputable def nAddr : Str := ⟨#[97, 100, 100, 114]⟩
noncomputable def nPos : Str := ⟨#[112, 111, 115]⟩
noncomputable def nEscape : Str := ⟨#[101, 115, 99, 97, 112, 101]⟩
noncomputable def nCh : Str := ⟨#[99, 104]⟩

structure GParts where
  b0 : Stmt
  b1 : Stmt
  tgt : Expr
  iter : Expr
  test : Expr
  e1 : Expr
  y1 : Pos
  p1 : Pos
  sF : Stmt
  cmp : Expr
  sT : Stmt
  e2 : Expr
  y2 : Pos
  p2 : Pos
  p3 : Pos
  p4 : Pos
  pf : Pos
  b3 : Stmt
noncomputable def gParts : GParts := match bodyOf 1 with
  | [b0, b1, .For tgt iter [.If test [.Expr (.Yield (some e1) y1) p1, sF] [.If cmp [sT] [.Expr (.Yield (some e2) y2) p2] p3] p4] [] pf, b3] => ⟨b0, b1, tgt, iter, test, e1, y1, p1, sF, cmp, sT, e2, y2, p2, p3, p4, pf, b3⟩
  | _ => ⟨default, default, default, default, default, default, default, default, default, default, default, default, default, default, default, default, default, default⟩
noncomputable def gLoop : List Stmt := [.If gParts.test [.Expr (.Yield (some gParts.e1) gParts.y1) gParts.p1, gParts.sF] [.If gParts.cmp [gParts.sT] [.Expr (.Yield (some gParts.e2) gParts.y2) gParts.p2] gParts.p3] gParts.p4]
theorem gBody_eq : bodyOf 1 = [gParts.b0, gParts.b1, .For gParts.tgt gParts.iter gLoop [] gParts.pf, gParts.b3] := by kernel_rfl!
/-! ## What a run leans on -/
noncomputable abbrev ktQ : Params → Nat → Option Obj := withB PySem.W.Fast.tw1232469805266859516
theorem ktQ_eq : kt = ktQ := congrArg withB PySem.W.Fast.te1232469805266859516
/-- a plain function's place: address, statement, code, module -/
noncomputable def fnL : List (Nat × Nat × Nat × Nat) := [(45, 6, 44, 1), (52, 7, 51, 1), (57, 8, 56, 1), (62, 9, 61, 1), (69, 10, 68, 1), (40, 5, 39, 1), (76, 11, 75, 1), (28, 2, 27, 0), (35, 3, 34, 0), (21, 1, 20, 0)]
structure TopK (P : Params) (K : Addr → Option Obj) : Prop where
  kt : ∀ a o, kt P a = some o → K a = some o
  code : ∀ q ∈ fnL, ∀ h, Ext K h → h.CodeRec (.ref q.2.2.1) (fdAt q.2.1 q.2.2.1 q.2.2.2).qualname
theorem TopK.mono {P : Params} {K K' : Addr → Option Obj} (x : TopK P K) (h : ∀ b o, K b = some o → K' b = some o) : TopK P K' :=
  ⟨fun a o e => h _ _ (x.kt a o e), fun q hq hp he => x.code q hq hp fun b o e => he b o (h b o e)⟩
theorem TopK.lim {P : Params} {K : Addr → Option Obj} (x : TopK P K) (h : Heap) (e : Ext K h) : h.NoLimit := by
  have h2 : h.get? 2 = some statics := e _ _ (x.kt 2 statics rfl)
  refine ⟨fun _ => none, ?_, rfl⟩
  exact ⟨statics, #[], 0, h2, rfl, fun _ h => by simp at h, fun _ => rfl⟩
noncomputable def fnB (fa : Nat) : Bool := Nat.beq fa 45 || Nat.beq fa 62 || Nat.beq fa 57 || Nat.beq fa 52 || Nat.beq fa 69 || Nat.beq fa 40 || Nat.beq fa 76 || Nat.beq fa 28 || Nat.beq fa 35
theorem fn_ok {P : Params} {K : Addr → Option Obj} (x : TopK P K) (fa : Nat) (h : fnB fa = true) : FnOk K (kt P) fa := by
  have one : ∀ i c md, (fa, i, c, md) ∈ fnL → kt P fa = some (fnAt i c md) → (fdAt i c md).scope.isCoroutine = false → (fdAt i c md).scope.isGenerator = false → (fdAt i c md).code = .ref c → FnOk K (kt P) fa := by
    intro i c md hm hk h1 h2 h3 o fd body e1 e2 e3
    rw [hk] at e1
    cases e1
    cases e2
    exact ⟨h1, h2, fun hp he => by rw [h3]; exact x.code _ hm hp he⟩
  simp only [fnB, Bool.or_eq_true] at h
  rcases h with (((((((h | h) | h) | h) | h) | h) | h) | h) | h <;> (have := Nat.eq_of_beq_eq_true h; subst this)
  · exact one 6 44 1 (by decide) (by kernel_rfl!) (by kernel_rfl!) (by kernel_rfl!) (by kernel_rfl!)
  · exact one 9 61 1 (by decide) (by kernel_rfl!) (by kernel_rfl!) (by kernel_rfl!) (by kernel_rfl!)
  · exact one 8 56 1 (by decide) (by kernel_rfl!) (by kernel_rfl!) (by kernel_rfl!) (by kernel_rfl!)
  · exact one 7 51 1 (by decide) (by kernel_rfl!) (by kernel_rfl!) (by kernel_rfl!) (by kernel_rfl!)
  · exact one 10 68 1 (by decide) (by kernel_rfl!) (by kernel_rfl!) (by kernel_rfl!) (by kernel_rfl!)
  · exact one 5 39 1 (by decide) (by kernel_rfl!) (by kernel_rfl!) (by kernel_rfl!) (by kernel_rfl!)
  · exact one 11 75 1 (by decide) (by kernel_rfl!) (by kernel_rfl!) (by kernel_rfl!) (by kernel_rfl!)
  · exact one 2 27 0 (by decide) (by kernel_rfl!) (by kernel_rfl!) (by kernel_rfl!) (by kernel_rfl!)
  · exact one 3 34 0 (by decide) (by kernel_rfl!) (by kernel_rfl!) (by kernel_rfl!) (by kernel_rfl!)
noncomputable def noHk : Hk := fun _ _ _ _ _ _ _ _ _ => none
theorem noHk_loc : HLoc noHk := ⟨fun h => (nomatch h), fun h => (nomatch h), fun h => (nomatch h)⟩
theorem noHk_ok (prog : Program) (w : World) (B : Bs) (r : Nat) : HOk prog w B r noHk := fun c T m i orc ad ps ρ τ s A Q _ _ _ h => by
  obtain ⟨o, ho, _⟩ := h ρ τ (Agree.refl ρ m) (Agree.refl τ i)
  cases ho
noncomputable def GH (h : Nat) (P : Params) (r : Nat) (H : Nat → Hk) : EG := { g := ⟨PySem.Challenge.pw_ph0001_01, P⟩, kt := ktQ P, r := r, fn := fnB, H := H, h := h }
noncomputable abbrev GG (P : Params) (r : Nat) (H : Nat → Hk) : EG := GH 200 P r H
noncomputable abbrev pw : Program := PySem.Challenge.pw_ph0001_01
theorem gokH {α : Type} {w : World} {A : Around} {Q : α → Shared → Prop} {E : Value → Shared → Prop} {B : Bs} {r h : Nat} {H : Nat → Hk} (x : TopK w.params B.K) (hh : A.handled = none) (h2 : 200 ≤ h) (hd : A.depth + 100 + h < recursionLimit)
    (hl : ∀ n, HLoc (H n)) (hk : ∀ n, HOkH pw w B r h (H n)) : GOk ⟨pw, w, A, Q, E, B⟩ (GH h w.params r H) where
  g := rfl
  kt := fun a o e => x.kt a o (by rw [ktQ_eq]; exact e)
  lim := x.lim
  fn := fun fa h => by
    have := fn_ok x fa h
    rw [ktQ_eq] at this
    exact this
  hl := hl
  hk := hk
  hh := hh
  h200 := h2
  room := hd
theorem gok {α : Type} {w : World} {A : Around} {Q : α → Shared → Prop} {E : Value → Shared → Prop} {B : Bs} {r : Nat} {H : Nat → Hk} (x : TopK w.params B.K) (hh : A.handled = none) (hd : A.depth + 300 < recursionLimit)
    (hl : ∀ n, HLoc (H n)) (hk : ∀ n, HOk pw w B r (H n)) : GOk ⟨pw, w, A, Q, E, B⟩ (GG w.params r H) := gokH x hh (Nat.le_refl _) (by omega) hl hk
theorem exec_eq (st : Stmt) (env : Env) : exec st env = execs [st] env := by
  rw [execs_cons]
  have : (fun f : Flow => match f with | .next => execs [] env | f => pure f) = pure := by funext f; cases f <;> rfl
  exact ((congrArg (fun k => exec st env >>= k) this).trans (bind_pure _)).symm
noncomputable def adr (l : List Addr) : Nat → Nat := fun i => l.getD i 0
/-- a run from a list of addresses; the first r are read alone -/
theorem engF {α : Type} {w : World} {A : Around} {Q : α → Shared → Prop} {E : Value → Shared → Prop} {B : Bs} {H : Nat → Hk} {s : Shared} (r n : Nat) (as : List Addr) (t : (Nat → Nat) → Sem α) (os : (Nat → Nat) → List Obj) (orc : Nat)
    (js : List Nat) (a : (Nat → Nat) → (Nat → Nat) → α) (ps : (Nat → Nat) → (Nat → Nat) → List Prop) (out : (Nat → Nat) → (Nat → Nat) → List (Option Obj))
    (x : TopK w.params B.K) (hh : A.handled = none) (hd : A.depth + 300 < recursionLimit) (hl : ∀ n, HLoc (H n)) (hk : ∀ n, HOk pw w B r (H n))
    (hR : Rep B r (adr as) (mkT (os (adr as))) as.length s)
    (ht : ∀ ρ', Agree (adr as) ρ' as.length → t ρ' = t (adr as)) (hos : ∀ ρ', Agree (adr as) ρ' as.length → os ρ' = os (adr as))
    (h : ∀ ρ τ, (runE (GG w.params r H) ρ τ n (.top (t ρ)) (mkT (os ρ)) as.length 0 orc [] []).said js = (some (a ρ τ), (runE (GG w.params r H) ρ τ n (.top (t ρ)) (mkT (os ρ)) as.length 0 orc [] []).owed, ps ρ τ, out ρ τ))
    (hp : ∀ ρ τ, Agree (adr as) ρ as.length → AllP (ps ρ τ))
    (hQ : ∀ ρ τ T m s', Agree (adr as) ρ as.length → Rep B r ρ T m s' → js.map T.get = out ρ τ → Q (a ρ τ) s') : wpAny (model pw w) A (t (adr as)) Q E s := by
  refine eng (G := GG w.params r H) (gok x hh hd hl hk) n (t := t (adr as)) (T := mkT (os (adr as))) (m := as.length) (i := 0) (orc := orc) (ρ := adr as) (τ := fun _ => 0) js a ps out hR ?_ (fun ρ' τ' aρ _ => hp ρ' τ' aρ) (fun ρ' τ' T' m' s' aρ _ => hQ ρ' τ' T' m' s' aρ)
  intro ρ' τ' aρ _
  have := h ρ' τ'
  rw [ht ρ' aρ, hos ρ' aρ] at this
  exact this

/-- the same, more room for hooks -/
theorem engH {α : Type} {w : World} {A : Around} {Q : α → Shared → Prop} {E : Value → Shared → Prop} {B : Bs} {H : Nat → Hk} {s : Shared} (h r n : Nat) (as : List Addr) (t : (Nat → Nat) → Sem α) (os : (Nat → Nat) → List Obj) (orc : Nat)
    (js : List Nat) (a : (Nat → Nat) → (Nat → Nat) → α) (ps : (Nat → Nat) → (Nat → Nat) → List Prop) (out : (Nat → Nat) → (Nat → Nat) → List (Option Obj))
    (x : TopK w.params B.K) (hh : A.handled = none) (h2 : 200 ≤ h) (hd : A.depth + 100 + h < recursionLimit) (hl : ∀ n, HLoc (H n)) (hk : ∀ n, HOkH pw w B r h (H n))
    (hR : Rep B r (adr as) (mkT (os (adr as))) as.length s)
    (ht : ∀ ρ', Agree (adr as) ρ' as.length → t ρ' = t (adr as)) (hos : ∀ ρ', Agree (adr as) ρ' as.length → os ρ' = os (adr as))
    (hrun : ∀ ρ τ, (runE (GH h w.params r H) ρ τ n (.top (t ρ)) (mkT (os ρ)) as.length 0 orc [] []).said js = (some (a ρ τ), (runE (GH h w.params r H) ρ τ n (.top (t ρ)) (mkT (os ρ)) as.length 0 orc [] []).owed, ps ρ τ, out ρ τ))
    (hp : ∀ ρ τ, Agree (adr as) ρ as.length → AllP (ps ρ τ))
    (hQ : ∀ ρ τ T m s', Agree (adr as) ρ as.length → Rep B r ρ T m s' → js.map T.get = out ρ τ → Q (a ρ τ) s') : wpAny (model pw w) A (t (adr as)) Q E s := by
  refine eng (G := GH h w.params r H) (gokH x hh h2 hd hl hk) n (t := t (adr as)) (T := mkT (os (adr as))) (m := as.length) (i := 0) (orc := orc) (ρ := adr as) (τ := fun _ => 0) js a ps out hR ?_ (fun ρ' τ' aρ _ => hp ρ' τ' aρ) (fun ρ' τ' T' m' s' aρ _ => hQ ρ' τ' T' m' s' aρ)
  intro ρ' τ' aρ _
  have := hrun ρ' τ'
  rw [ht ρ' aρ, hos ρ' aρ] at this
  exact this
/-- all of a heap but some objects -/
noncomputable def butL (h : Heap) (as : List Addr) : Addr → Option Obj := fun b => if b ∈ as then none else h.get? b
theorem butL_in {h : Heap} {as : List Addr} {b : Addr} (q : b ∈ as) : butL h as b = none := if_pos q
theorem butL_out {h : Heap} {as : List Addr} {b : Addr} (q : b ∉ as) : butL h as b = h.get? b := if_neg q
theorem butL_some {h : Heap} {as : List Addr} {b : Addr} {o : Obj} (e : butL h as b = some o) : b ∉ as ∧ h.get? b = some o := by
  unfold butL at e
  by_cases q : b ∈ as
  · rw [if_pos q] at e; cases e
  · rw [if_neg q] at e; exact ⟨q, e⟩
theorem butL_ext (h : Heap) (as : List Addr) : Ext (butL h as) h := fun _ _ e => (butL_some e).2
theorem top_butL {P : Params} {K : Addr → Option Obj} {h : Heap} {as : List Addr} (x : TopK P K) (e : Ext K h) (n : ∀ a ∈ as, K a = none) : TopK P (butL h as) :=
  x.mono fun b o q => by
    have : b ∉ as := fun z => by rw [n b z] at q; cases q
    rw [butL_out this]; exact e b o q
theorem adr_mem {as : List Addr} {i : Nat} (h : i < as.length) : adr as i ∈ as := by
  unfold adr
  rw [List.getD_eq_getElem?_getD, List.getElem?_eq_getElem h]
  exact List.getElem_mem h
theorem adr_inj {as : List Addr} (nd : as.Nodup) {i j : Nat} (hi : i < as.length) (hj : j < as.length) (e : adr as i = adr as j) : i = j := by
  unfold adr at e
  rw [List.getD_eq_getElem?_getD, List.getD_eq_getElem?_getD, List.getElem?_eq_getElem hi, List.getElem?_eq_getElem hj] at e
  exact (List.getElem_inj nd).mp e
/-- a run that may change the objects named -/
theorem runL {α : Type} {w : World} {A : Around} {Q : α → Shared → Prop} {E : Value → Shared → Prop} {H : Nat → Hk} {s : Shared} (GP : Array GenState → Prop) (h n : Nat) (as : List Addr) (t : (Nat → Nat) → Sem α) (os : (Nat → Nat) → List Obj) (orc : Nat)
    (js : List Nat) (a : (Nat → Nat) → (Nat → Nat) → α) (ps : (Nat → Nat) → (Nat → Nat) → List Prop) (out : (Nat → Nat) → (Nat → Nat) → List (Option Obj))
    (x : TopK w.params (butL s.heap as)) (hh : A.handled = none) (h2 : 200 ≤ h) (hd : A.depth + 100 + h < recursionLimit) (hl : ∀ n, HLoc (H n)) (hk : ∀ n, HOkH pw w ⟨butL s.heap as, GP, s.os⟩ 0 h (H n))
    (hg : GP s.gens) (nd : as.Nodup) (hlen : (os (adr as)).length = as.length) (hob : ∀ i o, (os (adr as))[i]? = some o → s.heap.get? (adr as i) = some o)
    (ht : ∀ ρ', Agree (adr as) ρ' as.length → t ρ' = t (adr as)) (hos : ∀ ρ', Agree (adr as) ρ' as.length → os ρ' = os (adr as))
    (hrun : ∀ ρ τ, (runE (GH h w.params 0 H) ρ τ n (.top (t ρ)) (mkT (os ρ)) as.length 0 orc [] []).said js = (some (a ρ τ), (runE (GH h w.params 0 H) ρ τ n (.top (t ρ)) (mkT (os ρ)) as.length 0 orc [] []).owed, ps ρ τ, out ρ τ))
    (hp : ∀ ρ τ, Agree (adr as) ρ as.length → AllP (ps ρ τ))
    (hQ : ∀ ρ τ T m s', Agree (adr as) ρ as.length → Rep ⟨butL s.heap as, GP, s.os⟩ 0 ρ T m s' → js.map T.get = out ρ τ → (∀ b ob, b ∉ as → s.heap.get? b = some ob → s'.heap.get? b = some ob) → GP s'.gens → s'.os = s.os → Q (a ρ τ) s') : wpAny (model pw w) A (t (adr as)) Q E s := by
  refine engH (B := ⟨butL s.heap as, GP, s.os⟩) h 0 n as t os orc js a ps out x hh h2 hd hl hk ?_ ht hos hrun hp fun ρ τ T m s' aρ R e => hQ ρ τ T m s' aρ R e (fun b ob q e' => R.keep b ob ((butL_out q).trans e')) R.gens R.os
  rw [← hlen]
  exact Rep.make 0 _ _ (butL_ext _ _) hg rfl hob (fun i _ hi => butL_in (adr_mem (by omega))) (fun i j _ hi hj q => adr_inj nd (by omega) (by omega) q)
/-- all of a heap but one object -/
noncomputable def but (h : Heap) (L : Addr) : Addr → Option Obj := fun b => if b = L then none else h.get? b
theorem but_self (h : Heap) (L : Addr) : but h L L = none := if_pos rfl
theorem but_ne {h : Heap} {L b : Addr} (q : b ≠ L) : but h L b = h.get? b := if_neg q
theorem but_some {h : Heap} {L b : Addr} {o : Obj} (e : but h L b = some o) : b ≠ L ∧ h.get? b = some o := by
  unfold but at e
  by_cases q : b = L
  · rw [if_pos q] at e; cases e
  · rw [if_neg q] at e; exact ⟨q, e⟩
theorem but_ext (h : Heap) (L : Addr) : Ext (but h L) h := fun _ _ e => (but_some e).2
noncomputable def bsBut (s : Shared) (L : Addr) : Bs := ⟨but s.heap L, (· = s.gens), s.os⟩
noncomputable def noH : Nat → Hk := fun _ => noHk
theorem noH_loc (n : Nat) : HLoc (noH n) := noHk_loc
theorem noH_ok (w : World) (B : Bs) (r n : Nat) : HOk pw w B r (noH n) := noHk_ok pw w B r

/-- a run that changes one object alone, no other looked at -/
theorem one_run {α : Type} {w : World} {A : Around} {Q : α → Shared → Prop} {E : Value → Shared → Prop} {s : Shared} (n : Nat) (L : Addr) (t : Addr → Sem α) (o : Obj) (orc : Nat) (a : (Nat → Nat) → (Nat → Nat) → α) (o' : (Nat → Nat) → (Nat → Nat) → Obj)
    (x : TopK w.params (but s.heap L)) (hh : A.handled = none) (hd : A.depth + 300 < recursionLimit) (hL : s.heap.get? L = some o)
    (h : ∀ ρ τ, (runE (GG w.params 0 noH) ρ τ n (.top (t (ρ 0))) (mkT [o]) 1 0 orc [] []).said [0] = (some (a ρ τ), (runE (GG w.params 0 noH) ρ τ n (.top (t (ρ 0))) (mkT [o]) 1 0 orc [] []).owed, [], [some (o' ρ τ)]))
    (hQ : ∀ ρ τ s', ρ 0 = L → s'.heap.get? L = some (o' ρ τ) → (∀ b ob, b ≠ L → s.heap.get? b = some ob → s'.heap.get? b = some ob) → s'.gens = s.gens → s'.os = s.os → Q (a ρ τ) s') : wpAny (model pw w) A (t L) Q E s := by
  refine engF (B := bsBut s L) (H := noH) 0 n [L] (fun ρ => t (ρ 0)) (fun _ => [o]) orc [0] a (fun _ _ => []) (fun ρ τ => [some (o' ρ τ)]) x hh hd noH_loc (noH_ok w _ 0) ?_ (fun ρ' aρ => ?_) (fun _ _ => rfl) h (fun _ _ _ => trivial) fun ρ τ T m s' aρ R e => ?_
  · refine Rep.make 0 _ [o] (but_ext _ _) rfl rfl (fun i ob e => ?_) (fun i _ hi => ?_) (fun i j _ hi hj _ => ?_)
    · cases i with
      | zero => cases e; exact hL
      | succ i => cases e
    · have : i = 0 := by simp at hi; exact hi
      subst this; exact but_self _ _
    · simp at hi hj; rw [hi, hj]
  · show t (ρ' 0) = t (adr [L] 0)
    rw [aρ 0 (Nat.zero_lt_one)]
  · have e0 : ρ 0 = L := aρ 0 (Nat.zero_lt_one)
    have g0 : T.get 0 = some (o' ρ τ) := by simpa using e
    refine hQ ρ τ s' e0 (by rw [← e0]; exact (R.own 0 _ g0).2) (fun b ob q e' => R.keep b ob (by show but s.heap L b = _; rw [but_ne q]; exact e')) R.gens R.os
/-- a run that changes one object, another looked at -/
theorem two_run {α : Type} {w : World} {A : Around} {Q : α → Shared → Prop} {E : Value → Shared → Prop} {s : Shared} (n : Nat) (U L : Addr) (t : Addr → Addr → Sem α) (u o : Obj) (orc : Nat) (a : (Nat → Nat) → (Nat → Nat) → α) (o' : (Nat → Nat) → (Nat → Nat) → Obj)
    (x : TopK w.params (but s.heap L)) (hh : A.handled = none) (hd : A.depth + 300 < recursionLimit) (hU : s.heap.get? U = some u) (hL : s.heap.get? L = some o) (hne : L ≠ U)
    (h : ∀ ρ τ, (runE (GG w.params 1 noH) ρ τ n (.top (t (ρ 0) (ρ 1))) (mkT [u, o]) 2 0 orc [] []).said [1] = (some (a ρ τ), (runE (GG w.params 1 noH) ρ τ n (.top (t (ρ 0) (ρ 1))) (mkT [u, o]) 2 0 orc [] []).owed, [], [some (o' ρ τ)]))
    (hQ : ∀ ρ τ s', ρ 0 = U → ρ 1 = L → s'.heap.get? L = some (o' ρ τ) → (∀ b ob, b ≠ L → s.heap.get? b = some ob → s'.heap.get? b = some ob) → s'.gens = s.gens → s'.os = s.os → Q (a ρ τ) s') : wpAny (model pw w) A (t U L) Q E s := by
  refine engF (B := bsBut s L) (H := noH) 1 n [U, L] (fun ρ => t (ρ 0) (ρ 1)) (fun _ => [u, o]) orc [1] a (fun _ _ => []) (fun ρ τ => [some (o' ρ τ)]) x hh hd noH_loc (noH_ok w _ 1) ?_ (fun ρ' aρ => ?_) (fun _ _ => rfl) h (fun _ _ _ => trivial) fun ρ τ T m s' aρ R e => ?_
  · refine Rep.make 1 _ [u, o] (but_ext _ _) rfl rfl (fun i ob e => ?_) (fun i h1 hi => ?_) (fun i j h1 hi hj q => ?_)
    · match i, e with
      | 0, e => cases e; exact hU
      | 1, e => cases e; exact hL
      | i + 2, e => cases e
    · have : i = 1 := by simp at hi; omega
      subst this; exact but_self _ _
    · have hi1 : i = 1 := by simp at hi; omega
      subst hi1
      match j, hj, q with
      | 0, _, q => exact absurd q hne
      | 1, _, _ => rfl
      | j + 2, hj, _ => exact absurd hj (by simp)
  · show t (ρ' 0) (ρ' 1) = t (adr [U, L] 0) (adr [U, L] 1)
    rw [aρ 0 (by simp), aρ 1 (by simp)]
  · have e0 : ρ 0 = U := aρ 0 (by simp)
    have e1 : ρ 1 = L := aρ 1 (by simp)
    have g1 : T.get 1 = some (o' ρ τ) := by simpa using e
    refine hQ ρ τ s' e0 e1 (by rw [← e1]; exact (R.own 1 _ g1).2) (fun b ob q e' => R.keep b ob (by show but s.heap L b = _; rw [but_ne q]; exact e')) R.gens R.os
/-- a run that leaves its one object and lays another -/
theorem one_new {α : Type} {w : World} {A : Around} {Q : α → Shared → Prop} {E : Value → Shared → Prop} {s : Shared} (n : Nat) (L : Addr) (t : Addr → Sem α) (o : Obj) (orc : Nat) (a : (Nat → Nat) → (Nat → Nat) → α) (o' n' : (Nat → Nat) → (Nat → Nat) → Obj)
    (x : TopK w.params (but s.heap L)) (hh : A.handled = none) (hd : A.depth + 300 < recursionLimit) (hL : s.heap.get? L = some o)
    (h : ∀ ρ τ, (runE (GG w.params 0 noH) ρ τ n (.top (t (ρ 0))) (mkT [o]) 1 0 orc [] []).said [0, 1] = (some (a ρ τ), (runE (GG w.params 0 noH) ρ τ n (.top (t (ρ 0))) (mkT [o]) 1 0 orc [] []).owed, [], [some (o' ρ τ), some (n' ρ τ)]))
    (hQ : ∀ ρ τ s', ρ 0 = L → s'.heap.get? L = some (o' ρ τ) → s'.heap.get? (ρ 1) = some (n' ρ τ) → s.heap.get? (ρ 1) = none → (∀ b ob, b ≠ L → s.heap.get? b = some ob → s'.heap.get? b = some ob) → s'.gens = s.gens → s'.os = s.os → Q (a ρ τ) s') : wpAny (model pw w) A (t L) Q E s := by
  refine engF (B := bsBut s L) (H := noH) 0 n [L] (fun ρ => t (ρ 0)) (fun _ => [o]) orc [0, 1] a (fun _ _ => []) (fun ρ τ => [some (o' ρ τ), some (n' ρ τ)]) x hh hd noH_loc (noH_ok w _ 0) ?_ (fun ρ' aρ => ?_) (fun _ _ => rfl) h (fun _ _ _ => trivial) fun ρ τ T m s' aρ R e => ?_
  · refine Rep.make 0 _ [o] (but_ext _ _) rfl rfl (fun i ob e => ?_) (fun i _ hi => ?_) (fun i j _ hi hj _ => ?_)
    · cases i with
      | zero => cases e; exact hL
      | succ i => cases e
    · have : i = 0 := by simp at hi; exact hi
      subst this; exact but_self _ _
    · simp at hi hj; rw [hi, hj]
  · show t (ρ' 0) = t (adr [L] 0)
    rw [aρ 0 (Nat.zero_lt_one)]
  · have e0 : ρ 0 = L := aρ 0 (Nat.zero_lt_one)
    simp only [List.map_cons, List.map_nil, List.cons.injEq, and_true] at e
    have hn : but s.heap L (ρ 1) = none := R.new 1 _ (Nat.zero_le 1) e.2
    have ne : ρ 1 ≠ L := fun q => by
      have := R.inj 1 0 _ _ (Nat.zero_le 1) e.2 e.1 (q.trans e0.symm)
      cases this
    rw [but_ne ne] at hn
    exact hQ ρ τ s' e0 (by rw [← e0]; exact (R.own 0 _ e.1).2) (R.own 1 _ e.2).2 hn (fun b ob q e' => R.keep b ob (by show but s.heap L b = _; rw [but_ne q]; exact e')) R.gens R.os
/-! ## What hooks take a call apart with; each with its one inversion -/
theorem obind {α β : Type} {x : Option α} {f : α → Option β} {b : β} (h : x.bind f = some b) : ∃ a, x = some a ∧ f a = some b := by
  cases x with
  | none => cases h
  | some a => exact ⟨a, rfl, h⟩
theorem bind_of {α β : Type} {x : Option α} {f : α → Option β} {b : β} (a : α) (h : x = some a) (h' : f a = some b) : x.bind f = some b := by
  subst h; exact h'
noncomputable def lower {α : Type} {P : α → Prop} (x : Option {a // P a}) : Option α := x.bind fun p => some p.1
theorem lower_inv {α : Type} {P : α → Prop} {x : Option {a // P a}} {a : α} (h : lower x = some a) : P a := by
  obtain ⟨p, _, h⟩ := obind h
  cases h
  exact p.2
noncomputable def callOf (c : Code) : Option (Value × Args) := lower (P := fun p => c = .call p.1 p.2) (match c with
  | .call g a => some ⟨(g, a), rfl⟩
  | _ => none)
theorem callOf_inv {c : Code} {p : Value × Args} (h : callOf c = some p) : c = .call p.1 p.2 := lower_inv (P := fun p : Value × Args => c = .call p.1 p.2) h
noncomputable def plainArgs (a : Args) : Option (List Value) := match a with
  | ⟨l, []⟩ => some l
  | _ => none
theorem plainArgs_inv {a : Args} {l : List Value} (h : plainArgs a = some l) : a = ⟨l, []⟩ := by
  obtain ⟨l', k⟩ := a
  cases k with
  | nil => cases h; rfl
  | cons _ _ => cases h
noncomputable def bltOf (v : Value) : Option String := lower (P := fun n => v = .builtin n) (match v with
  | .builtin n => some ⟨n, rfl⟩
  | _ => none)
theorem bltOf_inv {v : Value} {n : String} (h : bltOf v = some n) : v = .builtin n := lower_inv (P := fun n => v = .builtin n) h
noncomputable def refOf (v : Value) : Option Addr := lower (P := fun n => v = .ref n) (match v with
  | .ref n => some ⟨n, rfl⟩
  | _ => none)
theorem refOf_inv {v : Value} {n : Addr} (h : refOf v = some n) : v = .ref n := lower_inv (P := fun n => v = .ref n) h
noncomputable def typOf (v : Value) : Option String := lower (P := fun n => v = .type n) (match v with
  | .type n => some ⟨n, rfl⟩
  | _ => none)
theorem typOf_inv {v : Value} {n : String} (h : typOf v = some n) : v = .type n := lower_inv (P := fun n => v = .type n) h
noncomputable def intOf (v : Value) : Option (Int × Tok) := lower (P := fun p => v = .int p.1 p.2) (match v with
  | .int z t => some ⟨(z, t), rfl⟩
  | _ => none)
theorem intOf_inv {v : Value} {p : Int × Tok} (h : intOf v = some p) : v = .int p.1 p.2 := lower_inv (P := fun p : Int × Tok => v = .int p.1 p.2) h
noncomputable def strOf (v : Value) : Option (Str × Tok) := lower (P := fun p => v = .str p.1 p.2) (match v with
  | .str z t => some ⟨(z, t), rfl⟩
  | _ => none)
theorem strOf_inv {v : Value} {p : Str × Tok} (h : strOf v = some p) : v = .str p.1 p.2 := lower_inv (P := fun p : Str × Tok => v = .str p.1 p.2) h
noncomputable def nonOf (v : Value) : Option Unit := lower (P := fun _ => v = .none) (match v with
  | .none => some ⟨(), rfl⟩
  | _ => none)
theorem nonOf_inv {v : Value} {u : Unit} (h : nonOf v = some u) : v = .none := lower_inv (P := fun _ => v = .none) h
noncomputable def asB (c : Code) : Option (String × List Value) := (callOf c).bind fun p => (bltOf p.1).bind fun n => (plainArgs p.2).bind fun l => some (n, l)
noncomputable def asR (c : Code) : Option (Addr × List Value) := (callOf c).bind fun p => (refOf p.1).bind fun n => (plainArgs p.2).bind fun l => some (n, l)
noncomputable def asT (c : Code) : Option (String × List Value) := (callOf c).bind fun p => (typOf p.1).bind fun n => (plainArgs p.2).bind fun l => some (n, l)
theorem asB_inv {c : Code} {p : String × List Value} (h : asB c = some p) : c = .call (.builtin p.1) ⟨p.2, []⟩ := by
  obtain ⟨q, h1, h⟩ := obind h
  obtain ⟨n, h2, h⟩ := obind h
  obtain ⟨l, h3, h⟩ := obind h
  cases h
  rw [callOf_inv h1, bltOf_inv h2, plainArgs_inv h3]
theorem asR_inv {c : Code} {p : Addr × List Value} (h : asR c = some p) : c = .call (.ref p.1) ⟨p.2, []⟩ := by
  obtain ⟨q, h1, h⟩ := obind h
  obtain ⟨n, h2, h⟩ := obind h
  obtain ⟨l, h3, h⟩ := obind h
  cases h
  rw [callOf_inv h1, refOf_inv h2, plainArgs_inv h3]
theorem asT_inv {c : Code} {p : String × List Value} (h : asT c = some p) : c = .call (.type p.1) ⟨p.2, []⟩ := by
  obtain ⟨q, h1, h⟩ := obind h
  obtain ⟨n, h2, h⟩ := obind h
  obtain ⟨l, h3, h⟩ := obind h
  cases h
  rw [callOf_inv h1, typOf_inv h2, plainArgs_inv h3]
/-- a list's head, an object's name -/
noncomputable def refHd : List Value → Option (Addr × List Value)
  | v :: l => (refOf v).bind fun a => some (a, l)
  | [] => none
theorem refHd_inv {l : List Value} {p : Addr × List Value} (h : refHd l = some p) : l = .ref p.1 :: p.2 := by
  cases l with
  | nil => cases h
  | cons v l =>
    obtain ⟨a, h1, h⟩ := obind h
    cases h
    rw [refOf_inv h1]
noncomputable def nilOf (l : List Value) : Option Unit := match l with
  | [] => some ()
  | _ :: _ => none
theorem nilOf_inv {l : List Value} {u : Unit} (h : nilOf l = some u) : l = [] := by
  cases l with
  | nil => rfl
  | cons _ _ => cases h
/-- one name, two names -/
noncomputable def one (l : List Value) : Option Addr := (refHd l).bind fun p => (nilOf p.2).bind fun _ => some p.1
theorem one_inv {l : List Value} {a : Addr} (h : one l = some a) : l = [.ref a] := by
  obtain ⟨p, h1, h⟩ := obind h
  obtain ⟨u, h2, h⟩ := obind h
  cases h
  rw [refHd_inv h1, nilOf_inv h2]
noncomputable def two (l : List Value) : Option (Addr × Addr) := (refHd l).bind fun p => (one p.2).bind fun b => some (p.1, b)
theorem two_inv {l : List Value} {p : Addr × Addr} (h : two l = some p) : l = [.ref p.1, .ref p.2] := by
  obtain ⟨q, h1, h⟩ := obind h
  obtain ⟨b, h2, h⟩ := obind h
  cases h
  rw [refHd_inv h1, one_inv h2]
noncomputable def seqOf (o : Obj) : Option (List Value) := lower (P := fun vs => ∃ k, o.data = .seq ⟨vs⟩ k) (match o.data with
  | .seq vs k => some ⟨vs.toList, k, rfl⟩
  | _ => none)
theorem seqOf_inv {o : Obj} {vs : List Value} (h : seqOf o = some vs) : ∃ d k sl, o = ⟨o.cls, d, .seq ⟨vs⟩ k, sl⟩ := by
  obtain ⟨cls, d, data, sl⟩ := o
  obtain ⟨k, h⟩ := lower_inv (P := fun vs => ∃ k, data = .seq ⟨vs⟩ k) h
  subst h
  exact ⟨d, k, sl, rfl⟩
noncomputable def consOf (l : List Value) : Option (Value × List Value) := lower (P := fun p => l = p.1 :: p.2) (match l with
  | v :: l => some ⟨(v, l), rfl⟩
  | [] => none)
theorem consOf_inv {l : List Value} {p : Value × List Value} (h : consOf l = some p) : l = p.1 :: p.2 := lower_inv (P := fun p : Value × List Value => l = p.1 :: p.2) h
noncomputable def strHd (l : List Value) : Option (Str × Tok × List Value) := (consOf l).bind fun q => (strOf q.1).bind fun p => some (p.1, p.2, q.2)
theorem strHd_inv {l : List Value} {p : Str × Tok × List Value} (h : strHd l = some p) : l = .str p.1 p.2.1 :: p.2.2 := by
  obtain ⟨q, h1, h⟩ := obind h
  obtain ⟨r, h2, h⟩ := obind h
  cases h
  rw [consOf_inv h1, strOf_inv h2]
noncomputable def strRef (l : List Value) : Option (Str × Tok × Addr) := (strHd l).bind fun p => (one p.2.2).bind fun b => some (p.1, p.2.1, b)
theorem strRef_inv {l : List Value} {p : Str × Tok × Addr} (h : strRef l = some p) : l = [.str p.1 p.2.1, .ref p.2.2] := by
  obtain ⟨q, h1, h⟩ := obind h
  obtain ⟨b, h2, h⟩ := obind h
  cases h
  rw [strHd_inv h1, one_inv h2]
noncomputable def oneV (l : List Value) : Option Value := (consOf l).bind fun p => (nilOf p.2).bind fun _ => some p.1
theorem oneV_inv {l : List Value} {v : Value} (h : oneV l = some v) : l = [v] := by
  obtain ⟨p, h1, h⟩ := obind h
  obtain ⟨u, h2, h⟩ := obind h
  cases h
  rw [consOf_inv h1, nilOf_inv h2]
noncomputable def fldOf (o : Obj) : Option (List Value) := lower (P := fun vs => o.data = .fields ⟨vs⟩) (match o.data with
  | .fields vs => some ⟨vs.toList, rfl⟩
  | _ => none)
noncomputable def fld3 (o : Obj) : Option (Value × Value × Value) := (fldOf o).bind fun l => (consOf l).bind fun p => (consOf p.2).bind fun q => (oneV q.2).bind fun r => some (p.1, q.1, r)
theorem fld3_inv {o : Obj} {p : Value × Value × Value} (h : fld3 o = some p) : ∃ d sl, o = ⟨o.cls, d, .fields ⟨[p.1, p.2.1, p.2.2]⟩, sl⟩ := by
  obtain ⟨l, h1, h⟩ := obind h
  obtain ⟨a, h2, h⟩ := obind h
  obtain ⟨b, h3, h⟩ := obind h
  obtain ⟨c, h4, h⟩ := obind h
  cases h
  obtain ⟨cls, d, data, sl⟩ := o
  have e : data = .fields ⟨l⟩ := lower_inv (P := fun vs => data = .fields ⟨vs⟩) h1
  rw [consOf_inv h2, consOf_inv h3, oneV_inv h4] at e
  subst e
  exact ⟨d, sl, rfl⟩
noncomputable def optInt (v : Value) : Option (Option (Int × Tok)) := match nonOf v with
  | some _ => some none
  | none => (intOf v).bind fun p => some (some p)
theorem optInt_inv {v : Value} {p : Option (Int × Tok)} (h : optInt v = some p) : (∃ q, p = some q ∧ v = .int q.1 q.2) ∨ p = none ∧ v = .none := by
  unfold optInt at h
  cases e : nonOf v with
  | some u => rw [e] at h; cases h; exact .inr ⟨rfl, nonOf_inv e⟩
  | none =>
    rw [e] at h
    obtain ⟨q, h1, h⟩ := obind h
    cases h
    exact .inl ⟨q, rfl, intOf_inv h1⟩
noncomputable def intHd (l : List Value) : Option ((Int × Tok) × List Value) := (consOf l).bind fun q => (intOf q.1).bind fun p => some (p, q.2)
theorem intHd_inv {l : List Value} {p : (Int × Tok) × List Value} (h : intHd l = some p) : l = .int p.1.1 p.1.2 :: p.2 := by
  obtain ⟨q, h1, h⟩ := obind h
  obtain ⟨r, h2, h⟩ := obind h
  cases h
  rw [consOf_inv h1, intOf_inv h2]
noncomputable def twoI (l : List Value) : Option ((Int × Tok) × (Int × Tok)) := (intHd l).bind fun p => (intHd p.2).bind fun q => (nilOf q.2).bind fun _ => some (p.1, q.1)
theorem twoI_inv {l : List Value} {p : (Int × Tok) × (Int × Tok)} (h : twoI l = some p) : l = [.int p.1.1 p.1.2, .int p.2.1 p.2.2] := by
  obtain ⟨q, h1, h⟩ := obind h
  obtain ⟨r, h2, h⟩ := obind h
  obtain ⟨u, h3, h⟩ := obind h
  cases h
  rw [intHd_inv h1, intHd_inv h2, nilOf_inv h3]
noncomputable def refInt (l : List Value) : Option (Addr × (Int × Tok)) := (refHd l).bind fun p => (intHd p.2).bind fun q => (nilOf q.2).bind fun _ => some (p.1, q.1)
theorem refInt_inv {l : List Value} {p : Addr × (Int × Tok)} (h : refInt l = some p) : l = [.ref p.1, .int p.2.1 p.2.2] := by
  obtain ⟨q, h1, h⟩ := obind h
  obtain ⟨r, h2, h⟩ := obind h
  obtain ⟨u, h3, h⟩ := obind h
  cases h
  rw [refHd_inv h1, intHd_inv h2, nilOf_inv h3]
noncomputable def oneS (l : List Value) : Option (Str × Tok) := (strHd l).bind fun p => (nilOf p.2.2).bind fun _ => some (p.1, p.2.1)
theorem oneS_inv {l : List Value} {p : Str × Tok} (h : oneS l = some p) : l = [.str p.1 p.2] := by
  obtain ⟨q, h1, h⟩ := obind h
  obtain ⟨u, h2, h⟩ := obind h
  cases h
  rw [strHd_inv h1, nilOf_inv h2]
noncomputable def twoS (l : List Value) : Option ((Str × Tok) × (Str × Tok)) := (strHd l).bind fun p => (oneS p.2.2).bind fun q => some ((p.1, p.2.1), q)
theorem twoS_inv {l : List Value} {p : (Str × Tok) × (Str × Tok)} (h : twoS l = some p) : l = [.str p.1.1 p.1.2, .str p.2.1 p.2.2] := by
  obtain ⟨q, h1, h⟩ := obind h
  obtain ⟨r, h2, h⟩ := obind h
  cases h
  rw [strHd_inv h1, oneS_inv h2]
/-- an object that is there -/
noncomputable def getO (T : BT) (m j : Nat) : Option Obj := match Nat.blt j m with
  | true => T.get j
  | false => none
theorem getO_inv {T : BT} {m j : Nat} {o : Obj} (h : getO T m j = some o) : Nat.blt j m = true ∧ T.get j = some o := by
  unfold getO at h
  cases e : Nat.blt j m with
  | true => rw [e] at h; exact ⟨rfl, h⟩
  | false => rw [e] at h; cases h
theorem getO_of {T : BT} {m j : Nat} {o : Obj} (h : Nat.blt j m = true) (h' : T.get j = some o) : getO T m j = some o := by
  unfold getO; rw [h]; exact h'
/-! ## Two kinds of hooks, each proved once: a plain value back; new objects laid -/
inductive Kd where
  | val (v : Value)
  | str (y : Str)
  | int (z : Int)
noncomputable def Kd.get : Kd → Nat → Value
  | .val v, _ => v
  | .str y, t => .str y t
  | .int z, t => .int z t
noncomputable def fxAd (fx : Ad) (ad : Ad) : Ad := List.rec (motive := fun _ => Ad) ad (fun p _ r => p :: r) fx
noncomputable def refAd (ρ : Nat → Nat) (rf : List (Addr × Nat)) (ad : Ad) : Ad := List.rec (motive := fun _ => Ad) ad (fun q _ r => (.ref q.1, .ref (ρ q.2)) :: r) rf
noncomputable def FxOk : Ad → Prop
  | [] => True
  | p :: l => p.1 = p.2 ∧ FxOk l
noncomputable def RfOk (ρ : Nat → Nat) : List (Addr × Nat) → Prop
  | [] => True
  | q :: l => q.1 = ρ q.2 ∧ RfOk ρ l
noncomputable def RfLt (m : Nat) : List (Addr × Nat) → Prop
  | [] => True
  | q :: l => q.2 < m ∧ RfLt m l
theorem fxAd_ok {ad : Ad} {ps : List Prop} : ∀ {fx : Ad}, ObOk (fxAd fx ad) ps → FxOk fx ∧ ObOk ad ps
  | [], h => ⟨trivial, h⟩
  | _ :: _, h => ⟨⟨h.head, (fxAd_ok h.tail).1⟩, (fxAd_ok h.tail).2⟩
theorem refAd_ok {ρ : Nat → Nat} {ad : Ad} {ps : List Prop} : ∀ {rf : List (Addr × Nat)}, ObOk (refAd ρ rf ad) ps → RfOk ρ rf ∧ ObOk ad ps
  | [], h => ⟨trivial, h⟩
  | _ :: _, h => ⟨⟨Value.ref.inj h.head, (refAd_ok h.tail).1⟩, (refAd_ok h.tail).2⟩
theorem refAd_congr {ρ ρ' : Nat → Nat} {m : Nat} (a : ∀ j, j < m → ρ' j = ρ j) (ad : Ad) : ∀ {rf : List (Addr × Nat)}, RfLt m rf → refAd ρ' rf ad = refAd ρ rf ad
  | [], _ => rfl
  | q :: l, h => by
    show (_, Value.ref (ρ' q.2)) :: refAd ρ' l ad = (_, Value.ref (ρ q.2)) :: refAd ρ l ad
    rw [a _ h.1, refAd_congr a ad h.2]
theorem getO_lt {T : BT} {m j : Nat} {o : Obj} (h : getO T m j = some o) : j < m := Nat.le_of_ble_eq_true (getO_inv h).1
structure VR (κ : Type) where
  k : κ
  p : Prop
  fx : Ad
  rf : List (Addr × Nat)
  orc : Nat
noncomputable def VR.go {κ β : Type} (f : κ → Prop → Ad → List (Addr × Nat) → Nat → β) (r : VR κ) : β := VR.rec (motive := fun _ => β) f r
noncomputable abbrev Pre (κ : Type) := Code → BT → Nat → Nat → Option (VR κ)
noncomputable def PLoc {κ : Type} (pre : Pre κ) : Prop := ∀ c T m orc r, pre c T m orc = some r → RfLt m r.rf
noncomputable def VR.ad {κ : Type} (r : VR κ) (ρ : Nat → Nat) (ad : Ad) : Ad := fxAd r.fx (refAd ρ r.rf ad)
theorem VR.ok {κ : Type} {r : VR κ} {ρ : Nat → Nat} {ad : Ad} {ps : List Prop} (h : ObOk (r.ad ρ ad) (r.p :: ps)) : FxOk r.fx ∧ RfOk ρ r.rf ∧ r.p ∧ ObOk ad ps :=
  ⟨(fxAd_ok h).1, (refAd_ok (fxAd_ok h).2).1, h.2.1, (refAd_ok (fxAd_ok h).2).2.1, h.2.2⟩
theorem VR.ad_congr {κ : Type} {r : VR κ} {ρ ρ' : Nat → Nat} {m : Nat} (a : ∀ j, j < m → ρ' j = ρ j) (h : RfLt m r.rf) (ad : Ad) : r.ad ρ' ad = r.ad ρ ad := congrArg (fxAd r.fx) (refAd_congr a ad h)
/-- a plain value back -/
noncomputable def VR.out (r : VR Kd) (ρ τ : Nat → Nat) (T : BT) (m i : Nat) (ad : Ad) (ps : List Prop) : HO := { v := r.k.get (τ i), T := T, m := m, i := i + 1, orc := r.orc, ad := r.ad ρ ad, ps := r.p :: ps }
noncomputable def vHk (pre : Pre Kd) : Hk := fun ρ τ c T m i orc ad ps => (pre c T m orc).bind fun r => r.go fun k p fx rf orc => some { v := k.get (τ i), T := T, m := m, i := i + 1, orc := orc, ad := fxAd fx (refAd ρ rf ad), ps := p :: ps }
theorem vHk_inv {pre : Pre Kd} {ρ τ : Nat → Nat} {c : Code} {T : BT} {m i orc : Nat} {ad : Ad} {ps : List Prop} {o : HO} (h : vHk pre ρ τ c T m i orc ad ps = some o) : ∃ r, pre c T m orc = some r ∧ some (r.out ρ τ T m i ad ps) = some o := obind h
theorem vHk_loc {pre : Pre Kd} (hl : PLoc pre) : HLoc (vHk pre) where
  mm := fun h => by
    obtain ⟨r, e, e'⟩ := vHk_inv h
    cases e'
    exact ⟨Nat.le_refl _, Nat.le_succ _⟩
  ob := fun h q => by
    obtain ⟨r, e, e'⟩ := vHk_inv h
    cases e'
    exact (VR.ok q).2.2.2
  loc := fun {ρ τ c T m i orc ad ps o ρ' τ'} h a b => by
    obtain ⟨r, e, e'⟩ := vHk_inv h
    cases e'
    refine bind_of r e (congrArg some ?_)
    have e1 : τ' i = τ i := b _ (Nat.lt_succ_self _)
    have e2 := VR.ad_congr a (hl _ _ _ _ _ e) ad
    show HO.mk (r.k.get (τ' i)) T m (i + 1) r.orc (r.ad ρ' ad) (r.p :: ps) = HO.mk (r.k.get (τ i)) T m (i + 1) r.orc (r.ad ρ ad) (r.p :: ps)
    rw [e1, e2]
noncomputable def VLaw (w : World) (B : Bs) (r h : Nat) (pre : Pre Kd) : Prop :=
  ∀ c T m orc x, pre c T m orc = some x → x.p → FxOk x.fx → ∀ (ρ : Nat → Nat) (s : Shared) (A : Around) (Q : Value → Shared → Prop), RfOk ρ x.rf → Rep B r ρ T m s → A.handled = none → A.depth + h < recursionLimit →
    (∀ tok s', Rep B r ρ T m s' → Q (x.k.get tok) s') → wpAny (model pw w) A (runValue c) Q (fun _ _ => False) s
theorem vHk_ok {w : World} {B : Bs} {r h : Nat} {pre : Pre Kd} (L : VLaw w B r h pre) : HOkH pw w B r h (vHk pre) := by
  intro c T m i orc ad ps ρ τ s A Q hR hh hd H
  obtain ⟨o, ho, hob, _⟩ := H ρ τ (Agree.refl ρ m) (Agree.refl τ i)
  obtain ⟨x, e, e'⟩ := vHk_inv ho
  cases e'
  refine L c T m orc x e (VR.ok hob).2.2.1 (VR.ok hob).1 ρ s A Q (VR.ok hob).2.1 hR hh hd fun tok s' hs => ?_
  obtain ⟨o, ho, _, hq⟩ := H ρ (fun j => if j = i then tok else τ j) (Agree.refl ρ m) fun j hj => if_neg (Nat.ne_of_lt hj)
  obtain ⟨x', e1, e'⟩ := vHk_inv ho
  rw [e] at e1
  cases e1
  cases e'
  have z := hq s' hs
  have e₁ : (if i = i then tok else τ i) = tok := if_pos rfl
  change Q (x.k.get (if i = i then tok else τ i)) s' at z
  rw [e₁] at z
  exact z
/-! ### new objects -/
theorem Rep.addObj {B : Bs} {r : Nat} {ρ : Nat → Nat} {T : BT} {m : Nat} {s : Shared} (R : Rep B r ρ T m s) {o : Obj} {c : Addr} (hg : ((T.ins m o).get m).isSome = true) (em : ρ m = c) (hc' : s.heap.get? c = some o)
    (hK : B.K c = none) (hne : ∀ j o', T.get j = some o' → ρ j ≠ c) : Rep B r ρ (T.ins m o) (m + 1) s := by
  have G := BT.get_ins o T m hg
  refine ⟨fun j o' h => ?_, fun j o' hr h => ?_, fun j j' o₁ o₂ hr h h' q => ?_, R.keep, R.gens, R.os⟩
  · rw [G] at h
    by_cases hj : j = m
    · subst hj
      rw [if_pos rfl] at h
      cases h
      exact ⟨Nat.lt_succ_self _, by rw [em]; exact hc'⟩
    · rw [if_neg hj] at h
      exact ⟨Nat.lt_succ_of_lt (R.own j o' h).1, (R.own j o' h).2⟩
  · rw [G] at h
    by_cases hj : j = m
    · subst hj; rw [em]; exact hK
    · rw [if_neg hj] at h; exact R.new j o' hr h
  · rw [G] at h h'
    by_cases hj : j = m
    · by_cases hj' : j' = m
      · rw [hj, hj']
      · rw [if_neg hj'] at h'
        exact absurd (by rw [← q, hj, em]) (hne j' o₂ h')
    · rw [if_neg hj] at h
      by_cases hj' : j' = m
      · exact absurd (by rw [q, hj', em]) (hne j o₁ h)
      · rw [if_neg hj'] at h'
        exact R.inj j j' o₁ o₂ hr h h' q
noncomputable def insAll (l : List Obj) : Nat → BT → Option BT := List.rec (motive := fun _ => Nat → BT → Option BT) (fun _ T => some T) (fun o _ ih m T => ((T.ins m o).get m).bind fun _ => ih (m + 1) (T.ins m o)) l
theorem insAll_rep {B : Bs} {r : Nat} {ρ : Nat → Nat} {s : Shared} : ∀ {l : List Obj} {m : Nat} {T T' : BT}, insAll l m T = some T' → Rep B r ρ T m s → (∀ j o, l[j]? = some o → s.heap.get? (ρ (m + j)) = some o) → (∀ j, j < l.length → B.K (ρ (m + j)) = none) →
    (∀ k o j, T.get k = some o → j < l.length → ρ k ≠ ρ (m + j)) → (∀ j j', j < l.length → j' < l.length → ρ (m + j) = ρ (m + j') → j = j') → Rep B r ρ T' (m + l.length) s
  | [], m, T, T', e, R, _, _, _, _ => by cases e; exact R
  | o :: l, m, T, T', e, R, hs, hK, hne, hi => by
    obtain ⟨o', e1, e⟩ := obind (show ((T.ins m o).get m).bind (fun _ => insAll l (m + 1) (T.ins m o)) = some T' from e)
    have hg : ((T.ins m o).get m).isSome = true := by rw [e1]; rfl
    have G := BT.get_ins o T m hg
    have sh : ∀ j, m + 1 + j = m + (j + 1) := fun j => by omega
    have R1 := R.addObj hg rfl (hs 0 o rfl) (hK 0 (Nat.succ_pos _)) fun j o' hj => hne j o' 0 hj (Nat.succ_pos _)
    have := insAll_rep e R1 (fun j o h => by rw [sh]; exact hs (j + 1) o h) (fun j hj => by rw [sh]; exact hK (j + 1) (Nat.succ_lt_succ hj)) (fun k o' j hk hj => by
      rw [sh]
      rw [G] at hk
      by_cases q : k = m
      · rw [q]
        intro z
        cases hi 0 (j + 1) (Nat.succ_pos _) (Nat.succ_lt_succ hj) z
      · rw [if_neg q] at hk
        exact hne k o' (j + 1) hk (Nat.succ_lt_succ hj)) fun j j' hj hj' z => by
      rw [sh, sh] at z
      exact Nat.succ.inj (hi (j + 1) (j' + 1) (Nat.succ_lt_succ hj) (Nat.succ_lt_succ hj') z)
    rw [sh] at this
    exact this
structure NR where
  nt : Nat
  no : Nat
  os : (Nat → Nat) → (Nat → Nat) → List Obj
  v : (Nat → Nat) → Value
noncomputable def VR.outN (r : VR NR) (ρ : Nat → Nat) (T' : BT) (m i : Nat) (ad : Ad) (ps : List Prop) : HO := { v := r.k.v fun j => ρ (m + j), T := T', m := m + r.k.no, i := i + r.k.nt, orc := r.orc, ad := r.ad ρ ad, ps := r.p :: ps }
noncomputable def NR.go {β : Type} (f : Nat → Nat → ((Nat → Nat) → (Nat → Nat) → List Obj) → ((Nat → Nat) → Value) → β) (k : NR) : β := NR.rec (motive := fun _ => β) f k
noncomputable def mHk (pre : Pre NR) : Hk := fun ρ τ c T m i orc ad ps => (pre c T m orc).bind fun r => r.go fun k p fx rf orc => k.go fun nt no os v => (insAll (os (fun j => ρ (m + j)) (fun j => τ (i + j))) m T).bind fun T' =>
  some { v := v fun j => ρ (m + j), T := T', m := m + no, i := i + nt, orc := orc, ad := fxAd fx (refAd ρ rf ad), ps := p :: ps }
theorem mHk_inv {pre : Pre NR} {ρ τ : Nat → Nat} {c : Code} {T : BT} {m i orc : Nat} {ad : Ad} {ps : List Prop} {o : HO} (h : mHk pre ρ τ c T m i orc ad ps = some o) : ∃ r, pre c T m orc = some r ∧ ∃ T', insAll (r.k.os (fun j => ρ (m + j)) (fun j => τ (i + j))) m T = some T' ∧ some (r.outN ρ T' m i ad ps) = some o := by
  obtain ⟨r, e, h⟩ := obind h
  obtain ⟨⟨nt, no, os, v⟩, p, fx, rf, orc⟩ := r
  exact ⟨_, e, obind h⟩
structure NLoc (k : NR) : Prop where
  len : ∀ ρ τ, (k.os ρ τ).length = k.no
  os : ∀ ρ ρ' τ τ', (∀ j, j < k.no → ρ' j = ρ j) → (∀ j, j < k.nt → τ' j = τ j) → k.os ρ' τ' = k.os ρ τ
  v : ∀ ρ ρ', (∀ j, j < k.no → ρ' j = ρ j) → k.v ρ' = k.v ρ
noncomputable def MLoc (pre : Pre NR) : Prop := ∀ c T m orc r, pre c T m orc = some r → RfLt m r.rf ∧ NLoc r.k
theorem mHk_loc {pre : Pre NR} (hl : MLoc pre) : HLoc (mHk pre) where
  mm := fun h => by
    obtain ⟨r, e, T', e', h⟩ := mHk_inv h
    cases h
    exact ⟨Nat.le_add_right _ _, Nat.le_add_right _ _⟩
  ob := fun h q => by
    obtain ⟨r, e, T', e', h⟩ := mHk_inv h
    cases h
    exact (VR.ok q).2.2.2
  loc := fun {ρ τ c T m i orc ad ps o ρ' τ'} h a b => by
    obtain ⟨r, e, T', e', h⟩ := mHk_inv h
    cases h
    have N := hl _ _ _ _ _ e
    have aρ : ∀ j, j < r.k.no → ρ' (m + j) = ρ (m + j) := fun j hj => a _ (Nat.add_lt_add_left hj m)
    have am : ∀ j, j < m → ρ' j = ρ j := fun j hj => a _ (Nat.lt_of_lt_of_le hj (Nat.le_add_right _ _))
    refine bind_of r e (bind_of (f := fun T' => some (r.outN ρ' T' m i ad ps)) T' ?_ (congrArg some ?_))
    · rw [N.2.os _ _ _ _ aρ fun j hj => b _ (Nat.add_lt_add_left hj i)]; exact e'
    · show HO.mk (r.k.v fun j => ρ' (m + j)) T' (m + r.k.no) (i + r.k.nt) r.orc (r.ad ρ' ad) (r.p :: ps) = HO.mk (r.k.v fun j => ρ (m + j)) T' (m + r.k.no) (i + r.k.nt) r.orc (r.ad ρ ad) (r.p :: ps)
      rw [N.2.v _ _ aρ, VR.ad_congr am N.1 ad]
noncomputable def MLaw (w : World) (B : Bs) (r h : Nat) (pre : Pre NR) : Prop :=
  ∀ c T m orc x, pre c T m orc = some x → x.p → FxOk x.fx → ∀ (ρ : Nat → Nat) (s : Shared) (A : Around) (Q : Value → Shared → Prop), RfOk ρ x.rf → Rep B r ρ T m s → A.handled = none → A.depth + h < recursionLimit →
    (∀ (cs t : Nat → Nat) s', (∀ b o, s.heap.get? b = some o → s'.heap.get? b = some o) → B.GP s'.gens → s'.os = s.os → (∀ j, j < x.k.no → s.heap.get? (cs j) = none) → (∀ j j', j < x.k.no → j' < x.k.no → cs j = cs j' → j = j') →
      (∀ j o, (x.k.os cs t)[j]? = some o → s'.heap.get? (cs j) = some o) → Q (x.k.v cs) s') → wpAny (model pw w) A (runValue c) Q (fun _ _ => False) s
theorem mHk_ok {w : World} {B : Bs} {r h : Nat} {pre : Pre NR} (hl : MLoc pre) (L : MLaw w B r h pre) : HOkH pw w B r h (mHk pre) := by
  intro c T m i orc ad ps ρ τ s A Q hR hh hd H
  obtain ⟨o, ho, hob, _⟩ := H ρ τ (Agree.refl ρ m) (Agree.refl τ i)
  obtain ⟨x, e, T', e', ho⟩ := mHk_inv ho
  cases ho
  refine L c T m orc x e (VR.ok hob).2.2.1 (VR.ok hob).1 ρ s A Q (VR.ok hob).2.1 hR hh hd fun cs t s' hold hgp hos hfree hinj hnew => ?_
  have sub : ∀ (f g : Nat → Nat) (n : Nat), (fun j => if n + j < n then f (n + j) else g (n + j - n)) = g := fun f g n => funext fun j => by
    rw [if_neg (Nat.not_lt.mpr (Nat.le_add_right n j)), Nat.add_sub_cancel_left]
  have aρ : Agree ρ (fun j => if j < m then ρ j else cs (j - m)) m := fun j hj => if_pos hj
  have N := (hl _ _ _ _ _ e).2.len cs t
  obtain ⟨o, ho, _, hq⟩ := H (fun j => if j < m then ρ j else cs (j - m)) (fun j => if j < i then τ j else t (j - i)) aρ fun j hj => if_pos hj
  obtain ⟨x', e1, T₁, e2, ho⟩ := mHk_inv ho
  rw [e] at e1
  cases e1
  cases ho
  rw [sub ρ cs m, sub τ t i] at e2
  have sm : ∀ j, (if m + j < m then ρ (m + j) else cs (m + j - m)) = cs j := fun j => congrFun (sub ρ cs m) j
  have R0 := hR.agree aρ
  have R1 : Rep B r _ T m s' := ⟨fun j o q => ⟨(R0.own j o q).1, hold _ _ (R0.own j o q).2⟩, R0.new, R0.inj, fun b o q => hold _ _ (R0.keep b o q), hgp, hos.trans R0.os⟩
  have R2 := insAll_rep e2 R1 (fun j o q => by rw [sm]; exact hnew j o q) (fun j hj => by
      rw [sm]
      cases q : B.K (cs j) with
      | none => rfl
      | some y => rw [N] at hj; have := hR.keep _ _ q; rw [hfree j hj] at this; cases this) (fun k o j hk hj z => by
      rw [N] at hj
      have := (R0.own k o hk).2
      rw [z] at this
      rw [sm, hfree j hj] at this
      cases this) fun j j' hj hj' z => by
      rw [N] at hj hj'
      rw [sm, sm] at z
      exact hinj j j' hj hj' z
  rw [N] at R2
  have z := hq s' R2
  change Q (x.k.v fun j => if m + j < m then ρ (m + j) else cs (m + j - m)) s' at z
  rw [sub ρ cs m] at z
  exact z
/-! ## Hooks -/
noncomputable def siO (x : Str) (t : Tok) : Obj := { cls := .type (strIterType x), data := .fields #[.str x t, .int 0 0] }
noncomputable def enO (it : Addr) : Obj := { cls := .type "enumerate", data := .fields #[.none, .bool false, .ref it, rawInt 0, .none, .none] }
theorem call_enum_exact {prog : Program} {w : World} {A : Around} {E : Value → Shared → Prop} {s : Shared} {x : Str} {t : Tok} {Q : Value → Shared → Prop}
    (h : Q (.ref (s.heap.objs.size + 1)) { s with heap := (s.heap.push (siO x t)).push (enO s.heap.objs.size) }) : wpAny (model prog w) A (call (.type "enumerate") [.str x t]) Q E s := by
  refine callType_new F.called_enumerate (by decide) (F.typeCall_enumerate_1 _) (F.newCall_enumerate_1 _) (fun obj => F.args_object_init_2 obj _) F.entry_enumerate_new (meets_enumerate_newS x t) ?_
  have hz : (s.heap.push (siO x t)).objs.size = s.heap.objs.size + 1 := Heap.size_push ..
  have he := Heap.get?_push_size (s.heap.push (siO x t)) (o := enO s.heap.objs.size) rfl
  rw [hz] at he
  show _ ∧ _
  rw [show (s.heap.push { cls := .type (strIterType x), data := .fields #[.str x t, .int 0 0] }).objs.size = s.heap.objs.size + 1 from hz]
  exact ⟨⟨_, he, rfl⟩, h⟩
noncomputable def enumHk : Hk := fun ρ τ c T m i orc ad ps => (asT c).bind fun q => (oneS q.2).bind fun z => ((T.ins m (siO z.1 z.2)).get m).bind fun _ => (((T.ins m (siO z.1 z.2)).ins (m + 1) (enO (ρ m))).get (m + 1)).bind fun _ =>
  some { v := .ref (ρ (m + 1)), T := (T.ins m (siO z.1 z.2)).ins (m + 1) (enO (ρ m)), m := m + 2, i := i, orc := orc, ad := (.type q.1, .type "enumerate") :: ad, ps := ps }
theorem enumHk_inv {ρ τ : Nat → Nat} {c : Code} {T : BT} {m i orc : Nat} {ad : Ad} {ps : List Prop} {o : HO} (h : enumHk ρ τ c T m i orc ad ps = some o) :
    ∃ n x t, c = .call (.type n) ⟨[.str x t], []⟩ ∧ ((T.ins m (siO x t)).get m).isSome = true ∧ (((T.ins m (siO x t)).ins (m + 1) (enO (ρ m))).get (m + 1)).isSome = true ∧
      o = { v := .ref (ρ (m + 1)), T := (T.ins m (siO x t)).ins (m + 1) (enO (ρ m)), m := m + 2, i := i, orc := orc, ad := (.type n, .type "enumerate") :: ad, ps := ps } := by
  obtain ⟨q, e1, h⟩ := obind h
  obtain ⟨z, e2, h⟩ := obind h
  obtain ⟨x, e3, h⟩ := obind h
  obtain ⟨y, e4, h⟩ := obind h
  cases h
  exact ⟨q.1, z.1, z.2, by rw [asT_inv e1, oneS_inv e2], Option.isSome_iff_exists.mpr ⟨_, e3⟩, Option.isSome_iff_exists.mpr ⟨_, e4⟩, rfl⟩
theorem enumHk_loc : HLoc enumHk where
  mm := fun h => by obtain ⟨n, x, t, _, _, _, rfl⟩ := enumHk_inv h; exact ⟨Nat.le_add_right .., Nat.le_refl _⟩
  ob := fun h q => by obtain ⟨n, x, t, _, _, _, rfl⟩ := enumHk_inv h; exact q.tail
  loc := fun {ρ τ c T m i orc ad ps o ρ' τ'} h a _ => by
    obtain ⟨n, x, t, rfl, h1, h2, rfl⟩ := enumHk_inv h
    have a1 : ρ' (m + 1) = ρ (m + 1) := a _ (Nat.lt_succ_self _)
    have a0 : ρ' m = ρ m := a _ (Nat.lt_succ_of_lt (Nat.lt_succ_self _))
    obtain ⟨q1, e1⟩ := Option.isSome_iff_exists.mp h1
    obtain ⟨q2, e2⟩ := Option.isSome_iff_exists.mp h2
    exact bind_of (n, [.str x t]) rfl (bind_of (x, t) rfl (bind_of q1 e1 (bind_of q2 (by rw [a0]; exact e2) (by rw [a0, a1]))))
theorem enumHk_ok (w : World) (B : Bs) (r : Nat) : HOk pw w B r enumHk := by
  intro c T m i orc ad ps ρ τ s A Q hR hh hd H
  obtain ⟨o, ho, hob, _⟩ := H ρ τ (Agree.refl ρ m) (Agree.refl τ i)
  obtain ⟨n, x, t, rfl, h1, h2, rfl⟩ := enumHk_inv ho
  have hn : n = "enumerate" := by have := hob.head; injection this
  subst hn
  refine call_enum_exact ?_
  let ρ₁ : Nat → Nat := fun j => if j = m then s.heap.objs.size else if j = m + 1 then s.heap.objs.size + 1 else ρ j
  have a₁ : Agree ρ ρ₁ m := fun j hj => by show (if j = m then _ else if j = m + 1 then _ else ρ j) = ρ j; rw [if_neg (by omega), if_neg (by omega)]
  have e0 : ρ₁ m = s.heap.objs.size := if_pos rfl
  have e1 : ρ₁ (m + 1) = s.heap.objs.size + 1 := by show (if m + 1 = m then _ else if m + 1 = m + 1 then _ else _) = _; rw [if_neg (by omega), if_pos rfl]
  have R1 := hR.alloc (o := siO x t) rfl h1 a₁ e0
  obtain ⟨o, ho, _, hq⟩ := H ρ₁ τ a₁ (Agree.refl τ i)
  obtain ⟨n, x', t', e, _, h2', rfl⟩ := enumHk_inv ho
  cases e
  have R2 := R1.alloc (o := enO (ρ₁ m)) rfl h2' (Agree.refl _ _) (by rw [e1, Heap.size_push])
  have := hq _ R2
  dsimp only at this
  rw [e1, e0] at this
  exact this
/-! ## A world's one habit that matters -/
noncomputable def ftOf (b : Bool) (f : String → Bool) : String → Bool := fun s => if s = "special-get-raises" then b else f s
lay_quick Mine.ftOf
noncomputable def Pb (b : Bool) (P : Params) : Params := { P with followText := PySem.W.Fast.tw12650973888526097639 b P.followText }
theorem Pb_eq (P : Params) : Pb (P.followText "special-get-raises") P = P := by
  unfold Pb
  rw [← PySem.W.Fast.te12650973888526097639]
  have : ftOf (P.followText "special-get-raises") P.followText = P.followText := by
    funext s
    unfold ftOf
    split
    · rename_i h; rw [h]
    · rfl
  rw [this]
/-! ## The generator's pieces -/
noncomputable def gEnv (L : Addr) : Env := envOf 1 21 20 L
noncomputable def gT0 (L : Addr) : Sem Flow := execs [gParts.b0] (gEnv L)
noncomputable def gT1 (L : Addr) : Sem Flow := execs [gParts.b1] (gEnv L)
noncomputable def gTA (U L : Addr) : Sem Unit := assign gParts.tgt (gEnv L) (.ref U)
noncomputable def gTT (L : Addr) : Sem Bool := isTrue gParts.test (gEnv L) (eval gParts.test (gEnv L))
noncomputable def gTC (L : Addr) : Sem Bool := isTrue gParts.cmp (gEnv L) (eval gParts.cmp (gEnv L))
noncomputable def gTE1 (L : Addr) : Sem Value := eval gParts.e1 (gEnv L)
noncomputable def gTE2 (L : Addr) : Sem Value := eval gParts.e2 (gEnv L)
noncomputable def gTF (L : Addr) : Sem Flow := execs [gParts.sF] (gEnv L)
noncomputable def gTS (L : Addr) : Sem Flow := execs [gParts.sT] (gEnv L)
noncomputable def gT3 (L : Addr) : Sem Flow := execs [gParts.b3] (gEnv L)
noncomputable def gTI (L : Addr) : Sem Value := eval gParts.iter (gEnv L)
lay_quick Mine.gT0 Mine.gT1 Mine.gTA Mine.gTT Mine.gTC Mine.gTE1 Mine.gTE2 Mine.gTF Mine.gTS Mine.gT3 Mine.gTI
/-- the generator's frame: the text, the place, the mark, the sign -/
noncomputable def gF3 (P : Params) (x : Str) (ka tx kp : Nat) (pv : Value) (ke : Nat) (e : Bool) : Obj := fro P [(nAddr, ka, .str x tx), (nPos, kp, pv), (nEscape, ke, .bool e)]
noncomputable def gF4 (P : Params) (x : Str) (ka tx kp : Nat) (pv : Value) (ke : Nat) (e : Bool) (kc : Nat) (cv : Value) : Obj := fro P [(nAddr, ka, .str x tx), (nPos, kp, pv), (nEscape, ke, .bool e), (nCh, kc, cv)]
noncomputable def tupO (vs : List Value) : Obj := { cls := .type "tuple", data := .seq vs.toArray }
noncomputable abbrev Said {α : Type} (r : Rs α) (js : List Nat) (v : α) (ps : List Prop) (os : List (Option Obj)) : Prop := r.said js = (some v, r.owed, ps, os)
theorem Pb_elim {F : Params → Prop} (h : ∀ b P, F (Pb b P)) (P : Params) : F P := by
  have := h (P.followText "special-get-raises") P
  rw [Pb_eq] at this
  exact this
theorem kG0 : ∀ (P : Params) (ρ τ : Nat → Nat) (x : Str) (ka tx : Nat), Said (runE (GG P 0 noH) ρ τ 30 (.top (PySem.W.Fast.tw8056147025721891722 (ρ 0))) (mkT [fro P [(nAddr, ka, .str x tx)]]) 1 0 1025 [] []) [0] .next [] [some (fro P [(nAddr, ka, .str x tx), (nPos, τ 1, .int 0 (τ 0))])] := by intros; kernel_rfl
theorem kG1 : ∀ (P : Params) (ρ τ : Nat → Nat) (x : Str) (ka tx kp : Nat) (pz : Int) (tp : Nat), Said (runE (GG P 0 noH) ρ τ 30 (.top (PySem.W.Fast.tw7942431322078242234 (ρ 0))) (mkT [fro P [(nAddr, ka, .str x tx), (nPos, kp, .int pz tp)]]) 1 0 1025 [] []) [0] .next [] [some (gF3 P x ka tx kp (.int pz tp) (τ 0) false)] := by intros; kernel_rfl
theorem kGA3f : ∀ (P : Params) (ρ τ : Nat → Nat) (x : Str) (ka tx kp : Nat) (pz : Int) (tp ke : Nat) (z1 : Int) (t1 : Nat) (x2 : Str) (t2 : Nat), Said (runE (GG P 1 noH) ρ τ 90 (.top (PySem.W.Fast.tw2070039061781427199 (ρ 0) (ρ 1))) (mkT [tupO [.int z1 t1, .str x2 t2], gF3 P x ka tx kp (.int pz tp) ke false]) 2 0 4483868261961287119907240585903950522704706653744454091246049911453910086221989338674191665873046995969 [] []) [1] () [] [some (gF4 P x ka tx kp (.int z1 t1) ke false (τ 1) (.str x2 t2))] := by refine Pb_elim fun b P => ?_; intros; cases b <;> kernel_rfl
theorem kGA4f : ∀ (P : Params) (ρ τ : Nat → Nat) (x : Str) (ka tx kp : Nat) (pz : Int) (tp ke : Nat) (kc : Nat) (xc : Str) (tc : Nat) (z1 : Int) (t1 : Nat) (x2 : Str) (t2 : Nat), Said (runE (GG P 1 noH) ρ τ 90 (.top (PySem.W.Fast.tw2070039061781427199 (ρ 0) (ρ 1))) (mkT [tupO [.int z1 t1, .str x2 t2], gF4 P x ka tx kp (.int pz tp) ke false kc (.str xc tc)]) 2 0 4483868261961287119907240585903950522704706653744454091246049911453910086221989338674191665873046995969 [] []) [1] () [] [some (gF4 P x ka tx kp (.int z1 t1) ke false kc (.str x2 t2))] := by refine Pb_elim fun b P => ?_; intros; cases b <;> kernel_rfl
theorem kGTf : ∀ (P : Params) (ρ τ : Nat → Nat) (x : Str) (ka tx kp : Nat) (pz : Int) (tp ke : Nat) (kc : Nat) (xc : Str) (tc : Nat), Said (runE (GG P 0 noH) ρ τ 20 (.top (PySem.W.Fast.tw4614935888924853003 (ρ 0))) (mkT [gF4 P x ka tx kp (.int pz tp) ke false kc (.str xc tc)]) 1 0 1 [] []) [0] false [] [some (gF4 P x ka tx kp (.int pz tp) ke false kc (.str xc tc))] := by intros; kernel_rfl
theorem kGA3t : ∀ (P : Params) (ρ τ : Nat → Nat) (x : Str) (ka tx kp : Nat) (pz : Int) (tp ke : Nat) (z1 : Int) (t1 : Nat) (x2 : Str) (t2 : Nat), Said (runE (GG P 1 noH) ρ τ 90 (.top (PySem.W.Fast.tw2070039061781427199 (ρ 0) (ρ 1))) (mkT [tupO [.int z1 t1, .str x2 t2], gF3 P x ka tx kp (.int pz tp) ke true]) 2 0 4483868261961287119907240585903950522704706653744454091246049911453910086221989338674191665873046995969 [] []) [1] () [] [some (gF4 P x ka tx kp (.int z1 t1) ke true (τ 1) (.str x2 t2))] := by refine Pb_elim fun b P => ?_; intros; cases b <;> kernel_rfl
theorem kGA4t : ∀ (P : Params) (ρ τ : Nat → Nat) (x : Str) (ka tx kp : Nat) (pz : Int) (tp ke : Nat) (kc : Nat) (xc : Str) (tc : Nat) (z1 : Int) (t1 : Nat) (x2 : Str) (t2 : Nat), Said (runE (GG P 1 noH) ρ τ 90 (.top (PySem.W.Fast.tw2070039061781427199 (ρ 0) (ρ 1))) (mkT [tupO [.int z1 t1, .str x2 t2], gF4 P x ka tx kp (.int pz tp) ke true kc (.str xc tc)]) 2 0 4483868261961287119907240585903950522704706653744454091246049911453910086221989338674191665873046995969 [] []) [1] () [] [some (gF4 P x ka tx kp (.int z1 t1) ke true kc (.str x2 t2))] := by refine Pb_elim fun b P => ?_; intros; cases b <;> kernel_rfl
theorem kGTt : ∀ (P : Params) (ρ τ : Nat → Nat) (x : Str) (ka tx kp : Nat) (pz : Int) (tp ke : Nat) (kc : Nat) (xc : Str) (tc : Nat), Said (runE (GG P 0 noH) ρ τ 20 (.top (PySem.W.Fast.tw4614935888924853003 (ρ 0))) (mkT [gF4 P x ka tx kp (.int pz tp) ke true kc (.str xc tc)]) 1 0 1 [] []) [0] true [] [some (gF4 P x ka tx kp (.int pz tp) ke true kc (.str xc tc))] := by intros; kernel_rfl
theorem kGC34 : ∀ (P : Params) (ρ τ : Nat → Nat) (x : Str) (ka tx kp : Nat) (pz : Int) (tp ke : Nat) (kc tc : Nat), Said (runE (GG P 0 noH) ρ τ 30 (.top (PySem.W.Fast.tw7523793623671969720 (ρ 0))) (mkT [gF4 P x ka tx kp (.int pz tp) ke false kc (.str ⟨#[34]⟩ tc)]) 1 0 1 [] []) [0] false [] [some (gF4 P x ka tx kp (.int pz tp) ke false kc (.str ⟨#[34]⟩ tc))] := by refine Pb_elim fun b P => ?_; intros; cases b <;> kernel_rfl
theorem kGC40 : ∀ (P : Params) (ρ τ : Nat → Nat) (x : Str) (ka tx kp : Nat) (pz : Int) (tp ke : Nat) (kc tc : Nat), Said (runE (GG P 0 noH) ρ τ 30 (.top (PySem.W.Fast.tw7523793623671969720 (ρ 0))) (mkT [gF4 P x ka tx kp (.int pz tp) ke false kc (.str ⟨#[40]⟩ tc)]) 1 0 1 [] []) [0] false [] [some (gF4 P x ka tx kp (.int pz tp) ke false kc (.str ⟨#[40]⟩ tc))] := by refine Pb_elim fun b P => ?_; intros; cases b <;> kernel_rfl
theorem kGC41 : ∀ (P : Params) (ρ τ : Nat → Nat) (x : Str) (ka tx kp : Nat) (pz : Int) (tp ke : Nat) (kc tc : Nat), Said (runE (GG P 0 noH) ρ τ 30 (.top (PySem.W.Fast.tw7523793623671969720 (ρ 0))) (mkT [gF4 P x ka tx kp (.int pz tp) ke false kc (.str ⟨#[41]⟩ tc)]) 1 0 1 [] []) [0] false [] [some (gF4 P x ka tx kp (.int pz tp) ke false kc (.str ⟨#[41]⟩ tc))] := by refine Pb_elim fun b P => ?_; intros; cases b <;> kernel_rfl
theorem kGC92 : ∀ (P : Params) (ρ τ : Nat → Nat) (x : Str) (ka tx kp : Nat) (pz : Int) (tp ke : Nat) (kc tc : Nat), Said (runE (GG P 0 noH) ρ τ 30 (.top (PySem.W.Fast.tw7523793623671969720 (ρ 0))) (mkT [gF4 P x ka tx kp (.int pz tp) ke false kc (.str ⟨#[92]⟩ tc)]) 1 0 1 [] []) [0] true [] [some (gF4 P x ka tx kp (.int pz tp) ke false kc (.str ⟨#[92]⟩ tc))] := by refine Pb_elim fun b P => ?_; intros; cases b <;> kernel_rfl
theorem kGE1 : ∀ (P : Params) (ρ τ : Nat → Nat) (x : Str) (ka tx kp : Nat) (pz : Int) (tp ke : Nat) (kc c tc : Nat), Said (runE (GG P 0 noH) ρ τ 40 (.top (PySem.W.Fast.tw8326441647869710077 (ρ 0))) (mkT [gF4 P x ka tx kp (.int pz tp) ke true kc (.str ⟨#[c]⟩ tc)]) 1 0 1025 [] []) [0, 1] (.ref (ρ 1)) [] [some (gF4 P x ka tx kp (.int pz tp) ke true kc (.str ⟨#[c]⟩ tc)), some (tupO [.int pz tp, .str ⟨#[92, c]⟩ (τ 1)])] := by intros; kernel_rfl
theorem kGE2 : ∀ (P : Params) (ρ τ : Nat → Nat) (x : Str) (ka tx kp : Nat) (pz : Int) (tp ke : Nat) (kc : Nat) (xc : Str) (tc : Nat), Said (runE (GG P 0 noH) ρ τ 40 (.top (PySem.W.Fast.tw10591087441803288638 (ρ 0))) (mkT [gF4 P x ka tx kp (.int pz tp) ke false kc (.str xc tc)]) 1 0 1025 [] []) [0, 1] (.ref (ρ 1)) [] [some (gF4 P x ka tx kp (.int pz tp) ke false kc (.str xc tc)), some (tupO [.int pz tp, .str xc tc])] := by intros; kernel_rfl
theorem kGF : ∀ (P : Params) (ρ τ : Nat → Nat) (x : Str) (ka tx kp : Nat) (pz : Int) (tp ke : Nat) (kc : Nat) (xc : Str) (tc : Nat), Said (runE (GG P 0 noH) ρ τ 30 (.top (PySem.W.Fast.tw13834667466142098148 (ρ 0))) (mkT [gF4 P x ka tx kp (.int pz tp) ke true kc (.str xc tc)]) 1 0 1025 [] []) [0] .next [] [some (gF4 P x ka tx kp (.int pz tp) ke false kc (.str xc tc))] := by intros; kernel_rfl
theorem kGS : ∀ (P : Params) (ρ τ : Nat → Nat) (x : Str) (ka tx kp : Nat) (pz : Int) (tp ke : Nat) (kc : Nat) (xc : Str) (tc : Nat), Said (runE (GG P 0 noH) ρ τ 30 (.top (PySem.W.Fast.tw15532230255015259996 (ρ 0))) (mkT [gF4 P x ka tx kp (.int pz tp) ke false kc (.str xc tc)]) 1 0 1025 [] []) [0] .next [] [some (gF4 P x ka tx kp (.int pz tp) ke true kc (.str xc tc))] := by intros; kernel_rfl
theorem kG33 : ∀ (P : Params) (ρ τ : Nat → Nat) (x : Str) (ka tx kp : Nat) (pz : Int) (tp ke : Nat), Said (runE (GG P 0 noH) ρ τ 20 (.top (PySem.W.Fast.tw8719973603514822953 (ρ 0))) (mkT [gF3 P x ka tx kp (.int pz tp) ke false]) 1 0 1 [] []) [0] .next [] [some (gF3 P x ka tx kp (.int pz tp) ke false)] := by intros; kernel_rfl
theorem kG34 : ∀ (P : Params) (ρ τ : Nat → Nat) (x : Str) (ka tx kp : Nat) (pz : Int) (tp ke : Nat) (kc : Nat) (xc : Str) (tc : Nat), Said (runE (GG P 0 noH) ρ τ 20 (.top (PySem.W.Fast.tw8719973603514822953 (ρ 0))) (mkT [gF4 P x ka tx kp (.int pz tp) ke false kc (.str xc tc)]) 1 0 1 [] []) [0] .next [] [some (gF4 P x ka tx kp (.int pz tp) ke false kc (.str xc tc))] := by intros; kernel_rfl
/-! ## The generator runs -/
/-- a sign as it is; a sign behind a backslash -/
inductive It where
  | pl (c : Nat)
  | es (c : Nat)
noncomputable def It.txt : It → List Nat
  | .pl c => [c]
  | .es c => [92, c]
noncomputable def flat (l : List It) : List Nat := l.flatMap It.txt
noncomputable def It.Ok : It → Prop
  | .pl c => c = 34 ∨ c = 40 ∨ c = 41
  | .es c => c < 128
/-- what is handed out, with its place -/
noncomputable def ysOf : Nat → List It → List (Nat × It)
  | _, [] => []
  | k, .pl c :: r => (k, .pl c) :: ysOf (k + 1) r
  | k, .es c :: r => (k + 1, .es c) :: ysOf (k + 2) r
theorem ysOf_length : ∀ (k : Nat) (l : List It), (ysOf k l).length = l.length
  | _, [] => rfl
  | k, .pl c :: r => by simp [ysOf, ysOf_length (k + 1) r]
  | k, .es c :: r => by simp [ysOf, ysOf_length (k + 2) r]
noncomputable def tx (z : It) : Str := ⟨z.txt.toArray⟩

/-- elder objects, one left out, are as they were -/
structure Fwd (N : Addr → Prop) (L : Addr) (s s' : Shared) : Prop where
  old : ∀ b o, N b → b ≠ L → s.heap.get? b = some o → s'.heap.get? b = some o
  gens : s'.gens = s.gens
  os : s'.os = s.os
theorem Fwd.refl (N : Addr → Prop) (L : Addr) (s : Shared) : Fwd N L s s := ⟨fun _ _ _ _ e => e, rfl, rfl⟩
theorem Fwd.trans {N : Addr → Prop} {L : Addr} {s s' s'' : Shared} (a : Fwd N L s s') (b : Fwd N L s' s'') : Fwd N L s s'' := ⟨fun c o h1 h2 e => b.old c o h1 h2 (a.old c o h1 h2 e), b.gens.trans a.gens, b.os.trans a.os⟩
/-- what a generator has is as it was -/
noncomputable def Kept (N : Addr → Prop) (L : Addr) (s s' : Shared) : Prop := ∀ b o, (b = L ∨ ¬ N b) → s.heap.get? b = some o → s'.heap.get? b = some o

structure GenC where
  w : World
  x : Str
  N : Addr → Prop
  L : Addr
  K : Addr → Option Obj
  ys : List (Nat × It)
structure GenC.Ok (C : GenC) : Prop where
  top : TopK C.w.params C.K
  KL : C.K C.L = none
  LN : C.N C.L
  KN : ∀ b o, C.K b = some o → C.N b
noncomputable def GenC.Y (C : GenC) : Protocol := fun m s₀ v s' kap => ∃ p z U tk tz, C.ys[C.ys.length - 1 - m]? = some (p, z) ∧ v = .ref U ∧ (∀ b o, C.N b → b ≠ C.L → s₀.heap.get? b = some o → U ≠ b) ∧ s'.heap.get? U = some (tupO [.int p tk, .str (tx z) tz]) ∧ Fwd C.N C.L s₀ s' ∧
  ∀ s'', Kept C.N C.L s' s'' → Ext C.K s''.heap → kap (.send .none) s''
noncomputable def GenC.P (C : GenC) : Nat → Shared → Shared → Prop := fun n s₀ s₁ => n = 0 ∧ Fwd C.N C.L s₀ s₁
noncomputable abbrev GenC.R (C : GenC) : GenEnd := fun n s₀ r s₁ => r = .ok (.ret .none) ∧ C.P n s₀ s₁

/-- the frame, before and behind the first turn -/
noncomputable def GFr (C : GenC) (h : Heap) (e : Bool) : Prop := ∃ ka tx kp pz tp ke, h.get? C.L = some (gF3 C.w.params C.x ka tx kp (.int pz tp) ke e) ∨ ∃ kc xc tc, h.get? C.L = some (gF4 C.w.params C.x ka tx kp (.int pz tp) ke e kc (.str xc tc))
section
variable {C : GenC} (O : C.Ok) {A : Around} (hh : A.handled = none) (hd : A.depth + 300 < recursionLimit) {s : Shared} (hk : Ext C.K s.heap)
include O hk
theorem top_but : TopK C.w.params (but s.heap C.L) := O.top.mono fun b o e => by
  have q : b ≠ C.L := fun q => by rw [q, O.KL] at e; cases e
  rw [but_ne q]; exact hk b o e
omit O in
theorem ext_fwd {s' : Shared} (KN : ∀ b o, C.K b = some o → C.N b) (KL : C.K C.L = none) (f : Fwd C.N C.L s s') : Ext C.K s'.heap := fun b o e => f.old b o (KN b o e) (fun q => by rw [q, KL] at e; cases e) (hk b o e)
end
/-- behind a run that changed the frame alone -/
theorem fwd_of {N : Addr → Prop} {L : Addr} {s s' : Shared} (h : ∀ b ob, b ≠ L → s.heap.get? b = some ob → s'.heap.get? b = some ob) (g : s'.gens = s.gens) (o : s'.os = s.os) : Fwd N L s s' := ⟨fun b ob _ q e => h b ob q e, g, o⟩

section
variable {C : GenC} (O : C.Ok) {A : Around} (hh : A.handled = none) (hd : A.depth + 300 < recursionLimit) {s : Shared} (hk : Ext C.K s.heap)
include O hh hd hk
/-- the pair is taken apart -/
theorem g_assign {Q : Unit → Shared → Prop} {E : Value → Shared → Prop} {U : Addr} {e : Bool} {z1 : Int} {t1 : Nat} {x2 : Str} {t2 : Nat} (hf : GFr C s.heap e) (hU : s.heap.get? U = some (tupO [.int z1 t1, .str x2 t2])) (hne : C.L ≠ U)
    (hQ : ∀ s' ka tx kp ke kc, s'.heap.get? C.L = some (gF4 C.w.params C.x ka tx kp (.int z1 t1) ke e kc (.str x2 t2)) → (∀ b ob, b ≠ C.L → s.heap.get? b = some ob → s'.heap.get? b = some ob) → s'.gens = s.gens → s'.os = s.os → Q () s') :
    wpAny (model pw C.w) A (assign gParts.tgt (gEnv C.L) (.ref U)) Q E s := by
  show wpAny (model pw C.w) A (gTA U C.L) Q E s
  rw [PySem.W.Fast.te2070039061781427199]
  obtain ⟨ka, tx, kp, pz, tp, ke, h | ⟨kc, xc, tc, h⟩⟩ := hf
  · cases e with
    | false => exact two_run 90 U C.L _ _ _ _ _ _ (top_but O hk) hh hd hU h hne (fun ρ τ => kGA3f C.w.params ρ τ C.x ka tx kp pz tp ke z1 t1 x2 t2) fun ρ τ s' _ _ h' k g o => hQ s' _ _ _ _ _ h' k g o
    | true => exact two_run 90 U C.L _ _ _ _ _ _ (top_but O hk) hh hd hU h hne (fun ρ τ => kGA3t C.w.params ρ τ C.x ka tx kp pz tp ke z1 t1 x2 t2) fun ρ τ s' _ _ h' k g o => hQ s' _ _ _ _ _ h' k g o
  · cases e with
    | false => exact two_run 90 U C.L _ _ _ _ _ _ (top_but O hk) hh hd hU h hne (fun ρ τ => kGA4f C.w.params ρ τ C.x ka tx kp pz tp ke kc xc tc z1 t1 x2 t2) fun ρ τ s' _ _ h' k g o => hQ s' _ _ _ _ _ h' k g o
    | true => exact two_run 90 U C.L _ _ _ _ _ _ (top_but O hk) hh hd hU h hne (fun ρ τ => kGA4t C.w.params ρ τ C.x ka tx kp pz tp ke kc xc tc z1 t1 x2 t2) fun ρ τ s' _ _ h' k g o => hQ s' _ _ _ _ _ h' k g o
theorem g_test {Q : Bool → Shared → Prop} {E : Value → Shared → Prop} {e : Bool} {ka tx kp : Nat} {pz : Int} {tp ke kc : Nat} {xc : Str} {tc : Nat} (hf : s.heap.get? C.L = some (gF4 C.w.params C.x ka tx kp (.int pz tp) ke e kc (.str xc tc)))
    (hQ : ∀ s', s'.heap.get? C.L = some (gF4 C.w.params C.x ka tx kp (.int pz tp) ke e kc (.str xc tc)) → (∀ b ob, b ≠ C.L → s.heap.get? b = some ob → s'.heap.get? b = some ob) → s'.gens = s.gens → s'.os = s.os → Q e s') :
    wpAny (model pw C.w) A (isTrue gParts.test (gEnv C.L) (eval gParts.test (gEnv C.L))) Q E s := by
  show wpAny (model pw C.w) A (gTT C.L) Q E s
  rw [PySem.W.Fast.te4614935888924853003]
  cases e with
  | false => exact one_run 20 C.L _ _ _ _ _ (top_but O hk) hh hd hf (fun ρ τ => kGTf C.w.params ρ τ C.x ka tx kp pz tp ke kc xc tc) fun ρ τ s' _ h' k g o => hQ s' h' k g o
  | true => exact one_run 20 C.L _ _ _ _ _ (top_but O hk) hh hd hf (fun ρ τ => kGTt C.w.params ρ τ C.x ka tx kp pz tp ke kc xc tc) fun ρ τ s' _ h' k g o => hQ s' h' k g o
theorem g_cmp {Q : Bool → Shared → Prop} {E : Value → Shared → Prop} {c ka tx kp : Nat} {pz : Int} {tp ke kc tc : Nat} (hc : c = 34 ∨ c = 40 ∨ c = 41 ∨ c = 92) (hf : s.heap.get? C.L = some (gF4 C.w.params C.x ka tx kp (.int pz tp) ke false kc (.str ⟨#[c]⟩ tc)))
    (hQ : ∀ s', s'.heap.get? C.L = some (gF4 C.w.params C.x ka tx kp (.int pz tp) ke false kc (.str ⟨#[c]⟩ tc)) → (∀ b ob, b ≠ C.L → s.heap.get? b = some ob → s'.heap.get? b = some ob) → s'.gens = s.gens → s'.os = s.os → Q (c == 92) s') :
    wpAny (model pw C.w) A (isTrue gParts.cmp (gEnv C.L) (eval gParts.cmp (gEnv C.L))) Q E s := by
  show wpAny (model pw C.w) A (gTC C.L) Q E s
  rw [PySem.W.Fast.te7523793623671969720]
  rcases hc with rfl | rfl | rfl | rfl
  · exact one_run 30 C.L _ _ _ _ _ (top_but O hk) hh hd hf (fun ρ τ => kGC34 C.w.params ρ τ C.x ka tx kp pz tp ke kc tc) fun ρ τ s' _ h' k g o => hQ s' h' k g o
  · exact one_run 30 C.L _ _ _ _ _ (top_but O hk) hh hd hf (fun ρ τ => kGC40 C.w.params ρ τ C.x ka tx kp pz tp ke kc tc) fun ρ τ s' _ h' k g o => hQ s' h' k g o
  · exact one_run 30 C.L _ _ _ _ _ (top_but O hk) hh hd hf (fun ρ τ => kGC41 C.w.params ρ τ C.x ka tx kp pz tp ke kc tc) fun ρ τ s' _ h' k g o => hQ s' h' k g o
  · exact one_run 30 C.L _ _ _ _ _ (top_but O hk) hh hd hf (fun ρ τ => kGC92 C.w.params ρ τ C.x ka tx kp pz tp ke kc tc) fun ρ τ s' _ h' k g o => hQ s' h' k g o
theorem g_pair2 {Q : Value → Shared → Prop} {E : Value → Shared → Prop} {ka tx kp : Nat} {pz : Int} {tp ke kc : Nat} {xc : Str} {tc : Nat} (hf : s.heap.get? C.L = some (gF4 C.w.params C.x ka tx kp (.int pz tp) ke false kc (.str xc tc)))
    (hQ : ∀ s' U, s'.heap.get? C.L = some (gF4 C.w.params C.x ka tx kp (.int pz tp) ke false kc (.str xc tc)) → s'.heap.get? U = some (tupO [.int pz tp, .str xc tc]) → s.heap.get? U = none → (∀ b ob, b ≠ C.L → s.heap.get? b = some ob → s'.heap.get? b = some ob) → s'.gens = s.gens → s'.os = s.os → Q (.ref U) s') :
    wpAny (model pw C.w) A (eval gParts.e2 (gEnv C.L)) Q E s := by
  show wpAny (model pw C.w) A (gTE2 C.L) Q E s
  rw [PySem.W.Fast.te10591087441803288638]
  exact one_new 40 C.L _ _ _ _ _ _ (top_but O hk) hh hd hf (fun ρ τ => kGE2 C.w.params ρ τ C.x ka tx kp pz tp ke kc xc tc) fun ρ τ s' _ h' hU hn k g o => hQ s' _ h' hU hn k g o
theorem g_pair1 {Q : Value → Shared → Prop} {E : Value → Shared → Prop} {ka tx kp : Nat} {pz : Int} {tp ke kc c tc : Nat} (hf : s.heap.get? C.L = some (gF4 C.w.params C.x ka tx kp (.int pz tp) ke true kc (.str ⟨#[c]⟩ tc)))
    (hQ : ∀ s' U tz, s'.heap.get? C.L = some (gF4 C.w.params C.x ka tx kp (.int pz tp) ke true kc (.str ⟨#[c]⟩ tc)) → s'.heap.get? U = some (tupO [.int pz tp, .str ⟨#[92, c]⟩ tz]) → s.heap.get? U = none → (∀ b ob, b ≠ C.L → s.heap.get? b = some ob → s'.heap.get? b = some ob) → s'.gens = s.gens → s'.os = s.os → Q (.ref U) s') :
    wpAny (model pw C.w) A (eval gParts.e1 (gEnv C.L)) Q E s := by
  show wpAny (model pw C.w) A (gTE1 C.L) Q E s
  rw [PySem.W.Fast.te8326441647869710077]
  exact one_new 40 C.L _ _ _ _ _ _ (top_but O hk) hh hd hf (fun ρ τ => kGE1 C.w.params ρ τ C.x ka tx kp pz tp ke kc c tc) fun ρ τ s' _ h' hU hn k g o => hQ s' _ _ h' hU hn k g o
theorem g_setF {Q : Flow → Shared → Prop} {E : Value → Shared → Prop} {ka tx kp : Nat} {pz : Int} {tp ke kc : Nat} {xc : Str} {tc : Nat} (hf : s.heap.get? C.L = some (gF4 C.w.params C.x ka tx kp (.int pz tp) ke true kc (.str xc tc)))
    (hQ : ∀ s', s'.heap.get? C.L = some (gF4 C.w.params C.x ka tx kp (.int pz tp) ke false kc (.str xc tc)) → (∀ b ob, b ≠ C.L → s.heap.get? b = some ob → s'.heap.get? b = some ob) → s'.gens = s.gens → s'.os = s.os → Q .next s') :
    wpAny (model pw C.w) A (exec gParts.sF (gEnv C.L)) Q E s := by
  rw [exec_eq]
  show wpAny (model pw C.w) A (gTF C.L) Q E s
  rw [PySem.W.Fast.te13834667466142098148]
  exact one_run 30 C.L _ _ _ _ _ (top_but O hk) hh hd hf (fun ρ τ => kGF C.w.params ρ τ C.x ka tx kp pz tp ke kc xc tc) fun ρ τ s' _ h' k g o => hQ s' h' k g o
theorem g_setT {Q : Flow → Shared → Prop} {E : Value → Shared → Prop} {ka tx kp : Nat} {pz : Int} {tp ke kc : Nat} {xc : Str} {tc : Nat} (hf : s.heap.get? C.L = some (gF4 C.w.params C.x ka tx kp (.int pz tp) ke false kc (.str xc tc)))
    (hQ : ∀ s', s'.heap.get? C.L = some (gF4 C.w.params C.x ka tx kp (.int pz tp) ke true kc (.str xc tc)) → (∀ b ob, b ≠ C.L → s.heap.get? b = some ob → s'.heap.get? b = some ob) → s'.gens = s.gens → s'.os = s.os → Q .next s') :
    wpAny (model pw C.w) A (exec gParts.sT (gEnv C.L)) Q E s := by
  rw [exec_eq]
  show wpAny (model pw C.w) A (gTS C.L) Q E s
  rw [PySem.W.Fast.te15532230255015259996]
  exact one_run 30 C.L _ _ _ _ _ (top_but O hk) hh hd hf (fun ρ τ => kGS C.w.params ρ τ C.x ka tx kp pz tp ke kc xc tc) fun ρ τ s' _ h' k g o => hQ s' h' k g o
theorem g_last {Q : Flow → Shared → Prop} {E : Value → Shared → Prop} (hf : GFr C s.heap false)
    (hQ : ∀ s', (∀ b ob, b ≠ C.L → s.heap.get? b = some ob → s'.heap.get? b = some ob) → s'.gens = s.gens → s'.os = s.os → Q .next s') :
    wpAny (model pw C.w) A (exec gParts.b3 (gEnv C.L)) Q E s := by
  rw [exec_eq]
  show wpAny (model pw C.w) A (gT3 C.L) Q E s
  rw [PySem.W.Fast.te8719973603514822953]
  obtain ⟨ka, tx, kp, pz, tp, ke, h | ⟨kc, xc, tc, h⟩⟩ := hf
  · exact one_run 20 C.L _ _ _ _ _ (top_but O hk) hh hd h (fun ρ τ => kG33 C.w.params ρ τ C.x ka tx kp pz tp ke) fun ρ τ s' _ h' k g o => hQ s' k g o
  · exact one_run 20 C.L _ _ _ _ _ (top_but O hk) hh hd h (fun ρ τ => kG34 C.w.params ρ τ C.x ka tx kp pz tp ke kc xc tc) fun ρ τ s' _ h' k g o => hQ s' k g o
end
noncomputable def tupElts : Expr → List Expr
  | .Tuple es _ _ => es
  | _ => []
theorem gTgt_eq : gParts.tgt = .Tuple (tupElts gParts.tgt) 0 gParts.tgt.pos := by kernel_rfl!
theorem over1 {A : Around} (hh : A.handled = none) (hd : A.depth + 310 < recursionLimit) {c c₁ : Code} {k : Result → Sem Fin} {g : Bool} {l : List Value} {p : Pos} {kp : List Value} (h1 : c.weight ≤ 3) (h2 : c₁.weight ≤ 3) :
    (A.over c [.ret k none g l c₁ p kp]).handled = none ∧ (A.over c [.ret k none g l c₁ p kp]).depth + 300 < recursionLimit := by
  constructor
  · show (marksOver [Frame.ret k none g l c₁ p kp] (A.handled, A.handled)).1 = none
    rw [hh]; rfl
  · show A.depth + frameCount ([Frame.ret k none g l c₁ p kp].map Frame.where_) + c.weight + 300 < recursionLimit
    have : frameCount ([Frame.ret k none g l c₁ p kp].map Frame.where_) = c₁.weight := by simp [frameCount, Frame.where_]
    rw [this]; omega
theorem over0 {A : Around} (hh : A.handled = none) (hd : A.depth + 310 < recursionLimit) {c : Code} (h1 : c.weight ≤ 3) : (A.over c []).handled = none ∧ (A.over c []).depth + 300 < recursionLimit := by
  constructor
  · show (marksOver [] (A.handled, A.handled)).1 = none
    rw [hh]; rfl
  · show A.depth + frameCount ([].map Frame.where_) + c.weight + 300 < recursionLimit
    simp only [List.map_nil, frameCount, List.sum_nil]; omega
theorem weight_for (t : Expr) (v : Value) (b o : List Stmt) (env : Env) : (Code.forLoop t v b o env).weight ≤ 3 := by
  have : (Code.forLoop t v b o env).weight = 0 := by rfl
  omega
theorem weight_func (b : List Stmt) (env : Env) : (Code.func b env).weight ≤ 3 := by
  have : (Code.func b env).weight = 1 := by rfl
  omega

/-- the loop's state: k signs are taken -/
structure GL (C : GenC) (h : Heap) (e it : Addr) (t : Tok) (k : Nat) (esc : Bool) : Prop where
  fr : GFr C h esc
  en : ∃ old, IsEnum h e it (k : Nat) old
  st : h.IsStrIter it "str_ascii_iterator" C.x t k
noncomputable abbrev gCode (C : GenC) (e : Addr) : Code := .forLoop gParts.tgt (.ref e) gLoop [] (gEnv C.L)
noncomputable def gK (C : GenC) (e : Addr) : Flow → Sem Fin := fun f => match f with
  | .next | .cont => .pure (.again (gCode C e))
  | .brk => .pure (.done .next)
  | .ret v => .pure (.done (.ret v))
section
variable {C : GenC} (O : C.Ok) {A : Around} {fs : List Frame} {e it : Addr} {t : Tok} (hh : (A.over (gCode C e) fs).handled = none) (hd : (A.over (gCode C e) fs).depth + 300 < recursionLimit)
  (eN : ¬ C.N e) (iN : ¬ C.N it) (ne : e ≠ it)
theorem GL.kept {h h' : Heap} {k : Nat} {esc : Bool} (g : GL C h e it t k esc) (eN : ¬ C.N e) (iN : ¬ C.N it) (hk : ∀ b o, (b = C.L ∨ ¬ C.N b) → h.get? b = some o → h'.get? b = some o) : GL C h' e it t k esc := by
  obtain ⟨⟨ka, tx, kp, pz, tp, ke, hf⟩, ⟨old, he⟩, ⟨o, ho, r⟩⟩ := g
  refine ⟨⟨ka, tx, kp, pz, tp, ke, ?_⟩, ⟨old, hk _ _ (.inr eN) he⟩, ⟨o, hk _ _ (.inr iN) ho, r⟩⟩
  rcases hf with hf | ⟨kc, xc, tc, hf⟩
  · exact .inl (hk _ _ (.inl rfl) hf)
  · exact .inr ⟨kc, xc, tc, hk _ _ (.inl rfl) hf⟩
include O hh hd eN iN ne
theorem g_turn {n k c : Nat} {s₀ s : Shared} {esc : Bool} (hc : C.x.cps[k]? = some c) (hk : Ext C.K s.heap) (G : GL C s.heap e it t k esc)
    (next : ∀ s₃ ka tx kp tk ke kc u, Fwd C.N C.L s s₃ → Ext C.K s₃.heap → s₃.heap.get? C.L = some (gF4 C.w.params C.x ka tx kp (.int k tk) ke esc kc (.str ⟨#[c]⟩ u)) → (∃ old, IsEnum s₃.heap e it ((k + 1 : Nat) : Int) old) →
      s₃.heap.IsStrIter it "str_ascii_iterator" C.x t (k + 1) → ∀ H, Seg (model pw C.w) A C.R C.Y n s₀ (gCode C e) ((execs gLoop (gEnv C.L)).wrap (gK C e) H id id) fs s₃) :
    Seg (model pw C.w) A C.R C.Y n s₀ (gCode C e) ((model pw C.w).den (gCode C e)) fs s := by
  obtain ⟨hfr, ⟨old, hen⟩, hst⟩ := G
  have hLe : C.L ≠ e := fun q => eN (q ▸ O.LN)
  have hLi : C.L ≠ it := fun q => iN (q ▸ O.LN)
  refine seg_forLoop (wpAny_pyNext_enum_itemD (Draws.strAscii (A := (A.over (gCode C e) fs).in1) hh it C.x t) hen hst (by simpa using (Array.getElem?_eq_some_iff.mp hc).1) ne (by simpa using ne) fun x h' tk hx heo hst' htup hsz hkeep => ?_)
  obtain ⟨c', u, hc', rfl⟩ := hx
  rw [hc] at hc'
  cases hc'
  rw [gTgt_eq]
  refine wpAny_letOwnedTupleGo_enum heo fun h₂ hen₂ hs₂ => ?_
  replace hs₂ : Heap.SameBut e h' h₂ := hs₂
  have hUe : s.heap.objs.size ≠ e := Nat.ne_of_gt (Heap.lt_size hen)
  obtain ⟨io, hio, hir⟩ := id hst
  have hsizeN : ∀ b o, s.heap.get? b = some o → b ≠ s.heap.objs.size := fun b o q => Nat.ne_of_lt (Heap.lt_size q)
  have old₂ : ∀ b o, C.N b → s.heap.get? b = some o → h₂.get? b = some o := fun b o hb q => by
    have q1 : b ≠ e := fun q => eN (q ▸ hb)
    have q2 : b ≠ it := fun q => iN (q ▸ hb)
    rw [hs₂.2 b q1]; exact hkeep b o q1 q2 q
  have hk₂ : Ext C.K h₂ := fun b o q => old₂ b o (O.KN b o q) (hk b o q)
  have hf₂ : GFr C h₂ esc := by
    obtain ⟨ka, tx, kp, pz, tp, ke, h | ⟨kc, xc, tc, h⟩⟩ := hfr
    · exact ⟨ka, tx, kp, pz, tp, ke, .inl (old₂ _ _ O.LN h)⟩
    · exact ⟨ka, tx, kp, pz, tp, ke, .inr ⟨kc, xc, tc, old₂ _ _ O.LN h⟩⟩
  have hU : h₂.get? s.heap.objs.size = some (tupO [.int k tk, .str ⟨#[c]⟩ u]) := by rw [hs₂.2 _ hUe]; exact htup
  have hLU : C.L ≠ s.heap.objs.size := by
    obtain ⟨ka, tx, kp, pz, tp, ke, h | ⟨kc, xc, tc, h⟩⟩ := hfr
    · exact hsizeN _ _ h
    · exact hsizeN _ _ h
  rw [← gTgt_eq]
  refine g_assign O hh hd (s := { s with heap := h₂, toks := tk + 1 }) hk₂ hf₂ hU hLU fun s₃ ka tx kp ke kc h₃ k₃ g₃ o₃ => ?_
  refine next s₃ ka tx kp tk ke kc u ⟨fun b o hb hL q => k₃ b o hL (old₂ b o hb q), g₃, o₃⟩ (fun b o q => k₃ b o (fun z => by rw [z, O.KL] at q; cases q) (hk₂ b o q)) h₃ ⟨_, k₃ e _ (Ne.symm hLe) hen₂⟩ ?_
  have hst₂ : h₂.IsStrIter it "str_ascii_iterator" C.x t (k + 1) := hst'.extBut hs₂.extBut (Ne.symm ne)
  obtain ⟨o₂, ho₂, r₂⟩ := hst₂
  exact ⟨o₂, k₃ it _ (Ne.symm hLi) ho₂, r₂⟩

theorem gen_loop (hsp : splitAtGen fs = none) (hgd : fs.any Frame.guarded = false)
    (fin : ∀ s₀ s, Fwd C.N C.L s₀ s → Ext C.K s.heap → GFr C s.heap false → Seg (model pw C.w) A C.R C.Y 0 s₀ (.block [] (gEnv C.L)) (.pure (.done .next)) fs s) :
    ∀ (rs : List It) (k : Nat) (s₀ s : Shared), (∀ z ∈ rs, z.Ok) → k + (flat rs).length = C.x.cps.size → C.x.cps.toList.drop k = flat rs → rs.length ≤ C.ys.length → C.ys.drop (C.ys.length - rs.length) = ysOf k rs →
      Fwd C.N C.L s₀ s → Ext C.K s.heap → GL C s.heap e it t k false → Seg (model pw C.w) A C.R C.Y rs.length s₀ (gCode C e) ((model pw C.w).den (gCode C e)) fs s := by
  intro rs
  induction rs with
  | nil =>
    intro k s₀ s _ hk0 _ _ _ hF hk G
    obtain ⟨hfr, ⟨old, hen⟩, hst⟩ := G
    have hks : k = C.x.cps.size := by simpa [flat] using hk0
    subst hks
    refine seg_forLoop (wpAny_pyNext_enum_endD (Draws.strAscii (A := (A.over (gCode C e) fs).in1) hh it C.x t) hen hst fun h' hx => ?_)
    have hold : ∀ b o, C.N b → s.heap.get? b = some o → h'.get? b = some o := fun b o hb q => hx b o (fun q => iN (q ▸ hb)) q
    refine seg_block_nil (fin s₀ _ ⟨fun b o hb hL q => hold b o hb (hF.old b o hb hL q), hF.gens, hF.os⟩ (fun b o q => hold b o (O.KN b o q) (hk b o q)) ?_)
    obtain ⟨ka, tx, kp, pz, tp, ke, h | ⟨kc, xc, tc, h⟩⟩ := hfr
    · exact ⟨ka, tx, kp, pz, tp, ke, .inl (hold _ _ O.LN h)⟩
    · exact ⟨ka, tx, kp, pz, tp, ke, .inr ⟨kc, xc, tc, hold _ _ O.LN h⟩⟩
  | cons z rs ih =>
    intro k s₀ s hok hk0 hdrop hlen hys hF hk G
    have hidx : C.ys[C.ys.length - 1 - rs.length]? = (ysOf k (z :: rs))[0]? := by
      rw [← hys, List.getElem?_drop, Nat.add_zero]
      congr 1
      simp only [List.length_cons]
      omega
    have hys' : C.ys.drop (C.ys.length - rs.length) = (ysOf k (z :: rs)).drop 1 := by
      rw [← hys, List.drop_drop]
      congr 1
      simp only [List.length_cons] at hlen ⊢
      omega
    cases z with
    | pl c =>
      have hc : C.x.cps[k]? = some c := by
        have : (C.x.cps.toList.drop k)[0]? = some c := by rw [hdrop]; rfl
        rw [List.getElem?_drop, Nat.add_zero] at this
        simpa using this
      have hcc := hok (.pl c) (List.mem_cons_self ..)
      refine g_turn O hh hd eN iN ne hc hk G fun s₃ ka tx' kp tk ke kc u hF₃ hk₃ hf₃ hen₃ hst₃ H => ?_
      refine seg_execs_cons (seg_If (g_test O hh hd hk₃ hf₃ fun s₄ hf₄ k₄ g₄ o₄ => ?_))
      have hF₄ := hF₃.trans (fwd_of (N := C.N) k₄ g₄ o₄)
      have hk₄ : Ext C.K s₄.heap := ext_fwd hk₃ O.KN O.KL (fwd_of (N := C.N) k₄ g₄ o₄)
      refine seg_execs_cons (seg_If (g_cmp O hh hd hk₄ (by rcases hcc with h | h | h <;> simp [h]) hf₄ fun s₅ hf₅ k₅ g₅ o₅ => ?_))
      have hne92 : (c == 92) = false := by rcases hcc with h | h | h <;> simp [h]
      rw [hne92]
      have hF₅ := hF₄.trans (fwd_of (N := C.N) k₅ g₅ o₅)
      have hk₅ : Ext C.K s₅.heap := ext_fwd hk₄ O.KN O.KL (fwd_of (N := C.N) k₅ g₅ o₅)
      refine seg_execs_cons (seg_Expr_Yield hsp rfl hgd (g_pair2 O hh hd hk₅ hf₅ fun s₆ U hf₆ hU hUn k₆ g₆ o₆ => fun kap hkap => ?_))
      have hF₆ := hF₅.trans (fwd_of (N := C.N) k₆ g₆ o₆)
      refine ⟨k, .pl c, U, tk, u, by rw [hidx]; rfl, rfl, fun b o hb hL q z => ?_, hU, hF.trans hF₆, fun s'' hkept hext => hkap .none s'' ?_⟩
      · subst z
        have := hF₅.old U o hb hL (hF.old U o hb hL q)
        rw [hUn] at this; cases this
      · refine seg_again rfl (ih (k + 1) s'' s'' (fun z hz => hok z (List.mem_cons_of_mem _ hz)) ?_ ?_ (by simp only [List.length_cons] at hlen; omega) (by rw [hys']; rfl) (Fwd.refl _ _ _) hext ?_)
        · simp only [flat, List.flatMap_cons, It.txt, List.length_append, List.length_cons, List.length_nil] at hk0 ⊢; omega
        · have : C.x.cps.toList.drop (k + 1) = (C.x.cps.toList.drop k).drop 1 := by rw [List.drop_drop]
          rw [this, hdrop]; rfl
        · have hLe : C.L ≠ e := fun q => eN (q ▸ O.LN)
          have hLi : C.L ≠ it := fun q => iN (q ▸ O.LN)
          obtain ⟨old, hen'⟩ := hen₃
          obtain ⟨oi, hoi, ri⟩ := hst₃
          have up : ∀ b o, b ≠ C.L → s₃.heap.get? b = some o → s₆.heap.get? b = some o := fun b o q r => k₆ b o q (k₅ b o q (k₄ b o q r))
          exact GL.kept ⟨⟨ka, tx', kp, _, _, ke, .inr ⟨kc, _, _, hf₆⟩⟩, ⟨old, up e _ (Ne.symm hLe) hen'⟩, ⟨oi, up it _ (Ne.symm hLi) hoi, ri⟩⟩ eN iN hkept
    | es c =>
      have hc : C.x.cps[k]? = some 92 := by
        have : (C.x.cps.toList.drop k)[0]? = some 92 := by rw [hdrop]; rfl
        rw [List.getElem?_drop, Nat.add_zero] at this
        simpa using this
      have hc2 : C.x.cps[k + 1]? = some c := by
        have : (C.x.cps.toList.drop k)[1]? = some c := by rw [hdrop]; rfl
        rw [List.getElem?_drop] at this
        simpa using this
      refine g_turn O hh hd eN iN ne hc hk G fun s₃ ka tx' kp tk ke kc u hF₃ hk₃ hf₃ hen₃ hst₃ H => ?_
      refine seg_execs_cons (seg_If (g_test O hh hd hk₃ hf₃ fun s₄ hf₄ k₄ g₄ o₄ => ?_))
      have hF₄ := hF₃.trans (fwd_of (N := C.N) k₄ g₄ o₄)
      have hk₄ : Ext C.K s₄.heap := ext_fwd hk₃ O.KN O.KL (fwd_of (N := C.N) k₄ g₄ o₄)
      refine seg_execs_cons (seg_If (g_cmp O hh hd hk₄ (.inr (.inr (.inr rfl))) hf₄ fun s₅ hf₅ k₅ g₅ o₅ => ?_))
      have hF₅ := hF₄.trans (fwd_of (N := C.N) k₅ g₅ o₅)
      have hk₅ : Ext C.K s₅.heap := ext_fwd hk₄ O.KN O.KL (fwd_of (N := C.N) k₅ g₅ o₅)
      refine seg_execs_cons (seg_stmt (g_setT O hh hd hk₅ hf₅ fun s₆ hf₆ k₆ g₆ o₆ => ?_))
      have hF₆ := hF₅.trans (fwd_of (N := C.N) k₆ g₆ o₆)
      have hk₆ : Ext C.K s₆.heap := ext_fwd hk₅ O.KN O.KL (fwd_of (N := C.N) k₆ g₆ o₆)
      have hLe : C.L ≠ e := fun q => eN (q ▸ O.LN)
      have hLi : C.L ≠ it := fun q => iN (q ▸ O.LN)
      have G₆ : GL C s₆.heap e it t (k + 1) true := by
        obtain ⟨old, hen'⟩ := hen₃
        obtain ⟨oi, hoi, ri⟩ := hst₃
        have up : ∀ b o, b ≠ C.L → s₃.heap.get? b = some o → s₆.heap.get? b = some o := fun b o q r => k₆ b o q (k₅ b o q (k₄ b o q r))
        exact ⟨⟨ka, tx', kp, _, _, ke, .inr ⟨kc, _, _, hf₆⟩⟩, ⟨old, up e _ (Ne.symm hLe) hen'⟩, ⟨oi, up it _ (Ne.symm hLi) hoi, ri⟩⟩
      refine seg_again rfl (g_turn O hh hd eN iN ne hc2 hk₆ G₆ fun s₇ ka' tx'' kp' tk' ke' kc' u' hF₇ hk₇ hf₇ hen₇ hst₇ H => ?_)
      refine seg_execs_cons (seg_If (g_test O hh hd hk₇ hf₇ fun s₈ hf₈ k₈ g₈ o₈ => ?_))
      have hF₈ := hF₇.trans (fwd_of (N := C.N) k₈ g₈ o₈)
      have hk₈ : Ext C.K s₈.heap := ext_fwd hk₇ O.KN O.KL (fwd_of (N := C.N) k₈ g₈ o₈)
      refine seg_execs_cons (seg_Expr_Yield hsp rfl hgd (g_pair1 O hh hd hk₈ hf₈ fun s₉ U tz hf₉ hU hUn k₉ g₉ o₉ => fun kap hkap => ?_))
      have hF₉ := hF₈.trans (fwd_of (N := C.N) k₉ g₉ o₉)
      refine ⟨k + 1, .es c, U, tk', tz, by rw [hidx]; rfl, rfl, fun b o hb hL q z => ?_, hU, hF.trans (hF₆.trans hF₉), fun s'' hkept hext => hkap .none s'' ?_⟩
      · subst z
        have := hF₈.old U o hb hL (hF₆.old U o hb hL (hF.old U o hb hL q))
        rw [hUn] at this; cases this
      · have G'' : GL C s''.heap e it t (k + 2) true := by
          obtain ⟨old, hen'⟩ := hen₇
          obtain ⟨oi, hoi, ri⟩ := hst₇
          have up : ∀ b o, b ≠ C.L → s₇.heap.get? b = some o → s₉.heap.get? b = some o := fun b o q r => k₉ b o q (k₈ b o q r)
          exact GL.kept ⟨⟨ka', tx'', kp', _, _, ke', .inr ⟨kc', _, _, hf₉⟩⟩, ⟨old, up e _ (Ne.symm hLe) hen'⟩, ⟨oi, up it _ (Ne.symm hLi) hoi, ri⟩⟩ eN iN hkept
        have hf'' : s''.heap.get? C.L = some (gF4 C.w.params C.x ka' tx'' kp' (.int ((k + 1 : Nat) : Int) tk') ke' true kc' (.str ⟨#[c]⟩ u')) := hkept _ _ (.inl rfl) hf₉
        refine seg_execs_cons (seg_stmt (g_setF O hh hd hext hf'' fun s₁ hf₁ k₁ g₁ o₁ => ?_))
        have hk₁ : Ext C.K s₁.heap := ext_fwd hext O.KN O.KL (fwd_of (N := C.N) k₁ g₁ o₁)
        refine seg_again rfl (ih (k + 2) s'' s₁ (fun z hz => hok z (List.mem_cons_of_mem _ hz)) ?_ ?_ (by simp only [List.length_cons] at hlen; omega) (by rw [hys']; rfl) (fwd_of k₁ g₁ o₁) hk₁ ?_)
        · simp only [flat, List.flatMap_cons, It.txt, List.length_append, List.length_cons, List.length_nil] at hk0 ⊢; omega
        · have : C.x.cps.toList.drop (k + 2) = (C.x.cps.toList.drop k).drop 2 := by rw [List.drop_drop]
          rw [this, hdrop]; rfl
        · obtain ⟨_, ⟨old, hen'⟩, ⟨oi, hoi, ri⟩⟩ := G''
          exact ⟨⟨ka', tx'', kp', _, _, ke', .inr ⟨kc', _, _, hf₁⟩⟩, ⟨old, k₁ e _ (Ne.symm hLe) hen'⟩, ⟨oi, k₁ it _ (Ne.symm hLi) hoi, ri⟩⟩
end
noncomputable def hkE : Nat → Hk
  | 0 => enumHk
  | _ + 1 => noHk
theorem hkE_loc : ∀ n, HLoc (hkE n)
  | 0 => enumHk_loc
  | _ + 1 => noHk_loc
theorem hkE_ok (w : World) (B : Bs) (r : Nat) : ∀ n, HOk pw w B r (hkE n)
  | 0 => enumHk_ok w B r
  | _ + 1 => noHk_ok pw w B r
theorem kGI (P : Params) (ρ τ : Nat → Nat) (x : Str) (ka tx kp : Nat) (pz : Int) (tp ke : Nat) :
    (runE (GG P 0 hkE) ρ τ 30 (.top (PySem.W.Fast.tw7521704001401040748 (ρ 0))) (mkT [gF3 P x ka tx kp (.int pz tp) ke false]) 1 0 1074790400 [] []).said [0, 1, 2] =
      (some (.ref (ρ 2)), (runE (GG P 0 hkE) ρ τ 30 (.top (PySem.W.Fast.tw7521704001401040748 (ρ 0))) (mkT [gF3 P x ka tx kp (.int pz tp) ke false]) 1 0 1074790400 [] []).owed, [], [some (gF3 P x ka tx kp (.int pz tp) ke false), some (siO x tx), some (enO (ρ 1))]) := by kernel_rfl!

section
variable {C : GenC} (O : C.Ok) {A : Around} (hh : A.handled = none) (hd : A.depth + 300 < recursionLimit) {s : Shared} (hk : Ext C.K s.heap)
include O hh hd hk
theorem g_b0 {Q : Flow → Shared → Prop} {E : Value → Shared → Prop} {ka tx : Nat} (hf : s.heap.get? C.L = some (fro C.w.params [(nAddr, ka, .str C.x tx)]))
    (hQ : ∀ s' kp tp, s'.heap.get? C.L = some (fro C.w.params [(nAddr, ka, .str C.x tx), (nPos, kp, .int 0 tp)]) → (∀ b ob, b ≠ C.L → s.heap.get? b = some ob → s'.heap.get? b = some ob) → s'.gens = s.gens → s'.os = s.os → Q .next s') :
    wpAny (model pw C.w) A (exec gParts.b0 (gEnv C.L)) Q E s := by
  rw [exec_eq]
  show wpAny (model pw C.w) A (gT0 C.L) Q E s
  rw [PySem.W.Fast.te8056147025721891722]
  exact one_run 30 C.L _ _ _ _ _ (top_but O hk) hh hd hf (fun ρ τ => kG0 C.w.params ρ τ C.x ka tx) fun ρ τ s' _ h' k g o => hQ s' _ _ h' k g o
theorem g_b1 {Q : Flow → Shared → Prop} {E : Value → Shared → Prop} {ka tx kp : Nat} {pz : Int} {tp : Nat} (hf : s.heap.get? C.L = some (fro C.w.params [(nAddr, ka, .str C.x tx), (nPos, kp, .int pz tp)]))
    (hQ : ∀ s' ke, s'.heap.get? C.L = some (gF3 C.w.params C.x ka tx kp (.int pz tp) ke false) → (∀ b ob, b ≠ C.L → s.heap.get? b = some ob → s'.heap.get? b = some ob) → s'.gens = s.gens → s'.os = s.os → Q .next s') :
    wpAny (model pw C.w) A (exec gParts.b1 (gEnv C.L)) Q E s := by
  rw [exec_eq]
  show wpAny (model pw C.w) A (gT1 C.L) Q E s
  rw [PySem.W.Fast.te7942431322078242234]
  exact one_run 30 C.L _ _ _ _ _ (top_but O hk) hh hd hf (fun ρ τ => kG1 C.w.params ρ τ C.x ka tx kp pz tp) fun ρ τ s' _ h' k g o => hQ s' _ h' k g o
theorem g_iter {Q : Value → Shared → Prop} {E : Value → Shared → Prop} {ka tx kp : Nat} {pz : Int} {tp ke : Nat} (hf : s.heap.get? C.L = some (gF3 C.w.params C.x ka tx kp (.int pz tp) ke false))
    (hQ : ∀ s' e it, s'.heap.get? C.L = some (gF3 C.w.params C.x ka tx kp (.int pz tp) ke false) → s'.heap.get? e = some (enO it) → s'.heap.get? it = some (siO C.x tx) → s.heap.get? e = none → s.heap.get? it = none → e ≠ it → (∀ b ob, b ≠ C.L → s.heap.get? b = some ob → s'.heap.get? b = some ob) → s'.gens = s.gens → s'.os = s.os → Q (.ref e) s') :
    wpAny (model pw C.w) A (eval gParts.iter (gEnv C.L)) Q E s := by
  show wpAny (model pw C.w) A (gTI C.L) Q E s
  rw [PySem.W.Fast.te7521704001401040748]
  refine engF (B := bsBut s C.L) (H := hkE) 0 30 [C.L] (fun ρ => PySem.W.Fast.tw7521704001401040748 (ρ 0)) (fun _ => [gF3 C.w.params C.x ka tx kp (.int pz tp) ke false]) 1074790400 [0, 1, 2] (fun ρ _ => .ref (ρ 2)) (fun _ _ => [])
    (fun ρ _ => [some (gF3 C.w.params C.x ka tx kp (.int pz tp) ke false), some (siO C.x tx), some (enO (ρ 1))]) (top_but O hk) hh hd hkE_loc (hkE_ok C.w _ 0) ?_ (fun ρ' aρ => ?_) (fun _ _ => rfl) (fun ρ τ => kGI C.w.params ρ τ C.x ka tx kp pz tp ke) (fun _ _ _ => trivial) fun ρ τ T m s' aρ R e => ?_
  · refine Rep.make 0 _ [_] (but_ext _ _) rfl rfl (fun i ob e => ?_) (fun i _ hi => ?_) (fun i j _ hi hj _ => ?_)
    · cases i with
      | zero => cases e; exact hf
      | succ i => cases e
    · have : i = 0 := by simp at hi; exact hi
      subst this; exact but_self _ _
    · simp at hi hj; rw [hi, hj]
  · show PySem.W.Fast.tw7521704001401040748 (ρ' 0) = PySem.W.Fast.tw7521704001401040748 (adr [C.L] 0)
    rw [aρ 0 (Nat.zero_lt_one)]
  · have e0 : ρ 0 = C.L := aρ 0 (Nat.zero_lt_one)
    simp only [List.map_cons, List.map_nil, List.cons.injEq, and_true] at e
    obtain ⟨q0, q1, q2⟩ := e
    have z0 : (0 : Nat) ≤ 1 := Nat.zero_le 1
    have n1 : ρ 1 ≠ C.L := fun q => by have := R.inj 1 0 _ _ (Nat.zero_le _) q1 q0 (q.trans e0.symm); cases this
    have n2 : ρ 2 ≠ C.L := fun q => by have := R.inj 2 0 _ _ (Nat.zero_le _) q2 q0 (q.trans e0.symm); cases this
    have n12 : ρ 2 ≠ ρ 1 := fun q => by have := R.inj 2 1 _ _ (Nat.zero_le _) q2 q1 q; cases this
    have f1 : but s.heap C.L (ρ 1) = none := R.new 1 _ (Nat.zero_le _) q1
    have f2 : but s.heap C.L (ρ 2) = none := R.new 2 _ (Nat.zero_le _) q2
    rw [but_ne n1] at f1
    rw [but_ne n2] at f2
    exact hQ s' (ρ 2) (ρ 1) (by rw [← e0]; exact (R.own 0 _ q0).2) (R.own 2 _ q2).2 (R.own 1 _ q1).2 f2 f1 n12 (fun b ob q e' => R.keep b ob (by show but s.heap C.L b = _; rw [but_ne q]; exact e')) R.gens R.os
end
theorem gen_start {C : GenC} (O : C.Ok) {A : Around} (hh : A.handled = none) (hd : A.depth + 310 < recursionLimit) (hasc : C.x.cps.all (· < 128) = true) (its : List It) (hok : ∀ z ∈ its, z.Ok) (hx : C.x.cps.toList = flat its) (hys : C.ys = ysOf 0 its)
    {s : Shared} (hk : Ext C.K s.heap) (pers : ∀ b, C.N b → b ≠ C.L → ∃ o, s.heap.get? b = some o) {ka tx : Nat} (hf : s.heap.get? C.L = some (fro C.w.params [(nAddr, ka, .str C.x tx)])) :
    Seg (model pw C.w) A C.R C.Y its.length s (.func (bodyOf 1) (gEnv C.L)) ((model pw C.w).den (.func (bodyOf 1) (gEnv C.L))) [] s := by
  rw [gBody_eq]
  obtain ⟨h0, d0⟩ := over0 hh hd (weight_func [gParts.b0, gParts.b1, .For gParts.tgt gParts.iter gLoop [] gParts.pf, gParts.b3] (gEnv C.L))
  refine seg_func (seg_execs_cons (seg_stmt (g_b0 O h0 d0 hk hf fun s₁ kp tp hf₁ k₁ g₁ o₁ => ?_)))
  have F₁ := fwd_of (N := C.N) k₁ g₁ o₁
  have hk₁ := ext_fwd hk O.KN O.KL F₁
  refine seg_execs_cons (seg_stmt (g_b1 O h0 d0 hk₁ hf₁ fun s₂ ke hf₂ k₂ g₂ o₂ => ?_))
  have F₂ := F₁.trans (fwd_of (N := C.N) k₂ g₂ o₂)
  have hk₂ := ext_fwd hk O.KN O.KL F₂
  refine seg_execs_cons (seg_For (g_iter O h0 d0 hk₂ hf₂ fun s₃ e it hf₃ he hi fe fi hne k₃ g₃ o₃ => ?_) (fun _ => rfl))
  have F₃ := F₂.trans (fwd_of (N := C.N) k₃ g₃ o₃)
  have hk₃ := ext_fwd hk O.KN O.KL F₃
  have there : ∀ b, C.N b → ∃ o, s₂.heap.get? b = some o := fun b hb => by
    by_cases q : b = C.L
    · exact ⟨_, q ▸ hf₂⟩
    · obtain ⟨o, ho⟩ := pers b hb q
      exact ⟨o, F₂.old b o hb q ho⟩
  have eN : ¬ C.N e := fun q => by obtain ⟨o, ho⟩ := there e q; rw [fe] at ho; cases ho
  have iN : ¬ C.N it := fun q => by obtain ⟨o, ho⟩ := there it q; rw [fi] at ho; cases ho
  refine wpAny_pyIter_enum (i := 0) (old := .none) he fun p kk hkk => ?_
  obtain ⟨h1, d1⟩ := over1 (A := A) hh hd (c := gCode C e) (c₁ := .func [gParts.b0, gParts.b1, .For gParts.tgt gParts.iter gLoop [] gParts.pf, gParts.b3] (gEnv C.L)) (k := kk) (g := id false) (l := id []) (p := p) (kp := []) (weight_for ..) (weight_func ..)
  have hst : s₃.heap.IsStrIter it "str_ascii_iterator" C.x tx 0 := ⟨_, hi, by simp [siO, strIterType, hasc], rfl⟩
  refine gen_loop O h1 d1 eN iN hne rfl rfl (fun s₀ s' F' hk' hfr => ?_) its 0 s s₃ hok ?_ (by rw [List.drop_zero]; exact hx) (by rw [hys, ysOf_length]; exact Nat.le_refl _) (by rw [hys, ysOf_length, Nat.sub_self, List.drop_zero]) F₃ hk₃ ⟨⟨_, _, _, _, _, _, .inl hf₃⟩, ⟨.none, he⟩, hst⟩
  · refine seg_leaf (.ok .next) ?_
    rw [hkk]
    refine seg_execs_cons (seg_stmt (g_last O h0 d0 hk' hfr fun s'' k'' g'' o'' => ?_))
    exact seg_end (.ok (.ret .none)) ⟨rfl, rfl, F'.trans (fwd_of k'' g'' o'')⟩
  · rw [Nat.zero_add, ← hx]; simp
/-! ## The generator is called -/
noncomputable def argsD (x : Str) (t : Tok) : Args := ⟨[.str x t], []⟩
theorem kDB (P : Params) (ρ τ : Nat → Nat) (x : Str) (t : Nat) :
    (runE (GG P 0 noH) ρ τ 30 (.top (bindF (fdAt 1 20 0) (argsD x t))) (mkT []) 0 0 0 [] []).said [] =
      (some [(nAddr, .str x t)], (runE (GG P 0 noH) ρ τ 30 (.top (bindF (fdAt 1 20 0) (argsD x t))) (mkT []) 0 0 0 [] []).owed, [], []) := by kernel_rfl!
noncomputable def qualL : Str := (fdAt 1 20 0).qualname ++ (⟨#[46, 60, 108, 111, 99, 97, 108, 115, 62, 46]⟩ : Str)
theorem kDE (P : Params) (ρ τ : Nat → Nat) (x : Str) (t : Nat) :
    (runE (GG P 0 noH) ρ τ 30 (.top (newEnvF (fdAt 1 20 0).scope 3 [] [(nAddr, .str x t)] qualL (some 21) (.ref 20) none 0)) (mkT []) 0 0 1025 [] []).said [0] =
      (some (gEnv (ρ 0)), (runE (GG P 0 noH) ρ τ 30 (.top (newEnvF (fdAt 1 20 0).scope 3 [] [(nAddr, .str x t)] qualL (some 21) (.ref 20) none 0)) (mkT []) 0 0 1025 [] []).owed, [], [some (fro P [(nAddr, τ 0, .str x t)])]) := by kernel_rfl!
theorem in1_depth (A : Around) : A.in1.depth = A.depth := rfl
theorem gen_door {w : World} {A : Around} {Q : Value → Shared → Prop} {E : Value → Shared → Prop} {s : Shared} {x : Str} {t : Tok} (X : TopK w.params fun b => s.heap.get? b) (hh : A.handled = none) (hd : A.depth + 310 < recursionLimit)
    (hQ : ∀ s' L a ka, s'.heap.get? L = some (fro w.params [(nAddr, ka, .str x t)]) → s'.heap.IsGen a s.gens.size → s.heap.get? L = none → s.heap.get? a = none → L ≠ a → (∀ b o, s.heap.get? b = some o → s'.heap.get? b = some o) →
      s'.gens = s.gens.push (.fresh (.func (bodyOf 1) (gEnv L))) → s'.os = s.os → Q (.ref a) s') : wpAny (model pw w) A (call (.ref 21) [.str x t]) Q E s := by
  have d1 : A.in1.depth + 300 < recursionLimit := by rw [in1_depth]; omega
  have h1 : A.in1.handled = none := hh
  refine wpAny_call (codeAny_call_generator (fd := fdAt 1 20 0) (o := fnAt 1 20 0) (body := bodyOf 1) (by omega) (X.kt 21 _ (by kernel_rfl!)) rfl (by kernel_rfl!) (by kernel_rfl!) (by kernel_rfl!) (X.code (21, 1, 20, 0) (by decide) _ fun _ _ e => e) ?_)
  rw [PySem.W.Fast.te9782568553167038054]
  let B : Bs := ⟨fun b => s.heap.get? b, (· = s.gens), s.os⟩
  have R0 : Rep B 0 (adr []) (mkT []) 0 s := Rep.make (B := B) 0 (adr []) [] (fun _ _ e => e) rfl rfl (fun i o e => by cases i <;> cases e) (fun i _ hi => by cases hi) (fun i j _ hi => by cases hi)
  refine engF (B := B) (H := noH) 0 30 [] (fun _ => bindF (fdAt 1 20 0) (argsD x t)) (fun _ => []) 0 [] (fun _ _ => [(nAddr, .str x t)]) (fun _ _ => []) (fun _ _ => []) X h1 d1 noH_loc (noH_ok w _ 0) R0 (fun _ _ => rfl) (fun _ _ => rfl)
    (fun ρ τ => kDB w.params ρ τ x t) (fun _ _ _ => trivial) fun ρ τ T m s₁ aρ R _ => ?_
  rw [PySem.W.Fast.te11113344188204177931]
  have R1 : Rep B 0 (adr []) (mkT []) 0 s₁ := Rep.make (B := B) 0 (adr []) [] R.keep R.gens R.os (fun i o e => by cases i <;> cases e) (fun i _ hi => by cases hi) (fun i j _ hi => by cases hi)
  refine engF (B := B) (H := noH) 0 30 [] (fun _ => newEnvF (fdAt 1 20 0).scope 3 [] [(nAddr, .str x t)] qualL (some 21) (.ref 20) none 0) (fun _ => []) 1025 [0] (fun ρ _ => gEnv (ρ 0)) (fun _ _ => []) (fun _ τ => [some (fro w.params [(nAddr, τ 0, .str x t)])]) X h1 d1 noH_loc (noH_ok w _ 0) R1 (fun _ _ => rfl) (fun _ _ => rfl)
    (fun ρ τ => kDE w.params ρ τ x t) (fun _ _ _ => trivial) fun ρ τ T m s₂ aρ R e => ?_
  have g0 : T.get 0 = some (fro w.params [(nAddr, τ 0, .str x t)]) := by simpa using e
  refine ⟨X.lim _ R.keep, ?_⟩
  have hz : s.heap.get? (s₂.heap.objs.size) = none := by
    cases q : s.heap.get? s₂.heap.objs.size with
    | none => rfl
    | some o => exact absurd (Heap.lt_size (R.keep _ _ q)) (Nat.lt_irrefl _)
  refine hQ _ (ρ 0) _ (τ 0) (Heap.get?_push_of_some _ (R.own 0 _ g0).2) ⟨_, _, _, Heap.get?_push_size _ rfl, rfl, by rw [show s₂.gens = s.gens from R.gens], rfl⟩ (R.new 0 _ (Nat.zero_le _) g0) hz
    (fun q => absurd (Heap.lt_size (R.own 0 _ g0).2) (by rw [q]; exact Nat.lt_irrefl _)) (fun b o q => Heap.get?_push_of_some _ (R.keep b o q)) (by show s₂.gens.push _ = _; rw [show s₂.gens = s.gens from R.gens]) R.os
/-- a generator is asked for its next; it bears no clean-up -/
theorem pyNext_genQ {prog : Program} {w : World} {A : Around} {E : Value → Shared → Prop} {s : Shared} {a : Addr} {g n : Nat} {gs : GenState} {P : Nat → Shared → Shared → Prop} {Y : Protocol} {Q : Option Value → Shared → Prop} (hh : A.handled = none)
    (hl : s.heap.NoLimit) (hroom : A.depth < recursionLimit)
    (hg : s.heap.IsGen a g) (hgs : s.gens[g]? = some gs)
    (hgo : gs.Goes (model prog w) A.in1 (fun n s₀ r s₁ => r = .ok (.ret .none) ∧ P n s₀ s₁) Y n (.send .none) (s.setGen g .running))
    (hY : ∀ v s₁ gs', gs'.bare = true → Y (n - 1) (s.setGen g .running) v s₁ (fun r' s'' => match n with
        | 0 => False
        | m + 1 => gs'.Goes (model prog w) A.in1 (fun n s₀ r s₁ => r = .ok (.ret .none) ∧ P n s₀ s₁) Y m r' s'') → Q (some v) (s₁.setGen g gs'))
    (hP : ∀ s₁, P n (s.setGen g .running) s₁ → ∀ h', (∀ b o, s₁.heap.get? b = some o → h'.get? b = some o) → Q none { s₁.setGen g .finished with heap := h' }) :
    wpAny (model prog w) A (pyNext (.ref a)) Q E s := by
  unfold pyNext
  refine wpAny_bind (wpAny_attempt (wpAny_callSpecial?_slot (name := Str.ofString "__next__") hg.typeIs slot_gen_next
    (wpAny_call_entry slot_gen_next hg.typeIs entry_gen_next ?_ (args_gen_next _))))
  show wpAny _ _ (Builtin.Generator.genWake (.ref a) (.send .none)) _ _ s
  unfold Builtin.Generator.genWake
  refine wpAny_bind (wpAny_holding (wpAny_genNumber hg (wpAny_bind (wpAny_genState hgs ?_))))
  cases gs with
  | running => exact hgo.elim
  | finished => exact hgo.elim
  | _ =>
    refine wpAny_bind (wpAny_roomToWake hl hroom ?_)
    show wpAny _ _ (.resume g (.send .none) [] _) _ _ s
    refine wpAny_resumeQ hgs hgo (fun x s₁ hx => ?_) (fun v s₁ gs' hb hv => ?_)
    · obtain ⟨rfl, hp⟩ := hx
      show wpAny _ _ (newExc (.type "StopIteration") [] >>= _) _ _ _
      refine wpAny_bind ?_
      simp only [newExc, newTuple]
      refine wpAny_bind (wpAny_newObj_type ?_ (by size_fits))
      refine wpAny_bind (m := firstArgMember _ _) (wpAny_of_eq (a := Value.none) (by first | rfl | (simp only [firstArgMember]; rfl)) ?_)
      refine wpAny_newObj_type ?_ (by size_fits)
      simp only [raiseNew]
      refine wpAny_bind (wpAny_bind (wpAny_handled ?_))
      rw [show A.in1.handled = none from hh]
      refine wpAny_throw ?_
      refine wpAny_bind (wpAny_isInstance (T := "StopIteration") (b := true) ⟨_, Heap.get?_push_size _ rfl, rfl⟩ isSubtype_stop ?_)
      exact wpAny_pure (hP s₁ hp _ fun b o hb => Heap.get?_push_of_some _ (Heap.get?_push_of_some _ hb))
    · exact wpAny_pure ⟨v, rfl, wpAny_pure (hY v s₁ gs' hb hv)⟩
/-! ## A generator at work, seen from outside -/
noncomputable def Pers (N : Addr → Prop) (L : Addr) (s : Shared) : Prop := ∀ b, N b → b ≠ L → ∃ o, s.heap.get? b = some o
structure GOn (C : GenC) (A : Around) (g : Nat) (a : Addr) (n : Nat) (s : Shared) : Prop where
  isg : s.heap.IsGen a g
  ain : C.N a
  aL : a ≠ C.L
  go : ∃ gs, s.gens[g]? = some gs ∧ ∀ s'', Kept C.N C.L s s'' → Ext C.K s''.heap → Pers C.N C.L s'' → gs.Goes (model pw C.w) A.in1 C.R C.Y n (.send .none) s''
theorem allBare_set {a : Array GenState} {g : Nat} {x : GenState} (h : AllBare a) (hx : x.bare = true) : AllBare (a.setIfInBounds g x) := fun y hy => by
  rcases Array.mem_or_eq_of_mem_setIfInBounds hy with h' | rfl
  · exact h y h'
  · exact hx
/-- all but one object, the elders', is as it was -/
theorem GOn.keep {C : GenC} {A : Around} {g : Nat} {a : Addr} {n : Nat} {s s' : Shared} (G : GOn C A g a n s) (hg : s'.gens = s.gens) (hk : ∀ b o, (b = C.L ∨ ¬ C.N b ∨ b = a) → s.heap.get? b = some o → s'.heap.get? b = some o) : GOn C A g a n s' := by
  obtain ⟨⟨o, nm, qn, ho, r⟩, h2, h3, gs, h4, h5⟩ := G
  refine ⟨⟨o, nm, qn, hk _ _ (.inr (.inr rfl)) ho, r⟩, h2, h3, gs, by rw [hg]; exact h4, fun s'' k e p => h5 s'' (fun b ob hb q => k b ob hb (hk b ob (hb.elim .inl fun z => .inr (.inl z)) q)) e p⟩
theorem gen_next {C : GenC} (O : C.Ok) {A : Around} {g : Nat} {a : Addr} {n : Nat} {s : Shared} {Q : Option Value → Shared → Prop} {E : Value → Shared → Prop} (hh : A.handled = none) (hroom : A.depth < recursionLimit)
    (hk : Ext C.K s.heap) (hp : Pers C.N C.L s) (hb : AllBare s.gens) (G : GOn C A g a n s)
    (h0 : n = 0 → ∀ s', (∀ b o, C.N b → b ≠ C.L → s.heap.get? b = some o → s'.heap.get? b = some o) → AllBare s'.gens → s'.os = s.os → Q none s')
    (h1 : ∀ m, n = m + 1 → ∀ s' U p z tk tz, C.ys[C.ys.length - 1 - m]? = some (p, z) → s'.heap.get? U = some (tupO [.int p tk, .str (tx z) tz]) → (∀ b, C.N b → b ≠ C.L → U ≠ b) → GOn C A g a m s' →
      (∀ b o, C.N b → b ≠ C.L → s.heap.get? b = some o → s'.heap.get? b = some o) → AllBare s'.gens → s'.os = s.os → Q (some (.ref U)) s') :
    wpAny (model pw C.w) A (pyNext (.ref a)) Q E s := by
  obtain ⟨isg, ain, aL, gs, hgs, hgo⟩ := G
  have hlim : s.heap.NoLimit := O.top.lim _ hk
  have hin : g < s.gens.size := (Array.getElem?_eq_some_iff.mp hgs).1
  refine pyNext_genQ (P := C.P) (Y := C.Y) (n := n) hh hlim hroom isg hgs (hgo _ (fun _ _ _ e => e) hk hp) (fun v s₁ gs' bare hv => ?_) (fun s₁ hP h' keep => ?_)
  · obtain ⟨p, z, U, tk, tz, hy, rfl, hU, hT, F, kap⟩ := hv
    have hk₁ : Ext C.K s₁.heap := fun b o e => F.old b o (O.KN b o e) (fun q => by rw [q, O.KL] at e; cases e) (hk b o e)
    cases n with
    | zero => exact (kap s₁ (fun _ _ _ e => e) hk₁).elim
    | succ m =>
      have hgens : (s₁.setGen g gs').gens = s.gens.setIfInBounds g gs' := by
        show s₁.gens.setIfInBounds g gs' = _
        rw [F.gens]
        show (s.gens.setIfInBounds g .running).setIfInBounds g gs' = _
        exact Array.setIfInBounds_setIfInBounds ..
      refine h1 m rfl _ U p z tk tz hy hT (fun b hb hL => ?_) ?_ (fun b o hN hL e => F.old b o hN hL e) ?_ F.os
      · obtain ⟨o, ho⟩ := hp b hb hL
        exact hU b o hb hL ho
      · obtain ⟨o, nm, qn, ho, r⟩ := isg
        refine ⟨⟨o, nm, qn, F.old _ _ ain aL ho, r⟩, ain, aL, gs', ?_, fun s'' kp e _ => kap s'' kp e⟩
        rw [hgens]
        simp [Array.getElem?_setIfInBounds, hin]
      · rw [hgens]; exact allBare_set hb bare
  · obtain ⟨rfl, F⟩ := hP
    refine h0 rfl _ (fun b o hN hL e => keep _ _ (F.old b o hN hL e)) ?_ F.os
    show AllBare (s₁.gens.setIfInBounds g .finished)
    rw [F.gens]
    exact allBare_set (allBare_set hb rfl) rfl
/-- a fresh one -/
theorem gen_fresh {C : GenC} (O : C.Ok) {A : Around} {g : Nat} {a : Addr} {s : Shared} (hh : A.handled = none) (hd : A.depth + 310 < recursionLimit) (hasc : C.x.cps.all (· < 128) = true) (its : List It) (hok : ∀ z ∈ its, z.Ok) (hx : C.x.cps.toList = flat its) (hys : C.ys = ysOf 0 its)
    {ka tx : Nat} (hf : s.heap.get? C.L = some (fro C.w.params [(nAddr, ka, .str C.x tx)])) (isg : s.heap.IsGen a g) (ain : C.N a) (aL : a ≠ C.L) (hg : s.gens[g]? = some (.fresh (.func (bodyOf 1) (gEnv C.L)))) : GOn C A g a its.length s :=
  ⟨isg, ain, aL, _, hg, fun s'' k e p => ⟨rfl, gen_start O (A := A.in1) hh hd hasc its hok hx hys e p (ka := ka) (tx := tx) (k _ _ (.inl rfl) hf)⟩⟩
/-! ## Hooks for calls that leave the heap as it is -/
noncomputable def pPre (id : String) (f : List Value → Nat → Option (Kd × Prop)) : Pre Kd := fun c T m orc => (asB c).bind fun q => (f q.2 (orc % 1024)).bind fun r => some { k := r.1, p := r.2, fx := [(.builtin q.1, .builtin id)], rf := [], orc := orc / 1024 }
noncomputable def pHk (id : String) (f : List Value → Nat → Option (Kd × Prop)) : Hk := vHk (pPre id f)
theorem pHk_loc (id : String) (f : List Value → Nat → Option (Kd × Prop)) : HLoc (pHk id f) := vHk_loc fun c T m orc x h => by
  obtain ⟨q, e1, h⟩ := obind h
  obtain ⟨y, e2, h⟩ := obind h
  cases h
  exact trivial
/-- the state but for its tokens -/
noncomputable def SameS (s s' : Shared) : Prop := s'.heap = s.heap ∧ s'.gens = s.gens ∧ s'.os = s.os
theorem Rep.sameS {B : Bs} {r : Nat} {ρ : Nat → Nat} {T : BT} {m : Nat} {s s' : Shared} (R : Rep B r ρ T m s) (h : SameS s s') : Rep B r ρ T m s' := by
  obtain ⟨h1, h2, h3⟩ := h
  exact ⟨by rw [h1]; exact R.own, R.new, R.inj, by rw [h1]; exact R.keep, by rw [h2]; exact R.gens, by rw [h3]; exact R.os⟩
noncomputable def PLaw (w : World) (id : String) (f : List Value → Nat → Option (Kd × Prop)) : Prop := ∀ args d k p, f args d = some (k, p) → p → ∀ (A : Around) (Q : Value → Shared → Prop) (s : Shared), (∀ tok s', SameS s s' → Q (k.get tok) s') → wpAny (model pw w) A (call (.builtin id) args) Q (fun _ _ => False) s
theorem pHk_ok {w : World} {id : String} {f : List Value → Nat → Option (Kd × Prop)} (L : PLaw w id f) (B : Bs) (r : Nat) : HOk pw w B r (pHk id f) := vHk_ok fun c T m orc x h hp hf ρ s A Q hr hR hh hd hQ => by
  obtain ⟨q, e1, h⟩ := obind h
  obtain ⟨y, e2, h⟩ := obind h
  cases h
  have hn : q.1 = id := Value.builtin.inj hf.1
  have e := asB_inv e1
  rw [hn] at e
  subst e
  exact L q.2 _ y.1 y.2 e2 hp A Q s fun tok s' hs => hQ tok s' (hR.sameS hs)
/-! ### two numbers compared -/
noncomputable def bOf : Nat → Bool
  | 0 => false
  | _ + 1 => true
noncomputable def cmpF (rel : Int → Int → Bool) : List Value → Nat → Option (Kd × Prop) := fun args d => (twoI args).bind fun p => some (.val (.bool (bOf d)), rel p.1.1 p.2.1 = bOf d)
theorem cmp_law {w : World} {id : String} {rel : Int → Int → Bool} (h : ∀ (A : Around) a t b u (Q : Value → Shared → Prop) (s : Shared), Q (.bool (rel a b)) s → wpAny (model pw w) A (call (.builtin id) [.int a t, .int b u]) Q (fun _ _ => False) s) : PLaw w id (cmpF rel) := by
  intro args d k p e hp A Q s hQ
  obtain ⟨q, e1, e⟩ := obind e
  cases e
  rw [twoI_inv e1]
  have z : Q (.bool (bOf d)) s := hQ 0 s ⟨rfl, rfl, rfl⟩
  rw [← (show rel q.1.1 q.2.1 = bOf d from hp)] at z
  exact h A _ _ _ _ Q s z
theorem lt_law (w : World) : PLaw w "int.__lt__" (cmpF fun a b => decide (a < b)) := cmp_law fun A a t b u Q s hQ => call_meets F.slot_int_lt (typeIs_int s a t) F.entry_int_lt (F.args_int_lt_2 _ _) (Gives.meets (PySem.AutoIntG1.int___lt___int_int_0 a t b u)) hQ
theorem ne_law (w : World) : PLaw w "int.__ne__" (cmpF fun a b => a != b) := cmp_law fun A a t b u Q s hQ => call_meets F.slot_int_ne (typeIs_int s a t) F.entry_int_ne (F.args_int_ne_2 _ _) (Gives.meets (PySem.AutoIntG6.int___ne___int_int_0 a t b u)) hQ
theorem eq_law (w : World) : PLaw w "int.__eq__" (cmpF fun a b => a == b) := cmp_law fun A a t b u Q s hQ => call_meets F.slot_int_eq (typeIs_int s a t) F.entry_int_eq (F.args_int_eq_2 _ _) (Gives.meets (PySem.AutoIntG7.int___eq___int_int_0 a t b u)) hQ
/-! ### a text in a text -/
noncomputable def hasF : List Value → Nat → Option (Kd × Prop) := fun args d => (twoS args).bind fun p => some (.val (.bool (bOf d)), (Builtin.Str.occurrences p.1.1 p.2.1 0 p.1.1.length 1).isEmpty = !bOf d)
theorem has_law (w : World) : PLaw w "str.__contains__" hasF := by
  intro args d k p e hp A Q s hQ
  obtain ⟨q, e1, e⟩ := obind e
  cases e
  rw [twoS_inv e1]
  have z : Q (.bool (bOf d)) s := hQ 0 s ⟨rfl, rfl, rfl⟩
  rw [← Bool.not_not (bOf d), ← (show (Builtin.Str.occurrences q.1.1 q.2.1 0 q.1.1.length 1).isEmpty = !bOf d from hp)] at z
  exact call_meets F.slot_str_contains (typeIs_str s _ _) F.entry_str_contains (F.args_str_contains_2 _ _) (Gives.meets (gives_str_contains _ _ _ _)) z
/-! ### a text's length -/
noncomputable def lenF : List Value → Nat → Option (Kd × Prop) := fun args _ => (oneS args).bind fun p => some (.int p.1.length, p.1.length ≤ 1000)
theorem big_not {n : Nat} (h : n ≤ 1000) : ¬ (n : Int) ≥ 2 ^ 63 := by omega
theorem len_law (w : World) : PLaw w "len" lenF := by
  intro args d k p e hp A Q s hQ
  obtain ⟨q, e1, e⟩ := obind e
  cases e
  rw [oneS_inv e1]
  exact PySem.P.len_str (big_not hp) (hQ _ _ ⟨rfl, rfl, rfl⟩)
end Mine
section
open PySem.StrLaws
namespace Mine
/-! ## Hooks for calls with a text and an object -/
noncomputable def oPre (id : String) (f : Str → Obj → Option (Str × Prop)) : Pre Kd := fun c T m orc => (asB c).bind fun q => (strRef q.2).bind fun z => (getO T m (orc % 1024)).bind fun o => (f z.1 o).bind fun r =>
  some { k := .str r.1, p := r.2, fx := [(.builtin q.1, .builtin id)], rf := [(z.2.2, orc % 1024)], orc := orc / 1024 }
noncomputable def oHk (id : String) (f : Str → Obj → Option (Str × Prop)) : Hk := vHk (oPre id f)
theorem oHk_loc (id : String) (f : Str → Obj → Option (Str × Prop)) : HLoc (oHk id f) := vHk_loc fun c T m orc x h => by
  obtain ⟨q, e1, h⟩ := obind h
  obtain ⟨z, e2, h⟩ := obind h
  obtain ⟨o, e3, h⟩ := obind h
  obtain ⟨y, e4, h⟩ := obind h
  cases h
  exact ⟨getO_lt e3, trivial⟩
noncomputable def OLaw (w : World) (id : String) (f : Str → Obj → Option (Str × Prop)) : Prop := ∀ x o y p, f x o = some (y, p) → p → ∀ (A : Around) (Q : Value → Shared → Prop) (s : Shared) (t : Tok) (b : Addr), s.heap.get? b = some o → (∀ tok s', SameS s s' → Q (.str y tok) s') → wpAny (model pw w) A (call (.builtin id) [.str x t, .ref b]) Q (fun _ _ => False) s
theorem oHk_ok {w : World} {id : String} {f : Str → Obj → Option (Str × Prop)} (L : OLaw w id f) (B : Bs) (r : Nat) : HOk pw w B r (oHk id f) := vHk_ok fun c T m orc x h hp hf ρ s A Q hr hR hh hd hQ => by
  obtain ⟨q, e1, h⟩ := obind h
  obtain ⟨z, e2, h⟩ := obind h
  obtain ⟨o, e3, h⟩ := obind h
  obtain ⟨y, e4, h⟩ := obind h
  cases h
  have hn : q.1 = id := Value.builtin.inj hf.1
  have hb : z.2.2 = ρ (orc % 1024) := hr.1
  have e := asB_inv e1
  rw [hn, strRef_inv e2, hb] at e
  subst e
  exact L z.1 o y.1 y.2 e4 hp A Q s z.2.1 _ (hR.own _ _ (getO_inv e3).2).2 fun tok s' hs => hQ tok s' (hR.sameS hs)
/-! ### a slice of a text -/
noncomputable def sliceF : Str → Obj → Option (Str × Prop) := fun x o => (fld3 o).bind fun p => (intOf p.1).bind fun l => (optInt p.2.1).bind fun u => (nonOf p.2.2).bind fun _ => match u with
  | some u => some (⟨((x.cps.toList.drop l.1.toNat).take (u.1.toNat - l.1.toNat)).toArray⟩, o.cls = .type "slice" ∧ 0 ≤ l.1 ∧ l.1 ≤ u.1 ∧ u.1 ≤ x.length ∧ x.length ≤ 1000)
  | none => some (⟨(x.cps.toList.drop l.1.toNat).toArray⟩, o.cls = .type "slice" ∧ 0 ≤ l.1 ∧ l.1 ≤ x.length ∧ x.length ≤ 1000)
theorem sliceMade_post {x : Str} {t : Tok} {l u : Option (Int × Tok)} {Q : Value → Shared → Prop} {s : Shared} (hz : (sliceText x (l.map (·.1)) (u.map (·.1))).length ≤ sizeLine) (hQ : ∀ tok s', SameS s s' → Q (.str (sliceText x (l.map (·.1)) (u.map (·.1))) tok) s') : (sliceMade x t l u none).post Q s := by
  unfold sliceText at hQ hz
  unfold sliceMade slicePicked
  simp only [Option.map_none, Option.getD_none] at hQ hz ⊢
  split
  · rename_i h
    simp only [h, if_true] at hQ
    exact hQ t s ⟨rfl, rfl, rfl⟩
  · rename_i h
    simp only [h] at hQ hz
    exact ⟨hz, hQ _ _ ⟨rfl, rfl, rfl⟩⟩
theorem slice_law (w : World) : OLaw w "str.__getitem__" sliceF := by
  intro x o y p e hp A Q s t b hb hQ
  obtain ⟨v, e1, e⟩ := obind e
  obtain ⟨lt, e2, e⟩ := obind e
  obtain ⟨u, e3, e⟩ := obind e
  obtain ⟨z, e4, e⟩ := obind e
  obtain ⟨d, sl, ho⟩ := fld3_inv e1
  rw [intOf_inv e2, nonOf_inv e4] at ho
  obtain ⟨cls, d', data, sl'⟩ := o
  injection ho with _ h2 h3 h4
  subst h2 h3 h4
  obtain ⟨l, tl⟩ := lt
  rcases optInt_inv e3 with ⟨⟨u, tu⟩, rfl, hv⟩ | ⟨rfl, hv⟩
  · rw [hv] at hb
    cases e
    obtain ⟨rfl, h1, h2, h3, h4⟩ := hp
    have hl : ((l.toNat : Nat) : Int) = l := Int.toNat_of_nonneg h1
    have hu : ((u.toNat : Nat) : Int) = u := Int.toNat_of_nonneg (by omega)
    have := sliceText_nat x (a := l.toNat) (b := u.toNat) (by omega) (by omega)
    rw [hl, hu] at this
    refine call_meets F.slot_str_getitem (typeIs_str s _ _) F.entry_str_getitem (F.args_str_getitem_2 _ _) (meets_str_getitem_slice x t b (some (l, tl)) (some (u, tu)) none rfl) ⟨⟨_, hb, rfl, rfl⟩, sliceMade_post ?_ fun tok s' hs => ?_⟩
    · simp only [Option.map_some, this]
      have : (1000 : Nat) ≤ sizeLine := by decide
      simp only [Str.length, List.size_toArray, List.length_take, List.length_drop, Array.length_toList] at h4 ⊢
      omega
    · simp only [Option.map_some, this]
      exact hQ tok s' hs
  · rw [hv] at hb
    cases e
    obtain ⟨rfl, h1, h2, h4⟩ := hp
    have hl : ((l.toNat : Nat) : Int) = l := Int.toNat_of_nonneg h1
    have := sliceText_nat x (a := l.toNat) (b := x.length) (by omega) (Nat.le_refl _)
    rw [hl] at this
    have e2 : sliceText x (some l) none = sliceText x (some l) (some (x.length : Int)) := by unfold sliceText; rw [sliceIdx_none_hi]
    have e3 : (x.cps.toList.drop l.toNat).take (x.length - l.toNat) = x.cps.toList.drop l.toNat := List.take_of_length_le (by simp [Str.length])
    rw [e3] at this
    refine call_meets F.slot_str_getitem (typeIs_str s _ _) F.entry_str_getitem (F.args_str_getitem_2 _ _) (meets_str_getitem_slice x t b (some (l, tl)) none none rfl) ⟨⟨_, hb, rfl, rfl⟩, sliceMade_post ?_ fun tok s' hs => ?_⟩
    · simp only [Option.map_some, Option.map_none, e2, this]
      have : (1000 : Nat) ≤ sizeLine := by decide
      simp only [Str.length, List.size_toArray, List.length_drop, Array.length_toList] at h4 ⊢
      omega
    · simp only [Option.map_some, Option.map_none, e2, this]
      exact hQ tok s' hs
/-! ### texts joined -/
noncomputable def catV : List Value → List Nat
  | .str x _ :: r => x.cps.toList ++ catV r
  | _ => []
noncomputable def joinF : Str → Obj → Option (Str × Prop) := fun x o => (seqOf o).bind fun vs => some (⟨(catV vs).toArray⟩, o.cls = .type "list" ∧ x = ⟨#[]⟩ ∧ (∃ l, vs = strValues l) ∧ (catV vs).length ≤ 1000)
theorem catV_vals : ∀ l : List (Str × Tok), catV (strValues l) = (l.map (·.1.cps.toList)).flatten
  | [] => rfl
  | p :: l => by
    show p.1.cps.toList ++ catV (strValues l) = _
    rw [catV_vals l]; rfl
theorem glue_cat : ∀ (l : List Str) (a : Array Nat), (l.foldl (fun acc p => acc ++ (⟨#[]⟩ : Str).cps ++ p.cps) a).toList = a.toList ++ (l.map (·.cps.toList)).flatten
  | [], a => by simp
  | x :: l, a => by
    rw [List.foldl_cons, glue_cat l]
    simp
theorem size_cat : ∀ (l : List (Str × Tok)) (n : Nat), ((l.map (·.1))).foldl (fun a (p : Str) => a + p.length + (⟨#[]⟩ : Str).length) n = n + (catV (strValues l)).length
  | [], n => rfl
  | p :: l, n => by
    rw [List.map_cons, List.foldl_cons, size_cat l]
    show _ = n + (p.1.cps.toList ++ catV (strValues l)).length
    rw [List.length_append]
    show n + p.1.cps.size + 0 + _ = _
    simp; omega
theorem joinMade_post {l : List (Str × Tok)} {Q : Value → Shared → Prop} {s : Shared} (hz : (catV (strValues l)).length ≤ 1000) (hQ : ∀ tok s', SameS s s' → Q (.str ⟨(catV (strValues l)).toArray⟩ tok) s') : (joinMade ⟨#[]⟩ l).post Q s := by
  have h1 : (1000 : Nat) ≤ sizeLine := by decide
  match l with
  | [] => exact ⟨Nat.zero_le _, hQ _ { s with toks := s.toks + 1 } ⟨rfl, rfl, rfl⟩⟩
  | [p] =>
    have e : (⟨(catV (strValues [p])).toArray⟩ : Str) = p.1 := by
      show (⟨(p.1.cps.toList ++ []).toArray⟩ : Str) = p.1
      rw [List.append_nil]
    rw [e] at hQ
    exact hQ p.2 s ⟨rfl, rfl, rfl⟩
  | p :: q :: r =>
    have e : (⟨(catV (strValues (p :: q :: r))).toArray⟩ : Str) = Builtin.Str.glued ⟨#[]⟩ ((p :: q :: r).map (·.1)) := by
      unfold Builtin.Str.glued
      simp only [List.map_cons, List.drop_succ_cons, List.drop_zero, List.headD_cons]
      congr 1
      apply Array.ext'
      rw [← List.map_cons (f := Prod.fst), glue_cat, catV_vals]
      simp [Function.comp_def]
    have hz' : (Builtin.Str.glued ⟨#[]⟩ ((p :: q :: r).map (·.1))).length ≤ sizeLine := by
      rw [← e]
      simp only [Str.length, List.size_toArray]
      omega
    rw [e] at hQ
    exact ⟨hz', hQ _ { s with toks := s.toks + 1 } ⟨rfl, rfl, rfl⟩⟩
theorem join_law (w : World) : OLaw w "str.join" joinF := by
  intro x o y p e hp A Q s t b hb hQ
  obtain ⟨vs, e1, e⟩ := obind e
  obtain ⟨d, k, sl, ho⟩ := seqOf_inv e1
  cases e
  obtain ⟨h0, rfl, ⟨l, rfl⟩, h3⟩ := hp
  rw [h0] at ho
  subst ho
  · skip
    refine call_meets F.slot_str_join (typeIs_str s _ _) F.entry_str_join (F.args_str_join_2 _ _) (meets_str_join_list ⟨#[]⟩ t b l ?_) ⟨⟨_, hb, rfl, _, rfl⟩, joinMade_post h3 hQ⟩
    rw [List.foldl_toArray]
    have := size_cat l 0
    rw [Nat.zero_add] at this
    rw [this]
    unfold Builtin.Str.tooLong
    exact decide_eq_false (by have : (1000 : Nat) ≤ sizeLine := by decide
                              omega)
/-! ### a list grows -/
noncomputable def aPre (r : Nat) : Pre Value := fun c T m orc => (asB c).bind fun q => (refHd q.2).bind fun z => (oneV z.2).bind fun v => (getO T m (orc % 1024)).bind fun o => (seqOf o).bind fun xs => match Nat.ble r (orc % 1024) with
  | true => some { k := v, p := xs.length ≤ 1000, fx := [(.builtin q.1, .builtin "list.append"), (o.cls, .type "list")], rf := [(z.1, orc % 1024)], orc := orc / 1024 }
  | false => none
noncomputable def aHk (r : Nat) : Hk := fun ρ τ c T m i orc ad ps => (aPre r c T m orc).bind fun x => x.go fun k p fx rf orc' => some { v := .none, T := T.set (orc % 1024) (Obj.mapSeq (·.push k)), m := m, i := i, orc := orc', ad := fxAd fx (refAd ρ rf ad), ps := p :: ps }
noncomputable def aOut (x : VR Value) (ρ : Nat → Nat) (T : BT) (m i orc : Nat) (ad : Ad) (ps : List Prop) : HO := { v := .none, T := T.set (orc % 1024) (Obj.mapSeq (·.push x.k)), m := m, i := i, orc := x.orc, ad := x.ad ρ ad, ps := x.p :: ps }
theorem aHk_inv {r : Nat} {ρ τ : Nat → Nat} {c : Code} {T : BT} {m i orc : Nat} {ad : Ad} {ps : List Prop} {h : HO} (e : aHk r ρ τ c T m i orc ad ps = some h) : ∃ x, aPre r c T m orc = some x ∧ some (aOut x ρ T m i orc ad ps) = some h := obind e
theorem aPre_inv {r : Nat} {c : Code} {T : BT} {m orc : Nat} {x : VR Value} {C : Prop} (h : aPre r c T m orc = some x) (go : ∀ n b o xs, c = .call (.builtin n) ⟨[.ref b, x.k], []⟩ → getO T m (orc % 1024) = some o → seqOf o = some xs → Nat.ble r (orc % 1024) = true → x.p = (xs.length ≤ 1000) → x.fx = [(.builtin n, .builtin "list.append"), (o.cls, .type "list")] → x.rf = [(b, orc % 1024)] → C) : C := by
  obtain ⟨q, e1, h⟩ := obind h
  obtain ⟨z, e2, h⟩ := obind h
  obtain ⟨v, e3, h⟩ := obind h
  obtain ⟨o, e4, h⟩ := obind h
  obtain ⟨xs, e5, h⟩ := obind h
  cases hb : Nat.ble r (orc % 1024) with
  | false => rw [hb] at h; cases h
  | true =>
    rw [hb] at h
    cases h
    exact go q.1 z.1 o xs (by rw [asB_inv e1, refHd_inv e2, oneV_inv e3]) e4 e5 hb rfl rfl rfl
theorem aHk_loc (r : Nat) : HLoc (aHk r) where
  mm := fun h => by
    obtain ⟨x, e, h⟩ := aHk_inv h
    cases h
    exact ⟨Nat.le_refl _, Nat.le_refl _⟩
  ob := fun h q => by
    obtain ⟨x, e, h⟩ := aHk_inv h
    cases h
    exact (VR.ok q).2.2.2
  loc := fun {ρ τ c T m i orc ad ps o ρ' τ'} h a b => by
    obtain ⟨x, e, h⟩ := aHk_inv h
    cases h
    refine bind_of x e (congrArg some (show aOut x ρ' T m i orc ad ps = aOut x ρ T m i orc ad ps from ?_))
    unfold aOut
    rw [VR.ad_congr a (aPre_inv e fun n b o xs _ h2 _ _ _ _ h7 => by rw [h7]; exact ⟨getO_lt h2, trivial⟩) ad]
theorem aHk_ok (w : World) (B : Bs) (r : Nat) : HOk pw w B r (aHk r) := by
  intro c T m i orc ad ps ρ τ s A Q hR hh hd H
  obtain ⟨o, ho, hob, hq⟩ := H ρ τ (Agree.refl ρ m) (Agree.refl τ i)
  obtain ⟨x, e, ho⟩ := aHk_inv ho
  cases ho
  refine aPre_inv e fun n b o xs h1 h2 h3 h4 h5 h6 h7 => ?_
  have f := VR.ok hob
  rw [h5, h6, h7] at f
  have hn : n = "list.append" := Value.builtin.inj f.1.1
  have hc : o.cls = .type "list" := f.1.2.1
  have hb : b = ρ (orc % 1024) := f.2.1.1
  rw [hn, hb] at h1
  subst h1
  obtain ⟨d, k, sl, ho⟩ := seqOf_inv h3
  have hg := (hR.own _ _ (getO_inv h2).2).2
  rw [ho, hc] at hg
  have hz : (⟨xs⟩ : Array Value).size ≤ sizeLine := Nat.le_trans (show xs.length ≤ 1000 from f.2.2.1) (by decide)
  have hl : s.heap.IsList (ρ (orc % 1024)) ⟨xs⟩ := ⟨_, hg, rfl, _, rfl⟩
  refine wpAny_call_entry slot_list_append hl.typeIs entry_list_append ?_ (args_list_append _ _)
  show wpAny _ _ (updateSeq (ρ (orc % 1024)) (·.push x.k) >>= fun _ => ret .none) _ _ s
  refine wpAny_bind (wpAny_updateSeq hg rfl (wpAny_pure ⟨.none, rfl, ?_⟩))
  have ho' := (getO_inv h2).2
  rw [ho] at ho'
  exact hq _ (hR.upd (Nat.le_of_ble_eq_true h4) ho' rfl)
noncomputable def lstO (vs : List Value) (n : Nat) : Obj := { cls := .type "list", data := .seq vs.toArray n }
theorem lstO_push (vs : List Value) (n : Nat) (v : Value) : Obj.mapSeq (·.push v) (lstO vs n) = lstO (vs ++ [v]) (n + 1) := by
  unfold lstO Obj.mapSeq
  simp
end Mine
end
namespace Mine
/-! ## Hooks for calls of the text's functions that hand back a plain value -/
noncomputable def fPre (fa : Addr) (f : List Value → Nat → Option (Kd × Prop)) : Pre Kd := fun c T m orc => (asR c).bind fun q => (f q.2 (orc % 1024)).bind fun r => some { k := r.1, p := r.2, fx := [(.ref q.1, .ref fa)], rf := [], orc := orc / 1024 }
noncomputable def fHk (fa : Addr) (f : List Value → Nat → Option (Kd × Prop)) : Hk := vHk (fPre fa f)
theorem fHk_loc (fa : Addr) (f : List Value → Nat → Option (Kd × Prop)) : HLoc (fHk fa f) := vHk_loc fun c T m orc x h => by
  obtain ⟨q, e1, h⟩ := obind h
  obtain ⟨y, e2, h⟩ := obind h
  cases h
  exact trivial
/-- a state with more objects -/
structure More (s s' : Shared) : Prop where
  old : ∀ b o, s.heap.get? b = some o → s'.heap.get? b = some o
  bare : AllBare s'.gens
  os : s'.os = s.os
theorem Rep.more {K : Addr → Option Obj} {os : OsState} {r : Nat} {ρ : Nat → Nat} {T : BT} {m : Nat} {s s' : Shared} (R : Rep ⟨K, AllBare, os⟩ r ρ T m s) (h : More s s') : Rep ⟨K, AllBare, os⟩ r ρ T m s' :=
  ⟨fun j o e => ⟨(R.own j o e).1, h.old _ _ (R.own j o e).2⟩, R.new, R.inj, fun b o e => h.old _ _ (R.keep b o e), h.bare, h.os.trans R.os⟩
noncomputable def FLaw (w : World) (room : Nat) (fa : Addr) (f : List Value → Nat → Option (Kd × Prop)) : Prop :=
  ∀ args d k p, f args d = some (k, p) → p → ∀ (A : Around) (Q : Value → Shared → Prop) (s : Shared), A.handled = none → A.depth + room < recursionLimit → TopK w.params (fun b => s.heap.get? b) → AllBare s.gens →
    (∀ tok s', More s s' → Q (k.get tok) s') → wpAny (model pw w) A (call (.ref fa) args) Q (fun _ _ => False) s
theorem fHk_ok {w : World} {room fa : Nat} {f : List Value → Nat → Option (Kd × Prop)} (L : FLaw w room fa f) {K : Addr → Option Obj} (x : TopK w.params K) (os : OsState) (r : Nat) : HOkH pw w ⟨K, AllBare, os⟩ r room (fHk fa f) := vHk_ok fun c T m orc y h hp hf ρ s A Q hr hR hh hd hQ => by
  obtain ⟨q, e1, h⟩ := obind h
  obtain ⟨z, e2, h⟩ := obind h
  cases h
  have hn : q.1 = fa := Value.ref.inj hf.1
  have e := asR_inv e1
  rw [hn] at e
  subst e
  exact L q.2 _ z.1 z.2 e2 hp A Q s hh hd (x.mono fun b o e => hR.keep b o e) hR.gens fun tok s' hs => hQ tok s' (hR.more hs)
/-! ## The parts of the second and the third function -/
structure SParts where
  b0 : Stmt
  b1 : Stmt
  b2 : Stmt
  b3 : Stmt
  tgt : Expr
  fn : Str
  fp : Pos
  arg : Expr
  cp : Pos
  body : List Stmt
  pf : Pos
  b5 : Stmt
  b6 : Stmt
noncomputable def sParts : SParts := match bodyOf 2 with
  | [b0, b1, b2, b3, .For tgt (.Call (.Name fn fp) [arg] [] cp) body [] pf, b5, b6] => ⟨b0, b1, b2, b3, tgt, fn, fp, arg, cp, body, pf, b5, b6⟩
  | _ => ⟨default, default, default, default, default, default, default, default, default, default, default, default, default⟩
theorem sBody_eq : bodyOf 2 = [sParts.b0, sParts.b1, sParts.b2, sParts.b3, .For sParts.tgt (.Call (.Name sParts.fn sParts.fp) [sParts.arg] [] sParts.cp) sParts.body [] sParts.pf, sParts.b5, sParts.b6] := by kernel_rfl!
structure CParts where
  b0 : Stmt
  b1 : Stmt
  tgt : Expr
  fn : Str
  fp : Pos
  arg : Expr
  cp : Pos
  body : List Stmt
  pf : Pos
  b3 : Stmt
noncomputable def cParts : CParts := match bodyOf 3 with
  | [b0, b1, .For tgt (.Call (.Name fn fp) [arg] [] cp) body [] pf, b3] => ⟨b0, b1, tgt, fn, fp, arg, cp, body, pf, b3⟩
  | _ => ⟨default, default, default, default, default, default, default, default, default, default⟩
theorem cBody_eq : bodyOf 3 = [cParts.b0, cParts.b1, .For cParts.tgt (.Call (.Name cParts.fn cParts.fp) [cParts.arg] [] cParts.cp) cParts.body [] cParts.pf, cParts.b3] := by kernel_rfl!
noncomputable def sEnv (L : Addr) : Env := envOf 2 28 27 L
noncomputable def cEnv (L : Addr) : Env := envOf 3 35 34 L
noncomputable def sT0 (L : Addr) : Sem Flow := execs [sParts.b0] (sEnv L)
noncomputable def sT1 (L : Addr) : Sem Flow := execs [sParts.b1, sParts.b2, sParts.b3] (sEnv L)
noncomputable def sTN (L : Addr) : Sem Value := eval (.Name sParts.fn sParts.fp) (sEnv L)
noncomputable def sTX (L : Addr) : Sem Value := eval sParts.arg (sEnv L)
noncomputable def sTA (U L : Addr) : Sem Unit := assign sParts.tgt (sEnv L) (.ref U)
noncomputable def sTB (L : Addr) : Sem Flow := execs sParts.body (sEnv L)
noncomputable def sT5 (L : Addr) : Sem Flow := execs [sParts.b5] (sEnv L)
noncomputable def sT6 (L : Addr) : Sem Flow := execs [sParts.b6] (sEnv L)
noncomputable def cT0 (L : Addr) : Sem Flow := execs [cParts.b0, cParts.b1] (cEnv L)
noncomputable def cTN (L : Addr) : Sem Value := eval (.Name cParts.fn cParts.fp) (cEnv L)
noncomputable def cTX (L : Addr) : Sem Value := eval cParts.arg (cEnv L)
noncomputable def cTA (U L : Addr) : Sem Unit := assign cParts.tgt (cEnv L) (.ref U)
noncomputable def cTB (L : Addr) : Sem Flow := execs cParts.body (cEnv L)
noncomputable def cT3 (L : Addr) : Sem Flow := execs [cParts.b3] (cEnv L)
lay_quick Mine.sT0 Mine.sT1 Mine.sTN Mine.sTX Mine.sTA Mine.sTB Mine.sT5 Mine.sT6 Mine.cT0 Mine.cTN Mine.cTX Mine.cTA Mine.cTB Mine.cT3
noncomputable def nStart : Str := ⟨#[115, 116, 97, 114, 116]⟩
noncomputable def nOpen : Str := ⟨#[111, 112, 101, 110, 95, 112, 111, 115]⟩
noncomputable def nResult : Str := ⟨#[114, 101, 115, 117, 108, 116]⟩
noncomputable def nOpens : Str := ⟨#[111, 112, 101, 110, 115]⟩
noncomputable def sF4 (P : Params) (x : Str) (ka ta ks : Nat) (st : Int) (ts ko : Nat) (ov : Value) (kr : Nat) (rl : Addr) : Obj := fro P [(nAddr, ka, .str x ta), (nStart, ks, .int st ts), (nOpen, ko, ov), (nResult, kr, .ref rl)]
noncomputable def sF6 (P : Params) (x : Str) (ka ta ks : Nat) (st : Int) (ts ko : Nat) (ov : Value) (kr : Nat) (rl : Addr) (kp : Nat) (pz : Int) (tp kc : Nat) (c : Str) (tc : Nat) : Obj := fro P [(nAddr, ka, .str x ta), (nStart, ks, .int st ts), (nOpen, ko, ov), (nResult, kr, .ref rl), (nPos, kp, .int pz tp), (nCh, kc, .str c tc)]
noncomputable def cF2 (P : Params) (x : Str) (ka ta ko : Nat) (z : Int) (tz : Nat) : Obj := fro P [(nAddr, ka, .str x ta), (nOpens, ko, .int z tz)]
noncomputable def cF4 (P : Params) (x : Str) (ka ta ko : Nat) (z : Int) (tz kp : Nat) (pz : Int) (tp kc : Nat) (c : Str) (tc : Nat) : Obj := fro P [(nAddr, ka, .str x ta), (nOpens, ko, .int z tz), (nPos, kp, .int pz tp), (nCh, kc, .str c tc)]
/-! ## Plain: items without what stands in quotation marks; brackets that close each other -/
noncomputable def noq : Bool → List It → List It
  | _, [] => []
  | q, .pl c :: r => if c = 34 then noq (!q) r else if q then noq q r else .pl c :: noq q r
  | q, .es c :: r => if q then noq q r else .es c :: noq q r
noncomputable def qok : Bool → List It → Bool
  | q, [] => !q
  | q, .pl c :: r => if c = 34 then qok (!q) r else qok q r
  | q, .es _ :: r => qok q r
noncomputable def bal : Int → List It → Bool
  | h, [] => h == 0
  | h, .pl c :: r => if c = 40 then bal (h + 1) r else if c = 41 then (if h - 1 < 0 then false else bal (h - 1) r) else bal h r
  | h, .es _ :: r => bal h r
noncomputable def parse : Bool → List Nat → List It
  | _, [] => []
  | true, c :: r => .es c :: parse false r
  | false, c :: r => if c = 92 then parse true r else .pl c :: parse false r
theorem parse_flat : ∀ l : List It, (∀ z ∈ l, z.Ok) → parse false (flat l) = l
  | [], _ => rfl
  | .pl c :: r, h => by
    have hc := h _ (.head _)
    have : c ≠ 92 := by rcases hc with h | h | h <;> omega
    show (if c = 92 then _ else _) = _
    rw [if_neg this]
    exact congrArg _ (parse_flat r fun z hz => h z (.tail _ hz))
  | .es c :: r, h => by
    show (if (92 : Nat) = 92 then _ else _) = _
    rw [if_pos rfl]
    exact congrArg (It.es c :: ·) (parse_flat r fun z hz => h z (.tail _ hz))
noncomputable def stripS (x : Str) : Str := ⟨(flat (noq false (parse false x.cps.toList))).toArray⟩
structure TextOk (x : Str) (its : List It) : Prop where
  ok : ∀ z ∈ its, z.Ok
  flat : x.cps.toList = flat its
  q : qok false its = true
  len : x.length ≤ 1000
theorem TextOk.strip {x : Str} {its : List It} (h : TextOk x its) : stripS x = ⟨(Mine.flat (noq false its)).toArray⟩ := by
  unfold stripS
  rw [h.flat, parse_flat its h.ok]
theorem flat_append (a b : List It) : flat (a ++ b) = flat a ++ flat b := by unfold flat; rw [List.flatMap_append]
theorem flat_cons (z : It) (b : List It) : flat (z :: b) = z.txt ++ flat b := by unfold flat; rw [List.flatMap_cons]
theorem noq_ok : ∀ (q : Bool) (l : List It), (∀ z ∈ l, z.Ok) → ∀ z ∈ noq q l, z.Ok
  | _, [], _ => fun z hz => by cases hz
  | q, .pl c :: r, h => fun z hz => by
    have ih := noq_ok q r fun z hz => h z (.tail _ hz)
    have ih' := noq_ok (!q) r fun z hz => h z (.tail _ hz)
    unfold noq at hz
    repeat' split at hz
    · exact ih' z hz
    · exact ih z hz
    · rcases List.mem_cons.mp hz with rfl | hz
      · exact h _ (.head _)
      · exact ih z hz
  | q, .es c :: r, h => fun z hz => by
    have ih := noq_ok q r fun z hz => h z (.tail _ hz)
    unfold noq at hz
    split at hz
    · exact ih z hz
    · rcases List.mem_cons.mp hz with rfl | hz
      · exact h _ (.head _)
      · exact ih z hz
theorem noq_len : ∀ (q : Bool) (l : List It), (flat (noq q l)).length ≤ (flat l).length
  | _, [] => Nat.le_refl _
  | q, .pl c :: r => by
    have ih := noq_len q r
    have ih' := noq_len (!q) r
    unfold noq
    repeat' split
    all_goals simp only [flat_cons, List.length_append]; omega
  | q, .es c :: r => by
    have ih := noq_len q r
    unfold noq
    split
    all_goals simp only [flat_cons, List.length_append]; omega
theorem asc_flat : ∀ l : List It, (∀ z ∈ l, z.Ok) → ∀ c ∈ flat l, c < 128
  | [], _, c, hc => by cases hc
  | z :: r, h, c, hc => by
    rw [flat_cons] at hc
    rcases List.mem_append.mp hc with hc | hc
    · have := h z (.head _)
      cases z with
      | pl d => simp only [It.txt, List.mem_singleton] at hc; subst hc; rcases this with h | h | h <;> omega
      | es d =>
        simp only [It.txt, List.mem_cons, List.not_mem_nil, or_false] at hc
        rcases hc with rfl | rfl
        · omega
        · exact this
    · exact asc_flat r (fun z hz => h z (.tail _ hz)) c hc
theorem asc_of {x : Str} {its : List It} (ok : ∀ z ∈ its, z.Ok) (fl : x.cps.toList = flat its) : x.cps.all (· < 128) = true := by
  rw [Array.all_eq_true']
  intro c hc
  have : c ∈ x.cps.toList := by simpa using hc
  rw [fl] at this
  simpa using asc_flat its ok c this
theorem TextOk.asc {x : Str} {its : List It} (h : TextOk x its) : x.cps.all (· < 128) = true := asc_of h.ok h.flat
/-- place of an item's end sign -/
noncomputable def It.at : It → Nat → Nat
  | .pl _, k => k
  | .es _, k => k + 1
theorem ysOf_at : ∀ (dn : List It) (z : It) (rs : List It) (k : Nat), (ysOf k (dn ++ z :: rs))[dn.length]? = some (z.at (k + (flat dn).length), z)
  | [], .pl c, rs, k => by simp [ysOf, It.at, flat]
  | [], .es c, rs, k => by simp [ysOf, It.at, flat]
  | .pl c :: dn, z, rs, k => by
    have := ysOf_at dn z rs (k + 1)
    simp only [List.cons_append, ysOf, List.length_cons, List.getElem?_cons_succ]
    rw [this, flat_cons]
    simp only [It.txt, List.length_append, List.length_cons, List.length_nil]
    rw [show k + 1 + (flat dn).length = k + (0 + 1 + (flat dn).length) by omega]
  | .es c :: dn, z, rs, k => by
    have := ysOf_at dn z rs (k + 2)
    simp only [List.cons_append, ysOf, List.length_cons, List.getElem?_cons_succ]
    rw [this, flat_cons]
    simp only [It.txt, List.length_append, List.length_cons, List.length_nil]
    rw [show k + 2 + (flat dn).length = k + (0 + 1 + 1 + (flat dn).length) by omega]
/-! ## A for over a generator -/
theorem letTuple_gen {prog : Program} {w : World} {A : Around} {E : Value → Shared → Prop} {s : Shared} {elts : List Expr} {x1 : Nat} {pos : Pos} {a : Addr} {g : Nat} {U : Addr} {Q : Unit → Shared → Prop} (hg : s.heap.IsGen a g) (hQ : Q () s) :
    wpAny (model prog w) A (letOwnedTupleGo (.Tuple elts x1 pos) (.ref a) (.ref U)) Q E s := by
  obtain ⟨o, nm, qn, ho, hc, hd, _⟩ := hg
  unfold letOwnedTupleGo
  refine wpAny_bind (wpAny_load ho ?_)
  rw [hc, hd]
  exact wpAny_pure hQ
/-- what a consumer may do between two items -/
structure Steady (C : GenC) (a : Addr) (s s' : Shared) : Prop where
  keep : ∀ b o, (b = C.L ∨ ¬ C.N b ∨ b = a ∨ ∃ o', C.K b = some o') → s.heap.get? b = some o → s'.heap.get? b = some o
  pers : ∀ b, (∃ o, s.heap.get? b = some o) → ∃ o, s'.heap.get? b = some o
  gens : s'.gens = s.gens
  os : s'.os = s.os
theorem Steady.trans {C : GenC} {a : Addr} {s s' s'' : Shared} (x : Steady C a s s') (y : Steady C a s' s'') : Steady C a s s'' :=
  ⟨fun b o h e => y.keep b o h (x.keep b o h e), fun b h => y.pers b (x.pers b h), y.gens.trans x.gens, y.os.trans x.os⟩
/-- a run that changes some objects of the consumer's -/
theorem Steady.of {C : GenC} {a : Addr} {s s' : Shared} (as : List Addr) (hk : ∀ b o, b ∉ as → s.heap.get? b = some o → s'.heap.get? b = some o) (hp : ∀ b ∈ as, ∃ o, s'.heap.get? b = some o)
    (ha : ∀ b ∈ as, C.N b ∧ b ≠ C.L ∧ b ≠ a ∧ C.K b = none) (hg : s'.gens = s.gens) (ho : s'.os = s.os) : Steady C a s s' where
  keep := fun b o h e => hk b o (fun m => by
    obtain ⟨h1, h2, h3, h4⟩ := ha b m
    rcases h with h | h | h | ⟨o', h⟩
    · exact h2 h
    · exact h h1
    · exact h3 h
    · rw [h4] at h; cases h) e
  pers := fun b ⟨o, h⟩ => by
    by_cases m : b ∈ as
    · exact hp b m
    · exact ⟨o, hk b o m h⟩
  gens := hg
  os := ho
theorem gen_for {C : GenC} (O : C.Ok) {A : Around} (hh : A.handled = none) (hroom : A.depth < recursionLimit) {tgt : Expr} {es : List Expr} {x1 : Nat} {pt : Pos} (ht : tgt = .Tuple es x1 pt) {body : List Stmt} {env : Env} {g : Nat} {a : Addr} {os0 : OsState} {R : Result → Shared → Prop}
    (I : Nat → Shared → Prop) (Rr : Value → Prop)
    (Ikept : ∀ n s s', I n s → (∀ b o, C.N b → b ≠ C.L → s.heap.get? b = some o → s'.heap.get? b = some o) → I n s')
    (turn : ∀ m s U p z tk tz, I (m + 1) s → Ext C.K s.heap → C.ys[C.ys.length - 1 - m]? = some (p, z) → s.heap.get? U = some (tupO [.int p tk, .str (tx z) tz]) → (∀ b, C.N b → b ≠ C.L → U ≠ b) → ∀ E : Value → Shared → Prop,
      wpAny (model pw C.w) A (assign tgt env (.ref U)) (fun _ s₂ => wpAny (model pw C.w) A (execs body env) (fun f s₃ => match f with
        | .next | .cont => Steady C a s s₃ ∧ I m s₃
        | .brk => False
        | .ret v => Steady C a s s₃ ∧ Rr v) E s₂) E s)
    (done : ∀ s, I 0 s → Ext C.K s.heap → AllBare s.gens → s.os = os0 → R (.ok .next) s)
    (ret : ∀ v s, Rr v → Ext C.K s.heap → AllBare s.gens → s.os = os0 → R (.ok (.ret v)) s)
    (n : Nat) (s : Shared) (hI : I n s) (hG : GOn C A g a n s) (hk : Ext C.K s.heap) (hp : Pers C.N C.L s) (hb : AllBare s.gens) (ho : s.os = os0) :
    codeAny (model pw C.w) A (.forLoop tgt (.ref a) body [] env) R s := by
  refine codeAny_forLoop_any (fun n s => I n s ∧ GOn C A g a n s ∧ Ext C.K s.heap ∧ Pers C.N C.L s ∧ AllBare s.gens ∧ s.os = os0) (fun n s ⟨hI, hG, hk, hp, hb, ho⟩ => ?_) n ⟨hI, hG, hk, hp, hb, ho⟩
  have ext : ∀ {s' : Shared}, (∀ b o, C.N b → b ≠ C.L → s.heap.get? b = some o → s'.heap.get? b = some o) → Ext C.K s'.heap := fun k b o e => k b o (O.KN b o e) (fun q => by rw [q, O.KL] at e; cases e) (hk b o e)
  refine gen_next O hh hroom hk hp hb hG (fun n0 s' k' b' o' => ?_) (fun m hm s' U p z tk tz hy hU hne G' k' b' o' => ?_)
  · subst n0
    exact wpAny_execs_nil (done s' (Ikept 0 s s' hI k') (ext k') b' (o'.trans ho))
  · subst hm
    rw [ht]
    refine letTuple_gen G'.isg ?_
    have hk' := ext k'
    have hp' : Pers C.N C.L s' := fun b hb q => by
      obtain ⟨o, ho⟩ := hp b hb q
      exact ⟨o, k' b o hb q ho⟩
    rw [← ht]
    refine wpAny_mono (turn m s' U p z tk tz (Ikept _ _ _ hI k') hk' hy hU hne _) (fun _ s₂ h₂ => wpAny_mono h₂ (fun f s₃ h₃ => ?_) fun _ _ h => h) (fun _ _ h => h)
    have fin : Steady C a s' s₃ → Ext C.K s₃.heap ∧ Pers C.N C.L s₃ ∧ AllBare s₃.gens ∧ s₃.os = os0 := fun S =>
      ⟨fun b o e => S.keep b o (.inr (.inr (.inr ⟨o, e⟩))) (hk' b o e), fun b hb q => S.pers b (hp' b hb q), by rw [S.gens]; exact b', (S.os.trans o').trans ho⟩
    have goon : Steady C a s' s₃ ∧ I m s₃ → ∃ m', m' < m + 1 ∧ I m' s₃ ∧ GOn C A g a m' s₃ ∧ Ext C.K s₃.heap ∧ Pers C.N C.L s₃ ∧ AllBare s₃.gens ∧ s₃.os = os0 := fun ⟨S, i⟩ =>
      ⟨m, Nat.lt_succ_self m, i, G'.keep S.gens (fun b o h e => S.keep b o (h.elim .inl fun h => h.elim (fun h => .inr (.inl h)) fun h => .inr (.inr (.inl h))) e), fin S⟩
    cases f with
    | next => exact goon h₃
    | cont => exact goon h₃
    | brk => exact h₃.elim
    | ret v => exact ret v s₃ h₃.2 (fin h₃.1).1 (fin h₃.1).2.2.1 (fin h₃.1).2.2.2
/-- a generator's call in a for's head, up to the call -/
theorem eval_gen {w : World} {A : Around} {Q : Value → Shared → Prop} {E : Value → Shared → Prop} {s : Shared} {env : Env} {fn : Str} {fp cp : Pos} {arg : Expr} (hs : starEach [arg] env = [(false, eval arg env)])
    (h : wpAny (model pw w) A (eval (.Name fn fp) env) (fun f s₁ => f = .ref 21 ∧ wpAny (model pw w) A (eval arg env) (fun v s₂ => s₂.heap.get? 21 = some (fnAt 1 20 0) ∧ wpAny (model pw w) A (call (.ref 21) [v]) Q E s₂) E s₁) E s) :
    wpAny (model pw w) A (eval (.Call (.Name fn fp) [arg] [] cp) env) Q E s := by
  refine Call_name1 hs (wpAny_mono h (fun f s₁ h₁ => ?_) fun _ _ h => h)
  obtain ⟨rfl, h₁⟩ := h₁
  refine Calls.callWith_function (o := fnAt 1 20 0) (fd := fdAt 1 20 0) (Calls.evalArgs_plain (Calls.spliced_cons (wpAny_mono h₁ (fun v s₂ h₂ => Calls.spliced_nil ?_) fun _ _ h => h)))
  exact ⟨⟨h₂.1, rfl⟩, h₂.2⟩
theorem execs_append {env : Env} : ∀ (a b : List Stmt), execs (a ++ b) env = execs a env >>= fun f => match f with | .next => execs b env | f => pure f
  | [], b => rfl
  | st :: a, b => by
    rw [List.cons_append, execs_cons, execs_cons, bind_assoc]
    refine congrArg _ (funext fun f => ?_)
    cases f with
    | next => exact execs_append a b
    | _ => rfl
theorem wpAny_execs_append {M : Model} {A : Around} {E : Value → Shared → Prop} {s : Shared} {env : Env} {a b : List Stmt} {Q : Flow → Shared → Prop}
    (h : wpAny M A (execs a env) (fun f s' => match f with | .next => wpAny M A (execs b env) Q E s' | f => Q f s') E s) : wpAny M A (execs (a ++ b) env) Q E s := by
  rw [execs_append]
  refine wpAny_bind (wpAny_mono h (fun f s' h' => ?_) fun _ _ h => h)
  cases f with
  | next => exact h'
  | _ => exact wpAny_pure h'
noncomputable def hkS : Nat → Hk
  | 0 => pHk "str.__contains__" hasF
  | 1 => pHk "int.__ne__" (cmpF fun a b => a != b)
  | 2 => oHk "str.__getitem__" sliceF
  | 3 => aHk 0
  | 4 => pHk "int.__lt__" (cmpF fun a b => decide (a < b))
  | 5 => oHk "str.join" joinF
  | 6 => pHk "int.__eq__" (cmpF fun a b => a == b)
  | 7 => pHk "len" lenF
  | _ + 8 => noHk
theorem hkS_loc : ∀ n, HLoc (hkS n)
  | 0 => pHk_loc _ _
  | 1 => pHk_loc _ _
  | 2 => oHk_loc _ _
  | 3 => aHk_loc 0
  | 4 => pHk_loc _ _
  | 5 => oHk_loc _ _
  | 6 => pHk_loc _ _
  | 7 => pHk_loc _ _
  | _ + 8 => noHk_loc
theorem hkS_ok (w : World) (B : Bs) : ∀ n, HOk pw w B 0 (hkS n)
  | 0 => pHk_ok (has_law w) B 0
  | 1 => pHk_ok (ne_law w) B 0
  | 2 => oHk_ok (slice_law w) B 0
  | 3 => aHk_ok w B 0
  | 4 => pHk_ok (lt_law w) B 0
  | 5 => oHk_ok (join_law w) B 0
  | 6 => pHk_ok (eq_law w) B 0
  | 7 => pHk_ok (len_law w) B 0
  | _ + 8 => noHk_ok pw w B 0
noncomputable def stripF : List Value → Nat → Option (Kd × Prop) := fun args _ => match args with
  | [.str x _] => some (.str (stripS x), ∃ its, TextOk x its)
  | _ => none
noncomputable def hkC : Nat → Hk
  | 0 => fHk 28 stripF
  | _ + 1 => noHk
theorem hkC_loc : ∀ n, HLoc (hkC n)
  | 0 => fHk_loc _ _
  | _ + 1 => noHk_loc
theorem hkC_ok {w : World} {room : Nat} (l : 200 ≤ room) (L : FLaw w room 28 stripF) {K : Addr → Option Obj} (x : TopK w.params K) (os : OsState) (r : Nat) : ∀ n, HOkH pw w ⟨K, AllBare, os⟩ r room (hkC n)
  | 0 => fHk_ok L x os r
  | _ + 1 => (noHk_ok pw w _ r).more l
theorem kC0 : ∀ (P : Params) (ρ τ : Nat → Nat) (h : Nat) (x : Str) (ka ta : Nat), Said (runE (GH h P 0 hkC) ρ τ 60 (.top (PySem.W.Fast.tw12799170849360803516 (ρ 0))) (mkT [fro P [(nAddr, ka, .str x ta)]]) 1 0 1210107565282752173442048 [] []) [0] .next [∃ its, TextOk x its] [some (cF2 P (stripS x) ka (τ 0) (τ 3) 0 (τ 2))] := by intros; kernel_rfl
theorem kCN : ∀ (P : Params) (ρ τ : Nat → Nat) (x : Str) (ka ta ko : Nat) (z : Int) (tz : Nat), Said (runE (GG P 0 hkS) ρ τ 20 (.top (PySem.W.Fast.tw14961703384738674876 (ρ 0))) (mkT [cF2 P x ka ta ko z tz]) 1 0 0 [] []) [0] (.ref 21) [] [some (cF2 P x ka ta ko z tz)] := by intros; kernel_rfl
theorem kCX : ∀ (P : Params) (ρ τ : Nat → Nat) (x : Str) (ka ta ko : Nat) (z : Int) (tz : Nat), Said (runE (GG P 0 hkS) ρ τ 20 (.top (PySem.W.Fast.tw6435969052245741431 (ρ 0))) (mkT [cF2 P x ka ta ko z tz]) 1 0 1 [] []) [0] (.str x ta) [] [some (cF2 P x ka ta ko z tz)] := by intros; kernel_rfl
theorem kCA2 : ∀ (P : Params) (ρ τ : Nat → Nat) (x : Str) (ka ta ko : Nat) (z : Int) (tz : Nat) (z1 : Int) (t1 : Nat) (x2 : Str) (t2 : Nat), Said (runE (GG P 1 noH) ρ τ 90 (.top (PySem.W.Fast.tw4652692019542861085 (ρ 0) (ρ 1))) (mkT [tupO [.int z1 t1, .str x2 t2], cF2 P x ka ta ko z tz]) 2 0 4483868261961287119907240585903950522704706653744454091246049911453910086221989338674191665873046995969 [] []) [1] () [] [some (cF4 P x ka ta ko z tz (τ 0) z1 t1 (τ 1) x2 t2)] := by refine Pb_elim fun b P => ?_; intros; cases b <;> kernel_rfl
theorem kCA4 : ∀ (P : Params) (ρ τ : Nat → Nat) (x : Str) (ka ta ko : Nat) (z : Int) (tz : Nat) (kp : Nat) (pz : Int) (tp kc : Nat) (c : Str) (tc : Nat) (z1 : Int) (t1 : Nat) (x2 : Str) (t2 : Nat), Said (runE (GG P 1 noH) ρ τ 90 (.top (PySem.W.Fast.tw4652692019542861085 (ρ 0) (ρ 1))) (mkT [tupO [.int z1 t1, .str x2 t2], cF4 P x ka ta ko z tz kp pz tp kc c tc]) 2 0 4483868261961287119907240585903950522704706653744454091246049911453910086221989338674191665873046995969 [] []) [1] () [] [some (cF4 P x ka ta ko z tz kp z1 t1 kc x2 t2)] := by refine Pb_elim fun b P => ?_; intros; cases b <;> kernel_rfl
theorem kCB40 : ∀ (P : Params) (ρ τ : Nat → Nat) (x : Str) (ka ta ko : Nat) (z : Int) (tz : Nat) (kp : Nat) (pz : Int) (tp kc : Nat) (tc : Nat), Said (runE (GG P 0 hkS) ρ τ 60 (.top (PySem.W.Fast.tw1460964928214864318 (ρ 0))) (mkT [cF4 P x ka ta ko z tz kp pz tp kc ⟨#[40]⟩ tc]) 1 0 1126999419518977 [] []) [0] .next [] [some (cF4 P x ka ta ko (z + 1) (τ 2) kp pz tp kc ⟨#[40]⟩ tc)] := by refine Pb_elim fun b P => ?_; intros; cases b <;> kernel_rfl
theorem kCB41t : ∀ (P : Params) (ρ τ : Nat → Nat) (x : Str) (ka ta ko : Nat) (z : Int) (tz : Nat) (kp : Nat) (pz : Int) (tp kc : Nat) (tc : Nat), Said (runE (GG P 0 hkS) ρ τ 90 (.top (PySem.W.Fast.tw1460964928214864318 (ρ 0))) (mkT [cF4 P x ka ta ko z tz kp pz tp kc ⟨#[41]⟩ tc]) 1 0 1273841510532220460821904359425 [] []) [0] (.ret (.bool false)) [decide (z - 1 < 0) = true] [some (cF4 P x ka ta ko (z - 1) (τ 3) kp pz tp kc ⟨#[41]⟩ tc)] := by refine Pb_elim fun b P => ?_; intros; cases b <;> kernel_rfl
theorem kCB41f : ∀ (P : Params) (ρ τ : Nat → Nat) (x : Str) (ka ta ko : Nat) (z : Int) (tz : Nat) (kp : Nat) (pz : Int) (tp kc : Nat) (tc : Nat), Said (runE (GG P 0 hkS) ρ τ 90 (.top (PySem.W.Fast.tw1460964928214864318 (ρ 0))) (mkT [cF4 P x ka ta ko z tz kp pz tp kc ⟨#[41]⟩ tc]) 1 0 6190910303991059325201154049 [] []) [0] .next [decide (z - 1 < 0) = false] [some (cF4 P x ka ta ko (z - 1) (τ 3) kp pz tp kc ⟨#[41]⟩ tc)] := by refine Pb_elim fun b P => ?_; intros; cases b <;> kernel_rfl
theorem kCB92 : ∀ (P : Params) (ρ τ : Nat → Nat) (x : Str) (ka ta ko : Nat) (z : Int) (tz : Nat) (kp : Nat) (pz : Int) (tp kc : Nat) (c tc : Nat), Said (runE (GG P 0 hkS) ρ τ 60 (.top (PySem.W.Fast.tw1460964928214864318 (ρ 0))) (mkT [cF4 P x ka ta ko z tz kp pz tp kc ⟨#[92, c]⟩ tc]) 1 0 1048577 [] []) [0] .next [] [some (cF4 P x ka ta ko z tz kp pz tp kc ⟨#[92, c]⟩ tc)] := by refine Pb_elim fun b P => ?_; intros; cases b <;> kernel_rfl
theorem kCB34 : ∀ (P : Params) (ρ τ : Nat → Nat) (x : Str) (ka ta ko : Nat) (z : Int) (tz : Nat) (kp : Nat) (pz : Int) (tp kc : Nat) (tc : Nat), Said (runE (GG P 0 hkS) ρ τ 60 (.top (PySem.W.Fast.tw1460964928214864318 (ρ 0))) (mkT [cF4 P x ka ta ko z tz kp pz tp kc ⟨#[34]⟩ tc]) 1 0 1048577 [] []) [0] .next [] [some (cF4 P x ka ta ko z tz kp pz tp kc ⟨#[34]⟩ tc)] := by refine Pb_elim fun b P => ?_; intros; cases b <;> kernel_rfl
theorem kC3t2 : ∀ (P : Params) (ρ τ : Nat → Nat) (x : Str) (ka ta ko : Nat) (z : Int) (tz : Nat), Said (runE (GG P 0 hkS) ρ τ 30 (.top (PySem.W.Fast.tw8766429147182170678 (ρ 0))) (mkT [cF2 P x ka ta ko z tz]) 1 0 1055745 [] []) [0] (.ret (.bool true)) [(z == 0) = true] [some (cF2 P x ka ta ko z tz)] := by refine Pb_elim fun b P => ?_; intros; cases b <;> kernel_rfl
theorem kC3f2 : ∀ (P : Params) (ρ τ : Nat → Nat) (x : Str) (ka ta ko : Nat) (z : Int) (tz : Nat), Said (runE (GG P 0 hkS) ρ τ 30 (.top (PySem.W.Fast.tw8766429147182170678 (ρ 0))) (mkT [cF2 P x ka ta ko z tz]) 1 0 7169 [] []) [0] (.ret (.bool false)) [(z == 0) = false] [some (cF2 P x ka ta ko z tz)] := by refine Pb_elim fun b P => ?_; intros; cases b <;> kernel_rfl
theorem kC3t4 : ∀ (P : Params) (ρ τ : Nat → Nat) (x : Str) (ka ta ko : Nat) (z : Int) (tz : Nat) (kp : Nat) (pz : Int) (tp kc : Nat) (c : Str) (tc : Nat), Said (runE (GG P 0 hkS) ρ τ 30 (.top (PySem.W.Fast.tw8766429147182170678 (ρ 0))) (mkT [cF4 P x ka ta ko z tz kp pz tp kc c tc]) 1 0 1055745 [] []) [0] (.ret (.bool true)) [(z == 0) = true] [some (cF4 P x ka ta ko z tz kp pz tp kc c tc)] := by refine Pb_elim fun b P => ?_; intros; cases b <;> kernel_rfl
theorem kC3f4 : ∀ (P : Params) (ρ τ : Nat → Nat) (x : Str) (ka ta ko : Nat) (z : Int) (tz : Nat) (kp : Nat) (pz : Int) (tp kc : Nat) (c : Str) (tc : Nat), Said (runE (GG P 0 hkS) ρ τ 30 (.top (PySem.W.Fast.tw8766429147182170678 (ρ 0))) (mkT [cF4 P x ka ta ko z tz kp pz tp kc c tc]) 1 0 7169 [] []) [0] (.ret (.bool false)) [(z == 0) = false] [some (cF4 P x ka ta ko z tz kp pz tp kc c tc)] := by refine Pb_elim fun b P => ?_; intros; cases b <;> kernel_rfl
theorem kCD : ∀ (P : Params) (ρ τ : Nat → Nat) (x : Str) (t : Nat), Said (runE (GG P 0 noH) ρ τ 60 (.top (doorT 35 (fdAt 3 34 0) (bodyOf 3) (argsD x t))) (mkT []) 0 0 1025 [] []) [0] (.again (.func (bodyOf 3) (cEnv (ρ 0)))) [] [some (fro P [(nAddr, τ 0, .str x t)])] := by intros; kernel_rfl
theorem kS0t : ∀ (P : Params) (ρ τ : Nat → Nat) (x : Str) (ka ta : Nat), Said (runE (GG P 0 hkS) ρ τ 30 (.top (PySem.W.Fast.tw15361783269489340843 (ρ 0))) (mkT [fro P [(nAddr, ka, .str x ta)]]) 1 0 1049601 [] []) [0] .next [(Builtin.Str.occurrences x ⟨#[34]⟩ 0 x.length 1).isEmpty = false] [some (fro P [(nAddr, ka, .str x ta)])] := by refine Pb_elim fun b P => ?_; intros; cases b <;> kernel_rfl
theorem kS0f : ∀ (P : Params) (ρ τ : Nat → Nat) (x : Str) (ka ta : Nat), Said (runE (GG P 0 hkS) ρ τ 30 (.top (PySem.W.Fast.tw15361783269489340843 (ρ 0))) (mkT [fro P [(nAddr, ka, .str x ta)]]) 1 0 1073742849 [] []) [0] (.ret (.str x ta)) [(Builtin.Str.occurrences x ⟨#[34]⟩ 0 x.length 1).isEmpty = true] [some (fro P [(nAddr, ka, .str x ta)])] := by refine Pb_elim fun b P => ?_; intros; cases b <;> kernel_rfl
theorem kS1 : ∀ (P : Params) (ρ τ : Nat → Nat) (x : Str) (ka ta : Nat), Said (runE (GG P 0 hkS) ρ τ 60 (.top (PySem.W.Fast.tw2802064469528592901 (ρ 0))) (mkT [fro P [(nAddr, ka, .str x ta)]]) 1 0 1127000493261825 [] []) [0, 1] .next [] [some (sF4 P x ka ta (τ 1) 0 (τ 0) (τ 2) .none (τ 3) (ρ 1)), some (lstO [] 0)] := by intros; kernel_rfl
theorem kSN : ∀ (P : Params) (ρ τ : Nat → Nat) (x : Str) (ka ta ks : Nat) (st : Int) (ts ko : Nat) (kr : Nat) (rl : Addr), Said (runE (GG P 0 hkS) ρ τ 20 (.top (PySem.W.Fast.tw16972753463683996580 (ρ 0))) (mkT [sF4 P x ka ta ks st ts ko .none kr rl]) 1 0 0 [] []) [0] (.ref 21) [] [some (sF4 P x ka ta ks st ts ko .none kr rl)] := by intros; kernel_rfl
theorem kSX : ∀ (P : Params) (ρ τ : Nat → Nat) (x : Str) (ka ta ks : Nat) (st : Int) (ts ko : Nat) (kr : Nat) (rl : Addr), Said (runE (GG P 0 hkS) ρ τ 20 (.top (PySem.W.Fast.tw11965419995276131033 (ρ 0))) (mkT [sF4 P x ka ta ks st ts ko .none kr rl]) 1 0 1 [] []) [0] (.str x ta) [] [some (sF4 P x ka ta ks st ts ko .none kr rl)] := by intros; kernel_rfl
theorem kSA4 : ∀ (P : Params) (ρ τ : Nat → Nat) (x : Str) (ka ta ks : Nat) (st : Int) (ts ko : Nat) (kr : Nat) (rl : Addr) (z1 : Int) (t1 : Nat) (x2 : Str) (t2 : Nat), Said (runE (GG P 1 noH) ρ τ 90 (.top (PySem.W.Fast.tw3277967543156862209 (ρ 0) (ρ 1))) (mkT [tupO [.int z1 t1, .str x2 t2], sF4 P x ka ta ks st ts ko .none kr rl]) 2 0 4483868261961287119907240585903950522704706653744454091246049911453910086221989338674191665873046995969 [] []) [1] () [] [some (sF6 P x ka ta ks st ts ko .none kr rl (τ 0) z1 t1 (τ 1) x2 t2)] := by refine Pb_elim fun b P => ?_; intros; cases b <;> kernel_rfl
theorem kSA6n : ∀ (P : Params) (ρ τ : Nat → Nat) (x : Str) (ka ta ks : Nat) (st : Int) (ts ko : Nat) (kr : Nat) (rl : Addr) (kp : Nat) (pz : Int) (tp kc : Nat) (c : Str) (tc : Nat) (z1 : Int) (t1 : Nat) (x2 : Str) (t2 : Nat), Said (runE (GG P 1 noH) ρ τ 90 (.top (PySem.W.Fast.tw3277967543156862209 (ρ 0) (ρ 1))) (mkT [tupO [.int z1 t1, .str x2 t2], sF6 P x ka ta ks st ts ko .none kr rl kp pz tp kc c tc]) 2 0 4483868261961287119907240585903950522704706653744454091246049911453910086221989338674191665873046995969 [] []) [1] () [] [some (sF6 P x ka ta ks st ts ko .none kr rl kp z1 t1 kc x2 t2)] := by refine Pb_elim fun b P => ?_; intros; cases b <;> kernel_rfl
theorem kSB40n : ∀ (P : Params) (ρ τ : Nat → Nat) (x : Str) (ka ta ks : Nat) (st : Int) (ts ko : Nat) (kr : Nat) (kp : Nat) (pz : Int) (tp kc : Nat) (tc : Nat) (vs : List Value) (vn : Nat), Said (runE (GG P 0 hkS) ρ τ 30 (.top (PySem.W.Fast.tw6992892401553408831 (ρ 1))) (mkT [lstO vs vn, sF6 P x ka ta ks st ts ko .none kr (ρ 0) kp pz tp kc ⟨#[40]⟩ tc]) 2 0 2 [] []) [0, 1] .next [] [some (lstO vs vn), some (sF6 P x ka ta ks st ts ko .none kr (ρ 0) kp pz tp kc ⟨#[40]⟩ tc)] := by refine Pb_elim fun b P => ?_; intros; cases b <;> kernel_rfl
theorem kSB41n : ∀ (P : Params) (ρ τ : Nat → Nat) (x : Str) (ka ta ks : Nat) (st : Int) (ts ko : Nat) (kr : Nat) (kp : Nat) (pz : Int) (tp kc : Nat) (tc : Nat) (vs : List Value) (vn : Nat), Said (runE (GG P 0 hkS) ρ τ 30 (.top (PySem.W.Fast.tw6992892401553408831 (ρ 1))) (mkT [lstO vs vn, sF6 P x ka ta ks st ts ko .none kr (ρ 0) kp pz tp kc ⟨#[41]⟩ tc]) 2 0 2 [] []) [0, 1] .next [] [some (lstO vs vn), some (sF6 P x ka ta ks st ts ko .none kr (ρ 0) kp pz tp kc ⟨#[41]⟩ tc)] := by refine Pb_elim fun b P => ?_; intros; cases b <;> kernel_rfl
theorem kSB92n : ∀ (P : Params) (ρ τ : Nat → Nat) (x : Str) (ka ta ks : Nat) (st : Int) (ts ko : Nat) (kr : Nat) (kp : Nat) (pz : Int) (tp kc : Nat) (c : Nat) (tc : Nat) (vs : List Value) (vn : Nat), Said (runE (GG P 0 hkS) ρ τ 30 (.top (PySem.W.Fast.tw6992892401553408831 (ρ 1))) (mkT [lstO vs vn, sF6 P x ka ta ks st ts ko .none kr (ρ 0) kp pz tp kc ⟨#[92, c]⟩ tc]) 2 0 2 [] []) [0, 1] .next [] [some (lstO vs vn), some (sF6 P x ka ta ks st ts ko .none kr (ρ 0) kp pz tp kc ⟨#[92, c]⟩ tc)] := by refine Pb_elim fun b P => ?_; intros; cases b <;> kernel_rfl
theorem kSA6s : ∀ (P : Params) (ρ τ : Nat → Nat) (x : Str) (ka ta ks : Nat) (st : Int) (ts ko : Nat) (kr : Nat) (rl : Addr) (oz : Int) (ot : Nat) (kp : Nat) (pz : Int) (tp kc : Nat) (c : Str) (tc : Nat) (z1 : Int) (t1 : Nat) (x2 : Str) (t2 : Nat), Said (runE (GG P 1 noH) ρ τ 90 (.top (PySem.W.Fast.tw3277967543156862209 (ρ 0) (ρ 1))) (mkT [tupO [.int z1 t1, .str x2 t2], sF6 P x ka ta ks st ts ko (.int oz ot) kr rl kp pz tp kc c tc]) 2 0 4483868261961287119907240585903950522704706653744454091246049911453910086221989338674191665873046995969 [] []) [1] () [] [some (sF6 P x ka ta ks st ts ko (.int oz ot) kr rl kp z1 t1 kc x2 t2)] := by refine Pb_elim fun b P => ?_; intros; cases b <;> kernel_rfl
theorem kSB40s : ∀ (P : Params) (ρ τ : Nat → Nat) (x : Str) (ka ta ks : Nat) (st : Int) (ts ko : Nat) (kr : Nat) (oz : Int) (ot : Nat) (kp : Nat) (pz : Int) (tp kc : Nat) (tc : Nat) (vs : List Value) (vn : Nat), Said (runE (GG P 0 hkS) ρ τ 30 (.top (PySem.W.Fast.tw6992892401553408831 (ρ 1))) (mkT [lstO vs vn, sF6 P x ka ta ks st ts ko (.int oz ot) kr (ρ 0) kp pz tp kc ⟨#[40]⟩ tc]) 2 0 2 [] []) [0, 1] .next [] [some (lstO vs vn), some (sF6 P x ka ta ks st ts ko (.int oz ot) kr (ρ 0) kp pz tp kc ⟨#[40]⟩ tc)] := by refine Pb_elim fun b P => ?_; intros; cases b <;> kernel_rfl
theorem kSB41s : ∀ (P : Params) (ρ τ : Nat → Nat) (x : Str) (ka ta ks : Nat) (st : Int) (ts ko : Nat) (kr : Nat) (oz : Int) (ot : Nat) (kp : Nat) (pz : Int) (tp kc : Nat) (tc : Nat) (vs : List Value) (vn : Nat), Said (runE (GG P 0 hkS) ρ τ 30 (.top (PySem.W.Fast.tw6992892401553408831 (ρ 1))) (mkT [lstO vs vn, sF6 P x ka ta ks st ts ko (.int oz ot) kr (ρ 0) kp pz tp kc ⟨#[41]⟩ tc]) 2 0 2 [] []) [0, 1] .next [] [some (lstO vs vn), some (sF6 P x ka ta ks st ts ko (.int oz ot) kr (ρ 0) kp pz tp kc ⟨#[41]⟩ tc)] := by refine Pb_elim fun b P => ?_; intros; cases b <;> kernel_rfl
theorem kSB92s : ∀ (P : Params) (ρ τ : Nat → Nat) (x : Str) (ka ta ks : Nat) (st : Int) (ts ko : Nat) (kr : Nat) (oz : Int) (ot : Nat) (kp : Nat) (pz : Int) (tp kc : Nat) (c : Nat) (tc : Nat) (vs : List Value) (vn : Nat), Said (runE (GG P 0 hkS) ρ τ 30 (.top (PySem.W.Fast.tw6992892401553408831 (ρ 1))) (mkT [lstO vs vn, sF6 P x ka ta ks st ts ko (.int oz ot) kr (ρ 0) kp pz tp kc ⟨#[92, c]⟩ tc]) 2 0 2 [] []) [0, 1] .next [] [some (lstO vs vn), some (sF6 P x ka ta ks st ts ko (.int oz ot) kr (ρ 0) kp pz tp kc ⟨#[92, c]⟩ tc)] := by refine Pb_elim fun b P => ?_; intros; cases b <;> kernel_rfl
theorem kSB34n : ∀ (P : Params) (ρ τ : Nat → Nat) (x : Str) (ka ta ks : Nat) (st : Int) (ts ko : Nat) (kr : Nat) (kp : Nat) (pz : Int) (tp kc : Nat) (tc : Nat) (vs : List Value) (vn : Nat), Said (runE (GG P 0 hkS) ρ τ 60 (.top (PySem.W.Fast.tw6992892401553408831 (ρ 1))) (mkT [lstO vs vn, sF6 P x ka ta ks st ts ko .none kr (ρ 0) kp pz tp kc ⟨#[34]⟩ tc]) 2 0 2254000986521602 [] []) [0, 1] .next [] [some (lstO vs vn), some (sF6 P x ka ta ks st ts ko (.int pz tp) kr (ρ 0) kp pz tp kc ⟨#[34]⟩ tc)] := by refine Pb_elim fun b P => ?_; intros; cases b <;> kernel_rfl
theorem kSB34s : ∀ (P : Params) (ρ τ : Nat → Nat) (x : Str) (ka ta ks : Nat) (st : Int) (ts ko : Nat) (kr : Nat) (oz : Int) (ot : Nat) (kp : Nat) (pz : Int) (tp kc : Nat) (tc : Nat) (vs : List Value) (vn : Nat), Said (runE (GG P 0 hkS) ρ τ 140 (.top (PySem.W.Fast.tw6992892401553408831 (ρ 1))) (mkT [lstO vs vn, sF6 P x ka ta ks st ts ko (.int oz ot) kr (ρ 0) kp pz tp kc ⟨#[34]⟩ tc]) 2 0 3537148376014509588089555728438497141189625540373001625868771767242194946 [] []) [0, 1] .next [vs.toArray.size ≤ 1000, (Value.type "slice" = .type "slice" ∧ 0 ≤ st ∧ st ≤ oz ∧ oz ≤ x.length ∧ x.length ≤ 1000), (st != oz) = true] [some (Obj.mapSeq (·.push (.str ⟨((x.cps.toList.drop st.toNat).take (oz.toNat - st.toNat)).toArray⟩ (τ 2))) (lstO vs vn)), some (sF6 P x ka ta ks (pz + 1) (τ 4) ko .none kr (ρ 0) kp pz tp kc ⟨#[34]⟩ tc)] := by refine Pb_elim fun b P => ?_; intros; cases b <;> kernel_rfl
theorem kSB34z : ∀ (P : Params) (ρ τ : Nat → Nat) (x : Str) (ka ta ks : Nat) (st : Int) (ts ko : Nat) (kr : Nat) (oz : Int) (ot : Nat) (kp : Nat) (pz : Int) (tp kc : Nat) (tc : Nat) (vs : List Value) (vn : Nat), Said (runE (GG P 0 hkS) ρ τ 140 (.top (PySem.W.Fast.tw6992892401553408831 (ρ 1))) (mkT [lstO vs vn, sF6 P x ka ta ks st ts ko (.int oz ot) kr (ρ 0) kp pz tp kc ⟨#[34]⟩ tc]) 2 0 2661054677776182055836938347739086850 [] []) [0, 1] .next [(st != oz) = false] [some (lstO vs vn), some (sF6 P x ka ta ks (pz + 1) (τ 3) ko .none kr (ρ 0) kp pz tp kc ⟨#[34]⟩ tc)] := by refine Pb_elim fun b P => ?_; intros; cases b <;> kernel_rfl
theorem kS5t4 : ∀ (P : Params) (ρ τ : Nat → Nat) (x : Str) (ka ta ks : Nat) (st : Int) (ts ko : Nat) (kr : Nat) (vs : List Value) (vn : Nat), Said (runE (GG P 0 hkS) ρ τ 100 (.top (PySem.W.Fast.tw15219882762251007088 (ρ 1))) (mkT [lstO vs vn, sF4 P x ka ta ks st ts ko .none kr (ρ 0)]) 2 0 5989237994315435015957377910237793265163673043730434 [] []) [0, 1] .next [vs.toArray.size ≤ 1000, (Value.type "slice" = .type "slice" ∧ 0 ≤ st ∧ st ≤ x.length ∧ x.length ≤ 1000), decide (st < (x.length : Int)) = true, x.length ≤ 1000] [some (Obj.mapSeq (·.push (.str ⟨(x.cps.toList.drop st.toNat).toArray⟩ (τ 2))) (lstO vs vn)), some (sF4 P x ka ta ks st ts ko .none kr (ρ 0))] := by refine Pb_elim fun b P => ?_; intros; cases b <;> kernel_rfl
theorem kS5f4 : ∀ (P : Params) (ρ τ : Nat → Nat) (x : Str) (ka ta ks : Nat) (st : Int) (ts ko : Nat) (kr : Nat) (vs : List Value) (vn : Nat), Said (runE (GG P 0 hkS) ρ τ 60 (.top (PySem.W.Fast.tw15219882762251007088 (ρ 1))) (mkT [lstO vs vn, sF4 P x ka ta ks st ts ko .none kr (ρ 0)]) 2 0 5764616321274740738 [] []) [0, 1] .next [decide (st < (x.length : Int)) = false, x.length ≤ 1000] [some (lstO vs vn), some (sF4 P x ka ta ks st ts ko .none kr (ρ 0))] := by refine Pb_elim fun b P => ?_; intros; cases b <;> kernel_rfl
theorem kS64 : ∀ (P : Params) (ρ τ : Nat → Nat) (x : Str) (ka ta ks : Nat) (st : Int) (ts ko : Nat) (kr : Nat) (vs : List Value) (vn : Nat), Said (runE (GG P 0 hkS) ρ τ 30 (.top (PySem.W.Fast.tw7030492946342394357 (ρ 1))) (mkT [lstO vs vn, sF4 P x ka ta ks st ts ko .none kr (ρ 0)]) 2 0 6146 [] []) [0, 1] (.ret (.str ⟨(catV vs).toArray⟩ (τ 1))) [(Value.type "list" = .type "list" ∧ (⟨#[]⟩ : Str) = ⟨#[]⟩ ∧ (∃ l, vs = strValues l) ∧ (catV vs).length ≤ 1000)] [some (lstO vs vn), some (sF4 P x ka ta ks st ts ko .none kr (ρ 0))] := by intros; kernel_rfl
theorem kS5t6 : ∀ (P : Params) (ρ τ : Nat → Nat) (x : Str) (ka ta ks : Nat) (st : Int) (ts ko : Nat) (kr : Nat) (kp : Nat) (pz : Int) (tp kc : Nat) (c : Str) (tc : Nat) (vs : List Value) (vn : Nat), Said (runE (GG P 0 hkS) ρ τ 100 (.top (PySem.W.Fast.tw15219882762251007088 (ρ 1))) (mkT [lstO vs vn, sF6 P x ka ta ks st ts ko .none kr (ρ 0) kp pz tp kc c tc]) 2 0 5989237994315435015957377910237793265163673043730434 [] []) [0, 1] .next [vs.toArray.size ≤ 1000, (Value.type "slice" = .type "slice" ∧ 0 ≤ st ∧ st ≤ x.length ∧ x.length ≤ 1000), decide (st < (x.length : Int)) = true, x.length ≤ 1000] [some (Obj.mapSeq (·.push (.str ⟨(x.cps.toList.drop st.toNat).toArray⟩ (τ 2))) (lstO vs vn)), some (sF6 P x ka ta ks st ts ko .none kr (ρ 0) kp pz tp kc c tc)] := by refine Pb_elim fun b P => ?_; intros; cases b <;> kernel_rfl
theorem kS5f6 : ∀ (P : Params) (ρ τ : Nat → Nat) (x : Str) (ka ta ks : Nat) (st : Int) (ts ko : Nat) (kr : Nat) (kp : Nat) (pz : Int) (tp kc : Nat) (c : Str) (tc : Nat) (vs : List Value) (vn : Nat), Said (runE (GG P 0 hkS) ρ τ 60 (.top (PySem.W.Fast.tw15219882762251007088 (ρ 1))) (mkT [lstO vs vn, sF6 P x ka ta ks st ts ko .none kr (ρ 0) kp pz tp kc c tc]) 2 0 5764616321274740738 [] []) [0, 1] .next [decide (st < (x.length : Int)) = false, x.length ≤ 1000] [some (lstO vs vn), some (sF6 P x ka ta ks st ts ko .none kr (ρ 0) kp pz tp kc c tc)] := by refine Pb_elim fun b P => ?_; intros; cases b <;> kernel_rfl
theorem kS66 : ∀ (P : Params) (ρ τ : Nat → Nat) (x : Str) (ka ta ks : Nat) (st : Int) (ts ko : Nat) (kr : Nat) (kp : Nat) (pz : Int) (tp kc : Nat) (c : Str) (tc : Nat) (vs : List Value) (vn : Nat), Said (runE (GG P 0 hkS) ρ τ 30 (.top (PySem.W.Fast.tw7030492946342394357 (ρ 1))) (mkT [lstO vs vn, sF6 P x ka ta ks st ts ko .none kr (ρ 0) kp pz tp kc c tc]) 2 0 6146 [] []) [0, 1] (.ret (.str ⟨(catV vs).toArray⟩ (τ 1))) [(Value.type "list" = .type "list" ∧ (⟨#[]⟩ : Str) = ⟨#[]⟩ ∧ (∃ l, vs = strValues l) ∧ (catV vs).length ≤ 1000)] [some (lstO vs vn), some (sF6 P x ka ta ks st ts ko .none kr (ρ 0) kp pz tp kc c tc)] := by intros; kernel_rfl
theorem kSD : ∀ (P : Params) (ρ τ : Nat → Nat) (x : Str) (t : Nat), Said (runE (GG P 0 noH) ρ τ 60 (.top (doorT 28 (fdAt 2 27 0) (bodyOf 2) (argsD x t))) (mkT []) 0 0 1025 [] []) [0] (.again (.func (bodyOf 2) (sEnv (ρ 0)))) [] [some (fro P [(nAddr, τ 0, .str x t)])] := by intros; kernel_rfl
/-! ## Runs of one or two objects -/
section
variable {α : Type} {w : World} {A : Around} {Q : α → Shared → Prop} {E : Value → Shared → Prop} {H : Nat → Hk} {s : Shared} (GP : Array GenState → Prop)
theorem run1 (h n : Nat) (L : Addr) (t : Addr → Sem α) (o : Obj) (orc : Nat) (a : (Nat → Nat) → (Nat → Nat) → α) (ps : (Nat → Nat) → (Nat → Nat) → List Prop) (o' : (Nat → Nat) → (Nat → Nat) → Obj)
    (x : TopK w.params (butL s.heap [L])) (hh : A.handled = none) (h2 : 200 ≤ h) (hd : A.depth + 100 + h < recursionLimit) (hl : ∀ n, HLoc (H n)) (hk : ∀ n, HOkH pw w ⟨butL s.heap [L], GP, s.os⟩ 0 h (H n)) (hg : GP s.gens) (hL : s.heap.get? L = some o)
    (hrun : ∀ ρ τ, (runE (GH h w.params 0 H) ρ τ n (.top (t (ρ 0))) (mkT [o]) 1 0 orc [] []).said [0] = (some (a ρ τ), (runE (GH h w.params 0 H) ρ τ n (.top (t (ρ 0))) (mkT [o]) 1 0 orc [] []).owed, ps ρ τ, [some (o' ρ τ)]))
    (hp : ∀ ρ τ, ρ 0 = L → AllP (ps ρ τ))
    (hQ : ∀ ρ τ s', ρ 0 = L → s'.heap.get? L = some (o' ρ τ) → (∀ b ob, b ≠ L → s.heap.get? b = some ob → s'.heap.get? b = some ob) → GP s'.gens → s'.os = s.os → Q (a ρ τ) s') : wpAny (model pw w) A (t L) Q E s := by
  refine runL GP h n [L] (fun ρ => t (ρ 0)) (fun _ => [o]) orc [0] a ps (fun ρ τ => [some (o' ρ τ)]) x hh h2 hd hl hk hg (by simp) rfl (fun i ob e => ?_) (fun ρ' aρ => ?_) (fun _ _ => rfl) hrun (fun ρ τ aρ => hp ρ τ (aρ 0 Nat.zero_lt_one)) fun ρ τ T m s' aρ R e k g os => ?_
  · cases i with
    | zero => cases e; exact hL
    | succ i => cases e
  · show t (ρ' 0) = t (adr [L] 0)
    rw [aρ 0 Nat.zero_lt_one]
  · have e0 : ρ 0 = L := aρ 0 Nat.zero_lt_one
    have g0 : T.get 0 = some (o' ρ τ) := by simpa using e
    exact hQ ρ τ s' e0 (by rw [← e0]; exact (R.own 0 _ g0).2) (fun b ob q e' => k b ob (by simpa using q) e') g os
/-- one changed, one new -/
theorem run1n (h n : Nat) (L : Addr) (t : Addr → Sem α) (o : Obj) (orc : Nat) (a : (Nat → Nat) → (Nat → Nat) → α) (ps : (Nat → Nat) → (Nat → Nat) → List Prop) (o' n' : (Nat → Nat) → (Nat → Nat) → Obj)
    (x : TopK w.params (butL s.heap [L])) (hh : A.handled = none) (h2 : 200 ≤ h) (hd : A.depth + 100 + h < recursionLimit) (hl : ∀ n, HLoc (H n)) (hk : ∀ n, HOkH pw w ⟨butL s.heap [L], GP, s.os⟩ 0 h (H n)) (hg : GP s.gens) (hL : s.heap.get? L = some o)
    (hrun : ∀ ρ τ, (runE (GH h w.params 0 H) ρ τ n (.top (t (ρ 0))) (mkT [o]) 1 0 orc [] []).said [0, 1] = (some (a ρ τ), (runE (GH h w.params 0 H) ρ τ n (.top (t (ρ 0))) (mkT [o]) 1 0 orc [] []).owed, ps ρ τ, [some (o' ρ τ), some (n' ρ τ)]))
    (hp : ∀ ρ τ, ρ 0 = L → AllP (ps ρ τ))
    (hQ : ∀ ρ τ s', ρ 0 = L → s'.heap.get? L = some (o' ρ τ) → s'.heap.get? (ρ 1) = some (n' ρ τ) → ρ 1 ≠ L → s.heap.get? (ρ 1) = none → (∀ b ob, b ≠ L → s.heap.get? b = some ob → s'.heap.get? b = some ob) → GP s'.gens → s'.os = s.os → Q (a ρ τ) s') : wpAny (model pw w) A (t L) Q E s := by
  refine runL GP h n [L] (fun ρ => t (ρ 0)) (fun _ => [o]) orc [0, 1] a ps (fun ρ τ => [some (o' ρ τ), some (n' ρ τ)]) x hh h2 hd hl hk hg (by simp) rfl (fun i ob e => ?_) (fun ρ' aρ => ?_) (fun _ _ => rfl) hrun (fun ρ τ aρ => hp ρ τ (aρ 0 Nat.zero_lt_one)) fun ρ τ T m s' aρ R e k g os => ?_
  · cases i with
    | zero => cases e; exact hL
    | succ i => cases e
  · show t (ρ' 0) = t (adr [L] 0)
    rw [aρ 0 Nat.zero_lt_one]
  · have e0 : ρ 0 = L := aρ 0 Nat.zero_lt_one
    simp only [List.map_cons, List.map_nil, List.cons.injEq, and_true] at e
    have ne : ρ 1 ≠ L := fun q => by
      have := R.inj 1 0 _ _ (Nat.zero_le 1) e.2 e.1 (q.trans e0.symm)
      cases this
    have hn : butL s.heap [L] (ρ 1) = none := R.new 1 _ (Nat.zero_le 1) e.2
    rw [butL_out (by simpa using ne)] at hn
    exact hQ ρ τ s' e0 (by rw [← e0]; exact (R.own 0 _ e.1).2) (R.own 1 _ e.2).2 ne hn (fun b ob q e' => k b ob (by simpa using q) e') g os
theorem run2 (h n : Nat) (L0 L1 : Addr) (t : Addr → Sem α) (o0 : Obj) (o1 : Addr → Obj) (orc : Nat) (a : (Nat → Nat) → (Nat → Nat) → α) (ps : (Nat → Nat) → (Nat → Nat) → List Prop) (p0 p1 : (Nat → Nat) → (Nat → Nat) → Obj)
    (x : TopK w.params (butL s.heap [L0, L1])) (hh : A.handled = none) (h2 : 200 ≤ h) (hd : A.depth + 100 + h < recursionLimit) (hl : ∀ n, HLoc (H n)) (hk : ∀ n, HOkH pw w ⟨butL s.heap [L0, L1], GP, s.os⟩ 0 h (H n)) (hg : GP s.gens) (hne : L0 ≠ L1) (h0 : s.heap.get? L0 = some o0) (h1 : s.heap.get? L1 = some (o1 L0))
    (hrun : ∀ ρ τ, (runE (GH h w.params 0 H) ρ τ n (.top (t (ρ 1))) (mkT [o0, o1 (ρ 0)]) 2 0 orc [] []).said [0, 1] = (some (a ρ τ), (runE (GH h w.params 0 H) ρ τ n (.top (t (ρ 1))) (mkT [o0, o1 (ρ 0)]) 2 0 orc [] []).owed, ps ρ τ, [some (p0 ρ τ), some (p1 ρ τ)]))
    (hp : ∀ ρ τ, ρ 0 = L0 → ρ 1 = L1 → AllP (ps ρ τ))
    (hQ : ∀ ρ τ s', ρ 0 = L0 → ρ 1 = L1 → s'.heap.get? L0 = some (p0 ρ τ) → s'.heap.get? L1 = some (p1 ρ τ) → (∀ b ob, b ∉ [L0, L1] → s.heap.get? b = some ob → s'.heap.get? b = some ob) → GP s'.gens → s'.os = s.os → Q (a ρ τ) s') : wpAny (model pw w) A (t L1) Q E s := by
  refine runL GP h n [L0, L1] (fun ρ => t (ρ 1)) (fun ρ => [o0, o1 (ρ 0)]) orc [0, 1] a ps (fun ρ τ => [some (p0 ρ τ), some (p1 ρ τ)]) x hh h2 hd hl hk hg (by simpa using hne) rfl (fun i ob e => ?_) (fun ρ' aρ => ?_) (fun ρ' aρ => ?_) hrun (fun ρ τ aρ => hp ρ τ (aρ 0 (by simp)) (aρ 1 (by simp))) fun ρ τ T m s' aρ R e k g os => ?_
  · match i, e with
    | 0, e => cases e; exact h0
    | 1, e => cases e; exact h1
    | i + 2, e => cases e
  · show t (ρ' 1) = t (adr [L0, L1] 1)
    rw [aρ 1 (by simp)]
  · show [o0, o1 (ρ' 0)] = [o0, o1 (adr [L0, L1] 0)]
    rw [aρ 0 (by simp)]
  · have e0 : ρ 0 = L0 := aρ 0 (by simp)
    have e1 : ρ 1 = L1 := aρ 1 (by simp)
    simp only [List.map_cons, List.map_nil, List.cons.injEq, and_true] at e
    exact hQ ρ τ s' e0 e1 (by rw [← e0]; exact (R.own 0 _ e.1).2) (by rw [← e1]; exact (R.own 1 _ e.2).2) k g os
end
/-- a plain function of one text is entered -/
theorem enter1 {w : World} {A : Around} {R : Result → Shared → Prop} {s : Shared} {fa i c : Nat} {x : Str} {t : Tok} {body : List Stmt} {env : Addr → Env} (X : TopK w.params fun b => s.heap.get? b) (hh : A.handled = none) (hd : A.depth + 310 < recursionLimit)
    (hkt : kt w.params fa = some (fnAt i c 0)) (hm : (fa, i, c, 0) ∈ fnL) (h1 : (fdAt i c 0).scope.isCoroutine = false) (h3 : (fdAt i c 0).scope.isGenerator = false) (h4 : (fdAt i c 0).body = .stmts body) (h5 : (fdAt i c 0).code = .ref c)
    (hrun : ∀ ρ τ, (runE (GG w.params 0 noH) ρ τ 60 (.top (doorT fa (fdAt i c 0) body (argsD x t))) (mkT []) 0 0 1025 [] []).said [0] = (some (.again (.func body (env (ρ 0)))), (runE (GG w.params 0 noH) ρ τ 60 (.top (doorT fa (fdAt i c 0) body (argsD x t))) (mkT []) 0 0 1025 [] []).owed, [], [some (fro w.params [(nAddr, τ 0, .str x t)])]))
    (hQ : ∀ L ka s', s.heap.get? L = none → s'.heap.get? L = some (fro w.params [(nAddr, ka, .str x t)]) → (∀ b o, s.heap.get? b = some o → s'.heap.get? b = some o) → s'.gens = s.gens → s'.os = s.os → codeAny (model pw w) A (.func body (env L)) R s') :
    codeAny (model pw w) A (.call (.ref fa) (argsD x t)) R s := by
  have hw : (Code.call (.ref fa) (argsD x t)).weight = 0 := rfl
  have d1 : (A.under (.call (.ref fa) (argsD x t))).depth = A.depth := by show A.depth + (Code.call (.ref fa) (argsD x t)).weight = _; rw [hw]; rfl
  have hh1 : (A.under (.call (.ref fa) (argsD x t))).handled = none := by simp [Around.under, hh]
  refine door (X.kt fa _ hkt) rfl h1 h3 h4 (by rw [h5]; exact X.code _ hm _ fun _ _ e => e) (wpAny_bind ?_)
  let B : Bs := ⟨fun b => s.heap.get? b, (· = s.gens), s.os⟩
  have R0 : Rep B 0 (adr []) (mkT []) 0 s := Rep.make (B := B) 0 (adr []) [] (fun _ _ e => e) rfl rfl (fun i o e => by cases i <;> cases e) (fun i _ hi => by cases hi) (fun i j _ hi => by cases hi)
  refine engF (B := B) (H := noH) 0 60 [] (fun _ => doorT fa (fdAt i c 0) body (argsD x t)) (fun _ => []) 1025 [0] (fun ρ _ => .again (.func body (env (ρ 0)))) (fun _ _ => []) (fun _ τ => [some (fro w.params [(nAddr, τ 0, .str x t)])]) X hh1 (by rw [d1]; omega) noH_loc (noH_ok w _ 0) R0 (fun _ _ => rfl) (fun _ _ => rfl)
    hrun (fun _ _ _ => trivial) fun ρ τ T m s' aρ R' e => ?_
  have g0 : T.get 0 = some (fro w.params [(nAddr, τ 0, .str x t)]) := by simpa using e
  refine wpAny_bind (wpAny_enterFrame (X.lim _ R'.keep) (by rw [d1]; omega) (wpAny_pure ⟨rfl, ?_⟩))
  exact hQ _ _ _ (R'.new 0 _ (Nat.zero_le _) g0) (R'.own 0 _ g0).2 R'.keep R'.gens R'.os
theorem in_mem {x : Str} {c : Nat} (h : (Builtin.Str.occurrences x ⟨#[c]⟩ 0 x.length 1).isEmpty = true) : c ∉ x.cps.toList := by
  have := StrLaws.found_one x c
  rw [h] at this
  simpa using this.symm
theorem noq_same : ∀ l : List It, (∀ z ∈ l, z ≠ .pl 34) → noq false l = l
  | [], _ => rfl
  | .pl c :: r, h => by
    have : c ≠ 34 := fun q => h _ (.head _) (by rw [q])
    show (if c = 34 then _ else _) = _
    rw [if_neg this]
    exact congrArg (It.pl c :: ·) (noq_same r fun z hz => h z (.tail _ hz))
  | .es c :: r, h => congrArg (It.es c :: ·) (noq_same r fun z hz => h z (.tail _ hz))
theorem strip_same {x : Str} {its : List It} (h : TextOk x its) (hn : 34 ∉ x.cps.toList) : stripS x = x := by
  rw [h.strip, noq_same its fun z hz q => ?_, ← h.flat]
  subst q
  apply hn
  rw [h.flat]
  unfold Mine.flat
  exact List.mem_flatMap.mpr ⟨_, hz, by simp [It.txt]⟩
/-! ## The loop of the second function -/
/-- where it stands: dn is taken, rs is left -/
inductive SV (x : Str) (W : List Nat) (dn rs : List It) (vs : List Value) : Int → Value → Prop
  | out (a : Nat) : a ≤ (flat dn).length → catV vs ++ ((x.cps.toList.drop a).take ((flat dn).length - a) ++ flat (noq false rs)) = W → qok false rs = true → SV x W dn rs vs a .none
  | inn (a p tp : Nat) : a ≤ p → p ≤ (flat dn).length → catV vs ++ ((x.cps.toList.drop a).take (p - a) ++ flat (noq true rs)) = W → qok true rs = true → SV x W dn rs vs a (.int p tp)
theorem take_drop_more {l d r : List Nat} {a k n : Nat} (h : l.drop k = d ++ r) (hn : d.length = n) (ha : a ≤ k) : (l.drop a).take (k + n - a) = (l.drop a).take (k - a) ++ d := by
  have e : l.drop k = (l.drop a).drop (k - a) := by rw [List.drop_drop]; congr 1; omega
  rw [show k + n - a = (k - a) + n by omega, List.take_add, ← e, h, ← hn, List.take_left]
theorem drop_flat {x : Str} {its dn rs : List It} (hx : x.cps.toList = flat its) (h : its = dn ++ rs) : x.cps.toList.drop (flat dn).length = flat rs := by
  rw [hx, h, flat_append, List.drop_left]
theorem flat_snoc (dn : List It) (z : It) : (flat (dn ++ [z])).length = (flat dn).length + z.txt.length := by
  rw [flat_append, List.length_append, flat_cons, List.length_append]; simp [flat]
/-- an item that is no quotation mark -/
theorem SV.skip {x : Str} {W : List Nat} {its dn rs : List It} {z : It} {vs : List Value} {st : Int} {ov : Value} (hx : x.cps.toList = flat its) (h : its = dn ++ z :: rs) (hz : z ≠ .pl 34) (v : SV x W dn (z :: rs) vs st ov) : SV x W (dn ++ [z]) rs vs st ov := by
  have hd := drop_flat hx h
  rw [flat_cons] at hd
  cases v with
  | out a h1 h2 h3 =>
    refine .out a (by rw [flat_snoc]; omega) ?_ ?_
    · rw [flat_snoc, take_drop_more hd rfl h1, ← h2]
      have : noq false (z :: rs) = z :: noq false rs := by
        cases z with
        | pl c =>
          have : c ≠ 34 := fun q => hz (by rw [q])
          show (if c = 34 then _ else _) = _
          rw [if_neg this]; rfl
        | es c => rfl
      rw [this, flat_cons]
      simp
    · cases z with
      | pl c =>
        have : c ≠ 34 := fun q => hz (by rw [q])
        simpa [qok, this] using h3
      | es c => exact h3
  | inn a p tp h1 h2 h3 h4 =>
    refine .inn a p tp h1 (by rw [flat_snoc]; omega) ?_ ?_
    · rw [← h3]
      have : noq true (z :: rs) = noq true rs := by
        cases z with
        | pl c =>
          have : c ≠ 34 := fun q => hz (by rw [q])
          show (if c = 34 then _ else _) = _
          rw [if_neg this]; rfl
        | es c => rfl
      rw [this]
    · cases z with
      | pl c =>
        have : c ≠ 34 := fun q => hz (by rw [q])
        simpa [qok, this] using h4
      | es c => exact h4
theorem SV.openq {x : Str} {W : List Nat} {its dn rs : List It} {vs : List Value} {st : Int} {tp : Nat} (v : SV x W dn (.pl 34 :: rs) vs st .none) : SV x W (dn ++ [.pl 34]) rs vs st (.int ((flat dn).length : Nat) tp) := by
  cases v with
  | out a h1 h2 h3 =>
    refine .inn a _ tp h1 (by rw [flat_snoc]; omega) ?_ ?_
    · rw [← h2]; rfl
    · exact h3
theorem catV_snoc : ∀ (vs : List (Str × Tok)) (y : Str) (t : Nat), catV (strValues vs ++ [.str y t]) = catV (strValues vs) ++ y.cps.toList
  | [], y, t => by show y.cps.toList ++ [] = [] ++ y.cps.toList; simp
  | p :: vs, y, t => by
    show p.1.cps.toList ++ catV (strValues vs ++ [.str y t]) = p.1.cps.toList ++ catV (strValues vs) ++ y.cps.toList
    rw [catV_snoc vs, List.append_assoc]
theorem strVals_snoc (vs : List (Str × Tok)) (y : Str) (t : Nat) : strValues vs ++ [.str y t] = strValues (vs ++ [(y, t)]) := by
  unfold strValues; simp
theorem SV.closeq {x : Str} {W : List Nat} {its dn rs : List It} {vs : List (Str × Tok)} {st oz : Int} {ot t : Nat} (v : SV x W dn (.pl 34 :: rs) (strValues vs) st (.int oz ot)) :
    0 ≤ st ∧ st ≤ oz ∧ oz ≤ (flat dn).length ∧
    SV x W (dn ++ [.pl 34]) rs (strValues vs ++ [.str ⟨((x.cps.toList.drop st.toNat).take (oz.toNat - st.toNat)).toArray⟩ t]) (((flat dn).length : Nat) + 1) .none ∧
    (st = oz → SV x W (dn ++ [.pl 34]) rs (strValues vs) (((flat dn).length : Nat) + 1) .none) := by
  cases v with
  | inn a p tp h1 h2 h3 h4 =>
    refine ⟨by omega, by omega, by omega, ?_, fun q => ?_⟩
    · refine .out ((flat dn).length + 1) (by rw [flat_snoc]; exact Nat.le_refl _) ?_ h4
      rw [← h3, catV_snoc, flat_snoc]
      simp only [It.txt, List.length_cons, List.length_nil, Nat.sub_self, Nat.zero_add, List.take_zero, List.nil_append, Int.toNat_natCast]
      rw [List.append_assoc]; rfl
    · have : a = p := by omega
      subst this
      refine .out ((flat dn).length + 1) (by rw [flat_snoc]; exact Nat.le_refl _) ?_ h4
      rw [← h3, flat_snoc]
      simp only [It.txt, List.length_cons, List.length_nil, Nat.sub_self, Nat.zero_add, List.take_zero, List.nil_append]
      rfl
/-- the frame and the list -/
inductive SI (P : Params) (x : Str) (its : List It) (W : List Nat) (L R : Addr) (n : Nat) (s : Shared) : Prop
  | mk (dn rs : List It) (ka ta ks : Nat) (st : Int) (ts ko : Nat) (ov : Value) (kr : Nat) (vs : List (Str × Tok)) (vn : Nat) (hap : its = dn ++ rs) (hrs : rs.length = n) (hR : s.heap.get? R = some (lstO (strValues vs) vn)) (hv : vs.length ≤ (flat dn).length) (v : SV x W dn rs (strValues vs) st ov)
    (hf : (ov = .none ∧ s.heap.get? L = some (sF4 P x ka ta ks st ts ko .none kr R)) ∨ ∃ kp pz tp kc c tc, s.heap.get? L = some (sF6 P x ka ta ks st ts ko ov kr R kp pz tp kc c tc)) : SI P x its W L R n s
theorem push_obj (vs : List Value) (n : Nat) (v : Value) : ∃ n', Obj.mapSeq (·.push v) (lstO vs n) = lstO (vs ++ [v]) n' := ⟨_, lstO_push vs n v⟩
/-- the body's turn; the pair is taken apart already -/
theorem s_body {C : GenC} {A : Around} {Q : Flow → Shared → Prop} {E : Value → Shared → Prop} {s : Shared} (hh : A.handled = none) (hd : A.depth + 300 < recursionLimit) {x : Str} {its dn rs : List It} {z : It} {W : List Nat} {L R : Addr} (X : TopK C.w.params (butL s.heap [R, L])) (hne : R ≠ L) (tok : TextOk x its)
    {ka ta ks : Nat} {st : Int} {ts ko : Nat} {ov : Value} {kr kp tp kc tc vn : Nat} {vs : List (Str × Tok)} (h : its = dn ++ z :: rs) (hR : s.heap.get? R = some (lstO (strValues vs) vn)) (hv : vs.length ≤ (flat dn).length) (v : SV x W dn (z :: rs) (strValues vs) st ov)
    (hf : s.heap.get? L = some (sF6 C.w.params x ka ta ks st ts ko ov kr R kp (z.at (flat dn).length : Nat) tp kc (tx z) tc))
    (hQ : ∀ s', SI C.w.params x its W L R rs.length s' → (∀ b ob, b ∉ [R, L] → s.heap.get? b = some ob → s'.heap.get? b = some ob) → (∀ b ∈ [R, L], ∃ o, s'.heap.get? b = some o) → s'.gens = s.gens → s'.os = s.os → Q .next s') :
    wpAny (model pw C.w) A (execs sParts.body (sEnv L)) Q E s := by
  have hok : z.Ok := tok.ok z (by rw [h]; simp)
  have both : ∀ {s' : Shared} {o0 o1 : Obj}, s'.heap.get? R = some o0 → s'.heap.get? L = some o1 → ∀ b ∈ [R, L], ∃ o, s'.heap.get? b = some o := fun h0 h1 b hb => by
    simp only [List.mem_cons, List.not_mem_nil, or_false] at hb
    rcases hb with rfl | rfl
    · exact ⟨_, h0⟩
    · exact ⟨_, h1⟩
  have hlen : (flat dn).length + z.txt.length ≤ 1000 := by
    have := tok.len
    have e : x.length = (flat its).length := by rw [← tok.flat]; simp [Str.length]
    rw [e, h, flat_append, flat_cons, List.length_append, List.length_append] at this
    omega
  have hap : its = (dn ++ [z]) ++ rs := by rw [h]; simp
  show wpAny (model pw C.w) A (sTB L) Q E s
  rw [PySem.W.Fast.te6992892401553408831]
  have plain : ∀ {o : Value} , z ≠ .pl 34 → ∀ (s' : Shared) ts' , s'.heap.get? R = some (lstO (strValues vs) vn) → s'.heap.get? L = some (sF6 C.w.params x ka ta ks st ts' ko ov kr R kp (z.at (flat dn).length : Nat) tp kc (tx z) tc) → SI C.w.params x its W L R rs.length s' := fun hz s' ts' h0 h1 =>
    ⟨dn ++ [z], rs, ka, ta, ks, st, ts', ko, ov, kr, vs, vn, hap, rfl, h0, by rw [flat_snoc]; omega, v.skip tok.flat h hz, .inr ⟨_, _, _, _, _, _, h1⟩⟩
  have hg : (fun g => g = s.gens) s.gens := rfl
  cases z with
  | es c =>
    cases v with
    | out a v1 v2 v3 =>
      refine run2 (· = s.gens) 200 30 R L _ _ (fun r => sF6 C.w.params x ka ta ks a ts ko .none kr r kp _ tp kc ⟨#[92, c]⟩ tc) _ _ _ _ _ X hh (Nat.le_refl _) hd hkS_loc (hkS_ok C.w _) rfl hne hR hf (fun ρ τ => kSB92n C.w.params ρ τ x ka ta ks a ts ko kr kp _ tp kc c tc (strValues vs) vn) (fun _ _ _ _ => trivial) fun ρ τ s' e0 e1 h0 h1 k g o => ?_
      rw [e0] at h1
      exact hQ s' (plain (o := .none) (by simp) s' ts h0 h1) k (both h0 h1) g o
    | inn a p tq v1 v2 v3 v4 =>
      refine run2 (· = s.gens) 200 30 R L _ _ (fun r => sF6 C.w.params x ka ta ks a ts ko (.int p tq) kr r kp _ tp kc ⟨#[92, c]⟩ tc) _ _ _ _ _ X hh (Nat.le_refl _) hd hkS_loc (hkS_ok C.w _) rfl hne hR hf (fun ρ τ => kSB92s C.w.params ρ τ x ka ta ks a ts ko kr p tq kp _ tp kc c tc (strValues vs) vn) (fun _ _ _ _ => trivial) fun ρ τ s' e0 e1 h0 h1 k g o => ?_
      rw [e0] at h1
      exact hQ s' (plain (o := .none) (by simp) s' ts h0 h1) k (both h0 h1) g o
  | pl c =>
    rcases hok with rfl | rfl | rfl
    · have h34 := v
      cases v with
      | out a v1 v2 v3 =>
        refine run2 (· = s.gens) 200 60 R L _ _ (fun r => sF6 C.w.params x ka ta ks a ts ko .none kr r kp _ tp kc ⟨#[34]⟩ tc) _ _ _ _ _ X hh (Nat.le_refl _) hd hkS_loc (hkS_ok C.w _) rfl hne hR hf (fun ρ τ => kSB34n C.w.params ρ τ x ka ta ks a ts ko kr kp _ tp kc tc (strValues vs) vn) (fun _ _ _ _ => trivial) fun ρ τ s' e0 e1 h0 h1 k g o => ?_
        rw [e0] at h1
        refine hQ s' ⟨dn ++ [.pl 34], rs, ka, ta, ks, a, ts, ko, _, kr, vs, vn, hap, rfl, h0, by rw [flat_snoc]; omega, h34.openq (its := its), .inr ⟨_, _, _, _, _, _, h1⟩⟩ k (both h0 h1) g o
      | inn a p tq v1 v2 v3 v4 =>
        obtain ⟨q1, q2, q3, q4, q5⟩ := h34.closeq (its := its) (t := 0)
        have sz : (strValues vs).toArray.size ≤ 1000 := by
          simp only [List.size_toArray, strValues, List.length_map]
          omega
        have xl : ((flat dn).length : Int) ≤ x.length := by
          have e : x.length = (flat its).length := by rw [← tok.flat]; simp [Str.length]
          rw [e, h, flat_append, List.length_append]; omega
        by_cases q : a = p
        · subst q
          refine run2 (· = s.gens) 200 140 R L _ _ (fun r => sF6 C.w.params x ka ta ks a ts ko (.int a tq) kr r kp _ tp kc ⟨#[34]⟩ tc) _ _ _ _ _ X hh (Nat.le_refl _) hd hkS_loc (hkS_ok C.w _) rfl hne hR hf (fun ρ τ => kSB34z C.w.params ρ τ x ka ta ks a ts ko kr a tq kp _ tp kc tc (strValues vs) vn) (fun _ _ _ _ => ⟨by simp, trivial⟩) fun ρ τ s' e0 e1 h0 h1 k g o => ?_
          rw [e0] at h1
          refine hQ s' ⟨dn ++ [.pl 34], rs, ka, ta, ks, _, _, ko, _, kr, vs, vn, hap, rfl, h0, by rw [flat_snoc]; omega, q5 rfl, .inr ⟨_, _, _, _, _, _, h1⟩⟩ k (both h0 h1) g o
        · refine run2 (· = s.gens) 200 140 R L _ _ (fun r => sF6 C.w.params x ka ta ks a ts ko (.int p tq) kr r kp _ tp kc ⟨#[34]⟩ tc) _ _ _ _ _ X hh (Nat.le_refl _) hd hkS_loc (hkS_ok C.w _) rfl hne hR hf (fun ρ τ => kSB34s C.w.params ρ τ x ka ta ks a ts ko kr p tq kp _ tp kc tc (strValues vs) vn) (fun _ _ _ _ => ⟨sz, ⟨rfl, q1, q2, by omega, tok.len⟩, by simpa using fun z => q (by omega), trivial⟩) fun ρ τ s' e0 e1 h0 h1 k g o => ?_
          rw [e0] at h1
          rw [lstO_push, strVals_snoc] at h0
          obtain ⟨_, _, _, q4, _⟩ := h34.closeq (its := its) (t := τ 2)
          rw [strVals_snoc] at q4
          refine hQ s' ⟨dn ++ [.pl 34], rs, ka, ta, ks, _, _, ko, _, kr, _, _, hap, rfl, h0, by rw [flat_snoc, List.length_append]; simp [It.txt]; omega, q4, .inr ⟨_, _, _, _, _, _, h1⟩⟩ k (both h0 h1) g o
    · cases v with
      | out a v1 v2 v3 =>
        refine run2 (· = s.gens) 200 30 R L _ _ (fun r => sF6 C.w.params x ka ta ks a ts ko .none kr r kp _ tp kc ⟨#[40]⟩ tc) _ _ _ _ _ X hh (Nat.le_refl _) hd hkS_loc (hkS_ok C.w _) rfl hne hR hf (fun ρ τ => kSB40n C.w.params ρ τ x ka ta ks a ts ko kr kp _ tp kc tc (strValues vs) vn) (fun _ _ _ _ => trivial) fun ρ τ s' e0 e1 h0 h1 k g o => ?_
        rw [e0] at h1
        exact hQ s' (plain (o := .none) (by simp) s' ts h0 h1) k (both h0 h1) g o
      | inn a p tq v1 v2 v3 v4 =>
        refine run2 (· = s.gens) 200 30 R L _ _ (fun r => sF6 C.w.params x ka ta ks a ts ko (.int p tq) kr r kp _ tp kc ⟨#[40]⟩ tc) _ _ _ _ _ X hh (Nat.le_refl _) hd hkS_loc (hkS_ok C.w _) rfl hne hR hf (fun ρ τ => kSB40s C.w.params ρ τ x ka ta ks a ts ko kr p tq kp _ tp kc tc (strValues vs) vn) (fun _ _ _ _ => trivial) fun ρ τ s' e0 e1 h0 h1 k g o => ?_
        rw [e0] at h1
        exact hQ s' (plain (o := .none) (by simp) s' ts h0 h1) k (both h0 h1) g o
    · cases v with
      | out a v1 v2 v3 =>
        refine run2 (· = s.gens) 200 30 R L _ _ (fun r => sF6 C.w.params x ka ta ks a ts ko .none kr r kp _ tp kc ⟨#[41]⟩ tc) _ _ _ _ _ X hh (Nat.le_refl _) hd hkS_loc (hkS_ok C.w _) rfl hne hR hf (fun ρ τ => kSB41n C.w.params ρ τ x ka ta ks a ts ko kr kp _ tp kc tc (strValues vs) vn) (fun _ _ _ _ => trivial) fun ρ τ s' e0 e1 h0 h1 k g o => ?_
        rw [e0] at h1
        exact hQ s' (plain (o := .none) (by simp) s' ts h0 h1) k (both h0 h1) g o
      | inn a p tq v1 v2 v3 v4 =>
        refine run2 (· = s.gens) 200 30 R L _ _ (fun r => sF6 C.w.params x ka ta ks a ts ko (.int p tq) kr r kp _ tp kc ⟨#[41]⟩ tc) _ _ _ _ _ X hh (Nat.le_refl _) hd hkS_loc (hkS_ok C.w _) rfl hne hR hf (fun ρ τ => kSB41s C.w.params ρ τ x ka ta ks a ts ko kr p tq kp _ tp kc tc (strValues vs) vn) (fun _ _ _ _ => trivial) fun ρ τ s' e0 e1 h0 h1 k g o => ?_
        rw [e0] at h1
        exact hQ s' (plain (o := .none) (by simp) s' ts h0 h1) k (both h0 h1) g o
/-! ## The second function -/
theorem sTgt_eq : sParts.tgt = .Tuple (tupElts sParts.tgt) 0 sParts.tgt.pos := by kernel_rfl!
theorem sStar (env : Env) : starEach [sParts.arg] env = [(false, eval sParts.arg env)] := by kernel_rfl!
/-- a run's objects are none of the elder heap's -/
theorem fresh_none {K : Addr → Option Obj} {h : Heap} {L : Addr} (e : Ext K h) (n : h.get? L = none) : K L = none := by
  cases q : K L with
  | none => rfl
  | some o => rw [e _ _ q] at n; cases n
/-- the second function's end, behind the loop -/
theorem s_end {w : World} {A : Around} {E : Value → Shared → Prop} {Q : Flow → Shared → Prop} {s : Shared} {K : Addr → Option Obj} (X : TopK w.params K) (hh : A.handled = none) (hd : A.depth + 300 < recursionLimit) (hk : Ext K s.heap) {x : Str} {its : List It} (tok : TextOk x its) {L R : Addr} (KL : K L = none) (KR : K R = none) (hne : R ≠ L)
    (hI : SI w.params x its (flat (noq false its)) L R 0 s)
    (hQ : ∀ t s', Ext K s'.heap → s'.gens = s.gens → s'.os = s.os → Q (.ret (.str (stripS x) t)) s') : wpAny (model pw w) A (execs [sParts.b5, sParts.b6] (sEnv L)) Q E s := by
  obtain ⟨dn, rs, ka, ta, ks, st, ts, ko, ov, kr, vs, vn, hap, hrs, hR, hv, v, hf⟩ := hI
  have hrs' : rs = [] := List.length_eq_zero_iff.mp hrs
  subst hrs'
  have Xb : ∀ {s' : Shared}, Ext K s'.heap → TopK w.params (butL s'.heap [R, L]) := fun e => top_butL X e fun b hb => by
    simp only [List.mem_cons, List.not_mem_nil, or_false] at hb
    rcases hb with rfl | rfl
    · exact KR
    · exact KL
  have ext : ∀ {s s' : Shared}, Ext K s.heap → (∀ b ob, b ∉ [R, L] → s.heap.get? b = some ob → s'.heap.get? b = some ob) → Ext K s'.heap := fun e k b o q => k b o (fun z => by
    simp only [List.mem_cons, List.not_mem_nil, or_false] at z
    rcases z with rfl | rfl
    · rw [KR] at q; cases q
    · rw [KL] at q; cases q) (e b o q)
  have xl : x.length = (flat dn).length := by
    rw [List.append_nil] at hap
    rw [← hap, ← tok.flat]; simp [Str.length]
  have hxl := tok.len
  cases v with
  | inn a p tp h1 h2 h3 h4 => cases h4
  | out a h1 h2 h3 =>
    have h2' : catV (strValues vs) ++ x.cps.toList.drop a = flat (noq false its) := by
      rw [← h2]
      show _ = _ ++ (_ ++ flat [])
      rw [show flat [] = [] from rfl, List.append_nil, ← xl]
      congr 1
      exact (List.take_of_length_le (by simp [Str.length])).symm
    have wl : (flat (noq false its)).length ≤ 1000 := by
      have := noq_len false its
      have e : x.length = (flat its).length := by rw [← tok.flat]; simp [Str.length]
      omega
    have sz : (strValues vs).toArray.size ≤ 1000 := by
      simp only [List.size_toArray, strValues, List.length_map]
      omega
    have str : ∀ l : List Nat, l = flat (noq false its) → (⟨l.toArray⟩ : Str) = stripS x := fun l hl => by rw [tok.strip, hl]
    refine wpAny_execs_cons ?_
    rw [exec_eq]
    show wpAny (model pw w) A (sT5 L) _ _ s
    rw [PySem.W.Fast.te15219882762251007088]
    have last4 : ∀ {s' : Shared} {vs' : List (Str × Tok)} {vn' : Nat}, Ext K s'.heap → s'.gens = s.gens → s'.os = s.os → catV (strValues vs') = flat (noq false its) → s'.heap.get? R = some (lstO (strValues vs') vn') → s'.heap.get? L = some (sF4 w.params x ka ta ks a ts ko .none kr R) → wpAny (model pw w) A (execs [sParts.b6] (sEnv L)) Q E s' := by
      intro s' vs' vn' e' g' o' hc hR' hL'
      show wpAny (model pw w) A (sT6 L) _ _ s'
      rw [PySem.W.Fast.te7030492946342394357]
      refine run2 (· = s'.gens) 200 30 R L _ _ (fun r => sF4 w.params x ka ta ks a ts ko .none kr r) _ _ _ _ _ (Xb e') hh (Nat.le_refl _) hd hkS_loc (hkS_ok w _) rfl hne hR' hL' (fun ρ τ => kS64 w.params ρ τ x ka ta ks a ts ko kr (strValues vs') vn') (fun _ _ _ _ => ⟨⟨rfl, rfl, ⟨vs', rfl⟩, by rw [hc]; exact wl⟩, trivial⟩) fun ρ τ s'' e0 e1 h0 h1 k g o => ?_
      rw [str _ hc]
      exact hQ _ s'' (ext e' k) (g.trans g') (o.trans o')
    have last6 : ∀ {s' : Shared} {vs' : List (Str × Tok)} {vn' kp : Nat} {pz : Int} {tp kc : Nat} {c : Str} {tc : Nat}, Ext K s'.heap → s'.gens = s.gens → s'.os = s.os → catV (strValues vs') = flat (noq false its) → s'.heap.get? R = some (lstO (strValues vs') vn') → s'.heap.get? L = some (sF6 w.params x ka ta ks a ts ko .none kr R kp pz tp kc c tc) → wpAny (model pw w) A (execs [sParts.b6] (sEnv L)) Q E s' := by
      intro s' vs' vn' kp pz tp kc c tc e' g' o' hc hR' hL'
      show wpAny (model pw w) A (sT6 L) _ _ s'
      rw [PySem.W.Fast.te7030492946342394357]
      refine run2 (· = s'.gens) 200 30 R L _ _ (fun r => sF6 w.params x ka ta ks a ts ko .none kr r kp pz tp kc c tc) _ _ _ _ _ (Xb e') hh (Nat.le_refl _) hd hkS_loc (hkS_ok w _) rfl hne hR' hL' (fun ρ τ => kS66 w.params ρ τ x ka ta ks a ts ko kr kp pz tp kc c tc (strValues vs') vn') (fun _ _ _ _ => ⟨⟨rfl, rfl, ⟨vs', rfl⟩, by rw [hc]; exact wl⟩, trivial⟩) fun ρ τ s'' e0 e1 h0 h1 k g o => ?_
      rw [str _ hc]
      exact hQ _ s'' (ext e' k) (g.trans g') (o.trans o')
    have more : ∀ t : Nat, catV (strValues (vs ++ [((⟨(x.cps.toList.drop ((a : Int)).toNat).toArray⟩ : Str), t)])) = flat (noq false its) := fun t => by
      rw [← strVals_snoc, catV_snoc, ← h2']
      simp
    by_cases q : a < x.length
    · have ps : AllP [(strValues vs).toArray.size ≤ 1000, (Value.type "slice" = .type "slice" ∧ 0 ≤ (a : Int) ∧ (a : Int) ≤ x.length ∧ x.length ≤ 1000), decide ((a : Int) < (x.length : Int)) = true, x.length ≤ 1000] :=
        ⟨sz, ⟨rfl, by omega, by omega, hxl⟩, by simpa using q, hxl, trivial⟩
      rcases hf with ⟨_, hf⟩ | ⟨kp, pz, tp, kc, c, tc, hf⟩
      · refine run2 (· = s.gens) 200 100 R L _ _ (fun r => sF4 w.params x ka ta ks a ts ko .none kr r) _ _ _ _ _ (Xb hk) hh (Nat.le_refl _) hd hkS_loc (hkS_ok w _) rfl hne hR hf (fun ρ τ => kS5t4 w.params ρ τ x ka ta ks a ts ko kr (strValues vs) vn) (fun _ _ _ _ => ps) fun ρ τ s' e0 e1 h0 h1 k g o => ?_
        rw [e0] at h1
        rw [lstO_push, strVals_snoc] at h0
        exact last4 (ext hk k) g o (more _) h0 h1
      · refine run2 (· = s.gens) 200 100 R L _ _ (fun r => sF6 w.params x ka ta ks a ts ko .none kr r kp pz tp kc c tc) _ _ _ _ _ (Xb hk) hh (Nat.le_refl _) hd hkS_loc (hkS_ok w _) rfl hne hR hf (fun ρ τ => kS5t6 w.params ρ τ x ka ta ks a ts ko kr kp pz tp kc c tc (strValues vs) vn) (fun _ _ _ _ => ps) fun ρ τ s' e0 e1 h0 h1 k g o => ?_
        rw [e0] at h1
        rw [lstO_push, strVals_snoc] at h0
        exact last6 (ext hk k) g o (more _) h0 h1
    · have ps : AllP [decide ((a : Int) < (x.length : Int)) = false, x.length ≤ 1000] := ⟨by simpa using q, hxl, trivial⟩
      have same : catV (strValues vs) = flat (noq false its) := by
        rw [← h2', List.drop_of_length_le (by simp [Str.length] at q ⊢; exact q), List.append_nil]
      rcases hf with ⟨_, hf⟩ | ⟨kp, pz, tp, kc, c, tc, hf⟩
      · refine run2 (· = s.gens) 200 60 R L _ _ (fun r => sF4 w.params x ka ta ks a ts ko .none kr r) _ _ _ _ _ (Xb hk) hh (Nat.le_refl _) hd hkS_loc (hkS_ok w _) rfl hne hR hf (fun ρ τ => kS5f4 w.params ρ τ x ka ta ks a ts ko kr (strValues vs) vn) (fun _ _ _ _ => ps) fun ρ τ s' e0 e1 h0 h1 k g o => ?_
        rw [e0] at h1
        exact last4 (ext hk k) g o same h0 h1
      · refine run2 (· = s.gens) 200 60 R L _ _ (fun r => sF6 w.params x ka ta ks a ts ko .none kr r kp pz tp kc c tc) _ _ _ _ _ (Xb hk) hh (Nat.le_refl _) hd hkS_loc (hkS_ok w _) rfl hne hR hf (fun ρ τ => kS5f6 w.params ρ τ x ka ta ks a ts ko kr kp pz tp kc c tc (strValues vs) vn) (fun _ _ _ _ => ps) fun ρ τ s' e0 e1 h0 h1 k g o => ?_
        rw [e0] at h1
        exact last6 (ext hk k) g o same h0 h1
/-- the generator that a for's head has made -/
noncomputable def mkC (w : World) (x : Str) (its : List It) (h : Heap) (L : Addr) (K : Addr → Option Obj) : GenC := { w := w, x := x, N := fun b => ∃ o, h.get? b = some o, L := L, K := K, ys := ysOf 0 its }
theorem mkC_idx {w : World} {x : Str} {its dn rs : List It} {z : It} {h : Heap} {L : Addr} {K : Addr → Option Obj} (e : its = dn ++ z :: rs) : (mkC w x its h L K).ys[(mkC w x its h L K).ys.length - 1 - rs.length]? = some (z.at (flat dn).length, z) := by
  show (ysOf 0 its)[(ysOf 0 its).length - 1 - rs.length]? = _
  rw [ysOf_length, e, List.length_append, List.length_cons, show dn.length + (rs.length + 1) - 1 - rs.length = dn.length by omega, ysOf_at, Nat.zero_add]
theorem strip_law (w : World) : FLaw w 320 28 stripF := by
  intro args d k p e hp A Q s hh hd X hb hQ
  unfold stripF at e
  split at e
  rotate_left
  · cases e
  rename_i x t
  cases e
  obtain ⟨its, tok⟩ := hp
  refine wpAny_call (enter1 (i := 2) (c := 27) (body := bodyOf 2) (env := sEnv) (A := A) X hh (by show A.depth + 310 < _; omega) (by kernel_rfl!) (by decide) (by kernel_rfl!) (by kernel_rfl!) (by kernel_rfl!) (by kernel_rfl!) (fun ρ τ => kSD w.params ρ τ x t) fun L ka s₁ hL hf k₁ g₁ o₁ => codeAny_func ?_)
  have hh2 : (A.deeper (sEnv L)).handled = none := hh
  have d2 : (A.deeper (sEnv L)).depth = A.depth + 1 := rfl
  have hd2 : (A.deeper (sEnv L)).depth + 300 < recursionLimit := by rw [d2]; omega
  have hd3 : (A.deeper (sEnv L)).depth + 310 < recursionLimit := by rw [d2]; omega
  generalize hA : A.deeper (sEnv L) = A2 at hh2 hd2 hd3
  have ext1 : ∀ {L' : Addr} {s s' : Shared}, s.heap.get? L' = none → ∀ {K : Addr → Option Obj}, K L' = none → Ext K s.heap → (∀ b ob, b ≠ L' → s.heap.get? b = some ob → s'.heap.get? b = some ob) → Ext K s'.heap := fun _ _ n e k b o q => k b o (fun z => by rw [z, n] at q; cases q) (e b o q)
  let K : Addr → Option Obj := fun b => s.heap.get? b
  have KL : K L = none := hL
  have Xb : ∀ {s' : Shared}, Ext K s'.heap → TopK w.params (butL s'.heap [L]) := fun e => top_butL X e fun b hb => by
    simp only [List.mem_cons, List.not_mem_nil, or_false] at hb
    subst hb; exact KL
  have ext : ∀ {s s' : Shared}, Ext K s.heap → (∀ b ob, b ≠ L → s.heap.get? b = some ob → s'.heap.get? b = some ob) → Ext K s'.heap := fun e k b o q => k b o (fun z => by rw [z, KL] at q; cases q) (e b o q)
  have e₁ : Ext K s₁.heap := k₁
  rw [sBody_eq]
  refine wpAny_execs_cons ?_
  rw [exec_eq]
  show wpAny (model pw w) A2 (sT0 L) _ _ s₁
  rw [PySem.W.Fast.te15361783269489340843]
  cases hc : (Builtin.Str.occurrences x ⟨#[34]⟩ 0 x.length 1).isEmpty with
  | true =>
    refine run1 (· = s₁.gens) 200 30 L _ _ _ _ _ _ (Xb e₁) hh2 (Nat.le_refl _) hd2 hkS_loc (hkS_ok w _) rfl hf (fun ρ τ => kS0f w.params ρ τ x ka t) (fun _ _ _ => ⟨hc, trivial⟩) fun ρ τ s₂ e0 h₂ k₂ g₂ o₂ => ?_
    have := hQ t s₂ ⟨ext e₁ k₂, by rw [g₂, g₁]; exact hb, o₂.trans o₁⟩
    rw [strip_same tok (in_mem hc)] at this
    exact this
  | false =>
    refine run1 (· = s₁.gens) 200 30 L _ _ _ _ _ _ (Xb e₁) hh2 (Nat.le_refl _) hd2 hkS_loc (hkS_ok w _) rfl hf (fun ρ τ => kS0t w.params ρ τ x ka t) (fun _ _ _ => ⟨hc, trivial⟩) fun ρ τ s₂ e0 h₂ k₂ g₂ o₂ => ?_
    have e₂ := ext e₁ k₂
    show wpAny (model pw w) A2 (execs ([sParts.b1, sParts.b2, sParts.b3] ++ [.For sParts.tgt (.Call (.Name sParts.fn sParts.fp) [sParts.arg] [] sParts.cp) sParts.body [] sParts.pf, sParts.b5, sParts.b6]) (sEnv L)) _ _ s₂
    refine wpAny_execs_append ?_
    show wpAny (model pw w) A2 (sT1 L) _ _ s₂
    rw [PySem.W.Fast.te2802064469528592901]
    refine run1n (· = s₂.gens) 200 60 L _ _ _ _ _ _ _ (Xb e₂) hh2 (Nat.le_refl _) hd2 hkS_loc (hkS_ok w _) rfl h₂ (fun ρ τ => kS1 w.params ρ τ x ka t) (fun _ _ _ => trivial) fun ρ τ s₃ e0 h₃ hR₃ hne hRn k₃ g₃ o₃ => ?_
    have e₃ := ext e₂ k₃
    generalize hRR : ρ 1 = R at h₃ hR₃ hne hRn
    have KR : K R = none := fresh_none e₂ hRn
    refine wpAny_execs_cons (wpAny_For (eval_gen (sStar _) ?_))
    show wpAny (model pw w) A2 (sTN L) _ _ s₃
    rw [PySem.W.Fast.te16972753463683996580]
    refine run1 (· = s₃.gens) 200 20 L _ _ _ _ _ _ (Xb e₃) hh2 (Nat.le_refl _) hd2 hkS_loc (hkS_ok w _) rfl h₃ (fun ρ' τ' => kSN w.params ρ' τ' x ka t _ 0 _ _ _ R) (fun _ _ _ => trivial) fun ρ' τ' s₄ _ h₄ k₄ g₄ o₄ => ⟨rfl, ?_⟩
    have e₄ := ext e₃ k₄
    show wpAny (model pw w) A2 (sTX L) _ _ s₄
    rw [PySem.W.Fast.te11965419995276131033]
    refine run1 (· = s₄.gens) 200 20 L _ _ _ _ _ _ (Xb e₄) hh2 (Nat.le_refl _) hd2 hkS_loc (hkS_ok w _) rfl h₄ (fun ρ' τ' => kSX w.params ρ' τ' x ka t _ 0 _ _ _ R) (fun _ _ _ => trivial) fun ρ'' τ'' s₅ _ h₅ k₅ g₅ o₅ => ?_
    have e₅ := ext e₄ k₅
    refine ⟨e₅ _ _ (X.kt 21 _ (by kernel_rfl!)), gen_door (X.mono e₅) hh2 hd3 fun s₆ Lg a kag hLg hisg hLn han hLa k₆ g₆ o₆ => wpAny_pyIter_gen hisg ?_⟩
    have e₆ : Ext K s₆.heap := fun b o q => k₆ b o (e₅ b o q)
    have hR₆ : s₆.heap.get? R = some (lstO [] 0) := k₆ _ _ (k₅ _ _ hne (k₄ _ _ hne hR₃))
    have hL₆ := k₆ _ _ h₅
    have nLLg : L ≠ Lg := fun z => by rw [← z, h₅] at hLn; cases hLn
    have nLa : L ≠ a := fun z => by rw [← z, h₅] at han; cases han
    have hR₅ := k₅ _ _ hne (k₄ _ _ hne hR₃)
    have nRLg : R ≠ Lg := fun z => by rw [← z, hR₅] at hLn; cases hLn
    have nRa : R ≠ a := fun z => by rw [← z, hR₅] at han; cases han
    have hgens : s₅.gens = s.gens := g₅.trans (g₄.trans (g₃.trans (g₂.trans g₁)))
    have hos : s₆.os = s.os := o₆.trans (o₅.trans (o₄.trans (o₃.trans (o₂.trans o₁))))
    have O : (mkC w x its s₆.heap Lg K).Ok := ⟨X, fresh_none e₅ hLn, ⟨_, hLg⟩, fun b o q => ⟨o, e₆ b o q⟩⟩
    have hbare : AllBare s₆.gens := by
      rw [g₆, hgens]
      intro y hy
      rcases Array.mem_push.mp hy with hy | rfl
      · exact hb y hy
      · rfl
    have both : ∀ b ∈ [R, L], (mkC w x its s₆.heap Lg K).N b ∧ b ≠ (mkC w x its s₆.heap Lg K).L ∧ b ≠ a ∧ (mkC w x its s₆.heap Lg K).K b = none := fun b hb => by
      simp only [List.mem_cons, List.not_mem_nil, or_false] at hb
      rcases hb with rfl | rfl
      · exact ⟨⟨_, hR₆⟩, nRLg, nRa, KR⟩
      · exact ⟨⟨_, hL₆⟩, nLLg, nLa, KL⟩
    refine gen_for (C := mkC w x its s₆.heap Lg K) (g := s₅.gens.size) O hh2 (by omega) sTgt_eq (SI w.params x its (flat (noq false its)) L R) (fun _ => False) (fun n s s' hI hk => ?_) (fun m s' U p z tk tz hI hext hy hU hne' E' => ?_) (os0 := s.os) (fun s' hI hext hb' ho' => ?_) (fun v s' h => h.elim) its.length s₆ ?_ ?_ e₆ (fun b hb _ => hb) hbare hos
    · obtain ⟨dn, rs, ka, ta, ks, st, ts, ko, ov, kr, vs, vn, hap, hrs, hR, hv, v, hf⟩ := hI
      refine ⟨dn, rs, ka, ta, ks, st, ts, ko, ov, kr, vs, vn, hap, hrs, hk _ _ ⟨_, hR₆⟩ nRLg hR, hv, v, ?_⟩
      rcases hf with ⟨e, hf⟩ | ⟨kp, pz, tp, kc, c, tc, hf⟩
      · exact .inl ⟨e, hk _ _ ⟨_, hL₆⟩ nLLg hf⟩
      · exact .inr ⟨kp, pz, tp, kc, c, tc, hk _ _ ⟨_, hL₆⟩ nLLg hf⟩
    · obtain ⟨dn, rs, ka', ta, ks, st, ts, ko, ov, kr, vs, vn, hap, hrs, hR, hv, v, hf⟩ := hI
      cases rs with
      | nil => cases hrs
      | cons z' rs =>
        have hm : rs.length = m := by simpa using hrs
        subst hm
        rw [mkC_idx hap] at hy
        obtain ⟨rfl, rfl⟩ : (z'.at (flat dn).length) = p ∧ z' = z := by simpa using hy
        show wpAny (model pw w) A2 (sTA U L) _ _ s'
        rw [PySem.W.Fast.te3277967543156862209]
        have Xb1 : TopK w.params (but s'.heap L) := X.mono fun b o q => by
          have : b ≠ L := fun z => by rw [z] at q; rw [show s.heap.get? L = none from KL] at q; cases q
          rw [but_ne this]; exact hext b o q
        have nUL : L ≠ U := fun z => hne' L ⟨_, hL₆⟩ nLLg z.symm
        have go : ∀ s₂ ks' kr' kp kc, s₂.heap.get? L = some (sF6 w.params x ka' ta ks st ts ko ov kr' R kp (z'.at (flat dn).length : Nat) tk kc (tx z') tz) → (∀ b ob, b ≠ L → s'.heap.get? b = some ob → s₂.heap.get? b = some ob) → s₂.gens = s'.gens → s₂.os = s'.os → ks' = ks →
            wpAny (model pw w) A2 (execs sParts.body (sEnv L)) (fun f s₃ => match f with
              | .next | .cont => Steady (mkC w x its s₆.heap Lg K) a s' s₃ ∧ SI w.params x its (flat (noq false its)) L R rs.length s₃
              | .brk => False
              | .ret v => Steady (mkC w x its s₆.heap Lg K) a s' s₃ ∧ False) E' s₂ := by
          intro s₂ ks' kr' kp kc hf₂ k₂' g₂' o₂' _
          refine s_body (C := mkC w x its s₆.heap Lg K) hh2 hd2 (top_butL X (ext hext k₂') fun b hb => (both b hb).2.2.2) hne tok hap (k₂' _ _ hne hR) hv v hf₂ fun s₃ hI₃ k₃' h₃' g₃' o₃' => ?_
          refine ⟨(Steady.of [L] (fun b o q => k₂' b o (by simpa using q)) (fun b hb => ?_) (fun b hb => both b (.tail _ hb)) g₂' o₂').trans (Steady.of [R, L] k₃' h₃' both g₃' o₃'), hI₃⟩
          simp only [List.mem_cons, List.not_mem_nil, or_false] at hb
          subst hb; exact ⟨_, hf₂⟩
        rcases hf with ⟨rfl, hf⟩ | ⟨kp, pz, tp, kc, c, tc, hf⟩
        · exact two_run 90 U L _ _ _ _ _ _ Xb1 hh2 hd2 hU hf nUL (fun ρ τ => kSA4 w.params ρ τ x ka' ta ks st ts ko kr R _ tk (tx z') tz) fun ρ τ s₂ _ _ h' k g o => go s₂ ks kr _ _ h' k g o rfl
        · cases v with
          | out a' v1 v2 v3 => exact two_run 90 U L _ _ _ _ _ _ Xb1 hh2 hd2 hU hf nUL (fun ρ τ => kSA6n w.params ρ τ x ka' ta ks _ ts ko kr R kp pz tp kc c tc _ tk (tx z') tz) fun ρ τ s₂ _ _ h' k g o => go s₂ ks kr _ _ h' k g o rfl
          | inn a' p tq v1 v2 v3 v4 => exact two_run 90 U L _ _ _ _ _ _ Xb1 hh2 hd2 hU hf nUL (fun ρ τ => kSA6s w.params ρ τ x ka' ta ks _ ts ko kr R _ tq kp pz tp kc c tc _ tk (tx z') tz) fun ρ τ s₂ _ _ h' k g o => go s₂ ks kr _ _ h' k g o rfl
    · exact s_end X hh2 hd2 hext tok KL KR hne hI fun t' s'' e' g' o' => hQ t' s'' ⟨e', by rw [g']; exact hb', o'.trans ho'⟩
    · refine ⟨[], its, ka, t, _, 0, _, _, .none, _, [], 0, rfl, rfl, hR₆, Nat.zero_le _, ?_, .inl ⟨rfl, hL₆⟩⟩
      exact .out 0 (Nat.le_refl _) rfl tok.q
    · exact gen_fresh O hh2 hd3 tok.asc its tok.ok tok.flat rfl hLg hisg ⟨_, hisg.choose_spec.choose_spec.choose_spec.1⟩ (Ne.symm hLa) (by rw [g₆]; exact Array.getElem?_push_size)
/-! ## The third function -/
noncomputable def ChkP (x : Str) (b : Bool) : Prop := ∃ its, TextOk x its ∧ bal 0 (noq false its) = b
noncomputable def checkF : List Value → Nat → Option (Kd × Prop) := fun args d => match args with
  | [.str x _] => match d with
    | 0 => some (.val (.bool false), ChkP x false)
    | _ + 1 => some (.val (.bool true), ChkP x true)
  | _ => none
theorem cTgt_eq : cParts.tgt = .Tuple (tupElts cParts.tgt) 0 cParts.tgt.pos := by kernel_rfl!
theorem cStar (env : Env) : starEach [cParts.arg] env = [(false, eval cParts.arg env)] := by kernel_rfl!
inductive CI (P : Params) (x : Str) (its : List It) (B : Bool) (L : Addr) (n : Nat) (s : Shared) : Prop
  | mk (dn rs : List It) (ka ta ko : Nat) (z : Int) (tz : Nat) (hap : its = dn ++ rs) (hrs : rs.length = n) (hv : bal z rs = B) (hf : s.heap.get? L = some (cF2 P x ka ta ko z tz) ∨ ∃ kp pz tp kc c tc, s.heap.get? L = some (cF4 P x ka ta ko z tz kp pz tp kc c tc)) : CI P x its B L n s
theorem c_body {w : World} {A : Around} {Q : Flow → Shared → Prop} {E : Value → Shared → Prop} {s : Shared} (hh : A.handled = none) (hd : A.depth + 300 < recursionLimit) {x : Str} {its dn rs : List It} {z : It} {B : Bool} {L : Addr} (X : TopK w.params (butL s.heap [L])) (hok : z.Ok)
    {ka ta ko : Nat} {o : Int} {to kp : Nat} {pz : Int} {tp kc tc : Nat} (h : its = dn ++ z :: rs) (v : bal o (z :: rs) = B) (hf : s.heap.get? L = some (cF4 w.params x ka ta ko o to kp pz tp kc (tx z) tc))
    (hQ : ∀ s', CI w.params x its B L rs.length s' → (∀ b ob, b ≠ L → s.heap.get? b = some ob → s'.heap.get? b = some ob) → (∃ o, s'.heap.get? L = some o) → s'.gens = s.gens → s'.os = s.os → Q .next s')
    (hR : ∀ s', B = false → (∀ b ob, b ≠ L → s.heap.get? b = some ob → s'.heap.get? b = some ob) → (∃ o, s'.heap.get? L = some o) → s'.gens = s.gens → s'.os = s.os → Q (.ret (.bool false)) s') :
    wpAny (model pw w) A (execs cParts.body (cEnv L)) Q E s := by
  have hap : its = (dn ++ [z]) ++ rs := by rw [h]; simp
  show wpAny (model pw w) A (cTB L) Q E s
  rw [PySem.W.Fast.te1460964928214864318]
  cases z with
  | es c =>
    refine run1 (· = s.gens) 200 60 L _ _ _ _ _ _ X hh (Nat.le_refl _) hd hkS_loc (hkS_ok w _) rfl hf (fun ρ τ => kCB92 w.params ρ τ x ka ta ko o to kp pz tp kc c tc) (fun _ _ _ => trivial) fun ρ τ s' _ h' k g os => ?_
    exact hQ s' ⟨dn ++ [.es c], rs, ka, ta, ko, o, to, hap, rfl, v, .inr ⟨_, _, _, _, _, _, h'⟩⟩ k ⟨_, h'⟩ g os
  | pl c =>
    rcases hok with rfl | rfl | rfl
    · refine run1 (· = s.gens) 200 60 L _ _ _ _ _ _ X hh (Nat.le_refl _) hd hkS_loc (hkS_ok w _) rfl hf (fun ρ τ => kCB34 w.params ρ τ x ka ta ko o to kp pz tp kc tc) (fun _ _ _ => trivial) fun ρ τ s' _ h' k g os => ?_
      exact hQ s' ⟨_, rs, ka, ta, ko, o, to, hap, rfl, v, .inr ⟨_, _, _, _, _, _, h'⟩⟩ k ⟨_, h'⟩ g os
    · refine run1 (· = s.gens) 200 60 L _ _ _ _ _ _ X hh (Nat.le_refl _) hd hkS_loc (hkS_ok w _) rfl hf (fun ρ τ => kCB40 w.params ρ τ x ka ta ko o to kp pz tp kc tc) (fun _ _ _ => trivial) fun ρ τ s' _ h' k g os => ?_
      exact hQ s' ⟨_, rs, ka, ta, ko, _, _, hap, rfl, v, .inr ⟨_, _, _, _, _, _, h'⟩⟩ k ⟨_, h'⟩ g os
    · have v' : (if o - 1 < 0 then false else bal (o - 1) rs) = B := v
      by_cases q : o - 1 < 0
      · rw [if_pos q] at v'
        refine run1 (· = s.gens) 200 90 L _ _ _ _ _ _ X hh (Nat.le_refl _) hd hkS_loc (hkS_ok w _) rfl hf (fun ρ τ => kCB41t w.params ρ τ x ka ta ko o to kp pz tp kc tc) (fun _ _ _ => ⟨by simpa using q, trivial⟩) fun ρ τ s' _ h' k g os => ?_
        exact hR s' v'.symm k ⟨_, h'⟩ g os
      · rw [if_neg q] at v'
        refine run1 (· = s.gens) 200 90 L _ _ _ _ _ _ X hh (Nat.le_refl _) hd hkS_loc (hkS_ok w _) rfl hf (fun ρ τ => kCB41f w.params ρ τ x ka ta ko o to kp pz tp kc tc) (fun _ _ _ => ⟨by simpa using q, trivial⟩) fun ρ τ s' _ h' k g os => ?_
        exact hQ s' ⟨_, rs, ka, ta, ko, _, _, hap, rfl, v', .inr ⟨_, _, _, _, _, _, h'⟩⟩ k ⟨_, h'⟩ g os
theorem c_end {w : World} {A : Around} {E : Value → Shared → Prop} {Q : Flow → Shared → Prop} {s : Shared} {K : Addr → Option Obj} (X : TopK w.params K) (hh : A.handled = none) (hd : A.depth + 300 < recursionLimit) (hk : Ext K s.heap) {x : Str} {its : List It} {B : Bool} {L : Addr} (KL : K L = none)
    (hI : CI w.params x its B L 0 s)
    (hQ : ∀ s', Ext K s'.heap → s'.gens = s.gens → s'.os = s.os → Q (.ret (.bool B)) s') : wpAny (model pw w) A (execs [cParts.b3] (cEnv L)) Q E s := by
  obtain ⟨dn, rs, ka, ta, ko, z, tz, hap, hrs, hv, hf⟩ := hI
  have hrs' : rs = [] := List.length_eq_zero_iff.mp hrs
  subst hrs'
  have Xb : TopK w.params (butL s.heap [L]) := top_butL X hk fun b hb => by
    simp only [List.mem_cons, List.not_mem_nil, or_false] at hb
    subst hb; exact KL
  have ext : ∀ {s' : Shared}, (∀ b ob, b ≠ L → s.heap.get? b = some ob → s'.heap.get? b = some ob) → Ext K s'.heap := fun k b o q => k b o (fun z => by rw [z, KL] at q; cases q) (hk b o q)
  show wpAny (model pw w) A (cT3 L) Q E s
  rw [PySem.W.Fast.te8766429147182170678]
  have hv' : (z == 0) = B := hv
  cases B with
  | true =>
    rcases hf with hf | ⟨kp, pz, tp, kc, c, tc, hf⟩
    · exact run1 (· = s.gens) 200 30 L _ _ _ _ _ _ Xb hh (Nat.le_refl _) hd hkS_loc (hkS_ok w _) rfl hf (fun ρ τ => kC3t2 w.params ρ τ x ka ta ko z tz) (fun _ _ _ => ⟨hv', trivial⟩) fun ρ τ s' _ h' k g os => hQ s' (ext k) g os
    · exact run1 (· = s.gens) 200 30 L _ _ _ _ _ _ Xb hh (Nat.le_refl _) hd hkS_loc (hkS_ok w _) rfl hf (fun ρ τ => kC3t4 w.params ρ τ x ka ta ko z tz kp pz tp kc c tc) (fun _ _ _ => ⟨hv', trivial⟩) fun ρ τ s' _ h' k g os => hQ s' (ext k) g os
  | false =>
    rcases hf with hf | ⟨kp, pz, tp, kc, c, tc, hf⟩
    · exact run1 (· = s.gens) 200 30 L _ _ _ _ _ _ Xb hh (Nat.le_refl _) hd hkS_loc (hkS_ok w _) rfl hf (fun ρ τ => kC3f2 w.params ρ τ x ka ta ko z tz) (fun _ _ _ => ⟨hv', trivial⟩) fun ρ τ s' _ h' k g os => hQ s' (ext k) g os
    · exact run1 (· = s.gens) 200 30 L _ _ _ _ _ _ Xb hh (Nat.le_refl _) hd hkS_loc (hkS_ok w _) rfl hf (fun ρ τ => kC3f4 w.params ρ τ x ka ta ko z tz kp pz tp kc c tc) (fun _ _ _ => ⟨hv', trivial⟩) fun ρ τ s' _ h' k g os => hQ s' (ext k) g os
theorem check_law (w : World) : FLaw w 430 35 checkF := by
  intro args d k p e hp A Q s hh hd X hb hQ
  have ⟨x, t, B, ha, hk', hp'⟩ : ∃ x t B, args = [.str x t] ∧ k = .val (.bool B) ∧ ChkP x B := by
    unfold checkF at e
    repeat' split at e
    all_goals first | (cases e; done) | skip
    · cases e; exact ⟨_, _, _, rfl, rfl, hp⟩
    · cases e; exact ⟨_, _, _, rfl, rfl, hp⟩
  subst ha
  subst hk'
  clear e hp
  obtain ⟨its, tok, hbal⟩ := hp'
  refine wpAny_call (enter1 (i := 3) (c := 34) (body := bodyOf 3) (env := cEnv) (A := A) X hh (by omega) (by kernel_rfl!) (by decide) (by kernel_rfl!) (by kernel_rfl!) (by kernel_rfl!) (by kernel_rfl!) (fun ρ τ => kCD w.params ρ τ x t) fun L ka s₁ hL hf k₁ g₁ o₁ => codeAny_func ?_)
  have hh2 : (A.deeper (cEnv L)).handled = none := hh
  have d2 : (A.deeper (cEnv L)).depth = A.depth + 1 := rfl
  have hd2 : (A.deeper (cEnv L)).depth + 300 < recursionLimit := by rw [d2]; omega
  have hd3 : (A.deeper (cEnv L)).depth + 310 < recursionLimit := by rw [d2]; omega
  have hd4 : (A.deeper (cEnv L)).depth + 100 + 320 < recursionLimit := by rw [d2]; omega
  generalize hA : A.deeper (cEnv L) = A2 at hh2 hd2 hd3 hd4
  let K : Addr → Option Obj := fun b => s.heap.get? b
  have KL : K L = none := hL
  have Xb : ∀ {s' : Shared}, Ext K s'.heap → TopK w.params (butL s'.heap [L]) := fun e => top_butL X e fun b hb => by
    simp only [List.mem_cons, List.not_mem_nil, or_false] at hb
    subst hb; exact KL
  have ext : ∀ {s s' : Shared}, Ext K s.heap → (∀ b ob, b ≠ L → s.heap.get? b = some ob → s'.heap.get? b = some ob) → Ext K s'.heap := fun e k b o q => k b o (fun z => by rw [z, KL] at q; cases q) (e b o q)
  have e₁ : Ext K s₁.heap := k₁
  rw [cBody_eq]
  show wpAny (model pw w) A2 (execs ([cParts.b0, cParts.b1] ++ [.For cParts.tgt (.Call (.Name cParts.fn cParts.fp) [cParts.arg] [] cParts.cp) cParts.body [] cParts.pf, cParts.b3]) (cEnv L)) _ _ s₁
  refine wpAny_execs_append ?_
  show wpAny (model pw w) A2 (cT0 L) _ _ s₁
  rw [PySem.W.Fast.te12799170849360803516]
  refine run1 AllBare 320 60 L _ _ _ _ _ _ (Xb e₁) hh2 (by decide) hd4 hkC_loc (hkC_ok (by decide) (strip_law w) (Xb e₁) _ 0) (by rw [g₁]; exact hb) hf (fun ρ τ => kC0 w.params ρ τ 320 x ka t) (fun _ _ _ => ⟨⟨its, tok⟩, trivial⟩) fun ρ τ s₂ e0 h₂ k₂ b₂ o₂ => ?_
  have e₂ := ext e₁ k₂
  have yok : ∀ z ∈ noq false its, z.Ok := noq_ok _ _ tok.ok
  have yfl : (stripS x).cps.toList = flat (noq false its) := by rw [tok.strip]
  generalize hy : stripS x = y at h₂ yfl
  generalize hi : noq false its = its2 at yok yfl hbal
  refine wpAny_execs_cons (wpAny_For (eval_gen (cStar _) ?_))
  show wpAny (model pw w) A2 (cTN L) _ _ s₂
  rw [PySem.W.Fast.te14961703384738674876]
  refine run1 (· = s₂.gens) 200 20 L _ _ _ _ _ _ (Xb e₂) hh2 (Nat.le_refl _) hd2 hkS_loc (hkS_ok w _) rfl h₂ (fun ρ' τ' => kCN w.params ρ' τ' y ka _ _ 0 _) (fun _ _ _ => trivial) fun ρ' τ' s₄ _ h₄ k₄ g₄ o₄ => ⟨rfl, ?_⟩
  have e₄ := ext e₂ k₄
  show wpAny (model pw w) A2 (cTX L) _ _ s₄
  rw [PySem.W.Fast.te6435969052245741431]
  refine run1 (· = s₄.gens) 200 20 L _ _ _ _ _ _ (Xb e₄) hh2 (Nat.le_refl _) hd2 hkS_loc (hkS_ok w _) rfl h₄ (fun ρ' τ' => kCX w.params ρ' τ' y ka _ _ 0 _) (fun _ _ _ => trivial) fun ρ'' τ'' s₅ _ h₅ k₅ g₅ o₅ => ?_
  have e₅ := ext e₄ k₅
  refine ⟨e₅ _ _ (X.kt 21 _ (by kernel_rfl!)), gen_door (X.mono e₅) hh2 hd3 fun s₆ Lg a kag hLg hisg hLn han hLa k₆ g₆ o₆ => wpAny_pyIter_gen hisg ?_⟩
  have e₆ : Ext K s₆.heap := fun b o q => k₆ b o (e₅ b o q)
  have hL₆ := k₆ _ _ h₅
  have nLLg : L ≠ Lg := fun z => by rw [← z, h₅] at hLn; cases hLn
  have nLa : L ≠ a := fun z => by rw [← z, h₅] at han; cases han
  have hos : s₆.os = s.os := o₆.trans (o₅.trans (o₄.trans (o₂.trans o₁)))
  have O : (mkC w y its2 s₆.heap Lg K).Ok := ⟨X, fresh_none e₅ hLn, ⟨_, hLg⟩, fun b o q => ⟨o, e₆ b o q⟩⟩
  have hbare : AllBare s₆.gens := by
    rw [g₆, show s₅.gens = s₂.gens from g₅.trans g₄]
    intro y hy
    rcases Array.mem_push.mp hy with hy | rfl
    · exact b₂ y hy
    · rfl
  have both : ∀ b ∈ [L], (mkC w y its2 s₆.heap Lg K).N b ∧ b ≠ (mkC w y its2 s₆.heap Lg K).L ∧ b ≠ a ∧ (mkC w y its2 s₆.heap Lg K).K b = none := fun b hb => by
    simp only [List.mem_cons, List.not_mem_nil, or_false] at hb
    subst hb
    exact ⟨⟨_, hL₆⟩, nLLg, nLa, KL⟩
  refine gen_for (C := mkC w y its2 s₆.heap Lg K) (g := s₅.gens.size) O hh2 (by omega) cTgt_eq (CI w.params y its2 B L) (fun v => v = .bool false ∧ B = false) (fun n s s' hI hk => ?_) (fun m s' U p z tk tz hI hext hy hU hne' E' => ?_) (os0 := s.os) (fun s' hI hext hb' ho' => ?_) (fun v s' h hext hb' ho' => ?_) its2.length s₆ ?_ ?_ e₆ (fun b hb _ => hb) hbare hos
  · obtain ⟨dn, rs, ka, ta, ko, z, tz, hap, hrs, hv, hf⟩ := hI
    refine ⟨dn, rs, ka, ta, ko, z, tz, hap, hrs, hv, ?_⟩
    rcases hf with hf | ⟨kp, pz, tp, kc, c, tc, hf⟩
    · exact .inl (hk _ _ ⟨_, hL₆⟩ nLLg hf)
    · exact .inr ⟨kp, pz, tp, kc, c, tc, hk _ _ ⟨_, hL₆⟩ nLLg hf⟩
  · obtain ⟨dn, rs, ka', ta, ko, o, to, hap, hrs, hv, hf⟩ := hI
    cases rs with
    | nil => cases hrs
    | cons z' rs =>
      have hm : rs.length = m := by simpa using hrs
      subst hm
      rw [mkC_idx hap] at hy
      obtain ⟨rfl, rfl⟩ : (z'.at (flat dn).length) = p ∧ z' = z := by simpa using hy
      show wpAny (model pw w) A2 (cTA U L) _ _ s'
      rw [PySem.W.Fast.te4652692019542861085]
      have Xb1 : TopK w.params (but s'.heap L) := X.mono fun b o q => by
        have : b ≠ L := fun z => by rw [z] at q; rw [show s.heap.get? L = none from KL] at q; cases q
        rw [but_ne this]; exact hext b o q
      have nUL : L ≠ U := fun z => hne' L ⟨_, hL₆⟩ nLLg z.symm
      have go : ∀ s₂ kp kc, s₂.heap.get? L = some (cF4 w.params y ka' ta ko o to kp (z'.at (flat dn).length : Nat) tk kc (tx z') tz) → (∀ b ob, b ≠ L → s'.heap.get? b = some ob → s₂.heap.get? b = some ob) → s₂.gens = s'.gens → s₂.os = s'.os →
          wpAny (model pw w) A2 (execs cParts.body (cEnv L)) (fun f s₃ => match f with
            | .next | .cont => Steady (mkC w y its2 s₆.heap Lg K) a s' s₃ ∧ CI w.params y its2 B L rs.length s₃
            | .brk => False
            | .ret v => Steady (mkC w y its2 s₆.heap Lg K) a s' s₃ ∧ (v = .bool false ∧ B = false)) E' s₂ := by
        intro s₂ kp kc hf₂ k₂' g₂' o₂'
        have st1 : Steady (mkC w y its2 s₆.heap Lg K) a s' s₂ := Steady.of [L] (fun b o q => k₂' b o (by simpa using q)) (fun b hb => by
          simp only [List.mem_cons, List.not_mem_nil, or_false] at hb
          subst hb; exact ⟨_, hf₂⟩) both g₂' o₂'
        have st2 : ∀ {s₃ : Shared}, (∀ b ob, b ≠ L → s₂.heap.get? b = some ob → s₃.heap.get? b = some ob) → (∃ o, s₃.heap.get? L = some o) → s₃.gens = s₂.gens → s₃.os = s₂.os → Steady (mkC w y its2 s₆.heap Lg K) a s' s₃ := fun k h g o =>
          st1.trans (Steady.of [L] (fun b o q => k b o (by simpa using q)) (fun b hb => by
            simp only [List.mem_cons, List.not_mem_nil, or_false] at hb
            subst hb; exact h) both g o)
        exact c_body hh2 hd2 (Xb (ext hext k₂')) (yok _ (by rw [hap]; simp)) hap hv hf₂ (fun s₃ hI₃ k₃' h₃' g₃' o₃' => ⟨st2 k₃' h₃' g₃' o₃', hI₃⟩) (fun s₃ hB k₃' h₃' g₃' o₃' => ⟨st2 k₃' h₃' g₃' o₃', rfl, hB⟩)
      rcases hf with hf | ⟨kp, pz, tp, kc, c, tc, hf⟩
      · exact two_run 90 U L _ _ _ _ _ _ Xb1 hh2 hd2 hU hf nUL (fun ρ τ => kCA2 w.params ρ τ y ka' ta ko o to _ tk (tx z') tz) fun ρ τ s₂ _ _ h' k g o => go s₂ _ _ h' k g o
      · exact two_run 90 U L _ _ _ _ _ _ Xb1 hh2 hd2 hU hf nUL (fun ρ τ => kCA4 w.params ρ τ y ka' ta ko o to kp pz tp kc c tc _ tk (tx z') tz) fun ρ τ s₂ _ _ h' k g o => go s₂ _ _ h' k g o
  · exact c_end X hh2 hd2 hext KL hI fun s'' e' g' o' => hQ 0 s'' ⟨e', by rw [g']; exact hb', o'.trans ho'⟩
  · obtain ⟨rfl, rfl⟩ := h
    exact hQ 0 s' ⟨hext, hb', ho'⟩
  · exact ⟨[], its2, ka, _, _, 0, _, rfl, rfl, hbal, .inl hL₆⟩
  · exact gen_fresh O hh2 hd3 (asc_of yok yfl) its2 yok yfl rfl hLg hisg ⟨_, hisg.choose_spec.choose_spec.choose_spec.1⟩ (Ne.symm hLa) (by rw [g₆]; exact Array.getElem?_push_size)
/-! ## Hooks for the law's own calls -/
theorem Str.eq_of_toList {x y : Str} (h : x.cps.toList = y.cps.toList) : x = y := by
  cases x; cases y
  simp only at h
  rw [Array.toList_inj.mp h]
noncomputable def catS (x y : Str) : Str := ⟨(x.cps.toList ++ y.cps.toList).toArray⟩
noncomputable def addSF : List Value → Nat → Option (Kd × Prop) := fun args _ => (twoS args).bind fun p => some (.str (catS p.1.1 p.2.1), p.1.1.length + p.2.1.length ≤ 1000)
theorem addS_law (w : World) : PLaw w "str.__add__" addSF := by
  intro args d k p e hp A Q s hQ
  obtain ⟨⟨⟨x, t⟩, ⟨y, u⟩⟩, e1, e⟩ := obind e
  obtain rfl := twoS_inv e1
  cases e
  have h1 : (1000 : Nat) ≤ sizeLine := by decide
  replace hp : x.length + y.length ≤ 1000 := hp
  refine call_meets F.slot_str_add (typeIs_str s _ _) F.entry_str_add (F.args_str_add_2 _ _) (Gives.meets (gives_str_add x y t u)) ?_
  have e0 : ∀ z : Str, z.length == 0 → z.cps.toList = [] := fun z hz => by
    have : z.cps.size = 0 := by simpa [Str.length] using hz
    simpa using Array.eq_empty_of_size_eq_zero this
  have key : ∀ tok s', SameS s s' → ∀ z : Str, z.cps.toList = x.cps.toList ++ y.cps.toList → Q (.str z tok) s' := fun tok s' hs z hz => by
    have := hQ tok s' hs
    rw [show z = catS x y from Str.eq_of_toList (by rw [hz]; rfl)]
    exact this
  split
  · rename_i h
    exact key _ s ⟨rfl, rfl, rfl⟩ y (by rw [e0 x h]; rfl)
  · split
    · rename_i h
      exact key _ s ⟨rfl, rfl, rfl⟩ x (by rw [e0 y h]; simp)
    · refine ⟨?_, key s.toks { s with toks := s.toks + 1 } ⟨rfl, rfl, rfl⟩ (x ++ y) (by simp [Str.cps_append])⟩
      rw [Str.length_append]
      omega
/-! ### calls of the text's functions on two objects, a plain value back -/
noncomputable def rPre (fa : Addr) (f : Obj → Obj → Nat → Option (Kd × Prop)) : Pre Kd := fun c T m orc => (asR c).bind fun q => (two q.2).bind fun z => (getO T m (orc % 1024)).bind fun oa => (getO T m (orc / 1024 % 1024)).bind fun ob => (f oa ob (orc / 1024 / 1024 % 1024)).bind fun r =>
  some { k := r.1, p := r.2, fx := [(.ref q.1, .ref fa)], rf := [(z.1, orc % 1024), (z.2, orc / 1024 % 1024)], orc := orc / 1024 / 1024 / 1024 }
noncomputable def rHk (fa : Addr) (f : Obj → Obj → Nat → Option (Kd × Prop)) : Hk := vHk (rPre fa f)
theorem rHk_loc (fa : Addr) (f : Obj → Obj → Nat → Option (Kd × Prop)) : HLoc (rHk fa f) := vHk_loc fun c T m orc x h => by
  obtain ⟨q, e1, h⟩ := obind h
  obtain ⟨z, e2, h⟩ := obind h
  obtain ⟨oa, e3, h⟩ := obind h
  obtain ⟨ob, e4, h⟩ := obind h
  obtain ⟨y, e5, h⟩ := obind h
  cases h
  exact ⟨getO_lt e3, getO_lt e4, trivial⟩
noncomputable def RLaw (w : World) (room : Nat) (fa : Addr) (f : Obj → Obj → Nat → Option (Kd × Prop)) : Prop :=
  ∀ oa ob d k p, f oa ob d = some (k, p) → p → ∀ (A : Around) (Q : Value → Shared → Prop) (s : Shared) (a b : Addr), A.handled = none → A.depth + room < recursionLimit → TopK w.params (fun b => s.heap.get? b) → AllBare s.gens →
    s.heap.get? a = some oa → s.heap.get? b = some ob → (∀ tok s', More s s' → Q (k.get tok) s') → wpAny (model pw w) A (call (.ref fa) [.ref a, .ref b]) Q (fun _ _ => False) s
theorem rHk_ok {w : World} {room fa : Nat} {f : Obj → Obj → Nat → Option (Kd × Prop)} (L : RLaw w room fa f) {K : Addr → Option Obj} (x : TopK w.params K) (os : OsState) (r : Nat) : HOkH pw w ⟨K, AllBare, os⟩ r room (rHk fa f) := vHk_ok fun c T m orc y h hp hf ρ s A Q hr hR hh hd hQ => by
  obtain ⟨q, e1, h⟩ := obind h
  obtain ⟨z, e2, h⟩ := obind h
  obtain ⟨oa, e3, h⟩ := obind h
  obtain ⟨ob, e4, h⟩ := obind h
  obtain ⟨y, e5, h⟩ := obind h
  cases h
  have hn : q.1 = fa := Value.ref.inj hf.1
  have ha : z.1 = ρ (orc % 1024) := hr.1
  have hb : z.2 = ρ (orc / 1024 % 1024) := hr.2.1
  have e := asR_inv e1
  rw [hn, two_inv e2, ha, hb] at e
  subst e
  exact L oa ob _ y.1 y.2 e5 hp A Q s _ _ hh hd (x.mono fun b o e => hR.keep b o e) hR.gens (hR.own _ _ (getO_inv e3).2).2 (hR.own _ _ (getO_inv e4).2).2 fun tok s' hs => hQ tok s' (hR.more hs)
/-! ### a call on one object and plain values, a new list of plain values back -/
noncomputable def kdL (ks : List Kd) (t : Nat → Nat) : List Value := ks.zipIdx.map fun p => p.1.get (t p.2)
noncomputable def nPre (fa : Addr) (f : Obj → List Value → Option (List Kd × Nat × Prop)) : Pre NR := fun c T m orc => (asR c).bind fun q => (refHd q.2).bind fun z => (getO T m (orc % 1024)).bind fun oa => (f oa z.2).bind fun r =>
  some { k := { nt := r.1.length, no := 1, os := fun _ t => [lstO (kdL r.1 t) r.2.1], v := fun ρ => .ref (ρ 0) }, p := r.2.2, fx := [(.ref q.1, .ref fa)], rf := [(z.1, orc % 1024)], orc := orc / 1024 }
noncomputable def nHk (fa : Addr) (f : Obj → List Value → Option (List Kd × Nat × Prop)) : Hk := mHk (nPre fa f)
theorem kdL_congr {t t' : Nat → Nat} : ∀ (ks : List Kd) , (∀ q, q < ks.length → t' q = t q) → kdL ks t' = kdL ks t := by
  intro ks h
  unfold kdL
  refine List.map_congr_left fun p hp => ?_
  have := List.snd_lt_of_mem_zipIdx hp
  rw [h p.2 (by simpa using this)]
theorem nPre_loc (fa : Addr) (f : Obj → List Value → Option (List Kd × Nat × Prop)) : MLoc (nPre fa f) := fun c T m orc x h => by
  obtain ⟨q, e1, h⟩ := obind h
  obtain ⟨z, e2, h⟩ := obind h
  obtain ⟨oa, e3, h⟩ := obind h
  obtain ⟨y, e4, h⟩ := obind h
  cases h
  exact ⟨⟨getO_lt e3, trivial⟩, fun _ _ => rfl, fun _ _ _ _ _ b => congrArg (fun l => [lstO l y.2.1]) (kdL_congr y.1 b), fun _ _ a => congrArg Value.ref (a 0 Nat.zero_lt_one)⟩
theorem nHk_loc (fa : Addr) (f : Obj → List Value → Option (List Kd × Nat × Prop)) : HLoc (nHk fa f) := mHk_loc (nPre_loc fa f)
noncomputable def NLaw (w : World) (room : Nat) (fa : Addr) (f : Obj → List Value → Option (List Kd × Nat × Prop)) : Prop :=
  ∀ oa args ks n p, f oa args = some (ks, n, p) → p → ∀ (A : Around) (Q : Value → Shared → Prop) (s : Shared) (a : Addr), A.handled = none → A.depth + room < recursionLimit → TopK w.params (fun b => s.heap.get? b) → AllBare s.gens →
    s.heap.get? a = some oa → (∀ t c s', More s s' → s.heap.get? c = none → s'.heap.get? c = some (lstO (kdL ks t) n) → Q (.ref c) s') → wpAny (model pw w) A (call (.ref fa) (.ref a :: args)) Q (fun _ _ => False) s
theorem nHk_ok {w : World} {room fa : Nat} {f : Obj → List Value → Option (List Kd × Nat × Prop)} (L : NLaw w room fa f) {K : Addr → Option Obj} (x : TopK w.params K) (os : OsState) (r : Nat) : HOkH pw w ⟨K, AllBare, os⟩ r room (nHk fa f) := mHk_ok (nPre_loc fa f) fun c T m orc y h hp hf ρ s A Q hr hR hh hd hQ => by
  obtain ⟨q, e1, h⟩ := obind h
  obtain ⟨z, e2, h⟩ := obind h
  obtain ⟨oa, e3, h⟩ := obind h
  obtain ⟨y, e4, h⟩ := obind h
  cases h
  have hn : q.1 = fa := Value.ref.inj hf.1
  have ha : z.1 = ρ (orc % 1024) := hr.1
  have e := asR_inv e1
  rw [hn, refHd_inv e2, ha] at e
  subst e
  exact L oa z.2 y.1 y.2.1 y.2.2 e4 hp A Q s _ hh hd (x.mono fun b o e => hR.keep b o e) hR.gens (hR.own _ _ (getO_inv e3).2).2 fun t c s' hs hc hc' => hQ (fun _ => c) t s' hs.old hs.bare hs.os (fun _ _ => hc) (fun j j' h h' _ => (Nat.lt_one_iff.mp h).trans (Nat.lt_one_iff.mp h').symm) fun j o h => by
    cases j with
    | zero => cases h; exact hc'
    | succ j => cases h
noncomputable def hkT : Nat → Hk
  | 0 => pHk "str.__add__" addSF
  | 1 => oHk "str.join" joinF
  | _ + 2 => noHk
theorem hkT_loc : ∀ n, HLoc (hkT n)
  | 0 => pHk_loc _ _
  | 1 => oHk_loc _ _
  | _ + 2 => noHk_loc
theorem hkT_ok (w : World) (B : Bs) (r : Nat) : ∀ n, HOk pw w B r (hkT n)
  | 0 => pHk_ok (addS_law w) B r
  | 1 => oHk_ok (join_law w) B r
  | _ + 2 => noHk_ok pw w B r
noncomputable def textV : List Value → List Value → List Nat
  | .str c _ :: vs, .str r _ :: ws => c.cps.toList ++ (r.cps.toList ++ textV vs ws)
  | _, _ => []
noncomputable def txt (vs ws : List Value) : Str := ⟨(textV vs ws).toArray⟩
noncomputable def TxtP (oa ob : Obj) : Prop := ∃ cs rs n n', oa = lstO (strValues cs) n ∧ ob = lstO (strValues rs) n' ∧ 1 ≤ cs.length ∧ cs.length ≤ rs.length ∧ (rs.length = 6 ∨ rs.length = 8) ∧ (textV (strValues cs) (strValues rs)).length ≤ 1000
noncomputable def valsOf (o : Obj) : List Value := match o.data with
  | .seq ⟨vs⟩ _ => vs
  | _ => []
noncomputable def textF : Obj → Obj → Nat → Option (Kd × Prop) := fun oa ob _ => some (.str (txt (valsOf oa) (valsOf ob)), TxtP oa ob)
theorem len_1 {α : Type} {l : List α} (h : l.length = 1) : ∃ a0, l = [a0] := by
  match l, h with
  | [a0], _ => exact ⟨a0, rfl⟩
theorem len_2 {α : Type} {l : List α} (h : l.length = 2) : ∃ a0 a1, l = [a0, a1] := by
  match l, h with
  | [a0, a1], _ => exact ⟨a0, a1, rfl⟩
theorem len_3 {α : Type} {l : List α} (h : l.length = 3) : ∃ a0 a1 a2, l = [a0, a1, a2] := by
  match l, h with
  | [a0, a1, a2], _ => exact ⟨a0, a1, a2, rfl⟩
theorem len_4 {α : Type} {l : List α} (h : l.length = 4) : ∃ a0 a1 a2 a3, l = [a0, a1, a2, a3] := by
  match l, h with
  | [a0, a1, a2, a3], _ => exact ⟨a0, a1, a2, a3, rfl⟩
theorem len_5 {α : Type} {l : List α} (h : l.length = 5) : ∃ a0 a1 a2 a3 a4, l = [a0, a1, a2, a3, a4] := by
  match l, h with
  | [a0, a1, a2, a3, a4], _ => exact ⟨a0, a1, a2, a3, a4, rfl⟩
theorem len_6 {α : Type} {l : List α} (h : l.length = 6) : ∃ a0 a1 a2 a3 a4 a5, l = [a0, a1, a2, a3, a4, a5] := by
  match l, h with
  | [a0, a1, a2, a3, a4, a5], _ => exact ⟨a0, a1, a2, a3, a4, a5, rfl⟩
theorem len_7 {α : Type} {l : List α} (h : l.length = 7) : ∃ a0 a1 a2 a3 a4 a5 a6, l = [a0, a1, a2, a3, a4, a5, a6] := by
  match l, h with
  | [a0, a1, a2, a3, a4, a5, a6], _ => exact ⟨a0, a1, a2, a3, a4, a5, a6, rfl⟩
theorem len_8 {α : Type} {l : List α} (h : l.length = 8) : ∃ a0 a1 a2 a3 a4 a5 a6 a7, l = [a0, a1, a2, a3, a4, a5, a6, a7] := by
  match l, h with
  | [a0, a1, a2, a3, a4, a5, a6, a7], _ => exact ⟨a0, a1, a2, a3, a4, a5, a6, a7, rfl⟩
theorem c8 {n : Nat} (h1 : 1 ≤ n) (h8 : n ≤ 8) : n = 1 ∨ n = 2 ∨ n = 3 ∨ n = 4 ∨ n = 5 ∨ n = 6 ∨ n = 7 ∨ n = 8 := by omega
theorem ko1 {k : Nat} (h : k = 0 ∨ k % 2 = 1 ∧ k < 1) : k = 0 := by omega
theorem ko2 {k : Nat} (h : k = 0 ∨ k % 2 = 1 ∧ k < 2) : k = 0 ∨ k = 1 := by omega
theorem ko3 {k : Nat} (h : k = 0 ∨ k % 2 = 1 ∧ k < 3) : k = 0 ∨ k = 1 := by omega
theorem ko4 {k : Nat} (h : k = 0 ∨ k % 2 = 1 ∧ k < 4) : k = 0 ∨ k = 1 ∨ k = 3 := by omega
theorem ko5 {k : Nat} (h : k = 0 ∨ k % 2 = 1 ∧ k < 5) : k = 0 ∨ k = 1 ∨ k = 3 := by omega
theorem ko6 {k : Nat} (h : k = 0 ∨ k % 2 = 1 ∧ k < 6) : k = 0 ∨ k = 1 ∨ k = 3 ∨ k = 5 := by omega
theorem ko7 {k : Nat} (h : k = 0 ∨ k % 2 = 1 ∧ k < 7) : k = 0 ∨ k = 1 ∨ k = 3 ∨ k = 5 := by omega
theorem ko8 {k : Nat} (h : k = 0 ∨ k % 2 = 1 ∧ k < 8) : k = 0 ∨ k = 1 ∨ k = 3 ∨ k = 5 ∨ k = 7 := by omega
noncomputable def pcs (τ : Nat → Nat) : Nat → List (Str × Tok) → List (Str × Tok) → List (Str × Tok)
  | i, c :: cs, r :: rs => (catS c.1 r.1, τ i) :: pcs τ (i + 3) cs rs
  | _, _, _ => []
noncomputable def addsP : List (Str × Tok) → List (Str × Tok) → List Prop → List Prop
  | c :: cs, r :: rs, acc => addsP cs rs ((c.1.length + r.1.length ≤ 1000) :: acc)
  | _, _, acc => acc
noncomputable abbrev KTx (n m N orc j : Nat) : Prop := ∀ (P : Params) (ρ τ : Nat → Nat) (cs rs : List (Str × Tok)) (cn rn : Nat), cs.length = n → rs.length = m →
  Said (runE (GH 200 P 2 hkT) ρ τ N (.top (call (.ref 45) [.ref (ρ 0), .ref (ρ 1)])) (mkT [lstO (strValues cs) cn, lstO (strValues rs) rn]) 2 0 orc [] []) [] (.str ⟨(catV (strValues (pcs τ 7 cs rs))).toArray⟩ (τ j))
    ((Value.type "list" = .type "list" ∧ (⟨#[]⟩ : Str) = ⟨#[]⟩ ∧ (∃ l, strValues (pcs τ 7 cs rs) = strValues l) ∧ (catV (strValues (pcs τ 7 cs rs))).length ≤ 1000) :: addsP cs rs []) []
theorem kT1_6 : KTx 1 6 214 44526273521252107792908243520325286225020569610540732505613564233556343663908174689253518186491372049947814983881018462622514868128195511006457195830159558852739248293827120511570438031485282745094374571945687754382176170907541671251968 8 := by refine Pb_elim fun b P => ?_; intro ρ τ cs rs cn rn h1 h2; obtain ⟨c0, rfl⟩ := len_1 h1; obtain ⟨r0, r1, r2, r3, r4, r5, rfl⟩ := len_6 h2; cases b <;> kernel_rfl
theorem kT2_6 : KTx 2 6 272 102120946696187077220448706567125127808894502849432815626315383849065456593622450923620269041551192049221076311187955239454391716320364922634670740529240828101344126401385884245961925774063642853856450003057887861965151991310190588731639537236221351766498252444902857826031198969793990607186729304842102806957696192298567681941552409218125824 11 := by refine Pb_elim fun b P => ?_; intro ρ τ cs rs cn rn h1 h2; obtain ⟨c0, c1, rfl⟩ := len_2 h1; obtain ⟨r0, r1, r2, r3, r4, r5, rfl⟩ := len_6 h2; cases b <;> kernel_rfl
theorem kT3_6 : KTx 3 6 330 234214249911300927448619163762627904144235551053003692364505153564309449541777928106900278371388138496043735777303636444426103642901532645505568920572343610592596944932982591686321589418426050939087216067518226734844316180453620129498951596745037642615202622891547571902340001926442939667534151811191272696482107480223962046078402031672841437945745070252489016279321333369006158779693602446461691599172315835530115313644280291849069118191799635968 14 := by refine Pb_elim fun b P => ?_; intro ρ τ cs rs cn rn h1 h2; obtain ⟨c0, c1, c2, rfl⟩ := len_3 h1; obtain ⟨r0, r1, r2, r3, r4, r5, rfl⟩ := len_6 h2; cases b <;> kernel_rfl
theorem kT4_6 : KTx 4 6 388 537170058016721406402099818790128606610341115120080039785840279424287368183470241629362971879271103241466305100389555211070108561351593404905373732993764912465645454143142595084625334868056793606440528448063317514840331905732768440600098021467831672790288694978842204676471694615491047378890796522455540239310400299769404185848967330969345931505375145627120330809296290540766344056678265158506153437220323830003398397842085899481317271133111420451104994628735496487499146921863074585431393678274279200903165865455311106319820192915425401240638065741824 17 := by refine Pb_elim fun b P => ?_; intro ρ τ cs rs cn rn h1 h2; obtain ⟨c0, c1, c2, c3, rfl⟩ := len_4 h1; obtain ⟨r0, r1, r2, r3, r4, r5, rfl⟩ := len_6 h2; cases b <;> kernel_rfl
theorem kT5_6 : KTx 5 6 446 1231998784612656963756755789356730730033040054767329692406020940497755222769756854895901726445724752196796256078788202213132391945034074305282987892576825518065234017869421030743012264541178067507795410229331548592727395525542537758306119849683862935235803287779937847305075449193221169386787165788777841407915548126955655770209749199241230135767527253476949888482537215123900322372287690804098600546208179327560157884473383921989570667971875564534414669579117312000017780365769042282591799634323265101436554323136086282960223986648274733439820519216432829061107179878057530673006280007680132156808064004292293499381083050073714740112528051894819147976019968 20 := by refine Pb_elim fun b P => ?_; intro ρ τ cs rs cn rn h1 h2; obtain ⟨c0, c1, c2, c3, c4, rfl⟩ := len_5 h1; obtain ⟨r0, r1, r2, r3, r4, r5, rfl⟩ := len_6 h2; cases b <;> kernel_rfl
theorem kT6_6 : KTx 6 6 504 2825587507410578956830372030242403209923740241274935446769077328719606822402213020336123597461951175810291591048342202203385118237934938894953024074865402765249513140500446751328593312761278366965920061846063902754990676470709951439934789550238999652976867881263452894204877423556314360673755435861052399706214135985042942795259874748376487978983455042201140828916916114227088716162824933916120426268382487367852820551636849752453014951161562130974669618585325536559029206527569962495853425661624097749646265600034136119357676662149120220985030577062998525399719964003984298005260854067595341169606355263910254149339567365126724645591103607154722011006404954725303619430787278193096961187589993933543864287246821251980494915533952981352641353559193358432865357824 23 := by refine Pb_elim fun b P => ?_; intro ρ τ cs rs cn rn h1 h2; obtain ⟨c0, c1, c2, c3, c4, c5, rfl⟩ := len_6 h1; obtain ⟨r0, r1, r2, r3, r4, r5, rfl⟩ := len_6 h2; cases b <;> kernel_rfl
theorem kT1_8 : KTx 1 8 214 44526273521252107792908243520325286225020569610540732505613564233556343663908174689253518186491372049947814983881018462622514868128195511006457195830159558852739248293827120511570438031485282745094374571945687754382176170907541671251968 8 := by refine Pb_elim fun b P => ?_; intro ρ τ cs rs cn rn h1 h2; obtain ⟨c0, rfl⟩ := len_1 h1; obtain ⟨r0, r1, r2, r3, r4, r5, r6, r7, rfl⟩ := len_8 h2; cases b <;> kernel_rfl
theorem kT2_8 : KTx 2 8 272 102120946696187077220448706567125127808894502849432815626315383849065456593622450923620269041551192049221076311187955239454391716320364922634670740529240828101344126401385884245961925774063642853856450003057887861965151991310190588731639537236221351766498252444902857826031198969793990607186729304842102806957696192298567681941552409218125824 11 := by refine Pb_elim fun b P => ?_; intro ρ τ cs rs cn rn h1 h2; obtain ⟨c0, c1, rfl⟩ := len_2 h1; obtain ⟨r0, r1, r2, r3, r4, r5, r6, r7, rfl⟩ := len_8 h2; cases b <;> kernel_rfl
theorem kT3_8 : KTx 3 8 330 234214249911300927448619163762627904144235551053003692364505153564309449541777928106900278371388138496043735777303636444426103642901532645505568920572343610592596944932982591686321589418426050939087216067518226734844316180453620129498951596745037642615202622891547571902340001926442939667534151811191272696482107480223962046078402031672841437945745070252489016279321333369006158779693602446461691599172315835530115313644280291849069118191799635968 14 := by refine Pb_elim fun b P => ?_; intro ρ τ cs rs cn rn h1 h2; obtain ⟨c0, c1, c2, rfl⟩ := len_3 h1; obtain ⟨r0, r1, r2, r3, r4, r5, r6, r7, rfl⟩ := len_8 h2; cases b <;> kernel_rfl
theorem kT4_8 : KTx 4 8 388 537170058016721406402099818790128606610341115120080039785840279424287368183470241629362971879271103241466305100389555211070108561351593404905373732993764912465645454143142595084625334868056793606440528448063317514840331905732768440600098021467831672790288694978842204676471694615491047378890796522455540239310400299769404185848967330969345931505375145627120330809296290540766344056678265158506153437220323830003398397842085899481317271133111420451104994628735496487499146921863074585431393678274279200903165865455311106319820192915425401240638065741824 17 := by refine Pb_elim fun b P => ?_; intro ρ τ cs rs cn rn h1 h2; obtain ⟨c0, c1, c2, c3, rfl⟩ := len_4 h1; obtain ⟨r0, r1, r2, r3, r4, r5, r6, r7, rfl⟩ := len_8 h2; cases b <;> kernel_rfl
theorem kT5_8 : KTx 5 8 446 1231998784612656963756755789356730730033040054767329692406020940497755222769756854895901726445724752196796256078788202213132391945034074305282987892576825518065234017869421030743012264541178067507795410229331548592727395525542537758306119849683862935235803287779937847305075449193221169386787165788777841407915548126955655770209749199241230135767527253476949888482537215123900322372287690804098600546208179327560157884473383921989570667971875564534414669579117312000017780365769042282591799634323265101436554323136086282960223986648274733439820519216432829061107179878057530673006280007680132156808064004292293499381083050073714740112528051894819147976019968 20 := by refine Pb_elim fun b P => ?_; intro ρ τ cs rs cn rn h1 h2; obtain ⟨c0, c1, c2, c3, c4, rfl⟩ := len_5 h1; obtain ⟨r0, r1, r2, r3, r4, r5, r6, r7, rfl⟩ := len_8 h2; cases b <;> kernel_rfl
theorem kT6_8 : KTx 6 8 504 2825587507410578956830372030242403209923740241274935446769077328719606822402213020336123597461951175810291591048342202203385118237934938894953024074865402765249513140500446751328593312761278366965920061846063902754990676470709951439934789550238999652976867881263452894204877423556314360673755435861052399706214135985042942795259874748376487978983455042201140828916916114227088716162824933916120426268382487367852820551636849752453014951161562130974669618585325536559029206527569962495853425661624097749646265600034136119357676662149120220985030577062998525399719964003984298005260854067595341169606355263910254149339567365126724645591103607154722011006404954725303619430787278193096961187589993933543864287246821251980494915533952981352641353559193358432865357824 23 := by refine Pb_elim fun b P => ?_; intro ρ τ cs rs cn rn h1 h2; obtain ⟨c0, c1, c2, c3, c4, c5, rfl⟩ := len_6 h1; obtain ⟨r0, r1, r2, r3, r4, r5, r6, r7, rfl⟩ := len_8 h2; cases b <;> kernel_rfl
theorem kT7_8 : KTx 7 8 562 6480481037604998768489246537500462139851833750931727244341033552560239143046400704441776619881110869134622202053493923166164234129277302924186320593580282792668972667249724364331251054589880114506474057784688900763756376638815316513290905263583872488665943021985691005347178795236769982602551963453135884755348492389117759354608016181651177325576906663044498040207290009722504799326443410250783129062673486916560784641825341081056565936926020573127651082310517640588583687655978408947136963467650859714051486347452915591144612703082438735779630510823787422250700557195901087498630133503802724298077760564599729826860333044190791116677943318688672676895174310655173494510562536043534352438893181447407704273764643213138713224961178329811264359365651955649152865648641954204946417280857351123786068243560813636603471382040995908429840299630987454865134379178666200403968 26 := by refine Pb_elim fun b P => ?_; intro ρ τ cs rs cn rn h1 h2; obtain ⟨c0, c1, c2, c3, c4, c5, c6, rfl⟩ := len_7 h1; obtain ⟨r0, r1, r2, r3, r4, r5, r6, r7, rfl⟩ := len_8 h2; cases b <;> kernel_rfl
theorem kT8_8 : KTx 8 8 620 14862974290696967249473634757400225682027460409087015070691677131792412574256541544434960039490545610443513048293048340823597292481396675239706972409008013866547186445320021560990467668044009577548001675302968696521070827514616909528312169508096917188960955716856067664031803440507674266780890531046492000148264925165224245485466623587898069776482038252300270224237039644175497757618034416691941042587533244515115403873554149838537283310405853278277906828165018650008809196565124247541326464554066431670838978478129117979978629827385323752526000351022113331302613662822414028276646064494154455573796256147318235169281636454938645362114407021124934917705684576051814607370436777076909246629913042031013397445176482128654352620478205096068326405033503596430172956059620540364476980196832183722694412689861832349288226850130624368377953314547582911745350933255220428914282851846786406836139979162021703015569341947125980520371412029126550150691555298176600806396721537616973824 29 := by refine Pb_elim fun b P => ?_; intro ρ τ cs rs cn rn h1 h2; obtain ⟨c0, c1, c2, c3, c4, c5, c6, c7, rfl⟩ := len_8 h1; obtain ⟨r0, r1, r2, r3, r4, r5, r6, r7, rfl⟩ := len_8 h2; cases b <;> kernel_rfl
/-- a call that reads two objects -/
theorem call2 {α : Type} {w : World} {A : Around} {Q : α → Shared → Prop} {E : Value → Shared → Prop} {H : Nat → Hk} {s : Shared} (h n orc : Nat) (t : Addr → Addr → Sem α) (a b : Addr) (oa ob : Obj) (val : (Nat → Nat) → (Nat → Nat) → α) (ps : (Nat → Nat) → (Nat → Nat) → List Prop)
    (X : TopK w.params fun b => s.heap.get? b) (hh : A.handled = none) (h2 : 200 ≤ h) (hd : A.depth + 100 + h < recursionLimit) (hl : ∀ n, HLoc (H n)) (hk : ∀ n, HOkH pw w ⟨fun b => s.heap.get? b, AllBare, s.os⟩ 2 h (H n)) (hg : AllBare s.gens) (ha : s.heap.get? a = some oa) (hb : s.heap.get? b = some ob)
    (hrun : ∀ ρ τ, (runE (GH h w.params 2 H) ρ τ n (.top (t (ρ 0) (ρ 1))) (mkT [oa, ob]) 2 0 orc [] []).said [] = (some (val ρ τ), (runE (GH h w.params 2 H) ρ τ n (.top (t (ρ 0) (ρ 1))) (mkT [oa, ob]) 2 0 orc [] []).owed, ps ρ τ, []))
    (hp : ∀ ρ τ, AllP (ps ρ τ)) (hQ : ∀ ρ τ s', More s s' → Q (val ρ τ) s') : wpAny (model pw w) A (t a b) Q E s := by
  refine engH (B := ⟨fun b => s.heap.get? b, AllBare, s.os⟩) h 2 n [a, b] (fun ρ => t (ρ 0) (ρ 1)) (fun _ => [oa, ob]) orc [] val ps (fun _ _ => []) X hh h2 hd hl hk ?_ (fun ρ' aρ => ?_) (fun _ _ => rfl) hrun (fun ρ τ _ => hp ρ τ) fun ρ τ T m s' aρ R e => hQ ρ τ s' ⟨R.keep, R.gens, R.os⟩
  · refine Rep.make (B := ⟨fun b => s.heap.get? b, AllBare, s.os⟩) 2 _ [oa, ob] (fun _ _ e => e) hg rfl (fun i o e => ?_) (fun i h1 hi => ?_) (fun i j h1 hi _ _ => ?_)
    · match i, e with
      | 0, e => cases e; exact ha
      | 1, e => cases e; exact hb
      | i + 2, e => cases e
    · simp at hi; omega
    · simp at hi; omega
  · show t (ρ' 0) (ρ' 1) = t (adr [a, b] 0) (adr [a, b] 1)
    rw [aρ 0 (by simp), aρ 1 (by simp)]
theorem pcs_text (τ : Nat → Nat) : ∀ (i : Nat) (cs rs : List (Str × Tok)), catV (strValues (pcs τ i cs rs)) = textV (strValues cs) (strValues rs)
  | _, [], _ => rfl
  | _, _ :: _, [] => rfl
  | i, c :: cs, r :: rs => by
    show (catS c.1 r.1).cps.toList ++ catV (strValues (pcs τ (i + 3) cs rs)) = c.1.cps.toList ++ (r.1.cps.toList ++ textV (strValues cs) (strValues rs))
    rw [pcs_text τ (i + 3) cs rs, ← List.append_assoc]; rfl
theorem adds_ok : ∀ (cs rs : List (Str × Tok)) (acc : List Prop), (textV (strValues cs) (strValues rs)).length ≤ 1000 → AllP acc → AllP (addsP cs rs acc)
  | [], _, _, _, h => h
  | _ :: _, [], _, _, h => h
  | c :: cs, r :: rs, acc, hl, h => by
    have hl' : (c.1.cps.toList ++ (r.1.cps.toList ++ textV (strValues cs) (strValues rs))).length ≤ 1000 := hl
    simp only [List.length_append, Array.length_toList] at hl'
    exact adds_ok cs rs _ (by omega) ⟨by simp only [Str.length]; omega, h⟩
theorem kt_use {n m N orc j : Nat} (k : KTx n m N orc j) {w : World} {A : Around} {Q : Value → Shared → Prop} {s : Shared} {a b : Addr} {cs rs : List (Str × Tok)} {cn rn : Nat} (h1 : cs.length = n) (h2 : rs.length = m) (hh : A.handled = none) (hd : A.depth + 100 + 200 < recursionLimit) (X : TopK w.params fun b => s.heap.get? b) (hg : AllBare s.gens) (ha : s.heap.get? a = some (lstO (strValues cs) cn)) (hb : s.heap.get? b = some (lstO (strValues rs) rn))
    (hlen : (textV (strValues cs) (strValues rs)).length ≤ 1000) (hQ : ∀ t s', More s s' → Q (.str (txt (strValues cs) (strValues rs)) t) s') : wpAny (model pw w) A (call (.ref 45) [.ref a, .ref b]) Q (fun _ _ => False) s := by
  refine call2 200 N orc (fun a b => call (.ref 45) [.ref a, .ref b]) a b _ _ _ _ X hh (Nat.le_refl _) hd hkT_loc (hkT_ok w _ 2) hg ha hb (fun ρ τ => k w.params ρ τ cs rs cn rn h1 h2) (fun ρ τ => ⟨⟨rfl, rfl, ⟨_, rfl⟩, by rw [pcs_text]; exact hlen⟩, adds_ok cs rs [] hlen trivial⟩) fun ρ τ s' hs => ?_
  rw [pcs_text]
  exact hQ _ s' hs
theorem text_law (w : World) : RLaw w 300 45 textF := by
  intro oa ob d k p e hp A Q s a b hh hd X hg ha hb hQ
  cases e
  obtain ⟨cs, rs, n, n', rfl, rfl, h1, hle, h68, hlen⟩ := hp
  have hd' : A.depth + 100 + 200 < recursionLimit := by omega
  rcases h68 with h | h
  · rcases (by omega : cs.length = 1 ∨ cs.length = 2 ∨ cs.length = 3 ∨ cs.length = 4 ∨ cs.length = 5 ∨ cs.length = 6) with q | q | q | q | q | q
    · exact kt_use kT1_6 q h hh hd' X hg ha hb hlen hQ
    · exact kt_use kT2_6 q h hh hd' X hg ha hb hlen hQ
    · exact kt_use kT3_6 q h hh hd' X hg ha hb hlen hQ
    · exact kt_use kT4_6 q h hh hd' X hg ha hb hlen hQ
    · exact kt_use kT5_6 q h hh hd' X hg ha hb hlen hQ
    · exact kt_use kT6_6 q h hh hd' X hg ha hb hlen hQ
  · rcases (by omega : cs.length = 1 ∨ cs.length = 2 ∨ cs.length = 3 ∨ cs.length = 4 ∨ cs.length = 5 ∨ cs.length = 6 ∨ cs.length = 7 ∨ cs.length = 8) with q | q | q | q | q | q | q | q
    · exact kt_use kT1_8 q h hh hd' X hg ha hb hlen hQ
    · exact kt_use kT2_8 q h hh hd' X hg ha hb hlen hQ
    · exact kt_use kT3_8 q h hh hd' X hg ha hb hlen hQ
    · exact kt_use kT4_8 q h hh hd' X hg ha hb hlen hQ
    · exact kt_use kT5_8 q h hh hd' X hg ha hb hlen hQ
    · exact kt_use kT6_8 q h hh hd' X hg ha hb hlen hQ
    · exact kt_use kT7_8 q h hh hd' X hg ha hb hlen hQ
    · exact kt_use kT8_8 q h hh hd' X hg ha hb hlen hQ
noncomputable def hkM : Nat → Hk
  | 0 => rHk 45 textF
  | 1 => fHk 35 checkF
  | _ + 2 => noHk
theorem hkM_loc : ∀ n, HLoc (hkM n)
  | 0 => rHk_loc 45 textF
  | 1 => fHk_loc 35 checkF
  | _ + 2 => noHk_loc
theorem hkM_ok (w : World) {K : Addr → Option Obj} (x : TopK w.params K) (os : OsState) (r : Nat) : ∀ n, HOkH pw w ⟨K, AllBare, os⟩ r 430 (hkM n)
  | 0 => (rHk_ok (text_law w) x os r).more (by decide)
  | 1 => fHk_ok (check_law w) x os r
  | _ + 2 => (noHk_ok pw w _ r).more (by decide)
structure MatQ (cs rs : List (Str × Tok)) (k : Nat) : Prop where
  one : 1 ≤ cs.length
  le : cs.length ≤ rs.length
  len : rs.length = 6 ∨ rs.length = 8
  sz : (textV (strValues cs) (strValues rs)).length ≤ 1000
  no : ∀ j, j % 2 = 1 → j < cs.length → (k = 0 ∨ j < k) → ChkP (txt (strValues (cs.take (j + 1))) (strValues rs)) false
  yes : k ≠ 0 → k % 2 = 1 ∧ k < cs.length ∧ ChkP (txt (strValues (cs.take (k + 1))) (strValues rs)) true
noncomputable def MatP (oa ob : Obj) (k : Nat) : Prop := ∃ cs rs n n', oa = lstO (strValues cs) n ∧ ob = lstO (strValues rs) n' ∧ MatQ cs rs k
noncomputable def mateF : Obj → Obj → Nat → Option (Kd × Prop) := fun oa ob k => some (.int k, MatP oa ob k)
theorem textV_take : ∀ (cs rs : List (Str × Tok)) (j : Nat), (textV (strValues (cs.take j)) (strValues rs)).length ≤ (textV (strValues cs) (strValues rs)).length
  | _, _, 0 => Nat.zero_le _
  | [], _, _ + 1 => Nat.le_refl _
  | _ :: _, [], _ + 1 => Nat.le_refl _
  | c :: cs, r :: rs, j + 1 => by
    have := textV_take cs rs j
    simp only [List.take_succ_cons, strValues, List.map_cons, textV, List.length_append] at this ⊢
    omega
theorem MatQ.txt {cs rs : List (Str × Tok)} {k : Nat} (h : MatQ cs rs k) (j n n' : Nat) (vs : List Value) (e : vs = strValues (cs.take (j + 1))) : TxtP (lstO vs n) (lstO (strValues rs) n') := by
  subst e
  refine ⟨cs.take (j + 1), rs, n, n', rfl, rfl, ?_, ?_, h.len, Nat.le_trans (textV_take ..) h.sz⟩
  · have := h.one
    rw [List.length_take]; omega
  · have := h.le
    rw [List.length_take]; omega
noncomputable def psM (cs : List (Str × Tok)) (ws : List Value) (rn k : Nat) : List Nat → List Prop → List Prop
  | [], acc => acc
  | j :: js, acc => psM cs ws rn k js (ChkP (txt (strValues (cs.take (j + 1))) ws) (Nat.beq j k) :: TxtP (lstO (strValues (cs.take (j + 1))) 0) (lstO ws rn) :: acc)
noncomputable abbrev KM (n k N orc t : Nat) (js : List Nat) : Prop := ∀ (P : Params) (ρ τ : Nat → Nat) (cs : List (Str × Tok)) (cn rn : Nat) (ws : List Value), cs.length = n →
  Said (runE (GH 430 P 2 hkM) ρ τ N (.top (call (.ref 52) [.ref (ρ 0), .ref (ρ 1)])) (mkT [lstO (strValues cs) cn, lstO ws rn]) 2 0 orc [] []) [] (.int k (τ t)) (psM cs ws rn k js []) []
theorem kM1_0 : KM 1 0 147 16451276782167427411095269366159922070756153872698255795831924176497778417209503176703836012691203034952240128 6 [] := by refine Pb_elim fun b P => ?_; intro ρ τ cs cn rn ws h; obtain ⟨c0, rfl⟩ := len_1 h; cases b <;> kernel_rfl
theorem kM2_0 : KM 2 0 212 50859856476285604598818032475474532467450592674348235159514611055362135496525605267654930915382530216535660048649452975367829509958656860336771821502157811993369836315234814007045437653006346981621768813324094105541676032 12 [1] := by refine Pb_elim fun b P => ?_; intro ρ τ cs cn rn ws h; obtain ⟨c0, c1, rfl⟩ := len_2 h; cases b <;> kernel_rfl
theorem kM2_1 : KM 2 1 197 14701443341583480388654151204087506745746215172283590622123541030128198007690576432965758300979637721281932204311778443774651614928824670171784726793991485582102753904384288182289277992043789865343519744 6 [1] := by refine Pb_elim fun b P => ?_; intro ρ τ cs cn rn ws h; obtain ⟨c0, c1, rfl⟩ := len_2 h; cases b <;> kernel_rfl
theorem kM3_0 : KM 3 0 212 50859856476285604598818032475474532467450592674348235159514611055362135496525605267654930915382530216535660048649452975367829509958656860336771821502157811993369836315234814007045437653006346981621768813324094105541676032 12 [1] := by refine Pb_elim fun b P => ?_; intro ρ τ cs cn rn ws h; obtain ⟨c0, c1, c2, rfl⟩ := len_3 h; cases b <;> kernel_rfl
theorem kM3_1 : KM 3 1 197 14701443341583480388654151204087506745746215172283590622123541030128198007690576432965758300979637721281932204311778443774651614928824670171784726793991485582102753904384288182289277992043789865343519744 6 [1] := by refine Pb_elim fun b P => ?_; intro ρ τ cs cn rn ws h; obtain ⟨c0, c1, c2, rfl⟩ := len_3 h; cases b <;> kernel_rfl
theorem kM4_0 : KM 4 0 277 149479226197829713786549493857022653717213730880065328454654970997058247743540372162593451058784690810007449518947432380309633543172506259367591456948000481260986730017454765217849594761661336358569443059924192447992698872008474110734434612721220679472690505228597904069147874176220337745051559137410159218393617800613284997114104832 18 [1, 3] := by refine Pb_elim fun b P => ?_; intro ρ τ cs cn rn ws h; obtain ⟨c0, c1, c2, c3, rfl⟩ := len_4 h; cases b <;> kernel_rfl
theorem kM4_1 : KM 4 1 197 14701443341583480388654151204087506745746215172283590622123541030128198007690576432965758300979637721281932204311778443774651614928824670171784726793991485582102753904384288182289277992043789865343519744 6 [1] := by refine Pb_elim fun b P => ?_; intro ρ τ cs cn rn ws h; obtain ⟨c0, c1, c2, c3, rfl⟩ := len_4 h; cases b <;> kernel_rfl
theorem kM4_3 : KM 4 3 262 35355612893128335745153478026642486502962034190101168719280750129435171074498644063659557821900114707771216638874985067336525067621278178111284199686664076672661851066512884576132411387372459635350538995964971019660392338536013244646227113463791614110028629844817368896651151418202634999313369503631343902859987968 12 [1, 3] := by refine Pb_elim fun b P => ?_; intro ρ τ cs cn rn ws h; obtain ⟨c0, c1, c2, c3, rfl⟩ := len_4 h; cases b <;> kernel_rfl
theorem kM5_0 : KM 5 0 277 149479226197829713786549493857022653717213730880065328454654970997058247743540372162593451058784690810007449518947432380309633543172506259367591456948000481260986730017454765217849594761661336358569443059924192447992698872008474110734434612721220679472690505228597904069147874176220337745051559137410159218393617800613284997114104832 18 [1, 3] := by refine Pb_elim fun b P => ?_; intro ρ τ cs cn rn ws h; obtain ⟨c0, c1, c2, c3, c4, rfl⟩ := len_5 h; cases b <;> kernel_rfl
theorem kM5_1 : KM 5 1 197 14701443341583480388654151204087506745746215172283590622123541030128198007690576432965758300979637721281932204311778443774651614928824670171784726793991485582102753904384288182289277992043789865343519744 6 [1] := by refine Pb_elim fun b P => ?_; intro ρ τ cs cn rn ws h; obtain ⟨c0, c1, c2, c3, c4, rfl⟩ := len_5 h; cases b <;> kernel_rfl
theorem kM5_3 : KM 5 3 262 35355612893128335745153478026642486502962034190101168719280750129435171074498644063659557821900114707771216638874985067336525067621278178111284199686664076672661851066512884576132411387372459635350538995964971019660392338536013244646227113463791614110028629844817368896651151418202634999313369503631343902859987968 12 [1, 3] := by refine Pb_elim fun b P => ?_; intro ρ τ cs cn rn ws h; obtain ⟨c0, c1, c2, c3, c4, rfl⟩ := len_5 h; cases b <;> kernel_rfl
theorem kM6_0 : KM 6 0 342 424815377077776276056709727310216485934510813169359094067475567448406967730890174835682470279430244427595632063160445204215049658676796815745377557896395826172782532607212425065129482705375842795839576488269465273265107199186933190741302571203395590557710058665696052243774040747860048815606056188929449365658279159953863000711427780181641319657087555144607276858254814322742957660950259843350490623088433034156203785317324277264328858880969728 24 [1, 3, 5] := by refine Pb_elim fun b P => ?_; intro ρ τ cs cn rn ws h; obtain ⟨c0, c1, c2, c3, c4, c5, rfl⟩ := len_6 h; cases b <;> kernel_rfl
theorem kM6_1 : KM 6 1 197 14701443341583480388654151204087506745746215172283590622123541030128198007690576432965758300979637721281932204311778443774651614928824670171784726793991485582102753904384288182289277992043789865343519744 6 [1] := by refine Pb_elim fun b P => ?_; intro ρ τ cs cn rn ws h; obtain ⟨c0, c1, c2, c3, c4, c5, rfl⟩ := len_6 h; cases b <;> kernel_rfl
theorem kM6_3 : KM 6 3 262 35355612893128335745153478026642486502962034190101168719280750129435171074498644063659557821900114707771216638874985067336525067621278178111284199686664076672661851066512884576132411387372459635350538995964971019660392338536013244646227113463791614110028629844817368896651151418202634999313369503631343902859987968 12 [1, 3] := by refine Pb_elim fun b P => ?_; intro ρ τ cs cn rn ws h; obtain ⟨c0, c1, c2, c3, c4, c5, rfl⟩ := len_6 h; cases b <;> kernel_rfl
theorem kM6_5 : KM 6 5 327 85026982317649366820233417200322024208478769367890870402419422949719850437333259560165176942594466728428364217277004625147973484640917185002975970450581492346330832656425620018042874015839124197212436985662808194319088891913704706628952125842240580136655594782446588378388400511533737578272172259707552505899925838162255742992288122012278598876770480429363508377848810125302277912223867253108121635441063829003906409506540544 18 [1, 3, 5] := by refine Pb_elim fun b P => ?_; intro ρ τ cs cn rn ws h; obtain ⟨c0, c1, c2, c3, c4, c5, rfl⟩ := len_6 h; cases b <;> kernel_rfl
theorem kM7_0 : KM 7 0 342 424815377077776276056709727310216485934510813169359094067475567448406967730890174835682470279430244427595632063160445204215049658676796815745377557896395826172782532607212425065129482705375842795839576488269465273265107199186933190741302571203395590557710058665696052243774040747860048815606056188929449365658279159953863000711427780181641319657087555144607276858254814322742957660950259843350490623088433034156203785317324277264328858880969728 24 [1, 3, 5] := by refine Pb_elim fun b P => ?_; intro ρ τ cs cn rn ws h; obtain ⟨c0, c1, c2, c3, c4, c5, c6, rfl⟩ := len_7 h; cases b <;> kernel_rfl
theorem kM7_1 : KM 7 1 197 14701443341583480388654151204087506745746215172283590622123541030128198007690576432965758300979637721281932204311778443774651614928824670171784726793991485582102753904384288182289277992043789865343519744 6 [1] := by refine Pb_elim fun b P => ?_; intro ρ τ cs cn rn ws h; obtain ⟨c0, c1, c2, c3, c4, c5, c6, rfl⟩ := len_7 h; cases b <;> kernel_rfl
theorem kM7_3 : KM 7 3 262 35355612893128335745153478026642486502962034190101168719280750129435171074498644063659557821900114707771216638874985067336525067621278178111284199686664076672661851066512884576132411387372459635350538995964971019660392338536013244646227113463791614110028629844817368896651151418202634999313369503631343902859987968 12 [1, 3] := by refine Pb_elim fun b P => ?_; intro ρ τ cs cn rn ws h; obtain ⟨c0, c1, c2, c3, c4, c5, c6, rfl⟩ := len_7 h; cases b <;> kernel_rfl
theorem kM7_5 : KM 7 5 327 85026982317649366820233417200322024208478769367890870402419422949719850437333259560165176942594466728428364217277004625147973484640917185002975970450581492346330832656425620018042874015839124197212436985662808194319088891913704706628952125842240580136655594782446588378388400511533737578272172259707552505899925838162255742992288122012278598876770480429363508377848810125302277912223867253108121635441063829003906409506540544 18 [1, 3, 5] := by refine Pb_elim fun b P => ?_; intro ρ τ cs cn rn ws h; obtain ⟨c0, c1, c2, c3, c4, c5, c6, rfl⟩ := len_7 h; cases b <;> kernel_rfl
theorem kM8_0 : KM 8 0 407 1178758311044518666702182201471889659440072057349483513655018717998097356134897552837813372199226477465840828297501176251320494744966343131210522864781761377925419212206926225687359773762741734495686772716316232819134373003321299066285801562228643270957942681273569263724463159094221931014060285991949959051595060209221929760147967003594389661822644097363885160221661509005449180792065120353872390776874680762298521857380300059120110898984128460580347655642471107840459947385635709888257363170271610360367146864892145142820025576984102028231107236582132736 30 [1, 3, 5, 7] := by refine Pb_elim fun b P => ?_; intro ρ τ cs cn rn ws h; obtain ⟨c0, c1, c2, c3, c4, c5, c6, c7, rfl⟩ := len_8 h; cases b <;> kernel_rfl
theorem kM8_1 : KM 8 1 197 14701443341583480388654151204087506745746215172283590622123541030128198007690576432965758300979637721281932204311778443774651614928824670171784726793991485582102753904384288182289277992043789865343519744 6 [1] := by refine Pb_elim fun b P => ?_; intro ρ τ cs cn rn ws h; obtain ⟨c0, c1, c2, c3, c4, c5, c6, c7, rfl⟩ := len_8 h; cases b <;> kernel_rfl
theorem kM8_3 : KM 8 3 262 35355612893128335745153478026642486502962034190101168719280750129435171074498644063659557821900114707771216638874985067336525067621278178111284199686664076672661851066512884576132411387372459635350538995964971019660392338536013244646227113463791614110028629844817368896651151418202634999313369503631343902859987968 12 [1, 3] := by refine Pb_elim fun b P => ?_; intro ρ τ cs cn rn ws h; obtain ⟨c0, c1, c2, c3, c4, c5, c6, c7, rfl⟩ := len_8 h; cases b <;> kernel_rfl
theorem kM8_5 : KM 8 5 327 85026982317649366820233417200322024208478769367890870402419422949719850437333259560165176942594466728428364217277004625147973484640917185002975970450581492346330832656425620018042874015839124197212436985662808194319088891913704706628952125842240580136655594782446588378388400511533737578272172259707552505899925838162255742992288122012278598876770480429363508377848810125302277912223867253108121635441063829003906409506540544 18 [1, 3, 5] := by refine Pb_elim fun b P => ?_; intro ρ τ cs cn rn ws h; obtain ⟨c0, c1, c2, c3, c4, c5, c6, c7, rfl⟩ := len_8 h; cases b <;> kernel_rfl
theorem kM8_7 : KM 8 7 392 204482036385543467440799284970369027184337386623247035014682780379843583708222813945721866046783383565421784737293096846664138669607153077491641118168289324125587210921297761112584425488172701962016755338968067685509899868872177584201556769630539730481498990215226453622367002701404978263362652659888337817523218061831273745264187452046177709014083475443702443855732354757250554196433485764832707682697417342074245318843808164476740117727203389892742595815996735446863739474163624826632658798513591209863055900414038506572419519239687168 24 [1, 3, 5, 7] := by refine Pb_elim fun b P => ?_; intro ρ τ cs cn rn ws h; obtain ⟨c0, c1, c2, c3, c4, c5, c6, c7, rfl⟩ := len_8 h; cases b <;> kernel_rfl
theorem psM_ok {cs rs : List (Str × Tok)} {k : Nat} (M : MatQ cs rs k) (rn : Nat) : ∀ (js : List Nat) (acc : List Prop), (∀ j ∈ js, j % 2 = 1 ∧ j < cs.length ∧ (k = 0 ∨ j ≤ k)) → AllP acc → AllP (psM cs (strValues rs) rn k js acc)
  | [], _, _, h => h
  | j :: js, acc, hj, h => by
    obtain ⟨h1, h2, h3⟩ := hj j (List.mem_cons_self ..)
    refine psM_ok M rn js _ (fun i hi => hj i (List.mem_cons_of_mem _ hi)) ⟨?_, M.txt j 0 rn _ rfl, h⟩
    by_cases q : j = k
    · subst q
      rw [Nat.beq_refl]
      exact (M.yes (by omega)).2.2
    · have e : Nat.beq j k = false := by
        cases h : Nat.beq j k with
        | false => rfl
        | true => exact absurd (Nat.eq_of_beq_eq_true h) q
      rw [e]
      exact M.no j h1 h2 (by omega)
noncomputable def okJ (n k : Nat) (js : List Nat) : Bool := js.all fun j => Nat.beq (j % 2) 1 && Nat.blt j n && (Nat.beq k 0 || Nat.ble j k)
theorem okJ_mem {n k : Nat} {js : List Nat} (h : okJ n k js = true) : ∀ j ∈ js, j % 2 = 1 ∧ j < n ∧ (k = 0 ∨ j ≤ k) := by
  simpa [okJ, and_assoc] using h
theorem km_use {n k N orc t : Nat} {js : List Nat} (K : KM n k N orc t js) (hj : okJ n k js = true) {w : World} {A : Around} {Q : Value → Shared → Prop} {s : Shared} {a b : Addr} {cs rs : List (Str × Tok)} {cn rn : Nat} (h1 : cs.length = n) (M : MatQ cs rs k) (hh : A.handled = none) (hd : A.depth + 100 + 430 < recursionLimit) (X : TopK w.params fun b => s.heap.get? b) (hg : AllBare s.gens) (ha : s.heap.get? a = some (lstO (strValues cs) cn)) (hb : s.heap.get? b = some (lstO (strValues rs) rn))
    (hQ : ∀ t s', More s s' → Q (.int k t) s') : wpAny (model pw w) A (call (.ref 52) [.ref a, .ref b]) Q (fun _ _ => False) s := by
  subst h1
  exact call2 430 N orc (fun a b => call (.ref 52) [.ref a, .ref b]) a b _ _ _ _ X hh (by decide) hd hkM_loc (hkM_ok w X _ 2) hg ha hb (fun ρ τ => K w.params ρ τ cs cn rn (strValues rs) rfl) (fun ρ τ => psM_ok M rn js [] (okJ_mem hj) trivial) fun ρ τ s' hs => hQ (τ t) s' hs
theorem tM (n k : Nat) (h1 : 1 ≤ n) (h8 : n ≤ 8) (hk : k = 0 ∨ k % 2 = 1 ∧ k < n) : ∃ N orc t js, KM n k N orc t js ∧ okJ n k js = true := by
  rcases c8 h1 h8 with rfl | rfl | rfl | rfl | rfl | rfl | rfl | rfl
  · rcases ko1 hk with rfl
    · exact ⟨_, _, _, _, kM1_0, rfl⟩
  · rcases ko2 hk with rfl | rfl
    · exact ⟨_, _, _, _, kM2_0, rfl⟩
    · exact ⟨_, _, _, _, kM2_1, rfl⟩
  · rcases ko3 hk with rfl | rfl
    · exact ⟨_, _, _, _, kM3_0, rfl⟩
    · exact ⟨_, _, _, _, kM3_1, rfl⟩
  · rcases ko4 hk with rfl | rfl | rfl
    · exact ⟨_, _, _, _, kM4_0, rfl⟩
    · exact ⟨_, _, _, _, kM4_1, rfl⟩
    · exact ⟨_, _, _, _, kM4_3, rfl⟩
  · rcases ko5 hk with rfl | rfl | rfl
    · exact ⟨_, _, _, _, kM5_0, rfl⟩
    · exact ⟨_, _, _, _, kM5_1, rfl⟩
    · exact ⟨_, _, _, _, kM5_3, rfl⟩
  · rcases ko6 hk with rfl | rfl | rfl | rfl
    · exact ⟨_, _, _, _, kM6_0, rfl⟩
    · exact ⟨_, _, _, _, kM6_1, rfl⟩
    · exact ⟨_, _, _, _, kM6_3, rfl⟩
    · exact ⟨_, _, _, _, kM6_5, rfl⟩
  · rcases ko7 hk with rfl | rfl | rfl | rfl
    · exact ⟨_, _, _, _, kM7_0, rfl⟩
    · exact ⟨_, _, _, _, kM7_1, rfl⟩
    · exact ⟨_, _, _, _, kM7_3, rfl⟩
    · exact ⟨_, _, _, _, kM7_5, rfl⟩
  · rcases ko8 hk with rfl | rfl | rfl | rfl | rfl
    · exact ⟨_, _, _, _, kM8_0, rfl⟩
    · exact ⟨_, _, _, _, kM8_1, rfl⟩
    · exact ⟨_, _, _, _, kM8_3, rfl⟩
    · exact ⟨_, _, _, _, kM8_5, rfl⟩
    · exact ⟨_, _, _, _, kM8_7, rfl⟩
theorem mate_law (w : World) : RLaw w 530 52 mateF := by
  intro oa ob k kk p e hp A Q s a b hh hd X hg ha hb hQ
  cases e
  obtain ⟨cs, rs, n, n', rfl, rfl, M⟩ := hp
  obtain ⟨N, orc, t, js, K, hj⟩ := tM cs.length k M.one (by have := M.le; have := M.len; omega) (by
    by_cases q : k = 0
    · exact .inl q
    · exact .inr ⟨(M.yes q).1, (M.yes q).2.1⟩)
  exact km_use K hj rfl M hh (by omega) X hg ha hb hQ
/-! ## The rows that are met, and where their signs stand -/
noncomputable def rowsL : List (List Nat) := [[], [40], [40, 40], [40, 41], [40, 40, 40], [40, 40, 41], [40, 41, 40], [40, 40, 40, 40], [40, 40, 40, 41], [40, 40, 41, 40], [40, 40, 41, 41], [40, 41, 40, 40], [40, 41, 40, 41], [40, 40, 40, 40, 41], [40, 40, 40, 41, 40], [40, 40, 40, 41, 41], [40, 40, 41, 40, 40], [40, 40, 41, 40, 41], [40, 40, 41, 41, 40], [40, 41, 40, 40, 40], [40, 41, 40, 40, 41], [40, 41, 40, 41, 40], [40, 40, 40, 40, 41, 41], [40, 40, 40, 41, 40, 41], [40, 40, 40, 41, 41, 40], [40, 40, 40, 41, 41, 41], [40, 40, 41, 40, 40, 41], [40, 40, 41, 40, 41, 40], [40, 40, 41, 40, 41, 41], [40, 40, 41, 41, 40, 40], [40, 40, 41, 41, 40, 41], [40, 41, 40, 40, 40, 41], [40, 41, 40, 40, 41, 40], [40, 41, 40, 40, 41, 41], [40, 41, 40, 41, 40, 40], [40, 41, 40, 41, 40, 41], [40, 40, 40, 40, 41, 41, 41], [40, 40, 40, 41, 40, 41, 41], [40, 40, 40, 41, 41, 40, 41], [40, 40, 40, 41, 41, 41, 40], [40, 40, 41, 40, 40, 41, 41], [40, 40, 41, 40, 41, 40, 41], [40, 40, 41, 40, 41, 41, 40], [40, 40, 41, 41, 40, 40, 41], [40, 40, 41, 41, 40, 41, 40], [40, 41, 40, 40, 40, 41, 41], [40, 41, 40, 40, 41, 40, 41], [40, 41, 40, 40, 41, 41, 40], [40, 41, 40, 41, 40, 40, 41], [40, 41, 40, 41, 40, 41, 40], [40, 40, 40, 40, 41, 41, 41, 41], [40, 40, 40, 41, 40, 41, 41, 41], [40, 40, 40, 41, 41, 40, 41, 41], [40, 40, 40, 41, 41, 41, 40, 41], [40, 40, 41, 40, 40, 41, 41, 41], [40, 40, 41, 40, 41, 40, 41, 41], [40, 40, 41, 40, 41, 41, 40, 41], [40, 40, 41, 41, 40, 40, 41, 41], [40, 40, 41, 41, 40, 41, 40, 41], [40, 41, 40, 40, 40, 41, 41, 41], [40, 41, 40, 40, 41, 40, 41, 41], [40, 41, 40, 40, 41, 41, 40, 41], [40, 41, 40, 41, 40, 40, 41, 41], [40, 41, 40, 41, 40, 41, 40, 41]]
noncomputable def rowV (l : List Nat) (t : Nat → Nat) : List Value := l.zipIdx.map fun p => .str ⟨#[p.1]⟩ (t p.2)
noncomputable def rowF (l : List Nat) (t : Nat → Nat) (n : Nat) : Obj := lstO (rowV l t) n
noncomputable def plc : List Nat → Nat → Int → List Int
  | [], _, _ => []
  | c :: l, d, k => match Nat.beq c d with
    | true => k :: plc l d (k + 1)
    | false => plc l d (k + 1)
noncomputable def codeV : Value → Nat
  | .str x _ => x.cps.toList.headD 0
  | _ => 0
noncomputable def PlcP (oa : Obj) (sg : Str) : Prop := ∃ l t n, l ∈ rowsL ∧ oa = rowF l t n ∧ (sg = ⟨#[40]⟩ ∨ sg = ⟨#[41]⟩)
noncomputable def placesF : Obj → List Value → Option (List Kd × Nat × Prop) := fun oa args => match args with
  | [.str sg _] => some ((plc ((valsOf oa).map codeV) (sg.cps.toList.headD 0) 1).map Kd.int, (plc ((valsOf oa).map codeV) (sg.cps.toList.headD 0) 1).length, PlcP oa sg)
  | _ => none
/-- a row's places are told by one run; tk: the numbers of the tokens that the places bear -/
noncomputable abbrev KQ (l : List Nat) (sg N orc : Nat) (tk : List Nat) (P : Params) (ρ τ t : Nat → Nat) (n u : Nat) : Prop :=
  Said (runE (GH 200 P 1 noH) ρ τ N (.top (call (.ref 62) [.ref (ρ 0), .str ⟨#[sg]⟩ u])) (mkT [rowF l t n]) 1 0 orc [] []) [6] (.ref (ρ 6)) [] [some (lstO (kdL ((plc l sg 1).map Kd.int) fun q => τ (tk.getD q 0)) (plc l sg 1).length)]
noncomputable abbrev KP (l : List Nat) (sg N orc : Nat) (tk : List Nat) : Prop := ∀ (P : Params) (ρ τ t : Nat → Nat) (n u : Nat), KQ l sg N orc tk P ρ τ t n u
/-- both signs' -/
noncomputable abbrev KB (l : List Nat) (N orc : Nat) (tk : List Nat) (N' orc' : Nat) (tk' : List Nat) (P : Params) (ρ τ t : Nat → Nat) (n u : Nat) : Prop := KQ l 40 N orc tk P ρ τ t n u ∧ KQ l 41 N' orc' tk' P ρ τ t n u
theorem kP0 : ∀ (P : Params) (ρ τ t : Nat → Nat) (n u : Nat), KB [] 146 20198467869977378395446103881986405350291758655910784024754102273032594698286350874343174857339198296949902656465275904 [] 146 20198467869977378395446103881986405350291758655910784024754102273032594698286350874343174857339198296949902656465275904 [] P ρ τ t n u ∧ KB [40] 207 42122222204787481190910821461129687287854808710266818461681247176973184437486089625753842029374318226684257743985155610431012246156684380681250822464963206369111614570915449616336695127937341665772435181566692352 [7] 192 35678910019021673090832942161406279265704562763032401028868103285874084246654587985141338064361786076640768949994423730408631840879780295849338759290086804521474572276083740807557126305090560 [] P ρ τ t n u ∧ KB [40, 40] 264 83793439486628355342302589361794343945553247871860849140804335370116908584336043097934983882077098746023176125885895956643559108717940991386762024485714067534517519229570994564964592681589063890771376208223821993156507465517560716384215755234184246456310674160111327263804781812910449704839735675904 [7, 11] 234 60118844453430682857823343716578170399236940094522620346354292550832299993863191776706288161525009224147159688671575068016035470224633350089129239071041782313497574855549240725088962779482367633218916509968289461983408242420782356408445529017600215056649216 [] P ρ τ t n u ∧ KB [40, 41] 249 70975804008933682992504310089637261339515491533337161129568254162270972743470949752669534618465397920816968856236146728562995315061918342685637272453598867561396677398626783482111373215696721724706783087775630810475167101317801228421495017467075260966242201066293763494116330496 [7] 249 70975804008933682992504310089686225303016786310955728378039737147438091538652569958817103912049430121530885509150079032572243311842036729119316441663931285801361102350442613961399298379381331661053970706516200391182533841231624317044934485757942547983589036284529471074086161408 [9] P ρ τ t n u ∧ KB [40, 40, 40] 321 166689698061590498440269848310714318055749889861257040255614044515775039097607814703486671662755797531807142761983067379428059044607432178068543333345928075636971748753074137180819408010513198553623909023123472755744515710068892207402875584364610739750897843823603397804759717292872111490132575975077900236868220253237604151321357400184709144075335208950489234704653845182228734520855552 [7, 11, 15] 276 101300052509701016588274469201885224079719407909663890765814426896741179059823919912641384126234987931881101343491376406033468198513817797821549376075378949688649659011306551988778967100155335247383912166866320034303394806623713992205919891160426423223805667772914743855560608849683108733927301499325199420929658631094275072 [] P ρ τ t n u := by refine Pb_elim fun b P => ?_; intros; cases b <;> exact ⟨⟨by kernel_rfl, by kernel_rfl⟩, ⟨by kernel_rfl, by kernel_rfl⟩, ⟨by kernel_rfl, by kernel_rfl⟩, ⟨by kernel_rfl, by kernel_rfl⟩, ⟨by kernel_rfl, by kernel_rfl⟩⟩
theorem kP1 : ∀ (P : Params) (ρ τ t : Nat → Nat) (n u : Nat), KB [40, 40, 41] 306 141191666226038434137319436731411840781585460028163473742747434207369570512094359534385856638743702331701259648761939211719907218057793466724432536759671133468444971594952986335297224010581055357714257037504190356145430444677419684771272915487219199296716380886247572102013363552880552931535766469526547333867314398138098323455366584738357870095520745494903377628160 [7, 11] 291 119593993171186791597502077314908120370813119641554350052011995582425435289534175123485477304299706579526375810293549168675825252603486278161233797950958328992861338693417635677389590788767998207924482265266604662568463421282576793429374272112025080468791378781838180408166355604805271637192840161225302462012859004583554471120907415763096177664 [11] P ρ τ t n u ∧ KB [40, 41, 40] 306 141191666226038434137319436731509244448769118376903395814719088068239576122147482412754699098288815983060125227362039871246205054966814509371262770983823939194174011516108272024281445530011909835036614848162794507263230076506467875114339575135315378511550691915397398022437753653157405564343639470238708778242335873715312256035203929875786350571236678515248124136448 [7, 13] 291 119593993171186791597502077314825616255525168534588717767377401989445326847842251251698403421095141467829166423198010133504087364043347943173208275026575491265817031774975720997674934974234464794378555857716494261656340146584436353165613526250161032870361016903379714754561681375559779271267049715248141827864820237631738366405838221853489892352 [9] P ρ τ t n u ∧ KB [40, 40, 40, 40] 378 331594640464641302566886612951130769794797894275304220987598028632619233532850508237289875789815038235601185893200468183891185162840630589021073056925816344683457233693854417051419106210347320117525463943173991795607442627774994083234755905038937060128739274748100548641005625009254187426382236237616266300993309158279507638382099221364740692434007877220239134690827103660492790793857775290764240877390454719749657348332363858560127006671439739136982401447239146177410632704 [7, 11, 15, 19] 318 170690250815068670402836324670053707880904412489686164343632963633616787078265238940794607435637097690448146881963854398347890783777419975536447290445347233027591186385341349943996202691470641268617001868822972603700228562909076135021428435708562446593106507526157299413580122803486779655807595084430927320455837820919741008116767150535823068810185131402402088244982145018984493766914608128 [] P ρ τ t n u ∧ KB [40, 40, 40, 41] 363 280871585606495201314545408187322821787433452816630534863261454534143225569253519642394223437947215461959270419464657684025880312188308522226619796247572874526139013364674450874175479527780858520953610590080812349088818593737584854405177349735037116995354321792110044985367109256344816542646890005714085560007092657590602624591660417408881843677645117733107541846375464210511442804757945997128363175912165094630361620818376504680532670596313808527952896 [7, 11, 15] 333 201515479850423357321138482350969150461449560316925798783886801590791658263911094081565217232422508408276334862384402686842718251610960374834073443151725000833742851158526253984475781325954761922590465632829978585038046849675724430809736157049383663752045819150348319302077616849168461433927785266610207882906141343823161562501139526969494509529053677335353810661387901885425371390973652532705310074300869381120 [13] P ρ τ t n u := by refine Pb_elim fun b P => ?_; intros; cases b <;> exact ⟨⟨by kernel_rfl, by kernel_rfl⟩, ⟨by kernel_rfl, by kernel_rfl⟩, ⟨by kernel_rfl, by kernel_rfl⟩, ⟨by kernel_rfl, by kernel_rfl⟩⟩
theorem kP2 : ∀ (P : Params) (ρ τ t : Nat → Nat) (n u : Nat), KB [40, 40, 41, 40] 363 280871585606495201314545408187516586215441287608720800143305082321785858887508023325958734303298872343879792524656646440204797894409954863307049248800555666174069603501968062923176120683745339093291413354500869178734120473019275327664350366877791377368215281217943872782002512815355793570308615110989448992795239709685716237363781711996433038133525594291554703643824240228625156394173645847049367061647171027719366815397801550700981232585127035415825408 [7, 11, 17] 333 201515479850423357321138482350830131302200584717270597578214573340077526991769235631945135449009189885250536646435446407149386558369549716171582418492726929442435657390648854044964804802277919105495156529587596079107933884810550453809546987151161002509104032867520722252655384782787609722795543394723886994600101613180004562416984853194624442656725906807324579214413855223154474179073779976457795344949849361408 [11] P ρ τ t n u ∧ KB [40, 40, 41, 41] 348 237907486956258152165206770456880004629791962022234520694744453779469233363463628417255540265403033432778271911867755465482433655519200455597419680684101795468035163768635284415368144214468905687484393256540280159525872738491306776915145839712345941649761725292177955342540868527020841200077378540288422060311703601673352327150440894116611071588758285966734612331753873911538810206012896607546011625346817931337688184639268185967616 [7, 11] 348 237907486956258152165206770457044129484320482025009642337460392820931885330397506328866330933187200390964517293102004056092798713919580480484864102317194141216074114678678119648027270462377184878001270327764719951850552739822495602643413307469180228137080097457443027539920818786317344188191491702442357581158999477173324061971861311908886026401210765042607825189079445720332283070054626051773097505793614144821913297966606601686016 [11, 15] P ρ τ t n u ∧ KB [40, 41, 40, 40] 363 280871585606495201314545408187516586215441287608720800143305082321785858887508023325958734303298872343879792524656646537608465078068303603229121220454416536179679656624846431765635665797396697958870013455160395476571029494061922157898574519683517106408136436503632857003521943669833115928119273715140566792427068757876059304023429808175647872444554744117475128033924517081257964267174358008493742083122748241651946652742938979181456948518147380162333696 [7, 13, 17] 333 201515479850423357321138482350830131302200584717270597578214573340077526991769235631945135449009107381135248695328480774864751964776569607729890494620939855559231092278951644657869265767106181216935018194599570556183551047083506146891105072471446346694570499453974795845105274381875486448097402954460126248738237565581574200538526387541019768427480414441398788768436694589006435412121963871742726151040243076096 [9] P ρ τ t n u := by refine Pb_elim fun b P => ?_; intros; cases b <;> exact ⟨⟨by kernel_rfl, by kernel_rfl⟩, ⟨by kernel_rfl, by kernel_rfl⟩, ⟨by kernel_rfl, by kernel_rfl⟩⟩
theorem kP3 : ∀ (P : Params) (ρ τ t : Nat → Nat) (n u : Nat), KB [40, 41, 40, 41] 348 237907486956258152165206770456880004629791962022234520694744453779469233363463628417255540265403130836445455570216495387554405309380070461207472803562470637927580277419994149993968244873995203524393414299187110393750025544217035816836301125401330163169192579769500313153199472678138640831906426730631488719959799780888186638179590720037035461689035138599542485332466035355913831681590110540125848970484246411813404117659612932475904 [7, 13] 348 237907486956258152165206770457044129484320482025009642337460392820931885330397506328866330933187200390964517293102003973588683425968473514852579467723601161107632422754806332574144065897265487668614174788729548213961992601487507577120488924631453183830161655542763312884106285252903798261783941592041445457884301336733060301225999447861287596039332306576954220514850200227966357279608648891138949467026662328717198228772696995400704 [9, 15] P ρ τ t n u ∧ KB [40, 40, 40, 40, 41] 420 558735863877482560315059346466245193704557875572910125747191481012510275378108124910579787418942507128329386765647472225627833159736323283058743953294462183539965990902611091936723733118699029323385348052796382633917115672269665756518286702698029505156708009352511166033379624526155714319374100517438481282529168392179447376611354109804240573788775684753682084563475375534242825935535421648262270467637343656304287609993798606061293403737485079066727677274753066646513453422026166696691342383209893372117378260748597887208058681310537845760 [7, 11, 15, 19] 375 339552911835792693828491891661957908269873043737911522291300381319802095137638920434984832808770599153255614354637279302550765423274077482112700694474085400102902522139191347316306139920413533433039768271211981157024120660266788200149489163643446881687491210775525798937278465135425994043644554443820874536692947108592856705540588803726582656167874853693586380095702539885834529610196313055220485438729430067380812821865087272070847096708991393988177395689525267955286046411776 [15] P ρ τ t n u ∧ KB [40, 40, 40, 41, 40] 420 558735863877482560315059346466630647914309665598822953166175166413460338400013224320218648462448313559202830110285001228797704854111562044831824246276212569876782027814601099232266543580237730827661802829256526174869012439774628040880178880577428062346649658000192004330517315398455468417795467723729923379555657665845693601165806623583840181447013793630477841092891357438379608347884795608671142544980712872364840680136201860247844902063884291673824695263967736896729263457928113779812642239219683751620638252106881307612365149429616872448 [7, 11, 15, 21] 375 339552911835792693828491891661723661449931512252993233863192612016241837768569078898743120724580043552142894761993652457838376395869680478035318295593409089270296320249473491626313419889466901640740770683105595899496994283148882754284991995824859996456682374336769772828512823720051246563740037954840157611830378922959017428189646025385383349072748500546265594605575673035240570133181080707793942181756963761993416097560503406730341002441512746771514943358958097976650699377664 [13] P ρ τ t n u := by refine Pb_elim fun b P => ?_; intros; cases b <;> exact ⟨⟨by kernel_rfl, by kernel_rfl⟩, ⟨by kernel_rfl, by kernel_rfl⟩, ⟨by kernel_rfl, by kernel_rfl⟩⟩
theorem kP4 : ∀ (P : Params) (ρ τ t : Nat → Nat) (n u : Nat), KB [40, 40, 40, 41, 41] 405 473267685516821619638445867711414882080939257502092240461985251407765374654276164152918374195085445962164351946728273567937197973291342696662956478431713308428928424437668450557104813098224914302758441394793266024007848154999853253053024751701553754567111338703693563833196633522513490597233946570318186315219059752972575298119313845197892607412741599609838509731343339776394029447208602748727408311472522805043286522737386874234456948247027145167199687825438697701927164918531042101778643589147476406164540281316183040 [7, 11, 15] 390 400873322503534767452673837669809908001561434468586068577569695339552731156486698505809439032270329817723508502583021250416252655462810764054086999726176895144549598250955240433418212777148697841121630114933191745744521918212943312249344449270924580780435980563392229612295835892066632008705803888999646049364226656001594052599716882091786140883832778511116236867272774971368638783496284439265428468494965751517528026347229945877939969704577062217807028685188731641875497782281474434202264587471872 [13, 17] P ρ τ t n u ∧ KB [40, 40, 41, 40, 40] 420 558735863877482560315059346466630647914309665598822953166175166413460338400013224320218648462448313559202830110285001422562132861946354135097104289904000212510100282318284663743131895237119651349766994818012705092451234086115708470332731863369075992936786951612241004971673279879027806220559887780559568681434939356318952774182949377844213042406439627458274476496450368415407270072990070972103930692032807985977612801430789411442300782540442738835622144039985850610318679157778034783698377245152772756815217677152901756174353962656504744960 [7, 11, 17, 21] 375 339552911835792693828491891661723661449931512252993233863192612016241837768569078898743120724579904532983645786393997256632704167618966346763176437143789007486883001726447693410364463609773569947499360024443104874837996211757575560517114595885349019933005531519674463725270441214121133598874863977839968441932156261716075641906818428335961117006367648835133352733689352146934530402537923707709787507982093695121088327032474175283366955779241849559615070802710583247299679357952 [11] P ρ τ t n u ∧ KB [40, 40, 41, 40, 41] 405 473267685516821619638445867711414882080939257502092240461985251407765374654276164152918374195085639726592359781520363833217241601078985329981210982115277819294280081319588972662296801854403831884980087735873695476560830946647783843190318363750554395723075819276031366597616690352158792476515637043577359332361814013345436257545147672994528010971752576637500234836618703209182176499303716361499529606060073999499166999295834036031905724265140858756615387675359701587662170851620047296358068635167924968153353508204055552 [7, 11, 17] 390 400873322503534767452673837669809908001561434468586068577569695339552731156486698505809439032270329817723508502583021111397093406487211108852881327497926181013277456392505620351634799458625672042905681158653498414051280507554280821224685451199533273586668103163452718635772159049249536699602561506493715936399361482024593863429818659430543199097549950914066814635206394119657506541624398118377122428764322594517443871673455075811067641934049032986360054638526460744663597909725226919472913567452160 [11, 17] P ρ τ t n u := by refine Pb_elim fun b P => ?_; intros; cases b <;> exact ⟨⟨by kernel_rfl, by kernel_rfl⟩, ⟨by kernel_rfl, by kernel_rfl⟩, ⟨by kernel_rfl, by kernel_rfl⟩⟩
theorem kP5 : ∀ (P : Params) (ρ τ t : Nat → Nat) (n u : Nat), KB [40, 40, 41, 41, 40] 405 473267685516821619638445867711741374496256893482501581540743594524391133735212208017579322325970523849743820127603657649682926614355152954675685886887325155301157107929577507230744275485542360635913871826385060311982535981484366564842464294365355099103403057554758325106729229501699901031603341347556829257510599199986561600003583613209260952447637024203299477709463898460031550300603229277341157324350251475707434310459319554589240195691622226959024731422076551141182812711713710300829004342173611197245346949226302464 [7, 11, 19] 390 400873322503534767452673837669533358168758762191108199736536726943532284247511335430525251412217924191269290958313121624418718953961838200134873725599986799172725480880416769783051497574919925731219367341039067205311179056468288258639368924912739132990184540934679848555957447210509037065659777156478100771890287568119046710038792388655739695906237524044699021664353892967071063730034721859665881686545638693565387217116119119557318209671081128881184768254615310363258668233904999029492051057052672 [11, 15] P ρ τ t n u ∧ KB [40, 41, 40, 40, 40] 420 558735863877482560315059346466630647914309665598822953166175166413460338400013224320218648462448313559202830110285001422562132861946354135097104289904000212510100282318284663743131895237119651349766994818110108759634892434855630542304385724239081602989909829981083464516786931237893384820660547306857405590455982003149186998335755103573252963561725316442495995927304845737765080731594222089903562521080998329044272449526968626276611811690268659260012244316838483418191679869939479158719852822366705336652562814581382231890286983001251253248 [7, 13, 17, 21] 375 339552911835792693828491891661723661449931512252993233863192612016241837768569078898743120724579904532983645786393997256632704167618966346763176437143789007486882919222332405459257497977488935353906379916001412950966209137874370995405417386498253480897833793631114325390282415691196750761147819670921526527252441605901542108493272501928411006605455525560435212293425591401072666354939493345831329042328489020891842834666548384837389795145093810792663254697995514053390073072640 [9] P ρ τ t n u ∧ KB [40, 41, 40, 40, 41] 405 473267685516821619638445867711414882080939257502092240461985251407765374654276164152918374195085639726592359781520363833217241601078985329981210982115277819294280081319588972662296801951807499068638436475795767448214691816653393896313196732593013940836727178141609966698276216649995701497558283873811583485167539742385357412830836657216047441826229898995310893440769821008814005547494059428159177702239288833810196149121754460422006001117773666629616099836804076609137748065552627133703206063648400684086373852950563840 [7, 13, 17] 390 400873322503534767452673837669809908001561434468586068577569695339552731156486698505809439032270329817723508502583021111397093406487211108852881327497926181013277456392505620351634799376121556754954574193021213779457687527445839129300813664125650069021556405954065623096736987311360976561267573480970791553561634437717675421515138944774728665564136404987659264524805481996382808401184134357631260564716724164155565413207801471136838396441683107195914077477892312705896646093620511850279003961166848 [9, 17] P ρ τ t n u := by refine Pb_elim fun b P => ?_; intros; cases b <;> exact ⟨⟨by kernel_rfl, by kernel_rfl⟩, ⟨by kernel_rfl, by kernel_rfl⟩, ⟨by kernel_rfl, by kernel_rfl⟩⟩
theorem kP6 : ∀ (P : Params) (ρ τ t : Nat → Nat) (n u : Nat), KB [40, 41, 40, 41, 40] 405 473267685516821619638445867711741374496256893482501581540743594524391133735212208017579322325970523849743820127603657649682926614355152954675685886887325155301157107929577507230744275582946027819572220566307132283636396851489976617965342663207814644217054416420336925207388755799536810052645988177791053410316324929026482755289272597430780383302114346561110136313615016259663379348793572344000805420529466310018463460285239978979340472544255034832025443583520926162658389925646290138174141770654086913178367293972810752 [7, 13, 19] 390 400873322503534767452673837669533358168758762191108199736536726943532284247511335430525251412217924191269290958313121624418718953961838200134873725599986799172725480880416769783051497492415810443268260375406782570717586076359846566715497137838855928425072843725292753016922275472620476927324789130955176389052560523812128268124112673999925162372823978118291471553952980843796365589594458098920019822498040263203508758650465514883088964178715203090738791093981162324491716417800283960298141450767360 [9, 15] P ρ τ t n u ∧ KB [40, 40, 40, 40, 41, 41] 462 941468068197579344007763247666220375110755822070915229983688448126891699412159405136402687821635803633010971198827571488757001231231403197551694293613407874999691022924810611586820558467746370266711447542334424087846203983175994333991419065314496492936263890122691176685734413413655346353477688461597963088341204235384455346209791403981427870935687894308078432470910563563119843522596240400897542007336278806779848218366923494522834640517830650248626846605419505459897940938548245818890289552641525242818284819927052886459094139795236026038880050929989115318912626082901701325952387130073189319945768406016 [7, 11, 15, 19] 432 675470212186173482780859419116171442593119817044749501061173265644535157271347721411903425434518856316153787655397891513317508633414119956031883858484653085486831938511918163038792017014262969355126814368778245485327565470201985064259020517973113329126046671734829634032231427490632295091540417847526192097360146303091038990546240475153685291280772148311046034683158721520420041102488388164595983564735936266216416263162403175265036621312794355166867278517416254602680076747427153625030524876437796511845423574863762390172297773663768485118926447224311584947964928 [15, 19] P ρ τ t n u := by refine Pb_elim fun b P => ?_; intros; cases b <;> exact ⟨⟨by kernel_rfl, by kernel_rfl⟩, ⟨by kernel_rfl, by kernel_rfl⟩⟩
theorem kP7 : ∀ (P : Params) (ρ τ t : Nat → Nat) (n u : Nat), KB [40, 40, 40, 41, 40, 41] 462 941468068197579344007763247666220375110755822070915229983688448126891699412159405136402687821636189087220722988853484316175984916632353260573599393023046736043196829355684054931458087470916241961086686304107504380827954369512810370903409072610039303397802591626967631462194556954607243120982650745959855266220602792574396994857472242278565561807987648406499799677202005660146332796262486625451994521115878414438086327243719251052250622421967432660976220565828377537241310154608798889032692806828076741144684032534149904448308810045451836074781998013110415174922416462404961317310670550477495788064847432704 [7, 11, 15, 21] 432 675470212186173482780859419116171442593119817044749501061173265644535157271347721411903425434518856316153787655397891279070688691882635037743455750715349525229462868670381921326707826458661856635534170741933533096300161073197907681860139841662280722924156953879139641312200480858839996093952311462268664970983028397645174493378421888268454482444333392284937269041743346772940136585999407447671120996550302426939065320384061975957941494959647034381377151650565660643203061515079727081773552410132409115121118990998421884078030295016551822666595880054332949600930816 [13, 19] P ρ τ t n u ∧ KB [40, 40, 40, 41, 41, 40] 462 941468068197579344007763247666869864169351881767752912572492814247854645780618851341778279696592255828473738833548798930504676225947857855655869609319964587464691839604375919318767931579699535455210849090281746420807678741801506603803292905751539714693481387833911661607611792820945124961643326269982752204075995999497664334105899378035320939746056013039830445925233917756747135332208316302910567060307500518652929735826134624849143627710338801403227122973840458641158255078034297500133578545468050023313110755419327054077792755521552811094332694757306421185180221005458596113871756792305990141036247124992 [7, 11, 15, 23] 432 675470212186173482780859419115705457046671725098130040990398837837679747661599465095726561992180328363282759067561478327198451449673038521804068005521127263628743145389161483458170428709209507051728895053791443204809346837220300756553736786701647986457269030296924089284540208231654222286591210173950050600983798320149208271000149514951786480826475231137516293291763534881232225597069746624190832172055293200158758462734836308256633046703253787206127942644402865177542480980554370677892749956757543952885936148790871227799749782520276037571764222337904803138505728 [13, 17] P ρ τ t n u := by refine Pb_elim fun b P => ?_; intros; cases b <;> exact ⟨⟨by kernel_rfl, by kernel_rfl⟩, ⟨by kernel_rfl, by kernel_rfl⟩⟩
theorem kP8 : ∀ (P : Params) (ρ τ t : Nat → Nat) (n u : Nat), KB [40, 40, 40, 41, 41, 41] 447 797454472551208258985865493438871649004276340950918411967217455420876208455743561798292765226324660473233050876416686572949586559311983464522450829921714304049187809260985305981153119990173039922625089305904600944133031126791936849605488985393895424892496424448672502010104921485206998869630482371744122764823030683065495834042827146763836078315803602307295367014913882381854189043955967982047589722183558641154137443315778294719097883777531805626118302962964782571648510308762646582422419026384093998782571977297294795500268938843768391405767449790180420315581430953526067257028905984 [7, 11, 15] 447 797454472551208258985865493439421787635788382366340904392680416079842089134683752645618152384533890528623798609299862314585291391796823732824007332962970701150558738515097252005659422514015803697627902724972302050647625252821716691475890921143492560367021926034697557037061447386808340365632322551584755519015737918132760128969173244325250503564399738344388077347202906316447725698680981994380419290974978666416214262611447761510341362115237728621447829470515342323124330400892045899729462734967720228686990379525706136015467280606741007612156009837765341748242474146936228498923064320 [13, 17, 21] P ρ τ t n u ∧ KB [40, 40, 41, 40, 40, 41] 462 941468068197579344007763247666220375110755822070915229983688448126891699412159405136402687821636189087220722988853484316175984916632353260573599393023046736043196829355684054931458087664680669968921478394372784424455742012146128625407092637120904655054684512149072823450950735872189464767323731175412408249012250723164534288469521242919721526288559986209264219734031650962025614486735745798469137275376251275397512161071515886455809633398995094386081495929261165684293405268221571010327280358022532621621242479695947353224326923759041251774631919016996150180855505467599540742356690999039484601291735305216 [7, 11, 17, 21] 432 675470212186173482780859419116171442593119817044749501061173265644535157271347721411903425434518856316153787655397891279070688691882635037743455750715349525229462868670381921326707826319642697386558571086732327424071910359066635540001690221580497309605633928080923692355920787527146754683293648971244005972911637090451406615978482377291930805601516296975834026659237416659975271412022407258501222773889059485152782492787012553725875114107935902139505265329677354603472418358079642927099777540065536787350590961766974910031368024119339922794039632539603598580911104 [11, 19] P ρ τ t n u := by refine Pb_elim fun b P => ?_; intros; cases b <;> exact ⟨⟨by kernel_rfl, by kernel_rfl⟩, ⟨by kernel_rfl, by kernel_rfl⟩⟩
theorem kP9 : ∀ (P : Params) (ρ τ t : Nat → Nat) (n u : Nat), KB [40, 40, 41, 40, 41, 40] 462 941468068197579344007763247666869864169351881767752912572492814247854645780618851341778279696592255828473738833548798930504676225947857855655869609319964587464691839604375919318767931773463963463045641180547026464435466384434824858306976470262405066350363308356016853596367971738527346607984406699435305186867643930087801627717948378676476904226628350842594865982063563058626417022681575475927709814567873379612355569653931260252702638687366463128332398337273246788210350191647069621428166096662505903789669202581124502853810869235142226794182615761192156191113310010653175538917777240867978954263134997504 [7, 11, 17, 23] 432 675470212186173482780859419115705457046671725098130040990398837837679747661599465095726561992180328363282759067561478327198451449673038521804068005521127263628743145389161483458170428570190347802753295398590237532581096123089028614695287166619864573138746004498708140328260514899960980875932547682925391602912407012955440393600210003975262803983658135828413050909257604768267360423092746435020933949394050258372475635137786886024566665851542654964256056323514559137811837823554286523218975086690671625115408119559424253753087511623064137699207974823175452118486016 [11, 17] P ρ τ t n u ∧ KB [40, 40, 41, 40, 41, 41] 447 797454472551208258985865493438871649004276340950918411967217455420876208455743561798292765226324660473233050876416686572949586559311983464522450829921714304049188003025413313815945210255453083550412731939222855447816595637657288506487409507499087413648675342030894148351185350937759981661278412961881416376872031324221460314615164949528256135145448904186577057488173055398996943304328828941473423549980194044713148420343440019824373247210319952678213416575736903866236061503218527058980866188181542774800685690886710495350189942729503397338856454984759845361601879515514880483916778496 [7, 11, 17] 447 797454472551208258985865493439421787635788382366340904392680416079842089134683752645618152384533890528623798609299862314585291391796823732824007332962970701150558738515097252005659422514015803697627902724833282891398649653166515485803662670429361288225163476414615773623742924361010124416676042858253062277605079255641735469971101853018056735686999798833411553670360089221138622456298476064267454425801001666227044364388786518568555079287640679199215763089663631190882458514571157593689732091810720144532316604655639263687696752577509560638109347566868129848369917899421499147903044608 [11, 17, 21] P ρ τ t n u := by refine Pb_elim fun b P => ?_; intros; cases b <;> exact ⟨⟨by kernel_rfl, by kernel_rfl⟩, ⟨by kernel_rfl, by kernel_rfl⟩⟩
theorem kP10 : ∀ (P : Params) (ρ τ t : Nat → Nat) (n u : Nat), KB [40, 40, 41, 41, 40, 40] 462 941468068197579344007763247666869864169351881767752912572492814247854645780618851341778279696592255828473738833548799256997091543583838264996948367663081213223772775648240580266898816657587114923391724474363492149448742552059519333211748517598411943376973296890585301069999110267278280392074918064270726891902480512809453773648563179379857231464907077801103978521213104167181504726985554945852858599754514504954814005594145993194178523134932262371205243532524096162011649704562911249146456274138714171100832688099681837325237350603344636137929332610745676832973403673657646474624782927097070947704157244416 [7, 11, 19, 23] 432 675470212186173482780859419115705457046671725098130040990398837837679747661599465095726561992180051813449956395284000458357418481277018074895092642445843076008690739762707265913900529083211973350227922489872229930683156741248476639183198316051281271255040258187021826510646083691220879424846555120340075076625612872358956831371437133895448092144917636194470266559241989603758286509187199281629907678619246755181163208268419093053714164698956212152666380064803318395593153922602229868661639130436922192852440215454248967369176361241659208023387746933194589608086528 [11, 15] P ρ τ t n u ∧ KB [40, 40, 41, 41, 40, 41] 447 797454472551208258985865493438871649004276340950918411967217455420876208455743561798292765226324986965648368512397095914028344902428609223603386873786375252180072887148564774162028504071918768563688899563917330352588642973664165533097398042067534887279813870781827932441696715773181686696114995683533562307486832027601787552893891908037368674294990012741664761792152525324145728490969954283931859490194926986189032867909239262697218442461169326479512929491578531584526238979426794370144351706738877246227167059089119839096906792283024039198950117989230781068607565744606873924939025408 [7, 11, 19] 447 797454472551208258985865493439421787635788382366340904392680416079842089134683752645618152384533890528623798609299862038035458589124546254955166299994574680703649763152021967818039370108389349480083632825346304516946124280257797478201764731047520736249651387564047190321859218614698438102858428427044322176153993263079150153444815058877460252124771025963331738958521348721504679671948460449102945351887096119073653338118011715065363766860771311406244910588511044748070868838312446352947513407909768087877759268699385514255433784673404385351725436416486724918694097671531518285392645120 [11, 15, 21] P ρ τ t n u := by refine Pb_elim fun b P => ?_; intros; cases b <;> exact ⟨⟨by kernel_rfl, by kernel_rfl⟩, ⟨by kernel_rfl, by kernel_rfl⟩⟩
theorem kP11 : ∀ (P : Params) (ρ τ t : Nat → Nat) (n u : Nat), KB [40, 41, 40, 40, 40, 41] 462 941468068197579344007763247666220375110755822070915229983688448126891699412159405136402687821636189087220722988853484316175984916632353260573599393023046736043196829355684054931458087664680669968921478394372784424455742012146128625407092637120904655054684512149072823451048139539373123116063653247384062109882256333217657166838363702464835177647425564809364879260329487871046657133565980022621943001105291196552797850055737405886664110721352905044685647047060797513341595611288230658423459572856843650771068400120337453501179556566914252486793363392017625758069438047436885879785171474755417621636481813504 [7, 13, 17, 21] 432 675470212186173482780859419116171442593119817044749501061173265644535157271347721411903425434518856316153787655397891279070688691882635037743455750715349525229462868670381921326707826319642697386558571086732327424071910359066635540001690221580497309523129812792972585390288502892553161703185207279320134185837753885886294918769095281752895633863627736837499038633714492277137544367715488816586543059233244951619368946860605003615474201984661203999065001568931492739424819927717764468634123935391307541858225035976528932870733876080572970977934917470409688974625792 [9, 19] P ρ τ t n u ∧ KB [40, 41, 40, 40, 41, 40] 462 941468068197579344007763247666869864169351881767752912572492814247854645780618851341778279696592255828473738833548798930504676225947857855655869609319964587464691839604375919318767931773463963463045641180547026464435466384434824858306976470262405066350363308356016853596465375405711004956724328771406959047737649540140924506086790838221590555585493929442695525508361399967647459669511809700080515540296913300767641258638152779683557116009724273786936549455072878617258540534713729269524345311496816932939495123005514603130663502043015227506344060136213631768327242590490520676346257716583911974607881505792 [7, 13, 17, 23] 432 675470212186173482780859419115705457046671725098130040990398837837679747661599465095726561992180328363282759067561478327198451449673038521804068005521127263628743145389161483458170428570190347802753295398590237532581096123089028614695287166619864573056241889210757033362628230265367387895824105991001519815838523808390328696390822908436227632245769575690078062883734680385429633378785827993106254234738235724839062089211379335914165753728267956823815792562768697273764239393192408064753321482016442379623042193768978276592453363584297185883103259753981542512200704 [9, 17] P ρ τ t n u := by refine Pb_elim fun b P => ?_; intros; cases b <;> exact ⟨⟨by kernel_rfl, by kernel_rfl⟩, ⟨by kernel_rfl, by kernel_rfl⟩⟩
theorem kP12 : ∀ (P : Params) (ρ τ t : Nat → Nat) (n u : Nat), KB [40, 41, 40, 40, 41, 41] 447 797454472551208258985865493438871649004276340950918411967217455420876208455743561798292765226324660473233050876416686572949586559311983464522450829921714304049188003025413313815945210255453083550412731939222855447816595637657288506487409507499087413746079009214552497091107422909413842531284023015004294745714490869335111673480743549628915661443285813207619704318407279551802669033368750096759112534201713475567625742701250678428524365009951781726403759642396551962415276337529556208806786612571643051653318498759711207511634317750978974552789034822104982790082355231447900828663286784 [7, 13, 17] 447 797454472551208258985865493439421787635788382366340904392680416079842089134683752645618152384533890528623798609299862314585291391796823732824007332962970701150558738515097252005659422514015803697627902724833282891398649653166515485803662670429361288225163476414615773623660420245722173309710410573618468684624970813949811598184027969813491623989790411737872518498622200661000287468272953139884616698756694747785129684674130704035021665741714271649105362177540356492742018250810411731825684493380358266073850951050965034442204386651719114660948713418829362896553813184352305238296759296 [9, 17, 21] P ρ τ t n u ∧ KB [40, 41, 40, 41, 40, 40] 462 941468068197579344007763247666869864169351881767752912572492814247854645780618851341778279696592255828473738833548799256997091543583838264996948367663081213223772775648240580266898816657587114923391724474363492149448742552059519333211748517598411943376973296890585301070096513934461938740814840136242380752772486122862576652017405638924970882823772656401204638047510941076202547373815789170005664325483554426110099694578367512625033000457290073029809394650323727991059840047629570897242635488973025200250658608524071937602089983411217636850090776985767152410187336253494991612053263402813003968048903752704 [7, 13, 19, 23] 432 675470212186173482780859419115705457046671725098130040990398837837679747661599465095726561992180051813449956395284000458357418481277018074895092642445843076008690739762707265913900529083211973350227922489872229930683156741248476639183198316051281271172536142899070719545013799056627286444738113428416203289551729667793845134162050038356412920407029076056135278533719065220920559464880280839715227963963432221647749662342011542943313252575681514012226116304057456531545555492240351410195985525762692947360074289663802990208542213202892256207283031864000680001801216 [9, 15] P ρ τ t n u := by refine Pb_elim fun b P => ?_; intros; cases b <;> exact ⟨⟨by kernel_rfl, by kernel_rfl⟩, ⟨by kernel_rfl, by kernel_rfl⟩⟩
theorem kP13 : ∀ (P : Params) (ρ τ t : Nat → Nat) (n u : Nat), KB [40, 41, 40, 41, 40, 41] 447 797454472551208258985865493438871649004276340950918411967217455420876208455743561798292765226324986965648368512397095914028344902428609223603386873786375252180072887148564774162028504071918768563688899563917330352588642973664165533097398042067534887377217537965486281181618787744835547566120605736656440676329291572715438911759470508138028200592826921762707408622386749476951454220009875439217548474416446417043510190267049921301369560260801155527703272558238179680705453813737823519970272131128977523079799866962120551258351167304499616412882697826575918497088041460539894269685533696 [7, 13, 19] 447 797454472551208258985865493439421787635788382366340904392680416079842089134683752645618152384533890528623798609299862038035458589124546254955166299994574680703649763152021967818039370108389349480083632825346304516946124280257797478201764731047520736249651387564047190321776714499410486995892796142409728583173884821387226281657741175672895140427561638867792703786783460161366344683922937524720107624842789200631738658403355900531830353314844903856134509676387770049930428574551700491083465809479406209419293615094711285009941418747613939374564802268447957966877992956462324375786359808 [9, 15, 21] P ρ τ t n u ∧ KB [40, 40, 40, 40, 41, 41, 41] 504 1586370556714505030589311118759938130762702639913768469946482753938246844755164550148169115635295225576275147384776668788940444737547402152291086311506112814604407308695472849697391681079873234321904006642074412220257505185707771036314703234154955639265489974512122519682472373872863204554686459694777610450722721977445844563253391431737415019007233490107463333905330595732237333564962052328770652623444786820110952606680005391280845417227594143617794099208116358445831725327099365056579278820311691245872440643086479801811539089737976023152053249261461785069566563352972553112494691055111180515804355810216777405434347173332787709183905702290702541213948151295054734953472 [7, 11, 15, 19] 489 1343708128091332404166891502559382317133486698565200126982193487274597269908706403439623550225416314860392735541537198912225374026986653341460432726529389446052401027061856684150080958183560352298285663330723299809530780940410012545576451260708895586935033701664924020031155663023166863302032821554002181297819377511355473372253968494089058677879573666593078762842486007649480180295671229891889552172070546454256216115824097280898360716084789316436391719457328472152241566364323231636618760595087059678536586114591654880135368718916660423648263993583285095905442598997713661193433792019484706870640792399107266299592471990036101155236268326442215934976 [15, 19, 23] P ρ τ t n u := by refine Pb_elim fun b P => ?_; intros; cases b <;> exact ⟨⟨by kernel_rfl, by kernel_rfl⟩, ⟨by kernel_rfl, by kernel_rfl⟩⟩
theorem kP14 : ∀ (P : Params) (ρ τ t : Nat → Nat) (n u : Nat), KB [40, 40, 40, 41, 40, 41, 41] 504 1586370556714505030589311118759938130762702639913768469946482753938246844755164550148169115635295225576275147384776668788940444737547402152291086311506112814604407694149682601487417593907292218007304956705096317319667144046751276842745576677499593168268659846206497758444245454165844954941023275731689600458018264787907383264757667886513875162548185386874968296189692487910116732122151993977418333461741924510983252360778426758487136859324620632891460345432670810959611324934757603165456074576841107227776577425498829175771947961815319392368113802331604188323753114851298952325101788073100395186054571620252679352517468473188797499563408962282060824634352457763173813980160 [7, 11, 15, 21] 489 1343708128091332404166891502559382317133486698565200126982193487274597269908706403439623550225416314860392735541537198912225374026986653341460432726529389446052401027061856684150080958183560352298285663330489052989589249455491724117468681957148638217865192165423211935840600061910447270658405976841613153893422373433973074491577657661482856788161717976600358731895854215350482592189285972364763175054165100589759048297237212050089524277328763207670750304082580992247725077383606306774050574961247782327593807773392347785009015571595874933521397142989325618890210251571170404220967486632087982566056927058601172032113824773373648824669098347806868900864 [13, 19, 23] P ρ τ t n u ∧ KB [40, 40, 40, 41, 41, 40, 41] 504 1586370556714505030589311118759938130762702639913768469946482753938246844755164550148169115635295875065333743444473506471529249103668365098659545757711488406479363760890935617332112908521620909316620461300178587535964061898172771852994268541886903012377443139700621921230419696205824679313311971964589484291159765199203062060964611916659292398414523268715628971713715384847972125329075261316666760597498679888921320725411757404735168771421221435427406175110129383498802947038972446574038489950638000233064948794241080078179960042919236337291539300942705074062393088133467379047986965222729879131530672595272230049261664479199055304106462597078621910876180952116145213672448 [7, 11, 15, 23] 489 1343708128091332404166891502559382317133486698565200126982193487274597269908706403439623550225416314860392735541537198446239827578894706722000361952101582590642791278805540507286638619655607481269697826917537180752347039858975784729723487734887037498141910944985343398442850609560863465382717834751721663079186395827047768088522697028746389900238135761048331071623227029576675231087997653750393175824087604623536670024863895382087906419167615786695000324270689284336736147722782826485226079952021002020736158547724646476560759178348699684312390980193859958309675726214766523418514111766925747383214719507944893751601328497588553993011381919660406475776 [13, 17, 23] P ρ τ t n u := by refine Pb_elim fun b P => ?_; intros; cases b <;> exact ⟨⟨by kernel_rfl, by kernel_rfl⟩, ⟨by kernel_rfl, by kernel_rfl⟩⟩
theorem kP15 : ∀ (P : Params) (ρ τ t : Nat → Nat) (n u : Nat), KB [40, 40, 40, 41, 41, 41, 40] 504 1586370556714505030589311118761032517661493117802613313353540334040671917073329729751035733728131140390563380946244111401302892979786241913427170700302463879907743219573136249790617093172622644785461783109933332359833794971077287111207548744636450122846804981911748872803771372029396931161135609119420086183285012873494284080076983762987473835842000122315652282569013286091713384237252312601510528061486035106964241939055722633419280429829715736857403795798480733074033183256088293472568531278569406050990480024388592468071843175386211838941573903415893204000954498060386778657443484216321226310608237485740252401966571305327962222428235819794970286793691959539039300750336 [7, 11, 15, 25] 489 1343708128091332404166891502558455335373167706384039192378618332920237041515367800059078432276313288384799238116702103463739519033198365094132931697400797595297765035051799834172555063923995614754686389912118753896542970953443055228278834412660575582737951081389770458207792490502323007748737380371908910383072890286905901055357283010144355498413744045436205782607491370168750897823543407291126011431007496290259800917305193272072435085338771594981917789783398015001948581535831188107341950317083180489120506900158288418884414566672814550504784655155428270773833716698345350748369804308134405839648398593306732942069178812812430976541161607714535640064 [13, 17, 21] P ρ τ t n u ∧ KB [40, 40, 41, 40, 40, 41, 41] 504 1586370556714505030589311118759938130762702639913768469946482753938246844755164550148169115635295225576275147384776668788940444737547402152291086311506112814604407694149682601487417593907292218007304956705096317319667144046751276842745576677499593168462424274214332550534510734209472742583656593986193284022529130139564265185279773078502631341465767608521309376619145040892908380052742131271030382462383080475463824698581191178543966504626499914581933604605687953713871697795717028999283871212244666238753605087223934451135380749962371487481726574452898775874947570731775510772263585521876413299768161035952529273521354208194730588568603541707106845082914446576400701852672 [7, 11, 17, 21] 489 1343708128091332404166891502559382317133486698565200126982193487274597269908706403439623550225416314860392735541537198912225374026986653341460432726529389446052401027061856684150080958183560352298285663330489052989589249455491724117468681957148638217865192165423211935840461042751198295058750775635940925642708242161831216041957575878069538265135919760651402452202522522109071933526794947705765103662857906821881648357726235526412681460233454104428367798152468027382551100383417136875827913718305996044766210723970115718628163860463633061635076254683285888247053251487015730446097419759760212038027695611627125369842927561473776268421583618455848881152 [11, 19, 23] P ρ τ t n u := by refine Pb_elim fun b P => ?_; intros; cases b <;> exact ⟨⟨by kernel_rfl, by kernel_rfl⟩, ⟨by kernel_rfl, by kernel_rfl⟩⟩
theorem kP16 : ∀ (P : Params) (ρ τ t : Nat → Nat) (n u : Nat), KB [40, 40, 41, 40, 41, 40, 41] 504 1586370556714505030589311118759938130762702639913768469946482753938246844755164550148169115635295875065333743444473506471529249103668365098659545757711488406479363760890935617332112908521620909316620461300178587535964061898172771852994268541886903012571207567708456713320684976249452466955945290219093167855670630550859943981486717108648048577332105490361970052143167937830763773259665398610278809598139835853401893063214521824791998416723100717117879434283146526253063319899931872407866286586041559244041976455966185353543392831066288432405152073063999661613587544013943937495148762671505897245244262010972079970265550214204988393111657176503667931324742940929372101544960 [7, 11, 17, 23] 489 1343708128091332404166891502559382317133486698565200126982193487274597269908706403439623550225416314860392735541537198446239827578894706722000361952101582590642791278805540507286638619655607481269697826917537180752347039858975784729723487734887037498141910944985343398442711590401614489783062633546049434828472264554905909638902615245333071377212337545099374791929895336335264572425506629091395104432780410855659270085352918858411063602072306683452617818340576319471562170722593656587003418709079215737908561498302414410179907467216457812426070091887820227666518726130611849643644044894597976855185488060970847089330431285688681436763867190309386456064 [11, 17, 23] P ρ τ t n u ∧ KB [40, 40, 41, 40, 41, 41, 40] 504 1586370556714505030589311118761032517661493117802613313353540334040671917073329729751035733728131140390563380946244111401302892979786241913427170700302463879907743219573136249790617093172622644785461783109933332359833794971077287111207548744636450123040569409919583664894036652073024718803768927373923769747795878225151166000599088954976230014759582343961993362998465839074505032167842449895122577062127191071444814276858487053476110075131595018547877054971497875828293556117047719306396327913972965061967507686113697743435275963533263934055186675537187791552148953940863337104605281665097244424321826901440102322970457040333895311433430399220016307242253948352266188622848 [7, 11, 17, 25] 489 1343708128091332404166891502558455335373167706384039192378618332920237041515367800059078432276313288384799238116702103463739519033198365094132931697400797595297765035051799834172555063923995614754686389912118753896542970953443055228278834412660575582737951081389770458207653471343074032149082179166236682132358759014764042605737201226731036975387945829487249502914159676927340239161052382632127940039700302522382400977794216748395592268243462491739535283853285050136774604535642018209119289074141394206292909850736056352503562855540572678618463766849388540130676716614190676973499737435806635311619167146332686279798281600912558420293646878363515620352 [11, 17, 21] P ρ τ t n u := by refine Pb_elim fun b P => ?_; intros; cases b <;> exact ⟨⟨by kernel_rfl, by kernel_rfl⟩, ⟨by kernel_rfl, by kernel_rfl⟩⟩
theorem kP17 : ∀ (P : Params) (ρ τ t : Nat → Nat) (n u : Nat), KB [40, 40, 41, 41, 40, 40, 41] 504 1586370556714505030589311118759938130762702639913768469946482753938246844755164550148169115635295875065333743444473506471529249103668365098659545757711488406479363760890935617332112908848113324634256441709519666294307178523931852789038133202835033897455330719168802796614501441934465743123569984693997939903006637427886553970021285556121679715860856424146060563508003359535798609842387050756209424398843216180640171790173030937331147957831655804822183413753071675038249961025274330843806501318983035128489542255209058198738643680440089731918067914691717951791063752281255100980667320005977323726612464420315826687115103734846848486774661647439374937010972032922813123791872 [7, 11, 19, 23] 489 1343708128091332404166891502559382317133486698565200126982193487274597269908706403439623550225416314860392735541537198446239827578894706722000361952101582590642791278805540507286638619379057648467025549439668339719378643838528875754360412450699417445736284490767799128543224612027161964410153915538447536889090424002930397550052046662031187671466025858785557177498686596233813486432944043774868817638639814372097041312482839043699224861572672740668267802725411810397648265175440265560732643905576024425481692130509443557678754880773646222749811380647078008982617774073957292307687791145165713887281382885684463178180049880759005616535977209446876056576 [11, 15, 23] P ρ τ t n u ∧ KB [40, 40, 41, 41, 40, 41, 40] 504 1586370556714505030589311118761032517661493117802613313353540334040671917073329729751035733728131140390563380946244111401302892979786241913427170700302463879907743219573136249790617093499115060103097763519274411118176911596836368047251413405584581007924692561379929748187853117758037994971393621848828541795131885102177775989133657402449861153288333277746083874363301260779539868750564102041053191862830571398683093003816996166015259616240150106252181034441423024613480197242390177742336542646914440946415073485356570588630526812907065233568102517164906081729625162208174500590123838999568670905690029310783849039820010560975755405096434870155723312928483040345707210869760 [7, 11, 19, 25] 489 1343708128091332404166891502558455335373167706384039192378618332920237041515367800059078432276313288384799238116702103463739519033198365094132931697400797595297765035051799834172555063647445781952014112434249912863574574932996146252915759128472955530332324627172226188308166492968621506776173461158634784192976918462788530516886632643429153269641634143173431888482950936825889153168489797315601653245559706038820172204924136933683753527743828548955185268238120541062860698988488627182848514270638202893866040482943085500002410269097761088942205055608646321446775764557536119637543483686374372343715061971046302368647900195982882600065756897501005220864 [11, 15, 21] P ρ τ t n u := by refine Pb_elim fun b P => ?_; intros; cases b <;> exact ⟨⟨by kernel_rfl, by kernel_rfl⟩, ⟨by kernel_rfl, by kernel_rfl⟩⟩
theorem kP18 : ∀ (P : Params) (ρ τ t : Nat → Nat) (n u : Nat), KB [40, 41, 40, 40, 40, 41, 41] 504 1586370556714505030589311118759938130762702639913768469946482753938246844755164550148169115635295225576275147384776668788940444737547402152291086311506112814604407694149682601487417593907292218007304956705096317319667144046751276842745576677499593168462424274214332550534510734209472742583656593986193284022529130139564265185279773078502728745132951266870049298691116694753778385662795254149399224921928194126822690277181291838070264341535520957228763838829840759439600737716872314688268092731675520716075962897882538602253180381791419677824793234100994955089781881760925336692687975622153265932576034036664690717896375683771944521148440886844535325558630379596745448360960 [7, 13, 17, 21] 489 1343708128091332404166891502559382317133486698565200126982193487274597269908706403439623550225416314860392735541537198912225374026986653341460432726529389446052401027061856684150080958183560352298285663330489052989589249455491724117468681957148638217865192165423211935840461042751198295058750775635940925642708242161831216041957575878069455761020631809544436819917887928516091825085103023833978029779653341710184438970630696491240943571673315769440342275228085189655506793464975222196113257903772462631220284316420005317716040585765492621371315508821421840648622889608557264792492745530514719672101905165649964735694888794521960163706514424546242595840 [9, 19, 23] P ρ τ t n u ∧ KB [40, 41, 40, 40, 41, 40, 41] 504 1586370556714505030589311118759938130762702639913768469946482753938246844755164550148169115635295875065333743444473506471529249103668365098659545757711488406479363760890935617332112908521620909316620461300178587535964061898172771852994268541886903012571207567708456713320684976249452466955945290219093167855670630550859943981486717108648145980999289148710709974215139591691633778869718521488647652057684949504760758641814622484318296253632121759764709668507299331978792359821087158096850508105472413721364334266624789504661192462895336622748218732712095840828421855043093763415573152771782749878052135011684241414640571689782202325691494521641096411800458873949716848053248 [7, 13, 17, 23] 489 1343708128091332404166891502559382317133486698565200126982193487274597269908706403439623550225416314860392735541537198446239827578894706722000361952101582590642791278805540507286638619655607481269697826917537180752347039858975784729723487734887037498141910944985343398442711590401614489783062633546049434828472264554905909638902615245332988873097049593992409159645260742742284463983814705219608030549575845743962060698257379823239325713512168348464592295416193481744517863804151741907288762894545682324362635090752304009267784192518317372162309346025956180068088364252153383990039370665352484489259697614993686455182392518736865332048797996399780170752 [9, 17, 23] P ρ τ t n u := by refine Pb_elim fun b P => ?_; intros; cases b <;> exact ⟨⟨by kernel_rfl, by kernel_rfl⟩, ⟨by kernel_rfl, by kernel_rfl⟩⟩
theorem kP19 : ∀ (P : Params) (ρ τ t : Nat → Nat) (n u : Nat), KB [40, 41, 40, 40, 41, 41, 40] 504 1586370556714505030589311118761032517661493117802613313353540334040671917073329729751035733728131140390563380946244111401302892979786241913427170700302463879907743219573136249790617093172622644785461783109933332359833794971077287111207548744636450123040569409919583664894036652073024718803768927373923769747795878225151166000599088954976327418426766002310733285070437492935375037777895572773491419521672304722803679855458587713002407912040616061194707289195650681554022596038203004995380549433403819539289865496772301894553075595362312124398253335185283970766983264970013163025029671765374097057129699902152263767345478515911109244013267744357444787717969881372610935131136 [7, 13, 17, 25] 489 1343708128091332404166891502558455335373167706384039192378618332920237041515367800059078432276313288384799238116702103463739519033198365094132931697400797595297765035051799834172555063923995614754686389912118753896542970953443055228278834412660575582737951081389770458207653471343074032149082179166236682132358759014764042605737201226730954471272657878380283870629525083334360130719360458760340866156495737410685191590698677713223854379683324156751509760928902212409730297617200103529404633259607860792746983443185945951591439580842432238354703020987524492532246354735732211319895063206561142945693376700355525645650242833960742315578577684453909335040 [9, 17, 21] P ρ τ t n u ∧ KB [40, 41, 40, 41, 40, 40, 41] 504 1586370556714505030589311118759938130762702639913768469946482753938246844755164550148169115635295875065333743444473506471529249103668365098659545757711488406479363760890935617332112908848113324634256441709519666294307178523931852789038133202835033897455330719168802796614501441934465743123569984693997939903006637427886553970021285556121777119528040082494800485579975013396668615452440173634578266858388329831999037368773131596857445794740676847469013647977224480763979000946429616532790722838413889605811900065867662349856443312269137922261134574339814131005898063310404926901091710106254176359420337421027988131490125210424062419354498992576803417486687965943157870300160 [7, 13, 19, 23] 489 1343708128091332404166891502559382317133486698565200126982193487274597269908706403439623550225416314860392735541537198446239827578894706722000361952101582590642791278805540507286638619379057648467025549439668339719378643838528875754360412450699417445736284490767799128543224612027161964410153915538447536889090424002930397550052046662031105167350737907678591545214052002640833377991252119903081743755435249260399831925387300008527486973012534405680242279801028972670603958256998350881017988091042491011935765722959333156766631606075505782486050634785213961384187412195498826654083116915920221521355592439707302544032011113807189511820908015537269771264 [9, 15, 23] P ρ τ t n u := by refine Pb_elim fun b P => ?_; intros; cases b <;> exact ⟨⟨by kernel_rfl, by kernel_rfl⟩, ⟨by kernel_rfl, by kernel_rfl⟩⟩
theorem kP20 : ∀ (P : Params) (ρ τ t : Nat → Nat) (n u : Nat), KB [40, 41, 40, 41, 40, 41, 40] 504 1586370556714505030589311118761032517661493117802613313353540334040671917073329729751035733728131140390563380946244111401302892979786241913427170700302463879907743219573136249790617093499115060103097763519274411118176911596836368047251413405584581007924692561379929748187853117758037994971393621848828541795131885102177775989133657402449958556955516936094823796435272914640409874360617224919422034322375685050041958582417096825541557453149171148899011268665575830339209237163545463431320764166345295423737431296015174739748326444736113423911169176813002260944459473237324326510548229099845523538497902311496010484195032036552969337676272215293151793404198973366051957378048 [7, 13, 19, 25] 489 1343708128091332404166891502558455335373167706384039192378618332920237041515367800059078432276313288384799238116702103463739519033198365094132931697400797595297765035051799834172555063647445781952014112434249912863574574932996146252915759128472955530332324627172226188308166492968621506776173461158634784192976918462788530516886632643429070765526346192066466256198316343232909044726797873443814579362355140927122962817828597898512015639183690213967159745313737703335816392070046712503133858456104669480320114075392975099090286994399620648678444309746782273848345402679077653983938809457128879977789271525069141734499861429031066495350687703591398935552 [9, 15, 21] P ρ τ t n u ∧ KB [40, 40, 40, 40, 41, 41, 41, 41] 546 2673029100210070306557518924474392389807559149523840815006248127068283235798038835905700563017091070077519121303644950197390865695138063497344192727397563636206903802447301690599384692724749215195846062048007842349875222401708668427513688345825977271945424156375553175216560486550910824125756449141829032023718565921738463179736876283274060625962200478888934124900738613426484272747506069479087244332585958960899284716595402102704813545970616276492444902314776646190435040725734103134724366936448225470921095799205438655243075515779378634439935726635486973428036955374455553820756782862918732191165262622295245043316283213139613605573694551954829773213876356934418530386172794699006990623846964138950109876056589288686439261987187438128128 [7, 11, 15, 19] 546 2673029100210070306557518924476236428084097878830617052600192248782289742117063490145303733842869052452014265118747323150083579751507281699372592349243755457601737290801643139236035379272700100826981769931011062111393979732537287832539502166138769171836583771971812627446653455465034370029458702734296115260970676767294926501704372287697551275722481665062185202646965105604871893812741049733844911796229950349201768041642762030807150635979360949044235411080484186590366806714721062923778629819287308912930052871156380205530883185383301788388651037711813522195272036952354554921201426682748524703977164823454181229494296237699901529495912471613333020396916916017522893675956885441231356292043095452308199113583017098623649003751190383561728 [15, 19, 23, 27] P ρ τ t n u := by refine Pb_elim fun b P => ?_; intros; cases b <;> exact ⟨⟨by kernel_rfl, by kernel_rfl⟩, ⟨by kernel_rfl, by kernel_rfl⟩⟩
theorem kP21 : ∀ (P : Params) (ρ τ t : Nat → Nat) (n u : Nat), KB [40, 40, 40, 41, 40, 41, 41, 41] 546 2673029100210070306557518924474392389807559149523840815006248127068283235798038835905700563017091070077519121303644950197390865695138063497344192727397563636206903802447301690599384692724749215195846062048007842349875222401708668812967898097616003184772843140060954125279582391650320462986799954948259905467063203450741633051431251522035833706255182229275270940937650603433779815557967608180591520787362419104440236613362907064989175438148495675049634843963424327028732178416606402888822788303654516913018122288479104901467629968293158234047593964744363769184566371356359690603169132236879141063242605991511305596386425616393800157072020951167436870231865571604668746196208696646090111923702973929329613136047947572106843568455306517154816 [7, 11, 15, 21] 546 2673029100210070306557518924476236428084097878830617052600192248782289742117063490145303733842869052452014265118747323150083579751507281699372592349243755457601737290801643139236035379272700100826981769931011062111393979732537287832539502166138769171836583771971812627446653455465034370029458468487476173729485758478866818732400812030328481434186239952977994647045852386012228266968028660706440514792152567950321091730810155828917432780289368229013288779288185189002260421457193936546660724373422811745111465985925571369092127159274536146973276290231909005706291320027491986735567587405397581925635965516359054876346975452209774662645318512136317788049490372760550427370569488716926772426702589358040720466366354646293081833772555036527616 [13, 19, 23, 27] P ρ τ t n u ∧ KB [40, 40, 40, 41, 41, 40, 41, 41] 546 2673029100210070306557518924474392389807559149523840815006248127068283235798038835905700563017091070077519121303644950197390865695138063497344192727397563636206904451936360286659081530407338019561967024994376301796080597993583624879709151113460698499387171831370269629874664661866617380838221449958508597331450513294850416344925375684822007948295161953647559637170550487266921315969263286976798464817507836340306574495203567740513198335086351068256558111302672754164488933794544471253456118949902548825114723091015050731145088540832349856151808808152946184558363264361648061971911383139287153144346522936434731094997526502132440130354189377890322047381495055550144847171228247342834307929713231733872666770844508658348672062808277916847104 [7, 11, 15, 23] 546 2673029100210070306557518924476236428084097878830617052600192248782289742117063490145303733842869052452014265118747323150083579751507281699372592349243755457601737290801643139236035379272700100826981769930545076564945887785917827761765074359283359562088327455794949185108125502594005782193045516615238931519889242539479073538178550429608758152965802084440596897593502802206952578825938769215626278814545642643918036770177419362029509198073816201353016152102411381641159133138579566547430646877456589366839092669257569751233966011853560396993464398523998016776630496547203162240558360625090724276410297815050606619953728276960565656482523046475737253524133968879747973995704326481743930219151933079760207970090569551461424117344408574102528 [13, 17, 23, 27] P ρ τ t n u := by refine Pb_elim fun b P => ?_; intros; cases b <;> exact ⟨⟨by kernel_rfl, by kernel_rfl⟩, ⟨by kernel_rfl, by kernel_rfl⟩⟩
theorem kP22 : ∀ (P : Params) (ρ τ t : Nat → Nat) (n u : Nat), KB [40, 40, 40, 41, 41, 41, 40, 41] 546 2673029100210070306557518924474392389807559149523840815006248127068283235798038835905700563017092164464417911781533795040797923275240488569662357907000430254299739717261589924160852135337111663438084901809143926738671573467012004338391351745919202684038173566839110951684419406690487113911125965216721877534200060405319778187136502636395359624118734205495383274325381089159046563643554508995910836663836017777734051348803591051368496236330092327164735162587516521628476289012587392467100084178586660483523217392445048351833439890407580092368924655051476225886294670179573593202058895529179036276813498438084765697470714632071001540281108777499778566375086402729222412061696269695539214755842138652194439993560857034266183070231172003924992 [7, 11, 15, 25] 546 2673029100210070306557518924476236428084097878830617052600192248782289742117063490145303733842869052452014265118747322223101819432515100538437988774089401097373343952198262594118086276246224507329556934835562576256400191444289960331510373574288014535844573715121835101552393890727490770756040098188383127450983709809977628884856323967693354193102206511500361839474444261749318598371558956462930165309005500776884871356158817327627684806358204076064000416443003457307894678892120299383037566769123312497731533967147554279900137167661847314458977107254663229210443544908825278110923422803559108624762731456992930275342052391826758050157484614788201411514617547707077829688245535140200363898237294918950675820405793428444953897032462703266816 [13, 17, 21, 27] P ρ τ t n u ∧ KB [40, 40, 41, 40, 40, 41, 41, 41] 546 2673029100210070306557518924474392389807559149523840815006248127068283235798038835905700563017091070077519121303644950197390865695138063497344192727397563636206903802447301690599384692724749215195846062048007842349875222401708668812967898097616003184772843140060954125279582391650320462986799954948259905467063203450935397479439086314126098986298810016917904259192154286998290680909624490101113625979351175283357818835009248145418627991131287322980224981257036376029373334381086975226625552723711346558320001570169578160640647111047418606908553390578191565819969930367336718264894237512242573851389658086624918368507720203944994612952497509614598667680641589718382335611908546567093997658708907018334807715472993592555405557268533405027328 [7, 11, 17, 21] 546 2673029100210070306557518924476236428084097878830617052600192248782289742117063490145303733842869052452014265118747323150083579751507281699372592349243755457601737290801643139236035379272700100826981769931011062111393979732537287832539502166138769171836583771971812627446653455465034370029458468487476173729485758478866818732400812030328481434186239952977994508026693137036628611766822988478189800660880426091871471649026742510394406982073419272733595447594943778343597930432534938475269417179654934345171955009401894526275031850171293764467346177267043831729291130857593764074324645619114754328586543284292674024635843210337888341757012472405674631049406218086775557303697160946398743195255615311378449569154454773736834319043204016507904 [11, 19, 23, 27] P ρ τ t n u := by refine Pb_elim fun b P => ?_; intros; cases b <;> exact ⟨⟨by kernel_rfl, by kernel_rfl⟩, ⟨by kernel_rfl, by kernel_rfl⟩⟩
theorem kP23 : ∀ (P : Params) (ρ τ t : Nat → Nat) (n u : Nat), KB [40, 40, 41, 40, 41, 40, 41, 41] 546 2673029100210070306557518924474392389807559149523840815006248127068283235798038835905700563017091070077519121303644950197390865695138063497344192727397563636206904451936360286659081530407338019561967024994376301796080597993583624879709151113460698499387171831370269629874664661866617380838221449958508597331450513295044180772933210476912273228338789741290192955425054170831432181320920168897320570009496592519224156716849908820942650888069142716187148248596284803165130089759025043591258883369959378470416602372705523990318105683586610229012768233986773981193766823372625089633636488414650585932493575031548343867118821089683634586234665936337483844830271073663858436586928097263838193664719164822877861350269554678797234051621504804719616 [7, 11, 17, 23] 546 2673029100210070306557518924476236428084097878830617052600192248782289742117063490145303733842869052452014265118747323150083579751507281699372592349243755457601737290801643139236035379272700100826981769930545076564945887785917827761765074359283359562088327455794949185108125502594005782193045516615238931519889242539479073538178550429608758152965802084440596758574343553231352923624733096987375564683273500785468416688394006043506483399857867245073322820409169970982496642113920568476039339683688711966899581692733892908416870702750318014487534285559132842799630307377304939579315418838807896679360875582984225768242596035088679335594217006745094096524049814205973103928831998711215900987704959033097937072878669678905176602615057554082816 [11, 17, 23, 27] P ρ τ t n u ∧ KB [40, 40, 41, 40, 41, 41, 40, 41] 546 2673029100210070306557518924474392389807559149523840815006248127068283235798038835905700563017092164464417911781533795040797923275240488569662357907000430254299739717261589924160852135337111663438084901809143926738671573467012004338391351745919202684038173566839110951684419406690487113911125965216721877534200060405513542615144337428485624904162361993138016592579884772723557428995211390916432941855824773956651633570449932131797948789312883975095325299881128570629117444977067964804902848598643490128825096674135521611006457033161840465229884080885304022521698229190550620863784000804542469064960550533198378469592009219622195996161585335946940363823862420842936001477396119616543100490848071741199634572985903054714745059044398891797504 [7, 11, 17, 25] 546 2673029100210070306557518924476236428084097878830617052600192248782289742117063490145303733842869052452014265118747322223101819432515100538437988774089401097373343952198262594118086276246224507329556934835562576256400191444289960331510373574288014535844573715121835101552393890727490770756040098188383127450983709809977628884856323967693354193102206511500361700455285012773718943170353284234679451177733358918435251274375404009104659008142255119784307084749762046649232187867461301311646259575355435097792022990623877437083041858558604931953046994289798055233443355738927055449680481017276281027713309224926549423630920149954871729269178575057558254514533393033302959621373207369672334666790320872288404923193893555888706382303111683247104 [11, 17, 21, 27] P ρ τ t n u := by refine Pb_elim fun b P => ?_; intros; cases b <;> exact ⟨⟨by kernel_rfl, by kernel_rfl⟩, ⟨by kernel_rfl, by kernel_rfl⟩⟩
theorem kP24 : ∀ (P : Params) (ρ τ t : Nat → Nat) (n u : Nat), KB [40, 40, 41, 41, 40, 40, 41, 41] 546 2673029100210070306557518924474392389807559149523840815006248127068283235798038835905700563017091070077519121303644950197390865695138063497344192727397563636206904451936360286659081530407338019561967024994376301796080597993583624879709151113460698499713664246687905610284005740624960497463980530894552461992398644179928303924393556560206089694023803017457817649899958942878768188197946778885855138456970223657752907650633999332307486309774177552769869900742215417965833470086263322318217392482498528011525157460409827969788030832371796870138110692422714195926708299257072655432879361259845836781867376331061259708746539379861110794501977099823002402164742500145226638996271843980687747185361024916540865821205261684483463143614945826966528 [7, 11, 19, 23] 546 2673029100210070306557518924476236428084097878830617052600192248782289742117063490145303733842869052452014265118747323150083579751507281699372592349243755457601737290801643139236035379272700100826981769930545076564945887785917827761765074359283359562088327455794949185107848952761203109915567647774205963123868795630503710462894362809556352526511584540170697271595969100705980014906725495089436182842721525273379566119810704159800737088171553427458891611669068519896504079528604042189245199087205149738126711612919181069676371068807533664471919121050058928894083153986278668804511915647495469809993082612131724615656153223499003076882976264526410195571993159648637147675082566448247996882529672649186786691473740003084948712634195043683328 [11, 15, 23, 27] P ρ τ t n u ∧ KB [40, 40, 41, 41, 40, 41, 40, 41] 546 2673029100210070306557518924474392389807559149523840815006248127068283235798038835905700563017092164464417911781533795040797923275240488569662357907000430254299739717261589924160852135337111663438084901809143926738671573467012004338391351745919202684364665982156746932093760485448830230536885046152765742195148191290397665766604683511779441369847375269305641287054789544770893435872238000904967510303298405095180384504234022643162784211017918811678046952027059185429820825304306243531861357711182639669933651761839825590476382181947027106355226539321244237254639705074998186663026873649737719914334351832711294311219727509799672204428896499432458921158333847324304203886739866333392654011489931834862639043921610060400974151037839914044416 [7, 11, 19, 25] 546 2673029100210070306557518924476236428084097878830617052600192248782289742117063490145303733842869052452014265118747322223101819432515100538437988774089401097373343952198262594118086276246224507329556934835562576256400191444289960331510373574288014535844573715121835101552117340894688098478562229347350159054963262901002265809572136347640948566647988967230462213476910560248346034452345682336740069337181383406346400705792102125398912696455941302169875876009660595563239625282144775024852118978871872869019152910809165598342542224615820581937431829780724141327896202347900784674876977825963854158345516254074048271044477338365195470557937832838874353562476738475967003367623775106704430561615034488377254541788963880068478492322249172847616 [11, 15, 21, 27] P ρ τ t n u := by refine Pb_elim fun b P => ?_; intros; cases b <;> exact ⟨⟨by kernel_rfl, by kernel_rfl⟩, ⟨by kernel_rfl, by kernel_rfl⟩⟩
theorem kP25 : ∀ (P : Params) (ρ τ t : Nat → Nat) (n u : Nat), KB [40, 41, 40, 40, 40, 41, 41, 41] 546 2673029100210070306557518924474392389807559149523840815006248127068283235798038835905700563017091070077519121303644950197390865695138063497344192727397563636206903802447301690599384692724749215195846062048007842349875222401708668812967898097616003184772843140060954125279582391650320462986799954948259905467063203450935397479439086314126098986298810016917904259192154286998290680909624490101113625979351272687025002493357988067490599644992157328590278104135405218488918448032445840805225653383237644395229022612816408394864799916773147646829708676267175787339400784844659076075552841663360373483218706276967985028155816383159828923981647335535023057780918442351190208612620708011469019134286120950914645060610422073031121490288878151535616 [7, 13, 17, 21] 546 2673029100210070306557518924476236428084097878830617052600192248782289742117063490145303733842869052452014265118747323150083579751507281699372592349243755457601737290801643139236035379272700100826981769931011062111393979732537287832539502166138769171836583771971812627446653455465034370029458468487476173729485758478866818732400812030328481434186239952977994508026693137036628611766822988478189800660880426091871471649026742427890291694122312307101310813001350798235156238508663151401386212614543237135784859470366722788386471711836305738944421794429316787422372688942914049418510112085701208402178993173891761901361145069897624581011150608358076200687527759621121952629467915454032817404809638150744301530387502957632119249849294410222592 [9, 19, 23, 27] P ρ τ t n u ∧ KB [40, 41, 40, 40, 41, 40, 41, 41] 546 2673029100210070306557518924474392389807559149523840815006248127068283235798038835905700563017091070077519121303644950197390865695138063497344192727397563636206904451936360286659081530407338019561967024994376301796080597993583624879709151113460698499387171831370269629874664661866617380838221449958508597331450513295044180772933210476912273228338789741290192955425054170831432181320920168897320570009496689922891340375198648743014622541930012721797201371474653645624675203410383909169858984029485676307325623415352354224542258489312339268933923519675758202713197677849947447444295092565768385564322623221891410526766917268898468897263815762257908234930547926296666309587640258708213215140296378755457698695406983159272949984641849551227904 [7, 13, 17, 23] 546 2673029100210070306557518924476236428084097878830617052600192248782289742117063490145303733842869052452014265118747323150083579751507281699372592349243755457601737290801643139236035379272700100826981769930545076564945887785917827761765074359283359562088327455794949185108125502594005782193045516615238931519889242539479073538178550429608758152965802084440596758574343553231352923624733096987375564683273500785468416688394005961002368111906760279441038185815576990874054950190048781402156135118577014757512486153698721170528310564415329988964609902721405798492711865462625224923500885305394350752953325472583313644967897894648415574848355142697495666162171355740319499254602753218849975197258981872463789034111717862800461533421147947797504 [9, 17, 23, 27] P ρ τ t n u := by refine Pb_elim fun b P => ?_; intros; cases b <;> exact ⟨⟨by kernel_rfl, by kernel_rfl⟩, ⟨by kernel_rfl, by kernel_rfl⟩⟩
theorem kP26 : ∀ (P : Params) (ρ τ t : Nat → Nat) (n u : Nat), KB [40, 41, 40, 40, 41, 41, 40, 41] 546 2673029100210070306557518924474392389807559149523840815006248127068283235798038835905700563017092164464417911781533795040797923275240488569662357907000430254299739717261589924160852135337111663438084901809143926738671573467012004338391351745919202684038173566839110951684419406690487113911125965216721877534200060405513542615144337428485624904162361993138016592579884772723557428995211390916432941855824871360318817228798672053869920443173753980705378422759497413088662558628426830383502949258169787965734117716782351845230609838887569505151039366574288244041129083667872978674442604955660268696789598723541445129240105398837030307190735161867364753924139273475743874478108281060918121966425285673779471918123331535190460992064743638305792 [7, 13, 17, 25] 546 2673029100210070306557518924476236428084097878830617052600192248782289742117063490145303733842869052452014265118747322223101819432515100538437988774089401097373343952198262594118086276246224507329556934835562576256400191444289960331510373574288014535844573715121835101552393890727490770756040098188383127450983709809977628884856323967693354193102206511500361700455285012773718943170353284234679451177733358918435251274375403926600543720191148154152022450156169066540790495943589514237763055010243737888404927451588705699194481720223616906430122611452071010926524913824247340793865947483862735101305759114525637300356222009514607968523316711009959824152654934567649354947143961877306408876344343711654256884426941739783991313109202076961792 [9, 17, 21, 27] P ρ τ t n u ∧ KB [40, 41, 40, 41, 40, 40, 41, 41] 546 2673029100210070306557518924474392389807559149523840815006248127068283235798038835905700563017091070077519121303644950197390865695138063497344192727397563636206904451936360286659081530407338019561967024994376301796080597993583624879709151113460698499713664246687905610284005740624960497463980530894552461992398644179928303924393556560206089694023803017457817649899958942878768188197946778885855138456970321061420091308982739254379457963635047558379923023620584260425378583737622187896817493142024825848434178503056658204012183638097525910059265978111698417446139153734395013243537965410963636413696424521404326368394635559075945105531126925743426792265019352778034511996984005425062768660938238849120703166342690164959179076635290573474816 [7, 13, 19, 23] 546 2673029100210070306557518924476236428084097878830617052600192248782289742117063490145303733842869052452014265118747323150083579751507281699372592349243755457601737290801643139236035379272700100826981769930545076564945887785917827761765074359283359562088327455794949185107848952761203109915567647774205963123868795630503710462894362809556352526511584540170697271595969100705980014906725495089436182842721525273379566119810704077296621800220446461826606977075475539788062387604732255115361994522093452528739616073884009331787810930472545638948994738212331884587164712071598954148697382114081923883585532501730812492381455083058739316137114400478811765210114701182983543000853320955882071092083695488552638652706788186980233643440285437398016 [9, 15, 23, 27] P ρ τ t n u := by refine Pb_elim fun b P => ?_; intros; cases b <;> exact ⟨⟨by kernel_rfl, by kernel_rfl⟩, ⟨by kernel_rfl, by kernel_rfl⟩⟩
theorem kP27 : ∀ (P : Params) (ρ τ t : Nat → Nat) (n u : Nat), KB [40, 41, 40, 41, 40, 41, 40, 41] 546 2673029100210070306557518924474392389807559149523840815006248127068283235798038835905700563017092164464417911781533795040797923275240488569662357907000430254299739717261589924160852135337111663438084901809143926738671573467012004338391351745919202684364665982156746932093760485448830230536885046152765742195148191290397665766604683511779441369847375269305641287054789544770893435872238000904967510303298502498847568162582762565234755864878788817288100074905428027889365938955665109110461458370708937506842672804486655824700534987672756146276381825010228458774070559552320544473685477800855519546163400023054360970867823689014506515458046325352883311258610699957112076887452027777767675487067145767442476389059038540876690084058184660552704 [7, 13, 19, 25] 546 2673029100210070306557518924476236428084097878830617052600192248782289742117063490145303733842869052452014265118747322223101819432515100538437988774089401097373343952198262594118086276246224507329556934835562576256400191444289960331510373574288014535844573715121835101552117340894688098478562229347350159054963262901002265809572136347640948566647988967230462213476910560248346034452345682336740069337181383406346400705792102042894797408504834336537591241416067615454797933358272987950968914413760175659632057371773993860453982086280832556414507446942997097020977760433221070019062444292550308231937966143673136147769779197924931709812075968791275923200598280010313398693394529614338504771169057327743106503022012063963763423128339566562304 [9, 15, 21, 27] P ρ τ t n u := by refine Pb_elim fun b P => ?_; intros; cases b <;> exact ⟨by kernel_rfl, by kernel_rfl⟩
theorem call1n {w : World} {A : Around} {Q : Value → Shared → Prop} {E : Value → Shared → Prop} {H : Nat → Hk} {s : Shared} (h n orc j : Nat) (t : Addr → Sem Value) (a : Addr) (oa : Obj) (out : (Nat → Nat) → (Nat → Nat) → Obj)
    (X : TopK w.params fun b => s.heap.get? b) (hh : A.handled = none) (h2 : 200 ≤ h) (hd : A.depth + 100 + h < recursionLimit) (hl : ∀ n, HLoc (H n)) (hk : ∀ n, HOkH pw w ⟨fun b => s.heap.get? b, AllBare, s.os⟩ 1 h (H n)) (hg : AllBare s.gens) (ha : s.heap.get? a = some oa) (hj : 1 ≤ j)
    (hrun : ∀ ρ τ, (runE (GH h w.params 1 H) ρ τ n (.top (t (ρ 0))) (mkT [oa]) 1 0 orc [] []).said [j] = (some (.ref (ρ j)), (runE (GH h w.params 1 H) ρ τ n (.top (t (ρ 0))) (mkT [oa]) 1 0 orc [] []).owed, [], [some (out ρ τ)]))
    (hQ : ∀ ρ τ c s', More s s' → s.heap.get? c = none → s'.heap.get? c = some (out ρ τ) → Q (.ref c) s') : wpAny (model pw w) A (t a) Q E s := by
  refine engH (B := ⟨fun b => s.heap.get? b, AllBare, s.os⟩) h 1 n [a] (fun ρ => t (ρ 0)) (fun _ => [oa]) orc [j] (fun ρ _ => .ref (ρ j)) (fun _ _ => []) (fun ρ τ => [some (out ρ τ)]) X hh h2 hd hl hk ?_ (fun ρ' aρ => ?_) (fun _ _ => rfl) hrun (fun ρ τ _ => trivial) fun ρ τ T m s' aρ R e => ?_
  · refine Rep.make (B := ⟨fun b => s.heap.get? b, AllBare, s.os⟩) 1 _ [oa] (fun _ _ e => e) hg rfl (fun i o e => ?_) (fun i h1 hi => ?_) (fun i j h1 hi _ _ => ?_)
    · match i, e with
      | 0, e => cases e; exact ha
      | i + 1, e => cases e
    · simp at hi; omega
    · simp at hi; omega
  · show t (ρ' 0) = t (adr [a] 0)
    rw [aρ 0 (by simp)]
  · have g0 : T.get j = some (out ρ τ) := by simpa using e
    exact hQ ρ τ _ s' ⟨R.keep, R.gens, R.os⟩ (R.new j _ hj g0) (R.own j _ g0).2
theorem cod_rowF (l : List Nat) (t : Nat → Nat) (n : Nat) : (valsOf (rowF l t n)).map codeV = l := by
  show (rowV l t).map codeV = l
  unfold rowV
  rw [List.map_map]
  have : (codeV ∘ fun p : Nat × Nat => Value.str ⟨#[p.1]⟩ (t p.2)) = fun p => p.1 := rfl
  rw [this]
  apply List.ext_getElem?
  intro i
  simp only [List.getElem?_map, List.getElem?_zipIdx]
  cases l[i]? <;> rfl
theorem kp_use {w : World} {A : Around} {Q : Value → Shared → Prop} {s : Shared} {a : Addr} {l : List Nat} {sg N orc : Nat} {tk : List Nat} (k : KP l sg N orc tk) {t : Nat → Nat} {n u : Nat} (hh : A.handled = none) (hd : A.depth + 300 < recursionLimit) (X : TopK w.params fun b => s.heap.get? b) (hg : AllBare s.gens) (ha : s.heap.get? a = some (rowF l t n))
    (hQ : ∀ t' c s', More s s' → s.heap.get? c = none → s'.heap.get? c = some (lstO (kdL ((plc ((valsOf (rowF l t n)).map codeV) ((⟨#[sg]⟩ : Str).cps.toList.headD 0) 1).map Kd.int) t') (plc ((valsOf (rowF l t n)).map codeV) ((⟨#[sg]⟩ : Str).cps.toList.headD 0) 1).length) → Q (.ref c) s') : wpAny (model pw w) A (call (.ref 62) [.ref a, .str ⟨#[sg]⟩ u]) Q (fun _ _ => False) s := by
  have hd' : A.depth + 100 + 200 < recursionLimit := by omega
  rw [cod_rowF] at hQ
  exact call1n 200 N orc 6 (fun a => call (.ref 62) [.ref a, .str ⟨#[sg]⟩ u]) a _ _ X hh (Nat.le_refl _) hd' noH_loc (noH_ok w _ 1) hg ha (by decide) (fun ρ τ => k w.params ρ τ t n u) fun ρ τ c s' hm hc hc' => hQ _ c s' hm hc hc'
noncomputable def KPa (l : List Nat) : Prop := ∃ N orc tk N' orc' tk', ∀ (P : Params) (ρ τ t : Nat → Nat) (n u : Nat), KB l N orc tk N' orc' tk' P ρ τ t n u
theorem all_cons {p : List Nat → Prop} {a : List Nat} {l : List (List Nat)} (h : p a) (t : ∀ x ∈ l, p x) : ∀ x ∈ a :: l, p x := fun x hx => by
  cases hx with
  | head => exact h
  | tail _ hx => exact t x hx
theorem rowsT : ∀ l ∈ rowsL, KPa l :=
  all_cons (p := KPa) ⟨_, _, _, _, _, _, fun P ρ τ t n u => (kP0 P ρ τ t n u).1⟩ <|
  all_cons (p := KPa) ⟨_, _, _, _, _, _, fun P ρ τ t n u => (kP0 P ρ τ t n u).2.1⟩ <|
  all_cons (p := KPa) ⟨_, _, _, _, _, _, fun P ρ τ t n u => (kP0 P ρ τ t n u).2.2.1⟩ <|
  all_cons (p := KPa) ⟨_, _, _, _, _, _, fun P ρ τ t n u => (kP0 P ρ τ t n u).2.2.2.1⟩ <|
  all_cons (p := KPa) ⟨_, _, _, _, _, _, fun P ρ τ t n u => (kP0 P ρ τ t n u).2.2.2.2⟩ <|
  all_cons (p := KPa) ⟨_, _, _, _, _, _, fun P ρ τ t n u => (kP1 P ρ τ t n u).1⟩ <|
  all_cons (p := KPa) ⟨_, _, _, _, _, _, fun P ρ τ t n u => (kP1 P ρ τ t n u).2.1⟩ <|
  all_cons (p := KPa) ⟨_, _, _, _, _, _, fun P ρ τ t n u => (kP1 P ρ τ t n u).2.2.1⟩ <|
  all_cons (p := KPa) ⟨_, _, _, _, _, _, fun P ρ τ t n u => (kP1 P ρ τ t n u).2.2.2⟩ <|
  all_cons (p := KPa) ⟨_, _, _, _, _, _, fun P ρ τ t n u => (kP2 P ρ τ t n u).1⟩ <|
  all_cons (p := KPa) ⟨_, _, _, _, _, _, fun P ρ τ t n u => (kP2 P ρ τ t n u).2.1⟩ <|
  all_cons (p := KPa) ⟨_, _, _, _, _, _, fun P ρ τ t n u => (kP2 P ρ τ t n u).2.2⟩ <|
  all_cons (p := KPa) ⟨_, _, _, _, _, _, fun P ρ τ t n u => (kP3 P ρ τ t n u).1⟩ <|
  all_cons (p := KPa) ⟨_, _, _, _, _, _, fun P ρ τ t n u => (kP3 P ρ τ t n u).2.1⟩ <|
  all_cons (p := KPa) ⟨_, _, _, _, _, _, fun P ρ τ t n u => (kP3 P ρ τ t n u).2.2⟩ <|
  all_cons (p := KPa) ⟨_, _, _, _, _, _, fun P ρ τ t n u => (kP4 P ρ τ t n u).1⟩ <|
  all_cons (p := KPa) ⟨_, _, _, _, _, _, fun P ρ τ t n u => (kP4 P ρ τ t n u).2.1⟩ <|
  all_cons (p := KPa) ⟨_, _, _, _, _, _, fun P ρ τ t n u => (kP4 P ρ τ t n u).2.2⟩ <|
  all_cons (p := KPa) ⟨_, _, _, _, _, _, fun P ρ τ t n u => (kP5 P ρ τ t n u).1⟩ <|
  all_cons (p := KPa) ⟨_, _, _, _, _, _, fun P ρ τ t n u => (kP5 P ρ τ t n u).2.1⟩ <|
  all_cons (p := KPa) ⟨_, _, _, _, _, _, fun P ρ τ t n u => (kP5 P ρ τ t n u).2.2⟩ <|
  all_cons (p := KPa) ⟨_, _, _, _, _, _, fun P ρ τ t n u => (kP6 P ρ τ t n u).1⟩ <|
  all_cons (p := KPa) ⟨_, _, _, _, _, _, fun P ρ τ t n u => (kP6 P ρ τ t n u).2⟩ <|
  all_cons (p := KPa) ⟨_, _, _, _, _, _, fun P ρ τ t n u => (kP7 P ρ τ t n u).1⟩ <|
  all_cons (p := KPa) ⟨_, _, _, _, _, _, fun P ρ τ t n u => (kP7 P ρ τ t n u).2⟩ <|
  all_cons (p := KPa) ⟨_, _, _, _, _, _, fun P ρ τ t n u => (kP8 P ρ τ t n u).1⟩ <|
  all_cons (p := KPa) ⟨_, _, _, _, _, _, fun P ρ τ t n u => (kP8 P ρ τ t n u).2⟩ <|
  all_cons (p := KPa) ⟨_, _, _, _, _, _, fun P ρ τ t n u => (kP9 P ρ τ t n u).1⟩ <|
  all_cons (p := KPa) ⟨_, _, _, _, _, _, fun P ρ τ t n u => (kP9 P ρ τ t n u).2⟩ <|
  all_cons (p := KPa) ⟨_, _, _, _, _, _, fun P ρ τ t n u => (kP10 P ρ τ t n u).1⟩ <|
  all_cons (p := KPa) ⟨_, _, _, _, _, _, fun P ρ τ t n u => (kP10 P ρ τ t n u).2⟩ <|
  all_cons (p := KPa) ⟨_, _, _, _, _, _, fun P ρ τ t n u => (kP11 P ρ τ t n u).1⟩ <|
  all_cons (p := KPa) ⟨_, _, _, _, _, _, fun P ρ τ t n u => (kP11 P ρ τ t n u).2⟩ <|
  all_cons (p := KPa) ⟨_, _, _, _, _, _, fun P ρ τ t n u => (kP12 P ρ τ t n u).1⟩ <|
  all_cons (p := KPa) ⟨_, _, _, _, _, _, fun P ρ τ t n u => (kP12 P ρ τ t n u).2⟩ <|
  all_cons (p := KPa) ⟨_, _, _, _, _, _, fun P ρ τ t n u => (kP13 P ρ τ t n u).1⟩ <|
  all_cons (p := KPa) ⟨_, _, _, _, _, _, fun P ρ τ t n u => (kP13 P ρ τ t n u).2⟩ <|
  all_cons (p := KPa) ⟨_, _, _, _, _, _, fun P ρ τ t n u => (kP14 P ρ τ t n u).1⟩ <|
  all_cons (p := KPa) ⟨_, _, _, _, _, _, fun P ρ τ t n u => (kP14 P ρ τ t n u).2⟩ <|
  all_cons (p := KPa) ⟨_, _, _, _, _, _, fun P ρ τ t n u => (kP15 P ρ τ t n u).1⟩ <|
  all_cons (p := KPa) ⟨_, _, _, _, _, _, fun P ρ τ t n u => (kP15 P ρ τ t n u).2⟩ <|
  all_cons (p := KPa) ⟨_, _, _, _, _, _, fun P ρ τ t n u => (kP16 P ρ τ t n u).1⟩ <|
  all_cons (p := KPa) ⟨_, _, _, _, _, _, fun P ρ τ t n u => (kP16 P ρ τ t n u).2⟩ <|
  all_cons (p := KPa) ⟨_, _, _, _, _, _, fun P ρ τ t n u => (kP17 P ρ τ t n u).1⟩ <|
  all_cons (p := KPa) ⟨_, _, _, _, _, _, fun P ρ τ t n u => (kP17 P ρ τ t n u).2⟩ <|
  all_cons (p := KPa) ⟨_, _, _, _, _, _, fun P ρ τ t n u => (kP18 P ρ τ t n u).1⟩ <|
  all_cons (p := KPa) ⟨_, _, _, _, _, _, fun P ρ τ t n u => (kP18 P ρ τ t n u).2⟩ <|
  all_cons (p := KPa) ⟨_, _, _, _, _, _, fun P ρ τ t n u => (kP19 P ρ τ t n u).1⟩ <|
  all_cons (p := KPa) ⟨_, _, _, _, _, _, fun P ρ τ t n u => (kP19 P ρ τ t n u).2⟩ <|
  all_cons (p := KPa) ⟨_, _, _, _, _, _, fun P ρ τ t n u => (kP20 P ρ τ t n u).1⟩ <|
  all_cons (p := KPa) ⟨_, _, _, _, _, _, fun P ρ τ t n u => (kP20 P ρ τ t n u).2⟩ <|
  all_cons (p := KPa) ⟨_, _, _, _, _, _, fun P ρ τ t n u => (kP21 P ρ τ t n u).1⟩ <|
  all_cons (p := KPa) ⟨_, _, _, _, _, _, fun P ρ τ t n u => (kP21 P ρ τ t n u).2⟩ <|
  all_cons (p := KPa) ⟨_, _, _, _, _, _, fun P ρ τ t n u => (kP22 P ρ τ t n u).1⟩ <|
  all_cons (p := KPa) ⟨_, _, _, _, _, _, fun P ρ τ t n u => (kP22 P ρ τ t n u).2⟩ <|
  all_cons (p := KPa) ⟨_, _, _, _, _, _, fun P ρ τ t n u => (kP23 P ρ τ t n u).1⟩ <|
  all_cons (p := KPa) ⟨_, _, _, _, _, _, fun P ρ τ t n u => (kP23 P ρ τ t n u).2⟩ <|
  all_cons (p := KPa) ⟨_, _, _, _, _, _, fun P ρ τ t n u => (kP24 P ρ τ t n u).1⟩ <|
  all_cons (p := KPa) ⟨_, _, _, _, _, _, fun P ρ τ t n u => (kP24 P ρ τ t n u).2⟩ <|
  all_cons (p := KPa) ⟨_, _, _, _, _, _, fun P ρ τ t n u => (kP25 P ρ τ t n u).1⟩ <|
  all_cons (p := KPa) ⟨_, _, _, _, _, _, fun P ρ τ t n u => (kP25 P ρ τ t n u).2⟩ <|
  all_cons (p := KPa) ⟨_, _, _, _, _, _, fun P ρ τ t n u => (kP26 P ρ τ t n u).1⟩ <|
  all_cons (p := KPa) ⟨_, _, _, _, _, _, fun P ρ τ t n u => (kP26 P ρ τ t n u).2⟩ <|
  all_cons (p := KPa) ⟨_, _, _, _, _, _, fun P ρ τ t n u => (kP27 P ρ τ t n u)⟩ <|
  fun x hx => nomatch hx
theorem places_law (w : World) : NLaw w 300 62 placesF := by
  intro oa args ks n' p e hp A Q s a hh hd X hg ha hQ
  unfold placesF at e
  split at e
  rotate_left
  · cases e
  rename_i sg ts
  cases e
  obtain ⟨l, t, n, hl, rfl, hsg⟩ := hp
  obtain ⟨_, _, _, _, _, _, k⟩ := rowsT l hl
  rcases hsg with rfl | rfl
  · exact kp_use (fun P ρ τ t n u => (k P ρ τ t n u).1) hh hd X hg ha hQ
  · exact kp_use (fun P ρ τ t n u => (k P ρ τ t n u).2) hh hd X hg ha hQ
/-! ## A list copied -/
noncomputable def lPre : Pre NR := fun c T m orc => (asT c).bind fun q => (one q.2).bind fun a => (getO T m (orc % 1024)).bind fun o => (seqOf o).bind fun vs =>
  some { k := { nt := 1, no := 1, os := fun _ t => [lstO vs (t 0)], v := fun ρ => .ref (ρ 0) }, p := vs.length ≤ 1000, fx := [(.type q.1, .type "list"), (o.cls, .type "list")], rf := [(a, orc % 1024)], orc := orc / 1024 }
noncomputable def lHk : Hk := mHk lPre
theorem lPre_loc : MLoc lPre := fun c T m orc x h => by
  obtain ⟨q, e1, h⟩ := obind h
  obtain ⟨z, e2, h⟩ := obind h
  obtain ⟨o, e3, h⟩ := obind h
  obtain ⟨vs, e4, h⟩ := obind h
  cases h
  exact ⟨⟨getO_lt e3, trivial⟩, fun _ _ => rfl, fun _ _ _ _ _ b => congrArg (fun n => [lstO vs n]) (b 0 Nat.zero_lt_one), fun _ _ a => congrArg Value.ref (a 0 Nat.zero_lt_one)⟩
theorem lHk_loc : HLoc lHk := mHk_loc lPre_loc
theorem lHk_ok (w : World) (B : Bs) (r : Nat) : HOk pw w B r lHk := mHk_ok lPre_loc fun c T m orc x h hp hf ρ s A Q hr hR hh hd hQ => by
  obtain ⟨q, e1, h⟩ := obind h
  obtain ⟨z, e2, h⟩ := obind h
  obtain ⟨o, e3, h⟩ := obind h
  obtain ⟨vs, e4, h⟩ := obind h
  cases h
  have hn : q.1 = "list" := Value.type.inj hf.1
  have hc : o.cls = .type "list" := hf.2.1
  have ha : z = ρ (orc % 1024) := hr.1
  have e := asT_inv e1
  rw [hn, one_inv e2, ha] at e
  subst e
  obtain ⟨d, k, sl, ho⟩ := seqOf_inv e4
  have hsz : (⟨vs⟩ : Array Value).size ≤ sizeLine := Nat.le_trans (show vs.length ≤ 1000 from hp) (by decide)
  have hg := (hR.own _ _ (getO_inv e3).2).2
  rw [ho, hc] at hg
  refine call_list_seq (hsz := hsz) _ (.inl rfl) hg rfl rfl fun h' c' hkeep hnew => hQ (fun _ => s.heap.objs.size) (fun _ => c') { s with heap := h' } hkeep hR.gens rfl (fun _ _ => ?_) (fun j j' h h' _ => (Nat.lt_one_iff.mp h).trans (Nat.lt_one_iff.mp h').symm) fun j o h => ?_
  · cases q : s.heap.get? s.heap.objs.size with
    | none => rfl
    | some x => exact absurd (Heap.lt_size q) (Nat.lt_irrefl _)
  · cases j with
    | zero => cases h; exact hnew
    | succ j => cases h
noncomputable def hkW : Nat → Hk
  | 0 => lHk
  | 1 => pHk "int.__lt__" (cmpF fun a b => decide (a < b))
  | _ + 2 => noHk
theorem hkW_loc : ∀ n, HLoc (hkW n)
  | 0 => lHk_loc
  | 1 => pHk_loc _ _
  | _ + 2 => noHk_loc
theorem hkW_ok (w : World) (B : Bs) (r : Nat) : ∀ n, HOk pw w B r (hkW n)
  | 0 => lHk_ok w B r
  | 1 => pHk_ok (lt_law w) B r
  | _ + 2 => noHk_ok pw w B r
/-! ## A call on two objects, a pair of new lists back -/
noncomputable def sPre (fa : Addr) (f : Obj → Obj → List Kd × List Kd × Prop) : Pre NR := fun c T m orc => (asR c).bind fun q => (two q.2).bind fun z => (getO T m (orc % 1024)).bind fun oa => (getO T m (orc / 1024 % 1024)).bind fun ob => match f oa ob with
  | (ks1, ks2, p) => some { k := { nt := ks1.length + ks2.length, no := 3, os := fun ρ t => [lstO (kdL ks1 t) ks1.length, lstO (kdL ks2 fun q => t (ks1.length + q)) ks2.length, tupO [.ref (ρ 0), .ref (ρ 1)]], v := fun ρ => .ref (ρ 2) }, p := p, fx := [(.ref q.1, .ref fa)], rf := [(z.1, orc % 1024), (z.2, orc / 1024 % 1024)], orc := orc / 1024 / 1024 }
noncomputable def sHk (fa : Addr) (f : Obj → Obj → List Kd × List Kd × Prop) : Hk := mHk (sPre fa f)
theorem sPre_loc (fa : Addr) (f : Obj → Obj → List Kd × List Kd × Prop) : MLoc (sPre fa f) := fun c T m orc x h => by
  obtain ⟨q, e1, h⟩ := obind h
  obtain ⟨z, e2, h⟩ := obind h
  obtain ⟨oa, e3, h⟩ := obind h
  obtain ⟨ob, e4, h⟩ := obind h
  cases h
  refine ⟨⟨getO_lt e3, getO_lt e4, trivial⟩, fun _ _ => rfl, fun ρ ρ' τ τ' a b => ?_, fun _ _ a => congrArg Value.ref (a 2 (Nat.lt_succ_self 2))⟩
  have k1 := kdL_congr (t := τ) (t' := τ') (f oa ob).1 fun q hq => b q (Nat.lt_of_lt_of_le hq (Nat.le_add_right _ _))
  have k2 := kdL_congr (t := fun q => τ ((f oa ob).1.length + q)) (t' := fun q => τ' ((f oa ob).1.length + q)) (f oa ob).2.1 fun q hq => b _ (Nat.add_lt_add_left hq _)
  have a0 := a 0 (Nat.succ_pos 2)
  have a1 := a 1 (Nat.succ_lt_succ (Nat.succ_pos 1))
  show [lstO (kdL (f oa ob).1 τ') _, lstO (kdL (f oa ob).2.1 fun q => τ' _) _, tupO [.ref (ρ' 0), .ref (ρ' 1)]] = [lstO (kdL (f oa ob).1 τ) _, lstO (kdL (f oa ob).2.1 fun q => τ _) _, tupO [.ref (ρ 0), .ref (ρ 1)]]
  rw [k1, k2, a0, a1]
theorem sHk_loc (fa : Addr) (f : Obj → Obj → List Kd × List Kd × Prop) : HLoc (sHk fa f) := mHk_loc (sPre_loc fa f)
noncomputable def sel3 (c1 c2 c3 : Nat) : Nat → Nat
  | 0 => c1
  | 1 => c2
  | _ => c3
theorem sel3_inj {c1 c2 c3 : Nat} (n12 : c1 ≠ c2) (n13 : c1 ≠ c3) (n23 : c2 ≠ c3) : ∀ j j', j < 3 → j' < 3 → sel3 c1 c2 c3 j = sel3 c1 c2 c3 j' → j = j'
  | 0, 0, _, _, _ => rfl
  | 0, 1, _, _, h => absurd h n12
  | 0, 2, _, _, h => absurd h n13
  | 1, 0, _, _, h => absurd h.symm n12
  | 1, 1, _, _, _ => rfl
  | 1, 2, _, _, h => absurd h n23
  | 2, 0, _, _, h => absurd h.symm n13
  | 2, 1, _, _, h => absurd h.symm n23
  | 2, 2, _, _, _ => rfl
  | n + 3, _, h, _, _ => absurd h (Nat.not_lt.mpr (Nat.le_add_left 3 n))
  | _, n + 3, _, h, _ => absurd h (Nat.not_lt.mpr (Nat.le_add_left 3 n))
noncomputable def SLaw (w : World) (room : Nat) (fa : Addr) (f : Obj → Obj → List Kd × List Kd × Prop) : Prop :=
  ∀ oa ob ks1 ks2 p, f oa ob = (ks1, ks2, p) → p → ∀ (A : Around) (Q : Value → Shared → Prop) (s : Shared) (a b : Addr), A.handled = none → A.depth + room < recursionLimit → TopK w.params (fun b => s.heap.get? b) → AllBare s.gens →
    s.heap.get? a = some oa → s.heap.get? b = some ob →
    (∀ t1 t2 c1 c2 c3 s', More s s' → s.heap.get? c1 = none → s.heap.get? c2 = none → s.heap.get? c3 = none → c1 ≠ c2 → c1 ≠ c3 → c2 ≠ c3 →
      s'.heap.get? c1 = some (lstO (kdL ks1 t1) ks1.length) → s'.heap.get? c2 = some (lstO (kdL ks2 t2) ks2.length) → s'.heap.get? c3 = some (tupO [.ref c1, .ref c2]) → Q (.ref c3) s') → wpAny (model pw w) A (call (.ref fa) [.ref a, .ref b]) Q (fun _ _ => False) s
theorem sHk_ok {w : World} {room fa : Nat} {f : Obj → Obj → List Kd × List Kd × Prop} (L : SLaw w room fa f) {K : Addr → Option Obj} (x : TopK w.params K) (os : OsState) (r : Nat) : HOkH pw w ⟨K, AllBare, os⟩ r room (sHk fa f) := mHk_ok (sPre_loc fa f) fun c T m orc y h hp hf ρ s A Q hr hR hh hd hQ => by
  obtain ⟨q, e1, h⟩ := obind h
  obtain ⟨z, e2, h⟩ := obind h
  obtain ⟨oa, e3, h⟩ := obind h
  obtain ⟨ob, e4, h⟩ := obind h
  cases h
  have hn : q.1 = fa := Value.ref.inj hf.1
  have ha : z.1 = ρ (orc % 1024) := hr.1
  have hb : z.2 = ρ (orc / 1024 % 1024) := hr.2.1
  have e := asR_inv e1
  rw [hn, two_inv e2, ha, hb] at e
  subst e
  refine L oa ob (f oa ob).1 (f oa ob).2.1 (f oa ob).2.2 rfl hp A Q s _ _ hh hd (x.mono fun b o e => hR.keep b o e) hR.gens (hR.own _ _ (getO_inv e3).2).2 (hR.own _ _ (getO_inv e4).2).2 fun t1 t2 c1 c2 c3 s' hs f1 f2 f3 n12 n13 n23 g1 g2 g3 => ?_
  refine hQ (sel3 c1 c2 c3) (fun j => if j < (f oa ob).1.length then t1 j else t2 (j - (f oa ob).1.length)) s' hs.old hs.bare hs.os (fun j _ => ?_) (sel3_inj n12 n13 n23) fun j o h => ?_
  · match j with
    | 0 => exact f1
    | 1 => exact f2
    | _ + 2 => exact f3
  · match j, h with
    | 0, h =>
      cases h
      refine g1.trans (congrArg some (congrArg (lstO · _) (kdL_congr _ fun q hq => (if_pos hq).symm)))
    | 1, h =>
      cases h
      refine g2.trans (congrArg some (congrArg (lstO · _) (kdL_congr _ fun q hq => ?_)))
      show t2 q = if (f oa ob).1.length + q < (f oa ob).1.length then _ else t2 ((f oa ob).1.length + q - (f oa ob).1.length)
      rw [if_neg (Nat.not_lt.mpr (Nat.le_add_right _ q)), Nat.add_sub_cancel_left]
    | 2, h =>
      cases h
      exact g3
    | _ + 3, h => cases h
/-! ## The slide: plain -/
noncomputable def sldK : List Int → List Int → Nat
  | _ :: u :: us, [] => sldK (u :: us) [] + 1
  | _ :: u :: us, w :: ws => match decide (u < w) with
    | true => sldK (u :: us) ws + 1
    | false => 0
  | _, _ => 0
noncomputable def sldUk (U W : List Int) (k : Nat) : List Int := (U.tail.take k ++ (W.drop k).take 1 ++ U.drop (k + 1)).map (· - 1)
noncomputable def sldWk (W : List Int) (k : Nat) : List Int := (W.take k ++ W.drop (k + 1)).map (· - 1)
noncomputable def sldU (U W : List Int) : List Int := sldUk U W (sldK U W)
noncomputable def sldW (U W : List Int) : List Int := sldWk W (sldK U W)
noncomputable def intV : Value → Int
  | .int z _ => z
  | _ => 0
noncomputable def intF (l : List (Int × Nat)) (n : Nat) : Obj := lstO (l.map fun p => .int p.1 p.2) n
noncomputable def SldP (oa ob : Obj) : Prop := ∃ U W n n', oa = intF U n ∧ ob = intF W n' ∧ 1 ≤ U.length ∧ U.length ≤ 4 ∧ W.length ≤ U.length
noncomputable def slideF : Obj → Obj → List Kd × List Kd × Prop := fun oa ob =>
  ((sldU ((valsOf oa).map intV) ((valsOf ob).map intV)).map Kd.int, (sldW ((valsOf oa).map intV) ((valsOf ob).map intV)).map Kd.int, SldP oa ob)
theorem call2p {w : World} {A : Around} {Q : Value → Shared → Prop} {E : Value → Shared → Prop} {H : Nat → Hk} {s : Shared} (h n orc j1 j2 j3 : Nat) (t : Addr → Addr → Sem Value) (a b : Addr) (oa ob : Obj) (o1 o2 : (Nat → Nat) → (Nat → Nat) → Obj) (ps : (Nat → Nat) → (Nat → Nat) → List Prop)
    (X : TopK w.params fun b => s.heap.get? b) (hh : A.handled = none) (h2 : 200 ≤ h) (hd : A.depth + 100 + h < recursionLimit) (hl : ∀ n, HLoc (H n)) (hk : ∀ n, HOkH pw w ⟨fun b => s.heap.get? b, AllBare, s.os⟩ 2 h (H n)) (hg : AllBare s.gens) (ha : s.heap.get? a = some oa) (hb : s.heap.get? b = some ob) (q1 : 2 ≤ j1) (q2 : 2 ≤ j2) (q3 : 2 ≤ j3) (n12 : j1 ≠ j2) (n13 : j1 ≠ j3) (n23 : j2 ≠ j3)
    (hrun : ∀ ρ τ, (runE (GH h w.params 2 H) ρ τ n (.top (t (ρ 0) (ρ 1))) (mkT [oa, ob]) 2 0 orc [] []).said [j1, j2, j3] = (some (.ref (ρ j3)), (runE (GH h w.params 2 H) ρ τ n (.top (t (ρ 0) (ρ 1))) (mkT [oa, ob]) 2 0 orc [] []).owed, ps ρ τ, [some (o1 ρ τ), some (o2 ρ τ), some (tupO [.ref (ρ j1), .ref (ρ j2)])]))
    (hp : ∀ ρ τ, AllP (ps ρ τ))
    (hQ : ∀ ρ τ c1 c2 c3 s', More s s' → s.heap.get? c1 = none → s.heap.get? c2 = none → s.heap.get? c3 = none → c1 ≠ c2 → c1 ≠ c3 → c2 ≠ c3 → s'.heap.get? c1 = some (o1 ρ τ) → s'.heap.get? c2 = some (o2 ρ τ) → s'.heap.get? c3 = some (tupO [.ref c1, .ref c2]) → Q (.ref c3) s') : wpAny (model pw w) A (t a b) Q E s := by
  refine engH (B := ⟨fun b => s.heap.get? b, AllBare, s.os⟩) h 2 n [a, b] (fun ρ => t (ρ 0) (ρ 1)) (fun _ => [oa, ob]) orc [j1, j2, j3] (fun ρ _ => .ref (ρ j3)) ps (fun ρ τ => [some (o1 ρ τ), some (o2 ρ τ), some (tupO [.ref (ρ j1), .ref (ρ j2)])]) X hh h2 hd hl hk ?_ (fun ρ' aρ => ?_) (fun _ _ => rfl) hrun (fun ρ τ _ => hp ρ τ) fun ρ τ T m s' aρ R e => ?_
  · refine Rep.make (B := ⟨fun b => s.heap.get? b, AllBare, s.os⟩) 2 _ [oa, ob] (fun _ _ e => e) hg rfl (fun i o e => ?_) (fun i h1 hi => ?_) (fun i j h1 hi _ _ => ?_)
    · match i, e with
      | 0, e => cases e; exact ha
      | 1, e => cases e; exact hb
      | i + 2, e => cases e
    · simp at hi; omega
    · simp at hi; omega
  · show t (ρ' 0) (ρ' 1) = t (adr [a, b] 0) (adr [a, b] 1)
    rw [aρ 0 (by simp), aρ 1 (by simp)]
  · simp only [List.map_cons, List.map_nil, List.cons.injEq, and_true] at e
    obtain ⟨e1, e2, e3⟩ := e
    exact hQ ρ τ _ _ _ s' ⟨R.keep, R.gens, R.os⟩ (R.new j1 _ q1 e1) (R.new j2 _ q2 e2) (R.new j3 _ q3 e3) (fun q => n12 (R.inj j1 j2 _ _ q1 e1 e2 q)) (fun q => n13 (R.inj j1 j3 _ _ q1 e1 e3 q)) (fun q => n23 (R.inj j2 j3 _ _ q2 e2 e3 q)) (R.own j1 _ e1).2 (R.own j2 _ e2).2 (R.own j3 _ e3).2
noncomputable def psW : List (Int × Nat) → List (Int × Nat) → Nat → List Prop → List Prop
  | _ :: u :: us, w :: ws, k + 1, acc => psW (u :: us) ws k ((decide (u.1 < w.1) = true) :: acc)
  | _ :: u :: _, w :: _, 0, acc => (decide (u.1 < w.1) = false) :: acc
  | _, _, _, acc => acc
noncomputable abbrev KW (nu nl k N orc j1 j2 j3 : Nat) (t1 t2 : List Nat) : Prop := ∀ (P : Params) (ρ τ : Nat → Nat) (U W : List (Int × Nat)) (n n' : Nat), U.length = nu → W.length = nl →
  Said (runE (GH 200 P 2 hkW) ρ τ N (.top (call (.ref 57) [.ref (ρ 0), .ref (ρ 1)])) (mkT [intF U n, intF W n']) 2 0 orc [] []) [j1, j2, j3] (.ref (ρ j3)) (psW U W k [(W.map fun p => Value.int p.1 p.2).length ≤ 1000, (U.map fun p => Value.int p.1 p.2).length ≤ 1000])
    [some (lstO (kdL ((sldUk (U.map (·.1)) (W.map (·.1)) k).map Kd.int) fun q => τ (t1.getD q 0)) (sldUk (U.map (·.1)) (W.map (·.1)) k).length), some (lstO (kdL ((sldWk (W.map (·.1)) k).map Kd.int) fun q => τ (t2.getD q 0)) (sldWk (W.map (·.1)) k).length), some (tupO [.ref (ρ j1), .ref (ρ j2)])]
theorem kW100 : KW 1 0 0 328 425125149801871410982039579460533248296220981763353626640397188529443546379807361516782619840435495481396323509310255588188876475600625809104188438678782979672005756140136745051494578391752496145058521286719881024057152568938450934715561866664752027947467408072439324911358912128115475604060871270082519837376649851521506420199947414310063854983366505844951462138951697653815843887402132582697984 12 17 21 [] [] := by refine Pb_elim fun b P => ?_; intro ρ τ U W n n' hu hw; obtain ⟨u0, rfl⟩ := len_1 hu; obtain rfl := List.eq_nil_of_length_eq_zero hw; cases b <;> kernel_rfl
theorem kW110 : KW 1 1 0 435 1947947678522729693613825601172722121980685387596473068163059004172502881814740211206561161335632258999848862588325471304367748655336957409116964536727312394513638744727140690997180055651212351270381505786068959008507383388253887151145837748298477551538537974064365614253104375240837330600473799189233305539158761861332886137394750545635596366265697089280998514457810869330685568270889166437247187704685599989878159464372066432756905068594820656189398817796167547437307430748871998071074073011412586550617762124254826875029144832870148977177465394977430614671373441698816 15 20 24 [19] [] := by refine Pb_elim fun b P => ?_; intro ρ τ U W n n' hu hw; obtain ⟨u0, rfl⟩ := len_1 hu; obtain ⟨w0, rfl⟩ := len_1 hw; cases b <;> kernel_rfl
theorem kW201 : KW 2 0 1 474 1849754572895792449575799416654888467517712760912511834038886580540805534940453948330789531026541469873305458158690221245658337533713065012771489498831274959769193599925801616308485403235673667483865267949253737980252046124873975058634817596996981650256497927994321719634520842741751267286826631150585914013710003135200151931288645886736304026572687961778246781472747800437505338446686175653288971824423165347352216261264723574742437949013320636705158307392769841204318498692049693310875134367697358316724886602611024053690118959034598706299321534956168570250279880617562893240503296 12 17 21 [28] [] := by refine Pb_elim fun b P => ?_; intro ρ τ U W n n' hu hw; obtain ⟨u0, u1, rfl⟩ := len_2 hu; obtain rfl := List.eq_nil_of_length_eq_zero hw; cases b <;> kernel_rfl
theorem kW210 : KW 2 1 0 530 5799296227950796028739837559142213551111315389297577404334462023860316334935073040707272652301459646890651958795509036692378128878446812031631911906550649095018599540169392846856879647258216149557952251746697772947729591668377763197847818427852890269939362678576675879659769044463838784551186518652323242268375372186628142931332534628400954441087672861610441228811372020313120427458431411264359081544359817597245556761707001270027408418524016961552252875650778147034474807440320029987569065721148912281239966877969833257839470737318363773030787703602508891018544925505168523847771900813827857152834547141943979694988480661716720734686867768254418540415939846637877693088551112735234311899139244902882066041856 15 20 24 [24, 27] [] := by refine Pb_elim fun b P => ?_; intro ρ τ U W n n' hu hw; obtain ⟨u0, u1, rfl⟩ := len_2 hu; obtain ⟨w0, rfl⟩ := len_1 hw; cases b <;> kernel_rfl
theorem kW211 : KW 2 1 1 547 4554785272422650788603593134485050966798080971773503268047437405187578389817099562961411657069016835245387496022688542832970378675529327172013737802214414489111114503801850520012911161683948118961528074134752153785585131803170797029380489071788778177366121693924877534058360233592321416150745194591874079430256728017286074863914546555838110440158001831529552896692157133510958582001746198938685450920659789503392131610177406646841139545867245699257751859376545909946657146772438981095999784924581306095566026358858108489394165499761449308803386229316360257757354025839513313435745059681944908138839754664731259832336061690235355335558288180816777114993297682448438156293440327405737275375873952768 12 17 21 [31] [34] := by refine Pb_elim fun b P => ?_; intro ρ τ U W n n' hu hw; obtain ⟨u0, u1, rfl⟩ := len_2 hu; obtain ⟨w0, rfl⟩ := len_1 hw; cases b <;> kernel_rfl
theorem kW220 : KW 2 2 0 568 9099886809298151633734341940042202698880397964576997835449916171973125994454581872762416425568004801158509456606419821382575292407622644971376226911304183430534587427466624675194595565902066621940450618935666706972016353708065200662424761710201502101896526744326256143323396331396490428015164734762605913647744581599456650095976335360496195628595854208031680364348353077177513556472531626365613300726929014548379631461018161372381572566411219231083184594679767267076684169483938202011461836122993575721131108691822563340002328854480559345175959570447670399172014092397413125149032329338629252048461882986752888394938521734332643861236959606353023113651799329747796592824363246950528763691563202900165751696621781395772446209195287649990533859771065125165783791438848 15 20 24 [24, 27] [30] := by refine Pb_elim fun b P => ?_; intro ρ τ U W n n' hu hw; obtain ⟨u0, u1, rfl⟩ := len_2 hu; obtain ⟨w0, w1, rfl⟩ := len_2 hw; cases b <;> kernel_rfl
theorem kW221 : KW 2 2 1 650 19903734019080751974867717135376769732645918045692011231817711732179034384237128996418104822990725655527407957774257914132620615456253177702025270642364326907873034237295480970874923366076700319666476312343239583385441741939943268679590351025081887101839826607143546522073031975279419248694309857683480531342337160093655910247949159648664536745888919865092648745360741603498517716556804249860471225399487827303511959184097261948239343588897965195113506281384874448402587119494778036545066157252899179583389601440967528494072269579129696497197582397464151853759222218433404372932859814747153034286659401015051072544379299719502768789764532905449847576479451065196430803184688243826729371998496829378112922349823350245719262753450340892029518327757317836559899451512701626105710428743088798477453102596077598663101845809671171195476958799465691270060550643532038147072 15 20 24 [33, 36] [39] := by refine Pb_elim fun b P => ?_; intro ρ τ U W n n' hu hw; obtain ⟨u0, u1, rfl⟩ := len_2 hu; obtain ⟨w0, w1, rfl⟩ := len_2 hw; cases b <;> kernel_rfl
theorem kW302 : KW 3 0 2 616 7675585398839902364908954280411116783033738496433714127720585928053881569372926998640154634278950230943375295836437764228828672400948789237470225813985702628164757336215091863720552082041071294262726301380326227592908682720953842464632227140301111956797799567329134619653517198891658164524288207629306083145425762752802922404486710412067716839112585352958423627614083193215457598906104439345067867135007581517552008007913065606740538728763020412143408703177131294184766901956785746940024391096927872376101249904263290588735696925362180621044470891539106842461851107519956335911841027861376700227285965863001463481802399256315336523520824104086740850098411231359926153908388990666573641393515064389199137218343090576898127891153208514407807757665044906012297923584 12 17 21 [39, 42] [] := by refine Pb_elim fun b P => ?_; intro ρ τ U W n n' hu hw; obtain ⟨u0, u1, u2, rfl⟩ := len_3 hu; obtain rfl := List.eq_nil_of_length_eq_zero hw; cases b <;> kernel_rfl
theorem kW310 : KW 3 1 0 564 8679097274897426019136421773512276520278961276779132635073446470448587868187849004231569058220041152428419451211311457365815401816519674435616250349671478073161701377446304753395183041488828596197645860025279654921718416882435915548050329559363581951060685407994818999070316720311529285569551102764704015598801184094049700691356101749615456986829767467778672297575836382329938183127940994418718071593133985983268146911675746458045062695898877902854124156494832077759823218004940873004388783057122364202395625077612937126412541198311377184246772825793928827087032370126117526478461174814889252840803442157776089143680413119300153081419922182624481955256443055365241147927043701832836641164432049216650147379587744091107877226395987551504947440124703462531271680 15 20 24 [24, 27, 30] [] := by refine Pb_elim fun b P => ?_; intro ρ τ U W n n' hu hw; obtain ⟨u0, u1, u2, rfl⟩ := len_3 hu; obtain ⟨w0, rfl⟩ := len_1 hw; cases b <;> kernel_rfl
theorem kW312 : KW 3 1 2 689 18900152400827644275678461427750602809866374667919198744979412159613424713036801755646818621153038167472728378117574921198961455115286435186068711912289080191323573020853480848825609315739395394922009885267574070326041851595887788637653980098222453826623211208190516341482847433743549911254544010925734880825019019097005093083962949004732318185516530169479120241808823660734501372708941718052504997563669879387536522002251209815928604584451215679455264171839291239823855539646650327737482161865334053504087835986592678904152376550552364592746469110162778187586998264379180577312049231243711841189126758891181149965763666437285580274866609622760012418651047660463711440648644245883631451195404526810362513371450809222843692255518368059726430542169337962319119031005410388276596709935696250534410775183607805390910418532342890719665856193128708087492413573552558709395853654625280 12 17 21 [42, 45] [48] := by refine Pb_elim fun b P => ?_; intro ρ τ U W n n' hu hw; obtain ⟨u0, u1, u2, rfl⟩ := len_3 hu; obtain ⟨w0, rfl⟩ := len_1 hw; cases b <;> kernel_rfl
theorem kW320 : KW 3 2 0 602 13618687458626697763120068606553702946803957553442315827046666830138753772818061568776514859239194028028033909029952947054170151197821442581172051736579167085475539822527843315525599497647316354593692089529145126200887721540035298231298287753272691683223544805604990735658750998459637339840852594275927388527248150837290492225407288024100079870280523081353970069712013802522840628479871644969987262996266268900668960662909890362702717657410969129660207810423627574931974722005679453919352570446425567258458647408707152739366283307835131556629360545519492037365515808182875213253385586071029271651736880111973824337752858321858357327053953062959432479916803229354814001454383519838934523298281690757465526810619986655755116719013993864267707081228484533691679044716666218044555716581124028196566394558230309300486540288 15 20 24 [24, 27, 30] [33] := by refine Pb_elim fun b P => ?_; intro ρ τ U W n n' hu hw; obtain ⟨u0, u1, u2, rfl⟩ := len_3 hu; obtain ⟨w0, w1, rfl⟩ := len_2 hw; cases b <;> kernel_rfl
theorem kW321 : KW 3 2 1 745 59256031818333087097137513693895253894251530814813854831909417495999777084329040934026256528310467237484266114053215745978911060466366959880244542582094032431551021882140048075255346931811531903717886765838600013835079200255665507164023616906984585626198202703498458155100796389306264963030072103745080470909056202512775563508560398474609663596191885383961264411406754968462107118739690989490225359755385187123042922594848810145317977792104030500549087934960901616890580984303025429875059291441679957779777204199633023271742387120579359806997758714665113204922378882555396490097568423173581555853152154054871277011833682575273885682411213479474640904249952062212090523034806578789063256501902593301428739000803505889280317777314444380704384355412621508862100097349529815257533489110179614716763185989156329244523474345939216561641352199995353561860767898422421783213974298282603656740196642896329156878210978907287720869944202082362232390744914286670901014236133759283275734722655170394313347364411149312 15 20 24 [38, 41, 44] [47] := by refine Pb_elim fun b P => ?_; intro ρ τ U W n n' hu hw; obtain ⟨u0, u1, u2, rfl⟩ := len_3 hu; obtain ⟨w0, w1, rfl⟩ := len_2 hw; cases b <;> kernel_rfl
theorem kW322 : KW 3 2 2 758 44387812734258820564114985880870742632794435636923364709358488562116084609775165702843510151740285888941568041971953888485687572082077161474788345868014892382856362666547371577882079269190869931770209477380576475554758829502902532120210750251154702288295217851505731330491525318997001285130314461415192388514694303714072104768526061719726409772533404269136216384870427648121669885342680825201436257903910899707015221957321351927365875119956066361054405206616049233785295671338563446579113619937394831088330425358726627784726404148939531580409671284613473728451657142540171786694849003509238926862672482540054652748652824706620357538675561669141911286527120841358076138810453702583717011536236680915528185009226045635833559755297243735167888662117395038162517873537723735129152208230255117600249952476502604423022694335103929339395152872823168163636243963221073016885698140391751597480583802321309961203868157654779389018448376609330801904984455345170570439854131282785453334442997189632 12 17 21 [45, 48] [51, 54] := by refine Pb_elim fun b P => ?_; intro ρ τ U W n n' hu hw; obtain ⟨u0, u1, u2, rfl⟩ := len_3 hu; obtain ⟨w0, w1, rfl⟩ := len_2 hw; cases b <;> kernel_rfl
theorem kW330 : KW 3 3 0 636 20381423635538690022264542346625812206229420078788619501381336813751331209458820092332148644248460408728748341770694080449087631606108610680027898676345798315153113924974897942194387408689977478720354437431202400655329982536486093141089560250733905344454449022663204739723977317106447746884501667250880913606823867410076607829618653835374075966247145861224673516563101836046301274928256114252269249717297978510119534277707297531040355987149396917537890046070966037217753633500631321013085022575659324771571784392886652101341295830063258160391697871161407178730145187644209128545726035551055843263238852286061856510190198263383936192262892787471238881848586369524641267051589671844019705788236866324200626735393992889283790478040668722042406636421412896348284711683162292735666072953888557406668467173551965652881787446546305969592408050400543614964068051201601026657280 15 20 24 [24, 27, 30] [33, 36] := by refine Pb_elim fun b P => ?_; intro ρ τ U W n n' hu hw; obtain ⟨u0, u1, u2, rfl⟩ := len_3 hu; obtain ⟨w0, w1, w2, rfl⟩ := len_3 hw; cases b <;> kernel_rfl
theorem kW331 : KW 3 3 1 779 88681254424807308547672958589416142817934950854653376019042101384534276531648910679791105712514324090552494652608658281704238926325766543528690421464724368364918525064588809657037104834070054374742041891311029174421852075355200416272607612896983327026026034254005468870028800906752967899270048190853518724956056788182023816671313088739049375669386652116486326889884102784024712816304976651806206456402524848588640028003115567799773142271776469186167952646520557463628835767312389444031730413422231075586265065819003248558162339668172406886336830227366406929100763642279776947215537244737466786733758015563916394687518885261294973898583156537784676980541521861567098863782858413761347283931971080900175046009769121459705854669179897974998933134781060573034364408951155730205507089001794430527922127346884487498857352137186219309732930475595781611153915284126178049425661291478910609768492640729378296033348611923642191924367373959747162596736250647060202946784436433940058646011549586499748223197013325079081917053337798430814160648257937433621240591944704 15 20 24 [38, 41, 44] [47, 50] := by refine Pb_elim fun b P => ?_; intro ρ τ U W n n' hu hw; obtain ⟨u0, u1, u2, rfl⟩ := len_3 hu; obtain ⟨w0, w1, w2, rfl⟩ := len_3 hw; cases b <;> kernel_rfl
theorem kW332 : KW 3 3 2 861 193968138015326468864324915961922662850248627857970170184239657338897830552238936063673915820606417456346576921898625333691093583889503467426080710296273795681716361362199803933589535931777039252249736132828015511181613544562234654301797659594893748116008080788443844665213204702205066136252703500690185239177200504950817336000572610689712975615718889137082907560049546393950266528041758440966055140927638137184703795825499160470460813431047318263987772573953262370323849168444677256083451488816629590969770459348997456188324317869910192605540529366188958946390177180318578373605839044858167379670447036884590033302982072727135071547956989236804570909658256844384792701478166937629336069310492541296434704512636242460022830491696620227351065039633267246233682621169430110549363795489291593667422180376000711381917590576070785226794058574810456764007507100965170336188763617524465463193948714269270215734020372436851497798496605060740293823350108800456338115404679453140020013594912883146457524294050907499704555420072287078935024665997736271951153846595903931070606316526559586340414156716161196291669999164238471935226452998223895156374991981199089470464 15 20 24 [47, 50, 53] [56, 59] := by refine Pb_elim fun b P => ?_; intro ρ τ U W n n' hu hw; obtain ⟨u0, u1, u2, rfl⟩ := len_3 hu; obtain ⟨w0, w1, w2, rfl⟩ := len_3 hw; cases b <;> kernel_rfl
theorem kW403 : KW 4 0 3 758 31849961112761800691628328358857125052538883945079823793140481244347891487708004999024963394837306705903652407830178962790611578103388070820076268126559135882220116424813943497144031319469273059791019629104456328122966356017151828969464304167422806134768886009869906856450636741509306048475730738543904429423055212161203396003773750901156926400116948233845653558440285040712517603391598202651254078348582143922870580019711637899954146430493183663235762331980141607256117216446334484218390428728329540184948230545784757867804536168039571763929587726638293497307761044495883980560298482851344790869688019670636536655165846822164965685994122356956615312597491775702087582272951201516158182477871984682311519011688679864971619901422039616544174253950209980860797702334280969587744056150526189633824535208309521501361028695709884354617516733373629174844346144629791556482601822506379575813955130767842273255527051208267868888108246836793194734160896 12 17 21 [50, 53, 56] [] := by refine Pb_elim fun b P => ?_; intro ρ τ U W n n' hu hw; obtain ⟨u0, u1, u2, u3, rfl⟩ := len_4 hu; obtain rfl := List.eq_nil_of_length_eq_zero hw; cases b <;> kernel_rfl
theorem kW410 : KW 4 1 0 598 12988943234884368127684076180784979168061078975129830733970882883493899847250636301303533640174556695387770786941274072979666781687646017152741909098195296125882506052101384969487405525127214812532138162572076828837052297658206173817471821746098052642790799526613527894329496734632585230740080501132644648253775131965325213576284054709057426539429693423442020057431194189745844257915745644006184514990219341969334486149275905875803928296251492855106087489720226505854693441780360799875399262258064317883906336185555560356249723837391210945868274865462947158282228314133104711727232698468570245094254904926399348452104408485883817646078749913991399616612808144946371143323027593598735271304419972394308339994648334339704429741427529577618978121180342183355959165380770910772662074443052697876594954634569773485056 15 20 24 [24, 27, 30, 33] [] := by refine Pb_elim fun b P => ?_; intro ρ τ U W n n' hu hw; obtain ⟨u0, u1, u2, u3, rfl⟩ := len_4 hu; obtain ⟨w0, rfl⟩ := len_1 hw; cases b <;> kernel_rfl
theorem kW413 : KW 4 1 3 831 78426476641457787186634394150485832493339239491715088561053870011448451264399211546423586139516423607997046014824634361865576105685086115668926282328156283557865839967532127616302090320890187756744680195091437262396111611786927981540028423445470425994931665410414768432429179502532821926034558036044457456777741806407193571211180786831685563361401175757790196302929779818790491337949202616453689802952213772564527638492872847361513727896428000766011786527108223307243680744445787619051811832808916592596685177494923886708736028420492194794863562677125501012657175942408892211633768149317132261245232867860546378794494945846875921697830834756634467154836905182193823482019582782774167806337126146393268561105109613254942228738661622281417898736120519234698457626175863045659443701354385919477864592482528572482753970630594469307513520104101479508223542178700109605776714126282389260754307153443212865077167444681768427232131948787879940103628284692920426906734491284471218695692393874652009655395105059459383961593691844079966813216333661193168718480037383168 12 17 21 [53, 56, 59] [62] := by refine Pb_elim fun b P => ?_; intro ρ τ U W n n' hu hw; obtain ⟨u0, u1, u2, u3, rfl⟩ := len_4 hu; obtain ⟨w0, rfl⟩ := len_1 hw; cases b <;> kernel_rfl
theorem kW420 : KW 4 2 0 636 20381423635538690022264542346625812206229420078788619501381336813751331209458820092332139338742503071260065748760840104071803510227203253966873877137781070753661987058990572514175921526862541127338471743839477333386692343746501907127900519449683852394223129173022895121204889230033944219624841687509384717436593088581032090562466241402937476192953870694360333175261443086851732360269431474068062017100836804159868974702354892827262361693344669619101338463352210222766412407498723556997969103193800634505405057831000174253956572724506855363546688490771872325572124905306010216953934346981481964919479694060424252861626014117233796665077379948891118819893559907952940218446244087859139688146948951040821076349507652579930775507993141879902132661936792322930113054862634111409871825549693242009070196675024137826744645789484179270911118740890448630553999903301535479630848 15 20 24 [24, 27, 30, 33] [36] := by refine Pb_elim fun b P => ?_; intro ρ τ U W n n' hu hw; obtain ⟨u0, u1, u2, u3, rfl⟩ := len_4 hu; obtain ⟨w0, w1, rfl⟩ := len_2 hw; cases b <;> kernel_rfl
theorem kW421 : KW 4 2 1 779 88681254424807308547672958589416142817934950854653376019042101384534276531648910679791065223490784278676572334970012044440875580616108061750455549838730506678112543672748501882020602112690085255717195550253489455383213513359518993619357622718541008767565381201672365734135660859473362881957764631458376783269165449694368387436467758672139404718463451632448620810101571945403367143381256138496723901140443129741220262300942949838531232818428287242993987352240650199295752098082614104057536055576302546791880527482370582842236345355028909996507683596828676194771623235309216917684549778766889342717670884067230842813793222860674356445509370576427651504040323983536859183748446466333726338649874441965397232024760181863466516151558658518837211744634377857096523492164331916628141960054034582589934498009732786479849371132224994357892130504865400493314025878962003813545019529166916286951436975306161962051190130960680936597597762834991741157625171056337770408727861782960453616455461525156769978613525942489268200158243512209841862774087119290981900012751872 15 20 24 [38, 41, 44, 47] [50] := by refine Pb_elim fun b P => ?_; intro ρ τ U W n n' hu hw; obtain ⟨u0, u1, u2, u3, rfl⟩ := len_4 hu; obtain ⟨w0, w1, rfl⟩ := len_2 hw; cases b <;> kernel_rfl
theorem kW423 : KW 4 2 3 900 184187920009380973334763086618229110888312228167422491237271951127087492135068117871788958382965145538605012173251930158418512804028961648829878057722344046913934323014398577505921678952551886143702213974048292009767769674119641598684735033508523079566523884122979191277600814410536339995642895332595786601134536945679992373488136914125929240980156286007421866012024259015031912191589811227118088638818863766709280523391927852245088701690883956282209383123059915758396675331190417213464757275218324871363826772052128787963338963699667927857447764072201782068813932896918621094943688566707028171371049656572238893019421648329492039642912113416778593924229881909652485097387768826336082352179893856649925503203955705377953535545358648740288088895632960647321895647926820674498981216854697943506706719204200203704769772909872513766312401435492351298503452914764119845941466082926261063198547113351890288543843737761912993364207872046939048220861307174238808536075612897257063547730059024672461483765505996329960661514321392082405733351766444041351088614505808920500886080767287030771768432084177881746980203990214990312220859386081337705459178056747806520454446786284544 12 17 21 [56, 59, 62] [65, 68] := by refine Pb_elim fun b P => ?_; intro ρ τ U W n n' hu hw; obtain ⟨u0, u1, u2, u3, rfl⟩ := len_4 hu; obtain ⟨w0, w1, rfl⟩ := len_2 hw; cases b <;> kernel_rfl
theorem kW430 : KW 4 3 0 670 30502383630821948828180995052173990880796062657007412376045097927653762925386331678216137132216667289634379181830741553323678978810550409573943839438602988926051775735783825706837631977949625012630599659659676219141063470738118937577068548313203679328322772168074779091267078588372256256964363711384237804888033092511713618990548722132649783576890385579656242394307257157002876484573097540284183845862108603100742162605801629624586640590753715225415214166756725092165542603530129618258076592549231024776091732909490565273589048513919056752723329074872737484611327753090822107706644108295520674646292423542279262204746707664533031916668546834892220005124160622353230052438428074231239047584185113552002624337374786241208537406415026137210047195422747815269930635480333830639041211034508698208209447838746640224469056517486247490758882095006611232164657418048147313847871143407191995394030839132269982768307645453916179456 15 20 24 [24, 27, 30, 33] [36, 39] := by refine Pb_elim fun b P => ?_; intro ρ τ U W n n' hu hw; obtain ⟨u0, u1, u2, u3, rfl⟩ := len_4 hu; obtain ⟨w0, w1, w2, rfl⟩ := len_3 hw; cases b <;> kernel_rfl
theorem kW431 : KW 4 3 1 813 132718385707432202988667185129270515394304643029540108694437292728461601014520051643456420443081257035406778902890004817421580596678915104241187684903485518960549081434834258955156617711170068840561654445275365260222380825094250720227305321126835275307802104526018888695065604369481826878116873969078844858695518860554463716092237930043564341853387910527923281751873618330133935393551378145074946565918732397197874939521841805508314341982868196718121845839115961587656552633909861477553613057902808583102098533191382034311883212860578453562125076395524702730129902209500057781985875907411546038085948124920238094242353276165445783500673796324169695970185769740785363148011266500565425466941555412478944215617703710929551835585341123892798207467320154424076033824603092107668445184114285036005940944851995844619452466063818428484932441869974675224952280728883450261365471356220434648728649333959457047281664319118325897231075697603855542517325017138457144837438651953344603677797773254929649998001881190194777103995295015511159058012482492039347817404884512908751369580426376884090746826086970171816445742080 15 20 24 [38, 41, 44, 47] [50, 53] := by refine Pb_elim fun b P => ?_; intro ρ τ U W n n' hu hw; obtain ⟨u0, u1, u2, u3, rfl⟩ := len_4 hu; obtain ⟨w0, w1, w2, rfl⟩ := len_3 hw; cases b <;> kernel_rfl
theorem kW432 : KW 4 3 2 956 577468637139165598585341530187207342128877502305618994891792186183460220440275358242951580079944080338555293692426836262387225329096006693658420872687772842429366701306383155255400546875092570454440983444358027039977416150435008127999191020887208953395454340650744218550138097594361456695580403912531054057755604205797134970764657116093072091144423039554221847074215386682627955168461038581394320564173358560523317379457315194877478612368892444227965588914513675680417861027282419252702147231221458771397382599166848089174926568468584303638742700837200237237756732454904263757309445104839964460730114319204410005100731319019094156335267129645120986882999896032537214805614778376198264595107051196766191078074723700986873090461218322476712038400980983605818446743114166303479121486632343682197557099708677497121611629775328863682784101017210254491133539413315899978246707512691918658005775235058807760418140878351529325799021849704581706444127228363266127462463417384504150038239417528959166822863815133700242796505406325786413265824145722516062600757668531013502708710284166642704197132857165444834160293074308224759636592652632805706899976496382052451886407599359060778064437336521587412469720829834913309580830148921224408915333649304281223151558548704736107560587984500965200885924659989504 15 20 24 [52, 55, 58, 61] [64, 67] := by refine Pb_elim fun b P => ?_; intro ρ τ U W n n' hu hw; obtain ⟨u0, u1, u2, u3, rfl⟩ := len_4 hu; obtain ⟨w0, w1, w2, rfl⟩ := len_3 hw; cases b <;> kernel_rfl
theorem kW433 : KW 4 3 3 969 432573173374571788016406379684036973963045818540191234173564016665504254084124439439558002094306967394886536566249469490215459356190648266865591146726217834630337254296417591970589126520365596228280019982320306120313722819684764177086862749457652757915434559141458582019961994544477311244463765532130955081497805376401171508938586430369158135645558274267204273634696161061237882759885369917439874019102318493283315893618520238203620523241915989001658265201924201491956081035987492199803724644666342336563557881068238302709247505325839070917444297547489575143549902077744083616529459082660064356259108630619531954455376781189118600299669691342380870411263277627218618383956395274074230871575633232121643620960731828071205208872673522918117862911017735267548351261947058851084694015979344523154410168308832898902011221013146918497142498175352764336690477569787245338506544310626796413603202100531223603641381473381932389977980473744012689085221685758507010371141246826604346974227780042379637932189191280062572066373503569608082460456032806589622594818394432772304081959295409171830606391005009441715299230086905538179846903737815209214490955251959558995733385333769249388845901000313396058422233256679012222938749980295050716122046849275171721605771525069159833024513409289216 12 17 21 [59, 62, 65] [68, 71, 74] := by refine Pb_elim fun b P => ?_; intro ρ τ U W n n' hu hw; obtain ⟨u0, u1, u2, u3, rfl⟩ := len_4 hu; obtain ⟨w0, w1, w2, rfl⟩ := len_3 hw; cases b <;> kernel_rfl
theorem kW440 : KW 4 4 0 704 45649186425796208254488623630361413733154743424239772523011262706533969121289736755811071215088723314123009081626733619700174465434149675457364653107408025271149044770859046012981158313132247916930583510809852962318070634139224187271103717157246860615852320327275299296815518661277146586584588221547077810306785243046056013304889558098334385280376004864094117279387053613603279965865480923876136476350732124087583638276881398814719038447921016874892666153187539587726642630470312772084363582602590852075769466178739753616629098274654479715454142671597429086040540487546563036631515930101660175941187206115530470542384543751254375874815688569291825912383280588396501628544977401025543576023243246077392933375454814634143839343616158894463968604073334155881400990725882909453761785736179729925083975468429609832136781951738929547834283386725667792437289519235431366283197447360026472655212514417215821353748694277569430293146251815655710460368023376392704395244632645045248 15 20 24 [24, 27, 30, 33] [36, 39, 42] := by refine Pb_elim fun b P => ?_; intro ρ τ U W n n' hu hw; obtain ⟨u0, u1, u2, u3, rfl⟩ := len_4 hu; obtain ⟨w0, w1, w2, w3, rfl⟩ := len_4 hw; cases b <;> kernel_rfl
theorem kW441 : KW 4 4 1 847 198623373327694304117068713945008806758654594926561454268661409115031378485492670529202089800300971475298894768024192341699679829902851550704901616121485642812176295913421929966886497475492884175984140130515345989585369210478633140224363384242859062007359418386596659529425561903869435774222710395465262535312791074660184825969672538673593787402276272578474391663064435212378586413174795753609014698101790960056348404136723096598892821402207726398521215755586438888552736103326255726985358921429956795473409068732410200600947269159447944128888375782121146519101890193072279568208943147054720914071400440804644364902433830138333745113644921490928735149655631787180371183298454503402065760644501990202135587166510800804845182241662632556009654362114919231764233497082588826488401525301423511090875596173781724710727465832228979833880500166751421299485881757886804677282109704690631797651008043640229342935508940976204057130937339349413507654203840609114301597417047328541609754908296992948298599381286883229975147146685339998693455773954860198787964870138349226316138002131653925185085990352106719489848494128161744088662004425257610217648718548010559157046272 15 20 24 [38, 41, 44, 47] [50, 53, 56] := by refine Pb_elim fun b P => ?_; intro ρ τ U W n n' hu hw; obtain ⟨u0, u1, u2, u3, rfl⟩ := len_4 hu; obtain ⟨w0, w1, w2, w3, rfl⟩ := len_4 hw; cases b <;> kernel_rfl
theorem kW442 : KW 4 4 2 990 864226671294602830179344590832010768465897254252171302928639709014786955760756765329095486297051878030015601088476334257136951758336407238357822767600174553022201012805248864449064402175426129356276906702074188715609960326603795829448083812145115835153897977403084576857975248437011071455133778317940982614687331987135020132470443018448933225551894910575070500876999886233519333780507840714706702704688095473137996022007650560120818400430883567204428392697981240688742130351392893344715834755364137970201536492349983062259265659411774811205790273869602199469899992961743092291372793992493310473698950899910288367568039926019438620320645174868017588719382932947155996456228798649116503939099935316914569357925174305162808129898920713580635193668427830511557305734162500962120086799854774909449979411067737607177038418337957691694580246345211379272889333413440198051928000934937344329328668840264942607968154689555459524514503006157105940303284274476274996675405222914694643631932227281044414101930550530089006620531193277176019519594316694939868118887656647208219880701188726157211687078440878076524486694080963075614978740662044821174451111176319881454341879921781862844081762603241090002373066369694426553630710222284753472080140968313568263101804096087412240316611954869692681892232560267825348076077392788998225123569647723773937424897412096 15 20 24 [52, 55, 58, 61] [64, 67, 70] := by refine Pb_elim fun b P => ?_; intro ρ τ U W n n' hu hw; obtain ⟨u0, u1, u2, u3, rfl⟩ := len_4 hu; obtain ⟨w0, w1, w2, w3, rfl⟩ := len_4 hw; cases b <;> kernel_rfl
theorem kW443 : KW 4 4 3 1072 1890280413165929846586649398809061237203800264445610252363567758432729265006778822320713326126418753333833364911935778529747035477370747390301980918775075237264189655844538927523722236430347669196506362192887811990940619355909592460151380289264608807827673730165140707581355789814215901256303674793227315093146492111442504692786417533459618073411482209613984421076299896722586740631966943629891215081049387080060580199766738992449235845555876517324656708837624058047559198264581477682314953865194125871768091219264767753194324228127902562590082181187492280463944283249829407153275230304497690083658073954064306575815358994260807931333316472341539172141183613931786858970256152270537569592004364170849813147914482514673498410567695525910315437970431503384152499269472637316332306137511706365486207092668899326502617606437627673697861486556546215524756349686641365700008832503897341929760890863624902242549028476016875865200949722910832692494922561944635364260156163051022921666664897782265527221764204565276530981145796384305077547957279162266646921086387491432376497946429976617100495908543917231886958895500899202225478660654191229791000326611348085287461558718406809088774785201188614161977092812119354605613034314881812211559424045663489739442879641740551171943636077891329995763993338919623954926015337392747860339027699542184028097095183668073589614931797427853209528157677066723881251846176630388315731753099999113061495313764024920837120 15 20 24 [61, 64, 67, 70] [73, 76, 79] := by refine Pb_elim fun b P => ?_; intro ρ τ U W n n' hu hw; obtain ⟨u0, u1, u2, u3, rfl⟩ := len_4 hu; obtain ⟨w0, w1, w2, w3, rfl⟩ := len_4 hw; cases b <;> kernel_rfl
theorem psW_ok : ∀ (U W : List (Int × Nat)) (acc : List Prop), AllP acc → AllP (psW U W (sldK (U.map (·.1)) (W.map (·.1))) acc)
  | [], _, _, h => by simpa [psW] using h
  | [_], _, _, h => by simpa [psW] using h
  | _ :: u :: us, [], _, h => by simpa [psW] using h
  | v :: u :: us, w :: ws, acc, h => by
    show AllP (psW (v :: u :: us) (w :: ws) (match decide (u.1 < w.1) with
      | true => sldK (u.1 :: us.map (·.1)) (ws.map (·.1)) + 1
      | false => 0) acc)
    cases e : decide (u.1 < w.1) with
    | true => exact psW_ok (u :: us) ws _ ⟨e, h⟩
    | false => exact ⟨e, h⟩
theorem sldK_at : ∀ (U W : List Int), 1 ≤ U.length → sldK U W + 1 = U.length ∨ sldK U W < W.length ∧ sldK U W + 1 < U.length
  | [], _, h => by simp at h
  | [_], [], _ => .inl rfl
  | [_], _ :: _, _ => .inl rfl
  | v :: u :: us, [], _ => by
    rcases sldK_at (u :: us) [] (by simp) with h | h
    · exact .inl (congrArg (· + 1) h)
    · exact absurd h.1 (by simp)
  | v :: u :: us, w :: ws, _ => by
    have key : sldK (v :: u :: us) (w :: ws) = (match decide (u < w) with
      | true => sldK (u :: us) ws + 1
      | false => 0) := rfl
    cases e : decide (u < w) with
    | true =>
      rw [e] at key
      have key : sldK (v :: u :: us) (w :: ws) = sldK (u :: us) ws + 1 := key
      rw [key]
      rcases sldK_at (u :: us) ws (by simp) with h | h
      · exact .inl (congrArg (· + 1) h)
      · exact .inr ⟨Nat.succ_lt_succ h.1, Nat.succ_lt_succ h.2⟩
    | false =>
      rw [e] at key
      have key : sldK (v :: u :: us) (w :: ws) = 0 := key
      rw [key]
      exact .inr ⟨Nat.succ_pos _, by simp⟩
theorem int_valsW (U : List (Int × Nat)) (n : Nat) : (valsOf (intF U n)).map intV = U.map (·.1) := by
  show (U.map fun p => Value.int p.1 p.2).map intV = _
  rw [List.map_map]; rfl
theorem kw_use {nu nl k N orc j1 j2 j3 : Nat} {t1 t2 : List Nat} (K : KW nu nl k N orc j1 j2 j3 t1 t2) (hj : (Nat.ble 2 j1 && Nat.blt j1 j2 && Nat.blt j2 j3) = true) {w : World} {A : Around} {Q : Value → Shared → Prop} {s : Shared} {a b : Addr} {U W : List (Int × Nat)} {n n' : Nat} (h1 : U.length = nu) (h2 : W.length = nl) (h3 : sldK (U.map (·.1)) (W.map (·.1)) = k) (h4 : U.length ≤ 4) (h5 : W.length ≤ U.length) (hh : A.handled = none) (hd : A.depth + 100 + 200 < recursionLimit) (X : TopK w.params fun b => s.heap.get? b) (hg : AllBare s.gens) (ha : s.heap.get? a = some (intF U n)) (hb : s.heap.get? b = some (intF W n'))
    (hQ : ∀ t₁ t₂ c1 c2 c3 s', More s s' → s.heap.get? c1 = none → s.heap.get? c2 = none → s.heap.get? c3 = none → c1 ≠ c2 → c1 ≠ c3 → c2 ≠ c3 → s'.heap.get? c1 = some (lstO (kdL ((sldU (U.map (·.1)) (W.map (·.1))).map Kd.int) t₁) (sldU (U.map (·.1)) (W.map (·.1))).length) → s'.heap.get? c2 = some (lstO (kdL ((sldW (U.map (·.1)) (W.map (·.1))).map Kd.int) t₂) (sldW (U.map (·.1)) (W.map (·.1))).length) → s'.heap.get? c3 = some (tupO [.ref c1, .ref c2]) → Q (.ref c3) s') : wpAny (model pw w) A (call (.ref 57) [.ref a, .ref b]) Q (fun _ _ => False) s := by
  have hj' : 2 ≤ j1 ∧ j1 < j2 ∧ j2 < j3 := by simpa [and_assoc] using hj
  obtain ⟨q1, q2, q3⟩ := hj'
  subst h3
  exact call2p 200 N orc j1 j2 j3 (fun a b => call (.ref 57) [.ref a, .ref b]) a b _ _ _ _ _ X hh (Nat.le_refl _) hd hkW_loc (hkW_ok w _ 2) hg ha hb q1 (by omega) (by omega) (by omega) (by omega) (by omega) (fun ρ τ => K w.params ρ τ U W n n' h1 h2) (fun ρ τ => psW_ok U W _ ⟨by rw [List.length_map]; omega, by rw [List.length_map]; omega, trivial⟩) fun ρ τ c1 c2 c3 s' hm f1 f2 f3 n1 n2 n3 g1 g2 g3 => hQ _ _ c1 c2 c3 s' hm f1 f2 f3 n1 n2 n3 g1 g2 g3
noncomputable def okJ3 (j1 j2 j3 : Nat) : Prop := (Nat.ble 2 j1 && Nat.blt j1 j2 && Nat.blt j2 j3) = true
theorem tW (nu nl k : Nat) (h1 : 1 ≤ nu) (h4 : nu ≤ 4) (hle : nl ≤ nu) (hk : k + 1 = nu ∨ k < nl ∧ k + 1 < nu) : ∃ N orc j1 j2 j3 t1 t2, KW nu nl k N orc j1 j2 j3 t1 t2 ∧ okJ3 j1 j2 j3 := by
  rcases (by omega : nu = 1 ∨ nu = 2 ∨ nu = 3 ∨ nu = 4) with rfl | rfl | rfl | rfl
  · rcases (by omega : nl = 0 ∨ nl = 1) with rfl | rfl
    · rcases (by omega : k = 0) with rfl
      · exact ⟨_, _, _, _, _, _, _, kW100, rfl⟩
    · rcases (by omega : k = 0) with rfl
      · exact ⟨_, _, _, _, _, _, _, kW110, rfl⟩
  · rcases (by omega : nl = 0 ∨ nl = 1 ∨ nl = 2) with rfl | rfl | rfl
    · rcases (by omega : k = 1) with rfl
      · exact ⟨_, _, _, _, _, _, _, kW201, rfl⟩
    · rcases (by omega : k = 0 ∨ k = 1) with rfl | rfl
      · exact ⟨_, _, _, _, _, _, _, kW210, rfl⟩
      · exact ⟨_, _, _, _, _, _, _, kW211, rfl⟩
    · rcases (by omega : k = 0 ∨ k = 1) with rfl | rfl
      · exact ⟨_, _, _, _, _, _, _, kW220, rfl⟩
      · exact ⟨_, _, _, _, _, _, _, kW221, rfl⟩
  · rcases (by omega : nl = 0 ∨ nl = 1 ∨ nl = 2 ∨ nl = 3) with rfl | rfl | rfl | rfl
    · rcases (by omega : k = 2) with rfl
      · exact ⟨_, _, _, _, _, _, _, kW302, rfl⟩
    · rcases (by omega : k = 0 ∨ k = 2) with rfl | rfl
      · exact ⟨_, _, _, _, _, _, _, kW310, rfl⟩
      · exact ⟨_, _, _, _, _, _, _, kW312, rfl⟩
    · rcases (by omega : k = 0 ∨ k = 1 ∨ k = 2) with rfl | rfl | rfl
      · exact ⟨_, _, _, _, _, _, _, kW320, rfl⟩
      · exact ⟨_, _, _, _, _, _, _, kW321, rfl⟩
      · exact ⟨_, _, _, _, _, _, _, kW322, rfl⟩
    · rcases (by omega : k = 0 ∨ k = 1 ∨ k = 2) with rfl | rfl | rfl
      · exact ⟨_, _, _, _, _, _, _, kW330, rfl⟩
      · exact ⟨_, _, _, _, _, _, _, kW331, rfl⟩
      · exact ⟨_, _, _, _, _, _, _, kW332, rfl⟩
  · rcases (by omega : nl = 0 ∨ nl = 1 ∨ nl = 2 ∨ nl = 3 ∨ nl = 4) with rfl | rfl | rfl | rfl | rfl
    · rcases (by omega : k = 3) with rfl
      · exact ⟨_, _, _, _, _, _, _, kW403, rfl⟩
    · rcases (by omega : k = 0 ∨ k = 3) with rfl | rfl
      · exact ⟨_, _, _, _, _, _, _, kW410, rfl⟩
      · exact ⟨_, _, _, _, _, _, _, kW413, rfl⟩
    · rcases (by omega : k = 0 ∨ k = 1 ∨ k = 3) with rfl | rfl | rfl
      · exact ⟨_, _, _, _, _, _, _, kW420, rfl⟩
      · exact ⟨_, _, _, _, _, _, _, kW421, rfl⟩
      · exact ⟨_, _, _, _, _, _, _, kW423, rfl⟩
    · rcases (by omega : k = 0 ∨ k = 1 ∨ k = 2 ∨ k = 3) with rfl | rfl | rfl | rfl
      · exact ⟨_, _, _, _, _, _, _, kW430, rfl⟩
      · exact ⟨_, _, _, _, _, _, _, kW431, rfl⟩
      · exact ⟨_, _, _, _, _, _, _, kW432, rfl⟩
      · exact ⟨_, _, _, _, _, _, _, kW433, rfl⟩
    · rcases (by omega : k = 0 ∨ k = 1 ∨ k = 2 ∨ k = 3) with rfl | rfl | rfl | rfl
      · exact ⟨_, _, _, _, _, _, _, kW440, rfl⟩
      · exact ⟨_, _, _, _, _, _, _, kW441, rfl⟩
      · exact ⟨_, _, _, _, _, _, _, kW442, rfl⟩
      · exact ⟨_, _, _, _, _, _, _, kW443, rfl⟩
theorem slide_law (w : World) : SLaw w 300 57 slideF := by
  intro oa ob ks1 ks2 p e hp A Q s a b hh hd X hg ha hb hQ
  cases e
  obtain ⟨U, W, n, n', rfl, rfl, h1, h4, hle⟩ := hp
  rw [int_valsW, int_valsW] at hQ
  have hk := sldK_at (U.map (·.1)) (W.map (·.1)) (by rw [List.length_map]; exact h1)
  rw [List.length_map, List.length_map] at hk
  obtain ⟨N, orc, j1, j2, j3, t1, t2, K, hj⟩ := tW _ _ _ h1 h4 hle hk
  refine kw_use K hj rfl rfl rfl h4 hle hh (by omega) X hg ha hb fun t₁ t₂ c1 c2 c3 s' hm f1 f2 f3 n1 n2 n3 g1 g2 g3 => hQ t₁ t₂ c1 c2 c3 s' hm f1 f2 f3 n1 n2 n3 ?_ ?_ g3
  · rw [List.length_map]; exact g1
  · rw [List.length_map]; exact g2
/-! ## The table is emptied: parts -/
structure EParts where
  b0 : Stmt
  b1 : Stmt
  test : Expr
  m0 : Stmt
  m1 : Stmt
  m2 : Stmt
  m3 : Stmt
  c1l : Expr
  c1r : Expr
  c1p : Pos
  c2l : Expr
  c2r : Expr
  c2p : Pos
  orp : Pos
  ret : List Stmt
  pif : Pos
  pw : Pos
  b3 : Stmt
noncomputable def eParts : EParts := match bodyOf 10 with
  | [b0, b1, .While test [m0, m1, m2, m3, .If (.BoolOp .Or [.Compare c1l [.NotEq] [c1r] c1p, .Compare c2l [.NotEq] [c2r] c2p] orp) ret [] pif] [] pw, b3] => ⟨b0, b1, test, m0, m1, m2, m3, c1l, c1r, c1p, c2l, c2r, c2p, orp, ret, pif, pw, b3⟩
  | _ => ⟨default, default, default, default, default, default, default, default, default, default, default, default, default, default, default, default, default, default⟩
noncomputable def eIf : Stmt := .If (.BoolOp .Or [.Compare eParts.c1l [.NotEq] [eParts.c1r] eParts.c1p, .Compare eParts.c2l [.NotEq] [eParts.c2r] eParts.c2p] eParts.orp) eParts.ret [] eParts.pif
noncomputable def eLoop : List Stmt := [eParts.m0, eParts.m1, eParts.m2, eParts.m3, eIf]
theorem eBody_eq : bodyOf 10 = [eParts.b0, eParts.b1, .While eParts.test eLoop [] eParts.pw, eParts.b3] := by kernel_rfl!
noncomputable def eEnv (L : Addr) : Env := envOf 10 69 68 L
noncomputable def eT0 (L : Addr) : Sem Flow := execs [eParts.b0, eParts.b1] (eEnv L)
noncomputable def eTW (L : Addr) : Sem Bool := isTrue eParts.test (eEnv L) (eval eParts.test (eEnv L))
noncomputable def eTM (L : Addr) : Sem Flow := execs [eParts.m0, eParts.m1, eParts.m2, eParts.m3] (eEnv L)
noncomputable def eC1l (L : Addr) : Sem Value := eval eParts.c1l (eEnv L)
noncomputable def eC1r (L : Addr) : Sem Value := eval eParts.c1r (eEnv L)
noncomputable def eC2l (L : Addr) : Sem Value := eval eParts.c2l (eEnv L)
noncomputable def eC2r (L : Addr) : Sem Value := eval eParts.c2r (eEnv L)
noncomputable def eT3 (L : Addr) : Sem Flow := execs [eParts.b3] (eEnv L)
lay_quick Mine.eT0 Mine.eTW Mine.eTM Mine.eC1l Mine.eC1r Mine.eC2l Mine.eC2r Mine.eT3
noncomputable def nSigns : Str := ⟨#[115, 105, 103, 110, 115]⟩
noncomputable def nRiders : Str := ⟨#[114, 105, 100, 101, 114, 115]⟩
noncomputable def nRow : Str := ⟨#[114, 111, 119]⟩
noncomputable def nTold : Str := ⟨#[116, 111, 108, 100]⟩
noncomputable def nUpper : Str := ⟨#[117, 112, 112, 101, 114]⟩
noncomputable def nLower : Str := ⟨#[108, 111, 119, 101, 114]⟩
noncomputable def nMate : Str := ⟨#[109, 97, 116, 101]⟩
/-- key tokens of the frame -/
structure EK where
  k0 : Nat
  k1 : Nat
  k2 : Nat
  k3 : Nat
  k4 : Nat
  k5 : Nat
noncomputable def eF2 (P : Params) (k0 k1 : Nat) (sg rd : Addr) : Obj := fro P [(nSigns, k0, .ref sg), (nRiders, k1, .ref rd)]
noncomputable def eF6 (P : Params) (k0 k1 k2 k3 k4 k5 : Nat) (sg rd row told up lo : Addr) : Obj := fro P [(nSigns, k0, .ref sg), (nRiders, k1, .ref rd), (nTold, k2, .ref told), (nRow, k3, .ref row), (nLower, k4, .ref lo), (nUpper, k5, .ref up)]
noncomputable def eF7 (P : Params) (k0 k1 k2 k3 k4 k5 : Nat) (sg rd row told up lo : Addr) (km : Nat) (z : Int) (tz : Nat) : Obj := fro P [(nSigns, k0, .ref sg), (nRiders, k1, .ref rd), (nTold, k2, .ref told), (nRow, k3, .ref row), (nLower, k4, .ref lo), (nUpper, k5, .ref up), (nMate, km, .int z tz)]
noncomputable def hkX (r : Nat) : Nat → Hk
  | 0 => rHk 52 mateF
  | 1 => sHk 57 slideF
  | 2 => nHk 62 placesF
  | 3 => aHk r
  | _ + 4 => noHk
theorem hkX_loc (r : Nat) : ∀ n, HLoc (hkX r n)
  | 0 => rHk_loc 52 mateF
  | 1 => sHk_loc 57 slideF
  | 2 => nHk_loc 62 placesF
  | 3 => aHk_loc r
  | _ + 4 => noHk_loc
theorem hkX_ok (w : World) {K : Addr → Option Obj} (x : TopK w.params K) (os : OsState) (r : Nat) : ∀ n, HOkH pw w ⟨K, AllBare, os⟩ r 530 (hkX r n)
  | 0 => rHk_ok (mate_law w) x os r
  | 1 => (sHk_ok (slide_law w) x os r).more (by decide)
  | 2 => (nHk_ok (places_law w) x os r).more (by decide)
  | 3 => (aHk_ok w _ r).more (by decide)
  | _ + 4 => (noHk_ok pw w _ r).more (by decide)
noncomputable abbrev KEW6 (N : Nat) : Prop := ∀ (P : Params) (ρ τ : Nat → Nat) (k0 k1 k2 k3 k4 k5 : Nat) (sg rd told up lo : Addr) (cs : List (Str × Tok)) (n : Nat), cs.length = N → Said (runE (GH 530 P 1 (hkX 1)) ρ τ 77 (.top (PySem.W.Fast.tw10599258871946635114 (ρ 1))) (mkT [lstO (strValues cs) n, eF6 P k0 k1 k2 k3 k4 k5 sg rd (ρ 0) told up lo]) 2 0 1154047405588481026 [] []) [1] true [] [some (eF6 P k0 k1 k2 k3 k4 k5 sg rd (ρ 0) told up lo)]
theorem kEW6_6 : KEW6 6 := by refine Pb_elim fun b P => ?_; intros; rename_i h; obtain ⟨c0, c1, c2, c3, c4, c5, rfl⟩ := len_6 h; cases b <;> kernel_rfl
theorem kEW6_8 : KEW6 8 := by refine Pb_elim fun b P => ?_; intros; rename_i h; obtain ⟨c0, c1, c2, c3, c4, c5, c6, c7, rfl⟩ := len_8 h; cases b <;> kernel_rfl
noncomputable abbrev KEW7 (N : Nat) : Prop := ∀ (P : Params) (ρ τ : Nat → Nat) (k0 k1 k2 k3 k4 k5 : Nat) (sg rd told up lo : Addr) (km : Nat) (z : Int) (tz : Nat) (cs : List (Str × Tok)) (n : Nat), cs.length = N → Said (runE (GH 530 P 1 (hkX 1)) ρ τ 77 (.top (PySem.W.Fast.tw10599258871946635114 (ρ 1))) (mkT [lstO (strValues cs) n, eF7 P k0 k1 k2 k3 k4 k5 sg rd (ρ 0) told up lo km z tz]) 2 0 1154047405588481026 [] []) [1] true [] [some (eF7 P k0 k1 k2 k3 k4 k5 sg rd (ρ 0) told up lo km z tz)]
theorem kEW7_1 : KEW7 1 := by refine Pb_elim fun b P => ?_; intros; rename_i h; obtain ⟨c0, rfl⟩ := len_1 h; cases b <;> kernel_rfl
theorem kEW7_2 : KEW7 2 := by refine Pb_elim fun b P => ?_; intros; rename_i h; obtain ⟨c0, c1, rfl⟩ := len_2 h; cases b <;> kernel_rfl
theorem kEW7_3 : KEW7 3 := by refine Pb_elim fun b P => ?_; intros; rename_i h; obtain ⟨c0, c1, c2, rfl⟩ := len_3 h; cases b <;> kernel_rfl
theorem kEW7_4 : KEW7 4 := by refine Pb_elim fun b P => ?_; intros; rename_i h; obtain ⟨c0, c1, c2, c3, rfl⟩ := len_4 h; cases b <;> kernel_rfl
theorem kEW7_5 : KEW7 5 := by refine Pb_elim fun b P => ?_; intros; rename_i h; obtain ⟨c0, c1, c2, c3, c4, rfl⟩ := len_5 h; cases b <;> kernel_rfl
theorem kEW7_6 : KEW7 6 := by refine Pb_elim fun b P => ?_; intros; rename_i h; obtain ⟨c0, c1, c2, c3, c4, c5, rfl⟩ := len_6 h; cases b <;> kernel_rfl
theorem kEW7_7 : KEW7 7 := by refine Pb_elim fun b P => ?_; intros; rename_i h; obtain ⟨c0, c1, c2, c3, c4, c5, c6, rfl⟩ := len_7 h; cases b <;> kernel_rfl
theorem kEW7_8 : KEW7 8 := by refine Pb_elim fun b P => ?_; intros; rename_i h; obtain ⟨c0, c1, c2, c3, c4, c5, c6, c7, rfl⟩ := len_8 h; cases b <;> kernel_rfl
theorem tEW6 {n : Nat} (h : n = 6 ∨ n = 8) : KEW6 n := by
  rcases h with rfl | rfl
  · exact kEW6_6
  · exact kEW6_8
theorem tEW7 {n : Nat} (h1 : 1 ≤ n) (h8 : n ≤ 8) : KEW7 n := by
  rcases c8 h1 h8 with rfl | rfl | rfl | rfl | rfl | rfl | rfl | rfl
  · exact kEW7_1
  · exact kEW7_2
  · exact kEW7_3
  · exact kEW7_4
  · exact kEW7_5
  · exact kEW7_6
  · exact kEW7_7
  · exact kEW7_8
theorem kEWf : ∀ (P : Params) (ρ τ : Nat → Nat) (k0 k1 k2 k3 k4 k5 : Nat) (sg rd told up lo : Addr) (km : Nat) (z : Int) (tz : Nat) (n : Nat), Said (runE (GH 530 P 1 (hkX 1)) ρ τ 77 (.top (PySem.W.Fast.tw10599258871946635114 (ρ 1))) (mkT [lstO [] n, eF7 P k0 k1 k2 k3 k4 k5 sg rd (ρ 0) told up lo km z tz]) 2 0 1154047405588481026 [] []) [1] false [] [some (eF7 P k0 k1 k2 k3 k4 k5 sg rd (ρ 0) told up lo km z tz)] := by refine Pb_elim fun b P => ?_; intros; cases b <;> kernel_rfl
theorem kE1l : ∀ (P : Params) (ρ τ : Nat → Nat) (k0 k1 k2 k3 k4 k5 : Nat) (sg rd row told up lo : Addr) (km : Nat) (z : Int) (tz : Nat), Said (runE (GH 530 P 0 (hkX 0)) ρ τ 63 (.top (PySem.W.Fast.tw16973666061100441957 (ρ 0))) (mkT [eF7 P k0 k1 k2 k3 k4 k5 sg rd row told up lo km z tz]) 1 0 1 [] []) [0] (.ref up) [] [some (eF7 P k0 k1 k2 k3 k4 k5 sg rd row told up lo km z tz)] := by refine Pb_elim fun b P => ?_; intros; cases b <;> kernel_rfl
theorem kE2l : ∀ (P : Params) (ρ τ : Nat → Nat) (k0 k1 k2 k3 k4 k5 : Nat) (sg rd row told up lo : Addr) (km : Nat) (z : Int) (tz : Nat), Said (runE (GH 530 P 0 (hkX 0)) ρ τ 63 (.top (PySem.W.Fast.tw7744465853224151136 (ρ 0))) (mkT [eF7 P k0 k1 k2 k3 k4 k5 sg rd row told up lo km z tz]) 1 0 1 [] []) [0] (.ref lo) [] [some (eF7 P k0 k1 k2 k3 k4 k5 sg rd row told up lo km z tz)] := by refine Pb_elim fun b P => ?_; intros; cases b <;> kernel_rfl
theorem kE3 : ∀ (P : Params) (ρ τ : Nat → Nat) (k0 k1 k2 k3 k4 k5 : Nat) (sg rd row told up lo : Addr) (km : Nat) (z : Int) (tz : Nat), Said (runE (GH 530 P 0 (hkX 0)) ρ τ 64 (.top (PySem.W.Fast.tw17668684018807250166 (ρ 0))) (mkT [eF7 P k0 k1 k2 k3 k4 k5 sg rd row told up lo km z tz]) 1 0 1 [] []) [0] (.ret (.ref told)) [] [some (eF7 P k0 k1 k2 k3 k4 k5 sg rd row told up lo km z tz)] := by refine Pb_elim fun b P => ?_; intros; cases b <;> kernel_rfl
theorem kE1r : ∀ (P : Params) (ρ τ : Nat → Nat) (k0 k1 k2 k3 k4 k5 : Nat) (sg rd told up lo : Addr) (km : Nat) (z : Int) (tz : Nat) (oa : Obj), Said (runE (GH 530 P 1 (hkX 1)) ρ τ 70 (.top (PySem.W.Fast.tw10558875929075599561 (ρ 1))) (mkT [oa, eF7 P k0 k1 k2 k3 k4 k5 sg rd (ρ 0) told up lo km z tz]) 2 0 3221227520 [] []) [1, 2] (.ref (ρ 2)) [PlcP oa ⟨#[40]⟩] [some (eF7 P k0 k1 k2 k3 k4 k5 sg rd (ρ 0) told up lo km z tz), some (lstO (kdL ((plc ((valsOf oa).map codeV) 40 1).map Kd.int) fun q => τ (1 + q)) (plc ((valsOf oa).map codeV) 40 1).length)] := by refine Pb_elim fun b P => ?_; intros; cases b <;> kernel_rfl
theorem kE2r : ∀ (P : Params) (ρ τ : Nat → Nat) (k0 k1 k2 k3 k4 k5 : Nat) (sg rd told up lo : Addr) (km : Nat) (z : Int) (tz : Nat) (oa : Obj), Said (runE (GH 530 P 1 (hkX 1)) ρ τ 70 (.top (PySem.W.Fast.tw7520998310299170042 (ρ 1))) (mkT [oa, eF7 P k0 k1 k2 k3 k4 k5 sg rd (ρ 0) told up lo km z tz]) 2 0 3221227520 [] []) [1, 2] (.ref (ρ 2)) [PlcP oa ⟨#[41]⟩] [some (eF7 P k0 k1 k2 k3 k4 k5 sg rd (ρ 0) told up lo km z tz), some (lstO (kdL ((plc ((valsOf oa).map codeV) 41 1).map Kd.int) fun q => τ (1 + q)) (plc ((valsOf oa).map codeV) 41 1).length)] := by refine Pb_elim fun b P => ?_; intros; cases b <;> kernel_rfl
noncomputable def rowC (cs : List (Str × Tok)) (t : Tok) : Nat → List (Str × Tok)
  | 0 => cs.tail
  | k + 1 => cs.tail.take k ++ (⟨#[40]⟩, t) :: cs.drop (k + 2)
noncomputable def jE : Nat → Nat
  | 0 => 7
  | _ + 1 => 12
noncomputable def tE : Nat → Nat
  | 0 => 7
  | _ + 1 => 10
noncomputable def cE : Nat → Nat
  | 0 => 41
  | _ + 1 => 40
noncomputable def fE6 (k0 k1 k2 k3 k4 k5 sg : Nat) (P : Params) (ρ : Nat → Nat) : Obj := eF6 P k0 k1 k2 k3 k4 k5 sg (ρ 0) (ρ 1) (ρ 4) (ρ 2) (ρ 3)
noncomputable def fE7 (k0 k1 k2 k3 k4 k5 sg km : Nat) (z : Int) (tz : Nat) (P : Params) (ρ : Nat → Nat) : Obj := eF7 P k0 k1 k2 k3 k4 k5 sg (ρ 0) (ρ 1) (ρ 4) (ρ 2) (ρ 3) km z tz
noncomputable def gE (k0 k1 k2 k3 k4 k5 sg k km : Nat) (P : Params) (ρ τ : Nat → Nat) : Obj := eF7 P k0 k1 k2 k3 k4 k5 sg (ρ 0) (ρ (jE k)) (ρ 4) (ρ (jE k + 1)) (ρ (jE k + 2)) km (k : Int) (τ 0)
noncomputable abbrev KE (n k N orc : Nat) (fr : Params → (Nat → Nat) → Obj) (fr' : Params → (Nat → Nat) → (Nat → Nat) → Obj) : Prop := ∀ (P : Params) (ρ τ : Nat → Nat) (cs : List (Str × Tok)) (oR oU oW : Obj) (tv : List Value) (rn tn : Nat), cs.length = n →
  Said (runE (GH 530 P 4 (hkX 4)) ρ τ N (.top (PySem.W.Fast.tw4399361154780596773 (ρ 5))) (mkT [oR, lstO (strValues cs) rn, oU, oW, lstO tv tn, fr P ρ]) 6 0 orc [] []) [4, 5, jE k, jE k + 1, jE k + 2] .next [SldP oU oW, tv.toArray.size ≤ 1000, MatP (lstO (strValues cs) rn) oR k]
    [some (Obj.mapSeq (·.push (.str ⟨#[cE k]⟩ (τ 3))) (lstO tv tn)), some (fr' P ρ τ), some (lstO (strValues (rowC cs (τ 6) k)) 0), some (lstO (kdL ((sldU ((valsOf oU).map intV) ((valsOf oW).map intV)).map Kd.int) fun q => τ (tE k + q)) ((sldU ((valsOf oU).map intV) ((valsOf oW).map intV)).map Kd.int).length),
      some (lstO (kdL ((sldW ((valsOf oU).map intV) ((valsOf oW).map intV)).map Kd.int) fun q => τ (tE k + (((sldU ((valsOf oU).map intV) ((valsOf oW).map intV)).map Kd.int).length + q))) ((sldW ((valsOf oU).map intV) ((valsOf oW).map intV)).map Kd.int).length)]
theorem kE1_0_7 (k0 k1 k2 k3 k4 k5 sg km : Nat) (z : Int) (tz : Nat) : KE 1 0 207 36422711842876038744481972629546930830679236861384232664654660666245604091278031735682796241546447731305890243195185806884167506280266968898370598118374325879814380641931962367582943120763795171641133236926052163745603898969167872 (fE7 k0 k1 k2 k3 k4 k5 sg km z tz) (gE k0 k1 k2 k3 k4 k5 sg 0 km) := by refine Pb_elim fun b P => ?_; intro ρ τ cs oR oU oW tv rn tn h; obtain ⟨c0, rfl⟩ := len_1 h; cases b <;> kernel_rfl
theorem kE2_0_7 (k0 k1 k2 k3 k4 k5 sg km : Nat) (z : Int) (tz : Nat) : KE 2 0 207 36422711842876038744481972629546930830679236861384232664654660666245604091278031735682796241546447731305890243195185806884167506280266968898370598118374325879814380641931962367582943120763795171641133236926052163745603898969167872 (fE7 k0 k1 k2 k3 k4 k5 sg km z tz) (gE k0 k1 k2 k3 k4 k5 sg 0 km) := by refine Pb_elim fun b P => ?_; intro ρ τ cs oR oU oW tv rn tn h; obtain ⟨c0, c1, rfl⟩ := len_2 h; cases b <;> kernel_rfl
theorem kE2_1_7 (k0 k1 k2 k3 k4 k5 sg km : Nat) (z : Int) (tz : Nat) : KE 2 1 267 75975039364770686353223228861482477072289981561716548711257222789299817390176600837431941803755632569678267070268966769940591754851694064196570994790782111021909048032127879701564405819042007521136570037395872675979763938053722049517559405711405312904249825866103853754596844012525029125993798109405132521177461372384974848 (fE7 k0 k1 k2 k3 k4 k5 sg km z tz) (gE k0 k1 k2 k3 k4 k5 sg 1 km) := by refine Pb_elim fun b P => ?_; intro ρ τ cs oR oU oW tv rn tn h; obtain ⟨c0, c1, rfl⟩ := len_2 h; cases b <;> kernel_rfl
theorem kE3_0_7 (k0 k1 k2 k3 k4 k5 sg km : Nat) (z : Int) (tz : Nat) : KE 3 0 207 36422711842876038744481972629546930830679236861384232664654660666245604091278031735682796241546447731305890243195185806884167506280266968898370598118374325879814380641931962367582943120763795171641133236926052163745603898969167872 (fE7 k0 k1 k2 k3 k4 k5 sg km z tz) (gE k0 k1 k2 k3 k4 k5 sg 0 km) := by refine Pb_elim fun b P => ?_; intro ρ τ cs oR oU oW tv rn tn h; obtain ⟨c0, c1, c2, rfl⟩ := len_3 h; cases b <;> kernel_rfl
theorem kE3_1_7 (k0 k1 k2 k3 k4 k5 sg km : Nat) (z : Int) (tz : Nat) : KE 3 1 267 75975039364770686353223228861482477072289981561716548711257222789299817390176600837431941803755632569678267070268966769940591754851694064196570994790782111021909048032127879701564405819042007521136570037395872675979763938053722049517559405711405312904249825866103853754596844012525029125993798109405132521177461372384974848 (fE7 k0 k1 k2 k3 k4 k5 sg km z tz) (gE k0 k1 k2 k3 k4 k5 sg 1 km) := by refine Pb_elim fun b P => ?_; intro ρ τ cs oR oU oW tv rn tn h; obtain ⟨c0, c1, c2, rfl⟩ := len_3 h; cases b <;> kernel_rfl
theorem kE4_0_7 (k0 k1 k2 k3 k4 k5 sg km : Nat) (z : Int) (tz : Nat) : KE 4 0 207 36422711842876038744481972629546930830679236861384232664654660666245604091278031735682796241546447731305890243195185806884167506280266968898370598118374325879814380641931962367582943120763795171641133236926052163745603898969167872 (fE7 k0 k1 k2 k3 k4 k5 sg km z tz) (gE k0 k1 k2 k3 k4 k5 sg 0 km) := by refine Pb_elim fun b P => ?_; intro ρ τ cs oR oU oW tv rn tn h; obtain ⟨c0, c1, c2, c3, rfl⟩ := len_4 h; cases b <;> kernel_rfl
theorem kE4_1_7 (k0 k1 k2 k3 k4 k5 sg km : Nat) (z : Int) (tz : Nat) : KE 4 1 267 75975039364770686353223228861482477072289981561716548711257222789299817390176600837431941803755632569678267070268966769940591754851694064196570994790782111021909048032127879701564405819042007521136570037395872675979763938053722049517559405711405312904249825866103853754596844012525029125993798109405132521177461372384974848 (fE7 k0 k1 k2 k3 k4 k5 sg km z tz) (gE k0 k1 k2 k3 k4 k5 sg 1 km) := by refine Pb_elim fun b P => ?_; intro ρ τ cs oR oU oW tv rn tn h; obtain ⟨c0, c1, c2, c3, rfl⟩ := len_4 h; cases b <;> kernel_rfl
theorem kE4_3_7 (k0 k1 k2 k3 k4 k5 sg km : Nat) (z : Int) (tz : Nat) : KE 4 3 267 75975039364770686353223228861482477072289981561716548711257222789299817390176600837431941803755632569678267070268966769940591754851694064196570994790782111021909048032127879701564405819042007521136570037395872675979763938053722049517559405711405312904249825866103853754596844012525029125993798109405134882360702807207581696 (fE7 k0 k1 k2 k3 k4 k5 sg km z tz) (gE k0 k1 k2 k3 k4 k5 sg 3 km) := by refine Pb_elim fun b P => ?_; intro ρ τ cs oR oU oW tv rn tn h; obtain ⟨c0, c1, c2, c3, rfl⟩ := len_4 h; cases b <;> kernel_rfl
theorem kE5_0_7 (k0 k1 k2 k3 k4 k5 sg km : Nat) (z : Int) (tz : Nat) : KE 5 0 207 36422711842876038744481972629546930830679236861384232664654660666245604091278031735682796241546447731305890243195185806884167506280266968898370598118374325879814380641931962367582943120763795171641133236926052163745603898969167872 (fE7 k0 k1 k2 k3 k4 k5 sg km z tz) (gE k0 k1 k2 k3 k4 k5 sg 0 km) := by refine Pb_elim fun b P => ?_; intro ρ τ cs oR oU oW tv rn tn h; obtain ⟨c0, c1, c2, c3, c4, rfl⟩ := len_5 h; cases b <;> kernel_rfl
theorem kE5_1_7 (k0 k1 k2 k3 k4 k5 sg km : Nat) (z : Int) (tz : Nat) : KE 5 1 267 75975039364770686353223228861482477072289981561716548711257222789299817390176600837431941803755632569678267070268966769940591754851694064196570994790782111021909048032127879701564405819042007521136570037395872675979763938053722049517559405711405312904249825866103853754596844012525029125993798109405132521177461372384974848 (fE7 k0 k1 k2 k3 k4 k5 sg km z tz) (gE k0 k1 k2 k3 k4 k5 sg 1 km) := by refine Pb_elim fun b P => ?_; intro ρ τ cs oR oU oW tv rn tn h; obtain ⟨c0, c1, c2, c3, c4, rfl⟩ := len_5 h; cases b <;> kernel_rfl
theorem kE5_3_7 (k0 k1 k2 k3 k4 k5 sg km : Nat) (z : Int) (tz : Nat) : KE 5 3 267 75975039364770686353223228861482477072289981561716548711257222789299817390176600837431941803755632569678267070268966769940591754851694064196570994790782111021909048032127879701564405819042007521136570037395872675979763938053722049517559405711405312904249825866103853754596844012525029125993798109405134882360702807207581696 (fE7 k0 k1 k2 k3 k4 k5 sg km z tz) (gE k0 k1 k2 k3 k4 k5 sg 3 km) := by refine Pb_elim fun b P => ?_; intro ρ τ cs oR oU oW tv rn tn h; obtain ⟨c0, c1, c2, c3, c4, rfl⟩ := len_5 h; cases b <;> kernel_rfl
theorem kE6_0_7 (k0 k1 k2 k3 k4 k5 sg km : Nat) (z : Int) (tz : Nat) : KE 6 0 207 36422711842876038744481972629546930830679236861384232664654660666245604091278031735682796241546447731305890243195185806884167506280266968898370598118374325879814380641931962367582943120763795171641133236926052163745603898969167872 (fE7 k0 k1 k2 k3 k4 k5 sg km z tz) (gE k0 k1 k2 k3 k4 k5 sg 0 km) := by refine Pb_elim fun b P => ?_; intro ρ τ cs oR oU oW tv rn tn h; obtain ⟨c0, c1, c2, c3, c4, c5, rfl⟩ := len_6 h; cases b <;> kernel_rfl
theorem kE6_1_7 (k0 k1 k2 k3 k4 k5 sg km : Nat) (z : Int) (tz : Nat) : KE 6 1 267 75975039364770686353223228861482477072289981561716548711257222789299817390176600837431941803755632569678267070268966769940591754851694064196570994790782111021909048032127879701564405819042007521136570037395872675979763938053722049517559405711405312904249825866103853754596844012525029125993798109405132521177461372384974848 (fE7 k0 k1 k2 k3 k4 k5 sg km z tz) (gE k0 k1 k2 k3 k4 k5 sg 1 km) := by refine Pb_elim fun b P => ?_; intro ρ τ cs oR oU oW tv rn tn h; obtain ⟨c0, c1, c2, c3, c4, c5, rfl⟩ := len_6 h; cases b <;> kernel_rfl
theorem kE6_3_7 (k0 k1 k2 k3 k4 k5 sg km : Nat) (z : Int) (tz : Nat) : KE 6 3 267 75975039364770686353223228861482477072289981561716548711257222789299817390176600837431941803755632569678267070268966769940591754851694064196570994790782111021909048032127879701564405819042007521136570037395872675979763938053722049517559405711405312904249825866103853754596844012525029125993798109405134882360702807207581696 (fE7 k0 k1 k2 k3 k4 k5 sg km z tz) (gE k0 k1 k2 k3 k4 k5 sg 3 km) := by refine Pb_elim fun b P => ?_; intro ρ τ cs oR oU oW tv rn tn h; obtain ⟨c0, c1, c2, c3, c4, c5, rfl⟩ := len_6 h; cases b <;> kernel_rfl
theorem kE6_5_7 (k0 k1 k2 k3 k4 k5 sg km : Nat) (z : Int) (tz : Nat) : KE 6 5 267 75975039364770686353223228861482477072289981561716548711257222789299817390176600837431941803755632569678267070268966769940591754851694064196570994790782111021909048032127879701564405819042007521136570037395872675979763938053722049517559405711405312904249825866103853754596844012525029125993798109405137243543944242030188544 (fE7 k0 k1 k2 k3 k4 k5 sg km z tz) (gE k0 k1 k2 k3 k4 k5 sg 5 km) := by refine Pb_elim fun b P => ?_; intro ρ τ cs oR oU oW tv rn tn h; obtain ⟨c0, c1, c2, c3, c4, c5, rfl⟩ := len_6 h; cases b <;> kernel_rfl
theorem kE7_0_7 (k0 k1 k2 k3 k4 k5 sg km : Nat) (z : Int) (tz : Nat) : KE 7 0 207 36422711842876038744481972629546930830679236861384232664654660666245604091278031735682796241546447731305890243195185806884167506280266968898370598118374325879814380641931962367582943120763795171641133236926052163745603898969167872 (fE7 k0 k1 k2 k3 k4 k5 sg km z tz) (gE k0 k1 k2 k3 k4 k5 sg 0 km) := by refine Pb_elim fun b P => ?_; intro ρ τ cs oR oU oW tv rn tn h; obtain ⟨c0, c1, c2, c3, c4, c5, c6, rfl⟩ := len_7 h; cases b <;> kernel_rfl
theorem kE7_1_7 (k0 k1 k2 k3 k4 k5 sg km : Nat) (z : Int) (tz : Nat) : KE 7 1 267 75975039364770686353223228861482477072289981561716548711257222789299817390176600837431941803755632569678267070268966769940591754851694064196570994790782111021909048032127879701564405819042007521136570037395872675979763938053722049517559405711405312904249825866103853754596844012525029125993798109405132521177461372384974848 (fE7 k0 k1 k2 k3 k4 k5 sg km z tz) (gE k0 k1 k2 k3 k4 k5 sg 1 km) := by refine Pb_elim fun b P => ?_; intro ρ τ cs oR oU oW tv rn tn h; obtain ⟨c0, c1, c2, c3, c4, c5, c6, rfl⟩ := len_7 h; cases b <;> kernel_rfl
theorem kE7_3_7 (k0 k1 k2 k3 k4 k5 sg km : Nat) (z : Int) (tz : Nat) : KE 7 3 267 75975039364770686353223228861482477072289981561716548711257222789299817390176600837431941803755632569678267070268966769940591754851694064196570994790782111021909048032127879701564405819042007521136570037395872675979763938053722049517559405711405312904249825866103853754596844012525029125993798109405134882360702807207581696 (fE7 k0 k1 k2 k3 k4 k5 sg km z tz) (gE k0 k1 k2 k3 k4 k5 sg 3 km) := by refine Pb_elim fun b P => ?_; intro ρ τ cs oR oU oW tv rn tn h; obtain ⟨c0, c1, c2, c3, c4, c5, c6, rfl⟩ := len_7 h; cases b <;> kernel_rfl
theorem kE7_5_7 (k0 k1 k2 k3 k4 k5 sg km : Nat) (z : Int) (tz : Nat) : KE 7 5 267 75975039364770686353223228861482477072289981561716548711257222789299817390176600837431941803755632569678267070268966769940591754851694064196570994790782111021909048032127879701564405819042007521136570037395872675979763938053722049517559405711405312904249825866103853754596844012525029125993798109405137243543944242030188544 (fE7 k0 k1 k2 k3 k4 k5 sg km z tz) (gE k0 k1 k2 k3 k4 k5 sg 5 km) := by refine Pb_elim fun b P => ?_; intro ρ τ cs oR oU oW tv rn tn h; obtain ⟨c0, c1, c2, c3, c4, c5, c6, rfl⟩ := len_7 h; cases b <;> kernel_rfl
theorem kE8_0_7 (k0 k1 k2 k3 k4 k5 sg km : Nat) (z : Int) (tz : Nat) : KE 8 0 207 36422711842876038744481972629546930830679236861384232664654660666245604091278031735682796241546447731305890243195185806884167506280266968898370598118374325879814380641931962367582943120763795171641133236926052163745603898969167872 (fE7 k0 k1 k2 k3 k4 k5 sg km z tz) (gE k0 k1 k2 k3 k4 k5 sg 0 km) := by refine Pb_elim fun b P => ?_; intro ρ τ cs oR oU oW tv rn tn h; obtain ⟨c0, c1, c2, c3, c4, c5, c6, c7, rfl⟩ := len_8 h; cases b <;> kernel_rfl
theorem kE8_1_7 (k0 k1 k2 k3 k4 k5 sg km : Nat) (z : Int) (tz : Nat) : KE 8 1 267 75975039364770686353223228861482477072289981561716548711257222789299817390176600837431941803755632569678267070268966769940591754851694064196570994790782111021909048032127879701564405819042007521136570037395872675979763938053722049517559405711405312904249825866103853754596844012525029125993798109405132521177461372384974848 (fE7 k0 k1 k2 k3 k4 k5 sg km z tz) (gE k0 k1 k2 k3 k4 k5 sg 1 km) := by refine Pb_elim fun b P => ?_; intro ρ τ cs oR oU oW tv rn tn h; obtain ⟨c0, c1, c2, c3, c4, c5, c6, c7, rfl⟩ := len_8 h; cases b <;> kernel_rfl
theorem kE8_3_7 (k0 k1 k2 k3 k4 k5 sg km : Nat) (z : Int) (tz : Nat) : KE 8 3 267 75975039364770686353223228861482477072289981561716548711257222789299817390176600837431941803755632569678267070268966769940591754851694064196570994790782111021909048032127879701564405819042007521136570037395872675979763938053722049517559405711405312904249825866103853754596844012525029125993798109405134882360702807207581696 (fE7 k0 k1 k2 k3 k4 k5 sg km z tz) (gE k0 k1 k2 k3 k4 k5 sg 3 km) := by refine Pb_elim fun b P => ?_; intro ρ τ cs oR oU oW tv rn tn h; obtain ⟨c0, c1, c2, c3, c4, c5, c6, c7, rfl⟩ := len_8 h; cases b <;> kernel_rfl
theorem kE8_5_7 (k0 k1 k2 k3 k4 k5 sg km : Nat) (z : Int) (tz : Nat) : KE 8 5 267 75975039364770686353223228861482477072289981561716548711257222789299817390176600837431941803755632569678267070268966769940591754851694064196570994790782111021909048032127879701564405819042007521136570037395872675979763938053722049517559405711405312904249825866103853754596844012525029125993798109405137243543944242030188544 (fE7 k0 k1 k2 k3 k4 k5 sg km z tz) (gE k0 k1 k2 k3 k4 k5 sg 5 km) := by refine Pb_elim fun b P => ?_; intro ρ τ cs oR oU oW tv rn tn h; obtain ⟨c0, c1, c2, c3, c4, c5, c6, c7, rfl⟩ := len_8 h; cases b <;> kernel_rfl
theorem kE8_7_7 (k0 k1 k2 k3 k4 k5 sg km : Nat) (z : Int) (tz : Nat) : KE 8 7 267 75975039364770686353223228861482477072289981561716548711257222789299817390176600837431941803755632569678267070268966769940591754851694064196570994790782111021909048032127879701564405819042007521136570037395872675979763938053722049517559405711405312904249825866103853754596844012525029125993798109405139604727185676852795392 (fE7 k0 k1 k2 k3 k4 k5 sg km z tz) (gE k0 k1 k2 k3 k4 k5 sg 7 km) := by refine Pb_elim fun b P => ?_; intro ρ τ cs oR oU oW tv rn tn h; obtain ⟨c0, c1, c2, c3, c4, c5, c6, c7, rfl⟩ := len_8 h; cases b <;> kernel_rfl
theorem kE6_0_6 (k0 k1 k2 k3 k4 k5 sg : Nat) : KE 6 0 207 36422711842876038744481972629546930830679236861384232664654660666245604091278031735682796241546447731305890243195185806884167506280266968898370598118374325879814380641931962367582943120763795171641133236926052163745603898969167872 (fE6 k0 k1 k2 k3 k4 k5 sg) (fun P ρ τ => gE k0 k1 k2 k3 k4 k5 sg 0 (τ 1) P ρ τ) := by refine Pb_elim fun b P => ?_; intro ρ τ cs oR oU oW tv rn tn h; obtain ⟨c0, c1, c2, c3, c4, c5, rfl⟩ := len_6 h; cases b <;> kernel_rfl
theorem kE6_1_6 (k0 k1 k2 k3 k4 k5 sg : Nat) : KE 6 1 267 75975039364770686353223228861482477072289981561716548711257222789299817390176600837431941803755632569678267070268966769940591754851694064196570994790782111021909048032127879701564405819042007521136570037395872675979763938053722049517559405711405312904249825866103853754596844012525029125993798109405132521177461372384974848 (fE6 k0 k1 k2 k3 k4 k5 sg) (fun P ρ τ => gE k0 k1 k2 k3 k4 k5 sg 1 (τ 1) P ρ τ) := by refine Pb_elim fun b P => ?_; intro ρ τ cs oR oU oW tv rn tn h; obtain ⟨c0, c1, c2, c3, c4, c5, rfl⟩ := len_6 h; cases b <;> kernel_rfl
theorem kE6_3_6 (k0 k1 k2 k3 k4 k5 sg : Nat) : KE 6 3 267 75975039364770686353223228861482477072289981561716548711257222789299817390176600837431941803755632569678267070268966769940591754851694064196570994790782111021909048032127879701564405819042007521136570037395872675979763938053722049517559405711405312904249825866103853754596844012525029125993798109405134882360702807207581696 (fE6 k0 k1 k2 k3 k4 k5 sg) (fun P ρ τ => gE k0 k1 k2 k3 k4 k5 sg 3 (τ 1) P ρ τ) := by refine Pb_elim fun b P => ?_; intro ρ τ cs oR oU oW tv rn tn h; obtain ⟨c0, c1, c2, c3, c4, c5, rfl⟩ := len_6 h; cases b <;> kernel_rfl
theorem kE6_5_6 (k0 k1 k2 k3 k4 k5 sg : Nat) : KE 6 5 267 75975039364770686353223228861482477072289981561716548711257222789299817390176600837431941803755632569678267070268966769940591754851694064196570994790782111021909048032127879701564405819042007521136570037395872675979763938053722049517559405711405312904249825866103853754596844012525029125993798109405137243543944242030188544 (fE6 k0 k1 k2 k3 k4 k5 sg) (fun P ρ τ => gE k0 k1 k2 k3 k4 k5 sg 5 (τ 1) P ρ τ) := by refine Pb_elim fun b P => ?_; intro ρ τ cs oR oU oW tv rn tn h; obtain ⟨c0, c1, c2, c3, c4, c5, rfl⟩ := len_6 h; cases b <;> kernel_rfl
theorem kE8_0_6 (k0 k1 k2 k3 k4 k5 sg : Nat) : KE 8 0 207 36422711842876038744481972629546930830679236861384232664654660666245604091278031735682796241546447731305890243195185806884167506280266968898370598118374325879814380641931962367582943120763795171641133236926052163745603898969167872 (fE6 k0 k1 k2 k3 k4 k5 sg) (fun P ρ τ => gE k0 k1 k2 k3 k4 k5 sg 0 (τ 1) P ρ τ) := by refine Pb_elim fun b P => ?_; intro ρ τ cs oR oU oW tv rn tn h; obtain ⟨c0, c1, c2, c3, c4, c5, c6, c7, rfl⟩ := len_8 h; cases b <;> kernel_rfl
theorem kE8_1_6 (k0 k1 k2 k3 k4 k5 sg : Nat) : KE 8 1 267 75975039364770686353223228861482477072289981561716548711257222789299817390176600837431941803755632569678267070268966769940591754851694064196570994790782111021909048032127879701564405819042007521136570037395872675979763938053722049517559405711405312904249825866103853754596844012525029125993798109405132521177461372384974848 (fE6 k0 k1 k2 k3 k4 k5 sg) (fun P ρ τ => gE k0 k1 k2 k3 k4 k5 sg 1 (τ 1) P ρ τ) := by refine Pb_elim fun b P => ?_; intro ρ τ cs oR oU oW tv rn tn h; obtain ⟨c0, c1, c2, c3, c4, c5, c6, c7, rfl⟩ := len_8 h; cases b <;> kernel_rfl
theorem kE8_3_6 (k0 k1 k2 k3 k4 k5 sg : Nat) : KE 8 3 267 75975039364770686353223228861482477072289981561716548711257222789299817390176600837431941803755632569678267070268966769940591754851694064196570994790782111021909048032127879701564405819042007521136570037395872675979763938053722049517559405711405312904249825866103853754596844012525029125993798109405134882360702807207581696 (fE6 k0 k1 k2 k3 k4 k5 sg) (fun P ρ τ => gE k0 k1 k2 k3 k4 k5 sg 3 (τ 1) P ρ τ) := by refine Pb_elim fun b P => ?_; intro ρ τ cs oR oU oW tv rn tn h; obtain ⟨c0, c1, c2, c3, c4, c5, c6, c7, rfl⟩ := len_8 h; cases b <;> kernel_rfl
theorem kE8_5_6 (k0 k1 k2 k3 k4 k5 sg : Nat) : KE 8 5 267 75975039364770686353223228861482477072289981561716548711257222789299817390176600837431941803755632569678267070268966769940591754851694064196570994790782111021909048032127879701564405819042007521136570037395872675979763938053722049517559405711405312904249825866103853754596844012525029125993798109405137243543944242030188544 (fE6 k0 k1 k2 k3 k4 k5 sg) (fun P ρ τ => gE k0 k1 k2 k3 k4 k5 sg 5 (τ 1) P ρ τ) := by refine Pb_elim fun b P => ?_; intro ρ τ cs oR oU oW tv rn tn h; obtain ⟨c0, c1, c2, c3, c4, c5, c6, c7, rfl⟩ := len_8 h; cases b <;> kernel_rfl
theorem kE8_7_6 (k0 k1 k2 k3 k4 k5 sg : Nat) : KE 8 7 267 75975039364770686353223228861482477072289981561716548711257222789299817390176600837431941803755632569678267070268966769940591754851694064196570994790782111021909048032127879701564405819042007521136570037395872675979763938053722049517559405711405312904249825866103853754596844012525029125993798109405139604727185676852795392 (fE6 k0 k1 k2 k3 k4 k5 sg) (fun P ρ τ => gE k0 k1 k2 k3 k4 k5 sg 7 (τ 1) P ρ τ) := by refine Pb_elim fun b P => ?_; intro ρ τ cs oR oU oW tv rn tn h; obtain ⟨c0, c1, c2, c3, c4, c5, c6, c7, rfl⟩ := len_8 h; cases b <;> kernel_rfl
theorem kE0 : ∀ (P : Params) (ρ τ : Nat → Nat) (k0 k1 : Nat) (rd : Addr) (oa : Obj), Said (runE (GH 530 P 1 (hkX 1)) ρ τ 205 (.top (PySem.W.Fast.tw4622956953759291087 (ρ 1))) (mkT [oa, eF2 P k0 k1 (ρ 0) rd]) 2 0 13349065062176187898654343723065063926348243166733249632670257447536331969094768375717784003916461714919551894422437237777831897396071159170647309458398242440839079757473319027507993925303414658628544125763550737059056145205484149045653934082 [] []) [1, 2, 7, 8] .next [PlcP oa ⟨#[41]⟩, PlcP oa ⟨#[40]⟩] [some (eF6 P k0 k1 (τ 0) (τ 1) (τ (3 + ((plc ((valsOf oa).map codeV) 40 1).map Kd.int).length + 1 + ((plc ((valsOf oa).map codeV) 41 1).map Kd.int).length)) (τ ((3 + ((plc ((valsOf oa).map codeV) 40 1).map Kd.int).length + 1 + ((plc ((valsOf oa).map codeV) 41 1).map Kd.int).length) + 1)) (ρ 0) rd (ρ 0) (ρ 2) (ρ 7) (ρ 8)), some (lstO [] 0), some (lstO (kdL ((plc ((valsOf oa).map codeV) 40 1).map Kd.int) fun q => τ (3 + q)) (plc ((valsOf oa).map codeV) 40 1).length), some (lstO (kdL ((plc ((valsOf oa).map codeV) 41 1).map Kd.int) fun q => τ ((3 + ((plc ((valsOf oa).map codeV) 40 1).map Kd.int).length + 1) + q)) (plc ((valsOf oa).map codeV) 41 1).length)] := by refine Pb_elim fun b P => ?_; intros; cases b <;> kernel_rfl
theorem kED (P : Params) (ρ τ : Nat → Nat) (a b : Addr) : (runE (GG P 0 noH) ρ τ 70 (.top (doorT 69 (fdAt 10 68 1) (bodyOf 10) ⟨[.ref a, .ref b], []⟩)) (mkT []) 0 0 1074791425 [] []).said [0] = (some (.again (.func (bodyOf 10) (eEnv (ρ 0)))), (runE (GG P 0 noH) ρ τ 70 (.top (doorT 69 (fdAt 10 68 1) (bodyOf 10) ⟨[.ref a, .ref b], []⟩)) (mkT []) 0 0 1074791425 [] []).owed, [], [some (eF2 P (τ 0) (τ 1) a b)]) := by kernel_rfl
/-! ## Plain: what rides, and the check -/
noncomputable def balN : Int → List Nat → Bool
  | h, [] => h == 0
  | h, c :: r => if c = 40 then balN (h + 1) r else if h - 1 < 0 then false else balN (h - 1) r
noncomputable def Cod (l : List Nat) (cs : List (Str × Tok)) : Prop := cs.map (·.1) = l.map fun c => (⟨#[c]⟩ : Str)
noncomputable def RidOne (x : Str) : Prop := x.cps.toList = [] ∨ x.cps.toList = [92, 92] ∨ x.cps.toList = [92, 41] ∨ x.cps.toList = [34, 41, 34] ∨ x.cps.toList = [92, 34]
noncomputable def RidOk (rs : List (Str × Tok)) : Prop := ∀ r ∈ rs, RidOne r.1
theorem Cod.len {l : List Nat} {cs : List (Str × Tok)} (h : Cod l cs) : cs.length = l.length := by
  have := congrArg List.length h
  simpa using this
theorem Cod.take {l : List Nat} {cs : List (Str × Tok)} (h : Cod l cs) (j : Nat) : Cod (l.take j) (cs.take j) := by
  unfold Cod at h ⊢
  rw [List.map_take, List.map_take, h]
theorem Cod.cons {l : List Nat} {p : Str × Tok} {cs : List (Str × Tok)} (h : Cod l (p :: cs)) : ∃ c l', l = c :: l' ∧ p.1 = ⟨#[c]⟩ ∧ Cod l' cs := by
  cases l with
  | nil => cases h
  | cons c l' =>
    unfold Cod at h
    simp only [List.map_cons, List.cons.injEq] at h
    exact ⟨c, l', rfl, h.1, h.2⟩
/-- a rider's items do nothing -/
theorem rid_items {x : Str} (h : RidOne x) : ∃ zs : List It, x.cps.toList = flat zs ∧ (∀ z ∈ zs, z.Ok) ∧ x.cps.toList.length ≤ 3 ∧ ∀ r o, qok false (zs ++ r) = qok false r ∧ bal o (noq false (zs ++ r)) = bal o (noq false r) := by
  rcases h with h | h | h | h | h
  · exact ⟨[], by rw [h]; rfl, (fun z hz => by cases hz), by rw [h]; decide, fun r o => ⟨rfl, rfl⟩⟩
  · exact ⟨[.es 92], by rw [h]; rfl, (fun z hz => by simp only [List.mem_singleton] at hz; subst hz; show (92 : Nat) < 128; omega), by rw [h]; decide, fun r o => ⟨rfl, rfl⟩⟩
  · exact ⟨[.es 41], by rw [h]; rfl, (fun z hz => by simp only [List.mem_singleton] at hz; subst hz; show (41 : Nat) < 128; omega), by rw [h]; decide, fun r o => ⟨rfl, rfl⟩⟩
  · refine ⟨[.pl 34, .pl 41, .pl 34], by rw [h]; rfl, fun z hz => ?_, by rw [h]; decide, fun r o => ⟨rfl, rfl⟩⟩
    simp only [List.mem_cons, List.not_mem_nil, or_false] at hz
    rcases hz with rfl | rfl | rfl
    · exact .inl rfl
    · exact .inr (.inr rfl)
    · exact .inl rfl
  · exact ⟨[.es 34], by rw [h]; rfl, (fun z hz => by simp only [List.mem_singleton] at hz; subst hz; show (34 : Nat) < 128; omega), by rw [h]; decide, fun r o => ⟨rfl, rfl⟩⟩
theorem its_of : ∀ (cs rs : List (Str × Tok)) (l : List Nat), Cod l cs → (∀ c ∈ l, c = 40 ∨ c = 41) → RidOk rs → cs.length ≤ rs.length →
    ∃ its : List It, textV (strValues cs) (strValues rs) = flat its ∧ (∀ z ∈ its, z.Ok) ∧ (flat its).length ≤ 4 * cs.length ∧ qok false its = true ∧ ∀ o, bal o (noq false its) = balN o l
  | [], rs, l, h, _, _, _ => by
    have : l = [] := by
      cases l with
      | nil => rfl
      | cons _ _ => cases h
    subst this
    exact ⟨[], by cases rs <;> rfl, (fun z hz => by cases hz), Nat.le_refl _, rfl, fun o => rfl⟩
  | p :: cs, [], l, _, _, _, hl => by simp at hl
  | p :: cs, q :: rs, l, h, hl, hr, hle => by
    obtain ⟨c, l', rfl, hp, hc⟩ := h.cons
    obtain ⟨its, e, ok, ln, qk, bl⟩ := its_of cs rs l' hc (fun x hx => hl x (.tail _ hx)) (fun x hx => hr x (.tail _ hx)) (by simpa using hle)
    obtain ⟨zs, ze, zok, zl, zz⟩ := rid_items (hr q (.head _))
    have hc' := hl c (.head _)
    refine ⟨.pl c :: (zs ++ its), ?_, ?_, ?_, ?_, fun o => ?_⟩
    · show p.1.cps.toList ++ (q.1.cps.toList ++ textV (strValues cs) (strValues rs)) = _
      rw [e, hp, ze, flat_cons, flat_append]; rfl
    · intro z hz
      rcases List.mem_cons.mp hz with rfl | hz
      · exact .inr hc'
      · rcases List.mem_append.mp hz with hz | hz
        · exact zok z hz
        · exact ok z hz
    · rw [flat_cons, flat_append, List.length_append, List.length_append, ← ze, List.length_cons]
      have : (It.pl c).txt.length = 1 := rfl
      omega
    · have : c ≠ 34 := by rcases hc' with h | h <;> omega
      show (if c = 34 then _ else qok false (zs ++ its)) = true
      rw [if_neg this, (zz its 0).1, qk]
    · have : c ≠ 34 := by rcases hc' with h | h <;> omega
      have e1 : noq false (.pl c :: (zs ++ its)) = .pl c :: noq false (zs ++ its) := by
        show (if c = 34 then _ else _) = _
        rw [if_neg this]; rfl
      rw [e1]
      show (if c = 40 then bal (o + 1) (noq false (zs ++ its)) else if c = 41 then (if o - 1 < 0 then false else bal (o - 1) (noq false (zs ++ its))) else _) = (if c = 40 then balN (o + 1) l' else if o - 1 < 0 then false else balN (o - 1) l')
      rcases hc' with rfl | rfl
      · rw [if_pos rfl, if_pos rfl, (zz its _).2, bl]
      · have n1 : ¬ (41 : Nat) = 40 := by decide
        rw [if_neg n1, if_pos rfl, if_neg n1, (zz its _).2, bl]
theorem chk_txt {cs rs : List (Str × Tok)} {l : List Nat} {b : Bool} (h : Cod l cs) (hl : ∀ c ∈ l, c = 40 ∨ c = 41) (hr : RidOk rs) (hle : cs.length ≤ rs.length) (h8 : rs.length = 6 ∨ rs.length = 8) (hb : balN 0 l = b) : ChkP (txt (strValues cs) (strValues rs)) b := by
  obtain ⟨its, e, ok, ln, qk, bl⟩ := its_of cs rs l h hl hr hle
  refine ⟨its, ⟨ok, ?_, qk, ?_⟩, by rw [bl, hb]⟩
  · show (textV _ _).toArray.toList = _
    rw [e]
  · show (textV _ _).toArray.size ≤ 1000
    rw [e, List.size_toArray]
    omega
theorem txt_sz {cs rs : List (Str × Tok)} {l : List Nat} (h : Cod l cs) (hl : ∀ c ∈ l, c = 40 ∨ c = 41) (hr : RidOk rs) (hle : cs.length ≤ rs.length) (h8 : rs.length = 6 ∨ rs.length = 8) : (textV (strValues cs) (strValues rs)).length ≤ 1000 := by
  obtain ⟨its, e, ok, ln, qk, bl⟩ := its_of cs rs l h hl hr hle
  rw [e]; omega
noncomputable def MatN (l : List Nat) (k : Nat) : Prop := (∀ j, j < l.length → j % 2 = 1 → (k = 0 ∨ j < k) → balN 0 (l.take (j + 1)) = false) ∧ (k ≠ 0 → k % 2 = 1 ∧ k < l.length ∧ balN 0 (l.take (k + 1)) = true)
noncomputable def matB (l : List Nat) (k : Nat) : Bool := decide ((∀ j, j < l.length → j % 2 = 1 → (k = 0 ∨ j < k) → balN 0 (l.take (j + 1)) = false) ∧ (k ≠ 0 → k % 2 = 1 ∧ k < l.length ∧ balN 0 (l.take (k + 1)) = true))
theorem matB_ok {l : List Nat} {k : Nat} (h : matB l k = true) : MatN l k := by
  unfold matB at h
  unfold MatN
  exact of_decide_eq_true h
theorem MatN.q {l : List Nat} {k : Nat} (m : MatN l k) {cs rs : List (Str × Tok)} (h : Cod l cs) (hl : ∀ c ∈ l, c = 40 ∨ c = 41) (hr : RidOk rs) (hle : cs.length ≤ rs.length) (h8 : rs.length = 6 ∨ rs.length = 8) (h1 : l ≠ []) : MatQ cs rs k := by
  have len := h.len
  have tk : ∀ j, (cs.take j).length ≤ rs.length := fun j => by rw [List.length_take]; omega
  have mem : ∀ j, ∀ c ∈ l.take j, c = 40 ∨ c = 41 := fun j c hc => hl c (List.mem_of_mem_take hc)
  refine ⟨?_, hle, h8, txt_sz h hl hr hle h8, fun j o hj hk => ?_, fun hk => ?_⟩
  · rw [len]; cases l with
    | nil => exact absurd rfl h1
    | cons _ _ => simp
  · exact chk_txt (h.take _) (mem _) hr (tk _) h8 (m.1 j (by omega) o hk)
  · obtain ⟨a, b, c⟩ := m.2 hk
    exact ⟨a, by omega, chk_txt (h.take _) (mem _) hr (tk _) h8 c⟩
/-! ## The table emptied: plain -/
noncomputable def rowN (l : List Nat) (k : Nat) : List Nat := if k = 0 then l.tail else l.tail.take (k - 1) ++ 40 :: l.drop (k + 1)
noncomputable def mateN (l : List Nat) : Nat := ((List.range l.length).filter fun k => k % 2 == 1 && balN 0 (l.take (k + 1))).headD 0
structure EmpOk (l : List Nat) (U W : List Int) (told : List Nat) : Prop where
  sg : ∀ c ∈ l, c = 40 ∨ c = 41
  len : l.length ≤ 8
  mat : MatN l (mateN l)
  u1 : 1 ≤ U.length
  u4 : U.length ≤ 4
  wu : W.length ≤ U.length
  row : rowN l (mateN l) ∈ rowsL
  up : sldU U W = plc (rowN l (mateN l)) 40 1
  lo : sldW U W = plc (rowN l (mateN l)) 41 1
  told : told.length ≤ 20
noncomputable def empB (l : List Nat) (U W : List Int) (told : List Nat) : Bool := decide (∀ c ∈ l, c = 40 ∨ c = 41) && (decide (l.length ≤ 8) && (matB l (mateN l) && (decide (1 ≤ U.length) && (decide (U.length ≤ 4) && (decide (W.length ≤ U.length) && (decide (rowN l (mateN l) ∈ rowsL) && (decide (sldU U W = plc (rowN l (mateN l)) 40 1) && (decide (sldW U W = plc (rowN l (mateN l)) 41 1) && decide (told.length ≤ 20)))))))))
theorem empB_ok {l : List Nat} {U W : List Int} {told : List Nat} (h : empB l U W told = true) : EmpOk l U W told := by
  unfold empB at h
  simp only [Bool.and_eq_true, decide_eq_true_eq] at h
  obtain ⟨a, b, c, d, e, f, g, i, j, k⟩ := h
  exact ⟨a, b, matB_ok c, d, e, f, g, i, j, k⟩
noncomputable def emp : Nat → List Nat → List Int → List Int → List Nat → Option (List Nat)
  | _, [], _, _, told => some told
  | 0, _ :: _, _, _, _ => none
  | f + 1, c :: l, U, W, told => if empB (c :: l) U W told = true then emp f (rowN (c :: l) (mateN (c :: l))) (sldU U W) (sldW U W) (told ++ [if mateN (c :: l) = 0 then 41 else 40]) else none
/-! ## Lists on the heap -/
theorem cod_vals : ∀ {l : List Nat} {cs : List (Str × Tok)}, Cod l cs → (strValues cs).map codeV = l
  | l, [], h => by cases l with
    | nil => rfl
    | cons _ _ => cases h
  | l, p :: cs, h => by
    obtain ⟨c, l', rfl, hp, hc⟩ := h.cons
    show codeV (.str p.1 p.2) :: (strValues cs).map codeV = _
    rw [cod_vals hc, hp]; rfl
theorem cod_rowV {l : List Nat} {cs : List (Str × Tok)} (h : Cod l cs) : ∃ t, strValues cs = rowV l t := by
  refine ⟨fun i => (cs.map (·.2)).getD i 0, List.ext_getElem? fun i => ?_⟩
  have e := congrArg (fun z : List Str => z[i]?) h
  simp only [List.getElem?_map] at e
  simp only [strValues, rowV, List.getElem?_map, List.getElem?_zipIdx]
  cases hc : cs[i]? with
  | none =>
    rw [hc] at e
    cases hl : l[i]? with
    | none => rfl
    | some c => rw [hl] at e; cases e
  | some p =>
    rw [hc] at e
    cases hl : l[i]? with
    | none => rw [hl] at e; cases e
    | some c =>
      rw [hl] at e
      simp only [Option.map_some, Option.some.injEq] at e
      simp only [Option.map_some, Option.some.injEq, Value.str.injEq, Nat.zero_add]
      refine ⟨e, ?_⟩
      simp [List.getD_eq_getElem?_getD, List.getElem?_map, hc]
theorem cod_plc {l : List Nat} {cs : List (Str × Tok)} {n : Nat} (h : Cod l cs) (hl : l ∈ rowsL) : PlcP (lstO (strValues cs) n) ⟨#[40]⟩ ∧ PlcP (lstO (strValues cs) n) ⟨#[41]⟩ := by
  obtain ⟨t, e⟩ := cod_rowV h
  exact ⟨⟨l, t, n, hl, by rw [e]; rfl, .inl rfl⟩, ⟨l, t, n, hl, by rw [e]; rfl, .inr rfl⟩⟩
theorem kdL_int (ks : List Int) (t : Nat → Nat) : ∃ Us : List (Int × Nat), Us.map (·.1) = ks ∧ kdL (ks.map Kd.int) t = Us.map fun p => .int p.1 p.2 := by
  refine ⟨ks.zipIdx.map fun p => (p.1, t p.2), ?_, ?_⟩
  · apply List.ext_getElem?
    intro i
    simp [List.getElem?_map, List.getElem?_zipIdx]
    cases ks[i]? <;> rfl
  · unfold kdL
    apply List.ext_getElem?
    intro i
    simp only [List.getElem?_map, List.getElem?_zipIdx]
    cases ks[i]? <;> rfl
theorem int_vals (Us : List (Int × Nat)) (n : Nat) : (valsOf (intF Us n)).map intV = Us.map (·.1) := by
  show (Us.map fun p => Value.int p.1 p.2).map intV = _
  rw [List.map_map]
  rfl
theorem intsAre (Us : List (Int × Nat)) : IntsAre (Us.map fun p => .int p.1 p.2) (Us.map (·.1)) := by
  induction Us with
  | nil => exact .nil
  | cons p Us ih => exact .cons _ _ ih
theorem intF_list {s : Shared} {a : Addr} {Us : List (Int × Nat)} {n : Nat} (h : s.heap.get? a = some (intF Us n)) : s.heap.IsList a (Us.map fun p => .int p.1 p.2).toArray := ⟨_, h, rfl, _, rfl⟩
/-! ## One turn's statements -/
theorem e_turn {w : World} {A : Around} {Q : Flow → Shared → Prop} {E : Value → Shared → Prop} {s : Shared} {K : Addr → Option Obj} (X : TopK w.params K) (hk : Ext K s.heap) (hh : A.handled = none) (hd : A.depth + 100 + 530 < recursionLimit) (hg : AllBare s.gens) (N orc jr ju jl ti c k : Nat)
    {rd row up lo tl L : Addr} {oR oU oW : Obj} {vs tv : List Value} {rn tn : Nat} (fr : (Nat → Nat) → Obj) (vs' : (Nat → Nat) → List Value) (fr' : (Nat → Nat) → (Nat → Nat) → Obj)
    (h0 : s.heap.get? rd = some oR) (h1 : s.heap.get? row = some (lstO vs rn)) (h2 : s.heap.get? up = some oU) (h3 : s.heap.get? lo = some oW) (h4 : s.heap.get? tl = some (lstO tv tn)) (h5 : s.heap.get? L = some (fr (adr [rd, row, up, lo, tl, L])))
    (n4 : tl ∉ [rd, row, up, lo]) (n5 : L ∉ [rd, row, up, lo, tl]) (K4 : K tl = none) (K5 : K L = none) (q1 : 6 ≤ jr) (q2 : 6 ≤ ju) (q3 : 6 ≤ jl) (d1 : jr ≠ ju) (d2 : jr ≠ jl) (d3 : ju ≠ jl)
    (hfr : ∀ ρ', Agree (adr [rd, row, up, lo, tl, L]) ρ' 6 → fr ρ' = fr (adr [rd, row, up, lo, tl, L]))
    (hrun : ∀ ρ τ, (runE (GH 530 w.params 4 (hkX 4)) ρ τ N (.top (PySem.W.Fast.tw4399361154780596773 (ρ 5))) (mkT [oR, lstO vs rn, oU, oW, lstO tv tn, fr ρ]) 6 0 orc [] []).said [4, 5, jr, ju, jl] =
      (some .next, (runE (GH 530 w.params 4 (hkX 4)) ρ τ N (.top (PySem.W.Fast.tw4399361154780596773 (ρ 5))) (mkT [oR, lstO vs rn, oU, oW, lstO tv tn, fr ρ]) 6 0 orc [] []).owed, [SldP oU oW, tv.toArray.size ≤ 1000, MatP (lstO vs rn) oR k],
        [some (Obj.mapSeq (·.push (.str ⟨#[c]⟩ (τ 3))) (lstO tv tn)), some (fr' ρ τ), some (lstO (vs' τ) 0), some (lstO (kdL ((sldU ((valsOf oU).map intV) ((valsOf oW).map intV)).map Kd.int) fun q => τ (ti + q)) ((sldU ((valsOf oU).map intV) ((valsOf oW).map intV)).map Kd.int).length),
          some (lstO (kdL ((sldW ((valsOf oU).map intV) ((valsOf oW).map intV)).map Kd.int) fun q => τ (ti + (((sldU ((valsOf oU).map intV) ((valsOf oW).map intV)).map Kd.int).length + q))) ((sldW ((valsOf oU).map intV) ((valsOf oW).map intV)).map Kd.int).length)]))
    (hp : SldP oU oW ∧ tv.toArray.size ≤ 1000 ∧ MatP (lstO vs rn) oR k)
    (hQ : ∀ ρ τ s' row' up' lo', ρ 0 = rd → ρ 4 = tl → ρ jr = row' → ρ ju = up' → ρ jl = lo' → s'.heap.get? tl = some (lstO (tv ++ [.str ⟨#[c]⟩ (τ 3)]) (tn + 1)) → s'.heap.get? L = some (fr' ρ τ) → s'.heap.get? row' = some (lstO (vs' τ) 0) →
      (∃ Us un, Us.map (·.1) = sldU ((valsOf oU).map intV) ((valsOf oW).map intV) ∧ s'.heap.get? up' = some (intF Us un)) → (∃ Ws wn, Ws.map (·.1) = sldW ((valsOf oU).map intV) ((valsOf oW).map intV) ∧ s'.heap.get? lo' = some (intF Ws wn)) →
      tl ∉ [rd, row', up', lo'] → L ∉ [rd, row', up', lo', tl] → (∀ b o, b ∉ [tl, L] → s.heap.get? b = some o → s'.heap.get? b = some o) → AllBare s'.gens → s'.os = s.os → Q .next s') : wpAny (model pw w) A (execs [eParts.m0, eParts.m1, eParts.m2, eParts.m3] (eEnv L)) Q E s := by
  have Xb : TopK w.params (butL s.heap [tl, L]) := top_butL X hk fun b hb => by
    simp only [List.mem_cons, List.not_mem_nil, or_false] at hb
    rcases hb with rfl | rfl
    · exact K4
    · exact K5
  show wpAny (model pw w) A (eTM L) Q E s
  rw [PySem.W.Fast.te4399361154780596773]
  simp only [List.mem_cons, List.not_mem_nil, or_false, not_or] at n4 n5
  obtain ⟨m0, m1, m2, m3⟩ := n4
  obtain ⟨l0, l1, l2, l3, l4⟩ := n5
  refine engH (B := ⟨butL s.heap [tl, L], AllBare, s.os⟩) 530 4 N [rd, row, up, lo, tl, L] (fun ρ => PySem.W.Fast.tw4399361154780596773 (ρ 5)) (fun ρ => [oR, lstO vs rn, oU, oW, lstO tv tn, fr ρ]) orc [4, 5, jr, ju, jl] (fun _ _ => .next) (fun _ _ => [SldP oU oW, tv.toArray.size ≤ 1000, MatP (lstO vs rn) oR k]) _
    Xb hh (by decide) hd (hkX_loc 4) (hkX_ok w Xb s.os 4) ?_ (fun ρ' aρ => ?_) (fun ρ' aρ => ?_) hrun (fun ρ τ _ => ⟨hp.1, hp.2.1, hp.2.2, trivial⟩) fun ρ τ T m s' aρ R e => ?_
  · refine Rep.make (B := ⟨butL s.heap [tl, L], AllBare, s.os⟩) 4 _ [oR, lstO vs rn, oU, oW, lstO tv tn, fr (adr [rd, row, up, lo, tl, L])] (butL_ext _ _) hg rfl (fun i o e => ?_) (fun i q hi => ?_) (fun i j q hi hj e => ?_)
    · match i, e with
      | 0, e => cases e; exact h0
      | 1, e => cases e; exact h1
      | 2, e => cases e; exact h2
      | 3, e => cases e; exact h3
      | 4, e => cases e; exact h4
      | 5, e => cases e; exact h5
      | i + 6, e => cases e
    · simp at hi
      have : i = 4 ∨ i = 5 := by omega
      rcases this with rfl | rfl
      · exact butL_in (List.mem_cons_self ..)
      · exact butL_in (List.mem_cons_of_mem _ (List.mem_cons_self ..))
    · simp at hi hj
      have : i = 4 ∨ i = 5 := by omega
      have hj' : j = 0 ∨ j = 1 ∨ j = 2 ∨ j = 3 ∨ j = 4 ∨ j = 5 := by omega
      rcases this with rfl | rfl
      · rcases hj' with rfl | rfl | rfl | rfl | rfl | rfl
        · exact absurd e m0
        · exact absurd e m1
        · exact absurd e m2
        · exact absurd e m3
        · rfl
        · exact absurd e.symm l4
      · rcases hj' with rfl | rfl | rfl | rfl | rfl | rfl
        · exact absurd e l0
        · exact absurd e l1
        · exact absurd e l2
        · exact absurd e l3
        · exact absurd e l4
        · rfl
  · show PySem.W.Fast.tw4399361154780596773 (ρ' 5) = PySem.W.Fast.tw4399361154780596773 (adr [rd, row, up, lo, tl, L] 5)
    rw [aρ 5 (by simp)]
  · show [oR, lstO vs rn, oU, oW, lstO tv tn, fr ρ'] = _
    rw [hfr ρ' aρ]
  · simp only [List.map_cons, List.map_nil, List.cons.injEq, and_true] at e
    obtain ⟨g4, g5, gr, gu, gl⟩ := e
    have e0 : ρ 0 = rd := aρ 0 (by simp)
    have e4 : ρ 4 = tl := aρ 4 (by simp)
    have e5 : ρ 5 = L := aρ 5 (by simp)
    rw [lstO_push] at g4
    have nw : ∀ {j o}, 6 ≤ j → T.get j = some o → ρ j ≠ tl ∧ ρ j ≠ L ∧ ρ j ≠ rd := fun {j o} hj hT => by
      have a4 : ρ j ≠ tl := fun q => by have := R.inj j 4 _ _ (by omega) hT g4 (q.trans e4.symm); omega
      have a5 : ρ j ≠ L := fun q => by have := R.inj j 5 _ _ (by omega) hT g5 (q.trans e5.symm); omega
      refine ⟨a4, a5, fun q => ?_⟩
      have := R.new j _ (by omega) hT
      rw [show (⟨butL s.heap [tl, L], AllBare, s.os⟩ : Bs).K (ρ j) = butL s.heap [tl, L] (ρ j) from rfl, butL_out (by simp [a4, a5]), q, h0] at this
      cases this
    obtain ⟨Us, u1, u2⟩ := kdL_int (sldU ((valsOf oU).map intV) ((valsOf oW).map intV)) fun q => τ (ti + q)
    obtain ⟨Ws, w1, w2⟩ := kdL_int (sldW ((valsOf oU).map intV) ((valsOf oW).map intV)) fun q => τ (ti + (((sldU ((valsOf oU).map intV) ((valsOf oW).map intV)).map Kd.int).length + q))
    rw [u2] at gu
    rw [w2] at gl
    refine hQ ρ τ s' _ _ _ e0 e4 rfl rfl rfl (by rw [← e4]; exact (R.own 4 _ g4).2) (by rw [← e5]; exact (R.own 5 _ g5).2) (R.own jr _ gr).2 ⟨Us, _, u1, (R.own ju _ gu).2⟩ ⟨Ws, _, w1, (R.own jl _ gl).2⟩ ?_ ?_ (fun b o q e => R.keep b o ((butL_out q).trans e)) R.gens R.os
    · simp only [List.mem_cons, List.not_mem_nil, or_false, not_or]
      exact ⟨m0, fun q => (nw q1 gr).1 q.symm, fun q => (nw q2 gu).1 q.symm, fun q => (nw q3 gl).1 q.symm⟩
    · simp only [List.mem_cons, List.not_mem_nil, or_false, not_or]
      exact ⟨l0, fun q => (nw q1 gr).2.1 q.symm, fun q => (nw q2 gu).2.1 q.symm, fun q => (nw q3 gl).2.1 q.symm, l4⟩
theorem cod_row {l : List Nat} {cs : List (Str × Tok)} (h : Cod l cs) (t : Tok) (k : Nat) : Cod (rowN l k) (rowC cs t k) := by
  unfold Cod at h ⊢
  cases k with
  | zero =>
    show cs.tail.map (·.1) = (rowN l 0).map _
    unfold rowN
    rw [if_pos rfl, List.map_tail, List.map_tail, h]
  | succ k =>
    show (cs.tail.take k ++ (⟨#[40]⟩, t) :: cs.drop (k + 2)).map (·.1) = (rowN l (k + 1)).map _
    unfold rowN
    rw [if_neg (Nat.succ_ne_zero k)]
    simp only [List.map_append, List.map_cons, List.map_take, List.map_drop, List.map_tail, h, Nat.add_sub_cancel]
theorem cod_snoc {l : List Nat} {cs : List (Str × Tok)} (h : Cod l cs) (c : Nat) (t : Tok) : Cod (l ++ [c]) (cs ++ [(⟨#[c]⟩, t)]) := by
  unfold Cod at h ⊢
  rw [List.map_append, List.map_append, h]; rfl
theorem tE7 (k0 k1 k2 k3 k4 k5 sg km : Nat) (z : Int) (tz : Nat) (n k : Nat) (h1 : 1 ≤ n) (h8 : n ≤ 8) (hk : k = 0 ∨ k % 2 = 1 ∧ k < n) : ∃ N orc, KE n k N orc (fE7 k0 k1 k2 k3 k4 k5 sg km z tz) (gE k0 k1 k2 k3 k4 k5 sg k km) := by
  rcases c8 h1 h8 with rfl | rfl | rfl | rfl | rfl | rfl | rfl | rfl
  · rcases ko1 hk with rfl
    · exact ⟨_, _, kE1_0_7 k0 k1 k2 k3 k4 k5 sg km z tz⟩
  · rcases ko2 hk with rfl | rfl
    · exact ⟨_, _, kE2_0_7 k0 k1 k2 k3 k4 k5 sg km z tz⟩
    · exact ⟨_, _, kE2_1_7 k0 k1 k2 k3 k4 k5 sg km z tz⟩
  · rcases ko3 hk with rfl | rfl
    · exact ⟨_, _, kE3_0_7 k0 k1 k2 k3 k4 k5 sg km z tz⟩
    · exact ⟨_, _, kE3_1_7 k0 k1 k2 k3 k4 k5 sg km z tz⟩
  · rcases ko4 hk with rfl | rfl | rfl
    · exact ⟨_, _, kE4_0_7 k0 k1 k2 k3 k4 k5 sg km z tz⟩
    · exact ⟨_, _, kE4_1_7 k0 k1 k2 k3 k4 k5 sg km z tz⟩
    · exact ⟨_, _, kE4_3_7 k0 k1 k2 k3 k4 k5 sg km z tz⟩
  · rcases ko5 hk with rfl | rfl | rfl
    · exact ⟨_, _, kE5_0_7 k0 k1 k2 k3 k4 k5 sg km z tz⟩
    · exact ⟨_, _, kE5_1_7 k0 k1 k2 k3 k4 k5 sg km z tz⟩
    · exact ⟨_, _, kE5_3_7 k0 k1 k2 k3 k4 k5 sg km z tz⟩
  · rcases ko6 hk with rfl | rfl | rfl | rfl
    · exact ⟨_, _, kE6_0_7 k0 k1 k2 k3 k4 k5 sg km z tz⟩
    · exact ⟨_, _, kE6_1_7 k0 k1 k2 k3 k4 k5 sg km z tz⟩
    · exact ⟨_, _, kE6_3_7 k0 k1 k2 k3 k4 k5 sg km z tz⟩
    · exact ⟨_, _, kE6_5_7 k0 k1 k2 k3 k4 k5 sg km z tz⟩
  · rcases ko7 hk with rfl | rfl | rfl | rfl
    · exact ⟨_, _, kE7_0_7 k0 k1 k2 k3 k4 k5 sg km z tz⟩
    · exact ⟨_, _, kE7_1_7 k0 k1 k2 k3 k4 k5 sg km z tz⟩
    · exact ⟨_, _, kE7_3_7 k0 k1 k2 k3 k4 k5 sg km z tz⟩
    · exact ⟨_, _, kE7_5_7 k0 k1 k2 k3 k4 k5 sg km z tz⟩
  · rcases ko8 hk with rfl | rfl | rfl | rfl | rfl
    · exact ⟨_, _, kE8_0_7 k0 k1 k2 k3 k4 k5 sg km z tz⟩
    · exact ⟨_, _, kE8_1_7 k0 k1 k2 k3 k4 k5 sg km z tz⟩
    · exact ⟨_, _, kE8_3_7 k0 k1 k2 k3 k4 k5 sg km z tz⟩
    · exact ⟨_, _, kE8_5_7 k0 k1 k2 k3 k4 k5 sg km z tz⟩
    · exact ⟨_, _, kE8_7_7 k0 k1 k2 k3 k4 k5 sg km z tz⟩
theorem tE6 (k0 k1 k2 k3 k4 k5 sg : Nat) (n k : Nat) (h : n = 6 ∨ n = 8) (hk : k = 0 ∨ k % 2 = 1 ∧ k < n) : ∃ N orc, KE n k N orc (fE6 k0 k1 k2 k3 k4 k5 sg) (fun P ρ τ => gE k0 k1 k2 k3 k4 k5 sg k (τ 1) P ρ τ) := by
  rcases h with rfl | rfl
  · rcases ko6 hk with rfl | rfl | rfl | rfl
    · exact ⟨_, _, kE6_0_6 k0 k1 k2 k3 k4 k5 sg⟩
    · exact ⟨_, _, kE6_1_6 k0 k1 k2 k3 k4 k5 sg⟩
    · exact ⟨_, _, kE6_3_6 k0 k1 k2 k3 k4 k5 sg⟩
    · exact ⟨_, _, kE6_5_6 k0 k1 k2 k3 k4 k5 sg⟩
  · rcases ko8 hk with rfl | rfl | rfl | rfl | rfl
    · exact ⟨_, _, kE8_0_6 k0 k1 k2 k3 k4 k5 sg⟩
    · exact ⟨_, _, kE8_1_6 k0 k1 k2 k3 k4 k5 sg⟩
    · exact ⟨_, _, kE8_3_6 k0 k1 k2 k3 k4 k5 sg⟩
    · exact ⟨_, _, kE8_5_6 k0 k1 k2 k3 k4 k5 sg⟩
    · exact ⟨_, _, kE8_7_6 k0 k1 k2 k3 k4 k5 sg⟩
/-- the loop's state -/
inductive ES (P : Params) (K : Addr → Option Obj) (rs : List (Str × Tok)) (rd L : Addr) (first : Bool) (l : List Nat) (U W : List Int) (told : List Nat) (s : Shared) : Prop
  | mk (k0 k1 k2 k3 k4 k5 : Nat) (sg row tl up lo : Addr) (cs : List (Str × Tok)) (rn : Nat) (Us : List (Int × Nat)) (un : Nat) (Ws : List (Int × Nat)) (wn : Nat) (ts : List (Str × Tok)) (tn rrn : Nat) (h0 : s.heap.get? rd = some (lstO (strValues rs) rrn)) (h1 : s.heap.get? row = some (lstO (strValues cs) rn)) (hcod : Cod l cs) (h2 : s.heap.get? up = some (intF Us un)) (hU : Us.map (·.1) = U) (h3 : s.heap.get? lo = some (intF Ws wn)) (hW : Ws.map (·.1) = W)
    (h4 : s.heap.get? tl = some (lstO (strValues ts) tn)) (htold : Cod told ts) (Ktl : K tl = none) (n4 : tl ∉ [rd, row, up, lo]) (n5 : L ∉ [rd, row, up, lo, tl])
    (hfr : (first = true ∧ s.heap.get? L = some (eF6 P k0 k1 k2 k3 k4 k5 sg rd row tl up lo)) ∨ ∃ km z tz, first = false ∧ s.heap.get? L = some (eF7 P k0 k1 k2 k3 k4 k5 sg rd row tl up lo km z tz)) : ES P K rs rd L first l U W told s
theorem e_step {w : World} {A : Around} {Q : Flow → Shared → Prop} {E : Value → Shared → Prop} {s : Shared} {K : Addr → Option Obj} (X : TopK w.params K) (hk : Ext K s.heap) (hh : A.handled = none) (hd : A.depth + 100 + 530 < recursionLimit) (hg : AllBare s.gens) {rs : List (Str × Tok)} (hr : RidOk rs) (h68 : rs.length = 6 ∨ rs.length = 8) {rd L : Addr} {first : Bool} {l : List Nat} {U W : List Int} {told : List Nat}
    (KL : K L = none) (S : ES w.params K rs rd L first l U W told s) (ok : EmpOk l U W told) (hne : l ≠ []) (hle : l.length ≤ rs.length) (hf : first = true → l.length = 6 ∨ l.length = 8)
    (hQ : ∀ s', ES w.params K rs rd L false (rowN l (mateN l)) (sldU U W) (sldW U W) (told ++ [if mateN l = 0 then 41 else 40]) s' → Ext K s'.heap → AllBare s'.gens → s'.os = s.os → Q .next s') : wpAny (model pw w) A (execs [eParts.m0, eParts.m1, eParts.m2, eParts.m3] (eEnv L)) Q E s := by
  obtain ⟨k0, k1, k2, k3, k4, k5, sg, row, tl, up, lo, cs, rn, Us, un, Ws, wn, ts, tn, rrn, h0, h1, hcod, h2, hU, h3, hW, h4, htold, Ktl, n4, n5, hfr⟩ := S
  have len := hcod.len
  have hk01 : mateN l = 0 ∨ mateN l % 2 = 1 ∧ mateN l < cs.length := by
    by_cases q : mateN l = 0
    · exact .inl q
    · obtain ⟨a, b, _⟩ := ok.mat.2 q
      exact .inr ⟨a, by omega⟩
  have hM : MatQ cs rs (mateN l) := ok.mat.q hcod ok.sg hr (by omega) h68 hne
  have hp : SldP (intF Us un) (intF Ws wn) ∧ (strValues ts).toArray.size ≤ 1000 ∧ MatP (lstO (strValues cs) rn) (lstO (strValues rs) rrn) (mateN l) := by
    refine ⟨⟨Us, Ws, un, wn, rfl, rfl, ?_, ?_, ?_⟩, ?_, ⟨cs, rs, rn, rrn, rfl, rfl, hM⟩⟩
    · have := ok.u1; rw [← hU] at this; simpa using this
    · have := ok.u4; rw [← hU] at this; simpa using this
    · have := ok.wu; rw [← hU, ← hW] at this; simpa using this
    · have := htold.len
      have := ok.told
      simp only [List.size_toArray, strValues, List.length_map]
      omega
  have ext : ∀ {s' : Shared}, (∀ b o, b ∉ [tl, L] → s.heap.get? b = some o → s'.heap.get? b = some o) → Ext K s'.heap := fun k b o q => k b o (fun z => by
    simp only [List.mem_cons, List.not_mem_nil, or_false] at z
    rcases z with rfl | rfl
    · rw [Ktl] at q; cases q
    · rw [KL] at q; cases q) (hk b o q)
  have eU : sldU ((valsOf (intF Us un)).map intV) ((valsOf (intF Ws wn)).map intV) = sldU U W := by rw [int_vals, int_vals, hU, hW]
  have eW : sldW ((valsOf (intF Us un)).map intV) ((valsOf (intF Ws wn)).map intV) = sldW U W := by rw [int_vals, int_vals, hU, hW]
  have rdk : rd ∉ [tl, L] := fun z => by
    simp only [List.mem_cons, List.not_mem_nil, or_false, not_or] at z n4 n5
    rcases z with z | z
    · exact n4.1 z.symm
    · exact n5.1 z.symm
  have fin : ∀ {c : Nat} {t : Nat → Nat}, c = (if mateN l = 0 then 41 else 40) → ∀ {s' : Shared} {km : Nat} {z : Int} {tz : Nat} {row' up' lo' : Addr}, s'.heap.get? tl = some (lstO (strValues ts ++ [.str ⟨#[c]⟩ (t 3)]) (tn + 1)) → s'.heap.get? L = some (eF7 w.params k0 k1 k2 k3 k4 k5 sg rd row' tl up' lo' km z tz) → s'.heap.get? row' = some (lstO (strValues (rowC cs (t 6) (mateN l))) 0) →
      (∃ Us' un, Us'.map (·.1) = sldU ((valsOf (intF Us un)).map intV) ((valsOf (intF Ws wn)).map intV) ∧ s'.heap.get? up' = some (intF Us' un)) → (∃ Ws' wn', Ws'.map (·.1) = sldW ((valsOf (intF Us un)).map intV) ((valsOf (intF Ws wn)).map intV) ∧ s'.heap.get? lo' = some (intF Ws' wn')) →
      tl ∉ [rd, row', up', lo'] → L ∉ [rd, row', up', lo', tl] → (∀ b o, b ∉ [tl, L] → s.heap.get? b = some o → s'.heap.get? b = some o) → AllBare s'.gens → s'.os = s.os → Q .next s' := by
    intro c t hc s' km z tz row' up' lo' g1 g2 g3 g4 g5 m4 m5 k b o
    obtain ⟨Us', un', q1, q2⟩ := g4
    obtain ⟨Ws', wn', q3, q4⟩ := g5
    rw [strVals_snoc] at g1
    refine hQ s' ⟨k0, k1, k2, k3, k4, k5, sg, row', tl, up', lo', rowC cs (t 6) (mateN l), 0, Us', un', Ws', wn', ts ++ [(⟨#[c]⟩, t 3)], tn + 1, rrn, k _ _ rdk h0, g3, cod_row hcod _ _, q2, by rw [q1, int_vals, int_vals, hU, hW], q4, by rw [q3, int_vals, int_vals, hU, hW], g1, by rw [← hc]; exact cod_snoc htold _ _, Ktl, m4, m5, .inr ⟨km, z, tz, rfl, g2⟩⟩ (ext k) b o
  have l8 := ok.len
  have c1 := hM.one
  have fo : first = true → cs.length = 6 ∨ cs.length = 8 := fun h => by rw [len]; exact hf h
  have l8' : cs.length ≤ 8 := by omega
  clear hM ok hcod hQ hf len eU eW
  generalize mateN l = k at *
  have hc : cE k = (if k = 0 then 41 else 40) := by cases k <;> rfl
  have j6 : 6 ≤ jE k := by
    cases k with
    | zero => exact (by decide : 6 ≤ 7)
    | succ k => exact (by decide : 6 ≤ 12)
  rcases hfr with ⟨hft, hF⟩ | ⟨km, z, tz, _, hF⟩
  · have t6 := tE6 k0 k1 k2 k3 k4 k5 sg cs.length k (fo hft) hk01
    obtain ⟨N, orc, ke⟩ := t6
    refine e_turn X hk hh hd hg N orc (jE k) (jE k + 1) (jE k + 2) (tE k) (cE k) k (fE6 k0 k1 k2 k3 k4 k5 sg w.params) (fun τ => strValues (rowC cs (τ 6) k)) (fun ρ τ => gE k0 k1 k2 k3 k4 k5 sg k (τ 1) w.params ρ τ) h0 h1 h2 h3 h4 hF n4 n5 Ktl KL j6 (by omega) (by omega) (by omega) (by omega) (by omega) (fun ρ' a => ?_) (fun ρ τ => ke w.params ρ τ cs _ _ _ _ rn tn rfl) hp fun ρ τ s' row' up' lo' e0 e4 er eu el g1 g2 g3 g4 g5 m4 m5 k b o => ?_
    · simp only [fE6, a 0 (by decide), a 1 (by decide), a 2 (by decide), a 3 (by decide), a 4 (by decide)]
    · unfold gE at g2
      rw [e0, e4, er, eu, el] at g2
      exact fin (t := τ) hc g1 g2 g3 g4 g5 m4 m5 k b o
  · obtain ⟨N, orc, ke⟩ := tE7 k0 k1 k2 k3 k4 k5 sg km z tz cs.length k c1 l8' hk01
    refine e_turn X hk hh hd hg N orc (jE k) (jE k + 1) (jE k + 2) (tE k) (cE k) k (fE7 k0 k1 k2 k3 k4 k5 sg km z tz w.params) (fun τ => strValues (rowC cs (τ 6) k)) (fun ρ τ => gE k0 k1 k2 k3 k4 k5 sg k km w.params ρ τ) h0 h1 h2 h3 h4 hF n4 n5 Ktl KL j6 (by omega) (by omega) (by omega) (by omega) (by omega) (fun ρ' a => ?_) (fun ρ τ => ke w.params ρ τ cs _ _ _ _ rn tn rfl) hp fun ρ τ s' row' up' lo' e0 e4 er eu el g1 g2 g3 g4 g5 m4 m5 k b o => ?_
    · simp only [fE7, a 0 (by decide), a 1 (by decide), a 2 (by decide), a 3 (by decide), a 4 (by decide)]
    · unfold gE at g2
      rw [e0, e4, er, eu, el] at g2
      exact fin (t := τ) hc g1 g2 g3 g4 g5 m4 m5 k b o
/-! ## The loop of the emptying, whole -/
section
variable {α : Type} {w : World} {A : Around} {Q : α → Shared → Prop} {E : Value → Shared → Prop} {H : Nat → Hk} {s : Shared}
/-- one object looked at, the frame in hand; nothing new is wanted -/
theorem runB (h n orc : Nat) (a L : Addr) (t : Addr → Sem α) (oa : Obj) (o : Addr → Obj) (val : α)
    (X : TopK w.params (butL s.heap [L])) (hh : A.handled = none) (h2 : 200 ≤ h) (hd : A.depth + 100 + h < recursionLimit) (hl : ∀ n, HLoc (H n)) (hk : ∀ n, HOkH pw w ⟨butL s.heap [L], AllBare, s.os⟩ 1 h (H n)) (hg : AllBare s.gens) (ha : s.heap.get? a = some oa) (hL : s.heap.get? L = some (o a)) (hne : L ≠ a)
    (hrun : ∀ ρ τ, (runE (GH h w.params 1 H) ρ τ n (.top (t (ρ 1))) (mkT [oa, o (ρ 0)]) 2 0 orc [] []).said [1] = (some val, (runE (GH h w.params 1 H) ρ τ n (.top (t (ρ 1))) (mkT [oa, o (ρ 0)]) 2 0 orc [] []).owed, [], [some (o (ρ 0))]))
    (hQ : ∀ s', s'.heap.get? L = some (o a) → (∀ b ob, b ≠ L → s.heap.get? b = some ob → s'.heap.get? b = some ob) → AllBare s'.gens → s'.os = s.os → Q val s') : wpAny (model pw w) A (t L) Q E s := by
  refine engH (B := ⟨butL s.heap [L], AllBare, s.os⟩) h 1 n [a, L] (fun ρ => t (ρ 1)) (fun ρ => [oa, o (ρ 0)]) orc [1] (fun _ _ => val) (fun _ _ => []) (fun ρ τ => [some (o (ρ 0))]) X hh h2 hd hl hk ?_ (fun ρ' aρ => ?_) (fun ρ' aρ => ?_) hrun (fun ρ τ _ => trivial) fun ρ τ T m s' aρ R e => ?_
  · refine Rep.make (B := ⟨butL s.heap [L], AllBare, s.os⟩) 1 _ [oa, o a] (butL_ext _ _) hg rfl (fun i ob e => ?_) (fun i h1 hi => ?_) (fun i j h1 hi hj q => ?_)
    · match i, e with
      | 0, e => cases e; exact ha
      | 1, e => cases e; exact hL
      | i + 2, e => cases e
    · simp at hi
      have : i = 1 := by omega
      subst this; exact butL_in (List.mem_cons_self ..)
    · simp at hi hj
      have : i = 1 := by omega
      subst this
      have hj' : j = 0 ∨ j = 1 := by omega
      rcases hj' with rfl | rfl
      · exact absurd q hne
      · rfl
  · show t (ρ' 1) = t (adr [a, L] 1)
    rw [aρ 1 (by simp)]
  · show [oa, o (ρ' 0)] = [oa, o (adr [a, L] 0)]
    rw [aρ 0 (by simp)]
  · have e0 : ρ 0 = a := aρ 0 (by simp)
    have e1 : ρ 1 = L := aρ 1 (by simp)
    simp only [List.map_cons, List.map_nil, List.cons.injEq, and_true] at e
    rw [e0] at e
    exact hQ s' (by rw [← e1]; exact (R.own 1 _ e).2) (fun b ob q e' => R.keep b ob ((butL_out (by simpa using q)).trans e')) R.gens R.os
/-- one object looked at, the frame in hand; a new object -/
theorem runR {Q : Value → Shared → Prop} (h n orc : Nat) (a L : Addr) (t : Addr → Sem Value) (oa : Obj) (o : Addr → Obj) (new : (Nat → Nat) → (Nat → Nat) → Obj) (ps : List Prop)
    (X : TopK w.params (butL s.heap [L])) (hh : A.handled = none) (h2 : 200 ≤ h) (hd : A.depth + 100 + h < recursionLimit) (hl : ∀ n, HLoc (H n)) (hk : ∀ n, HOkH pw w ⟨butL s.heap [L], AllBare, s.os⟩ 1 h (H n)) (hg : AllBare s.gens) (ha : s.heap.get? a = some oa) (hL : s.heap.get? L = some (o a)) (hne : L ≠ a)
    (hrun : ∀ ρ τ, (runE (GH h w.params 1 H) ρ τ n (.top (t (ρ 1))) (mkT [oa, o (ρ 0)]) 2 0 orc [] []).said [1, 2] = (some (.ref (ρ 2)), (runE (GH h w.params 1 H) ρ τ n (.top (t (ρ 1))) (mkT [oa, o (ρ 0)]) 2 0 orc [] []).owed, ps, [some (o (ρ 0)), some (new ρ τ)])) (hp : AllP ps)
    (hQ : ∀ ρ τ c s', s'.heap.get? L = some (o a) → s.heap.get? c = none → c ≠ L → s'.heap.get? c = some (new ρ τ) → (∀ b ob, b ≠ L → s.heap.get? b = some ob → s'.heap.get? b = some ob) → AllBare s'.gens → s'.os = s.os → Q (.ref c) s') : wpAny (model pw w) A (t L) Q E s := by
  refine engH (B := ⟨butL s.heap [L], AllBare, s.os⟩) h 1 n [a, L] (fun ρ => t (ρ 1)) (fun ρ => [oa, o (ρ 0)]) orc [1, 2] (fun ρ _ => .ref (ρ 2)) (fun _ _ => ps) (fun ρ τ => [some (o (ρ 0)), some (new ρ τ)]) X hh h2 hd hl hk ?_ (fun ρ' aρ => ?_) (fun ρ' aρ => ?_) hrun (fun ρ τ _ => hp) fun ρ τ T m s' aρ R e => ?_
  · refine Rep.make (B := ⟨butL s.heap [L], AllBare, s.os⟩) 1 _ [oa, o a] (butL_ext _ _) hg rfl (fun i ob e => ?_) (fun i h1 hi => ?_) (fun i j h1 hi hj q => ?_)
    · match i, e with
      | 0, e => cases e; exact ha
      | 1, e => cases e; exact hL
      | i + 2, e => cases e
    · simp at hi
      have : i = 1 := by omega
      subst this; exact butL_in (List.mem_cons_self ..)
    · simp at hi hj
      have : i = 1 := by omega
      subst this
      have hj' : j = 0 ∨ j = 1 := by omega
      rcases hj' with rfl | rfl
      · exact absurd q hne
      · rfl
  · show t (ρ' 1) = t (adr [a, L] 1)
    rw [aρ 1 (by simp)]
  · show [oa, o (ρ' 0)] = [oa, o (adr [a, L] 0)]
    rw [aρ 0 (by simp)]
  · have e0 : ρ 0 = a := aρ 0 (by simp)
    have e1 : ρ 1 = L := aρ 1 (by simp)
    simp only [List.map_cons, List.map_nil, List.cons.injEq, and_true] at e
    rw [e0] at e
    have ne : ρ 2 ≠ L := fun q => by have := R.inj 2 1 _ _ (by omega) e.2 e.1 (q.trans e1.symm); cases this
    have fr := R.new 2 _ (by omega) e.2
    rw [show (⟨butL s.heap [L], AllBare, s.os⟩ : Bs).K (ρ 2) = butL s.heap [L] (ρ 2) from rfl, butL_out (by simpa using ne)] at fr
    exact hQ ρ τ _ s' (by rw [← e1]; exact (R.own 1 _ e.1).2) fr ne (R.own 2 _ e.2).2 (fun b ob q e' => R.keep b ob ((butL_out (by simpa using q)).trans e')) R.gens R.os
end
theorem eMark1 : behindInMarks .NotEq eParts.c1r = false := by kernel_rfl!
theorem eMark2 : behindInMarks .NotEq eParts.c2r = false := by kernel_rfl!
section
variable {w : World} {A : Around} {K : Addr → Option Obj} (X : TopK w.params K) (hh : A.handled = none) (hd : A.depth + 100 + 530 < recursionLimit) (hu : A.units + 64 < cLine)
include X hh hd
/-- one of the two comparisons -/
theorem e_cmp {E : Value → Shared → Prop} {Q : Bool → Shared → Prop} {s : Shared} (hu : A.units + 64 < cLine) (hk : Ext K s.heap) (hg : AllBare s.gens) {row L a : Addr} (KL : K L = none) {o : Addr → Obj} {oa : Obj} {cl cr : Expr} {cp : Pos} {whole : Sem Value} (ns : List Int) (tl tr : Addr → Sem Value) (N orc : Nat) (sg : Str) {k : Int}
    (htl : eval cl (eEnv L) = tl L) (htr : eval cr (eEnv L) = tr L) (hm : behindInMarks .NotEq cr = false)
    (h1 : s.heap.get? row = some oa) (hL : s.heap.get? L = some (o row)) (hne : L ≠ row) {Us : List (Int × Nat)} {un : Nat} (hup : s.heap.get? a = some (intF Us un)) (hUs : Us.map (·.1) = ns) (naL : a ≠ L)
    (hrl : ∀ ρ τ, (runE (GH 530 w.params 0 (hkX 0)) ρ τ 63 (.top (tl (ρ 0))) (mkT [o row]) 1 0 1 [] []).said [0] = (some (.ref a), (runE (GH 530 w.params 0 (hkX 0)) ρ τ 63 (.top (tl (ρ 0))) (mkT [o row]) 1 0 1 [] []).owed, [], [some (o row)]))
    (hrr : ∀ ρ τ, (runE (GH 530 w.params 1 (hkX 1)) ρ τ N (.top (tr (ρ 1))) (mkT [oa, o (ρ 0)]) 2 0 orc [] []).said [1, 2] = (some (.ref (ρ 2)), (runE (GH 530 w.params 1 (hkX 1)) ρ τ N (.top (tr (ρ 1))) (mkT [oa, o (ρ 0)]) 2 0 orc [] []).owed, [PlcP oa sg], [some (o (ρ 0)), some (lstO (kdL (ns.map Kd.int) fun q => τ (1 + q)) ns.length)]))
    (hpl : PlcP oa sg)
    (hQ : ∀ s', s'.heap.get? L = some (o row) → (∀ b ob, b ≠ L → s.heap.get? b = some ob → s'.heap.get? b = some ob) → AllBare s'.gens → s'.os = s.os → Q false s') : wpAny (model pw w) A (isTrue (.Compare cl [.NotEq] [cr] cp) (eEnv L) whole) Q E s := by
  have Xb : ∀ {s' : Shared}, Ext K s'.heap → TopK w.params (butL s'.heap [L]) := fun e => top_butL X e fun b hb => by
    simp only [List.mem_cons, List.not_mem_nil, or_false] at hb
    subst hb; exact KL
  have ext : ∀ {s s' : Shared}, Ext K s.heap → (∀ b ob, b ≠ L → s.heap.get? b = some ob → s'.heap.get? b = some ob) → Ext K s'.heap := fun e k b o q => k b o (fun z => by rw [z, KL] at q; cases q) (e b o q)
  refine wpAny_isTrue_Compare1 ?_ hm
  rw [htl]
  refine run1 AllBare 530 63 L tl (o row) 1 (fun _ _ => .ref a) (fun _ _ => []) (fun _ _ => o row) (Xb hk) hh (by decide) hd (hkX_loc 0) (hkX_ok w (Xb hk) _ 0) hg hL hrl (fun _ _ _ => trivial) fun ρ τ s₁ _ hL₁ k₁ g₁ o₁ => ?_
  rw [htr]
  have hk₁ := ext hk k₁
  refine runR 530 N orc row L tr oa o _ [PlcP oa sg] (Xb hk₁) hh (by decide) hd (hkX_loc 1) (hkX_ok w (Xb hk₁) _ 1) g₁ (k₁ _ _ (Ne.symm hne) h1) hL₁ hne hrr ⟨hpl, trivial⟩ fun ρ τ c s₂ hL₂ hc hcL hnew k₂ g₂ o₂ => ?_
  obtain ⟨Vs, v1, v2⟩ := kdL_int ns fun q => τ (1 + q)
  rw [v2] at hnew
  have ha : s₂.heap.get? a = some (intF Us un) := k₂ _ _ naL (k₁ _ _ naL hup)
  have i1 := intsAre Us
  have i2 := intsAre Vs
  rw [hUs] at i1
  rw [v1] at i2
  refine ke_ne_ints (intF_list ha) (intF_list (n := ns.length) hnew) i1 i2 hu ?_
  rw [decide_eq_true rfl]
  exact wpAny_truthy_bool (hQ s₂ hL₂ (fun b ob q e => k₂ b ob q (k₁ b ob q e)) g₂ (o₂.trans o₁))
end
theorem e_if {w : World} {A : Around} {K : Addr → Option Obj} (X : TopK w.params K) (hh : A.handled = none) (hd : A.depth + 100 + 530 < recursionLimit) (hu : A.units + 64 < cLine) {E : Value → Shared → Prop} {Q : Flow → Shared → Prop} {s : Shared} (hk : Ext K s.heap) (hg : AllBare s.gens) {rs : List (Str × Tok)} {rd L : Addr} (KL : K L = none) {l : List Nat} {U W : List Int} {told : List Nat}
    (S : ES w.params K rs rd L false l U W told s) (hl : l ∈ rowsL) (hU : U = plc l 40 1) (hW : W = plc l 41 1)
    (hQ : ∀ s', ES w.params K rs rd L false l U W told s' → Ext K s'.heap → AllBare s'.gens → s'.os = s.os → Q .next s') : wpAny (model pw w) A (exec eIf (eEnv L)) Q E s := by
  obtain ⟨k0, k1, k2, k3, k4, k5, sg, row, tl, up, lo, cs, rn, Us, un, Ws, wn, ts, tn, rrn, h0, h1, hcod, h2, qU, h3, qW, h4, htold, Ktl, n4, n5, hfr⟩ := S
  rcases hfr with ⟨z, _⟩ | ⟨km, z, tz, _, hF⟩
  · cases z
  have ext : ∀ {s s' : Shared}, Ext K s.heap → (∀ b ob, b ≠ L → s.heap.get? b = some ob → s'.heap.get? b = some ob) → Ext K s'.heap := fun e k b o q => k b o (fun z => by rw [z, KL] at q; cases q) (e b o q)
  simp only [List.mem_cons, List.not_mem_nil, or_false, not_or] at n4 n5
  obtain ⟨m0, m1, m2, m3⟩ := n4
  obtain ⟨l0, l1, l2, l3, l4⟩ := n5
  obtain ⟨p40, p41⟩ := cod_plc (n := rn) hcod hl
  have ev : (valsOf (lstO (strValues cs) rn)).map codeV = l := cod_vals hcod
  have qU' : Us.map (·.1) = plc ((valsOf (lstO (strValues cs) rn)).map codeV) 40 1 := by rw [ev, qU, hU]
  have qW' : Ws.map (·.1) = plc ((valsOf (lstO (strValues cs) rn)).map codeV) 41 1 := by rw [ev, qW, hW]
  unfold eIf
  refine wpAny_If (isTrue_or ?_)
  refine e_cmp X hh hd hu hk hg KL (o := fun r => eF7 w.params k0 k1 k2 k3 k4 k5 sg rd r tl up lo km z tz) (row := row) (a := up) (k := 0) (plc ((valsOf (lstO (strValues cs) rn)).map codeV) 40 1) _ _ _ _ ⟨#[40]⟩ (show eval eParts.c1l (eEnv L) = PySem.W.Fast.tw16973666061100441957 L by rw [← PySem.W.Fast.te16973666061100441957]; rfl) (show eval eParts.c1r (eEnv L) = PySem.W.Fast.tw10558875929075599561 L by rw [← PySem.W.Fast.te10558875929075599561]; rfl) eMark1 h1 hF l1 h2 qU' (Ne.symm l2)
    (fun ρ τ => kE1l w.params ρ τ k0 k1 k2 k3 k4 k5 sg rd row tl up lo km z tz) (fun ρ τ => kE1r w.params ρ τ k0 k1 k2 k3 k4 k5 sg rd tl up lo km z tz (lstO (strValues cs) rn)) p40 fun s₁ hF₁ ks₁ g₁ o₁ => ?_
  simp only [Bool.false_eq_true, if_false]
  refine isTrue_or ?_
  refine e_cmp X hh hd hu (ext hk ks₁) g₁ KL (o := fun r => eF7 w.params k0 k1 k2 k3 k4 k5 sg rd r tl up lo km z tz) (row := row) (a := lo) (k := 0) (plc ((valsOf (lstO (strValues cs) rn)).map codeV) 41 1) _ _ _ _ ⟨#[41]⟩ (show eval eParts.c2l (eEnv L) = PySem.W.Fast.tw7744465853224151136 L by rw [← PySem.W.Fast.te7744465853224151136]; rfl) (show eval eParts.c2r (eEnv L) = PySem.W.Fast.tw7520998310299170042 L by rw [← PySem.W.Fast.te7520998310299170042]; rfl) eMark2 (ks₁ _ _ (Ne.symm l1) h1) hF₁ l1 (ks₁ _ _ (Ne.symm l3) h3) qW' (Ne.symm l3)
    (fun ρ τ => kE2l w.params ρ τ k0 k1 k2 k3 k4 k5 sg rd row tl up lo km z tz) (fun ρ τ => kE2r w.params ρ τ k0 k1 k2 k3 k4 k5 sg rd tl up lo km z tz (lstO (strValues cs) rn)) p41 fun s₂ hF₂ ks₂ g₂ o₂ => ?_
  simp only [Bool.false_eq_true, if_false]
  refine isTrue_or_nil ?_
  simp only [Bool.false_eq_true, if_false]
  refine wpAny_execs_nil ?_
  have kk : ∀ b ob, b ≠ L → s.heap.get? b = some ob → s₂.heap.get? b = some ob := fun b ob q e => ks₂ b ob q (ks₁ b ob q e)
  refine hQ s₂ ⟨k0, k1, k2, k3, k4, k5, sg, row, tl, up, lo, cs, rn, Us, un, Ws, wn, ts, tn, rrn, kk _ _ (Ne.symm l0) h0, kk _ _ (Ne.symm l1) h1, hcod, kk _ _ (Ne.symm l2) h2, qU, kk _ _ (Ne.symm l3) h3, qW, kk _ _ (Ne.symm l4) h4, htold, Ktl, ?_, ?_, .inr ⟨km, z, tz, rfl, hF₂⟩⟩ (ext hk kk) g₂ (o₂.trans o₁)
  · simp only [List.mem_cons, List.not_mem_nil, or_false, not_or]; exact ⟨m0, m1, m2, m3⟩
  · simp only [List.mem_cons, List.not_mem_nil, or_false, not_or]; exact ⟨l0, l1, l2, l3, l4⟩
theorem e_test {w : World} {A : Around} {Q : Bool → Shared → Prop} {E : Value → Shared → Prop} {s : Shared} {K : Addr → Option Obj} (X : TopK w.params K) (hk : Ext K s.heap) (hh : A.handled = none) (hd : A.depth + 100 + 530 < recursionLimit) (hg : AllBare s.gens) {rs : List (Str × Tok)} {rd L : Addr} {first : Bool} {l : List Nat} {U W : List Int} {told : List Nat}
    (KL : K L = none) (S : ES w.params K rs rd L first l U W told s) (l8 : l.length ≤ 8) (hf : first = true → l.length = 6 ∨ l.length = 8)
    (hQ : ∀ s', ES w.params K rs rd L first l U W told s' → Ext K s'.heap → AllBare s'.gens → s'.os = s.os → Q (!l.isEmpty) s') : wpAny (model pw w) A (isTrue eParts.test (eEnv L) (eval eParts.test (eEnv L))) Q E s := by
  obtain ⟨k0, k1, k2, k3, k4, k5, sg, row, tl, up, lo, cs, rn, Us, un, Ws, wn, ts, tn, rrn, h0, h1, hcod, h2, qU, h3, qW, h4, htold, Ktl, n4, n5, hfr⟩ := S
  have Xb : TopK w.params (butL s.heap [L]) := top_butL X hk fun b hb => by
    simp only [List.mem_cons, List.not_mem_nil, or_false] at hb
    subst hb; exact KL
  have n4' := n4
  have n5' := n5
  simp only [List.mem_cons, List.not_mem_nil, or_false, not_or] at n5'
  obtain ⟨l0, l1, l2, l3, l4⟩ := n5'
  have fin : ∀ {o : Obj}, ((first = true ∧ o = eF6 w.params k0 k1 k2 k3 k4 k5 sg rd row tl up lo) ∨ ∃ km z tz, first = false ∧ o = eF7 w.params k0 k1 k2 k3 k4 k5 sg rd row tl up lo km z tz) → ∀ s', s'.heap.get? L = some o → (∀ b ob, b ≠ L → s.heap.get? b = some ob → s'.heap.get? b = some ob) → AllBare s'.gens → s'.os = s.os → Q (!l.isEmpty) s' := by
    intro o ho s' hL k g os
    refine hQ s' ⟨k0, k1, k2, k3, k4, k5, sg, row, tl, up, lo, cs, rn, Us, un, Ws, wn, ts, tn, rrn, k _ _ (Ne.symm l0) h0, k _ _ (Ne.symm l1) h1, hcod, k _ _ (Ne.symm l2) h2, qU, k _ _ (Ne.symm l3) h3, qW, k _ _ (Ne.symm l4) h4, htold, Ktl, n4, n5, ?_⟩ (fun b o q => k b o (fun z => by rw [z, KL] at q; cases q) (hk b o q)) g os
    rcases ho with ⟨a, rfl⟩ | ⟨km, z, tz, a, rfl⟩
    · exact .inl ⟨a, hL⟩
    · exact .inr ⟨km, z, tz, a, hL⟩
  have len := hcod.len
  have l8' : cs.length ≤ 8 := by omega
  have fo : first = true → cs.length = 6 ∨ cs.length = 8 := fun h => by rw [len]; exact hf h
  have em : (!l.isEmpty) = (!cs.isEmpty) := by
    cases l with
    | nil => cases cs with
      | nil => rfl
      | cons _ _ => cases len
    | cons _ _ => cases cs with
      | nil => cases len
      | cons _ _ => rfl
  rw [em] at fin
  clear em hf hQ len hcod
  show wpAny (model pw w) A (eTW L) Q E s
  rw [PySem.W.Fast.te10599258871946635114]
  match cs, l8', fo with
  | [], _, fo =>
    rcases hfr with ⟨hft, hF⟩ | ⟨km, z, tz, hft, hF⟩
    · exact absurd (fo hft) (by simp)
    · exact runB 530 _ _ row L _ _ (fun r => eF7 w.params k0 k1 k2 k3 k4 k5 sg rd r tl up lo km z tz) _ Xb hh (by decide) hd (hkX_loc 1) (hkX_ok w Xb _ 1) hg h1 hF l1 (fun ρ τ => kEWf w.params ρ τ k0 k1 k2 k3 k4 k5 sg rd tl up lo km z tz rn) fun s' hL k g os => fin (.inr ⟨km, z, tz, hft, rfl⟩) s' hL k g os
  | c :: cs, l8', fo =>
    rcases hfr with ⟨hft, hF⟩ | ⟨km, z, tz, hft, hF⟩
    · exact runB 530 _ _ row L _ _ (fun r => eF6 w.params k0 k1 k2 k3 k4 k5 sg rd r tl up lo) _ Xb hh (by decide) hd (hkX_loc 1) (hkX_ok w Xb _ 1) hg h1 hF l1 (fun ρ τ => tEW6 (fo hft) w.params ρ τ k0 k1 k2 k3 k4 k5 sg rd tl up lo (c :: cs) rn rfl) fun s' hL k g os => fin (.inl ⟨hft, rfl⟩) s' hL k g os
    · exact runB 530 _ _ row L _ _ (fun r => eF7 w.params k0 k1 k2 k3 k4 k5 sg rd r tl up lo km z tz) _ Xb hh (by decide) hd (hkX_loc 1) (hkX_ok w Xb _ 1) hg h1 hF l1 (fun ρ τ => tEW7 (by simp) l8' w.params ρ τ k0 k1 k2 k3 k4 k5 sg rd tl up lo km z tz (c :: cs) rn rfl) fun s' hL k g os => fin (.inr ⟨km, z, tz, hft, rfl⟩) s' hL k g os
theorem rowN_len {l : List Nat} {k : Nat} (h : k = 0 ∨ k < l.length) : (rowN l k).length ≤ l.length := by
  unfold rowN
  split
  · simp
  · simp only [List.length_append, List.length_take, List.length_tail, List.length_cons, List.length_drop]
    omega
theorem e_loop {w : World} {A : Around} {R : Result → Shared → Prop} {K : Addr → Option Obj} (X : TopK w.params K) (hh : A.handled = none) (hd : A.depth + 100 + 530 < recursionLimit) (hu : A.units + 64 < cLine) {rs : List (Str × Tok)} (hr : RidOk rs) (h68 : rs.length = 6 ∨ rs.length = 8) {rd L : Addr} (KL : K L = none) {os0 : OsState} {res : List Nat}
    (done : ∀ s first U W, ES w.params K rs rd L first [] U W res s → first = false → Ext K s.heap → AllBare s.gens → s.os = os0 → R (.ok .next) s)
    (f : Nat) (s : Shared) {first : Bool} {l : List Nat} {U W : List Int} {told : List Nat} (he : emp f l U W told = some res) (S : ES w.params K rs rd L first l U W told s) (hk : Ext K s.heap) (hg : AllBare s.gens) (ho : s.os = os0) (hf : first = true → l.length = 6 ∨ l.length = 8) (hle : l.length ≤ rs.length) :
    codeAny (model pw w) A (.whileLoop eParts.test eLoop [] (eEnv L)) R s := by
  refine codeAny_whileLoop (fun n s => ∃ first l U W told, emp n l U W told = some res ∧ ES w.params K rs rd L first l U W told s ∧ Ext K s.heap ∧ AllBare s.gens ∧ s.os = os0 ∧ (first = true → l.length = 6 ∨ l.length = 8) ∧ l.length ≤ rs.length) (fun n s ⟨first, l, U, W, told, he, S, hk, hg, ho, hf, hle⟩ => ?_) f ⟨first, l, U, W, told, he, S, hk, hg, ho, hf, hle⟩
  refine e_test X hk hh hd hg KL S (by omega) hf fun s₁ S₁ hk₁ hg₁ ho₁ => ?_
  cases l with
  | nil =>
    have e : told = res := by
      unfold emp at he
      injection he
    subst e
    show wpAny _ _ (execs [] _) _ _ _
    refine wpAny_execs_nil (done s₁ first U W S₁ ?_ hk₁ hg₁ (ho₁.trans ho))
    cases first with
    | false => rfl
    | true => have := hf rfl; simp at this
  | cons c l =>
    cases n with
    | zero => unfold emp at he; cases he
    | succ n =>
      unfold emp at he
      by_cases ok' : empB (c :: l) U W told = true
      · rw [if_pos ok'] at he
        have ok := empB_ok ok'
        show wpAny _ _ (execs ([eParts.m0, eParts.m1, eParts.m2, eParts.m3] ++ [eIf]) _) _ _ _
        refine wpAny_execs_append (e_step X hk₁ hh hd hg₁ hr h68 KL S₁ ok (by simp) hle hf fun s₂ S₂ hk₂ hg₂ ho₂ => ?_)
        show wpAny _ _ (execs [eIf] _) _ _ _
        refine wpAny_execs_cons (e_if X hh hd hu hk₂ hg₂ KL S₂ ok.row ok.up ok.lo fun s₃ S₃ hk₃ hg₃ ho₃ => wpAny_execs_nil ?_)
        refine ⟨n, Nat.lt_succ_self n, false, _, _, _, _, he, S₃, hk₃, hg₃, ho₃.trans (ho₂.trans (ho₁.trans ho)), (fun h => by cases h), ?_⟩
        have : mateN (c :: l) = 0 ∨ mateN (c :: l) < (c :: l).length := by
          by_cases q : mateN (c :: l) = 0
          · exact .inl q
          · exact .inr (ok.mat.2 q).2.1
        have := rowN_len this
        omega
      · rw [if_neg ok'] at he; cases he
theorem emptied_law {w : World} {A : Around} {Q : Value → Shared → Prop} {E : Value → Shared → Prop} {s : Shared} {a b : Addr} (X : TopK w.params fun b => s.heap.get? b) (hh : A.handled = none) (hd : A.depth + 640 < recursionLimit) (hu : A.units + 80 < cLine) (hg : AllBare s.gens)
    {cs rs : List (Str × Tok)} {n n' : Nat} {l res : List Nat} (ha : s.heap.get? a = some (lstO (strValues cs) n)) (hb : s.heap.get? b = some (lstO (strValues rs) n')) (hcod : Cod l cs) (hr : RidOk rs) (h68 : rs.length = 6 ∨ rs.length = 8) (hlen : cs.length = rs.length) (hl : l ∈ rowsL)
    (hemp : emp 20 l (plc l 40 1) (plc l 41 1) [] = some res)
    (hQ : ∀ c ts m s', More s s' → s'.heap.get? c = some (lstO (strValues ts) m) → Cod res ts → Q (.ref c) s') : wpAny (model pw w) A (call (.ref 69) [.ref a, .ref b]) Q E s := by
  have hw : (Code.call (.ref 69) ⟨[.ref a, .ref b], []⟩).weight = 0 := rfl
  have d1 : (A.under (.call (.ref 69) ⟨[.ref a, .ref b], []⟩)).depth = A.depth := by show A.depth + (Code.call (.ref 69) ⟨[.ref a, .ref b], []⟩).weight = _; rw [hw]; rfl
  have hh1 : (A.under (.call (.ref 69) ⟨[.ref a, .ref b], []⟩)).handled = none := by simp [Around.under, hh]
  refine wpAny_call (door (o := fnAt 10 68 1) (fd := fdAt 10 68 1) (body := bodyOf 10) (X.kt 69 _ (by kernel_rfl!)) rfl (by kernel_rfl!) (by kernel_rfl!) (by kernel_rfl!) (X.code (69, 10, 68, 1) (by decide) _ fun _ _ e => e) (wpAny_bind ?_))
  let B : Bs := ⟨fun b => s.heap.get? b, (· = s.gens), s.os⟩
  have R0 : Rep B 0 (adr []) (mkT []) 0 s := Rep.make (B := B) 0 (adr []) [] (fun _ _ e => e) rfl rfl (fun i o e => by cases i <;> cases e) (fun i _ hi => by cases hi) (fun i j _ hi => by cases hi)
  refine engF (B := B) (H := noH) 0 70 [] (fun _ => doorT 69 (fdAt 10 68 1) (bodyOf 10) ⟨[.ref a, .ref b], []⟩) (fun _ => []) 1074791425 [0] (fun ρ _ => .again (.func (bodyOf 10) (eEnv (ρ 0)))) (fun _ _ => []) (fun _ τ => [some (eF2 w.params (τ 0) (τ 1) a b)]) X hh1 (by rw [d1]; omega) noH_loc (noH_ok w _ 0) R0 (fun _ _ => rfl) (fun _ _ => rfl)
    (fun ρ τ => kED w.params ρ τ a b) (fun _ _ _ => trivial) fun ρ τ T m s₁ aρ R' e => ?_
  have g0 : T.get 0 = some (eF2 w.params (τ 0) (τ 1) a b) := by simpa using e
  refine wpAny_bind (wpAny_enterFrame (X.lim _ R'.keep) (by rw [d1]; omega) (wpAny_pure ⟨rfl, codeAny_func ?_⟩))
  have hL : s.heap.get? (ρ 0) = none := R'.new 0 _ (Nat.zero_le _) g0
  have hf₁ : s₁.heap.get? (ρ 0) = some (eF2 w.params (τ 0) (τ 1) a b) := (R'.own 0 _ g0).2
  have k₁ : Ext (fun b => s.heap.get? b) s₁.heap := R'.keep
  have gg₁ : s₁.gens = s.gens := R'.gens
  have oo₁ : s₁.os = s.os := R'.os
  generalize ρ 0 = L at hL hf₁
  generalize τ 0 = j0 at hf₁
  generalize τ 1 = j1 at hf₁
  clear R' e g0 aρ R0
  have hh2 : (A.deeper (eEnv L)).handled = none := hh
  have d2 : (A.deeper (eEnv L)).depth = A.depth + 1 := rfl
  have u2 : (A.deeper (eEnv L)).units = A.units + 3 := rfl
  have hd2 : (A.deeper (eEnv L)).depth + 100 + 530 < recursionLimit := by rw [d2]; omega
  have hu2 : (A.deeper (eEnv L)).units + 64 < cLine := by rw [u2]; omega
  generalize hA : A.deeper (eEnv L) = A2 at hh2 hd2 hu2
  let K : Addr → Option Obj := fun b => s.heap.get? b
  have KL : K L = none := hL
  have naL : L ≠ a := fun z => by rw [z, ha] at hL; cases hL
  have nbL : L ≠ b := fun z => by rw [z, hb] at hL; cases hL
  have Xb : ∀ {s' : Shared}, Ext K s'.heap → TopK w.params (butL s'.heap [L]) := fun e => top_butL X e fun b hb => by
    simp only [List.mem_cons, List.not_mem_nil, or_false] at hb
    subst hb; exact KL
  rw [eBody_eq]
  show wpAny (model pw w) A2 (execs ([eParts.b0, eParts.b1] ++ [.While eParts.test eLoop [] eParts.pw, eParts.b3]) (eEnv L)) _ _ s₁
  refine wpAny_execs_append ?_
  show wpAny (model pw w) A2 (eT0 L) _ _ s₁
  rw [PySem.W.Fast.te4622956953759291087]
  have ha₁ := k₁ _ _ ha
  have hb₁ := k₁ _ _ hb
  have hg₁ : AllBare s₁.gens := by rw [gg₁]; exact hg
  obtain ⟨p40, p41⟩ := cod_plc (n := n) hcod hl
  have ev : (valsOf (lstO (strValues cs) n)).map codeV = l := cod_vals hcod
  refine engH (B := ⟨butL s₁.heap [L], AllBare, s₁.os⟩) 530 1 205 [a, L] (fun ρ => PySem.W.Fast.tw4622956953759291087 (ρ 1)) (fun ρ => [lstO (strValues cs) n, eF2 w.params j0 j1 (ρ 0) b]) 13349065062176187898654343723065063926348243166733249632670257447536331969094768375717784003916461714919551894422437237777831897396071159170647309458398242440839079757473319027507993925303414658628544125763550737059056145205484149045653934082 [1, 2, 7, 8] (fun _ _ => .next) (fun _ _ => [PlcP (lstO (strValues cs) n) ⟨#[41]⟩, PlcP (lstO (strValues cs) n) ⟨#[40]⟩]) _ (Xb k₁) hh2 (by decide) hd2 (hkX_loc 1) (hkX_ok w (Xb k₁) _ 1) ?_ (fun ρ' aρ => ?_) (fun ρ' aρ => ?_) (fun ρ τ => kE0 w.params ρ τ j0 j1 b (lstO (strValues cs) n)) (fun _ _ _ => ⟨p41, p40, trivial⟩) fun ρ τ T m s₂ aρ R e => ?_
  · refine Rep.make (B := ⟨butL s₁.heap [L], AllBare, s₁.os⟩) 1 _ [lstO (strValues cs) n, eF2 w.params j0 j1 a b] (butL_ext _ _) hg₁ rfl (fun i ob e => ?_) (fun i h1 hi => ?_) (fun i j h1 hi hj q => ?_)
    · match i, e with
      | 0, e => cases e; exact ha₁
      | 1, e => cases e; exact hf₁
      | i + 2, e => cases e
    · simp at hi
      have : i = 1 := by omega
      subst this; exact butL_in (List.mem_cons_self ..)
    · simp at hi hj
      have : i = 1 := by omega
      subst this
      have hj' : j = 0 ∨ j = 1 := by omega
      rcases hj' with rfl | rfl
      · exact absurd q naL
      · rfl
  · show PySem.W.Fast.tw4622956953759291087 (ρ' 1) = PySem.W.Fast.tw4622956953759291087 (adr [a, L] 1)
    rw [aρ 1 (by simp)]
  · show [lstO (strValues cs) n, eF2 w.params j0 j1 (ρ' 0) b] = [lstO (strValues cs) n, eF2 w.params j0 j1 (adr [a, L] 0) b]
    rw [aρ 0 (by simp)]
  have e0 : ρ 0 = a := aρ 0 (by simp)
  have e1 : ρ 1 = L := aρ 1 (by simp)
  simp only [List.map_cons, List.map_nil, List.cons.injEq, and_true] at e
  obtain ⟨g1, g2, g7, g8⟩ := e
  rw [e0, ev] at g1
  rw [ev] at g7 g8
  have frs : ∀ {j o}, 2 ≤ j → T.get j = some o → ρ j ≠ L ∧ s₁.heap.get? (ρ j) = none := fun {j o} hj hT => by
    have ne : ρ j ≠ L := fun q => by have := R.inj j 1 _ _ (by omega) hT g1 (q.trans e1.symm); omega
    refine ⟨ne, ?_⟩
    have := R.new j _ (by omega) hT
    rw [show (⟨butL s₁.heap [L], AllBare, s₁.os⟩ : Bs).K (ρ j) = butL s₁.heap [L] (ρ j) from rfl, butL_out (by simpa using ne)] at this
    exact this
  have hk₂ : Ext K s₂.heap := fun b o q => R.keep b o ((butL_out (by simp only [List.mem_cons, List.not_mem_nil, or_false]; intro z; rw [z, KL] at q; cases q)).trans (k₁ b o q))
  obtain ⟨Us, u1, u2'⟩ := kdL_int (plc l 40 1) fun q => τ (3 + q)
  obtain ⟨Ws, w1, w2⟩ := kdL_int (plc l 41 1) fun q => τ (3 + ((plc l 40 1).map Kd.int).length + 1 + q)
  rw [u2'] at g7
  rw [w2] at g8
  have ne2 : ∀ (x : Addr) (o : Obj), s₁.heap.get? x = some o → ∀ (j : Nat) (o' : Obj), 2 ≤ j → T.get j = some o' → ρ j ≠ x := fun x o hx j o' hj hT z => by
    have := (frs hj hT).2
    rw [z, hx] at this; cases this
  have S : ES w.params K rs b L true l (plc l 40 1) (plc l 41 1) [] s₂ := by
    refine ⟨_, _, _, _, _, _, a, a, ρ 2, ρ 7, ρ 8, cs, n, Us, _, Ws, _, [], 0, n', hk₂ _ _ hb, hk₂ _ _ ha, hcod, (R.own 7 _ g7).2, u1, (R.own 8 _ g8).2, w1, (R.own 2 _ g2).2, rfl, fresh_none k₁ (frs (by omega) g2).2, ?_, ?_, .inl ⟨rfl, by rw [← e1]; exact (R.own 1 _ g1).2⟩⟩
    · simp only [List.mem_cons, List.not_mem_nil, or_false, not_or]
      exact ⟨ne2 _ _ hb₁ 2 _ (by omega) g2, ne2 _ _ ha₁ 2 _ (by omega) g2, fun q => by have := R.inj 2 7 _ _ (by omega) g2 g7 q; omega, fun q => by have := R.inj 2 8 _ _ (by omega) g2 g8 q; omega⟩
    · simp only [List.mem_cons, List.not_mem_nil, or_false, not_or]
      exact ⟨nbL, naL, Ne.symm (frs (by omega) g7).1, Ne.symm (frs (by omega) g8).1, Ne.symm (frs (by omega) g2).1⟩
  have cl := hcod.len
  refine wpAny_execs_cons (wpAny_While (e_loop (K := K) X hh2 hd2 hu2 hr h68 KL (os0 := s.os) (res := res) (fun s' first U W S' hf hk' hg' ho' => ?_) 20 s₂ hemp S hk₂ R.gens (R.os.trans oo₁) (fun _ => by omega) (by omega)))
  subst hf
  obtain ⟨k0, k1, k2, k3, k4, k5, sg, row, tl, up, lo, cs', rn, Us', un, Ws', wn, ts, tn, rrn, h0, h1, hcod', h2, qU, h3, qW, h4, htold, Ktl, n4, n5, hfr⟩ := S'
  rcases hfr with ⟨z, _⟩ | ⟨km, z, tz, _, hF⟩
  · cases z
  show wpAny (model pw w) A2 (eT3 L) _ _ s'
  rw [PySem.W.Fast.te17668684018807250166]
  refine run1 AllBare 530 64 L _ _ 1 (fun _ _ => .ret (.ref tl)) (fun _ _ => []) _ (Xb hk') hh2 (by decide) hd2 (hkX_loc 0) (hkX_ok w (Xb hk') _ 0) hg' hF (fun ρ τ => kE3 w.params ρ τ k0 k1 k2 k3 k4 k5 sg b row tl up lo km z tz) (fun _ _ _ => trivial) fun ρ τ s'' _ hL'' k'' g'' o'' => ?_
  simp only [List.mem_cons, List.not_mem_nil, or_false, not_or] at n5
  exact hQ tl ts tn s'' ⟨fun b o q => k'' b o (fun z => by rw [z, hL] at q; cases q) (hk' b o q), g'', o''.trans ho'⟩ (k'' _ _ (Ne.symm n5.2.2.2.2) h4) htold
/-! ## Division of an open number; an item at an open place -/
noncomputable def FdOk (b : Int) : Prop := 0 < b ∧ b ≤ 1000000
noncomputable def fdivF : List Value → Nat → Option (Kd × Prop) := fun args _ => (twoI args).bind fun p => some (.int (Int.fdiv p.1.1 p.2.1), FdOk p.2.1)
noncomputable def fmodF : List Value → Nat → Option (Kd × Prop) := fun args _ => (twoI args).bind fun p => some (.int (Int.fmod p.1.1 p.2.1), FdOk p.2.1)
theorem fdiv_law (w : World) : PLaw w "int.__floordiv__" fdivF := by
  intro args d k p e hp A Q s hQ
  obtain ⟨⟨⟨a, t⟩, ⟨b, u⟩⟩, e1, e⟩ := obind e
  obtain rfl := twoI_inv e1
  cases e
  obtain ⟨h1, h2⟩ : 0 < b ∧ b ≤ 1000000 := hp
  have h0 : b ≠ 0 := by omega
  refine wpAny_mono (call_int_floordiv (a := a) (b := b) (by first | exact h0 | omega) (hQ s.toks { s with toks := s.toks + 1 } ⟨rfl, rfl, rfl⟩) (Or.inl ?_)) (fun _ _ h => h.2) fun _ _ h => h
  have h3 : b.natAbs < 1073741824 := by omega
  exact PyProof.noPylong_small (by first | exact h3 | (show b.natAbs < _; omega) | omega)
theorem fmod_law (w : World) : PLaw w "int.__mod__" fmodF := by
  intro args d k p e hp A Q s hQ
  obtain ⟨⟨⟨a, t⟩, ⟨b, u⟩⟩, e1, e⟩ := obind e
  obtain rfl := twoI_inv e1
  cases e
  obtain ⟨h1, h2⟩ : 0 < b ∧ b ≤ 1000000 := hp
  have h0 : b ≠ 0 := by omega
  exact wpAny_mono (call_int_mod (a := a) (b := b) (by first | exact h0 | omega) (hQ s.toks { s with toks := s.toks + 1 } ⟨rfl, rfl, rfl⟩)) (fun _ _ h => h.2) fun _ _ h => h
noncomputable def pickS (vs : List Value) (z : Int) : Str := match vs[z.toNat]? with
  | some (.str y _) => y
  | _ => ⟨#[]⟩
noncomputable def IdxOk (o : Obj) (vs : List Value) (z : Int) : Prop := o = tupO vs ∧ 0 ≤ z ∧ z < 1000 ∧ ∃ y t, vs[z.toNat]? = some (.str y t)
noncomputable def iPre : Pre Kd := fun c T m orc => (asB c).bind fun q => (refInt q.2).bind fun z => (getO T m (orc % 1024)).bind fun o => (seqOf o).bind fun vs =>
  some { k := .str (pickS vs z.2.1), p := IdxOk o vs z.2.1, fx := [(.builtin q.1, .builtin "tuple.__getitem__")], rf := [(z.1, orc % 1024)], orc := orc / 1024 }
noncomputable def iHk : Hk := vHk iPre
theorem iHk_loc : HLoc iHk := vHk_loc fun c T m orc x h => by
  obtain ⟨q, e1, h⟩ := obind h
  obtain ⟨z, e2, h⟩ := obind h
  obtain ⟨o, e3, h⟩ := obind h
  obtain ⟨vs, e4, h⟩ := obind h
  cases h
  exact ⟨getO_lt e3, trivial⟩
theorem iHk_ok (w : World) (B : Bs) (r : Nat) : HOk pw w B r iHk := vHk_ok fun c T m orc x h hp hf ρ s A Q hr hR hh hd hQ => by
  obtain ⟨q, e1, h⟩ := obind h
  obtain ⟨⟨b, z, t⟩, e2, h⟩ := obind h
  obtain ⟨o, e3, h⟩ := obind h
  obtain ⟨vs, e4, h⟩ := obind h
  cases h
  have hn : q.1 = "tuple.__getitem__" := Value.builtin.inj hf.1
  have hb : b = ρ (orc % 1024) := hr.1
  have e := asB_inv e1
  rw [hn, refInt_inv e2] at e
  subst e
  subst hb
  obtain ⟨ho', z0, z1, y, u, hy⟩ : IdxOk o vs z := hp
  have hl := (hR.own _ _ (getO_inv e3).2).2
  rw [ho'] at hl
  have hlen : z.toNat < vs.length := (List.getElem?_eq_some_iff.mp hy).1
  show wpAny (model pw w) A (call (.builtin "tuple.__getitem__") [.ref (ρ (orc % 1024)), .int z t]) Q _ s
  have hT : s.TypeIs (.ref (ρ (orc % 1024))) "tuple" := ⟨_, hl, rfl⟩
  refine call_meets slot_tuple_getitem hT entry_tuple_getitem (args_tuple_getitem _ _) (PySem.MeetsSeq.tuple_getitem_at _ vs.toArray 0 z t z.toNat (.str y u) (by omega) (by omega) ?_ (by simpa using hy)) ⟨hl, ?_⟩
  · unfold seqIndex?
    simp only [List.size_toArray]
    rw [if_neg (by omega : ¬ z < 0)]
    have : (decide (0 ≤ z) && decide (z < (vs.length : Int))) = true := by
      rw [Bool.and_eq_true, decide_eq_true_eq, decide_eq_true_eq]; omega
    rw [if_pos this]
  · have := hQ u s hR
    have e : pickS vs z = y := by unfold pickS; rw [hy]
    change Q (.str (pickS vs z) u) s at this
    rw [e] at this
    exact this
noncomputable def hkN (r : Nat) : Nat → Hk
  | 0 => pHk "int.__floordiv__" fdivF
  | 1 => pHk "int.__mod__" fmodF
  | 2 => pHk "int.__eq__" (cmpF fun a b => a == b)
  | 3 => iHk
  | _ + 4 => noHk
theorem hkN_loc (r : Nat) : ∀ n, HLoc (hkN r n)
  | 0 => pHk_loc _ _
  | 1 => pHk_loc _ _
  | 2 => pHk_loc _ _
  | 3 => iHk_loc
  | _ + 4 => noHk_loc
theorem hkN_ok (w : World) (B : Bs) (r : Nat) : ∀ n, HOk pw w B r (hkN r n)
  | 0 => pHk_ok (fdiv_law w) B r
  | 1 => pHk_ok (fmod_law w) B r
  | 2 => pHk_ok (eq_law w) B r
  | 3 => iHk_ok w B r
  | _ + 4 => noHk_ok pw w B r
noncomputable def thV (t0 t1 t2 t3 t4 t5 : Nat) : List Value := [.str ⟨#[92, 92]⟩ t0, .str ⟨#[]⟩ t1, .str ⟨#[]⟩ t2, .str ⟨#[92, 41]⟩ t3, .str ⟨#[34, 41, 34]⟩ t4, .str ⟨#[92, 34]⟩ t5]
noncomputable def rdZ (N m : Int) : Int := Int.fmod (Int.fdiv (Int.fdiv N 256) m) 6
noncomputable def ridPs (tv : List Value) (N : Int) : List Int → List Prop
  | [] => []
  | m :: ms => IdxOk (tupO tv) tv (rdZ N m) :: FdOk 6 :: FdOk m :: FdOk 256 :: ridPs tv N ms
noncomputable def bitPs (N : Int) : List (Int × Bool) → List Prop
  | [] => []
  | p :: r => ((Int.fmod (Int.fdiv N p.1) 2 == 1) = p.2) :: FdOk 2 :: FdOk p.1 :: bitPs N r
noncomputable def ridC (tv : List Value) (N : Int) (l : List (Int × Nat)) : List (Str × Tok) := l.map fun p => (pickS tv (rdZ N p.1), p.2)
noncomputable def sgC (l : List (Nat × Nat)) : List (Str × Tok) := l.map fun p => (⟨#[p.1]⟩, p.2)
noncomputable def cat : List Prop → List Prop → List Prop
  | [], b => b
  | p :: a, b => p :: cat a b
noncomputable abbrev KN (p : Int) (N' orc jx jy ja : Nat) (tv : (Nat → Nat) → List Value) (ms : List Int) (bs : List (Int × Bool)) (sg : (Nat → Nat) → List (Nat × Nat)) (rd : (Nat → Nat) → List (Int × Nat)) (n1 n2 : Nat) : Prop := ∀ (P : Params) (ρ τ : Nat → Nat) (N : Int) (tN tp : Nat),
  Said (runE (GH 200 P 0 (hkN 0)) ρ τ N' (.top (call (.ref 40) [.int N tN, .int p tp])) (mkT []) 0 0 orc [] []) [jx, jy, ja] (.ref (ρ ja)) (cat (ridPs (tv τ) N ms) (bitPs N bs)) [some (lstO (strValues (sgC (sg τ))) n1), some (lstO (strValues (ridC (tv τ) N (rd τ))) n2), some (tupO [.ref (ρ jx), .ref (ρ jy)])]
theorem kN0 : KN 3 1284 51867581881202339321895779042155124267309484500132745779746506218359446781711882800428655674803281278739271113003924687644795641423080055322947649180462778194648377532445344932681272481091679467401210748271845733240494454391584303473473961756431133001583796619871259309936664105600779640452915186288165588264232943585184240555719246947174947361470686140619615533805083947873393231809247765759664445357311619121118059908972285614258842228493808444253771115587027861265853259777524811144831156204464327057918204125428501138893801389859571579284116005426340338485372070441935030395039874208852770967929752496225564452438494536045720920380865040759991281415588044853725132743266681059677464360247368057440276355557703366511655596635927302581462012700640707566881046853747742520608239488522759752690835637965337544544567055849834065076607923760358791817411179147310617655380607483776191166349874709989175208618481958487429138455016291909893207423633536086083640830007139088828315732672271052045462550219460100908680046896838342384653204987742213366033344751119634911927975645870240818954556775849543336477875509066753654706952878266329306625295186922798284757025846874093319016695049648564722572305241805154641722566149781983942401841153612780146772420331667316019226557267546256449914902142434318159873119320798867933798891642470958803547861478155068526104678992215998242368575791230109947201758425432381534840870753339993116522984969051664656240408603736086556124405811440018065918311517492088139495515863382845171413612143751064751796921464586936410190158590963548613503576800766021523008830830768821279163643906061049672915243355754501022296225269500619083848940415637908032416671551459734807711828884250334557983178447650732802853255923791122320593978217299627613167801971136210776907844307496141325761851467809679351873814923264 3 27 31 (fun τ => thV (τ 75) (τ 76) (τ 77) (τ 78) (τ 79) (τ 80)) [7776, 1296, 216, 36, 6, 1] [(4, true), (2, true)] (fun τ => [(40, τ 13), (40, τ 30), (40, τ 47), (41, τ 57), (41, τ 64), (41, τ 71)]) (fun τ => [(1, τ 94), (6, τ 104), (36, τ 114), (216, τ 124), (1296, τ 134), (7776, τ 144)]) 6 6 := by refine Pb_elim fun b P => ?_; intros; cases b <;> kernel_rfl
theorem kN1 : KN 3 1303 64208956351653302082649252616197002331800865121226246139671320164087920606312807754073046666101756431971840360860032132165580962731024027743005575266527478719230079623799924790343946658444309122782138726784110454867132573787087445151061605182736645217878450695950740707951062783827674398584581834880293441553186586432308085347480839505374014424030814975470531330484878026572780200096228769395171651036266585686469719507769011094864493659480135779255221255684459911213367869046750116378243095701817238514897711486219003956129361271597337096912980911724330484924494473331546071217926065536375272242301602906017222217963326719976157768064380983648332497302391583804201395384516322774160302140513747826265596388976106229963024937336234938757434221814963335809402872306421414642535940336239415778119655796188666021169757914218603570910962786980650503960511778343103213695545924357661986084103907504359211149960018737968916392337220596320861393709163763601194821249932736331230023963718553544764619923160879069240367809070569314704205661361946488087674124266084479191048257906016459862518787557995943659402841909251771383140665099036014884358508155769681612304833486658296702325938018679431184851514034110922143859118313629087165490700873281666028211443121493636356374455461664452048695458544917479346747086067948372497437953383868662145164204055588333157919230820650705892152408222482636453305937821143367433603469988995569715046002010902138096658732984485089137479664922270808468391030191893587092048361091673583741902837873129592252810053750022589780904657256703103407547671812246774985312302354808439138879024525646215021541951278046387592344099673310564264874943934981902015633783814423785267393631532589470726848653179104494665288851697876880525659743981528100846981737825235815311493950618306810369108610948005764057488098535526574872973098970182479513600 3 27 31 (fun τ => thV (τ 82) (τ 83) (τ 84) (τ 85) (τ 86) (τ 87)) [7776, 1296, 216, 36, 6, 1] [(8, true), (4, false), (2, true)] (fun τ => [(40, τ 13), (40, τ 30), (41, τ 47), (40, τ 61), (41, τ 71), (41, τ 78)]) (fun τ => [(1, τ 101), (6, τ 111), (36, τ 121), (216, τ 131), (1296, τ 141), (7776, τ 151)]) 6 6 := by refine Pb_elim fun b P => ?_; intros; cases b <;> kernel_rfl
theorem kN2 : KN 3 1294 59799250542794635596358452566151509370469362587878709789059423063032255141355849573456725725998875156018734314348578576152753981511130954830912477585046997963665127403847803166456470879208584430424625730872257104951080469216301520495732878505007033439239906795277018759354076146918977050655132005811010898606094146549988617512845284776179133377997963666422787430216444681000691093594048888790581050362686240753596387345128703019455535020195074173859526641373019582790665206542937193418148062845521828639225765584240671206386165015024446972564776345830718506988598474610174141095882342696539379881975802505404895374517260789849011011481639913887095169445864468630590844326202126940861625727744538175189491723641852131078974285476128513698870522729087002397890083777179396378375534281357578726596809733838488459566519741834687048183499715252631411526907698263677652361803111209140822792929006512407731745056383282760841384890252004464403027081531034099843601669013246353179010337613214422214783187275482229276361642293484294832164937271266511692410792721959324389264878209319562150394304998953614985019880660067614383815608458589578184716111322317520368586506028400367690526885493187386755656077072252759279681726662548643346495509792381087790101238045285867568887112242103629662295861552091407401185685577396433841652260679305372583102499974624970331679774925477043220313619589800213379610933544707081462310628312199937532496329238168846180635763983272430994123189938364508043838496715242800144302977860671141157059920838257533891845403020649537821769878531320489255959969958594499136753269278297228299138496823873878352264389162568233615440193374986696756734719732177083171011833091844347350810373557857345986108924200724956028934273024632340467259730168590705664573824408797719571210614577453765648161719639907078079091602583618015795271994181632 3 27 31 (fun τ => thV (τ 82) (τ 83) (τ 84) (τ 85) (τ 86) (τ 87)) [7776, 1296, 216, 36, 6, 1] [(8, false), (4, false), (2, true)] (fun τ => [(40, τ 13), (40, τ 30), (41, τ 47), (41, τ 61), (40, τ 68), (41, τ 78)]) (fun τ => [(1, τ 101), (6, τ 111), (36, τ 121), (216, τ 131), (1296, τ 141), (7776, τ 151)]) 6 6 := by refine Pb_elim fun b P => ?_; intros; cases b <;> kernel_rfl
theorem kN3 : KN 3 1275 48305449896680507177389952393393147985739153344307789373906800726763388870015631243985756928849295972603625723164458468225594276025034538770977080967708284216605478462246567879506640584293454389461512442931389187686605802170545145378889480378880289384707619082062746686801932850480805747632789599046265322961130126924425587575621201607561621220289437231253474516612555783124075487078398247956917104644059780166594367389541385336088801015628323372689793925347763915793833564759720872291206527691766924278734441963423510211420991821083772535700459038304481970598336374798729112739711882741053375385636233255477216516098468132359647117909849659316233621365938377430406522698017471525517724789909429901689548376535720533236540478315136677195748326089829865439684173887360601239472850680838115283000129869175457902759841695288041667152762342021203405985060314785047078184206604476809679685486363908267332929789046749744791580133541069303269692265654949336343602689727190186365343746517018396549589191955163092041363629890325978312312112384750241342559862419898562909259904540106563125625598871954485022659892400105897083394593414677744548856707773830734270509581410501961817881440136887837015543945691196863941252477038176970904664273045177046626062013007626674960520046922070931445153383591196578601926202644414124266266547757652100286886640223967618519158044337935470659251411779105331413095810139625211713276390282816856749773384473063260109371877957985368251759392718022757348487482106834092414018850319475618785856058045733338048594698925213602247358046761045766808498920214178857366385319742580798341414982710271599675956849384571002360256801725557871829250815190809690688743027480842100970315214273957670636036794230072962669302494298069939976066258834743656677276346561700268095030180093107292299935942388920807852032 3 27 31 (fun τ => thV (τ 75) (τ 76) (τ 77) (τ 78) (τ 79) (τ 80)) [7776, 1296, 216, 36, 6, 1] [(8, true), (2, false)] (fun τ => [(40, τ 13), (41, τ 30), (40, τ 37), (40, τ 54), (41, τ 64), (41, τ 71)]) (fun τ => [(1, τ 94), (6, τ 104), (36, τ 114), (216, τ 124), (1296, τ 134), (7776, τ 144)]) 6 6 := by refine Pb_elim fun b P => ?_; intros; cases b <;> kernel_rfl
theorem kN4 : KN 3 1266 44987955965735490599079013237164493636916534364510131416755542835931655829786910902695503950909987066503265614774505112530285749607751647728473954803969975762633121071612991280394271560286594917496212239313301805114937761957333558591911085302830011942151579150988484441118252324388181555674215405291193465666035308432230341784303264326939006541193870111604663093213509566266159980630873002071787700656857136792125522521828660123132915250610861343042733078215051363961616125665345110270387053202620636931373218040376445475426494908597108475584964303583355593120992532743820094261050115098295151615176567114402741674425516400821178330024564321447381397118734547337895746061594664608610537638803413046234798037014641364325341282705903683971379255959605672806207252561450564525530534499174091297201933217401139023877044260326444430454953113202491873278024629515794067793463892059220729247233640634964140621849165200001294233841142654444505842175399995535092826599441259600587163025272933382855196933938042954358201372913168132068169058203154223506464473274184467894835860921564636647201452886042122040605082299458836537282965603206022149961546362772657596530557672821678187350932010514650963493756934115147577534071843102531723742680919255522504214540489691105155376546334555391691781312097516449934973273870359614836382230036149665308846554030912750585854622623793777564601778936520609127479073563639256628936813329466090817530809089586551751049618857366074061910734406522594593731793421763192912828525129977912281716131224332597789666983911376122827445746438217746337063481902039281468440847769353078341209576031532312056612347531451769288341471769257774223703062986740207135706554246329753142459062059800901335923699605217602477981339573448311481594292143970563689615676875909086341843016995826637153968498673664 3 27 31 (fun τ => thV (τ 75) (τ 76) (τ 77) (τ 78) (τ 79) (τ 80)) [7776, 1296, 216, 36, 6, 1] [(8, false), (2, false)] (fun τ => [(40, τ 13), (41, τ 30), (40, τ 37), (41, τ 54), (40, τ 61), (41, τ 71)]) (fun τ => [(1, τ 94), (6, τ 104), (36, τ 114), (216, τ 124), (1296, τ 134), (7776, τ 144)]) 6 6 := by refine Pb_elim fun b P => ?_; intros; cases b <;> kernel_rfl
theorem kN5 : KN 4 1621 3326630553312966239902086005509910836838962166210025080323533505015394018858728953033005835503820310341597999203395604659625521124660065009272729192694305610475447820516216208468551194767841203631938251954078295578725440146878958292425118829462037185002012434661464656442969454944713283019888414479196455624367807812045185175791520645137739818486578788805939384484418651662479035504073736347466281165320628584594141899113483281968926997880917225430376739866569261752460779477749192080359998304284309975046285192645328896889140742012507774461258374325701322198416557217749361622996803684536987521234351109470258455032108483833461463921115621835492604336013265716012893637579171374972754550804564250426293199715755918960453489404936782830447284518656485271927255642274921706945194748606405327620149718790619964545502543256989383591235736007283794188374798045397574101401139813158621543727502520686324450004193759163559705831021420630929336602999867033913865264177545690794990027392911217403715248533467021570213821272147889575426955910901497077757154411112430747069655812617144649142373265490523294775694648104309842153041276437590031654926122579522524845197745293219937803378342342653563999302066722083774724406365091663782883183910217643899387070514312135742122336583679118384080822310196053467785561167638683579512868811132283149710954702973258595667521758060587775996910208264849379794735163100101450013910444948414413587327344283849553228312110790621584282396743110163323223367337995629017396565576086128559143556389332939073732633303273083527865427206336894691400922307683640870655841651045786854459248678580102469279695397484948713349246302028817530310975809504450225788848784438804522393892819619580269715169779237245670797097738320320796252511066220772048957928194289408499583701278290822874501317539813644295397124872959524868340061482879796666994888585071290342377007827612890659258723913977360337286773370525428563653604827156781158779108244381314991559620585304875933804569193366171632353573201952131747357452036373868733059724027799496831095585901190232592507599526975751328359768028544584948795334644241999133836995355301496846157347658554029131079131066922418784260404261029655793863272249896319107046511160331630854426697213539689897482803104429455507411854293385992678817411188321475582516791408597570822188866692355496871936 3 31 35 (fun τ => thV (τ 99) (τ 100) (τ 101) (τ 102) (τ 103) (τ 104)) [279936, 46656, 7776, 1296, 216, 36, 6, 1] [(8, true), (4, true), (2, true)] (fun τ => [(40, τ 13), (40, τ 30), (40, τ 47), (40, τ 64), (41, τ 74), (41, τ 81), (41, τ 88), (41, τ 95)]) (fun τ => [(1, τ 118), (6, τ 128), (36, τ 138), (216, τ 148), (1296, τ 158), (7776, τ 168), (46656, τ 178), (279936, τ 188)]) 8 8 := by refine Pb_elim fun b P => ?_; intros; cases b <;> kernel_rfl
theorem kN6 : KN 4 1640 4118169157856199748022351733920511673257092240775593552477366169445113388982249906562939903459715271535082916903067879946610694688322303899866476059450079415500689856572944263773194292014528373771310791750503927302309260759556289184155184651771710594460376978545204029173305957980417704778923144588548221635539852394296524583272513058745506093975047809770857172542950342802931591256334808771419189365894417954433441524018513840785773890633864177383590629382083633359711317311729162913227167212383786488193708188749069080430987152177715397024690859693499661760968521030630500262161017970567468361369122669881404663322873938922891136525804204371365640723006174312498161843235139841962553382126020886879475593153440248694286320792595600909020028170607253835105136599484577192567166811819036561682406629486406478039060992457456819908779296691375574899683150358792503931882341224664008316224578044664035031507671883347725244276717374984682867863071059819522406135885653895848088057896175880101538593862150725181314023484273992386914096102944432190179517789353602284192452104132249084131068830370259700936880839045323846048480989594032312137395392778482006961615176442137164817812218507338436721022712786890707145520088238154691528852254942319883984632222825675118316720341745747848850388893939485029807294962320004285521082225256305021045011358848328674478084622260630009092375390801371407466353288037252843539045956669693259704447342772942895672181983327011896015676693390215890829035596132009396001759045038095384895058487095033501210367171285670160536170479278910631849070012062518757806146424186419038736368150609328046731747944243849161227079326350969011071945885673121453667616028408804511106640152259267605192048066750447838132037643423411901616802263804085044325528048022588428221012335248740650325715466249594512114965674779068532239874744264943025468149652771546886141010731270836187046937067115219859280830412444232683477719639415159700753908214467318584842210154863453796461207209702898878110675458936256523108452199132058202816631985592352120286967094489295289272926306610229297969371717657407846941492785510552179835758115495129973823524844449924591276283801680935217927195449065522694036701048313837952551123966406002666139207873549151336751208933406857156240678302532551662582426640391925533352492415346123953423832986939475175110368251550576991689590704128 3 31 35 (fun τ => thV (τ 106) (τ 107) (τ 108) (τ 109) (τ 110) (τ 111)) [279936, 46656, 7776, 1296, 216, 36, 6, 1] [(16, true), (8, false), (4, true), (2, true)] (fun τ => [(40, τ 13), (40, τ 30), (40, τ 47), (41, τ 64), (40, τ 78), (41, τ 88), (41, τ 95), (41, τ 102)]) (fun τ => [(1, τ 125), (6, τ 135), (36, τ 145), (216, τ 155), (1296, τ 165), (7776, τ 175), (46656, τ 185), (279936, τ 195)]) 8 8 := by refine Pb_elim fun b P => ?_; intros; cases b <;> kernel_rfl
theorem kN7 : KN 4 1659 5098046489060345318808677463408814641672043278522977664618016696422565124361300641213285325975657943080379076028735382739202020756169061932175823446822074487297944149057792267898453302749184915063729807717163017916301410561852825168269196884113614983869321111271706816815047112194513924116716776197929896877712721345430993299019512391489871390255400660496287982589342710982818522069208051326756897245326152683281142091373304126883397251705227701411851793973438852510893482137570877737210955962651562834001049391445675363002536460285155352767507312264597828074163747156494321951318510328429904554911347713639151287019631241984173126640942610463625652638992337160713372323971033379382009693661463141485206594077939704326516083475182558100400720300371011790264896646271506284493375794557301878507219888464548967246096963693745753324354936129230857064262171169484387547148972332523161766110147641521624134777550459443932313046224933630564452564245528137039909399476125412650676677474748171139285544000850471856602385897268591473812916523395866768930346347582779800513077897091729457955233369660417831356885367354243386211439958990965079015641432771995276816620397775945034940654002271425877958176575304469388043088483001380674150359052266902111874732405789098392729100938798176016410689661219502078929007441013595452456809204223379800340762001502218936666903479683677377858689689097153348802430122025883944482844062282440245990914699902912145495062298753718070363000744248316916278154056676376217590819670957997437808939252432496298648231688870798490678344695407463952109780279733672384029758743279897054934048565226610361917967682832174381221869186985652326702428598610598022438714344418380159696261532913270953678128624611071260802404974650741836165851009556379582512461879104428872068415748648447266854029161847155987081536197609201232257259846238376828553940416432682594907206306184272329736447858608023489005494592352176083639620897531675657486035504511487829285672652822078018808471940901421001922221207285040493825101700292236756085000509536504839197102718333022321734980371164802963921000330755319014028807564581759271666547358443490273802896765595531733228634038415219494213674191094794937618760832174165066928536947719487386517536155603865635727907531215631870686027006962332239879729580984949570767837339627105108872375969492172297046958239031915483953283439876725468824766122994354358272 3 31 35 (fun τ => thV (τ 113) (τ 114) (τ 115) (τ 116) (τ 117) (τ 118)) [279936, 46656, 7776, 1296, 216, 36, 6, 1] [(32, true), (16, false), (8, false), (4, true), (2, true)] (fun τ => [(40, τ 13), (40, τ 30), (40, τ 47), (41, τ 64), (41, τ 78), (40, τ 92), (41, τ 102), (41, τ 109)]) (fun τ => [(1, τ 132), (6, τ 142), (36, τ 152), (216, τ 162), (1296, τ 172), (7776, τ 182), (46656, τ 192), (279936, τ 202)]) 8 8 := by refine Pb_elim fun b P => ?_; intros; cases b <;> kernel_rfl
theorem kN8 : KN 4 1650 4747925781701081729315852246627970264919142498190493941882640771961365942248423249659394217632392368354256335672675988394023869890877103369846775612628156773092173178734064351672728827920914548508571281765739450153244110347566032007587325651304437763867267511106754482551521726133780483265143610721388735694543199004075483697484724588217093972727098186031252129552273741907271111448489177345071823564661808948294391940695516883287017468088518550071727292587458018689317146444293556490178178961064259367064618870099704119379200469968053840815562114365955654600787672359956728249153597586257294337182629586792691878061398157835167950616164701491245676427141145952710297260406458172371620027033112143618247093705404274469722140091641394514963701647120538903647006159901159149122774409649243465165812418297444439722315374476598345976653449357702263690775419743251416410458248418311739122597638183759175366514875050116267346820072209118459795195837997027709995768476394389430691187712129364851196803210710602627636699684436608334177232548181445292209932551146569656811103056871339689047319138416395482529150242894299842479870054207474288600540148487444510230918822441940000083484752536257830190242066875169110186993926350427751940128009777208618886684529046275691854799192688236030022474840558797163225462440284406654101574167305139851124623460240095498671698123964039760108219672818566707740209244927870805777542424371158352434646582172775327887843488629265535780003117919550652169085079986343252889717507267131069282786891086040257409251416250628089953376548101197290675326461545539889322358643651281246283137644650129771077285965023168948261127237186816283544150406025389509125364524157433771457784136047348522756909071312187850070443775947174387051304220960549844361296602883713895396580347199900900803968843360845560586446927957547855094098637245762067705048484502611581410467695320045617868420856326115140017933238504584685831346645418184054163794240236894882837923977889378772772681447533132150434252395483859124419244284338148072674298517547952874497243619812553427494380580729892656290119750198692693461632246495391542701116689959702816563807396113952102380200337708897983809271082303991938328978132693690896162878825072985807148056119538483895153206529211270583540425793381234324271431292414774207960453069913808435080575376099673333400308738944247276788640096921946861720894965760 3 31 35 (fun τ => thV (τ 113) (τ 114) (τ 115) (τ 116) (τ 117) (τ 118)) [279936, 46656, 7776, 1296, 216, 36, 6, 1] [(32, false), (16, false), (8, false), (4, true), (2, true)] (fun τ => [(40, τ 13), (40, τ 30), (40, τ 47), (41, τ 64), (41, τ 78), (41, τ 92), (40, τ 99), (41, τ 109)]) (fun τ => [(1, τ 132), (6, τ 142), (36, τ 152), (216, τ 162), (1296, τ 172), (7776, τ 182), (46656, τ 192), (279936, τ 202)]) 8 8 := by refine Pb_elim fun b P => ?_; intros; cases b <;> kernel_rfl
theorem kN9 : KN 4 1640 4118169157856199748022351733920511673257092240775593552477366169445113388982249906562939903459715271535082916903067879946610694688322303899866476059450079415500689856572944263773194292014528373771310791750503927302309260759556289184155184651771710594460376978545204029173305957980417704778923144588548221635539852394296524583272513058745506093975047809770857172542950342802931591256334808771419189365894417954433441524018513840785773890633864177383590629382083633359711317311729162913227167212383786488193708188749069080430987152177715397024690859693499661760968521030630500262161017970567468361369122669881404663322873938922891136525804204371365640723006174312498161843235139841962553382126020886879475593153440248694286320792595600909020028170607253835105136599484577192567166811819036561682406629486406478039060992457456819908779296691375574899683150358792503931882341224664008316224578044664035031507671883347725244276717374984682867863071059819522406135885653895848088057896175880101538593862150725181314023484273992386914096102944432190179517789353602284192452104132249084131068830370259700936880839045323846048480989594032312137395392778482006961615176442137164817812218507338436721022712786890707145520088238154691528852254942319883984632222825675118316720341745747848850388893939485029807294962320004285521082225256305021045011358848328674478084622260630009092375390801371407466353288037252843539047887275595914381419743005985047144279386879769883993042511199005442957838895388334100182872194881102772218682509389480923606557278739803766545727724218320215927936900181134266309331992546865622909383974395786612793678136447694851841735293703867773009032000199286138090915537221093239700071644444761004069244917824522585275652409459894486928297057532477338291120468982534095187671233262333248758002368517294167027172824608061272532440575364307177019507107436220705073715369812282775375205607508539941942193106559860716316593949271143266243817857014412902168096193145599914369349253527561613356063074423780857990731843570246081657403982607465178939888236531632622577365924939865633305485362055104046053623220174442344523190603738765223943459596145139026521476544981943717811795899566193110513737439085156212404593557332678553080713981090911130291035479718863033208437753088057934548395571580040823610773522023872679496078364668732828694027982999225985640530184192 3 31 35 (fun τ => thV (τ 106) (τ 107) (τ 108) (τ 109) (τ 110) (τ 111)) [279936, 46656, 7776, 1296, 216, 36, 6, 1] [(16, true), (8, true), (4, false), (2, true)] (fun τ => [(40, τ 13), (40, τ 30), (41, τ 47), (40, τ 61), (40, τ 78), (41, τ 88), (41, τ 95), (41, τ 102)]) (fun τ => [(1, τ 125), (6, τ 135), (36, τ 145), (216, τ 155), (1296, τ 165), (7776, τ 175), (46656, τ 185), (279936, τ 195)]) 8 8 := by refine Pb_elim fun b P => ?_; intros; cases b <;> kernel_rfl
theorem kN10 : KN 4 1659 5098046489060345318808677463408814641672043278522977664618016696422565124361300641213285325975657943080379076028735382739202020756169061932175823446822074487297944149057792267898453302749184915063729807717163017916301410561852825168269196884113614983869321111271706816815047112194513924116716776197929896877712721345430993299019512391489871390255400660496287982589342710982818522069208051326756897245326152683281142091373304126883397251705227701411851793973438852510893482137570877737210955962651562834001049391445675363002536460285155352767507312264597828074163747156494321951318510328429904554911347713639151287019631241984173126640942610463625652638992337160713372323971033379382009693661463141485206594077939704326516083475182558100400720300371011790264896646271506284493375794557301878507219888464548967246096963693745753324354936129230857064262171169484387547148972332523161766110147641521624134777550459443932313046224933630564452564245528137039909399476125412650676677474748171139285544000850471856602385897268591473812916523395866768930346347582779800513077897091729457955233369660417831356885367354243386211439958990965079015641432771995276816620397775945034940654002271425877958176575304469388043088483001380674150359052266902111874732405789098392729100938798176016410689661219502078929007441013595452456809204223379800340762001502218936666903479683677377858689689097153348802430122025883944482844062282440245990914699902914076100964953430690470596042895720414319830912044653742035399609223086800737065263956613609448491239076194422512972792117803654059563913885743229628969168327358763943052664073729795930278414267005190205008327753047582518906274289225253989791613106355466274222426217336570462490417353204502752987898373527938687239925756699994348548944464415923665796808042614039687813974828813814885095128796041488134524959501150583978382933156725248426006570457735629784401121677540728127546941180680444624032940980193038351601663537350362139141656218311987661355566258227307040204367325193182537649764435537624371572524844418784483635290597173794318750093429817724105963337664059758632358443899917872916064243557555620708466786930282964221472269288535154245908888626339987680919769332058765517429207364196523777288854415457335226654583418157137978227786800502158786191735457952709021323343611593074040060491259750453403724706965104160861682541093460385200273415116945293838336 3 31 35 (fun τ => thV (τ 113) (τ 114) (τ 115) (τ 116) (τ 117) (τ 118)) [279936, 46656, 7776, 1296, 216, 36, 6, 1] [(32, true), (16, false), (8, true), (4, false), (2, true)] (fun τ => [(40, τ 13), (40, τ 30), (41, τ 47), (40, τ 61), (41, τ 78), (40, τ 92), (41, τ 102), (41, τ 109)]) (fun τ => [(1, τ 132), (6, τ 142), (36, τ 152), (216, τ 162), (1296, τ 172), (7776, τ 182), (46656, τ 192), (279936, τ 202)]) 8 8 := by refine Pb_elim fun b P => ?_; intros; cases b <;> kernel_rfl
theorem kN11 : KN 4 1650 4747925781701081729315852246627970264919142498190493941882640771961365942248423249659394217632392368354256335672675988394023869890877103369846775612628156773092173178734064351672728827920914548508571281765739450153244110347566032007587325651304437763867267511106754482551521726133780483265143610721388735694543199004075483697484724588217093972727098186031252129552273741907271111448489177345071823564661808948294391940695516883287017468088518550071727292587458018689317146444293556490178178961064259367064618870099704119379200469968053840815562114365955654600787672359956728249153597586257294337182629586792691878061398157835167950616164701491245676427141145952710297260406458172371620027033112143618247093705404274469722140091641394514963701647120538903647006159901159149122774409649243465165812418297444439722315374476598345976653449357702263690775419743251416410458248418311739122597638183759175366514875050116267346820072209118459795195837997027709995768476394389430691187712129364851196803210710602627636699684436608334177232548181445292209932551146569656811103056871339689047319138416395482529150242894299842479870054207474288600540148487444510230918822441940000083484752536257830190242066875169110186993926350427751940128009777208618886684529046275691854799192688236030022474840558797163225462440284406654101574167305139851124623460240095498671698123964039760108219672818566707740209244927870805777542424371158352434648512778677982564815888862307687252100521472308640146450897795132805018520806523455773463900040929047644732875438545075512349566655555330896684883706484949473401225531769896754786323213010576355250301788809627514323057429390661974158806373378288271062450638683598455881083644859637251350340563497681248947640627021249134194918986997032429672791396612106189362172768159846567770627741374438159018733830225247510006305787074754807997614315601975732961825149984719436801125494867561728346201778897904768492709339533812087002668550092878448327833620436473090098567485815278268342394439308521859664631899825672407556578161986140753338015616827666486147301722772229989594559368528329028797745890893087741813247124623592981251239884357587352500135089404112419054463825605000438213578583194361312639915215844304067001525710465159782094712636753030377080252339693240201239190742970280479926422001101923725338856482777422059472554116673504930372299828370595855671834445824 3 31 35 (fun τ => thV (τ 113) (τ 114) (τ 115) (τ 116) (τ 117) (τ 118)) [279936, 46656, 7776, 1296, 216, 36, 6, 1] [(32, false), (16, false), (8, true), (4, false), (2, true)] (fun τ => [(40, τ 13), (40, τ 30), (41, τ 47), (40, τ 61), (41, τ 78), (41, τ 92), (40, τ 99), (41, τ 109)]) (fun τ => [(1, τ 132), (6, τ 142), (36, τ 152), (216, τ 162), (1296, τ 172), (7776, τ 182), (46656, τ 192), (279936, τ 202)]) 8 8 := by refine Pb_elim fun b P => ?_; intros; cases b <;> kernel_rfl
theorem kN12 : KN 4 1631 3835343902796692911556318154484510117449883595831313685027292156075233024528482841852065085861566729410628710783149935255395895511212110426152568365866392306518452108439937479582796145244062294970555968350268832689439189396385372787858531486030398490336143391714621362437779044714214005301634915721181986514050376037411880291320861371928365988633639933328011233865237182754028207861198865595664074053889529737116248834895448610918385806152470575071490024572316215708582957565532217652748494606822530262352626946521055959566484347151327316672253291768487227858014890021300409233347529518015187570237668855005320779348606186847101092828255337077533491629181592084931360411676708461681896245224420807212102779330164425721658692502040044319834586391791006396622524223741681494346975173632648365276313041789835764131565571257338691417853624272510013449642015955217651959399079181872315999329628464452954969841681312162173208106977283009032595775156337599756574384761651880897663587607607133781107695644861762580754257258282967272134587264568016110155282345929743986756030567113542076322314171487567785854609299428583122719069001353351265360539149891650078433188397599657204822256140646440352291786286530572544200873505948577073864664644977402355949410700634041659428569580849703179551676758093320080333543687050888843345644898715820594474002948130213275180594085532199412378009679848898960561442694910725641079903487211411495190486965865301817690797432179412812644471603946973825138075985823850566969235643529071540298106144584013846538397604198470428103566856787382724337611598024811148764926380690145342675159957678461716807845390108796278331557386814540461550722919741585088034965760550680669806357207064987858999309298612228780589402836221520982099352221861118343165685645582756339076983872300541126454233993289882115168158641494162724590470232785156147171597649467160430198783607733899731847196140861916957296441219937802212054230159564750460002796122986355507201478847130782826785424513387988355453337082250443930606631998981696275925726370007513288640243979636340373284560015533992722901768004094736595986391509603317248548056617823485184425547266193426368211011776414841340250317218304630325681967109707867906053301985344051003134404788574112572675225826166431944937229549496739545935799400026256348545172561667971102186349880377923015879499093175598843904 3 31 35 (fun τ => thV (τ 106) (τ 107) (τ 108) (τ 109) (τ 110) (τ 111)) [279936, 46656, 7776, 1296, 216, 36, 6, 1] [(32, true), (8, false), (4, false), (2, true)] (fun τ => [(40, τ 13), (40, τ 30), (41, τ 47), (41, τ 61), (40, τ 68), (40, τ 85), (41, τ 95), (41, τ 102)]) (fun τ => [(1, τ 125), (6, τ 135), (36, τ 145), (216, τ 155), (1296, τ 165), (7776, τ 175), (46656, τ 185), (279936, τ 195)]) 8 8 := by refine Pb_elim fun b P => ?_; intros; cases b <;> kernel_rfl
theorem kN13 : KN 4 1622 3571942358088393613282887408961085712024833630613343496832337375800342321888062024351270018016515978994433498739404543540809206209343029583015077156821631180605340850017906613259386406507401070530112803308543593333511789698512640584128472475363312745779886275264081882720607374528622259666803214439360412316443748806986846301072148021243853483939208028212200136729736982615690871943904893096223542516948217281248652222468935522174821986027500196426631905671503595736420673844900184918892099155879142007187592747175186834825653906121223528564212184183753307776539484058786564723912188334404665576515410891739018987257598141997215424504368879904536056918261192818108350421932254416571833421685193485777920837821592041963393513580821495801056350014909176525308307468650565943072526877403863114562177138207327354821903231793398681485889129594443378457466155248896826020813620818659957497687664315526331746803299814613697312871904375971325296699215041100752143547648239769877552602074674455245125755380089079898814024981393862645748513386134514401999509327733562243545691270876749555644711880362337493923598472901710666943301795457048290740869553963021993396856568650259300999760948681286547699593060742295453923218130142833403403308652218274321551201732296502886672522433282325859866487332609643101292255396515725297116868856116267964351041629658989733265490408574603699072834367945069846259136754916506281326367765852709099837129773602269876571128034342209992488432805719464048043413875612629646453636238734075324939211796044534319859646973343993857049609484753889654325890920356050239324875150166066354852265697071553308176610243646047663010642271768772165902035918524380893756896403751572069327773472613637906594382149876440352043761484534118502395161198965412337759251593282144190155012213873749058018309725312110912216114086972250503382156486520248726300974523910573897742769464152989310437215519406579172774327396029695102472331727752221195295796568652207227590151292888240926128323548162526402488645195979730259675006113256024587787289933560525224114352809265325128350623356207150686046806116287106613452594419632030681315669215260310018347162506045679263250800738374557273184950926419438688788942128145582991983902939369878606849388775688294981273760131905773863102376846067054891760055766684091495559281952130639054497730983115342225361541793792 3 31 35 (fun τ => thV (τ 106) (τ 107) (τ 108) (τ 109) (τ 110) (τ 111)) [279936, 46656, 7776, 1296, 216, 36, 6, 1] [(32, false), (8, false), (4, false), (2, true)] (fun τ => [(40, τ 13), (40, τ 30), (41, τ 47), (41, τ 61), (40, τ 68), (41, τ 85), (40, τ 92), (41, τ 102)]) (fun τ => [(1, τ 125), (6, τ 135), (36, τ 145), (216, τ 155), (1296, τ 165), (7776, τ 175), (46656, τ 185), (279936, τ 195)]) 8 8 := by refine Pb_elim fun b P => ?_; intros; cases b <;> kernel_rfl
theorem kN14 : KN 4 1612 3098166131705945581106549134021541883087681761207082383635950745097728463689544194408697854265403291528670116517129917312064693425465435729616069414368183920602731239531390563089913869991750646039786051916031442190264761584698183734365849596878548325041320579742514208371722563118406835030660419239845551200553595844698310993417651062028240243426131819194126300964894380106105502232977874900648632240780283310072628687241564767406254073494036891898491177583643479042184333761920400038696823925044676265722406276171401978367139345046605704781839972665255258044615906866033898315389457796269084812360211377470063469402593079799284659252609705399249311849487261582177964632938775583144980064411241794402052834365289582834070072886475159628733326232672189615599117839964965085447947260557120039705326518780197915197818114661601729310337208218205528509220851627548759897613096808231083251282109432561625214297504871304668212152106147847072534824721391344362744376228699172656042526842012272592368767162288559200441298328477786458495031959285491218564244370080931807933054689892702409198855297165478854231252007283558922031001445313533797538770476895871129674089835298452468405830061382300034333124702676559440131722719365349472923419162346612463608487548714061585939588832358118433012716142110360736977604457499124215779568655263806926548303251791530865751604621895661976770795556964704367149366265909511903744486121679163799697363749149631303617235710110317399072593707190502789862704658448032649529378836352436592959184282622505691105132425145599678600228557039179903878201797980607892774583369077777076952325346386431179303167325508548467380423312579489817055601599363087685272627044614523759388315965550999492891097601548998760167507283244874737504596107991839967016019167374427531762277185793337464134559766320392499363692409949805403327356983148804892171475011058488461601502148295569748407253669992729312201996501776295114102252222181127309109080490869194284367408555467010855958796821537031117001380519339544630354604954146137234547164964125958531574701188380624540269614999251872971122240309382623576988553094507169035784903718975121811317674369434682181975016354873327990490075372868785760553984518179063662140268308921725332607553776409983702209050412972360261083494174083696158271254692733668161643532663767796733899414964224 3 31 35 (fun τ => thV (τ 99) (τ 100) (τ 101) (τ 102) (τ 103) (τ 104)) [279936, 46656, 7776, 1296, 216, 36, 6, 1] [(16, true), (8, true), (2, false)] (fun τ => [(40, τ 13), (41, τ 30), (40, τ 37), (40, τ 54), (40, τ 71), (41, τ 81), (41, τ 88), (41, τ 95)]) (fun τ => [(1, τ 118), (6, τ 128), (36, τ 138), (216, τ 148), (1296, τ 158), (7776, τ 168), (46656, τ 178), (279936, τ 188)]) 8 8 := by refine Pb_elim fun b P => ?_; intros; cases b <;> kernel_rfl
theorem kN15 : KN 4 1631 3835343902796692911556318154484510117449883595831313685027292156075233024528482841852065085861566729410628710783149935255395895511212110426152568365866392306518452108439937479582796145244062294970555968350268832689439189396385372787858531486030398490336143391714621362437779044714214005301634915721181986514050376037411880291320861371928365988633639933328011233865237182754028207861198865595664074053889529737116248834895448610918385806152470575071490024572316215708582957565532217652748494606822530262352626946521055959566484347151327316672253291768487227858014890021300409233347529518015187570237668855005320779348606186847101092828255337077533491629181592084931360411676708461681896245224420807212102779330164425721658692502040044319834586391791006396622524223741681494346975173632648365276313041789835764131565571257338691417853624272510013449642015955217651959399079181872315999329628464452954969841681312162173208106977283009032595775156337599756574384761651880897663587607607133781107695644861762580754257258282967272134587264568016110155282345929743986756030567113542076322314171487567785854609299428583122719069001353351265360539149891650078433188397599657204822256140646440352291786286530572544200873505948577073864664644977402355949410700634041659428569580849703179551676758093320080333543687050888843341894370685585979424694403476965155101605102844042514266380574952064093955314564709074744442943346288169916559212823699394195561136270963272162754240521084358810969879466800105295681884419458567610510544765087363012307589513069616123379794074738854803299411068184181020737555897652572528520618171944114263125460267417620186878336663129170140810548006916864353172982888356718267321304655615839202593503129161575868282313361827197216753404914950560941598275879119701502649614450966067825988973749444609160520076679201357325340046502615247114175834624079899187072101248961920858575406172903562338816550775878799149827016702429687834448504487135278506753355020768095985975159584613948521462346995716370307674899803919547369426722132435917136452082931168079132131373262104745319899638825662950202446685754099397183972323869754432136764733401844956138131701172878003175365233604110893267052581605066926645298376965824412948742223898651846324657183979327064203242134893070521330809428479949667818737245464790173604409340585050324962875978827699081709568 3 31 35 (fun τ => thV (τ 106) (τ 107) (τ 108) (τ 109) (τ 110) (τ 111)) [279936, 46656, 7776, 1296, 216, 36, 6, 1] [(32, true), (16, false), (8, true), (2, false)] (fun τ => [(40, τ 13), (41, τ 30), (40, τ 37), (40, τ 54), (41, τ 71), (40, τ 85), (41, τ 95), (41, τ 102)]) (fun τ => [(1, τ 125), (6, τ 135), (36, τ 145), (216, τ 155), (1296, τ 165), (7776, τ 175), (46656, τ 185), (279936, τ 195)]) 8 8 := by refine Pb_elim fun b P => ?_; intros; cases b <;> kernel_rfl
theorem kN16 : KN 4 1622 3571942358088393613282887408961085712024833630613343496832337375800342321888062024351270018016515978994433498739404543540809206209343029583015077156821631180605340850017906613259386406507401070530112803308543593333511789698512640584128472475363312745779886275264081882720607374528622259666803214439360412316443748806986846301072148021243853483939208028212200136729736982615690871943904893096223542516948217281248652222468935522174821986027500196426631905671503595736420673844900184918892099155879142007187592747175186834825653906121223528564212184183753307776539484058786564723912188334404665576515410891739018987257598141997215424504368879904536056918261192818108350421932254416571833421685193485777920837821592041963393513580821495801056350014909176525308307468650565943072526877403863114562177138207327354821903231793398681485889129594443378457466155248896826020813620818659957497687664315526331746803299814613697312871904375971325296699215041100752143547648239769877552602074674455245125755380089079898814024981393862645748513386134514401999509327733562243545691270876749555644711880362337493923598472901710666943301795457048290740869553963021993396856568650259300999760948681286547699593060742295453923218130142833403403308652218274321551201732296502886672522433282325859866487332609643101292255396511974769086634241066959419697793509580000750577333510462974594175999501338941716057485858279546140403126187221434957671222151472608715354987384451978909625817791551267529019668604325278422383132308946513945442560961813726228730792668620221075001081563715689124485260792328679756287302336011524569117918243389168185485434152192826939325271951028597253077315183662398021562934001266519517878624816207831737143729237569350877649437719188171195484603797398002571296196756854774768820538913408488814173036770664028949923308687721826773212247453524485700913713280783891538970790590881199342478860900926688728715324333802481645337269102197929559444719568204083401227464452077975997354283714171536315954571573047998064612857206757020350215693781372364175646091568112138374921375953205021507615019722747400857948674355056297933246616167599496153998692275966368659713962573489473658991213867790053184148000867390657972464264884977697716927122527670253134434392390210679206676158630940683971683467236876164398681484454353629759170132930111821959885024659456 3 31 35 (fun τ => thV (τ 106) (τ 107) (τ 108) (τ 109) (τ 110) (τ 111)) [279936, 46656, 7776, 1296, 216, 36, 6, 1] [(32, false), (16, false), (8, true), (2, false)] (fun τ => [(40, τ 13), (41, τ 30), (40, τ 37), (40, τ 54), (41, τ 71), (41, τ 85), (40, τ 92), (41, τ 102)]) (fun τ => [(1, τ 125), (6, τ 135), (36, τ 145), (216, τ 155), (1296, τ 165), (7776, τ 175), (46656, τ 185), (279936, τ 195)]) 8 8 := by refine Pb_elim fun b P => ?_; intros; cases b <;> kernel_rfl
theorem kN17 : KN 4 1603 2885392058366858941602100743000900263979734630516806974668009900578976109334774496414417265230234052546946440373668370127738167928033914165213768756359986886943440176110147091643804563201731672547558370899438338531427794680649585774509096142722804402039684895186232596982012095971411871752385440505897208303728695814216799096593308320295289385529357771569980588708905857155197767757790046651520423815381045742028047039398518174333734506269951250309582033738161883356221331061721220648565165628720704713577782992433199638842734829566074260307326887422478998121447774456845501731512563113373783242292899058638199669683904461375702786494614282063440710165991691483350437723974488287367839426185229601712946625766614063488384776642988584589896096133321700259669793620672975746400605198514759577536328247543608690796250584220142782954813175106612526354585636060264669263375081874645392644481835358367883799874693966754403162889281425482661030092017158255318872980986441646382252245062973604157910465413973256200962977789787376726507239005794274824265618221909675568279861183737127491458184362559972047222376522376295234597288771447838071551019190622827301911465021355036327531241849078909746216490187447820943068588179064525594584601303674894107228291906348048460425132786195052672296340297938136730249833344218751756647445308052758352362592612361963191242618207695784910430539132436309388097208832775568839486384259836536313773691525585270797576783694255302878085986494903255937405014475195133024812553565219998991459368556546903507711826036294683110019387990278904280384528593648995977384604393045451013326460359475767307211895643620242584899437484382037755040775280988109288426052405692636759931984135866135164754282741595694931558503927940762719715425287635512383703050588776023425775732354580502812778222089070382909012714051984328192903289890561885018399278561039524469226119167467398262878318397980752348123468848607844060487549689895700166626856827016870735811186830470896245108112118200045328458027310136461246543124566766135475408369875075684902468510372854443934739272973923537780834752897344382077090232090575853746704229792195417590335019809355726426108981736971254173330330946979339967833731145149303199451488336136546311947811711691224040376608878063858402926364868565441644673899625724943453337158821935723841536 3 31 35 (fun τ => thV (τ 99) (τ 100) (τ 101) (τ 102) (τ 103) (τ 104)) [279936, 46656, 7776, 1296, 216, 36, 6, 1] [(32, true), (8, false), (2, false)] (fun τ => [(40, τ 13), (41, τ 30), (40, τ 37), (41, τ 54), (40, τ 61), (40, τ 78), (41, τ 88), (41, τ 95)]) (fun τ => [(1, τ 118), (6, τ 128), (36, τ 138), (216, τ 148), (1296, τ 158), (7776, τ 168), (46656, τ 178), (279936, τ 188)]) 8 8 := by refine Pb_elim fun b P => ?_; intros; cases b <;> kernel_rfl
theorem kN18 : KN 4 1594 2687230760573278126867581850849930442850789642442769347380855959448009831211319655565933571411514703693749793221865194037312798135014170934645243693478393263130858704550328749831583875419322096321320506650431396934602218382665501697463072969320048021189574985938363333215948283645707994468869120353737108692274145608969776981131460815943115749889386605070885819111863018158076114726988642151952184564788868410538925825989356426832950214175462024574710087606834139075336354842149858035673541602418482968190482810543104669864042503355140108901380456446184774973846761935246644291572797217754445264388713108970038285184562635957917931018969306781367128869510899748048221435374103754170089425691617281840133132195672079444289930763643779409952551250645611677011282761276677014679280294584817790925808481447034227472032033112033068160352460207988066929006610121824470593943336861809149984719078390270363353076105906399342383154930011818801080893741136654577099700445720596594970901555357132254085005679009720241920634975833632168261705241857250629762178284674446597234835208911523564953456778075979181519048196562420554702888498350156124661776268784082920777249369472132674647781038629742109339326285644117094839456171502020025605820998260876511671059470205857439472763821654371941472644910136029131562004654412862820669290947029480711740404871302806185558392091956455453124777414327270207633253890387513380843972244291181419868629309326608181162031968066259782295274365005122714059041904047395772054726068395735651271495623023119401135428764596908628079789607622481755704972611067517841683147061407985273220530233235582190885568621362715487761111203016128062209107810762779439967813861939843333395277291749483786665246867725987346996050442994096089611745577266611004303280384318951694054827903698308783261719415545226603624655702672548634914882976199010174902235181774616400451557025986031370398665281083689977983745039793662452035582345218170761751970093730647643507921217233193107356457776762225010849716493576515961346378774044729724752369483900787563046156421176226437961947092042206224069800618405350688832676737957637272628089042516147089565944820543711320767123299732809549494379342520190477462641707256735589063426950318577589528844160819943262020617501372189115503209607344746178193824854415081280167032653824 3 31 35 (fun τ => thV (τ 99) (τ 100) (τ 101) (τ 102) (τ 103) (τ 104)) [279936, 46656, 7776, 1296, 216, 36, 6, 1] [(32, false), (8, false), (2, false)] (fun τ => [(40, τ 13), (41, τ 30), (40, τ 37), (41, τ 54), (40, τ 61), (41, τ 78), (40, τ 85), (41, τ 95)]) (fun τ => [(1, τ 118), (6, τ 128), (36, τ 138), (216, τ 148), (1296, τ 158), (7776, τ 168), (46656, τ 178), (279936, τ 188)]) 8 8 := by refine Pb_elim fun b P => ?_; intros; cases b <;> kernel_rfl
/-! ## The start -/
noncomputable def starts3 : List (List Nat) := [[40, 40, 40, 41, 41, 41], [40, 40, 41, 40, 41, 41], [40, 40, 41, 41, 40, 41], [40, 41, 40, 40, 41, 41], [40, 41, 40, 41, 40, 41]]
noncomputable def starts4 : List (List Nat) := [[40, 40, 40, 40, 41, 41, 41, 41], [40, 40, 40, 41, 40, 41, 41, 41], [40, 40, 40, 41, 41, 40, 41, 41], [40, 40, 40, 41, 41, 41, 40, 41], [40, 40, 41, 40, 40, 41, 41, 41], [40, 40, 41, 40, 41, 40, 41, 41], [40, 40, 41, 40, 41, 41, 40, 41], [40, 40, 41, 41, 40, 40, 41, 41], [40, 40, 41, 41, 40, 41, 40, 41], [40, 41, 40, 40, 40, 41, 41, 41], [40, 41, 40, 40, 41, 40, 41, 41], [40, 41, 40, 40, 41, 41, 40, 41], [40, 41, 40, 41, 40, 40, 41, 41], [40, 41, 40, 41, 40, 41, 40, 41]]
theorem mod6 (x : Int) : Int.fmod x 6 = 0 ∨ Int.fmod x 6 = 1 ∨ Int.fmod x 6 = 2 ∨ Int.fmod x 6 = 3 ∨ Int.fmod x 6 = 4 ∨ Int.fmod x 6 = 5 := by
  have h1 := Int.fmod_nonneg_of_pos x (b := 6) (by decide)
  have h2 := Int.fmod_lt_of_pos x (b := 6) (by decide)
  omega
theorem idx_ok (x : Int) (t0 t1 t2 t3 t4 t5 : Nat) : IdxOk (tupO (thV t0 t1 t2 t3 t4 t5)) (thV t0 t1 t2 t3 t4 t5) (Int.fmod x 6) := by
  refine ⟨rfl, ?_, ?_, ?_⟩
  · rcases mod6 x with h | h | h | h | h | h <;> rw [h] <;> decide
  · rcases mod6 x with h | h | h | h | h | h <;> rw [h] <;> decide
  · rcases mod6 x with h | h | h | h | h | h <;> rw [h] <;> exact ⟨_, _, rfl⟩
theorem pick_rid (x : Int) (t0 t1 t2 t3 t4 t5 : Nat) : RidOne (pickS (thV t0 t1 t2 t3 t4 t5) (Int.fmod x 6)) := by
  rcases mod6 x with h | h | h | h | h | h <;> rw [h]
  · exact .inr (.inl rfl)
  · exact .inl rfl
  · exact .inl rfl
  · exact .inr (.inr (.inl rfl))
  · exact .inr (.inr (.inr (.inl rfl)))
  · exact .inr (.inr (.inr (.inr rfl)))
theorem all_cat : ∀ {a b : List Prop}, AllP a → AllP b → AllP (cat a b)
  | [], _, _, h => h
  | _ :: _, _, h, h' => ⟨h.1, all_cat h.2 h'⟩
theorem ridPs_ok (N : Int) (t0 t1 t2 t3 t4 t5 : Nat) : ∀ ms : List Int, (∀ m ∈ ms, FdOk m) → AllP (ridPs (thV t0 t1 t2 t3 t4 t5) N ms)
  | [], _ => trivial
  | m :: ms, h => ⟨idx_ok _ t0 t1 t2 t3 t4 t5, ⟨by decide, by decide⟩, h m (.head _), ⟨by decide, by decide⟩, ridPs_ok N t0 t1 t2 t3 t4 t5 ms fun x hx => h x (.tail _ hx)⟩
theorem bitPs_ok (N : Int) : ∀ bs : List (Int × Bool), (∀ p ∈ bs, FdOk p.1 ∧ (Int.fmod (Int.fdiv N p.1) 2 == 1) = p.2) → AllP (bitPs N bs)
  | [], _ => trivial
  | p :: bs, h => ⟨(h p (.head _)).2, ⟨by decide, by decide⟩, (h p (.head _)).1, bitPs_ok N bs fun x hx => h x (.tail _ hx)⟩
theorem ridC_ok (N : Int) (t0 t1 t2 t3 t4 t5 : Nat) (l : List (Int × Nat)) : RidOk (ridC (thV t0 t1 t2 t3 t4 t5) N l) := by
  intro r hr
  obtain ⟨p, _, rfl⟩ := List.mem_map.mp hr
  exact pick_rid _ _ _ _ _ _ _
theorem sgC_cod (l : List (Nat × Nat)) : Cod (l.map (·.1)) (sgC l) := by
  unfold Cod sgC
  rw [List.map_map, List.map_map]; rfl
theorem call0p {w : World} {A : Around} {Q : Value → Shared → Prop} {E : Value → Shared → Prop} {H : Nat → Hk} {s : Shared} (h n orc j1 j2 j3 : Nat) (t : Sem Value) (o1 o2 : (Nat → Nat) → (Nat → Nat) → Obj) (ps : (Nat → Nat) → (Nat → Nat) → List Prop)
    (X : TopK w.params fun b => s.heap.get? b) (hh : A.handled = none) (h2 : 200 ≤ h) (hd : A.depth + 100 + h < recursionLimit) (hl : ∀ n, HLoc (H n)) (hk : ∀ n, HOkH pw w ⟨fun b => s.heap.get? b, AllBare, s.os⟩ 0 h (H n)) (hg : AllBare s.gens)
    (hrun : ∀ ρ τ, (runE (GH h w.params 0 H) ρ τ n (.top t) (mkT []) 0 0 orc [] []).said [j1, j2, j3] = (some (.ref (ρ j3)), (runE (GH h w.params 0 H) ρ τ n (.top t) (mkT []) 0 0 orc [] []).owed, ps ρ τ, [some (o1 ρ τ), some (o2 ρ τ), some (tupO [.ref (ρ j1), .ref (ρ j2)])]))
    (hp : ∀ ρ τ, AllP (ps ρ τ))
    (hQ : ∀ ρ τ c1 c2 c3 s', More s s' → s'.heap.get? c1 = some (o1 ρ τ) → s'.heap.get? c2 = some (o2 ρ τ) → s'.heap.get? c3 = some (tupO [.ref c1, .ref c2]) → s.heap.get? c3 = none → Q (.ref c3) s') : wpAny (model pw w) A t Q E s := by
  refine engH (B := ⟨fun b => s.heap.get? b, AllBare, s.os⟩) h 0 n [] (fun ρ => t) (fun _ => []) orc [j1, j2, j3] (fun ρ _ => .ref (ρ j3)) ps (fun ρ τ => [some (o1 ρ τ), some (o2 ρ τ), some (tupO [.ref (ρ j1), .ref (ρ j2)])]) X hh h2 hd hl hk ?_ (fun ρ' aρ => rfl) (fun _ _ => rfl) hrun (fun ρ τ _ => hp ρ τ) fun ρ τ T m s' aρ R e => ?_
  · exact Rep.make (B := ⟨fun b => s.heap.get? b, AllBare, s.os⟩) 0 _ [] (fun _ _ e => e) hg rfl (fun i o e => by cases i <;> cases e) (fun i h1 hi => by cases hi) (fun i j h1 hi _ _ => by cases hi)
  · simp only [List.map_cons, List.map_nil, List.cons.injEq, and_true] at e
    obtain ⟨e1, e2, e3⟩ := e
    exact hQ ρ τ _ _ _ s' ⟨R.keep, R.gens, R.os⟩ (R.own j1 _ e1).2 (R.own j2 _ e2).2 (R.own j3 _ e3).2 (R.new j3 _ (Nat.zero_le _) e3)
theorem kn_use {w : World} {A : Around} {Q : Value → Shared → Prop} {E : Value → Shared → Prop} {s : Shared} {p N : Int} {tN tp N' orc jx jy ja : Nat} {tv : (Nat → Nat) → List Value} {ms : List Int} {bs : List (Int × Bool)} {sg : (Nat → Nat) → List (Nat × Nat)} {rd : (Nat → Nat) → List (Int × Nat)} {n1 n2 : Nat} (k : KN p N' orc jx jy ja tv ms bs sg rd n1 n2)
    (X : TopK w.params fun b => s.heap.get? b) (hh : A.handled = none) (hd : A.depth + 300 < recursionLimit) (hg : AllBare s.gens) (ht : ∀ τ, ∃ t0 t1 t2 t3 t4 t5, tv τ = thV t0 t1 t2 t3 t4 t5) (hm : ∀ m ∈ ms, 0 < m ∧ m ≤ 1000000) (hb : ∀ p ∈ bs, (0 < p.1 ∧ p.1 ≤ 1000000) ∧ (Int.fmod (Int.fdiv N p.1) 2 == 1) = p.2)
    (hQ : ∀ τ c1 c2 c3 s', More s s' → s'.heap.get? c1 = some (lstO (strValues (sgC (sg τ))) n1) → s'.heap.get? c2 = some (lstO (strValues (ridC (tv τ) N (rd τ))) n2) → s'.heap.get? c3 = some (tupO [.ref c1, .ref c2]) → s.heap.get? c3 = none → Q (.ref c3) s') : wpAny (model pw w) A (call (.ref 40) [.int N tN, .int p tp]) Q E s := by
  have hd' : A.depth + 100 + 200 < recursionLimit := by omega
  refine call0p 200 N' orc jx jy ja _ _ _ _ X hh (Nat.le_refl _) hd' (hkN_loc 0) (hkN_ok w _ 0) hg (fun ρ τ => k w.params ρ τ N tN tp) (fun ρ τ => ?_) fun ρ τ c1 c2 c3 s' => hQ τ c1 c2 c3 s'
  obtain ⟨t0, t1, t2, t3, t4, t5, e⟩ := ht τ
  rw [e]
  exact all_cat (ridPs_ok N t0 t1 t2 t3 t4 t5 ms hm) (bitPs_ok N bs hb)
theorem start3 {w : World} {A : Around} {Q : Value → Shared → Prop} {E : Value → Shared → Prop} {s : Shared} {N : Int} {tN tp : Nat} (X : TopK w.params fun b => s.heap.get? b) (hh : A.handled = none) (hd : A.depth + 300 < recursionLimit) (hg : AllBare s.gens)
    (hQ : ∀ c ca cb cs rs n n' s' l, More s s' → s'.heap.get? ca = some (lstO (strValues cs) n) → s'.heap.get? cb = some (lstO (strValues rs) n') → s'.heap.get? c = some (tupO [.ref ca, .ref cb]) → s.heap.get? c = none → Cod l cs → l ∈ starts3 → RidOk rs → rs.length = 6 → Q (.ref c) s') : wpAny (model pw w) A (call (.ref 40) [.int N tN, .int 3 tp]) Q E s := by
  cases hb1 : (Int.fmod (Int.fdiv N 2) 2 == 1) with
  | true =>
    cases hb2 : (Int.fmod (Int.fdiv N 4) 2 == 1) with
    | true =>
      exact kn_use kN0 X hh hd hg (fun τ => ⟨_, _, _, _, _, _, rfl⟩) (by decide) (fun p hp => by simp only [List.mem_cons, List.not_mem_nil, or_false] at hp; rcases hp with rfl | rfl <;> exact ⟨⟨by decide, by decide⟩, by assumption⟩) fun τ c1 c2 c3 s' hm g1 g2 g3 f3 => hQ c3 c1 c2 _ _ _ _ s' [40, 40, 40, 41, 41, 41] hm g1 g2 g3 f3 (sgC_cod _) (.head _) (ridC_ok _ _ _ _ _ _ _ _) rfl
    | false =>
      cases hb3 : (Int.fmod (Int.fdiv N 8) 2 == 1) with
      | true =>
        exact kn_use kN1 X hh hd hg (fun τ => ⟨_, _, _, _, _, _, rfl⟩) (by decide) (fun p hp => by simp only [List.mem_cons, List.not_mem_nil, or_false] at hp; rcases hp with rfl | rfl | rfl <;> exact ⟨⟨by decide, by decide⟩, by assumption⟩) fun τ c1 c2 c3 s' hm g1 g2 g3 f3 => hQ c3 c1 c2 _ _ _ _ s' [40, 40, 41, 40, 41, 41] hm g1 g2 g3 f3 (sgC_cod _) (.tail _ (.head _)) (ridC_ok _ _ _ _ _ _ _ _) rfl
      | false =>
        exact kn_use kN2 X hh hd hg (fun τ => ⟨_, _, _, _, _, _, rfl⟩) (by decide) (fun p hp => by simp only [List.mem_cons, List.not_mem_nil, or_false] at hp; rcases hp with rfl | rfl | rfl <;> exact ⟨⟨by decide, by decide⟩, by assumption⟩) fun τ c1 c2 c3 s' hm g1 g2 g3 f3 => hQ c3 c1 c2 _ _ _ _ s' [40, 40, 41, 41, 40, 41] hm g1 g2 g3 f3 (sgC_cod _) (.tail _ (.tail _ (.head _))) (ridC_ok _ _ _ _ _ _ _ _) rfl
  | false =>
    cases hb3 : (Int.fmod (Int.fdiv N 8) 2 == 1) with
    | true =>
      exact kn_use kN3 X hh hd hg (fun τ => ⟨_, _, _, _, _, _, rfl⟩) (by decide) (fun p hp => by simp only [List.mem_cons, List.not_mem_nil, or_false] at hp; rcases hp with rfl | rfl <;> exact ⟨⟨by decide, by decide⟩, by assumption⟩) fun τ c1 c2 c3 s' hm g1 g2 g3 f3 => hQ c3 c1 c2 _ _ _ _ s' [40, 41, 40, 40, 41, 41] hm g1 g2 g3 f3 (sgC_cod _) (.tail _ (.tail _ (.tail _ (.head _)))) (ridC_ok _ _ _ _ _ _ _ _) rfl
    | false =>
      exact kn_use kN4 X hh hd hg (fun τ => ⟨_, _, _, _, _, _, rfl⟩) (by decide) (fun p hp => by simp only [List.mem_cons, List.not_mem_nil, or_false] at hp; rcases hp with rfl | rfl <;> exact ⟨⟨by decide, by decide⟩, by assumption⟩) fun τ c1 c2 c3 s' hm g1 g2 g3 f3 => hQ c3 c1 c2 _ _ _ _ s' [40, 41, 40, 41, 40, 41] hm g1 g2 g3 f3 (sgC_cod _) (.tail _ (.tail _ (.tail _ (.tail _ (.head _))))) (ridC_ok _ _ _ _ _ _ _ _) rfl
theorem start4 {w : World} {A : Around} {Q : Value → Shared → Prop} {E : Value → Shared → Prop} {s : Shared} {N : Int} {tN tp : Nat} (X : TopK w.params fun b => s.heap.get? b) (hh : A.handled = none) (hd : A.depth + 300 < recursionLimit) (hg : AllBare s.gens)
    (hQ : ∀ c ca cb cs rs n n' s' l, More s s' → s'.heap.get? ca = some (lstO (strValues cs) n) → s'.heap.get? cb = some (lstO (strValues rs) n') → s'.heap.get? c = some (tupO [.ref ca, .ref cb]) → s.heap.get? c = none → Cod l cs → l ∈ starts4 → RidOk rs → rs.length = 8 → Q (.ref c) s') : wpAny (model pw w) A (call (.ref 40) [.int N tN, .int 4 tp]) Q E s := by
  cases hb1 : (Int.fmod (Int.fdiv N 2) 2 == 1) with
  | true =>
    cases hb2 : (Int.fmod (Int.fdiv N 4) 2 == 1) with
    | true =>
      cases hb3 : (Int.fmod (Int.fdiv N 8) 2 == 1) with
      | true =>
        exact kn_use kN5 X hh hd hg (fun τ => ⟨_, _, _, _, _, _, rfl⟩) (by decide) (fun p hp => by simp only [List.mem_cons, List.not_mem_nil, or_false] at hp; rcases hp with rfl | rfl | rfl <;> exact ⟨⟨by decide, by decide⟩, by assumption⟩) fun τ c1 c2 c3 s' hm g1 g2 g3 f3 => hQ c3 c1 c2 _ _ _ _ s' [40, 40, 40, 40, 41, 41, 41, 41] hm g1 g2 g3 f3 (sgC_cod _) (.head _) (ridC_ok _ _ _ _ _ _ _ _) rfl
      | false =>
        cases hb4 : (Int.fmod (Int.fdiv N 16) 2 == 1) with
        | true =>
          exact kn_use kN6 X hh hd hg (fun τ => ⟨_, _, _, _, _, _, rfl⟩) (by decide) (fun p hp => by simp only [List.mem_cons, List.not_mem_nil, or_false] at hp; rcases hp with rfl | rfl | rfl | rfl <;> exact ⟨⟨by decide, by decide⟩, by assumption⟩) fun τ c1 c2 c3 s' hm g1 g2 g3 f3 => hQ c3 c1 c2 _ _ _ _ s' [40, 40, 40, 41, 40, 41, 41, 41] hm g1 g2 g3 f3 (sgC_cod _) (.tail _ (.head _)) (ridC_ok _ _ _ _ _ _ _ _) rfl
        | false =>
          cases hb5 : (Int.fmod (Int.fdiv N 32) 2 == 1) with
          | true =>
            exact kn_use kN7 X hh hd hg (fun τ => ⟨_, _, _, _, _, _, rfl⟩) (by decide) (fun p hp => by simp only [List.mem_cons, List.not_mem_nil, or_false] at hp; rcases hp with rfl | rfl | rfl | rfl | rfl <;> exact ⟨⟨by decide, by decide⟩, by assumption⟩) fun τ c1 c2 c3 s' hm g1 g2 g3 f3 => hQ c3 c1 c2 _ _ _ _ s' [40, 40, 40, 41, 41, 40, 41, 41] hm g1 g2 g3 f3 (sgC_cod _) (.tail _ (.tail _ (.head _))) (ridC_ok _ _ _ _ _ _ _ _) rfl
          | false =>
            exact kn_use kN8 X hh hd hg (fun τ => ⟨_, _, _, _, _, _, rfl⟩) (by decide) (fun p hp => by simp only [List.mem_cons, List.not_mem_nil, or_false] at hp; rcases hp with rfl | rfl | rfl | rfl | rfl <;> exact ⟨⟨by decide, by decide⟩, by assumption⟩) fun τ c1 c2 c3 s' hm g1 g2 g3 f3 => hQ c3 c1 c2 _ _ _ _ s' [40, 40, 40, 41, 41, 41, 40, 41] hm g1 g2 g3 f3 (sgC_cod _) (.tail _ (.tail _ (.tail _ (.head _)))) (ridC_ok _ _ _ _ _ _ _ _) rfl
    | false =>
      cases hb3 : (Int.fmod (Int.fdiv N 8) 2 == 1) with
      | true =>
        cases hb4 : (Int.fmod (Int.fdiv N 16) 2 == 1) with
        | true =>
          exact kn_use kN9 X hh hd hg (fun τ => ⟨_, _, _, _, _, _, rfl⟩) (by decide) (fun p hp => by simp only [List.mem_cons, List.not_mem_nil, or_false] at hp; rcases hp with rfl | rfl | rfl | rfl <;> exact ⟨⟨by decide, by decide⟩, by assumption⟩) fun τ c1 c2 c3 s' hm g1 g2 g3 f3 => hQ c3 c1 c2 _ _ _ _ s' [40, 40, 41, 40, 40, 41, 41, 41] hm g1 g2 g3 f3 (sgC_cod _) (.tail _ (.tail _ (.tail _ (.tail _ (.head _))))) (ridC_ok _ _ _ _ _ _ _ _) rfl
        | false =>
          cases hb5 : (Int.fmod (Int.fdiv N 32) 2 == 1) with
          | true =>
            exact kn_use kN10 X hh hd hg (fun τ => ⟨_, _, _, _, _, _, rfl⟩) (by decide) (fun p hp => by simp only [List.mem_cons, List.not_mem_nil, or_false] at hp; rcases hp with rfl | rfl | rfl | rfl | rfl <;> exact ⟨⟨by decide, by decide⟩, by assumption⟩) fun τ c1 c2 c3 s' hm g1 g2 g3 f3 => hQ c3 c1 c2 _ _ _ _ s' [40, 40, 41, 40, 41, 40, 41, 41] hm g1 g2 g3 f3 (sgC_cod _) (.tail _ (.tail _ (.tail _ (.tail _ (.tail _ (.head _)))))) (ridC_ok _ _ _ _ _ _ _ _) rfl
          | false =>
            exact kn_use kN11 X hh hd hg (fun τ => ⟨_, _, _, _, _, _, rfl⟩) (by decide) (fun p hp => by simp only [List.mem_cons, List.not_mem_nil, or_false] at hp; rcases hp with rfl | rfl | rfl | rfl | rfl <;> exact ⟨⟨by decide, by decide⟩, by assumption⟩) fun τ c1 c2 c3 s' hm g1 g2 g3 f3 => hQ c3 c1 c2 _ _ _ _ s' [40, 40, 41, 40, 41, 41, 40, 41] hm g1 g2 g3 f3 (sgC_cod _) (.tail _ (.tail _ (.tail _ (.tail _ (.tail _ (.tail _ (.head _))))))) (ridC_ok _ _ _ _ _ _ _ _) rfl
      | false =>
        cases hb5 : (Int.fmod (Int.fdiv N 32) 2 == 1) with
        | true =>
          exact kn_use kN12 X hh hd hg (fun τ => ⟨_, _, _, _, _, _, rfl⟩) (by decide) (fun p hp => by simp only [List.mem_cons, List.not_mem_nil, or_false] at hp; rcases hp with rfl | rfl | rfl | rfl <;> exact ⟨⟨by decide, by decide⟩, by assumption⟩) fun τ c1 c2 c3 s' hm g1 g2 g3 f3 => hQ c3 c1 c2 _ _ _ _ s' [40, 40, 41, 41, 40, 40, 41, 41] hm g1 g2 g3 f3 (sgC_cod _) (.tail _ (.tail _ (.tail _ (.tail _ (.tail _ (.tail _ (.tail _ (.head _)))))))) (ridC_ok _ _ _ _ _ _ _ _) rfl
        | false =>
          exact kn_use kN13 X hh hd hg (fun τ => ⟨_, _, _, _, _, _, rfl⟩) (by decide) (fun p hp => by simp only [List.mem_cons, List.not_mem_nil, or_false] at hp; rcases hp with rfl | rfl | rfl | rfl <;> exact ⟨⟨by decide, by decide⟩, by assumption⟩) fun τ c1 c2 c3 s' hm g1 g2 g3 f3 => hQ c3 c1 c2 _ _ _ _ s' [40, 40, 41, 41, 40, 41, 40, 41] hm g1 g2 g3 f3 (sgC_cod _) (.tail _ (.tail _ (.tail _ (.tail _ (.tail _ (.tail _ (.tail _ (.tail _ (.head _))))))))) (ridC_ok _ _ _ _ _ _ _ _) rfl
  | false =>
    cases hb3 : (Int.fmod (Int.fdiv N 8) 2 == 1) with
    | true =>
      cases hb4 : (Int.fmod (Int.fdiv N 16) 2 == 1) with
      | true =>
        exact kn_use kN14 X hh hd hg (fun τ => ⟨_, _, _, _, _, _, rfl⟩) (by decide) (fun p hp => by simp only [List.mem_cons, List.not_mem_nil, or_false] at hp; rcases hp with rfl | rfl | rfl <;> exact ⟨⟨by decide, by decide⟩, by assumption⟩) fun τ c1 c2 c3 s' hm g1 g2 g3 f3 => hQ c3 c1 c2 _ _ _ _ s' [40, 41, 40, 40, 40, 41, 41, 41] hm g1 g2 g3 f3 (sgC_cod _) (.tail _ (.tail _ (.tail _ (.tail _ (.tail _ (.tail _ (.tail _ (.tail _ (.tail _ (.head _)))))))))) (ridC_ok _ _ _ _ _ _ _ _) rfl
      | false =>
        cases hb5 : (Int.fmod (Int.fdiv N 32) 2 == 1) with
        | true =>
          exact kn_use kN15 X hh hd hg (fun τ => ⟨_, _, _, _, _, _, rfl⟩) (by decide) (fun p hp => by simp only [List.mem_cons, List.not_mem_nil, or_false] at hp; rcases hp with rfl | rfl | rfl | rfl <;> exact ⟨⟨by decide, by decide⟩, by assumption⟩) fun τ c1 c2 c3 s' hm g1 g2 g3 f3 => hQ c3 c1 c2 _ _ _ _ s' [40, 41, 40, 40, 41, 40, 41, 41] hm g1 g2 g3 f3 (sgC_cod _) (.tail _ (.tail _ (.tail _ (.tail _ (.tail _ (.tail _ (.tail _ (.tail _ (.tail _ (.tail _ (.head _))))))))))) (ridC_ok _ _ _ _ _ _ _ _) rfl
        | false =>
          exact kn_use kN16 X hh hd hg (fun τ => ⟨_, _, _, _, _, _, rfl⟩) (by decide) (fun p hp => by simp only [List.mem_cons, List.not_mem_nil, or_false] at hp; rcases hp with rfl | rfl | rfl | rfl <;> exact ⟨⟨by decide, by decide⟩, by assumption⟩) fun τ c1 c2 c3 s' hm g1 g2 g3 f3 => hQ c3 c1 c2 _ _ _ _ s' [40, 41, 40, 40, 41, 41, 40, 41] hm g1 g2 g3 f3 (sgC_cod _) (.tail _ (.tail _ (.tail _ (.tail _ (.tail _ (.tail _ (.tail _ (.tail _ (.tail _ (.tail _ (.tail _ (.head _)))))))))))) (ridC_ok _ _ _ _ _ _ _ _) rfl
    | false =>
      cases hb5 : (Int.fmod (Int.fdiv N 32) 2 == 1) with
      | true =>
        exact kn_use kN17 X hh hd hg (fun τ => ⟨_, _, _, _, _, _, rfl⟩) (by decide) (fun p hp => by simp only [List.mem_cons, List.not_mem_nil, or_false] at hp; rcases hp with rfl | rfl | rfl <;> exact ⟨⟨by decide, by decide⟩, by assumption⟩) fun τ c1 c2 c3 s' hm g1 g2 g3 f3 => hQ c3 c1 c2 _ _ _ _ s' [40, 41, 40, 41, 40, 40, 41, 41] hm g1 g2 g3 f3 (sgC_cod _) (.tail _ (.tail _ (.tail _ (.tail _ (.tail _ (.tail _ (.tail _ (.tail _ (.tail _ (.tail _ (.tail _ (.tail _ (.head _))))))))))))) (ridC_ok _ _ _ _ _ _ _ _) rfl
      | false =>
        exact kn_use kN18 X hh hd hg (fun τ => ⟨_, _, _, _, _, _, rfl⟩) (by decide) (fun p hp => by simp only [List.mem_cons, List.not_mem_nil, or_false] at hp; rcases hp with rfl | rfl | rfl <;> exact ⟨⟨by decide, by decide⟩, by assumption⟩) fun τ c1 c2 c3 s' hm g1 g2 g3 f3 => hQ c3 c1 c2 _ _ _ _ s' [40, 41, 40, 41, 40, 41, 40, 41] hm g1 g2 g3 f3 (sgC_cod _) (.tail _ (.tail _ (.tail _ (.tail _ (.tail _ (.tail _ (.tail _ (.tail _ (.tail _ (.tail _ (.tail _ (.tail _ (.tail _ (.head _)))))))))))))) (ridC_ok _ _ _ _ _ _ _ _) rfl
/-! ## Built-ins over one list, a plain value back -/
structure Grown (s s' : Shared) : Prop where
  old : ∀ b o, s.heap.get? b = some o → s'.heap.get? b = some o
  gens : s'.gens = s.gens
  os : s'.os = s.os
theorem Rep.grown {B : Bs} {r : Nat} {ρ : Nat → Nat} {T : BT} {m : Nat} {s s' : Shared} (R : Rep B r ρ T m s) (h : Grown s s') : Rep B r ρ T m s' :=
  ⟨fun j o e => ⟨(R.own j o e).1, h.old _ _ (R.own j o e).2⟩, R.new, R.inj, fun b o e => h.old _ _ (R.keep b o e), by rw [h.gens]; exact R.gens, h.os.trans R.os⟩
noncomputable def gPre (id : String) (f : Obj → Kd × Prop) : Pre Kd := fun c T m orc => (asB c).bind fun q => (one q.2).bind fun b => (getO T m (orc % 1024)).bind fun o => some { k := (f o).1, p := (f o).2, fx := [(.builtin q.1, .builtin id)], rf := [(b, orc % 1024)], orc := orc / 1024 }
noncomputable def gHk (id : String) (f : Obj → Kd × Prop) : Hk := vHk (gPre id f)
theorem gHk_loc (id : String) (f : Obj → Kd × Prop) : HLoc (gHk id f) := vHk_loc fun c T m orc x h => by
  obtain ⟨q, e1, h⟩ := obind h
  obtain ⟨z, e2, h⟩ := obind h
  obtain ⟨o, e3, h⟩ := obind h
  cases h
  exact ⟨getO_lt e3, trivial⟩
noncomputable def GLaw (w : World) (id : String) (f : Obj → Kd × Prop) : Prop := ∀ o, (f o).2 → ∀ (A : Around) (Q : Value → Shared → Prop) (s : Shared) (b : Addr), A.handled = none → s.heap.get? b = some o → (∀ tok s', Grown s s' → Q ((f o).1.get tok) s') → wpAny (model pw w) A (call (.builtin id) [.ref b]) Q (fun _ _ => False) s
theorem gHk_ok {w : World} {id : String} {f : Obj → Kd × Prop} (L : GLaw w id f) (B : Bs) (r : Nat) : HOk pw w B r (gHk id f) := vHk_ok fun c T m orc x h hp hf ρ s A Q hr hR hh hd hQ => by
  obtain ⟨q, e1, h⟩ := obind h
  obtain ⟨z, e2, h⟩ := obind h
  obtain ⟨o, e3, h⟩ := obind h
  cases h
  have hn : q.1 = id := Value.builtin.inj hf.1
  have hb : z = ρ (orc % 1024) := hr.1
  have e := asB_inv e1
  rw [hn, one_inv e2, hb] at e
  subst e
  exact L o hp A Q s _ hh (hR.own _ _ (getO_inv e3).2).2 fun tok s' hs => hQ tok s' (hR.grown hs)
noncomputable def sumV : List Value → Int
  | .int z _ :: vs => z + sumV vs
  | _ => 0
noncomputable def SumOk (o : Obj) : Prop := ∃ vs ns n, o = lstO vs n ∧ IntsAre vs ns ∧ vs.length ≤ 1000
noncomputable def sumF : Obj → Kd × Prop := fun o => (.int (sumV (valsOf o)), SumOk o)
noncomputable def lenLF : Obj → Kd × Prop := fun o => (.int (valsOf o).length, SumOk o)
theorem sumV_ints : ∀ {vs : List Value} {ns : List Int}, IntsAre vs ns → sumV vs = ns.sum
  | _, _, .nil => rfl
  | _, _, .cons x t r => by
    show _ + sumV _ = _
    rw [sumV_ints r, List.sum_cons]
theorem sum_lawL (w : World) : GLaw w "sum" sumF := by
  intro o hp A Q s b hh hb hQ
  obtain ⟨vs, ns, n, rfl, hi, hl⟩ := hp
  have hlist : s.heap.IsList b vs.toArray := ⟨_, hb, rfl, _, rfl⟩
  obtain ⟨xs, hx⟩ := hi.allInts.items
  have hn : numsOf vs.toArray.toList = ns := by rw [show vs.toArray.toList = vs from rfl, hi.numsOf]
  rw [hx] at hlist hn
  rw [nums_intItems] at hn
  refine sum_intListG hh hlist fun h' tk t' hk => ?_
  have := hQ t' { s with heap := h', toks := tk } ⟨hk, rfl, rfl⟩
  rw [preSum_eq, List.take_of_length_le (by simp), hn]
  have e : sumV (valsOf (lstO vs n)) = ns.sum := sumV_ints hi
  show Q (.int ns.sum t') _
  rw [← e]
  exact this
theorem len_lawL (w : World) : GLaw w "len" lenLF := by
  intro o hp A Q s b hh hb hQ
  obtain ⟨vs, ns, n, rfl, hi, hl⟩ := hp
  have hlist : s.heap.IsList b vs.toArray := ⟨_, hb, rfl, _, rfl⟩
  have h2 : ((vs.toArray.size : Nat) : Int) < 2 ^ 63 := by
    simp only [List.size_toArray]; omega
  exact Calls.call_len_list hlist h2 (hQ (s.toks + 1) { s with toks := s.toks + 1 + 1 } ⟨fun _ _ e => e, rfl, rfl⟩)
noncomputable def hkL : Nat → Hk
  | 0 => gHk "sum" sumF
  | 1 => gHk "len" lenLF
  | 2 => pHk "int.__lt__" (cmpF fun a b => decide (a < b))
  | _ + 3 => noHk
theorem hkL_loc : ∀ n, HLoc (hkL n)
  | 0 => gHk_loc _ _
  | 1 => gHk_loc _ _
  | 2 => pHk_loc _ _
  | _ + 3 => noHk_loc
theorem hkL_ok (w : World) (B : Bs) (r : Nat) : ∀ n, HOk pw w B r (hkL n)
  | 0 => gHk_ok (sum_lawL w) B r
  | 1 => gHk_ok (len_lawL w) B r
  | 2 => pHk_ok (lt_law w) B r
  | _ + 3 => noHk_ok pw w B r
/-! ## The law: parts -/
structure LParts where
  n0 : Str
  p00 : Pos
  v0 : Expr
  up0 : Option Expr
  ps0 : Pos
  pv0 : Pos
  p0 : Pos
  es : List Expr
  kt : Nat
  pt : Pos
  fn : Str
  fp : Pos
  a1 : Expr
  a2 : Expr
  cp : Pos
  p1 : Pos
  l2 : Stmt
  l3 : Stmt
  en : Str
  ep : Pos
  b1 : Expr
  b2 : Expr
  ecp : Pos
  r : Expr
  cmpp : Pos
  rp : Pos
noncomputable def lParts : LParts := match bodyOf 11 with
  | [.Assign [.Name n0 p00] (.Subscript v0 (.Slice none up0 none ps0) pv0) p0, .Assign [.Tuple es kt pt] (.Call (.Name fn fp) [a1, a2] [] cp) p1, l2, l3, .Return (some (.Compare (.Call (.Name en ep) [b1, b2] [] ecp) [.Eq] [r] cmpp)) rp] => ⟨n0, p00, v0, up0, ps0, pv0, p0, es, kt, pt, fn, fp, a1, a2, cp, p1, l2, l3, en, ep, b1, b2, ecp, r, cmpp, rp⟩
  | _ => ⟨default, default, default, default, default, default, default, default, default, default, default, default, default, default, default, default, default, default, default, default, default, default, default, default, default, default⟩
theorem lBody_eq : bodyOf 11 = [.Assign [.Name lParts.n0 lParts.p00] (.Subscript lParts.v0 (.Slice none lParts.up0 none lParts.ps0) lParts.pv0) lParts.p0, .Assign [.Tuple lParts.es lParts.kt lParts.pt] (.Call (.Name lParts.fn lParts.fp) [lParts.a1, lParts.a2] [] lParts.cp) lParts.p1, lParts.l2, lParts.l3,
    .Return (some (.Compare (.Call (.Name lParts.en lParts.ep) [lParts.b1, lParts.b2] [] lParts.ecp) [.Eq] [lParts.r] lParts.cmpp)) lParts.rp] := by kernel_rfl!
noncomputable def lEnv (L : Addr) : Env := envOf 11 76 75 L
noncomputable def lTV (L : Addr) : Sem Value := eval lParts.v0 (lEnv L)
noncomputable def lTU (L : Addr) : Sem Value := evalPart lParts.up0 (lEnv L)
noncomputable def lTS (L c : Addr) : Sem Unit := storeName (lEnv L) lParts.n0 (.ref c)
noncomputable def lTN (L : Addr) : Sem Value := eval (.Name lParts.fn lParts.fp) (lEnv L)
noncomputable def lA1 (L : Addr) : Sem Value := eval lParts.a1 (lEnv L)
noncomputable def lA2 (L : Addr) : Sem Value := eval lParts.a2 (lEnv L)
noncomputable def lTA (U L : Addr) : Sem Unit := assign (.Tuple lParts.es lParts.kt lParts.pt) (lEnv L) (.ref U)
noncomputable def lT23 (L : Addr) : Sem Flow := execs [lParts.l2, lParts.l3] (lEnv L)
noncomputable def lEN (L : Addr) : Sem Value := eval (.Name lParts.en lParts.ep) (lEnv L)
noncomputable def lB1 (L : Addr) : Sem Value := eval lParts.b1 (lEnv L)
noncomputable def lB2 (L : Addr) : Sem Value := eval lParts.b2 (lEnv L)
noncomputable def lR (L : Addr) : Sem Value := eval lParts.r (lEnv L)
lay_quick Mine.lTV Mine.lTU Mine.lTS Mine.lTN Mine.lA1 Mine.lA2 Mine.lTA Mine.lT23 Mine.lEN Mine.lB1 Mine.lB2 Mine.lR
noncomputable def nScript : Str := ⟨#[115, 99, 114, 105, 112, 116]⟩
noncomputable def nNumbers : Str := ⟨#[110, 117, 109, 98, 101, 114, 115]⟩
noncomputable def nWrong : Str := ⟨#[119, 114, 111, 110, 103]⟩
noncomputable def lF1 (P : Params) (k0 : Nat) (sc : Addr) : Obj := fro P [(nScript, k0, .ref sc)]
noncomputable def lF2 (P : Params) (k0 k1 : Nat) (sc nb : Addr) : Obj := fro P [(nScript, k0, .ref sc), (nNumbers, k1, .ref nb)]
noncomputable def lF4 (P : Params) (k0 k1 k2 k3 : Nat) (sc nb sg rd : Addr) : Obj := fro P [(nScript, k0, .ref sc), (nNumbers, k1, .ref nb), (nSigns, k2, .ref sg), (nRiders, k3, .ref rd)]
noncomputable def lF5 (P : Params) (k0 k1 k2 k3 k4 : Nat) (sc nb sg rd wr : Addr) : Obj := fro P [(nScript, k0, .ref sc), (nNumbers, k1, .ref nb), (nSigns, k2, .ref sg), (nRiders, k3, .ref rd), (nWrong, k4, .ref wr)]
theorem kLD (P : Params) (ρ τ : Nat → Nat) (sc : Addr) : (runE (GG P 0 noH) ρ τ 66 (.top (doorT 76 (fdAt 11 75 1) (bodyOf 11) ⟨[.ref sc], []⟩)) (mkT []) 0 0 1025 [] []).said [0] = (some (.again (.func (bodyOf 11) (lEnv (ρ 0)))), (runE (GG P 0 noH) ρ τ 66 (.top (doorT 76 (fdAt 11 75 1) (bodyOf 11) ⟨[.ref sc], []⟩)) (mkT []) 0 0 1025 [] []).owed, [], [some (lF1 P (τ 0) sc)]) := by kernel_rfl
theorem kLV : ∀ (P : Params) (ρ τ : Nat → Nat) (k0 : Nat) (sc : Addr), Said (runE (GH 200 P 0 noH) ρ τ 63 (.top (PySem.W.Fast.tw4317887984753903313 (ρ 0))) (mkT [lF1 P k0 sc]) 1 0 1 [] []) [0] (.ref sc) [] [some (lF1 P k0 sc)] := by refine Pb_elim fun b P => ?_; intros; cases b <;> kernel_rfl
theorem kLU : ∀ (P : Params) (ρ τ : Nat → Nat) (k0 : Nat) (sc : Addr), Said (runE (GH 200 P 0 noH) ρ τ 62 (.top (PySem.W.Fast.tw13995074986162741558 (ρ 0))) (mkT [lF1 P k0 sc]) 1 0 0 [] []) [0] (.int 63 (τ 0)) [] [some (lF1 P k0 sc)] := by refine Pb_elim fun b P => ?_; intros; cases b <;> kernel_rfl
theorem kLS : ∀ (P : Params) (ρ τ : Nat → Nat) (k0 : Nat) (sc c : Addr), Said (runE (GH 200 P 0 noH) ρ τ 65 (.top (PySem.W.Fast.tw672999521046998947 (ρ 0) c)) (mkT [lF1 P k0 sc]) 1 0 1025 [] []) [0] () [] [some (lF2 P k0 (τ 0) sc c)] := by refine Pb_elim fun b P => ?_; intros; cases b <;> kernel_rfl
theorem kLN : ∀ (P : Params) (ρ τ : Nat → Nat) (k0 k1 : Nat) (sc nb : Addr), Said (runE (GH 200 P 0 noH) ρ τ 63 (.top (PySem.W.Fast.tw9890603473600262816 (ρ 0))) (mkT [lF2 P k0 k1 sc nb]) 1 0 0 [] []) [0] (.ref 40) [] [some (lF2 P k0 k1 sc nb)] := by refine Pb_elim fun b P => ?_; intros; cases b <;> kernel_rfl
theorem kLA1 : ∀ (P : Params) (ρ τ : Nat → Nat) (k0 k1 : Nat) (sc : Addr) (o : Obj), Said (runE (GH 200 P 1 hkL) ρ τ 75 (.top (PySem.W.Fast.tw14682816006757732981 (ρ 1))) (mkT [o, lF2 P k0 k1 sc (ρ 0)]) 2 0 1075838976 [] []) [1] (.int (272930 + sumV (valsOf o)) (τ 2)) [SumOk o] [some (lF2 P k0 k1 sc (ρ 0))] := by refine Pb_elim fun b P => ?_; intros; cases b <;> kernel_rfl
theorem kLA2t : ∀ (P : Params) (ρ τ : Nat → Nat) (k0 k1 : Nat) (sc : Addr) (o : Obj), Said (runE (GH 200 P 1 hkL) ρ τ 74 (.top (PySem.W.Fast.tw13011882977627243183 (ρ 1))) (mkT [o, lF2 P k0 k1 sc (ρ 0)]) 2 0 1156299206476955648 [] []) [1] (.int 3 (τ 3)) [decide (((valsOf o).length : Int) < 2) = true, SumOk o] [some (lF2 P k0 k1 sc (ρ 0))] := by refine Pb_elim fun b P => ?_; intros; cases b <;> kernel_rfl
theorem kLA2f : ∀ (P : Params) (ρ τ : Nat → Nat) (k0 k1 : Nat) (sc : Addr) (o : Obj), Said (runE (GH 200 P 1 hkL) ρ τ 74 (.top (PySem.W.Fast.tw13011882977627243183 (ρ 1))) (mkT [o, lF2 P k0 k1 sc (ρ 0)]) 2 0 3377701870108672 [] []) [1] (.int 4 (τ 3)) [decide (((valsOf o).length : Int) < 2) = false, SumOk o] [some (lF2 P k0 k1 sc (ρ 0))] := by refine Pb_elim fun b P => ?_; intros; cases b <;> kernel_rfl
theorem kLTA : ∀ (P : Params) (ρ τ : Nat → Nat) (k0 k1 : Nat) (sc nb ca cb : Addr), Said (runE (GH 200 P 1 noH) ρ τ 121 (.top (PySem.W.Fast.tw15274431885361590149 (ρ 0) (ρ 1))) (mkT [tupO [.ref ca, .ref cb], lF2 P k0 k1 sc nb]) 2 0 4483868261961287119907240585903950522704706653744454091246049911453910086221989338674191665873046995969 [] []) [1] () [] [some (lF4 P k0 k1 (τ 0) (τ 1) sc nb ca cb)] := by refine Pb_elim fun b P => ?_; intros; cases b <;> kernel_rfl
theorem kL23_6 : ∀ (P : Params) (ρ τ : Nat → Nat) (k0 k1 k2 k3 : Nat) (sc nb : Addr) (v0 v1 v2 v3 v4 v5 : Value) (rv : List Value) (sn rn : Nat), Said (runE (GH 430 P 2 hkM) ρ τ 242 (.top (PySem.W.Fast.tw437950516243573445 (ρ 2))) (mkT [lstO [v0, v1, v2, v3, v4, v5] sn, lstO rv rn, lF4 P k0 k1 k2 k3 sc nb (ρ 0) (ρ 1)]) 3 0 142757206941186960125610816332491905150358142395594226823651683914735986133419894813120055307414425338354851289468257035885029949524705418217417710486261163700692143585914241088254891846575500876049842984791635972235953028738924623687242164281210181689324051594818443300462292345212756364142703270484246528 [] []) [2] .next [ChkP (txt [v1, v2, v3, v4, v5, .str ⟨#[40]⟩ (τ 4)] rv) false, TxtP (lstO [v1, v2, v3, v4, v5, .str ⟨#[40]⟩ (τ 4)] 0) (lstO rv rn), ChkP (txt [v1, v2, v3, v4, v5] rv) false, TxtP (lstO [v1, v2, v3, v4, v5] 0) (lstO rv rn), ChkP (txt [v0, v1, v2, v3, v4, v5] rv) true, TxtP (lstO [v0, v1, v2, v3, v4, v5] sn) (lstO rv rn)] [some (lF5 P k0 k1 k2 k3 (τ 5) sc nb (ρ 0) (ρ 1) (ρ 8))] := by refine Pb_elim fun b P => ?_; intros; cases b <;> kernel_rfl
theorem kL23_8 : ∀ (P : Params) (ρ τ : Nat → Nat) (k0 k1 k2 k3 : Nat) (sc nb : Addr) (v0 v1 v2 v3 v4 v5 v6 v7 : Value) (rv : List Value) (sn rn : Nat), Said (runE (GH 430 P 2 hkM) ρ τ 242 (.top (PySem.W.Fast.tw437950516243573445 (ρ 2))) (mkT [lstO [v0, v1, v2, v3, v4, v5, v6, v7] sn, lstO rv rn, lF4 P k0 k1 k2 k3 sc nb (ρ 0) (ρ 1)]) 3 0 142757206941186960125610816332491905150358142395594226823651683914735986133419894813120055307414425338354851289468257035885029949524705418217417710486261163700692143585914241088254891846575500876049842984791635972235953028738924623687242164281210181689324051594818443300462292345212756364142703270484246528 [] []) [2] .next [ChkP (txt [v1, v2, v3, v4, v5, v6, v7, .str ⟨#[40]⟩ (τ 4)] rv) false, TxtP (lstO [v1, v2, v3, v4, v5, v6, v7, .str ⟨#[40]⟩ (τ 4)] 0) (lstO rv rn), ChkP (txt [v1, v2, v3, v4, v5, v6, v7] rv) false, TxtP (lstO [v1, v2, v3, v4, v5, v6, v7] 0) (lstO rv rn), ChkP (txt [v0, v1, v2, v3, v4, v5, v6, v7] rv) true, TxtP (lstO [v0, v1, v2, v3, v4, v5, v6, v7] sn) (lstO rv rn)] [some (lF5 P k0 k1 k2 k3 (τ 5) sc nb (ρ 0) (ρ 1) (ρ 8))] := by refine Pb_elim fun b P => ?_; intros; cases b <;> kernel_rfl
theorem kLEN : ∀ (P : Params) (ρ τ : Nat → Nat) (k0 k1 k2 k3 k4 : Nat) (sc nb sg rd wr : Addr), Said (runE (GH 200 P 0 noH) ρ τ 63 (.top (PySem.W.Fast.tw5020167316334397680 (ρ 0))) (mkT [lF5 P k0 k1 k2 k3 k4 sc nb sg rd wr]) 1 0 0 [] []) [0] (.ref 69) [] [some (lF5 P k0 k1 k2 k3 k4 sc nb sg rd wr)] := by refine Pb_elim fun b P => ?_; intros; cases b <;> kernel_rfl
theorem kLB1 : ∀ (P : Params) (ρ τ : Nat → Nat) (k0 k1 k2 k3 k4 : Nat) (sc nb sg rd wr : Addr), Said (runE (GH 200 P 0 noH) ρ τ 63 (.top (PySem.W.Fast.tw6215707475411786823 (ρ 0))) (mkT [lF5 P k0 k1 k2 k3 k4 sc nb sg rd wr]) 1 0 1 [] []) [0] (.ref sg) [] [some (lF5 P k0 k1 k2 k3 k4 sc nb sg rd wr)] := by refine Pb_elim fun b P => ?_; intros; cases b <;> kernel_rfl
theorem kLB2 : ∀ (P : Params) (ρ τ : Nat → Nat) (k0 k1 k2 k3 k4 : Nat) (sc nb sg rd wr : Addr), Said (runE (GH 200 P 0 noH) ρ τ 63 (.top (PySem.W.Fast.tw12214785060601845286 (ρ 0))) (mkT [lF5 P k0 k1 k2 k3 k4 sc nb sg rd wr]) 1 0 1 [] []) [0] (.ref rd) [] [some (lF5 P k0 k1 k2 k3 k4 sc nb sg rd wr)] := by refine Pb_elim fun b P => ?_; intros; cases b <;> kernel_rfl
theorem kLR : ∀ (P : Params) (ρ τ : Nat → Nat) (k0 k1 k2 k3 k4 : Nat) (sc nb sg rd wr : Addr), Said (runE (GH 200 P 0 noH) ρ τ 63 (.top (PySem.W.Fast.tw12101061610286526490 (ρ 0))) (mkT [lF5 P k0 k1 k2 k3 k4 sc nb sg rd wr]) 1 0 1 [] []) [0] (.ref sg) [] [some (lF5 P k0 k1 k2 k3 k4 sc nb sg rd wr)] := by refine Pb_elim fun b P => ?_; intros; cases b <;> kernel_rfl
/-! ## The plain law: every start is told back -/
structure StartOk (l : List Nat) : Prop where
  sg : ∀ c ∈ l, c = 40 ∨ c = 41
  row : l ∈ rowsL
  yes : balN 0 l = true
  no1 : balN 0 l.tail = false
  no2 : balN 0 (l.tail ++ [40]) = false
  emp : emp 20 l (plc l 40 1) (plc l 41 1) [] = some l
noncomputable def startB (l : List Nat) : Bool := decide (∀ c ∈ l, c = 40 ∨ c = 41) && (decide (l ∈ rowsL) && (balN 0 l && (!balN 0 l.tail && (!balN 0 (l.tail ++ [40]) && decide (Mine.emp 20 l (plc l 40 1) (plc l 41 1) [] = some l)))))
theorem startB_ok {l : List Nat} (h : startB l = true) : StartOk l := by
  unfold startB at h
  simp only [Bool.and_eq_true, decide_eq_true_eq, Bool.not_eq_true'] at h
  obtain ⟨a, b, c, d, e, f⟩ := h
  exact ⟨a, b, c, d, e, f⟩
theorem starts3_b : ∀ l ∈ starts3, startB l = true ∧ l.length = 6 := by decide +kernel
theorem starts4_b : ∀ l ∈ starts4, startB l = true ∧ l.length = 8 := by decide +kernel
theorem starts3_ok : ∀ l ∈ starts3, StartOk l ∧ l.length = 6 := fun l h => ⟨startB_ok (starts3_b l h).1, (starts3_b l h).2⟩
theorem starts4_ok : ∀ l ∈ starts4, StartOk l ∧ l.length = 8 := fun l h => ⟨startB_ok (starts4_b l h).1, (starts4_b l h).2⟩
/-! ## The law's call -/
theorem frame_list {P : Params} {es : List (Str × Nat × Value)} {vs : List Value} {n : Nat} (h : fro P es = lstO vs n) : False := by
  have := congrArg Obj.cls h
  have e : ("frame" : String) = "list" := by injection this
  exact absurd e (by decide)
theorem slice63 (items : Array Value) (h : items.size ≤ 63) : slicePick items none (some 63) none = items := by
  have e : sliceBounds none (some (63 : Int)) none items.size = (((0 : Nat) : Int), (items.size : Int), 1) := by
    simp only [sliceBounds, Option.getD_none]
    have h2 : ¬ ((63 : Int) < 0) := by omega
    simp only [h2, if_false, show (1 : Int) > 0 by decide, if_true]
    congr 1
    congr 1; omega
  unfold slicePick
  rw [e]
  simp only [sliceRange_one, pick_run]
  rw [List.drop_zero, Nat.sub_zero, List.take_of_length_le (by simp)]
theorem strs_carried : ∀ {l : List Nat} {cs : List (Str × Tok)}, Cod l cs → CarriedAll (strValues cs) (l.map fun c => PyData.str ⟨#[c]⟩)
  | l, [], h => by cases l with
    | nil => exact .nil
    | cons _ _ => cases h
  | l, p :: cs, h => by
    obtain ⟨c, l', rfl, hp, hc⟩ := h.cons
    show CarriedAll (.str p.1 p.2 :: strValues cs) (.str ⟨#[c]⟩ :: l'.map _)
    rw [hp]
    exact .cons (.str _ _) (strs_carried hc)
theorem strs_lay : ∀ (l : List Nat), (∀ c ∈ l, c = 40 ∨ c = 41) → PyData.canLayAll0 (l.map fun c => PyData.str ⟨#[c]⟩) = true
  | [], _ => rfl
  | c :: l, h => by
    have h1 : PyData.canLay0 (PyData.str ⟨#[c]⟩) = true := by rcases h c (.head _) with rfl | rfl <;> decide +kernel
    simp only [List.map_cons, PyData.canLayAll0, h1, strs_lay l fun c hc => h c (.tail _ hc), Bool.and_self]
theorem strs_depth : ∀ (l : List Nat), PyData.depthAll (l.map fun c => PyData.str ⟨#[c]⟩) = 0
  | [] => rfl
  | c :: l => by simp [PyData.depthAll, PyData.depth, strs_depth l]
theorem strs_shaped (l : List Nat) (h : ∀ c ∈ l, c = 40 ∨ c = 41) : SeqAt.shaped (.list (l.map fun c => PyData.str ⟨#[c]⟩)) = true := by
  simp [SeqAt.shaped, PyData.canLay0, PyData.depth, strs_lay l h, strs_depth]
theorem strs_eqv : ∀ (l : List Nat), PyData.eqvAll (l.map fun c => PyData.str ⟨#[c]⟩) (l.map fun c => PyData.str ⟨#[c]⟩) = true
  | [] => rfl
  | c :: l => by simp [PyData.eqvAll, PyData.eqv, strs_eqv l]
theorem strs_same {w : World} {A : Around} {Q : Value → Shared → Prop} {E : Value → Shared → Prop} {s : Shared} {a b : Addr} {l : List Nat} {cs ts : List (Str × Tok)} {n m : Nat} (ha : s.heap.get? a = some (lstO (strValues cs) n)) (hb : s.heap.get? b = some (lstO (strValues ts) m)) (hc : Cod l cs) (ht : Cod l ts) (h : ∀ c ∈ l, c = 40 ∨ c = 41) (hu : A.units + 64 < cLine) (hQ : Q (.bool true) s) :
    wpAny (model pw w) A (compareOp .Eq (.ref a) (.ref b)) Q E s := by
  refine eq_dataH (reads_newData (ds := l.map fun c => PyData.str ⟨#[c]⟩) ⟨_, ha, rfl, _, rfl⟩ (strs_carried hc)) (reads_newData (ds := l.map fun c => PyData.str ⟨#[c]⟩) ⟨_, hb, rfl, _, rfl⟩ (strs_carried ht)) (strs_shaped l h) (strs_shaped l h) hu ?_
  have : PyData.eqv (.list (l.map fun c => PyData.str ⟨#[c]⟩)) (.list (l.map fun c => PyData.str ⟨#[c]⟩)) = true := by
    simp only [PyData.eqv]; exact strs_eqv l
  rw [this]
  exact hQ
/-- the frame in hand, one object looked at; a value with a token -/
theorem runV {α : Type} {w : World} {A : Around} {Q : α → Shared → Prop} {E : Value → Shared → Prop} {H : Nat → Hk} {s : Shared} (GP : Array GenState → Prop) (h n orc : Nat) (a L : Addr) (t : Addr → Sem α) (oa : Obj) (o : Addr → Obj) (val : (Nat → Nat) → (Nat → Nat) → α) (ps : List Prop)
    (X : TopK w.params (butL s.heap [L])) (hh : A.handled = none) (h2 : 200 ≤ h) (hd : A.depth + 100 + h < recursionLimit) (hl : ∀ n, HLoc (H n)) (hk : ∀ n, HOkH pw w ⟨butL s.heap [L], GP, s.os⟩ 1 h (H n)) (hg : GP s.gens) (ha : s.heap.get? a = some oa) (hL : s.heap.get? L = some (o a)) (hne : L ≠ a)
    (hrun : ∀ ρ τ, (runE (GH h w.params 1 H) ρ τ n (.top (t (ρ 1))) (mkT [oa, o (ρ 0)]) 2 0 orc [] []).said [1] = (some (val ρ τ), (runE (GH h w.params 1 H) ρ τ n (.top (t (ρ 1))) (mkT [oa, o (ρ 0)]) 2 0 orc [] []).owed, ps, [some (o (ρ 0))])) (hp : AllP ps)
    (hQ : ∀ ρ τ s', s'.heap.get? L = some (o a) → (∀ b ob, b ≠ L → s.heap.get? b = some ob → s'.heap.get? b = some ob) → GP s'.gens → s'.os = s.os → Q (val ρ τ) s') : wpAny (model pw w) A (t L) Q E s := by
  refine engH (B := ⟨butL s.heap [L], GP, s.os⟩) h 1 n [a, L] (fun ρ => t (ρ 1)) (fun ρ => [oa, o (ρ 0)]) orc [1] val (fun _ _ => ps) (fun ρ τ => [some (o (ρ 0))]) X hh h2 hd hl hk ?_ (fun ρ' aρ => ?_) (fun ρ' aρ => ?_) hrun (fun ρ τ _ => hp) fun ρ τ T m s' aρ R e => ?_
  · refine Rep.make (B := ⟨butL s.heap [L], GP, s.os⟩) 1 _ [oa, o a] (butL_ext _ _) hg rfl (fun i ob e => ?_) (fun i h1 hi => ?_) (fun i j h1 hi hj q => ?_)
    · match i, e with
      | 0, e => cases e; exact ha
      | 1, e => cases e; exact hL
      | i + 2, e => cases e
    · simp at hi
      have : i = 1 := by omega
      subst this; exact butL_in (List.mem_cons_self ..)
    · simp at hi hj
      have : i = 1 := by omega
      subst this
      have hj' : j = 0 ∨ j = 1 := by omega
      rcases hj' with rfl | rfl
      · exact absurd q hne
      · rfl
  · show t (ρ' 1) = t (adr [a, L] 1)
    rw [aρ 1 (by simp)]
  · show [oa, o (ρ' 0)] = [oa, o (adr [a, L] 0)]
    rw [aρ 0 (by simp)]
  · have e0 : ρ 0 = a := aρ 0 (by simp)
    have e1 : ρ 1 = L := aρ 1 (by simp)
    simp only [List.map_cons, List.map_nil, List.cons.injEq, and_true] at e
    rw [e0] at e
    exact hQ ρ τ s' (by rw [← e1]; exact (R.own 1 _ e).2) (fun b ob q e' => R.keep b ob ((butL_out (by simpa using q)).trans e')) R.gens R.os
section
variable {w : World} {A : Around} {K : Addr → Option Obj} (X : TopK w.params K) (hh : A.handled = none) (hd : A.depth + 100 + 430 < recursionLimit)
include X hh hd
/-- the second and the third statement -/
theorem l_23 {Q : Flow → Shared → Prop} {E : Value → Shared → Prop} {s : Shared} (hk : Ext K s.heap) (hg : AllBare s.gens) {L sc nb sg rd : Addr} (KL : K L = none) {k0 k1 k2 k3 n n' : Nat} {cs rs : List (Str × Tok)} {l : List Nat} (hs : s.heap.get? sg = some (lstO (strValues cs) n)) (hr : s.heap.get? rd = some (lstO (strValues rs) n')) (hL : s.heap.get? L = some (lF4 w.params k0 k1 k2 k3 sc nb sg rd))
    (hc : Cod l cs) (hrid : RidOk rs) (h68 : rs.length = 6 ∨ rs.length = 8) (hlen : l.length = rs.length) (ok : StartOk l)
    (hQ : ∀ k4 wr s', s'.heap.get? L = some (lF5 w.params k0 k1 k2 k3 k4 sc nb sg rd wr) → (∀ b ob, b ≠ L → s.heap.get? b = some ob → s'.heap.get? b = some ob) → AllBare s'.gens → s'.os = s.os → Q .next s') : wpAny (model pw w) A (execs [lParts.l2, lParts.l3] (lEnv L)) Q E s := by
  have Xb : TopK w.params (butL s.heap [L]) := top_butL X hk fun b hb => by
    simp only [List.mem_cons, List.not_mem_nil, or_false] at hb
    subst hb; exact KL
  have nLs : L ≠ sg := fun z => by rw [z, hs] at hL; exact frame_list (Option.some.inj hL).symm
  have nLr : L ≠ rd := fun z => by rw [z, hr] at hL; exact frame_list (Option.some.inj hL).symm
  show wpAny (model pw w) A (lT23 L) Q E s
  rw [PySem.W.Fast.te437950516243573445]
  have clen : cs.length = rs.length := by rw [hc.len, hlen]
  have ht : ∀ t : Nat, Cod (l.tail ++ [40]) (cs.tail ++ [(⟨#[40]⟩, t)]) := fun t => cod_snoc (by have := hc; unfold Cod at this ⊢; rw [List.map_tail, List.map_tail, this]) 40 t
  have ht1 : Cod l.tail cs.tail := by have := hc; unfold Cod at this ⊢; rw [List.map_tail, List.map_tail, this]
  have mt : ∀ c ∈ l.tail, c = 40 ∨ c = 41 := fun c h => ok.sg c (List.mem_of_mem_tail h)
  have mt2 : ∀ c ∈ l.tail ++ [40], c = 40 ∨ c = 41 := fun c h => by
    rcases List.mem_append.mp h with h | h
    · exact mt c h
    · simp at h; exact .inl h
  have e1 : cs.tail.length ≤ rs.length := by rw [List.length_tail]; omega
  have e2 : ∀ t : Nat, (cs.tail ++ [((⟨#[40]⟩ : Str), t)]).length ≤ rs.length := fun t => by simp; omega
  have c0 := chk_txt hc ok.sg hrid (by omega) h68 ok.yes
  have c1 := chk_txt ht1 mt hrid e1 h68 ok.no1
  have c2 : ∀ t, ChkP _ false := fun t => chk_txt (ht t) mt2 hrid (e2 t) h68 ok.no2
  have t0 : ∀ m, TxtP (lstO (strValues cs) m) (lstO (strValues rs) n') := fun m => ⟨cs, rs, m, n', rfl, rfl, by omega, by omega, h68, txt_sz hc ok.sg hrid (by omega) h68⟩
  have t1 : ∀ m, TxtP (lstO (strValues cs.tail) m) (lstO (strValues rs) n') := fun m => ⟨cs.tail, rs, m, n', rfl, rfl, by rw [List.length_tail]; omega, e1, h68, txt_sz ht1 mt hrid e1 h68⟩
  have t2 : ∀ t m, TxtP (lstO (strValues (cs.tail ++ [(⟨#[40]⟩, t)])) m) (lstO (strValues rs) n') := fun t m => ⟨_, rs, m, n', rfl, rfl, by simp, e2 t, h68, txt_sz (ht t) mt2 hrid (e2 t) h68⟩
  have mk : ∀ (N orc : Nat) (v : (Nat → Nat) → (Nat → Nat) → Nat) (ps : (Nat → Nat) → (Nat → Nat) → List Prop),
      (∀ ρ τ, (runE (GH 430 w.params 2 hkM) ρ τ N (.top (PySem.W.Fast.tw437950516243573445 (ρ 2))) (mkT [lstO (strValues cs) n, lstO (strValues rs) n', lF4 w.params k0 k1 k2 k3 sc nb (ρ 0) (ρ 1)]) 3 0 orc [] []).said [2] = (some .next, (runE (GH 430 w.params 2 hkM) ρ τ N (.top (PySem.W.Fast.tw437950516243573445 (ρ 2))) (mkT [lstO (strValues cs) n, lstO (strValues rs) n', lF4 w.params k0 k1 k2 k3 sc nb (ρ 0) (ρ 1)]) 3 0 orc [] []).owed, ps ρ τ, [some (lF5 w.params k0 k1 k2 k3 (v ρ τ) sc nb (ρ 0) (ρ 1) (ρ 8))])) →
      (∀ ρ τ, AllP (ps ρ τ)) → wpAny (model pw w) A (PySem.W.Fast.tw437950516243573445 L) Q E s := by
    intro N orc v ps hrun hp
    refine engH (B := ⟨butL s.heap [L], AllBare, s.os⟩) 430 2 N [sg, rd, L] (fun ρ => PySem.W.Fast.tw437950516243573445 (ρ 2)) (fun ρ => [lstO (strValues cs) n, lstO (strValues rs) n', lF4 w.params k0 k1 k2 k3 sc nb (ρ 0) (ρ 1)]) orc [2] (fun _ _ => .next) ps _ Xb hh (by decide) hd hkM_loc (hkM_ok w Xb _ 2) ?_ (fun ρ' aρ => ?_) (fun ρ' aρ => ?_) hrun (fun ρ τ _ => hp ρ τ) fun ρ τ T m s' aρ R e => ?_
    · refine Rep.make (B := ⟨butL s.heap [L], AllBare, s.os⟩) 2 _ [lstO (strValues cs) n, lstO (strValues rs) n', lF4 w.params k0 k1 k2 k3 sc nb sg rd] (butL_ext _ _) hg rfl (fun i ob e => ?_) (fun i h1 hi => ?_) (fun i j h1 hi hj q => ?_)
      · match i, e with
        | 0, e => cases e; exact hs
        | 1, e => cases e; exact hr
        | 2, e => cases e; exact hL
        | i + 3, e => cases e
      · simp at hi
        have : i = 2 := by omega
        subst this; exact butL_in (List.mem_cons_self ..)
      · simp at hi hj
        have : i = 2 := by omega
        subst this
        have hj' : j = 0 ∨ j = 1 ∨ j = 2 := by omega
        rcases hj' with rfl | rfl | rfl
        · exact absurd q nLs
        · exact absurd q nLr
        · rfl
    · show PySem.W.Fast.tw437950516243573445 (ρ' 2) = PySem.W.Fast.tw437950516243573445 (adr [sg, rd, L] 2)
      rw [aρ 2 (by simp)]
    · show [lstO (strValues cs) n, lstO (strValues rs) n', lF4 w.params k0 k1 k2 k3 sc nb (ρ' 0) (ρ' 1)] = [lstO (strValues cs) n, lstO (strValues rs) n', lF4 w.params k0 k1 k2 k3 sc nb (adr [sg, rd, L] 0) (adr [sg, rd, L] 1)]
      rw [aρ 0 (by simp), aρ 1 (by simp)]
    · have e0 : ρ 0 = sg := aρ 0 (by simp)
      have e1 : ρ 1 = rd := aρ 1 (by simp)
      have e2 : ρ 2 = L := aρ 2 (by simp)
      simp only [List.map_cons, List.map_nil, List.cons.injEq, and_true] at e
      rw [e0, e1] at e
      exact hQ _ _ s' (by rw [← e2]; exact (R.own 2 _ e).2) (fun b ob q e' => R.keep b ob ((butL_out (by simpa using q)).trans e')) R.gens R.os
  clear hQ
  rcases h68 with h6 | h8
  · have : ∃ p0 p1 p2 p3 p4 p5, cs = [p0, p1, p2, p3, p4, p5] := by
      clear mk t0 t1 t2 c0 c1 c2 e1 e2 ht ht1 hs hc
      match cs, (show cs.length = 6 by omega) with
      | [p0, p1, p2, p3, p4, p5], _ => exact ⟨p0, p1, p2, p3, p4, p5, rfl⟩
    obtain ⟨⟨x0, u0⟩, ⟨x1, u1⟩, ⟨x2, u2⟩, ⟨x3, u3⟩, ⟨x4, u4⟩, ⟨x5, u5⟩, rfl⟩ := this
    exact mk 242 142757206941186960125610816332491905150358142395594226823651683914735986133419894813120055307414425338354851289468257035885029949524705418217417710486261163700692143585914241088254891846575500876049842984791635972235953028738924623687242164281210181689324051594818443300462292345212756364142703270484246528 _ _ (fun ρ τ => kL23_6 w.params ρ τ k0 k1 k2 k3 sc nb (.str x0 u0) (.str x1 u1) (.str x2 u2) (.str x3 u3) (.str x4 u4) (.str x5 u5) (strValues rs) n n') fun ρ τ => ⟨c2 _, t2 _ 0, c1, t1 0, c0, t0 n, trivial⟩
  · have : ∃ p0 p1 p2 p3 p4 p5 p6 p7, cs = [p0, p1, p2, p3, p4, p5, p6, p7] := by
      clear mk t0 t1 t2 c0 c1 c2 e1 e2 ht ht1 hs hc
      match cs, (show cs.length = 8 by omega) with
      | [p0, p1, p2, p3, p4, p5, p6, p7], _ => exact ⟨p0, p1, p2, p3, p4, p5, p6, p7, rfl⟩
    obtain ⟨⟨x0, u0⟩, ⟨x1, u1⟩, ⟨x2, u2⟩, ⟨x3, u3⟩, ⟨x4, u4⟩, ⟨x5, u5⟩, ⟨x6, u6⟩, ⟨x7, u7⟩, rfl⟩ := this
    exact mk 242 142757206941186960125610816332491905150358142395594226823651683914735986133419894813120055307414425338354851289468257035885029949524705418217417710486261163700692143585914241088254891846575500876049842984791635972235953028738924623687242164281210181689324051594818443300462292345212756364142703270484246528 _ _ (fun ρ τ => kL23_8 w.params ρ τ k0 k1 k2 k3 sc nb (.str x0 u0) (.str x1 u1) (.str x2 u2) (.str x3 u3) (.str x4 u4) (.str x5 u5) (.str x6 u6) (.str x7 u7) (strValues rs) n n') fun ρ τ => ⟨c2 _, t2 _ 0, c1, t1 0, c0, t0 n, trivial⟩
end
theorem lTemp (o r : Value) : letTemporaryGo lParts.v0 o r = pure () := by kernel_rfl!
theorem lStar1 (env : Env) : starEach [lParts.a1, lParts.a2] env = [(false, eval lParts.a1 env), (false, eval lParts.a2 env)] := by kernel_rfl!
theorem lStar2 (env : Env) : starEach [lParts.b1, lParts.b2] env = [(false, eval lParts.b1 env), (false, eval lParts.b2 env)] := by kernel_rfl!
theorem lMark : behindInMarks .Eq lParts.r = false := by kernel_rfl!
theorem law_ok {w : World} {A : Around} {Q : Value → Shared → Prop} {E : Value → Shared → Prop} {s : Shared} {sc : Addr} {vs : List Value} {ns : List Int} (X : TopK w.params fun b => s.heap.get? b) (hh : A.handled = none) (hd : A.depth + 660 < recursionLimit) (hu : A.units + 100 < cLine) (hg : AllBare s.gens)
    (hsc : s.heap.IsList sc vs.toArray) (hi : IntsAre vs ns) (hle : vs.length ≤ 63) (hQ : ∀ s', More s s' → Q (.bool true) s') : wpAny (model pw w) A (call (.ref 76) [.ref sc]) Q E s := by
  have hw : (Code.call (.ref 76) ⟨[.ref sc], []⟩).weight = 0 := rfl
  have d1 : (A.under (.call (.ref 76) ⟨[.ref sc], []⟩)).depth = A.depth := by show A.depth + (Code.call (.ref 76) ⟨[.ref sc], []⟩).weight = _; rw [hw]; rfl
  have hh1 : (A.under (.call (.ref 76) ⟨[.ref sc], []⟩)).handled = none := by simp [Around.under, hh]
  refine wpAny_call (door (o := fnAt 11 75 1) (fd := fdAt 11 75 1) (body := bodyOf 11) (X.kt 76 _ (by kernel_rfl!)) rfl (by kernel_rfl!) (by kernel_rfl!) (by kernel_rfl!) (X.code (76, 11, 75, 1) (by decide) _ fun _ _ e => e) (wpAny_bind ?_))
  let B : Bs := ⟨fun b => s.heap.get? b, (· = s.gens), s.os⟩
  have R0 : Rep B 0 (adr []) (mkT []) 0 s := Rep.make (B := B) 0 (adr []) [] (fun _ _ e => e) rfl rfl (fun i o e => by cases i <;> cases e) (fun i _ hi => by cases hi) (fun i j _ hi => by cases hi)
  refine engF (B := B) (H := noH) 0 66 [] (fun _ => doorT 76 (fdAt 11 75 1) (bodyOf 11) ⟨[.ref sc], []⟩) (fun _ => []) 1025 [0] (fun ρ _ => .again (.func (bodyOf 11) (lEnv (ρ 0)))) (fun _ _ => []) (fun _ τ => [some (lF1 w.params (τ 0) sc)]) X hh1 (by rw [d1]; omega) noH_loc (noH_ok w _ 0) R0 (fun _ _ => rfl) (fun _ _ => rfl)
    (fun ρ τ => kLD w.params ρ τ sc) (fun _ _ _ => trivial) fun ρ τ T m s₁ aρ R' e => ?_
  have g0 : T.get 0 = some (lF1 w.params (τ 0) sc) := by simpa using e
  refine wpAny_bind (wpAny_enterFrame (X.lim _ R'.keep) (by rw [d1]; omega) (wpAny_pure ⟨rfl, codeAny_func ?_⟩))
  have hL : s.heap.get? (ρ 0) = none := R'.new 0 _ (Nat.zero_le _) g0
  have hf₁ : s₁.heap.get? (ρ 0) = some (lF1 w.params (τ 0) sc) := (R'.own 0 _ g0).2
  have e₁ : Ext (fun b => s.heap.get? b) s₁.heap := R'.keep
  have gg₁ : s₁.gens = s.gens := R'.gens
  have oo₁ : s₁.os = s.os := R'.os
  generalize ρ 0 = L at hL hf₁
  generalize τ 0 = j0 at hf₁
  clear R' e g0 aρ R0
  have hh2 : (A.deeper (lEnv L)).handled = none := hh
  have d2 : (A.deeper (lEnv L)).depth = A.depth + 1 := rfl
  have u2 : (A.deeper (lEnv L)).units = A.units + 3 := rfl
  have hd2 : (A.deeper (lEnv L)).depth + 300 < recursionLimit := by rw [d2]; omega
  have hd3 : (A.deeper (lEnv L)).depth + 100 + 430 < recursionLimit := by rw [d2]; omega
  have hd4 : (A.deeper (lEnv L)).depth + 640 < recursionLimit := by rw [d2]; omega
  have hu2 : (A.deeper (lEnv L)).units + 80 < cLine := by rw [u2]; omega
  generalize hA : A.deeper (lEnv L) = A2 at hh2 hd2 hd3 hd4 hu2
  let K : Addr → Option Obj := fun b => s.heap.get? b
  have KL : K L = none := hL
  have Xb : ∀ {s' : Shared}, Ext K s'.heap → TopK w.params (butL s'.heap [L]) := fun e => top_butL X e fun b hb => by
    simp only [List.mem_cons, List.not_mem_nil, or_false] at hb
    subst hb; exact KL
  have ext : ∀ {s s' : Shared}, Ext K s.heap → (∀ b ob, b ≠ L → s.heap.get? b = some ob → s'.heap.get? b = some ob) → Ext K s'.heap := fun e k b o q => k b o (fun z => by rw [z, KL] at q; cases q) (e b o q)
  obtain ⟨so, hso, hsc2, sn, hsd⟩ := hsc
  rw [lBody_eq]
  -- numbers = script[:63]
  refine wpAny_execs_cons (wpAny_Assign_Name (wpAny_Subscript_list_slice ?_ (fun o r => lTemp o r)))
  show wpAny (model pw w) A2 (lTV L) _ _ s₁
  rw [PySem.W.Fast.te4317887984753903313]
  refine run1 (· = s₁.gens) 200 63 L _ _ 1 _ _ _ (Xb e₁) hh2 (Nat.le_refl _) hd2 noH_loc (noH_ok w _ 0) rfl hf₁ (fun ρ τ => kLV w.params ρ τ j0 sc) (fun _ _ _ => trivial) fun ρ τ s₂ _ hf₂ k₂ g₂ o₂ => ?_
  have e₂ := ext e₁ k₂
  rw [evalPart_none]
  refine wpAny_pure ?_
  show wpAny (model pw w) A2 (lTU L) _ _ s₂
  rw [PySem.W.Fast.te13995074986162741558]
  refine run1 (· = s₂.gens) 200 62 L _ _ 0 _ _ _ (Xb e₂) hh2 (Nat.le_refl _) hd2 noH_loc (noH_ok w _ 0) rfl hf₂ (fun ρ τ => kLU w.params ρ τ j0 sc) (fun _ _ _ => trivial) fun ρ τ s₃ _ hf₃ k₃ g₃ o₃ => ?_
  have e₃ := ext e₂ k₃
  refine ⟨sc, vs.toArray, none, some 63, rfl, ⟨so, e₃ _ _ hso, hsc2, sn, hsd⟩, ?_, .none, .int _ _, ?_⟩
  · have : (63 : Nat) ≤ sizeLine := by decide
    simp only [List.size_toArray]; omega
  rw [slice63 vs.toArray (by simpa using hle)]
  generalize hs4 : ({ s₃ with heap := (s₃.heap.push { cls := .type "slice", data := .fields #[.none, .int 63 (τ 0), .none] }).push { cls := .type "list", data := .seq vs.toArray } } : Shared) = s₄
  have k₄ : ∀ b o, s₃.heap.get? b = some o → s₄.heap.get? b = some o := fun b o q => by rw [← hs4]; exact Heap.get?_push_of_some _ (Heap.get?_push_of_some _ q)
  have g₄ : s₄.gens = s₃.gens := by rw [← hs4]
  have o₄ : s₄.os = s₃.os := by rw [← hs4]
  have hnb : s₄.heap.get? (s₃.heap.objs.size + 1) = some (lstO vs 0) := by
    have := Heap.get?_push_size (s₃.heap.push { cls := .type "slice", data := .fields #[.none, .int 63 (τ 0), .none] }) (o := lstO vs 0) rfl
    rw [Heap.size_push] at this
    rw [← hs4]
    exact this
  generalize s₃.heap.objs.size + 1 = nb at hnb
  have hf₄ := k₄ _ _ hf₃
  have e₄ : Ext K s₄.heap := fun b o q => k₄ b o (e₃ b o q)
  show wpAny (model pw w) A2 (lTS L nb) _ _ s₄
  rw [PySem.W.Fast.te672999521046998947]
  refine run1 (· = s₄.gens) 200 65 L (fun L => PySem.W.Fast.tw672999521046998947 L nb) _ 1025 _ _ _ (Xb e₄) hh2 (Nat.le_refl _) hd2 noH_loc (noH_ok w _ 0) rfl hf₄ (fun ρ τ => kLS w.params ρ τ j0 sc nb) (fun _ _ _ => trivial) fun ρ τ s₅ _ hf₅ k₅ g₅ o₅ => ?_
  have e₅ := ext e₄ k₅
  have nbL : L ≠ nb := fun z => by rw [← z, hf₄] at hnb; exact frame_list (Option.some.inj hnb)
  have hnb₅ := k₅ _ _ (Ne.symm nbL) hnb
  generalize τ 0 = j1 at hf₅
  have gb₅ : AllBare s₅.gens := by rw [g₅, g₄, g₃, g₂, gg₁]; exact hg
  have os₅ : s₅.os = s.os := o₅.trans (o₄.trans (o₃.trans (o₂.trans oo₁)))
  -- signs, riders = _law_start(..)
  refine wpAny_execs_cons (Assign_Tuple (Call_Name2 ?_ (lStar1 _)) (by kernel_rfl!) (by kernel_rfl!))
  show wpAny (model pw w) A2 (lTN L) _ _ s₅
  rw [PySem.W.Fast.te9890603473600262816]
  refine run1 (· = s₅.gens) 200 63 L _ _ 0 _ _ _ (Xb e₅) hh2 (Nat.le_refl _) hd2 noH_loc (noH_ok w _ 0) rfl hf₅ (fun ρ τ => kLN w.params ρ τ j0 j1 sc nb) (fun _ _ _ => trivial) fun ρ τ s₆ _ hf₆ k₆ g₆ o₆ => ?_
  have e₆ := ext e₅ k₆
  have hnb₆ := k₆ _ _ (Ne.symm nbL) hnb₅
  refine Calls.callWith_function (o := fnAt 5 39 1) (fd := fdAt 5 39 1) (Calls.evalArgs_plain (Calls.spliced_cons ?_))
  show wpAny (model pw w) A2 (lA1 L) _ _ s₆
  rw [PySem.W.Fast.te14682816006757732981]
  have sok : SumOk (lstO vs 0) := ⟨vs, ns, 0, rfl, hi, by omega⟩
  refine runV (· = s₆.gens) 200 75 1075838976 nb L _ (lstO vs 0) (fun r => lF2 w.params j0 j1 sc r) _ [SumOk (lstO vs 0)] (Xb e₆) hh2 (Nat.le_refl _) hd2 hkL_loc (hkL_ok w _ 1) rfl hnb₆ hf₆ nbL (fun ρ τ => kLA1 w.params ρ τ j0 j1 sc (lstO vs 0)) ⟨sok, trivial⟩ fun ρ τ s₇ hf₇ k₇ g₇ o₇ => ?_
  have e₇ := ext e₆ k₇
  have hnb₇ := k₇ _ _ (Ne.symm nbL) hnb₆
  generalize τ 2 = tN
  refine Calls.spliced_cons ?_
  show wpAny (model pw w) A2 (lA2 L) _ _ s₇
  rw [PySem.W.Fast.te13011882977627243183]
  have tail : ∀ (p : Int) (tp : Nat) (s₈ : Shared), s₈.heap.get? L = some (lF2 w.params j0 j1 sc nb) → (∀ b ob, b ≠ L → s₇.heap.get? b = some ob → s₈.heap.get? b = some ob) → s₈.gens = s₇.gens → s₈.os = s₇.os → (p = 3 ∨ p = 4) →
      wpAny (model pw w) A2 (call (.ref 40) [.int (272930 + sumV (valsOf (lstO vs 0))) tN, .int p tp]) (fun v s₁ => wpAny (model pw w) A2 (assign (.Tuple lParts.es lParts.kt lParts.pt) (lEnv L) v) (fun _ s' => wpAny (model pw w) A2 (execs [lParts.l2, lParts.l3, .Return (some (.Compare (.Call (.Name lParts.en lParts.ep) [lParts.b1, lParts.b2] [] lParts.ecp) [.Eq] [lParts.r] lParts.cmpp)) lParts.rp] (lEnv L))
        (fun f s' => Q (match f with | .ret v => v | _ => .none) s') (fun e s' => wpAny (model pw w) A2 (leaving (lEnv L) e) (fun _ s'' => E e s'') (fun e' s'' => E e' s'') s') s') (fun e s' => wpAny (model pw w) A2 (leaving (lEnv L) e) (fun _ s'' => E e s'') (fun e' s'' => E e' s'') s') s₁) (fun e s' => wpAny (model pw w) A2 (leaving (lEnv L) e) (fun _ s'' => E e s'') (fun e' s'' => E e' s'') s') s₈ := by
    intro p tp s₈ hf₈ k₈ g₈ o₈ hp
    have e₈ := ext e₇ k₈
    have gb₈ : AllBare s₈.gens := by rw [g₈, g₇, g₆]; exact gb₅
    have os₈ : s₈.os = s.os := o₈.trans (o₇.trans (o₆.trans os₅))
    have fin : ∀ c ca cb cs rs n n' s' l, More s₈ s' → s'.heap.get? ca = some (lstO (strValues cs) n) → s'.heap.get? cb = some (lstO (strValues rs) n') → s'.heap.get? c = some (tupO [.ref ca, .ref cb]) → s₈.heap.get? c = none → Cod l cs → StartOk l → l.length = rs.length → RidOk rs → (rs.length = 6 ∨ rs.length = 8) →
        wpAny (model pw w) A2 (assign (.Tuple lParts.es lParts.kt lParts.pt) (lEnv L) (.ref c)) (fun _ s' => wpAny (model pw w) A2 (execs [lParts.l2, lParts.l3, .Return (some (.Compare (.Call (.Name lParts.en lParts.ep) [lParts.b1, lParts.b2] [] lParts.ecp) [.Eq] [lParts.r] lParts.cmpp)) lParts.rp] (lEnv L))
        (fun f s' => Q (match f with | .ret v => v | _ => .none) s') (fun e s' => wpAny (model pw w) A2 (leaving (lEnv L) e) (fun _ s'' => E e s'') (fun e' s'' => E e' s'') s') s') (fun e s' => wpAny (model pw w) A2 (leaving (lEnv L) e) (fun _ s'' => E e s'') (fun e' s'' => E e' s'') s') s' := by
      intro c ca cb cs rs n n' s₉ l hm hca hcb hct hcf hcod ok hlen hrid h68
      have e₉ : Ext K s₉.heap := fun b o q => hm.old b o (e₈ b o q)
      have hf₉ := hm.old _ _ hf₈
      have ncL : L ≠ c := fun z => by rw [← z, hf₈] at hcf; cases hcf
      have X9 : TopK w.params (but s₉.heap L) := X.mono fun b o q => by
        have : b ≠ L := fun z => by rw [z] at q; rw [hL] at q; cases q
        rw [but_ne this]; exact e₉ b o q
      show wpAny (model pw w) A2 (lTA c L) _ _ s₉
      rw [PySem.W.Fast.te15274431885361590149]
      refine two_run 121 c L _ _ _ _ _ _ X9 hh2 hd2 hct hf₉ ncL (fun ρ τ => kLTA w.params ρ τ j0 j1 sc nb ca cb) fun ρ τ s₁₀ _ _ hf₁₀ k₁₀ g₁₀ o₁₀ => ?_
      have e₁₀ := ext e₉ k₁₀
      generalize τ 0 = j2 at hf₁₀
      generalize τ 1 = j3 at hf₁₀
      have naL : ca ≠ L := fun z => by rw [z, hf₉] at hca; exact frame_list (Option.some.inj hca)
      have nbL' : cb ≠ L := fun z => by rw [z, hf₉] at hcb; exact frame_list (Option.some.inj hcb)
      have hca₁ := k₁₀ _ _ naL hca
      have hcb₁ := k₁₀ _ _ nbL' hcb
      show wpAny (model pw w) A2 (execs ([lParts.l2, lParts.l3] ++ [.Return (some (.Compare (.Call (.Name lParts.en lParts.ep) [lParts.b1, lParts.b2] [] lParts.ecp) [.Eq] [lParts.r] lParts.cmpp)) lParts.rp]) (lEnv L)) _ _ s₁₀
      refine wpAny_execs_append (l_23 (K := K) X hh2 hd3 e₁₀ (by rw [g₁₀]; exact hm.bare) KL hca₁ hcb₁ hf₁₀ hcod hrid h68 hlen ok fun j4 wr s₁₁ hf₁₁ k₁₁ gb₁₁ o₁₁ => ?_)
      have e₁₁ := ext e₁₀ k₁₁
      -- return _law_emptied(signs, riders) == signs
      refine wpAny_execs_cons (wpAny_Return_some (wpAny_Compare1 (Call_Name2 ?_ (lStar2 _)) lMark))
      show wpAny (model pw w) A2 (lEN L) _ _ s₁₁
      rw [PySem.W.Fast.te5020167316334397680]
      refine run1 AllBare 200 63 L _ _ 0 _ _ _ (Xb e₁₁) hh2 (Nat.le_refl _) hd2 noH_loc (noH_ok w _ 0) gb₁₁ hf₁₁ (fun ρ τ => kLEN w.params ρ τ j0 j1 j2 j3 j4 sc nb ca cb wr) (fun _ _ _ => trivial) fun ρ τ s₁₂ _ hf₁₂ k₁₂ gb₁₂ o₁₂ => ?_
      have e₁₂ := ext e₁₁ k₁₂
      refine Calls.callWith_function (o := fnAt 10 68 1) (fd := fdAt 10 68 1) (Calls.evalArgs_plain (Calls.spliced_cons ?_))
      show wpAny (model pw w) A2 (lB1 L) _ _ s₁₂
      rw [PySem.W.Fast.te6215707475411786823]
      refine run1 AllBare 200 63 L _ _ 1 _ _ _ (Xb e₁₂) hh2 (Nat.le_refl _) hd2 noH_loc (noH_ok w _ 0) gb₁₂ hf₁₂ (fun ρ τ => kLB1 w.params ρ τ j0 j1 j2 j3 j4 sc nb ca cb wr) (fun _ _ _ => trivial) fun ρ τ s₁₃ _ hf₁₃ k₁₃ gb₁₃ o₁₃ => ?_
      have e₁₃ := ext e₁₂ k₁₃
      refine Calls.spliced_cons ?_
      show wpAny (model pw w) A2 (lB2 L) _ _ s₁₃
      rw [PySem.W.Fast.te12214785060601845286]
      refine run1 AllBare 200 63 L _ _ 1 _ _ _ (Xb e₁₃) hh2 (Nat.le_refl _) hd2 noH_loc (noH_ok w _ 0) gb₁₃ hf₁₃ (fun ρ τ => kLB2 w.params ρ τ j0 j1 j2 j3 j4 sc nb ca cb wr) (fun _ _ _ => trivial) fun ρ τ s₁₄ _ hf₁₄ k₁₄ gb₁₄ o₁₄ => ?_
      have e₁₄ := ext e₁₃ k₁₄
      refine Calls.spliced_nil ⟨⟨e₁₄ _ _ (X.kt 69 _ (by kernel_rfl!)), rfl⟩, ?_⟩
      have kk : ∀ b ob, b ≠ L → s₁₀.heap.get? b = some ob → s₁₄.heap.get? b = some ob := fun b ob q z => k₁₄ b ob q (k₁₃ b ob q (k₁₂ b ob q (k₁₁ b ob q z)))
      have hca₄ := kk _ _ naL hca₁
      have hcb₄ := kk _ _ nbL' hcb₁
      show wpAny (model pw w) A2 (call (.ref 69) [.ref ca, .ref cb]) _ _ s₁₄
      refine emptied_law (X.mono e₁₄) hh2 hd4 hu2 gb₁₄ hca₄ hcb₄ hcod hrid h68 (by rw [hcod.len, hlen]) ok.row ok.emp fun ce ts mm s₁₅ hm₁₅ hce hts => ?_
      have e₁₅ : Ext K s₁₅.heap := fun b o q => hm₁₅.old b o (e₁₄ b o q)
      have hf₁₅ := hm₁₅.old _ _ hf₁₄
      show wpAny (model pw w) A2 (lR L) _ _ s₁₅
      rw [PySem.W.Fast.te12101061610286526490]
      refine run1 AllBare 200 63 L _ _ 1 _ _ _ (Xb e₁₅) hh2 (Nat.le_refl _) hd2 noH_loc (noH_ok w _ 0) hm₁₅.bare hf₁₅ (fun ρ τ => kLR w.params ρ τ j0 j1 j2 j3 j4 sc nb ca cb wr) (fun _ _ _ => trivial) fun ρ τ s₁₆ _ hf₁₆ k₁₆ gb₁₆ o₁₆ => ?_
      have e₁₆ := ext e₁₅ k₁₆
      have neL : ce ≠ L := fun z => by rw [z, hf₁₅] at hce; exact frame_list (Option.some.inj hce)
      refine strs_same (k₁₆ _ _ neL hce) (k₁₆ _ _ naL (hm₁₅.old _ _ hca₄)) hts hcod ok.sg (by omega) ?_
      exact hQ s₁₆ ⟨e₁₆, gb₁₆, o₁₆.trans (hm₁₅.os.trans (o₁₄.trans (o₁₃.trans (o₁₂.trans (o₁₁.trans (o₁₀.trans (hm.os.trans os₈)))))))⟩
    rcases hp with rfl | rfl
    · exact start3 (X.mono e₈) hh2 hd2 gb₈ fun c ca cb cs rs n n' s' l hm h1 h2 h3 h4 h5 h6 h7 h8 => fin c ca cb cs rs n n' s' l hm h1 h2 h3 h4 h5 (starts3_ok l h6).1 (by rw [(starts3_ok l h6).2, h8]) h7 (.inl h8)
    · exact start4 (X.mono e₈) hh2 hd2 gb₈ fun c ca cb cs rs n n' s' l hm h1 h2 h3 h4 h5 h6 h7 h8 => fin c ca cb cs rs n n' s' l hm h1 h2 h3 h4 h5 (starts4_ok l h6).1 (by rw [(starts4_ok l h6).2, h8]) h7 (.inr h8)
  by_cases q : ((valsOf (lstO vs 0)).length : Int) < 2
  · refine runV (· = s₇.gens) 200 74 1156299206476955648 nb L _ (lstO vs 0) (fun r => lF2 w.params j0 j1 sc r) _ [decide (((valsOf (lstO vs 0)).length : Int) < 2) = true, SumOk (lstO vs 0)] (Xb e₇) hh2 (Nat.le_refl _) hd2 hkL_loc (hkL_ok w _ 1) rfl hnb₇ hf₇ nbL (fun ρ τ => kLA2t w.params ρ τ j0 j1 sc (lstO vs 0)) ⟨by simpa using q, sok, trivial⟩ fun ρ τ s₈ hf₈ k₈ g₈ o₈ => ?_
    refine Calls.spliced_nil ⟨⟨ext e₇ k₈ _ _ (X.kt 40 _ (by kernel_rfl!)), rfl⟩, ?_⟩
    exact tail 3 (τ 3) s₈ hf₈ k₈ g₈ o₈ (.inl rfl)
  · refine runV (· = s₇.gens) 200 74 3377701870108672 nb L _ (lstO vs 0) (fun r => lF2 w.params j0 j1 sc r) _ [decide (((valsOf (lstO vs 0)).length : Int) < 2) = false, SumOk (lstO vs 0)] (Xb e₇) hh2 (Nat.le_refl _) hd2 hkL_loc (hkL_ok w _ 1) rfl hnb₇ hf₇ nbL (fun ρ τ => kLA2f w.params ρ τ j0 j1 sc (lstO vs 0)) ⟨by simpa using q, sok, trivial⟩ fun ρ τ s₈ hf₈ k₈ g₈ o₈ => ?_
    refine Calls.spliced_nil ⟨⟨ext e₇ k₈ _ _ (X.kt 40 _ (by kernel_rfl!)), rfl⟩, ?_⟩
    exact tail 4 (τ 3) s₈ hf₈ k₈ g₈ o₈ (.inr rfl)
noncomputable def codeN : Option Obj → Option Str
  | some ⟨_, _, .fields ⟨_ :: .str x _ :: _⟩, _⟩ => some x
  | _ => none
theorem code_kt {h : Heap} {t : KT} (H : KT.Holds h 1 0 t) {c : Addr} {q : Str} (e : codeN (t.get c) = some q) : h.CodeRec (.ref c) q := by
  cases ho : t.get c with
  | none => rw [ho] at e; cases e
  | some o =>
    rw [ho] at e
    have hg := kt_at H ho
    unfold codeN at e
    split at e
    · rename_i x u _ _ hx
      cases e
      cases hx
      exact ⟨c, _, _, _, rfl, hg, rfl, rfl⟩
    · cases e
theorem topK_of {P : Params} {h : Heap} (a3 : h.get? 3 = some (glob P)) (a0 : h.get? 0 = some (bltns P)) (a2 : h.get? 2 = some statics) (a45 : h.get? 45 = some (fnAt 6 44 1)) (a52 : h.get? 52 = some (fnAt 7 51 1)) (a57 : h.get? 57 = some (fnAt 8 56 1)) (a62 : h.get? 62 = some (fnAt 9 61 1)) (a35 : h.get? 35 = some (fnAt 3 34 0)) (a28 : h.get? 28 = some (fnAt 2 27 0))
    (a21 : h.get? 21 = some (fnAt 1 20 0)) (a69 : h.get? 69 = some (fnAt 10 68 1)) (a40 : h.get? 40 = some (fnAt 5 39 1)) (a76 : h.get? 76 = some (fnAt 11 75 1)) (hc : ∀ q ∈ fnL, h.CodeRec (.ref q.2.2.1) (fdAt q.2.1 q.2.2.1 q.2.2.2).qualname) : TopK P fun b => h.get? b := by
  refine ⟨fun a o e => ?_, fun q hq hp he => (hc q hq).keeps he⟩
  have go : ∀ (l : List (Nat × Obj)), (∀ p ∈ l, h.get? p.1 = some p.2) → look l a = some o → h.get? a = some o := by
    intro l
    induction l with
    | nil => intro _ q; cases q
    | cons p l ih =>
      intro hl q
      unfold look at q
      split at q
      · rename_i hb
        have := Nat.eq_of_beq_eq_true hb
        cases q
        rw [← this]
        exact hl p (List.mem_cons_self ..)
      · exact ih (fun p' hp' => hl p' (List.mem_cons_of_mem _ hp')) q
  unfold kt withB at e
  split at e
  · rename_i hb
    have := Nat.eq_of_beq_eq_true hb
    cases e
    rw [← this]
    exact a0
  refine go (topR P) (fun p hp => ?_) e
  simp only [topR, List.mem_cons, List.not_mem_nil, or_false] at hp
  rcases hp with rfl | rfl | rfl | rfl | rfl | rfl | rfl | rfl | rfl | rfl | rfl | rfl <;> assumption
theorem good_true {c : ClaimW} {cl : Str → Option Addr} {mean : ExcName → Option Value} {args : List WData} {s₁ s' : Shared} (hr : ∀ cls, c.raises args cls = false) (hp : c.post args (.bool true) args = true) (m : More s₁ s') : GoodWG c cl mean args s₁ (.ok (.ret (.bool true))) s' :=
  ⟨.inl ⟨_, _, [], rfl, hr, ReadsW.bool true, hp, fun _ => ⟨List.nodup_nil, fun _ hm => (nomatch hm)⟩⟩, .of_keep m.old, m.os, m.bare⟩
end Mine
open PySem.W.ZRun
set_option maxHeartbeats 0 in
theorem PySem.Challenge.cw_ph0001_01_holds : PySem.Challenge.rw_ph0001_01.Holds := by
  w_on; o_law; z_head; (case hw => w_witness2)
  k_fill
  intro w s₀ s₁ mg mb G y fa o pm cd doc dV kV ho hd hcd hD hmg hg args vals as L hpre hlay hrd hwl hlo
  z_open y L KX ZH ZN ZT
  refine Ground.open G ?_
  intro T B D TE TW
  wrow_args hpre hlay hrd hwl hlo
  obtain ⟨hat, hsz⟩ := script_at L
  have htk := script_toks L ZT
  rw [ZN] at hat hsz
  subst hat
  x_fa T KX hmg
  all_lens
  have hTK : Mine.TopK w.params (fun b => s₁.heap.get? b) := by
    refine Mine.topK_of (kt_at ZH (by kernel_rfl!)) (kt_at ZH (by kernel_rfl!)) (kt_at ZH (by kernel_rfl!)) (kt_at ZH (by kernel_rfl!)) (kt_at ZH (by kernel_rfl!)) (kt_at ZH (by kernel_rfl!)) (kt_at ZH (by kernel_rfl!)) (kt_at ZH (by kernel_rfl!)) (kt_at ZH (by kernel_rfl!)) (kt_at ZH (by kernel_rfl!)) (kt_at ZH (by kernel_rfl!)) (kt_at ZH (by kernel_rfl!)) (kt_at ZH (by kernel_rfl!)) fun q hq => ?_
    simp only [Mine.fnL, List.mem_cons, List.not_mem_nil, or_false] at hq
    rcases hq with rfl | rfl | rfl | rfl | rfl | rfl | rfl | rfl | rfl | rfl <;> exact Mine.code_kt ZH (by kernel_rfl!)
  show wpAny (model Mine.pw w) callerA (call (.ref 76) [.ref 77]) _ _ s₁
  refine Mine.law_ok hTK rfl (by decide) (by decide) (by rw [hg]; exact AllBare.empty) (by assumption) (by assumption) (by omega) fun s' hm => ?_
  refine Mine.good_true (fun _ => rfl) ?_ hm
  first | rfl | wrow_post
