import PyProof.Rows.All
import Wide.All
import OpenK.AllK
import Wide.FinOn
import PyProof.FactsAll.range_iterator_1
import PyProof.WalksMore
import PyProof.AtCode
import KE.KSuperObj
import PyProof.FactsAll.list_1
import PyProof.FactsAll.list_3
import PyProof.NeKinds
import PyProof.FactsAll.list_2
import PyProof.FactsAll.tuple_1
import PyProof.FactsAll.tuple_2
import PyProof.DictKinds
import PyProof.MeetsDict
import PyProof.EnumStmt
import PyProof.CallStr
import PyProof.FactsAll.int_1
import PyProof.FactsAll.int_2
import PyProof.FactsAll.int_3
import PyProof.FactsAll.int_5
import PyProof.FactsAll.float_2
import PyProof.FactsAll.float_3
import PyProof.AutoIntOps
import PyProof.AutoFloatOps
import PyProof.AutoRange
import PyProof.Rows.FloatCmp
import Lean
import PySem.Challenge.RW_tv0043_01
set_option Elab.async false
set_option maxRecDepth 100000
set_option maxHeartbeats 0
set_option linter.all false
namespace Mine
noncomputable section
open PySem PySem.W PySem.W.X PySem.Calls PyProof.Rows
/-! ## the store: an index gives an address and the object that stands there -/
noncomputable abbrev Own := Addr × Obj
inductive ST where
  | nil
  | node (v : Option Own) (l r : ST)
namespace ST
noncomputable def val (t : ST) : Option Own := ST.rec (motive := fun _ => Option Own) none (fun v _ _ _ _ => v) t
noncomputable def lft (t : ST) : ST := ST.rec (motive := fun _ => ST) .nil (fun _ l _ _ _ => l) t
noncomputable def rgt (t : ST) : ST := ST.rec (motive := fun _ => ST) .nil (fun _ _ r _ _ => r) t
noncomputable def get (t : ST) : Nat → Option Own := ST.rec (motive := fun _ => Nat → Option Own) (fun _ => none)
  (fun v _ _ gl gr i => Bool.rec (motive := fun _ => Option Own) (Bool.rec (motive := fun _ => Option Own) (gr (Nat.sub (Nat.div i 2) 1)) (gl (Nat.div i 2)) (Nat.beq (Nat.mod i 2) 1)) v (Nat.beq i 0)) t
noncomputable def put (n : Nat) : ST → Nat → Own → ST := Nat.rec (motive := fun _ => ST → Nat → Own → ST) (fun t _ _ => t)
  (fun _ ih t i x => Bool.rec (motive := fun _ => ST) (Bool.rec (motive := fun _ => ST) (.node t.val t.lft (ih t.rgt (Nat.sub (Nat.div i 2) 1) x)) (.node t.val (ih t.lft (Nat.div i 2) x) t.rgt) (Nat.beq (Nat.mod i 2) 1)) (.node (some x) t.lft t.rgt) (Nat.beq i 0)) n
theorem get_eq (t : ST) (i : Nat) : t.get i = if i = 0 then t.val else if i % 2 = 1 then t.lft.get (i / 2) else t.rgt.get (i / 2 - 1) := by
  cases t with
  | nil => simp [get, val, lft, rgt]
  | node v l r =>
    show (Bool.rec (motive := fun _ => Option Own) (Bool.rec (motive := fun _ => Option Own) (r.get (i / 2 - 1)) (l.get (i / 2)) (Nat.beq (i % 2) 1)) v (Nat.beq i 0)) = _
    rw [BT.beq_eq, BT.beq_eq]
    by_cases h : i = 0
    · simp [h, val]
    · by_cases q : i % 2 = 1 <;> simp [h, q, lft, rgt]
theorem get_put : ∀ (n : Nat) (t : ST) (i j : Nat) (x : Own), i < n → (put n t i x).get j = if j = i then some x else t.get j
  | 0, _, _, _, _, h => absurd h (Nat.not_lt_zero _)
  | n + 1, t, i, j, x, h => by
    show (Bool.rec (motive := fun _ => ST) (Bool.rec (motive := fun _ => ST) (.node t.val t.lft (put n t.rgt (i / 2 - 1) x)) (.node t.val (put n t.lft (i / 2) x) t.rgt) (Nat.beq (i % 2) 1)) (.node (some x) t.lft t.rgt) (Nat.beq i 0)).get j = _
    rw [BT.beq_eq, BT.beq_eq]
    by_cases h0 : i = 0
    · subst h0
      simp only [decide_true]
      rw [get_eq]
      by_cases hj : j = 0
      · simp [hj, val]
      · rw [if_neg hj, if_neg hj, get_eq t j, if_neg hj]; rfl
    · rw [decide_eq_false h0]
      by_cases p : i % 2 = 1
      · rw [decide_eq_true p]
        show (ST.node t.val (put n t.lft (i / 2) x) t.rgt).get j = _
        rw [get_eq, get_eq t j]
        by_cases hj : j = 0
        · have : j ≠ i := by omega
          simp [hj, val, Ne.symm h0]
        · rw [if_neg hj, if_neg hj]
          by_cases q : j % 2 = 1
          · rw [if_pos q, if_pos q]
            show (put n t.lft (i / 2) x).get (j / 2) = _
            rw [get_put n _ _ _ _ (by omega)]
            by_cases e : j = i
            · simp [e]
            · rw [if_neg e, if_neg (by omega)]
          · rw [if_neg q, if_neg q, if_neg (by omega)]; rfl
      · rw [decide_eq_false p]
        show (ST.node t.val t.lft (put n t.rgt (i / 2 - 1) x)).get j = _
        rw [get_eq, get_eq t j]
        by_cases hj : j = 0
        · simp [hj, val, Ne.symm h0]
        · rw [if_neg hj, if_neg hj]
          by_cases q : j % 2 = 1
          · rw [if_pos q, if_pos q, if_neg (by omega)]; rfl
          · rw [if_neg q, if_neg q]
            show (put n t.rgt (i / 2 - 1) x).get (j / 2 - 1) = _
            rw [get_put n _ _ _ _ (by omega)]
            by_cases e : j = i
            · simp [e]
            · rw [if_neg e, if_neg (by omega)]
end ST

/-! ## the heap that a store stands for -/
structure RepS (h₀ : Heap) (m₀ : Nat) (kt : KT) (h : Heap) (T : ST) : Prop where
  grow : h₀.objs.size ≤ h.objs.size
  fresh : ∀ i a o, T.get i = some (a, o) → m₀ ≤ i → h₀.objs.size ≤ a
  big : 259 ≤ h.objs.size
  own : ∀ i a o, T.get i = some (a, o) → h.get? a = some o
  inj : ∀ i j a o p, T.get i = some (a, o) → T.get j = some (a, p) → i = j
  stat : ∀ a o, kt.get a = some o → h.get? a = some o
  apart : ∀ i a o, T.get i = some (a, o) → kt.get a = none
  keep : ∀ b o, h₀.get? b = some o → (∀ i o', T.get i ≠ some (b, o')) → h.get? b = some o
  lim : h.NoLimit

theorem RepS.alloc {h₀ : Heap} {m₀ : Nat} {kt : KT} {h : Heap} {T : ST} (D : RepS h₀ m₀ kt h T) {m : Nat} {o : Obj} (hm : m < 4096) (hg : T.get m = none) (hf : o.isFreed = false) :
    RepS h₀ m₀ kt (h.push o) (T.put 4096 m (h.objs.size, o)) := by
  have up : ∀ b x, h.get? b = some x → (h.push o).get? b = some x := fun b x e => Heap.get?_push_of_some _ e
  refine ⟨by rw [Heap.size_push]; exact Nat.le_succ_of_le D.grow, fun i a x e hi => ?_, by rw [Heap.size_push]; exact Nat.le_succ_of_le D.big, fun i a x e => ?_, fun i j a x y ei ej => ?_, fun a x e => up _ _ (D.stat a x e), fun i a x e => ?_, fun b x e hn => up _ _ (D.keep b x e fun i o' q => hn i o' ?_), D.lim.keeps up⟩
  · rw [ST.get_put _ _ _ _ _ hm] at e
    by_cases hi' : i = m
    · rw [if_pos hi'] at e; cases e; exact D.grow
    · rw [if_neg hi'] at e; exact D.fresh i a x e hi
  · rw [ST.get_put _ _ _ _ _ hm] at e
    by_cases hi : i = m
    · rw [if_pos hi] at e; cases e; exact Heap.get?_push_size _ hf
    · rw [if_neg hi] at e; exact up _ _ (D.own i a x e)
  · rw [ST.get_put _ _ _ _ _ hm] at ei ej
    by_cases hi : i = m
    · rw [if_pos hi] at ei; cases ei
      by_cases hj : j = m
      · rw [hi, hj]
      · rw [if_neg hj] at ej
        exact absurd (Heap.lt_size (D.own _ _ _ ej)) (Nat.lt_irrefl _)
    · rw [if_neg hi] at ei
      by_cases hj : j = m
      · rw [if_pos hj] at ej; cases ej
        exact absurd (Heap.lt_size (D.own _ _ _ ei)) (Nat.lt_irrefl _)
      · rw [if_neg hj] at ej; exact D.inj i j a x y ei ej
  · rw [ST.get_put _ _ _ _ _ hm] at e
    by_cases hi : i = m
    · rw [if_pos hi] at e; cases e
      cases q : kt.get h.objs.size with
      | none => rfl
      | some y => exact absurd (Heap.lt_size (D.stat _ _ q)) (Nat.lt_irrefl _)
    · rw [if_neg hi] at e; exact D.apart i a x e
  · rw [ST.get_put _ _ _ _ _ hm]
    by_cases hi : i = m
    · subst hi; rw [hg] at q; cases q
    · rw [if_neg hi]; exact q

theorem RepS.update {h₀ : Heap} {m₀ : Nat} {kt : KT} {h : Heap} {T : ST} (D : RepS h₀ m₀ kt h T) {j : Nat} {a : Addr} {o : Obj} {f : Obj → Obj} (hj : j < 4096) (hg : T.get j = some (a, o)) (hf : (f o).isFreed = false) (hc : a ≠ cStatics) :
    RepS h₀ m₀ kt (h.update a f) (T.put 4096 j (a, f o)) := by
  have ho := D.own _ _ _ hg
  have hs : Heap.SameBut a h (h.update a f) := Heap.SameBut.update ..
  have ge : (h.update a f).get? a = some (f o) := by first | exact Heap.get?_update_self f ho hf | exact Heap.get?_update_self _ ho hf
  have ne : ∀ b x, b ≠ a → h.get? b = some x → (h.update a f).get? b = some x := fun b x hb e => (hs.2 b hb).trans e
  refine ⟨by rw [hs.1]; exact D.grow, fun i b x e hi => ?_, by rw [hs.1]; exact D.big, fun i b x e => ?_, fun i k b x y ei ek => ?_, fun b x e => ne b x (fun q => ?_) (D.stat b x e), fun i b x e => ?_, fun b x e hn => ?_, ?_⟩
  · rw [ST.get_put _ _ _ _ _ hj] at e
    by_cases hi' : i = j
    · rw [if_pos hi'] at e; cases e; exact D.fresh j a o hg (hi' ▸ hi)
    · rw [if_neg hi'] at e; exact D.fresh i b x e hi
  · rw [ST.get_put _ _ _ _ _ hj] at e
    by_cases hi : i = j
    · rw [if_pos hi] at e; cases e; exact ge
    · rw [if_neg hi] at e
      exact ne b x (fun q => hi (D.inj i j a x o (q ▸ e) hg)) (D.own i b x e)
  · rw [ST.get_put _ _ _ _ _ hj] at ei ek
    by_cases hi : i = j
    · rw [if_pos hi] at ei; cases ei
      by_cases hk : k = j
      · rw [hi, hk]
      · rw [if_neg hk] at ek; rw [hi]; exact D.inj j k a o y hg ek
    · rw [if_neg hi] at ei
      by_cases hk : k = j
      · rw [if_pos hk] at ek; cases ek; rw [hk]; exact D.inj i j a x o ei hg
      · rw [if_neg hk] at ek; exact D.inj i k b x y ei ek
  · have := D.apart j a o hg
    rw [← q, e] at this; cases this
  · rw [ST.get_put _ _ _ _ _ hj] at e
    by_cases hi : i = j
    · rw [if_pos hi] at e; cases e; exact D.apart j a o hg
    · rw [if_neg hi] at e; exact D.apart i b x e
  · have hb : b ≠ a := fun q => hn j (f o) (by rw [ST.get_put _ _ _ _ _ hj, if_pos rfl, q])
    refine ne b x hb (D.keep b x e fun i o' q => ?_)
    by_cases hi : i = j
    · subst hi; rw [hg] at q; cases q; exact hb rfl
    · exact hn i o' (by rw [ST.get_put _ _ _ _ _ hj, if_neg hi]; exact q)
  · obtain ⟨mc, hns, hnone⟩ := D.lim
    obtain ⟨oc, es, ep, hoc, r⟩ := hns
    exact ⟨mc, ⟨oc, es, ep, ne _ _ (Ne.symm hc) hoc, r⟩, hnone⟩
/-! ## lists looked up step by step: the kernel keeps the tails -/
noncomputable def tl1 {α : Type} (l : List α) : List α := List.rec (motive := fun _ => List α) [] (fun _ t _ => t) l
noncomputable def tls {α : Type} (l : List α) (n : Nat) : List α := Nat.rec (motive := fun _ => List α) l (fun _ r => tl1 r) n
noncomputable def nthO {α : Type} (l : List α) (n : Nat) : Option α := List.rec (motive := fun _ => Option α) none (fun a _ _ => some a) (tls l n)
noncomputable def nthN (l : List Nat) (n : Nat) : Nat := List.rec (motive := fun _ => Nat) 0 (fun a _ _ => a) (tls l n)
theorem tls_eq {α : Type} (l : List α) : ∀ n, tls l n = l.drop n
  | 0 => rfl
  | n + 1 => by
    show tl1 (tls l n) = _
    rw [tls_eq l n, ← List.drop_drop (i := 1) (j := n)]
    cases l.drop n <;> rfl
theorem nthO_eq {α : Type} (l : List α) (n : Nat) : nthO l n = l[n]? := by
  unfold nthO
  rw [tls_eq, ← List.head?_drop]
  cases l.drop n <;> rfl

/-! ## obligations: two sides that the kernel finds the same -/
noncomputable abbrev Stk := List (Code × Pos)
inductive Sd where
  | nat (a : Nat)
  | tree (t : Sem Fin)
  | fn (k : Stk → Sem Fin)
  | str (s : String)
  | code (c : Code)
  | own (o : Option Own)
  | boo (b : Bool)
  | kfn (k : Obj → Sem Fin)
noncomputable abbrev Obs := List (Sd × Sd)
noncomputable def Obs.ok (os : Obs) : Prop := ∀ p ∈ os, p.1 = p.2
theorem Obs.ok_of {os : Obs} (h : os.map (·.1) = os.map (·.2)) : os.ok := by
  induction os with
  | nil => intro p hp; cases hp
  | cons x l ih =>
    rw [List.map_cons, List.map_cons] at h
    injection h with h1 h2
    intro p hp
    rcases List.mem_cons.mp hp with rfl | hp
    · exact h1
    · exact ih h2 p hp
theorem Obs.ok_cons {x : Sd × Sd} {os : Obs} (h : Obs.ok (x :: os)) : x.1 = x.2 ∧ os.ok := ⟨h _ (.head _), fun p hp => h p (.tail _ hp)⟩
theorem Obs.ok_append {a b : Obs} (h : Obs.ok (a ++ b)) : a.ok ∧ b.ok := ⟨fun p hp => h p (List.mem_append_left _ hp), fun p hp => h p (List.mem_append_right _ hp)⟩

noncomputable abbrev Gls := List (Nat × GenState)
inductive Out where
  | fin (r : Result) (T : ST) (gl : Gls) (os : Obs)
  | bad (n : Nat)

noncomputable def stkOf : Sem Fin → (Stk → Sem Fin)
  | .stack k => k
  | _ => fun _ => .unsupported "no stack node"

noncomputable def ldOf : Sem Fin → (Obj → Sem Fin)
  | .load _ _ k => k
  | _ => fun _ => .unsupported "no load node"
noncomputable def dumO : Obj := { cls := .none }
noncomputable def tgtO : PySem.Expr := .Tuple [] 0 ⟨0, 0, 0, 0⟩
/-- a proved summary at hand: what it takes for granted, how many names it draws, what comes of it -/
structure BigR where
  os : (Nat → Nat) → Obs
  na : Nat
  nt : Nat
  need : Nat
  ad : Nat
  res : (Nat → Nat) → (Nat → Nat) → Result
  st : (Nat → Nat) → (Nat → Nat) → ST
noncomputable def cut (n : Nat) (f : Nat → Nat) : Nat → Nat := fun x => match Nat.blt x n with
  | true => f x
  | false => 0

structure Par where
  prog : Program
  P : Params
  pT : Params
  pF : Params
  kt : KT
  den : Nat → Code → ST → Nat → Bool → Option (Sem Fin × Nat × Obs)
  room : Nat → Option (Sem Unit)
  bud : Nat
  big : Nat → Code → ST → Nat → Nat → Nat → Option BigR

noncomputable abbrev SimTy := Code → Option (List Frame) → Kont → Sem Fin → ST → Nat → Nat → Nat → Nat → Nat → Gls → Obs → Out

noncomputable def kLen : Bool → Kont → Nat
  | true, .base => 0
  | true, .ret _ _ _ κ => kLen true κ + 1
  | true, .gen .. => 0
  | true, .genS .. => 0
  | false, .gen _ _ _ κ => kLen true κ + 1
  | false, .genS _ _ fs _ κ => kLen false κ + fs.length + 1
  | false, .base => 0
  | false, .ret .. => 0
noncomputable def mLen (md : Option (List Frame)) (κ : Kont) : Nat := match md with
  | none => kLen true κ
  | some fs => kLen false κ + fs.length

/-- in a run of its own, with room for a frame more -/
noncomputable def roomK (bud : Nat) (md : Option (List Frame)) (κ : Kont) : Bool := match md with
  | none => Nat.ble (5 * (kLen true κ + 1)) bud
  | some _ => false
section
variable (D : Par) (β τ γ : Nat → Nat) (σ : Nat → Pos × Stk)

noncomputable def goC (ih : SimTy) (d : Nat) (c : Code) (md : Option (List Frame)) (κ : Kont) (T : ST) (m i ad cd q : Nat) (gl : Gls) (os : Obs) : Out :=
  match D.den d c T ad (roomK D.bud md κ) with
  | some p => match p with
    | (t, ad', o) => ih c md κ t T m i ad' cd q gl (o ++ os)
  | none => .bad 50

noncomputable def wakeR (ih : SimTy) (e : End) (κ : Kont) (T : ST) (m i ad cd q : Nat) (gl : Gls) (os : Obs) : Out :=
  match gl[ad % 4096]? with
  | none => .bad 20
  | some p => match κ with
    | .gen g c k κ => ih c none κ (k e.result) T m i (ad / 4096) cd q (gl.set (ad % 4096) (p.1, e.genState)) ((.nat g, .nat p.1) :: os)
    | .genS g c fs k κ => ih c (some fs) κ (k e.result) T m i (ad / 4096) cd q (gl.set (ad % 4096) (p.1, e.genState)) ((.nat g, .nat p.1) :: os)
    | .base => .bad 21
    | .ret .. => .bad 22

noncomputable def retR (ih : SimTy) (r : Result) (md : Option (List Frame)) (κ : Kont) (T : ST) (m i ad cd q : Nat) (gl : Gls) (os : Obs) : Out := match md with
  | none => match κ with
    | .base => .fin r T gl os
    | .ret c _ k κ => ih c none κ (k r) T m i ad cd q gl os
    | .gen .. => .bad 23
    | .genS .. => .bad 24
  | some fs => match fs with
    | [] => wakeR ih (.ret r) κ T m i ad cd q gl os
    | f :: fs => match f with
      | .ret k _ _ _ c₁ _ _ => ih c₁ (some fs) κ (k r) T m i ad cd q gl os
      | .gen .. => .bad 25

noncomputable def resK (md : Option (List Frame)) (g : Nat) (c : Code) (k : GenResult → Sem Fin) (κ : Kont) : Kont := match md with
  | none => .gen g c k κ
  | some fs => .genS g c fs k κ
noncomputable def restOf (kt : KT) (d : Nat) (t : Sem Fin) : Option (Sem Fin) := match Nat.blt d 2 with
  | false => some t
  | true => match t with
    | .load _ _ k => match kt.get cStatics with
      | none => none
      | some o => some (k o)
    | t' => some t'
noncomputable def noneB (h : Option Value) : Bool := match h with | none => true | some _ => false

noncomputable def bigC (ih : SimTy) (d len : Nat) (c' c : Code) (md : Option (List Frame)) (κ : Kont) (k : Result → Sem Fin) (T : ST) (m i ad cd q : Nat) (gl : Gls) (os : Obs) : Out :=
  match D.big d c' T m i ad with
  | none => .bad 60
  | some b => match b with
   | ⟨bos, na, nt, need, ad', res, st⟩ => match Nat.ble (5 * len + need) D.bud with
    | false => .bad 61
    | true => ih c md κ (k (res (cut (m + na) β) (cut (i + nt) τ))) (st (cut (m + na) β) (cut (i + nt) τ)) (m + na) (i + nt) ad' cd q gl (bos (cut m β) ++ os)
noncomputable def bigA (ih : SimTy) (d len : Nat) (c' : Code) (κ : Kont) (T : ST) (m i ad cd q : Nat) (gl : Gls) (os : Obs) : Out :=
  match D.big d c' T m i ad with
  | none => .bad 60
  | some b => match b with
   | ⟨bos, na, nt, need, ad', res, st⟩ => match Nat.ble (5 * len + need) D.bud with
    | false => .bad 61
    | true => retR ih (res (cut (m + na) β) (cut (i + nt) τ)) none κ (st (cut (m + na) β) (cut (i + nt) τ)) (m + na) (i + nt) ad' cd q gl (bos (cut m β) ++ os)

/-- the end of a loop's turn, after m -/
noncomputable def ownX (m : Sem Unit) (target : PySem.Expr) (it v : Value) (body orelse : List Stmt) (env : Env) : Sem Fin :=
  PySem.W.R.onRaiseR (PySem.W.R.bindR m fun _ => PySem.W.R.bindR (Fast.tw17772580674575903948 target env v) fun _ => PySem.W.R.bindR (Fast.tw12563942051412417395 body env) fun fl => match fl with
    | .next | .cont => .pure (.again (.forLoop target it body orelse env))
    | .brk => .pure (.done .next)
    | .ret v => .pure (.done (.ret v))) fun x => PySem.W.R.bindR (Fast.tw17872113653443481271 x env) fun _ => Fast.tw1623429502029203251 x
/-- the turn of a loop over enumerate looks whether the tuple is the iterator's own: it is -/
noncomputable def ownC (ih : SimTy) (c : Code) (md : Option (List Frame)) (κ : Kont) (a : Addr) (k : Obj → Sem Fin) (T : ST) (m i ad cd q : Nat) (gl : Gls) (os : Obs) : Out :=
  match T.get (ad % 4096) with
  | none => .bad 70
  | some x => match T.get (ad / 4096 % 4096) with
    | none => .bad 71
    | some y => match x with
      | (xa, ⟨.type n, _, .fields vs, _⟩) => match vs.toList with
        | .int (.ofNat z) t :: _ => match c with
          | .forLoop target it body orelse env => ih c md κ (ownX (Fast.tw12367529300394763782 a 0 .none) target it (.ref y.1) body orelse env) T m i (ad / 4096 / 4096) cd q gl
            ((.nat a, .nat xa) :: (.nat z, .nat y.1) :: (.nat t, .nat 0) :: (.str n, .str "enumerate") :: (.kfn k, .kfn (ldOf (ownX (Fast.tw1578499551869305889 tgtO (.ref a) (.ref y.1)) target it (.ref y.1) body orelse env))) :: os)
          | _ => .bad 74
        | _ => .bad 72
      | _ => .bad 73
noncomputable def simStep (ih : SimTy) : SimTy := fun c md κ t T m i ad cd q gl os => match t with
  | .pure fin => match fin with
    | .done f => retR ih (.ok f) md κ T m i ad cd q gl os
    | .again c' => match Nat.blt (cd % 256) 200 with
      | true => goC D ih (cd % 256) c' md κ T m i ad (cd / 256) q gl os
      | false => match md with
        | some _ => .bad 62
        | none => bigA D β τ ih (cd % 256 - 200) (kLen true κ) c' κ T m i ad (cd / 256) q gl os
  | .raise e => retR ih (.error e) md κ T m i ad cd q gl os
  | .rule _ k => ih c md κ (k ()) T m i ad cd q gl os
  | .at _ k => ih c md κ (k ()) T m i ad cd q gl os
  | .point _ k => ih c md κ (k ()) T m i ad cd q gl os
  | .ask k => match cd % 256 with
    | 0 => ih c md κ (k ⟨D.prog, D.P⟩) T m i ad (cd / 256) q gl os
    | _ + 1 => ih c md κ (k ⟨D.prog, D.pT⟩) T m i ad (cd / 256) q gl ((.tree (k ⟨D.prog, D.pT⟩), .tree (k ⟨D.prog, D.pF⟩)) :: os)
  | .load a _ k => match ad % 4096 with
    | 0 => match D.kt.get a with
      | some o => ih c md κ (k o) T m i (ad / 4096) cd q gl os
      | none => .bad 1
    | j + 1 => match Nat.beq j 4094 with
      | true => ownC ih c md κ a k T m i (ad / 4096) cd q gl os
      | false => match T.get j with
        | some x => ih c md κ (k x.2) T m i (ad / 4096) cd q gl ((.nat a, .nat x.1) :: os)
        | none => .bad 2
  | .loadIfAlive a k => match ad % 4096 with
    | 0 => match D.kt.get a with
      | some o => ih c md κ (k (some o)) T m i (ad / 4096) cd q gl os
      | none => .bad 1
    | j + 1 => match T.get j with
      | some x => ih c md κ (k (some x.2)) T m i (ad / 4096) cd q gl ((.nat a, .nat x.1) :: os)
      | none => .bad 2
  | .alloc o k => match o.isFreed with
    | true => .bad 3
    | false => match Nat.blt m 4096 with
      | false => .bad 4
      | true => match T.get m with
        | some _ => .bad 5
        | none => ih c md κ (k (β m + 259)) (T.put 4096 m (β m + 259, o)) (m + 1) i ad cd q gl os
  | .update a _ f k => match ad % 4096 with
    | 0 => .bad 6
    | j + 1 => match T.get j with
      | some x => match (f x.2).isFreed with
        | true => .bad 7
        | false => ih c md κ (k ()) (T.put 4096 j (x.1, f x.2)) m i (ad / 4096) cd q gl ((.nat a, .nat x.1) :: os)
      | none => .bad 8
  | .fresh k => ih c md κ (k (τ i + 556)) T m (i + 1) ad cd q gl os
  | .handled own k => match own with
    | false => ih c md κ (k none) T m i ad cd q gl os
    | true => .bad 9
  | .stack k => match cd % 256 with
    | 0 => ih c md κ (k ((c, (σ q).1) :: (σ q).2)) T m i ad (cd / 256) (q + 1) gl os
    | d + 1 => match Nat.ble (5 * (mLen md κ + 1)) D.bud with
      | false => .bad 41
      | true => match D.room d with
      | none => .bad 10
      | some u => match restOf D.kt d (k [(c, ⟨0, 0, 0, 0⟩)]) with
        | none => .bad 11
        | some t₂ => ih c md κ t₂ T m i ad (cd / 256) q gl ((.fn k, .fn (stkOf (PySem.W.R.bindR u fun _ => t₂))) :: os)
  | .call c' hd g l k => match noneB hd with
    | false => .bad 12
    | true => match Nat.blt (cd % 256) 200 with
     | false => bigC D β τ ih (cd % 256 - 200) (mLen md κ + 1) c' c md κ k T m i ad (cd / 256) q gl os
     | true => match md with
      | none => goC D ih (cd % 256) c' none (.ret c none k κ) T m i ad (cd / 256) q gl os
      | some fs => goC D ih (cd % 256) c' (some (.ret k none g l c (σ q).1 [] :: fs)) κ T m i ad (cd / 256) (q + 1) gl os
  | .newGen c' k => ih c md κ (k (γ gl.length)) T m i ad cd q (gl ++ [(γ gl.length, .fresh c')]) os
  | .genState g k => match gl[ad % 4096]? with
    | some p => ih c md κ (k p.2.seen) T m i (ad / 4096) cd q gl ((.nat g, .nat p.1) :: os)
    | none => .bad 13
  | .resume g r _ k => match gl[ad % 4096]? with
    | some p => match p.2 with
      | .fresh c₀ => match r with
        | .send v => match v with
          | .none => goC D ih (cd % 256) c₀ (some []) (resK md g c k κ) T m i (ad / 4096) (cd / 256) q (gl.set (ad % 4096) (p.1, .running)) ((.nat g, .nat p.1) :: os)
          | _ => .bad 14
        | .throw _ => .bad 14
      | .suspended k₀ _ c₀ _ fs₀ _ => ih c₀ (some fs₀) (resK md g c k κ) (k₀ r) T m i (ad / 4096) cd q (gl.set (ad % 4096) (p.1, .running)) ((.nat g, .nat p.1) :: os)
      | .running => .bad 15
      | .finished => .bad 16
    | none => .bad 13
  | .yield v gd l k => match md with
    | none => .bad 17
    | some fs => match gd with
      | true => .bad 18
      | false => match splitAtGen fs with
        | some _ => .bad 19
        | none => match fs.any Frame.guarded with
          | true => .bad 18
          | false => wakeR ih (.susp v false l k c (σ q).1 fs) κ T m i ad cd (q + 1) gl os
  | .unsupported _ => .bad 30
  | .finish _ => .bad 31
  | .register .. => .bad 32
  | .choose .. => .bad 33
  | .os .. => .bad 34
  | .fork .. => .bad 35
  | .thread _ => .bad 36
  | .await .. => .bad 37
end
/-! ## the same step, for the kernel: one closed arm for each node -/
noncomputable abbrev FT := Par → (Nat → Nat) → (Nat → Nat) → (Nat → Nat) → (Nat → Pos × Stk) → SimTy → Code → Option (List Frame) → Kont → ST → Nat → Nat → Nat → Nat → Nat → Gls → Obs → Out
noncomputable def fBad (n : Nat) : FT := fun _ _ _ _ _ _ _ _ _ _ _ _ _ _ _ _ _ => .bad n
noncomputable def fPure (fin : Fin) : FT := fun D β τ _ _ ih _ md κ T m i ad cd q gl os =>
  PySem.Fin.rec (motive := fun _ => Out) (fun f => retR ih (.ok f) md κ T m i ad cd q gl os)
    (fun c' => Bool.rec (motive := fun _ => Out) (Option.rec (motive := fun _ => Out) (bigA D β τ ih (Nat.sub (Nat.mod cd 256) 200) (kLen true κ) c' κ T m i ad (Nat.div cd 256) q gl os) (fun _ => .bad 62) md)
      (goC D ih (Nat.mod cd 256) c' md κ T m i ad (Nat.div cd 256) q gl os) (Nat.blt (Nat.mod cd 256) 200)) fin
noncomputable def fRaise (e : Value) : FT := fun _ _ _ _ _ ih _ md κ T m i ad cd q gl os => retR ih (.error e) md κ T m i ad cd q gl os
noncomputable def fUnit {α : Type} (_ : α) (k : Unit → Sem Fin) (_ : Unit → FT) : FT := fun _ _ _ _ _ ih c md κ T m i ad cd q gl os => ih c md κ (k ()) T m i ad cd q gl os
noncomputable def fLoad (a : Addr) (_ : Option Value) (k : Obj → Sem Fin) (_ : Obj → FT) : FT := fun D _ _ _ _ ih c md κ T m i ad cd q gl os =>
  Nat.rec (motive := fun _ => Out) (Option.rec (motive := fun _ => Out) (.bad 1) (fun o => ih c md κ (k o) T m i (Nat.div ad 4096) cd q gl os) (D.kt.get a))
    (fun j _ => Bool.rec (motive := fun _ => Out) (Option.rec (motive := fun _ => Out) (.bad 2) (fun x => ih c md κ (k x.2) T m i (Nat.div ad 4096) cd q gl ((.nat a, .nat x.1) :: os)) (T.get j))
      (ownC ih c md κ a k T m i (Nat.div ad 4096) cd q gl os) (Nat.beq j 4094)) (Nat.mod ad 4096)
noncomputable def fUpd (a : Addr) (_ : Option Value) (f : Obj → Obj) (k : Unit → Sem Fin) (_ : Unit → FT) : FT := fun _ _ _ _ _ ih c md κ T m i ad cd q gl os =>
  Nat.rec (motive := fun _ => Out) (.bad 6) (fun j _ => Option.rec (motive := fun _ => Out) (.bad 8)
    (fun x => Bool.rec (motive := fun _ => Out) (ih c md κ (k ()) (T.put 4096 j (x.1, f x.2)) m i (Nat.div ad 4096) cd q gl ((.nat a, .nat x.1) :: os)) (.bad 7) (f x.2).isFreed) (T.get j)) (Nat.mod ad 4096)
noncomputable def fAlloc (o : Obj) (k : Addr → Sem Fin) (_ : Addr → FT) : FT := fun _ β _ _ _ ih c md κ T m i ad cd q gl os =>
  Bool.rec (motive := fun _ => Out) (Bool.rec (motive := fun _ => Out) (.bad 4) (Option.rec (motive := fun _ => Out) (ih c md κ (k (β m + 259)) (T.put 4096 m (β m + 259, o)) (m + 1) i ad cd q gl os) (fun _ => .bad 5) (T.get m)) (Nat.blt m 4096)) (.bad 3) o.isFreed
noncomputable def fAlive (a : Addr) (k : Option Obj → Sem Fin) (_ : Option Obj → FT) : FT := fun D _ _ _ _ ih c md κ T m i ad cd q gl os =>
  Nat.rec (motive := fun _ => Out) (Option.rec (motive := fun _ => Out) (.bad 1) (fun o => ih c md κ (k (some o)) T m i (Nat.div ad 4096) cd q gl os) (D.kt.get a))
    (fun j _ => Option.rec (motive := fun _ => Out) (.bad 2) (fun x => ih c md κ (k (some x.2)) T m i (Nat.div ad 4096) cd q gl ((.nat a, .nat x.1) :: os)) (T.get j)) (Nat.mod ad 4096)
noncomputable def fFresh (k : Tok → Sem Fin) (_ : Tok → FT) : FT := fun _ _ τ _ _ ih c md κ T m i ad cd q gl os => ih c md κ (k (τ i + 556)) T m (i + 1) ad cd q gl os
noncomputable def fAsk (k : Setting → Sem Fin) (_ : Setting → FT) : FT := fun D _ _ _ _ ih c md κ T m i ad cd q gl os =>
  Nat.rec (motive := fun _ => Out) (ih c md κ (k ⟨D.prog, D.P⟩) T m i ad (Nat.div cd 256) q gl os)
    (fun _ _ => ih c md κ (k ⟨D.prog, D.pT⟩) T m i ad (Nat.div cd 256) q gl ((.tree (k ⟨D.prog, D.pT⟩), .tree (k ⟨D.prog, D.pF⟩)) :: os)) (Nat.mod cd 256)
noncomputable def fCall (c' : Code) (hd : Option Value) (g : Bool) (l : List Value) (k : Result → Sem Fin) (_ : Result → FT) : FT := fun D β τ _ σ ih c md κ T m i ad cd q gl os =>
  Bool.rec (motive := fun _ => Out) (.bad 12) (Bool.rec (motive := fun _ => Out) (bigC D β τ ih (Nat.sub (Nat.mod cd 256) 200) (mLen md κ + 1) c' c md κ k T m i ad (Nat.div cd 256) q gl os)
    (Option.rec (motive := fun _ => Out) (goC D ih (Nat.mod cd 256) c' none (.ret c none k κ) T m i ad (Nat.div cd 256) q gl os)
      (fun fs => goC D ih (Nat.mod cd 256) c' (some (.ret k none g l c (σ q).1 [] :: fs)) κ T m i ad (Nat.div cd 256) (q + 1) gl os) md) (Nat.blt (Nat.mod cd 256) 200)) (noneB hd)
noncomputable def fHandled (own : Bool) (k : Option Value → Sem Fin) (_ : Option Value → FT) : FT := fun _ _ _ _ _ ih c md κ T m i ad cd q gl os =>
  Bool.rec (motive := fun _ => Out) (ih c md κ (k none) T m i ad cd q gl os) (.bad 9) own
noncomputable def fNewGen (c' : Code) (k : Nat → Sem Fin) (_ : Nat → FT) : FT := fun _ _ _ γ _ ih c md κ T m i ad cd q gl os => ih c md κ (k (γ gl.length)) T m i ad cd q (gl ++ [(γ gl.length, .fresh c')]) os
noncomputable def fStack (k : Stk → Sem Fin) (_ : Stk → FT) : FT := fun D β τ γ σ ih c md κ T m i ad cd q gl os => simStep D β τ γ σ ih c md κ (.stack k) T m i ad cd q gl os
noncomputable def fGenState (g : Nat) (k : GenStatus × Option (List (Code × Pos)) → Sem Fin) (_ : GenStatus × Option (List (Code × Pos)) → FT) : FT := fun D β τ γ σ ih c md κ T m i ad cd q gl os => simStep D β τ γ σ ih c md κ (.genState g k) T m i ad cd q gl os
noncomputable def fResume (g : Nat) (r : Resume) (l : List Value) (k : GenResult → Sem Fin) (_ : GenResult → FT) : FT := fun D β τ γ σ ih c md κ T m i ad cd q gl os => simStep D β τ γ σ ih c md κ (.resume g r l k) T m i ad cd q gl os
noncomputable def fYield (v : Value) (gd : Bool) (l : List Value) (k : Resume → Sem Fin) (_ : Resume → FT) : FT := fun D β τ γ σ ih c md κ T m i ad cd q gl os => simStep D β τ γ σ ih c md κ (.yield v gd l k) T m i ad cd q gl os
noncomputable def fStep (t : Sem Fin) : FT := Sem.rec (motive := fun _ => FT) fPure fRaise (fun _ => fBad 30) (fun _ => fBad 31) fUnit fUnit fLoad fUpd fAlloc fAlive fUnit (fun _ _ _ => fBad 32) fFresh fAsk (fun _ _ _ _ => fBad 33) (fun _ _ _ _ => fBad 34) fCall fHandled fNewGen fGenState fResume fYield fStack
  (fun _ _ _ => fBad 35) (fun _ _ => fBad 36) (fun _ _ _ _ _ _ => fBad 37) t
theorem fStep_eq (D : Par) (β τ γ : Nat → Nat) (σ : Nat → Pos × Stk) (ih : SimTy) (c : Code) (md : Option (List Frame)) (κ : Kont) (t : Sem Fin) (T : ST) (m i ad cd q : Nat) (gl : Gls) (os : Obs) : fStep t D β τ γ σ ih c md κ T m i ad cd q gl os = simStep D β τ γ σ ih c md κ t T m i ad cd q gl os := by
  cases t with
  | pure fin => cases fin <;> kernel_rfl
  | _ => kernel_rfl
noncomputable def simS (D : Par) (β τ γ : Nat → Nat) (σ : Nat → Pos × Stk) (n : Nat) : SimTy := Nat.rec (motive := fun _ => SimTy) (fun _ _ _ _ _ _ _ _ _ _ _ _ => .bad 40)
  (fun _ ih c md κ t T m i ad cd q gl os => fStep t D β τ γ σ ih c md κ T m i ad cd q gl os) n
theorem simS_succ (D : Par) (β τ γ : Nat → Nat) (σ : Nat → Pos × Stk) (n : Nat) : simS D β τ γ σ (n + 1) = simStep D β τ γ σ (simS D β τ γ σ n) := by
  funext c md κ t T m i ad cd q gl os
  exact fStep_eq D β τ γ σ (simS D β τ γ σ n) c md κ t T m i ad cd q gl os
end
noncomputable section
open PySem PySem.Spec PySem.W PySem.W.X PySem.Calls PyProof.Rows
noncomputable def aHere (V : XV) (c : Code) (md : Option (List Frame)) (κ : Kont) : Around := match md with
  | none => (aroundOf V true κ).under c
  | some fs => (aroundOf V false κ).over c fs
/-! ## one node of the tree, in a code's own run and in a generator's -/
section
variable {V : XV} {c : Code} {md : Option (List Frame)} {κ : Kont} {h : Heap} {g : Array GenState} {tk : Nat}

theorem mn_load {a : Addr} {q : Option Value} {k : Obj → Sem Fin} {o : Obj} (ho : h.get? a = some o) (z : Means V c md κ (k o) ⟨h, g, V.d, tk, V.os⟩) : Means V c md κ (.load a q k) ⟨h, g, V.d, tk, V.os⟩ := by
  cases md with
  | none => exact y_load _ _ _ _ _ _ _ _ _ _ _ _ _ _ _ _ ho z
  | some fs => exact s_load _ _ _ _ _ _ _ _ _ _ _ _ _ _ _ ho z
theorem mn_alive {a : Addr} {k : Option Obj → Sem Fin} {o : Obj} (ho : h.get? a = some o) (z : Means V c md κ (k (some o)) ⟨h, g, V.d, tk, V.os⟩) : Means V c md κ (.loadIfAlive a k) ⟨h, g, V.d, tk, V.os⟩ := by
  cases md with
  | none => exact y_alive _ _ _ _ _ _ _ _ _ _ _ _ _ _ _ ho z
  | some fs => exact s_alive _ _ _ _ _ _ _ _ _ _ _ _ _ _ ho z
theorem mn_cmd {α : Type} {s : Shared} {m : Sem α} {k : α → Sem Fin} (e : m.bind k = m.wrap k .raise id id) (z : ∀ A : Around, A = aHere V c md κ →
    wpAny (model V.prog V.w) A m (fun a s' => Means V c md κ (k a) s') (fun _ _ => False) s) : Means V c md κ (m.bind k) s := by
  cases md with
  | none =>
    have z := z _ rfl
    exact wpOwn_bind (wpOwn_of_wpAny (wpAny_mono z (fun _ _ x => x) fun _ _ x => x.elim))
  | some fs =>
    have z := z _ rfl
    rw [e]
    exact s_cmd _ _ _ _ _ _ (wpAny_mono z (fun _ _ x => x) fun _ _ x => x.elim)
theorem bind_wrap {α : Type} (m : Sem α) (f : α → Sem Fin) : m.bind f = m.wrap f .raise id id := by
  induction m <;> simp only [Sem.bind, Sem.wrap, id] <;> first | rfl | (congr; funext x; rename_i ih; exact ih x)
theorem mn_alloc {o : Obj} {k : Addr → Sem Fin} (z : Means V c md κ (k h.objs.size) ⟨h.push o, g, V.d, tk, V.os⟩) : Means V c md κ (.alloc o k) ⟨h, g, V.d, tk, V.os⟩ :=
  mn_cmd (m := PySem.alloc o) (k := k) (bind_wrap _ _) fun _ _ => wpAny_alloc z
theorem mn_update {a : Addr} {q : Option Value} {f : Obj → Obj} {k : Unit → Sem Fin} {o : Obj} (ho : h.get? a = some o) (z : Means V c md κ (k ()) ⟨h.update a f, g, V.d, tk, V.os⟩) : Means V c md κ (.update a q f k) ⟨h, g, V.d, tk, V.os⟩ :=
  mn_cmd (m := updatePart a q f) (k := k) (bind_wrap _ _) fun _ _ => wpAny_updatePart ho z
theorem mn_fresh {k : Tok → Sem Fin} (z : Means V c md κ (k tk) ⟨h, g, V.d, tk + 1, V.os⟩) : Means V c md κ (.fresh k) ⟨h, g, V.d, tk, V.os⟩ := by
  cases md with
  | none => exact y_fresh _ _ _ _ _ _ _ _ _ _ _ _ _ z
  | some fs => exact s_fresh _ _ _ _ _ _ _ _ _ _ _ _ z
theorem mn_rule {s : Shared} {tag : String} {k : Unit → Sem Fin} (z : Means V c md κ (k ()) s) : Means V c md κ (.rule tag k) s := by
  cases md with
  | none => exact y_skim _ _ _ _ _ _ _ _ _ 1 z
  | some fs => exact s_skim _ _ _ _ _ _ _ _ 1 z
theorem mn_at {s : Shared} {p : Pos} {k : Unit → Sem Fin} (z : Means V c md κ (k ()) s) : Means V c md κ (.at p k) s := by
  cases md with
  | none => exact y_skim _ _ _ _ _ _ _ _ _ 1 z
  | some fs => exact s_skim _ _ _ _ _ _ _ _ 1 z
theorem mn_point {s : Shared} {l : List Value} {k : Unit → Sem Fin} (z : Means V c md κ (k ()) s) : Means V c md κ (.point l k) s := by
  cases md with
  | none => exact y_skim _ _ _ _ _ _ _ _ _ 1 z
  | some fs => exact s_skim _ _ _ _ _ _ _ _ 1 z
theorem mn_ask {s : Shared} {k : Setting → Sem Fin} (z : Means V c md κ (k ⟨V.prog, V.w.params⟩) s) : Means V c md κ (.ask k) s := by
  cases md with
  | none => exact y_skim _ _ _ _ _ _ _ _ _ 1 z
  | some fs => exact s_skim _ _ _ _ _ _ _ _ 1 z
theorem mn_handled {s : Shared} {k : Option Value → Sem Fin} (z : Means V c md κ (k (match md with | none => (aroundOf V true κ).handled | some fs => ((aroundOf V false κ).over c fs).handled)) s) : Means V c md κ (.handled false k) s := by
  cases md with
  | none => exact y_handled _ _ _ _ _ _ _ _ _ z
  | some fs => exact s_handled _ _ _ _ _ _ _ _ z
theorem mn_stack {s : Shared} {k : Stk → Sem Fin} (z : ∀ p below, Means V c md κ (k ((c, p) :: below)) s) : Means V c md κ (.stack k) s := by
  cases md with
  | none => exact y_stack _ _ _ _ _ _ _ _ _ fun p below _ => z p below
  | some fs => exact s_stack _ _ _ _ _ _ _ _ fun p below _ => z p below
theorem mn_newGen {c' : Code} {k : Nat → Sem Fin} (z : Means V c md κ (k g.size) ⟨h, g.push (.fresh c'), V.d, tk, V.os⟩) : Means V c md κ (.newGen c' k) ⟨h, g, V.d, tk, V.os⟩ := by
  cases md with
  | none => exact y_newGen _ _ _ _ _ _ _ _ _ _ _ _ _ _ z
  | some fs => exact s_newGen _ _ _ _ _ _ _ _ _ _ _ _ _ z
theorem mn_genState {j : Nat} {k : GenStatus × Option (List (Code × Pos)) → Sem Fin} {x : GenState} (hx : g[j]? = some x) (z : Means V c md κ (k x.seen) ⟨h, g, V.d, tk, V.os⟩) : Means V c md κ (.genState j k) ⟨h, g, V.d, tk, V.os⟩ := by
  cases md with
  | none => exact y_genState _ _ _ _ _ _ _ _ _ _ x hx z
  | some fs => exact s_genState _ _ _ _ _ _ _ _ _ x hx z
theorem mn_again {s : Shared} {c' : Code} (hq : c'.quiet = true) (z : Means V c' md κ (denote table c') s) : Means V c md κ (.pure (.again c')) s := by
  cases md with
  | none => exact y_pure _ _ _ _ _ _ _ _ _ (y_again _ _ _ _ _ _ hq (y_code _ _ _ _ _ _ z))
  | some fs => exact s_again _ _ _ _ _ _ _ _ hq z
theorem mn_eq {s : Shared} {t t' : Sem Fin} (e : t = t') (z : Means V c md κ t' s) : Means V c md κ t s := e ▸ z
end

/-! ## what holds of the frames in hand -/
noncomputable def cFine (c : Code) : Prop := c.isCaller = false
noncomputable def fsFine (fs : List Frame) : Prop := ∀ f ∈ fs, ∃ k g l c p kp, f = Frame.ret k none g l c p kp ∧ cFine c
noncomputable def kFine : Bool → Kont → Prop
  | true, .base => True
  | true, .ret c hd _ κ => hd = none ∧ cFine c ∧ kFine true κ
  | true, .gen .. => False
  | true, .genS .. => False
  | false, .gen _ c _ κ => cFine c ∧ kFine true κ
  | false, .genS _ c fs _ κ => cFine c ∧ fsFine fs ∧ kFine false κ
  | false, .base => False
  | false, .ret .. => False
noncomputable def mFine (md : Option (List Frame)) (κ : Kont) : Prop := match md with
  | none => kFine true κ
  | some fs => kFine false κ ∧ fsFine fs
theorem frames_le (c : Code) : c.frames ≤ 3 := by
  unfold Code.frames
  split <;> first | omega | (split <;> omega)
theorem weight_le {c : Code} (h : cFine c) : c.weight ≤ 5 := by
  unfold Code.weight
  rw [show c.isCaller = false from h]
  have := frames_le c
  (repeat' split) <;> simp_all <;> omega
theorem units_le (c : Code) : c.cUnits ≤ 10 := by
  have := frames_le c
  unfold Code.cUnits
  split <;> omega
theorem fs_count : ∀ {fs : List Frame}, fsFine fs → frameCount (fs.map Frame.where_) ≤ 5 * fs.length ∧ unitsOf (fs.map Frame.where_) ≤ 10 * fs.length
  | [], _ => ⟨Nat.le_refl _, Nat.le_refl _⟩
  | f :: fs, h => by
    obtain ⟨k, g, l, c, p, kp, rfl, hc⟩ := h f (.head _)
    have ih := fs_count (fs := fs) fun x hx => h x (.tail _ hx)
    have w := weight_le hc
    have u := units_le c
    simp only [List.map_cons, Frame.where_, frameCount_cons, unitsOf_cons, List.length_cons]
    omega
theorem fs_marks : ∀ {fs : List Frame} {x : Option Value × Option Value}, fsFine fs → marksOver fs x = x
  | [], _, _ => rfl
  | f :: fs, x, h => by
    obtain ⟨k, g, l, c, p, kp, rfl, _⟩ := h f (.head _)
    have ih := fs_marks (fs := fs) (x := x) fun y hy => h y (.tail _ hy)
    simp only [marksOver, List.foldr_cons] at ih ⊢
    rw [ih]; rfl
theorem around_fine {V : XV} (hh : V.A₀.handled = none) : ∀ {b : Bool} {κ : Kont}, kFine b κ → (aroundOf V b κ).handled = none ∧ (aroundOf V b κ).depth ≤ V.A₀.depth + 5 * kLen b κ ∧ (aroundOf V b κ).units ≤ V.A₀.units + 10 * kLen b κ
  | true, .base, _ => ⟨hh, Nat.le_refl _, Nat.le_refl _⟩
  | true, .ret c hd k κ, ⟨e, hc, hk⟩ => by
    subst e
    obtain ⟨a, b, d⟩ := around_fine hh hk
    have w := weight_le hc
    have u := units_le c
    refine ⟨a, ?_, ?_⟩
    · show (aroundOf V true κ).depth + c.weight ≤ _; simp only [kLen]; omega
    · show (aroundOf V true κ).units + c.cUnits ≤ _; simp only [kLen]; omega
  | true, .gen .., h => h.elim
  | true, .genS .., h => h.elim
  | false, .gen g c k κ, ⟨hc, hk⟩ => by
    obtain ⟨a, b, d⟩ := around_fine hh hk
    have w := weight_le hc
    have u := units_le c
    refine ⟨a, ?_, ?_⟩
    · show (aroundOf V true κ).depth + c.weight ≤ _; simp only [kLen]; omega
    · show (aroundOf V true κ).units + c.cUnits ≤ _; simp only [kLen]; omega
  | false, .genS g c fs k κ, ⟨hc, hf, hk⟩ => by
    obtain ⟨a, b, d⟩ := around_fine hh hk
    have w := weight_le hc
    have u := units_le c
    obtain ⟨x, y⟩ := fs_count hf
    refine ⟨?_, ?_, ?_⟩
    · show (marksOver fs ((aroundOf V false κ).handled, (aroundOf V false κ).handled)).1 = none
      rw [fs_marks hf]; exact a
    · show (aroundOf V false κ).depth + frameCount (fs.map Frame.where_) + c.weight ≤ _; simp only [kLen]; omega
    · show (aroundOf V false κ).units + unitsOf (fs.map Frame.where_) + c.cUnits ≤ _; simp only [kLen]; omega
  | false, .base, h => h.elim
  | false, .ret .., h => h.elim
theorem handled_fine {V : XV} (hh : V.A₀.handled = none) {md : Option (List Frame)} {κ : Kont} {c : Code} (h : mFine md κ) : (match md with | none => (aroundOf V true κ).handled | some fs => ((aroundOf V false κ).over c fs).handled) = none := by
  cases md with
  | none => exact (around_fine hh (show kFine true κ from h)).1
  | some fs =>
    show (marksOver fs ((aroundOf V false κ).handled, (aroundOf V false κ).handled)).1 = none
    rw [fs_marks h.2]; exact (around_fine hh h.1).1
theorem here_fine {V : XV} (hh : V.A₀.handled = none) {md : Option (List Frame)} {κ : Kont} {c : Code} (hc : cFine c) (h : mFine md κ) {A : Around} (e : A = aHere V c md κ) :
    A.depth ≤ V.A₀.depth + 5 * (mLen md κ + 1) ∧ A.units ≤ V.A₀.units + 10 * (mLen md κ + 1) := by
  have w := weight_le hc
  have u := units_le c
  cases md with
  | none =>
    subst e
    obtain ⟨a, b, d⟩ := around_fine hh (show kFine true κ from h)
    refine ⟨?_, ?_⟩
    · show (aroundOf V true κ).depth + c.weight ≤ _; simp only [mLen]; omega
    · show (aroundOf V true κ).units + c.cUnits ≤ _; simp only [mLen]; omega
  | some fs =>
    subst e
    obtain ⟨a, b, d⟩ := around_fine hh h.1
    obtain ⟨x, y⟩ := fs_count h.2
    refine ⟨?_, ?_⟩
    · show (aroundOf V false κ).depth + frameCount (fs.map Frame.where_) + c.weight ≤ _; simp only [mLen]; omega
    · show (aroundOf V false κ).units + unitsOf (fs.map Frame.where_) + c.cUnits ≤ _; simp only [mLen]; omega
/-! ## the generators that a list stands for -/
noncomputable def gFine (x : GenState) : Prop := match x with
  | .suspended _ _ c _ fs cl => cFine c ∧ fsFine fs ∧ cl = false
  | _ => True
theorem gFine.bare {x : GenState} (h : gFine x) : x.bare = true := by
  cases x with
  | suspended k l c p fs cl => rw [show cl = false from h.2.2]; rfl
  | _ => rfl
/-- old generators stand, new ones hold no cleanup -/
noncomputable def GK (g g' : Array GenState) : Prop := (∀ (x : Nat) y, g[x]? = some y → g'[x]? = some y) ∧ (AllBare g → AllBare g')
theorem GK.refl (g : Array GenState) : GK g g := ⟨fun _ _ e => e, id⟩
theorem bareSet {g : Array GenState} (x : AllBare g) (i : Nat) {y : GenState} (hy : y.bare = true) : AllBare (g.setIfInBounds i y) := fun z hz => by
  rcases Array.mem_or_eq_of_mem_setIfInBounds hz with h | rfl
  · exact x z h
  · exact hy
structure RepG (g₀ : Array GenState) (g : Array GenState) (gl : Gls) : Prop where
  size : g₀.size ≤ g.size
  own : ∀ (j : Nat) p, gl[j]? = some p → g[p.1]? = some p.2
  inj : ∀ (j k : Nat) p q, gl[j]? = some p → gl[k]? = some q → p.1 = q.1 → j = k
  keep : ∀ x y, g₀[x]? = some y → (∀ (j : Nat) p, gl[j]? = some p → p.1 ≠ x) → g[x]? = some y
  fine : ∀ (j : Nat) p, gl[j]? = some p → gFine p.2
  fresh : ∀ (j : Nat) p, gl[j]? = some p → g₀.size ≤ p.1
  bare : AllBare g₀ → AllBare g
theorem get_lt {α : Type} {g : Array α} {j : Nat} {x : α} (h : g[j]? = some x) : j < g.size := by
  rcases Nat.lt_or_ge j g.size with q | q
  · exact q
  · rw [Array.getElem?_eq_none_iff.mpr q] at h; cases h
theorem RepG.push {g₀ g : Array GenState} {gl : Gls} (D : RepG g₀ g gl) (c : Code) : RepG g₀ (g.push (.fresh c)) (gl ++ [(g.size, .fresh c)]) := by
  have cs : ∀ (j : Nat) p, (gl ++ [(g.size, GenState.fresh c)])[j]? = some p → gl[j]? = some p ∨ (j = gl.length ∧ p = (g.size, .fresh c)) := fun j p e => by
    rcases Nat.lt_or_ge j gl.length with q | q
    · rw [List.getElem?_append_left q] at e; exact .inl e
    · rw [List.getElem?_append_right q] at e
      have : j - gl.length = 0 := by
        rcases Nat.eq_zero_or_pos (j - gl.length) with z | z
        · exact z
        · rw [List.getElem?_eq_none (by rw [List.length_singleton]; exact z)] at e; cases e
      rw [this] at e
      exact .inr ⟨by omega, by simpa using e.symm⟩
  have lt : ∀ (j : Nat) p, gl[j]? = some p → p.1 < g.size := fun j p e => get_lt (D.own j p e)
  have up : ∀ x y, g[x]? = some y → (g.push (.fresh c))[x]? = some y := fun x y e => by
    rw [Array.getElem?_push_lt (get_lt e), ← e, Array.getElem?_eq_getElem (get_lt e)]
  refine ⟨by rw [Array.size_push]; exact Nat.le_succ_of_le D.size, fun j p e => ?_, fun j k p q ej ek pq => ?_, fun x y e hn => up _ _ (D.keep x y e fun j p ep => hn j p ?_), fun j p e => ?_, fun j p e => ?_, fun b => (D.bare b).push rfl⟩
  · rcases cs j p e with e | ⟨_, rfl⟩
    · exact up _ _ (D.own j p e)
    · exact Array.getElem?_push_size
  · rcases cs j p ej with ej | ⟨rfl, rfl⟩ <;> rcases cs k q ek with ek | ⟨rfl, rfl⟩
    · exact D.inj j k p q ej ek pq
    · exact absurd (lt _ _ ej) (by rw [pq]; exact Nat.lt_irrefl _)
    · exact absurd (lt _ _ ek) (by rw [← pq]; exact Nat.lt_irrefl _)
    · rfl
  · rw [List.getElem?_append_left]
    · exact ep
    · rcases Nat.lt_or_ge j gl.length with q | q
      · exact q
      · rw [List.getElem?_eq_none q] at ep; cases ep
  · rcases cs j p e with e | ⟨_, rfl⟩
    · exact D.fine j p e
    · exact trivial
  · rcases cs j p e with e | ⟨_, rfl⟩
    · exact D.fresh j p e
    · exact D.size
theorem RepG.set {g₀ g : Array GenState} {gl : Gls} (D : RepG g₀ g gl) {j : Nat} {p : Nat × GenState} (hj : gl[j]? = some p) {x : GenState} (hx : gFine x) : RepG g₀ (g.setIfInBounds p.1 x) (gl.set j (p.1, x)) := by
  have jl : j < gl.length := by
    rcases Nat.lt_or_ge j gl.length with q | q
    · exact q
    · rw [List.getElem?_eq_none q] at hj; cases hj
  have cs : ∀ (k : Nat) q, (gl.set j (p.1, x))[k]? = some q → (k = j ∧ q = (p.1, x)) ∨ (k ≠ j ∧ gl[k]? = some q) := fun k q e => by
    by_cases h : k = j
    · subst h
      rw [List.getElem?_set_self jl] at e
      exact .inl ⟨rfl, (Option.some.inj e).symm⟩
    · rw [List.getElem?_set_ne (Ne.symm h)] at e; exact .inr ⟨h, e⟩
  have ne : ∀ (y : Nat) z, y ≠ p.1 → g[y]? = some z → (g.setIfInBounds p.1 x)[y]? = some z := fun y z h e => by
    rw [Array.getElem?_setIfInBounds_ne (Ne.symm h)]; exact e
  refine ⟨by rw [Array.size_setIfInBounds]; exact D.size, fun k q e => ?_, fun k l q r ek el qr => ?_, fun y z e hn => ?_, fun k q e => ?_, fun k q e => ?_, fun b => bareSet (D.bare b) _ hx.bare⟩
  · rcases cs k q e with ⟨rfl, rfl⟩ | ⟨h, e⟩
    · exact Array.getElem?_setIfInBounds_self_of_lt (get_lt (D.own _ _ hj))
    · exact ne _ _ (fun q' => h (D.inj k j q p e hj q')) (D.own k q e)
  · rcases cs k q ek with ⟨a, b⟩ | ⟨h, ek'⟩ <;> rcases cs l r el with ⟨a', b'⟩ | ⟨h', el'⟩
    · rw [a, a']
    · rw [a]; exact D.inj _ _ p r hj el' (by rw [← qr, b])
    · rw [a']; exact D.inj _ _ q p ek' hj (by rw [qr, b'])
    · exact D.inj k l q r ek' el' qr
  · have hy : y ≠ p.1 := fun q => hn j (p.1, x) (by rw [List.getElem?_set_self jl]) q.symm
    refine ne _ _ hy (D.keep y z e fun k q ek => ?_)
    by_cases h : k = j
    · subst h; rw [hj] at ek; cases ek; exact Ne.symm hy
    · exact hn k q (by rw [List.getElem?_set_ne (Ne.symm h)]; exact ek)
  · rcases cs k q e with ⟨rfl, rfl⟩ | ⟨h, e⟩
    · exact hx
    · exact D.fine k q e
  · rcases cs k q e with ⟨_, hq⟩ | ⟨_, e⟩
    · rw [hq]; exact D.fresh j p hj
    · exact D.fresh k q e
theorem RepG.over {g₀ g g' : Array GenState} {gl : Gls} (D : RepG g₀ g gl) (hs : g.size ≤ g'.size) (hk : GK g g') : RepG g₀ g' gl :=
  ⟨Nat.le_trans D.size hs, fun j p e => hk.1 _ _ (D.own j p e), D.inj, fun x y e hn => hk.1 _ _ (D.keep x y e hn), D.fine, D.fresh, fun b => hk.2 (D.bare b)⟩
theorem RepG.start (g : Array GenState) : RepG g g [] :=
  ⟨Nat.le_refl _, fun j p e => by simp at e, fun j k p q e => by simp at e, fun x y e _ => e, fun j p e => by simp at e, fun j p e => by simp at e, id⟩
theorem RepG.out {g₀ g : Array GenState} {gl : Gls} (D : RepG g₀ g gl) (x : Nat) (y : GenState) (e : g₀[x]? = some y) : g[x]? = some y :=
  D.keep x y e fun j p h q => by
    have a := D.fresh j p h
    have b := get_lt e
    omega

theorem RepG.gk {g₀ g : Array GenState} {gl : Gls} (D : RepG g₀ g gl) : GK g₀ g := ⟨fun x y => D.out x y, D.bare⟩

/-! ## what the parts of a run must keep -/
structure Hyp (V : XV) (D : Par) (m₀ : Nat) (g₀ : Array GenState) (tk₀ : Nat) : Prop where
  prog : V.prog = D.prog
  P : V.w.params = D.P
  row : D.P = D.pT ∨ D.P = D.pF
  hand : V.A₀.handled = none
  depth : V.A₀.depth + D.bud < recursionLimit
  units : V.A₀.units + 2 * D.bud < cLine
  toks : 556 ≤ tk₀
  stc : (D.kt.get cStatics).isSome = true
  den : ∀ d c T ad rk p, D.den d c T ad rk = some p → Obs.ok p.2.2 → c.quiet = true ∧ cFine c ∧ ∀ md κ h g tk, mFine md κ → rk = roomK D.bud md κ → RepS V.h₀ m₀ D.kt h T → Means V c md κ p.1 ⟨h, g, V.d, tk, V.os⟩ → Means V c md κ (denote table c) ⟨h, g, V.d, tk, V.os⟩
  room : ∀ d u, D.room d = some u → ∃ f, u = .stack f ∧ ∀ A Q (s : Shared), s.heap.NoLimit → A.depth < recursionLimit → A.units < cLine → Q () s → wpAny (model V.prog V.w) A u Q (fun _ _ => False) s
  big : ∀ d c T m i ad b (β τ : Nat → Nat), D.big d c T m i ad = some b → Obs.ok (b.os (cut m β)) → c.quiet = true ∧ ∀ (A : Around) h g tk (R : Result → Shared → Prop), A.handled = none → A.depth + b.need < recursionLimit → A.units + 2 * b.need < cLine → RepS V.h₀ m₀ D.kt h T → tk₀ ≤ tk →
    (∀ (β' τ' : Nat → Nat) h' (g' : Array GenState) tk', (∀ x, x < m → β' x = β x) → (∀ x, x < i → τ' x = τ x) → RepS V.h₀ m₀ D.kt h' (b.st (cut (m + b.na) β') (cut (i + b.nt) τ')) → g.size ≤ g'.size → GK g g' → tk ≤ tk' →
      R (b.res (cut (m + b.na) β') (cut (i + b.nt) τ')) ⟨h', g', V.d, tk', V.os⟩) →
    codeAny (model V.prog V.w) A c R ⟨h, g, V.d, tk, V.os⟩

section
variable {V : XV} {D : Par} {m₀ : Nat} {g₀ : Array GenState} {tk₀ : Nat} (Y : Hyp V D m₀ g₀ tk₀)
  (rf : (Nat → Nat) → (Nat → Nat) → (Nat → Nat) → (Nat → Pos × Stk) → Result) (Tf : (Nat → Nat) → (Nat → Nat) → (Nat → Nat) → (Nat → Pos × Stk) → ST) (gf : (Nat → Nat) → (Nat → Nat) → (Nat → Nat) → (Nat → Pos × Stk) → Gls)

/-- the run ends as it should, whatever the names that are still to be drawn -/
noncomputable def Ends (ρ : (Nat → Nat) × (Nat → Nat) × (Nat → Nat) × (Nat → Pos × Stk)) (run : (Nat → Nat) → (Nat → Nat) → (Nat → Nat) → (Nat → Pos × Stk) → Out) (m i j q : Nat) : Prop :=
  ∀ β τ γ σ, (∀ x, x < m → β x = ρ.1 x) → (∀ x, x < i → τ x = ρ.2.1 x) → (∀ x, x < j → γ x = ρ.2.2.1 x) → (∀ x, x < q → σ x = ρ.2.2.2 x) →
    ∃ os', run β τ γ σ = .fin (rf β τ γ σ) (Tf β τ γ σ) (gf β τ γ σ) os' ∧ Obs.ok os'
end
/-! ## obligations are only ever added -/
section
variable {D : Par} {β τ γ : Nat → Nat} {σ : Nat → Pos × Stk}
noncomputable def Keeps (ih : SimTy) : Prop := ∀ c md κ t T m i ad cd q gl os r T' gl' os', ih c md κ t T m i ad cd q gl os = .fin r T' gl' os' → Obs.ok os' → Obs.ok os
theorem goC_ok {ih : SimTy} (IH : Keeps ih) {d c md κ T m i ad cd q gl os r T' gl' os'} (e : goC D ih d c md κ T m i ad cd q gl os = .fin r T' gl' os') (ok : Obs.ok os') : Obs.ok os ∧ ∃ p, D.den d c T ad (roomK D.bud md κ) = some p ∧ Obs.ok p.2.2 ∧ goC D ih d c md κ T m i ad cd q gl os = ih c md κ p.1 T m i p.2.1 cd q gl (p.2.2 ++ os) := by
  unfold goC at e ⊢
  cases h : D.den d c T ad (roomK D.bud md κ) with
  | none => rw [h] at e; cases e
  | some p =>
    rw [h] at e
    have z := Obs.ok_append (IH _ _ _ _ _ _ _ _ _ _ _ _ _ _ _ _ e ok)
    exact ⟨z.2, p, rfl, z.1, rfl⟩
theorem wakeR_ok {ih : SimTy} (IH : Keeps ih) {e κ T m i ad cd q gl os r T' gl' os'} (h : wakeR ih e κ T m i ad cd q gl os = .fin r T' gl' os') (ok : Obs.ok os') : Obs.ok os := by
  unfold wakeR at h
  split at h
  · cases h
  · cases κ with
    | base => cases h
    | ret => cases h
    | gen => exact (Obs.ok_cons (IH _ _ _ _ _ _ _ _ _ _ _ _ _ _ _ _ h ok)).2
    | genS => exact (Obs.ok_cons (IH _ _ _ _ _ _ _ _ _ _ _ _ _ _ _ _ h ok)).2
theorem retR_ok {ih : SimTy} (IH : Keeps ih) {e md κ T m i ad cd q gl os r T' gl' os'} (h : retR ih e md κ T m i ad cd q gl os = .fin r T' gl' os') (ok : Obs.ok os') : Obs.ok os := by
  unfold retR at h
  cases md with
  | none => cases κ with
    | base => cases h; exact ok
    | ret => exact IH _ _ _ _ _ _ _ _ _ _ _ _ _ _ _ _ h ok
    | gen => cases h
    | genS => cases h
  | some fs => cases fs with
    | nil => exact wakeR_ok IH h ok
    | cons f fs => cases f with
      | ret => exact IH _ _ _ _ _ _ _ _ _ _ _ _ _ _ _ _ h ok
      | gen => cases h
theorem bigC_ok {ih : SimTy} (IH : Keeps ih) {d len c' c md κ k T m i ad cd q gl os r T' gl' os'} (e : bigC D β τ ih d len c' c md κ k T m i ad cd q gl os = .fin r T' gl' os') (ok : Obs.ok os') : Obs.ok os ∧ ∃ b, D.big d c' T m i ad = some b ∧ Nat.ble (5 * len + b.need) D.bud = true ∧ Obs.ok (b.os (cut m β)) := by
  unfold bigC at e
  cases h : D.big d c' T m i ad with
  | none => rw [h] at e; cases e
  | some b =>
    rw [h] at e
    cases hb : Nat.ble (5 * len + b.need) D.bud with
    | false => simp only [hb] at e; cases e
    | true =>
      simp only [hb] at e
      have z := Obs.ok_append (IH _ _ _ _ _ _ _ _ _ _ _ _ _ _ _ _ e ok)
      exact ⟨z.2, b, rfl, hb, z.1⟩
theorem bigA_ok {ih : SimTy} (IH : Keeps ih) {d len c' κ T m i ad cd q gl os r T' gl' os'} (e : bigA D β τ ih d len c' κ T m i ad cd q gl os = .fin r T' gl' os') (ok : Obs.ok os') : Obs.ok os ∧ ∃ b, D.big d c' T m i ad = some b ∧ Nat.ble (5 * len + b.need) D.bud = true ∧ Obs.ok (b.os (cut m β)) := by
  unfold bigA at e
  cases h : D.big d c' T m i ad with
  | none => rw [h] at e; cases e
  | some b =>
    rw [h] at e
    cases hb : Nat.ble (5 * len + b.need) D.bud with
    | false => simp only [hb] at e; cases e
    | true =>
      simp only [hb] at e
      have z := Obs.ok_append (retR_ok IH e ok)
      exact ⟨z.2, b, rfl, hb, z.1⟩
theorem ownC_ok {ih : SimTy} (IH : Keeps ih) {c md κ a k T m i ad cd q gl os r T' gl' os'} (h : ownC ih c md κ a k T m i ad cd q gl os = .fin r T' gl' os') (ok : Obs.ok os') : Obs.ok os := by
  unfold ownC at h
  split at h
  · cases h
  · split at h
    · cases h
    · split at h
      · split at h
        · split at h
          · exact (Obs.ok_cons (Obs.ok_cons (Obs.ok_cons (Obs.ok_cons (Obs.ok_cons (IH _ _ _ _ _ _ _ _ _ _ _ _ _ _ _ _ h ok)).2).2).2).2).2
          · cases h
        · cases h
      · cases h
theorem simStep_ok {ih : SimTy} (IH : Keeps ih) : Keeps (simStep D β τ γ σ ih) := by
  intro c md κ t T m i ad cd q gl os r T' gl' os' h ok
  cases t with
  | pure fin => cases fin with
    | done f => exact retR_ok IH h ok
    | again c' =>
      simp only [simStep] at h
      split at h
      · exact (goC_ok IH h ok).1
      · split at h
        · cases h
        · exact (bigA_ok IH h ok).1
  | raise e => exact retR_ok IH h ok
  | rule => exact IH _ _ _ _ _ _ _ _ _ _ _ _ _ _ _ _ h ok
  | «at» => exact IH _ _ _ _ _ _ _ _ _ _ _ _ _ _ _ _ h ok
  | point => exact IH _ _ _ _ _ _ _ _ _ _ _ _ _ _ _ _ h ok
  | fresh => exact IH _ _ _ _ _ _ _ _ _ _ _ _ _ _ _ _ h ok
  | newGen => exact IH _ _ _ _ _ _ _ _ _ _ _ _ _ _ _ _ h ok
  | ask k =>
    simp only [simStep] at h
    split at h
    · exact IH _ _ _ _ _ _ _ _ _ _ _ _ _ _ _ _ h ok
    · exact (Obs.ok_cons (IH _ _ _ _ _ _ _ _ _ _ _ _ _ _ _ _ h ok)).2
  | load a p k =>
    simp only [simStep] at h
    split at h
    · split at h
      · exact IH _ _ _ _ _ _ _ _ _ _ _ _ _ _ _ _ h ok
      · cases h
    · split at h
      · exact ownC_ok IH h ok
      · split at h
        · exact (Obs.ok_cons (IH _ _ _ _ _ _ _ _ _ _ _ _ _ _ _ _ h ok)).2
        · cases h
  | loadIfAlive a k =>
    simp only [simStep] at h
    split at h
    · split at h
      · exact IH _ _ _ _ _ _ _ _ _ _ _ _ _ _ _ _ h ok
      · cases h
    · split at h
      · exact (Obs.ok_cons (IH _ _ _ _ _ _ _ _ _ _ _ _ _ _ _ _ h ok)).2
      · cases h
  | alloc o k =>
    simp only [simStep] at h
    split at h
    · cases h
    · split at h
      · cases h
      · split at h
        · cases h
        · exact IH _ _ _ _ _ _ _ _ _ _ _ _ _ _ _ _ h ok
  | update a p f k =>
    simp only [simStep] at h
    split at h
    · cases h
    · split at h
      · split at h
        · cases h
        · exact (Obs.ok_cons (IH _ _ _ _ _ _ _ _ _ _ _ _ _ _ _ _ h ok)).2
      · cases h
  | handled own k => cases own with
    | false => exact IH _ _ _ _ _ _ _ _ _ _ _ _ _ _ _ _ h ok
    | true => cases h
  | stack k =>
    simp only [simStep] at h
    split at h
    · exact IH _ _ _ _ _ _ _ _ _ _ _ _ _ _ _ _ h ok
    · split at h
      · cases h
      · split at h
        · cases h
        · split at h
          · cases h
          · exact (Obs.ok_cons (IH _ _ _ _ _ _ _ _ _ _ _ _ _ _ _ _ h ok)).2
  | call c' hd g l k =>
    simp only [simStep] at h
    split at h
    · cases h
    · split at h
      · exact (bigC_ok IH h ok).1
      · split at h
        · exact (goC_ok IH h ok).1
        · exact (goC_ok IH h ok).1
  | genState g k =>
    simp only [simStep] at h
    split at h
    · exact (Obs.ok_cons (IH _ _ _ _ _ _ _ _ _ _ _ _ _ _ _ _ h ok)).2
    · cases h
  | resume g x l k =>
    simp only [simStep] at h
    split at h
    · split at h
      · split at h
        · split at h
          · exact (Obs.ok_cons (goC_ok IH h ok).1).2
          · cases h
        · cases h
      · exact (Obs.ok_cons (IH _ _ _ _ _ _ _ _ _ _ _ _ _ _ _ _ h ok)).2
      · cases h
      · cases h
    · cases h
  | yield v gd l k =>
    cases md with
    | none => cases h
    | some fs => cases gd with
      | true => cases h
      | false =>
        simp only [simStep] at h
        split at h
        · cases h
        · split at h
          · cases h
          · exact wakeR_ok IH h ok
  | unsupported => cases h
  | finish => cases h
  | register => cases h
  | choose => cases h
  | os => cases h
  | fork => cases h
  | thread => cases h
  | await => cases h
theorem simS_ok : ∀ n, Keeps (simS D β τ γ σ n)
  | 0 => fun _ _ _ _ _ _ _ _ _ _ _ _ _ _ _ _ h _ => by cases h
  | n + 1 => by rw [simS_succ]; exact simStep_ok (simS_ok n)
end
noncomputable abbrev Nm := (Nat → Nat) × (Nat → Nat) × (Nat → Nat) × (Nat → Pos × Stk)
noncomputable def upd {α : Type} (f : Nat → α) (n : Nat) (v : α) : Nat → α := fun x => if x = n then v else f x
theorem upd_self {α : Type} (f : Nat → α) (n : Nat) (v : α) : upd f n v n = v := if_pos rfl
theorem upd_ne {α : Type} (f : Nat → α) {n x : Nat} (v : α) (h : x < n) : upd f n v x = f x := if_neg (Nat.ne_of_lt h)

section
variable {V : XV} {D : Par} {m₀ : Nat} {g₀ : Array GenState} {tk₀ : Nat}
  {rf : (Nat → Nat) → (Nat → Nat) → (Nat → Nat) → (Nat → Pos × Stk) → Result} {Tf : (Nat → Nat) → (Nat → Nat) → (Nat → Nat) → (Nat → Pos × Stk) → ST} {gf : (Nat → Nat) → (Nat → Nat) → (Nat → Nat) → (Nat → Pos × Stk) → Gls}
noncomputable abbrev Rn := (Nat → Nat) → (Nat → Nat) → (Nat → Nat) → (Nat → Pos × Stk) → Out
theorem Ends.at {ρ : Nm} {run : Rn} {m i j q : Nat} (H : Ends rf Tf gf ρ run m i j q) : ∃ os', run ρ.1 ρ.2.1 ρ.2.2.1 ρ.2.2.2 = .fin (rf ρ.1 ρ.2.1 ρ.2.2.1 ρ.2.2.2) (Tf ρ.1 ρ.2.1 ρ.2.2.1 ρ.2.2.2) (gf ρ.1 ρ.2.1 ρ.2.2.1 ρ.2.2.2) os' ∧ Obs.ok os' :=
  H _ _ _ _ (fun _ _ => rfl) (fun _ _ => rfl) (fun _ _ => rfl) (fun _ _ => rfl)
theorem Ends.same {ρ : Nm} {run run' : Rn} {m i j j' q : Nat} (H : Ends rf Tf gf ρ run m i j q) (hj : j' = j) (e : ∀ β τ γ σ, run β τ γ σ = run' β τ γ σ) : Ends rf Tf gf ρ run' m i j' q := fun β τ γ σ a b c d => by
  subst hj
  obtain ⟨o, h, k⟩ := H β τ γ σ a b c d
  exact ⟨o, (e β τ γ σ).symm.trans h, k⟩
theorem Ends.addr {ρ : Nm} {run run' : Rn} {m i j q : Nat} (H : Ends rf Tf gf ρ run m i j q) (v : Nat) (e : ∀ β τ γ σ, β m = v → run β τ γ σ = run' β τ γ σ) : Ends rf Tf gf (upd ρ.1 m v, ρ.2) run' (m + 1) i j q := fun β τ γ σ a b c d => by
  obtain ⟨o, h, k⟩ := H β τ γ σ (fun x hx => (a x (Nat.lt_succ_of_lt hx)).trans (upd_ne _ _ hx)) b c d
  exact ⟨o, (e β τ γ σ ((a m (Nat.lt_succ_self m)).trans (upd_self ..))).symm.trans h, k⟩
theorem Ends.tok {ρ : Nm} {run run' : Rn} {m i j q : Nat} (H : Ends rf Tf gf ρ run m i j q) (v : Nat) (e : ∀ β τ γ σ, τ i = v → run β τ γ σ = run' β τ γ σ) : Ends rf Tf gf (ρ.1, upd ρ.2.1 i v, ρ.2.2) run' m (i + 1) j q := fun β τ γ σ a b c d => by
  obtain ⟨o, h, k⟩ := H β τ γ σ a (fun x hx => (b x (Nat.lt_succ_of_lt hx)).trans (upd_ne _ _ hx)) c d
  exact ⟨o, (e β τ γ σ ((b i (Nat.lt_succ_self i)).trans (upd_self ..))).symm.trans h, k⟩
theorem Ends.gen {ρ : Nm} {run run' : Rn} {m i j j' q : Nat} (H : Ends rf Tf gf ρ run m i j q) (hj : j' = j + 1) (v : Nat) (e : ∀ β τ γ σ, γ j = v → run β τ γ σ = run' β τ γ σ) : Ends rf Tf gf (ρ.1, ρ.2.1, upd ρ.2.2.1 j v, ρ.2.2.2) run' m i j' q := fun β τ γ σ a b c d => by
  subst hj
  obtain ⟨o, h, k⟩ := H β τ γ σ a b (fun x hx => (c x (Nat.lt_succ_of_lt hx)).trans (upd_ne _ _ hx)) d
  exact ⟨o, (e β τ γ σ ((c j (Nat.lt_succ_self j)).trans (upd_self ..))).symm.trans h, k⟩
theorem Ends.pos {ρ : Nm} {run run' : Rn} {m i j q : Nat} (H : Ends rf Tf gf ρ run m i j q) (v : Pos × Stk) (e : ∀ β τ γ σ, σ q = v → run β τ γ σ = run' β τ γ σ) : Ends rf Tf gf (ρ.1, ρ.2.1, ρ.2.2.1, upd ρ.2.2.2 q v) run' m i j (q + 1) := fun β τ γ σ a b c d => by
  obtain ⟨o, h, k⟩ := H β τ γ σ a b c (fun x hx => (d x (Nat.lt_succ_of_lt hx)).trans (upd_ne _ _ hx))
  exact ⟨o, (e β τ γ σ ((d q (Nat.lt_succ_self q)).trans (upd_self ..))).symm.trans h, k⟩

noncomputable def Sound (V : XV) (D : Par) (m₀ : Nat) (g₀ : Array GenState) (tk₀ : Nat) (rf : (Nat → Nat) → (Nat → Nat) → (Nat → Nat) → (Nat → Pos × Stk) → Result) (Tf : (Nat → Nat) → (Nat → Nat) → (Nat → Nat) → (Nat → Pos × Stk) → ST) (gf : (Nat → Nat) → (Nat → Nat) → (Nat → Nat) → (Nat → Pos × Stk) → Gls) (n : Nat) : Prop :=
  ∀ c md κ t T m i ad cd q gl os ρ, Ends rf Tf gf ρ (fun β τ γ σ => simS D β τ γ σ n c md κ t T m i ad cd q gl os) m i gl.length q → cFine c → mFine md κ → ∀ h g tk, RepS V.h₀ m₀ D.kt h T → RepG g₀ g gl → tk₀ ≤ tk → Means V c md κ t ⟨h, g, V.d, tk, V.os⟩

variable (Y : Hyp V D m₀ g₀ tk₀)
  (hE : ∀ β τ γ σ h g tk, RepS V.h₀ m₀ D.kt h (Tf β τ γ σ) → RepG g₀ g (gf β τ γ σ) → tk₀ ≤ tk → V.R₀ (rf β τ γ σ) ⟨h, g, V.d, tk, V.os⟩)
  {n : Nat} (IH : Sound V D m₀ g₀ tk₀ rf Tf gf n)
theorem set_gens' (h : Heap) (g : Array GenState) (d : Drawn) (t : Nat) (os : OsState) (j : Nat) (x : GenState) : (⟨h, g, d, t, os⟩ : Shared).setGen j x = ⟨h, g.setIfInBounds j x, d, t, os⟩ := rfl

include Y IH
theorem goC_sound {d c md κ T m i ad cd q gl os ρ} (H : Ends rf Tf gf ρ (fun β τ γ σ => goC D (simS D β τ γ σ n) d c md κ T m i ad cd q gl os) m i gl.length q) (hm : mFine md κ) {h g tk} (R : RepS V.h₀ m₀ D.kt h T) (G : RepG g₀ g gl) (ht : tk₀ ≤ tk) :
    c.quiet = true ∧ Means V c md κ (denote table c) ⟨h, g, V.d, tk, V.os⟩ := by
  obtain ⟨o, e, ok⟩ := H.at
  obtain ⟨_, p, hp, okp, _⟩ := goC_ok (simS_ok n) e ok
  obtain ⟨a, b, z⟩ := Y.den _ _ _ _ _ _ hp okp
  refine ⟨a, z _ _ _ _ _ hm rfl R (IH c md κ p.1 T m i p.2.1 cd q gl (p.2.2 ++ os) ρ (H.same rfl fun β τ γ σ => by simp only [goC, hp]) b hm _ _ _ R G ht)⟩
omit Y in
theorem wakeR_sound {e κ T m i ad cd q gl os ρ} (H : Ends rf Tf gf ρ (fun β τ γ σ => wakeR (simS D β τ γ σ n) e κ T m i ad cd q gl os) m i gl.length q) (hm : kFine false κ) (he : gFine e.genState) {h g tk} (R : RepS V.h₀ m₀ D.kt h T) (G : RepG g₀ g gl) (ht : tk₀ ≤ tk) :
    wakeOf V κ e ⟨h, g, V.d, tk, V.os⟩ := by
  obtain ⟨o, eq, ok⟩ := H.at
  cases hp : gl[ad % 4096]? with
  | none => simp only [wakeR, hp] at eq; cases eq
  | some p =>
    cases κ with
    | base => simp only [wakeR, hp] at eq; cases eq
    | ret => simp only [wakeR, hp] at eq; cases eq
    | gen j c k κ =>
      simp only [wakeR, hp] at eq
      have ej : j = p.1 := by have := (Obs.ok_cons (simS_ok n _ _ _ _ _ _ _ _ _ _ _ _ _ _ _ _ eq ok)).1; injection this
      have z := IH c none κ (k e.result) T m i (ad / 4096) cd q (gl.set (ad % 4096) (p.1, e.genState)) ((.nat j, .nat p.1) :: os) ρ (H.same (List.length_set ..) fun β τ γ σ => by simp only [wakeR, hp]) hm.1 hm.2 h _ tk R (G.set hp he) ht
      rw [← ej] at z
      exact z
    | genS j c fs k κ =>
      simp only [wakeR, hp] at eq
      have ej : j = p.1 := by have := (Obs.ok_cons (simS_ok n _ _ _ _ _ _ _ _ _ _ _ _ _ _ _ _ eq ok)).1; injection this
      have z := IH c (some fs) κ (k e.result) T m i (ad / 4096) cd q (gl.set (ad % 4096) (p.1, e.genState)) ((.nat j, .nat p.1) :: os) ρ (H.same (List.length_set ..) fun β τ γ σ => by simp only [wakeR, hp]) hm.1 ⟨hm.2.2, hm.2.1⟩ h _ tk R (G.set hp he) ht
      rw [← ej] at z
      exact z
include hE
theorem endR_sound {r : Result} {κ T m i ad cd q gl os ρ} (H : Ends rf Tf gf ρ (fun β τ γ σ => retR (simS D β τ γ σ n) r none κ T m i ad cd q gl os) m i gl.length q) (hm : kFine true κ) {h g tk} (R : RepS V.h₀ m₀ D.kt h T) (G : RepG g₀ g gl) (ht : tk₀ ≤ tk) :
    endOf V κ r ⟨h, g, V.d, tk, V.os⟩ := by
  cases κ with
  | base =>
    obtain ⟨o, eq, ok⟩ := H.at
    simp only [retR] at eq
    injection eq with e1 e2 e3 e4
    rw [e2] at R; rw [e3] at G; rw [e1]
    exact hE _ _ _ _ _ _ _ R G ht
  | ret c₁ hd k κ => 
    obtain ⟨eh, hc, hk⟩ := hm
    exact IH _ _ _ _ _ _ _ _ _ _ _ _ ρ (H.same rfl fun β τ γ σ => rfl) hc hk h _ tk R G ht
  | gen => exact hm.elim
  | genS => exact hm.elim
theorem retR_sound {r : Result} {c md κ T m i ad cd q gl os ρ} {t : Sem Fin} (ht' : t = leafOf r) (H : Ends rf Tf gf ρ (fun β τ γ σ => retR (simS D β τ γ σ n) r md κ T m i ad cd q gl os) m i gl.length q) (hm : mFine md κ) {h g tk} (R : RepS V.h₀ m₀ D.kt h T) (G : RepG g₀ g gl) (ht : tk₀ ≤ tk) :
    Means V c md κ t ⟨h, g, V.d, tk, V.os⟩ := by
  cases md with
  | none =>
    have key : endOf V κ r ⟨h, g, V.d, tk, V.os⟩ := endR_sound Y hE IH H hm R G ht
    cases r with
    | ok f => subst ht'; exact y_pure _ _ _ _ _ _ _ _ _ (y_done _ _ _ _ _ _ key)
    | error e => subst ht'; exact y_raise _ _ _ _ _ _ _ _ _ (y_err _ _ _ key)
  | some fs =>
    cases fs with
    | nil => exact s_end _ _ _ _ _ _ r t ht' (wakeR_sound IH H hm.1 trivial R G ht)
    | cons f fs =>
      cases f with
      | ret k hd g' l c₁ p₁ kp =>
        obtain ⟨k', g'', l', c', p', kp', ef, hc⟩ := hm.2 _ (.head _)
        injection ef with e1 e2 e3 e4 e5 e6 e7
        subst e5
        exact s_pop _ _ _ _ _ _ _ r t ht' k hd g' l c₁ p₁ kp (IH _ _ _ _ _ _ _ _ _ _ _ _ ρ (H.same rfl fun β τ γ σ => rfl) hc ⟨hm.1, fun x hx => hm.2 x (.tail _ hx)⟩ h _ tk R G ht)
      | gen =>
        obtain ⟨k', g'', l', c', p', kp', ef, hc⟩ := hm.2 _ (.head _)
        cases ef
end
theorem obs_ok {D : Par} {β τ γ σ n c md κ t T m i ad cd q gl os r T' gl' os' x} (e : simS D β τ γ σ n c md κ t T m i ad cd q gl (x :: os) = .fin r T' gl' os') (ok : Obs.ok os') : x.1 = x.2 :=
  (Obs.ok_cons (simS_ok n _ _ _ _ _ _ _ _ _ _ _ _ _ _ _ _ e ok)).1
theorem nat_inj {a b : Nat} (e : Sd.nat a = Sd.nat b) : a = b := by injection e
theorem own_tree (a y : Addr) : ∃ p G, letOwnedTupleGo tgtO (.ref a) (.ref y) = .load a p G ∧ ∀ (n : String) d vs sl l, n = "enumerate" → vs.toList = Value.int (Int.ofNat y) 0 :: l → G ⟨.type n, d, .fields vs, sl⟩ = .rule "for.unpacks-the-owned-tuple" fun _ => updateField a 0 .none := by
  refine ⟨_, _, rfl, fun n d vs sl l hn hv => ?_⟩
  subst hn
  have h0 : vs[0]? = some (rawInt (Int.ofNat y)) := by
    rw [← Array.getElem?_toList, hv]
    rfl
  show (if (["enumerate", "zip", "dict_itemiterator", "dict_reverseitemiterator", "odict_iterator", "itertools.zip_longest", "itertools.pairwise"].contains "enumerate" && vs[0]? == some (rawInt y)) = true then _ else _) = _
  rw [h0, if_pos (by rw [Bool.and_eq_true]; exact ⟨by decide, beq_self_eq_true _⟩)]
  rfl
theorem lt4096 {x j : Nat} (e : x % 4096 = j + 1) : j < 4096 := by have := Nat.mod_lt x (show 4096 > 0 by decide); omega
theorem cut_eq {n : Nat} {f g : Nat → Nat} (h : ∀ x, x < n → f x = g x) : cut n f = cut n g := by
  funext x
  unfold cut
  cases hb : Nat.blt x n with
  | true => exact h x (blt_true hb)
  | false => rfl
section
variable {V : XV} {D : Par} {m₀ : Nat} {g₀ : Array GenState} {tk₀ : Nat}
  {rf : (Nat → Nat) → (Nat → Nat) → (Nat → Nat) → (Nat → Pos × Stk) → Result} {Tf : (Nat → Nat) → (Nat → Nat) → (Nat → Nat) → (Nat → Pos × Stk) → ST} {gf : (Nat → Nat) → (Nat → Nat) → (Nat → Nat) → (Nat → Pos × Stk) → Gls}
  (Y : Hyp V D m₀ g₀ tk₀)
  (hE : ∀ β τ γ σ h g tk, RepS V.h₀ m₀ D.kt h (Tf β τ γ σ) → RepG g₀ g (gf β τ γ σ) → tk₀ ≤ tk → V.R₀ (rf β τ γ σ) ⟨h, g, V.d, tk, V.os⟩)
  {n : Nat} (IH : Sound V D m₀ g₀ tk₀ rf Tf gf n)
include Y IH
theorem bigC_sound {d c' c md κ g' l k T m i ad cd q gl os ρ} (H : Ends rf Tf gf ρ (fun β τ γ σ => bigC D β τ (simS D β τ γ σ n) d (mLen md κ + 1) c' c md κ k T m i ad cd q gl os) m i gl.length q) (hc : cFine c) (hm : mFine md κ) {h g tk} (R : RepS V.h₀ m₀ D.kt h T) (G : RepG g₀ g gl) (ht : tk₀ ≤ tk) :
    Means V c md κ (.call c' none g' l k) ⟨h, g, V.d, tk, V.os⟩ := by
  obtain ⟨o, e, ok⟩ := H.at
  obtain ⟨_, b, hb, hbud, okb⟩ := bigC_ok (simS_ok n) e ok
  obtain ⟨hq, K⟩ := Y.big _ _ _ _ _ _ _ ρ.1 ρ.2.1 hb okb
  have hbud := Nat.le_of_ble_eq_true hbud
  refine mn_cmd (m := .call c' none g' l .pure) (k := k) (bind_wrap _ _) fun A hA => ?_
  obtain ⟨x, y⟩ := here_fine Y.hand hc hm hA
  have := Y.depth
  have := Y.units
  refine y_start Result V.prog V.w A _ _ ⟨h, g, V.d, tk, V.os⟩ c' none g' l Sem.pure (by intro e; cases e) (K _ h g tk _ ?_ ?_ ?_ R ht fun β' τ' h' g₁ tk' hβ hτ R' hs hk htk => ?_)
  · have := handled_fine (c := c) Y.hand hm
    subst hA
    cases md <;> exact this
  · show A.depth + _ < _; omega
  · show A.units + _ < _; omega
  · refine wpAny_pure (IH c md κ (k (b.res (cut (m + b.na) β') (cut (i + b.nt) τ'))) (b.st (cut (m + b.na) β') (cut (i + b.nt) τ')) (m + b.na) (i + b.nt) b.ad cd q gl (b.os (cut m β') ++ os) (β', τ', ρ.2.2) ?_ hc hm h' g₁ tk' R' (G.over hs hk) (Nat.le_trans ht htk))
    intro β₁ τ₁ γ₁ σ₁ eβ eτ eγ eσ
    obtain ⟨os', run, ok'⟩ := H β₁ τ₁ γ₁ σ₁ (fun x hx => (eβ x (Nat.lt_of_lt_of_le hx (Nat.le_add_right ..))).trans (hβ x hx)) (fun x hx => (eτ x (Nat.lt_of_lt_of_le hx (Nat.le_add_right ..))).trans (hτ x hx)) eγ eσ
    refine ⟨os', ?_, ok'⟩
    rw [← run]
    have e1 : cut (m + b.na) β₁ = cut (m + b.na) β' := cut_eq eβ
    have e2 : cut (i + b.nt) τ₁ = cut (i + b.nt) τ' := cut_eq eτ
    have e3 : Nat.ble (5 * (mLen md κ + 1) + b.need) D.bud = true := Nat.ble_eq_true_of_le hbud
    have e4 : cut m β₁ = cut m β' := cut_eq fun x hx => eβ x (Nat.lt_of_lt_of_le hx (Nat.le_add_right ..))
    simp only [bigC, hb, e3, e1, e2, e4]
include hE
theorem bigA_sound {d c' κ T m i ad cd q gl os ρ} (H : Ends rf Tf gf ρ (fun β τ γ σ => bigA D β τ (simS D β τ γ σ n) d (kLen true κ) c' κ T m i ad cd q gl os) m i gl.length q) (hm : kFine true κ) {h g tk} (R : RepS V.h₀ m₀ D.kt h T) (G : RepG g₀ g gl) (ht : tk₀ ≤ tk) :
    c'.quiet = true ∧ codeAny (model V.prog V.w) (aroundOf V true κ) c' (endOf V κ) ⟨h, g, V.d, tk, V.os⟩ := by
  obtain ⟨o, e, ok⟩ := H.at
  obtain ⟨_, b, hb, hbud, okb⟩ := bigA_ok (simS_ok n) e ok
  obtain ⟨hq, K⟩ := Y.big _ _ _ _ _ _ _ ρ.1 ρ.2.1 hb okb
  have hbud := Nat.le_of_ble_eq_true hbud
  obtain ⟨z, x, y⟩ := around_fine Y.hand hm
  have := Y.depth
  have := Y.units
  refine ⟨hq, K _ _ _ _ _ z (by omega) (by omega) R ht fun β' τ' h' g₁ tk' hβ hτ R' hs hk htk => ?_⟩
  refine endR_sound Y hE IH (T := b.st (cut (m + b.na) β') (cut (i + b.nt) τ')) (m := m + b.na) (i := i + b.nt) (ad := b.ad) (cd := cd) (q := q) (os := b.os (cut m β') ++ os) (ρ := (β', τ', ρ.2.2)) ?_ hm R' (G.over hs hk) (Nat.le_trans ht htk)
  intro β₁ τ₁ γ₁ σ₁ eβ eτ eγ eσ
  obtain ⟨os', run, ok'⟩ := H β₁ τ₁ γ₁ σ₁ (fun x hx => (eβ x (Nat.lt_of_lt_of_le hx (Nat.le_add_right ..))).trans (hβ x hx)) (fun x hx => (eτ x (Nat.lt_of_lt_of_le hx (Nat.le_add_right ..))).trans (hτ x hx)) eγ eσ
  have e1 : cut (m + b.na) β₁ = cut (m + b.na) β' := cut_eq eβ
  have e2 : cut (i + b.nt) τ₁ = cut (i + b.nt) τ' := cut_eq eτ
  have e3 : Nat.ble (5 * kLen true κ + b.need) D.bud = true := Nat.ble_eq_true_of_le hbud
  have e4 : cut m β₁ = cut m β' := cut_eq fun x hx => eβ x (Nat.lt_of_lt_of_le hx (Nat.le_add_right ..))
  simp only [bigA, hb, e3, e1, e2, e4] at run
  exact ⟨os', run, ok'⟩
theorem ownC_sound {c md κ a k p T m i ad cd q gl os ρ} (H : Ends rf Tf gf ρ (fun β τ γ σ => ownC (simS D β τ γ σ n) c md κ a k T m i ad cd q gl os) m i gl.length q) (hc : cFine c) (hm : mFine md κ) {h g tk} (R : RepS V.h₀ m₀ D.kt h T) (G : RepG g₀ g gl) (ht : tk₀ ≤ tk) : Means V c md κ (.load a p k) ⟨h, g, V.d, tk, V.os⟩ := by
  obtain ⟨o₀, eq, ok⟩ := H.at
  unfold ownC at eq
  split at eq
  · cases eq
  · rename_i x hx
    split at eq
    · cases eq
    · rename_i y hy
      split at eq
      · rename_i xa nn d vs sl
        split at eq
        · rename_i z t l hv
          split at eq
          · rename_i target it body orelse env
            have e1 := nat_inj (obs_ok eq ok)
            have ok2 := simS_ok n _ _ _ _ _ _ _ _ _ _ _ _ _ _ _ _ eq ok
            obtain ⟨_, ok2⟩ := Obs.ok_cons ok2
            obtain ⟨e2, ok2⟩ := Obs.ok_cons ok2
            obtain ⟨e3, ok2⟩ := Obs.ok_cons ok2
            obtain ⟨e4, ok2⟩ := Obs.ok_cons ok2
            obtain ⟨e5, _⟩ := Obs.ok_cons ok2
            have e2 := nat_inj e2
            have e3 := nat_inj e3
            have e4 : nn = "enumerate" := Sd.str.inj e4
            have e5 : k = ldOf (ownX (Fast.tw1578499551869305889 tgtO (.ref a) (.ref y.1)) target it (.ref y.1) body orelse env) := Sd.kfn.inj e5
            rw [← Fast.te1578499551869305889] at e5
            obtain ⟨p', G', hG, hG2⟩ := own_tree a y.1
            rw [hG] at e5
            have e6 : k ⟨.type nn, d, .fields vs, sl⟩ = .rule "for.unpacks-the-owned-tuple" fun _ => ownX (updateField a 0 .none) target it (.ref y.1) body orelse env := by
              have := congrFun e5 ⟨.type nn, d, .fields vs, sl⟩
              rw [this]
              show ownX (G' ⟨.type nn, d, .fields vs, sl⟩) target it (.ref y.1) body orelse env = _
              rw [hG2 nn d vs sl l e4 (by rw [hv, e2, e3])]
              rfl
            refine mn_load (o := ⟨.type nn, d, .fields vs, sl⟩) (by rw [e1]; exact R.own _ _ _ hx) ?_
            rw [e6]
            refine mn_rule ?_
            refine mn_eq ?_ (IH (.forLoop target it body orelse env) md κ (ownX (Fast.tw12367529300394763782 a 0 .none) target it (.ref y.1) body orelse env) T m i (ad / 4096 / 4096) cd q gl ((.nat a, .nat xa) :: (.nat z, .nat y.1) :: (.nat t, .nat 0) :: (.str nn, .str "enumerate") :: (.kfn k, .kfn (ldOf (ownX (Fast.tw1578499551869305889 tgtO (.ref a) (.ref y.1)) target it (.ref y.1) body orelse env))) :: os) ρ (H.same rfl fun β τ γ σ => by simp only [ownC, hx, hy, hv]) hc hm h g tk R G ht)
            rw [← Fast.te12367529300394763782]
          · cases eq
        · cases eq
      · cases eq
theorem step_sound : Sound V D m₀ g₀ tk₀ rf Tf gf (n + 1) := by
  intro c md κ t T m i ad cd q gl os ρ H hc hm h g tk R G ht
  replace H : Ends rf Tf gf ρ (fun β τ γ σ => simStep D β τ γ σ (simS D β τ γ σ n) c md κ t T m i ad cd q gl os) m i gl.length q := H.same rfl fun β τ γ σ => by rw [simS_succ]
  obtain ⟨o₀, eq, ok⟩ := H.at
  cases t with
  | pure fin =>
    cases fin with
    | done f => exact retR_sound Y hE IH rfl H hm R G ht
    | again c' =>
      cases hl : Nat.blt (cd % 256) 200 with
      | true =>
        obtain ⟨a, z⟩ := goC_sound Y IH (H.same rfl (fun β τ γ σ => by simp only [simStep, hl]) : Ends rf Tf gf ρ (fun β τ γ σ => goC D (simS D β τ γ σ n) (cd % 256) c' md κ T m i ad (cd / 256) q gl os) m i gl.length q) hm R G ht
        exact mn_again a z
      | false =>
        cases md with
        | some fs => simp only [simStep, hl] at eq; cases eq
        | none =>
          obtain ⟨a, z⟩ := bigA_sound Y hE IH (H.same rfl (fun β τ γ σ => by simp only [simStep, hl]) : Ends rf Tf gf ρ (fun β τ γ σ => bigA D β τ (simS D β τ γ σ n) (cd % 256 - 200) (kLen true κ) c' κ T m i ad (cd / 256) q gl os) m i gl.length q) hm R G ht
          exact y_pure _ _ _ _ _ _ _ _ _ (y_again _ _ _ _ _ _ a z)
  | raise e => exact retR_sound Y hE IH rfl H hm R G ht
  | rule tag k => exact mn_rule (IH _ _ _ _ _ _ _ _ _ _ _ _ ρ H hc hm h g tk R G ht)
  | «at» p k => exact mn_at (IH _ _ _ _ _ _ _ _ _ _ _ _ ρ H hc hm h g tk R G ht)
  | point l k => exact mn_point (IH _ _ _ _ _ _ _ _ _ _ _ _ ρ H hc hm h g tk R G ht)
  | ask k =>
    refine mn_ask ?_
    rw [Y.prog, Y.P]
    cases hd : cd % 256 with
    | zero => exact IH c md κ _ T m i ad (cd / 256) q gl os ρ (H.same rfl fun β τ γ σ => by simp only [simStep, hd]) hc hm h g tk R G ht
    | succ d =>
      simp only [simStep, hd] at eq
      have ob := obs_ok eq ok
      have z := IH c md κ (k ⟨D.prog, D.pT⟩) T m i ad (cd / 256) q gl ((.tree (k ⟨D.prog, D.pT⟩), .tree (k ⟨D.prog, D.pF⟩)) :: os) ρ (H.same rfl fun β τ γ σ => by simp only [simStep, hd]) hc hm h g tk R G ht
      have ob' : k ⟨D.prog, D.pT⟩ = k ⟨D.prog, D.pF⟩ := by injection ob
      rcases Y.row with e | e
      · rw [e]; exact z
      · rw [e, ← ob']; exact z
  | load a p k =>
    cases hd : ad % 4096 with
    | zero =>
      cases hk : D.kt.get a with
      | none => simp only [simStep, hd, hk] at eq; cases eq
      | some o => exact mn_load (R.stat _ _ hk) (IH c md κ (k o) T m i (ad / 4096) cd q gl os ρ (H.same rfl fun β τ γ σ => by simp only [simStep, hd, hk]) hc hm h g tk R G ht)
    | succ j =>
      cases hb : Nat.beq j 4094 with
      | true => exact ownC_sound Y hE IH (H.same rfl (fun β τ γ σ => by simp only [simStep, hd, hb]) : Ends rf Tf gf ρ (fun β τ γ σ => ownC (simS D β τ γ σ n) c md κ a k T m i (ad / 4096) cd q gl os) m i gl.length q) hc hm R G ht
      | false =>
      cases hk : T.get j with
      | none => simp only [simStep, hd, hb, hk] at eq; cases eq
      | some x =>
        simp only [simStep, hd, hb, hk] at eq
        have ob := nat_inj (obs_ok eq ok)
        exact mn_load (o := x.2) (by rw [ob]; exact R.own j x.1 x.2 hk) (IH c md κ (k x.2) T m i (ad / 4096) cd q gl ((.nat a, .nat x.1) :: os) ρ (H.same rfl fun β τ γ σ => by simp only [simStep, hd, hb, hk]) hc hm h g tk R G ht)
  | loadIfAlive a k =>
    cases hd : ad % 4096 with
    | zero =>
      cases hk : D.kt.get a with
      | none => simp only [simStep, hd, hk] at eq; cases eq
      | some o => exact mn_alive (R.stat _ _ hk) (IH c md κ (k (some o)) T m i (ad / 4096) cd q gl os ρ (H.same rfl fun β τ γ σ => by simp only [simStep, hd, hk]) hc hm h g tk R G ht)
    | succ j =>
      cases hk : T.get j with
      | none => simp only [simStep, hd, hk] at eq; cases eq
      | some x =>
        simp only [simStep, hd, hk] at eq
        have ob := nat_inj (obs_ok eq ok)
        exact mn_alive (o := x.2) (by rw [ob]; exact R.own j x.1 x.2 hk) (IH c md κ (k (some x.2)) T m i (ad / 4096) cd q gl ((.nat a, .nat x.1) :: os) ρ (H.same rfl fun β τ γ σ => by simp only [simStep, hd, hk]) hc hm h g tk R G ht)
  | alloc o k =>
    cases hf : o.isFreed with
    | true => simp only [simStep, hf] at eq; cases eq
    | false =>
      cases hb : Nat.blt m 4096 with
      | false => simp only [simStep, hf, hb] at eq; cases eq
      | true =>
        cases hk : T.get m with
        | some x => simp only [simStep, hf, hb, hk] at eq; cases eq
        | none =>
          have R' := R.alloc (blt_true hb) hk hf
          have hs : h.objs.size - 259 + 259 = h.objs.size := Nat.sub_add_cancel R.big
          exact mn_alloc (IH c md κ (k h.objs.size) (T.put 4096 m (h.objs.size, o)) (m + 1) i ad cd q gl os _ (H.addr (h.objs.size - 259) fun β τ γ σ hv => by simp only [simStep, hf, hb, hk, hv, hs]) hc hm (h.push o) g tk R' G ht)
  | update a p f k =>
    cases hd : ad % 4096 with
    | zero => simp only [simStep, hd] at eq; cases eq
    | succ j =>
      cases hk : T.get j with
      | none => simp only [simStep, hd, hk] at eq; cases eq
      | some x =>
        cases hf : (f x.2).isFreed with
        | true => simp only [simStep, hd, hk, hf] at eq; cases eq
        | false =>
          simp only [simStep, hd, hk, hf] at eq
          have ob := nat_inj (obs_ok eq ok)
          have na : x.1 ≠ cStatics := fun e => by
            have := R.apart j x.1 x.2 hk
            rw [e] at this
            have s := Y.stc
            rw [this] at s; cases s
          exact mn_update (o := x.2) (by rw [ob]; exact R.own j x.1 x.2 hk) (by rw [ob]; exact (IH c md κ (k ()) (T.put 4096 j (x.1, f x.2)) m i (ad / 4096) cd q gl ((.nat a, .nat x.1) :: os) ρ (H.same rfl fun β τ γ σ => by simp only [simStep, hd, hk, hf]) hc hm _ g tk (R.update (lt4096 hd) hk hf na) G ht))
  | fresh k =>
    have hs : tk - 556 + 556 = tk := Nat.sub_add_cancel (Nat.le_trans Y.toks ht)
    exact mn_fresh (IH c md κ (k tk) T m (i + 1) ad cd q gl os _ (H.tok (tk - 556) fun β τ γ σ hv => by simp only [simStep, hv, hs]) hc hm h g (tk + 1) R G (Nat.le_succ_of_le ht))
  | handled own k =>
    cases own with
    | true => simp only [simStep] at eq; cases eq
    | false =>
      refine mn_handled ?_
      rw [handled_fine Y.hand hm]
      exact IH c md κ (k none) T m i ad cd q gl os ρ H hc hm h g tk R G ht
  | stack k =>
    cases hd : cd % 256 with
    | zero =>
      exact mn_stack fun p below => IH c md κ (k ((c, p) :: below)) T m i ad (cd / 256) (q + 1) gl os _ (H.pos (p, below) fun β τ γ σ hv => by simp only [simStep, hd, hv]) hc hm h g tk R G ht
    | succ d =>
      cases hl : Nat.ble (5 * (mLen md κ + 1)) D.bud with
      | false => simp only [simStep, hd, hl] at eq; cases eq
      | true =>
        cases hr : D.room d with
        | none => simp only [simStep, hd, hl, hr] at eq; cases eq
        | some u =>
          have hlen : 5 * (mLen md κ + 1) ≤ D.bud := Nat.le_of_ble_eq_true hl
          obtain ⟨f, hu, wu⟩ := Y.room _ _ hr
          have put : ∀ t₂ : Sem Fin, k = stkOf (PySem.W.R.bindR u fun _ => t₂) → Means V c md κ t₂ ⟨h, g, V.d, tk, V.os⟩ → Means V c md κ (.stack k) ⟨h, g, V.d, tk, V.os⟩ := fun t₂ e z => by
            have e' : (.stack k : Sem Fin) = u.bind fun _ => t₂ := by rw [e, ← PySem.W.R.bindR_eq, hu]; rfl
            rw [e']
            refine mn_cmd (bind_wrap _ _) fun A hA => ?_
            obtain ⟨x, y⟩ := here_fine Y.hand hc hm hA
            have := Y.depth
            have := Y.units
            exact wu _ _ _ R.lim (by omega) (by omega) z
          cases hx : restOf D.kt d (k [(c, ⟨0, 0, 0, 0⟩)]) with
          | none => simp only [simStep, hd, hl, hr, hx] at eq; cases eq
          | some t₂ =>
            simp only [simStep, hd, hl, hr, hx] at eq
            have ob := obs_ok eq ok
            exact put t₂ (by injection ob) (IH c md κ t₂ T m i ad (cd / 256) q gl ((.fn k, .fn (stkOf (PySem.W.R.bindR u fun _ => t₂))) :: os) ρ (H.same rfl fun β τ γ σ => by simp only [simStep, hd, hl, hr, hx]) hc hm h g tk R G ht)
  | call c' hd g' l k =>
    cases hd with
    | some v => simp only [simStep, noneB] at eq; cases eq
    | none =>
     cases hl : Nat.blt (cd % 256) 200 with
     | false => exact bigC_sound Y IH (H.same rfl (fun β τ γ σ => by simp only [simStep, noneB, hl]) : Ends rf Tf gf ρ (fun β τ γ σ => bigC D β τ (simS D β τ γ σ n) (cd % 256 - 200) (mLen md κ + 1) c' c md κ k T m i ad (cd / 256) q gl os) m i gl.length q) hc hm R G ht
     | true =>
      cases md with
      | none =>
        obtain ⟨_, z⟩ := goC_sound Y IH (H.same rfl fun β τ γ σ => by simp only [simStep, noneB, hl] : Ends rf Tf gf ρ (fun β τ γ σ => goC D (simS D β τ γ σ n) (cd % 256) c' none (.ret c none k κ) T m i ad (cd / 256) q gl os) m i gl.length q) ⟨rfl, hc, hm⟩ R G ht
        exact y_call _ _ _ _ _ _ _ _ _ _ _ _ _ (by intro e; cases e) (y_code _ _ _ _ _ _ z)
      | some fs =>
        exact s_call _ _ _ _ _ _ _ _ _ _ _ _ fun p => by
          have H' := H.pos (run' := fun β τ γ σ => goC D (simS D β τ γ σ n) (cd % 256) c' (some (.ret k none g' l c p [] :: fs)) κ T m i ad (cd / 256) (q + 1) gl os) (p, []) fun β τ γ σ hv => by simp only [simStep, noneB, hl, hv]
          exact (goC_sound Y IH H' ⟨hm.1, fun x hx => by
            rcases List.mem_cons.mp hx with rfl | hx
            · exact ⟨k, g', l, c, p, [], rfl, hc⟩
            · exact hm.2 x hx⟩ R G ht).2
  | newGen c' k =>
    exact mn_newGen (IH c md κ (k g.size) T m i ad cd q (gl ++ [(g.size, .fresh c')]) os _ (H.gen (List.length_append ..) g.size fun β τ γ σ hv => by simp only [simStep, hv]) hc hm h _ tk R (G.push c') ht)
  | genState j k =>
    cases hk : gl[ad % 4096]? with
    | none => simp only [simStep, hk] at eq; cases eq
    | some p =>
      simp only [simStep, hk] at eq
      have ob := nat_inj (obs_ok eq ok)
      exact mn_genState (x := p.2) (by rw [ob]; exact G.own _ _ hk) (IH c md κ (k p.2.seen) T m i (ad / 4096) cd q gl ((.nat j, .nat p.1) :: os) ρ (H.same rfl fun β τ γ σ => by simp only [simStep, hk]) hc hm h g tk R G ht)
  | resume j r l k =>
    cases hk : gl[ad % 4096]? with
    | none => simp only [simStep, hk] at eq; cases eq
    | some p =>
      obtain ⟨j', st⟩ := p
      have mk : mFine (some ([] : List Frame)) (resK md j c k κ) := by
        cases md with
        | none => exact ⟨⟨hc, hm⟩, fun _ hx => nomatch hx⟩
        | some fs => exact ⟨⟨hc, hm.2, hm.1⟩, fun _ hx => nomatch hx⟩
      cases st with
      | fresh c₀ =>
        cases r with
        | throw => simp only [simStep, hk] at eq; cases eq
        | send v =>
          cases v with
          | none =>
            simp only [simStep, hk] at eq
            obtain ⟨okc, _⟩ := goC_ok (simS_ok n) eq ok
            have ob : j = j' := nat_inj (Obs.ok_cons okc).1
            subst ob
            have hg := G.own _ _ hk
            have z := (goC_sound Y IH (H.same (List.length_set ..) fun β τ γ σ => by simp only [simStep, hk] : Ends rf Tf gf ρ (fun β τ γ σ => goC D (simS D β τ γ σ n) (cd % 256) c₀ (some []) (resK md j c k κ) T m i (ad / 4096) (cd / 256) q (gl.set (ad % 4096) (j, .running)) ((.nat j, .nat j) :: os)) m i (List.length (gl.set (ad % 4096) (j, .running))) q) mk R (G.set (x := .running) hk trivial) ht).2
            cases md with
            | none => exact y_resume_f _ _ _ _ _ _ _ _ _ _ _ _ hg z
            | some fs => exact s_resume_f _ _ _ _ _ _ _ _ _ _ _ hg z
          | _ => simp only [simStep, hk] at eq; cases eq
      | suspended k₀ l₀ c₀ p₀ fs₀ cl =>
        simp only [simStep, hk] at eq
        have ob : j = j' := nat_inj (obs_ok eq ok)
        subst ob
        have hg := G.own _ _ hk
        obtain ⟨f1, f2, _⟩ : cFine c₀ ∧ fsFine fs₀ ∧ cl = false := G.fine _ _ hk
        have z := IH c₀ (some fs₀) (resK md j c k κ) (k₀ r) T m i (ad / 4096) cd q (gl.set (ad % 4096) (j, .running)) ((.nat j, .nat j) :: os) ρ (H.same (List.length_set ..) fun β τ γ σ => by simp only [simStep, hk]) f1 ⟨mk.1, f2⟩ h _ tk R (G.set (x := .running) hk trivial) ht
        cases md with
        | none => exact y_resume_s _ _ _ _ _ _ _ _ _ _ _ _ _ _ _ _ _ _ hg z
        | some fs => exact s_resume_s _ _ _ _ _ _ _ _ _ _ _ _ _ _ _ _ _ hg z
      | running => simp only [simStep, hk] at eq; cases eq
      | finished => simp only [simStep, hk] at eq; cases eq
  | yield v gd l k =>
    cases md with
    | none => simp only [simStep] at eq; cases eq
    | some fs =>
      cases gd with
      | true => simp only [simStep] at eq; cases eq
      | false =>
        cases hfs : splitAtGen fs with
        | some _ => simp only [simStep, hfs] at eq; cases eq
        | none =>
          cases hfg : fs.any Frame.guarded with
          | true => simp only [simStep, hfs, hfg] at eq; cases eq
          | false =>
            refine s_yield _ _ _ _ _ _ _ _ _ _ hfs hfg fun p => ?_
            have H' := H.pos (run' := fun β τ γ σ => wakeR (simS D β τ γ σ n) (.susp v false l k c p fs) κ T m i ad cd (q + 1) gl os) (p, []) fun β τ γ σ hv => by simp only [simStep, hfs, hfg, hv]
            exact wakeR_sound IH H' hm.1 ⟨hc, hm.2, hfg⟩ R G ht
  | unsupported => simp only [simStep] at eq; cases eq
  | finish => simp only [simStep] at eq; cases eq
  | register => simp only [simStep] at eq; cases eq
  | choose => simp only [simStep] at eq; cases eq
  | os => simp only [simStep] at eq; cases eq
  | fork => simp only [simStep] at eq; cases eq
  | thread => simp only [simStep] at eq; cases eq
  | await => simp only [simStep] at eq; cases eq
end
theorem simS_sound {V : XV} {D : Par} {m₀ : Nat} {g₀ : Array GenState} {tk₀ : Nat}
    {rf : (Nat → Nat) → (Nat → Nat) → (Nat → Nat) → (Nat → Pos × Stk) → Result} {Tf : (Nat → Nat) → (Nat → Nat) → (Nat → Nat) → (Nat → Pos × Stk) → ST} {gf : (Nat → Nat) → (Nat → Nat) → (Nat → Nat) → (Nat → Pos × Stk) → Gls}
    (Y : Hyp V D m₀ g₀ tk₀)
    (hE : ∀ β τ γ σ h g tk, RepS V.h₀ m₀ D.kt h (Tf β τ γ σ) → RepG g₀ g (gf β τ γ σ) → tk₀ ≤ tk → V.R₀ (rf β τ γ σ) ⟨h, g, V.d, tk, V.os⟩) : ∀ n, Sound V D m₀ g₀ tk₀ rf Tf gf n
  | 0 => fun _ _ _ _ _ _ _ _ _ _ _ _ _ H _ _ _ _ _ _ _ _ => by obtain ⟨_, e, _⟩ := H.at; cases e
  | n + 1 => step_sound Y hE (simS_sound Y hE n)
/-! ## one equation of the run with itself -/
noncomputable abbrev Half := Option (Result × ST × Gls × List Sd)
noncomputable def Out.one : Out → Half
  | .fin r T gl os => some (r, T, gl, os.map (·.1))
  | .bad _ => none
noncomputable def Out.two (r : Result) (T : ST) (gl : Gls) : Out → Half
  | .fin _ _ _ os => some (r, T, gl, os.map (·.2))
  | .bad _ => some (r, T, gl, [])
theorem Out.ends {x : Out} {r : Result} {T : ST} {gl : Gls} (h : x.one = x.two r T gl) : ∃ os, x = .fin r T gl os ∧ Obs.ok os := by
  cases x with
  | bad n => simp [Out.one, Out.two] at h
  | fin r' T' gl' os =>
    simp only [Out.one, Out.two, Option.some.injEq, Prod.mk.injEq] at h
    obtain ⟨rfl, rfl, rfl, h⟩ := h
    exact ⟨os, rfl, Obs.ok_of h⟩

/-! ## codes -/
theorem quiet_of {c : Code} (h : ∀ id a, c ≠ .builtin id a) : c.quiet = true := by
  cases c <;> first | exact absurd rfl (h _ _) | rfl | simp [Code.quiet, Thread.loud, Thread.atCollectorCode, Thread.yieldsInsideHandler, Thread.atExit]
theorem fine_of {c : Code} (h : ∀ id a, c ≠ .builtin id a) : cFine c := by
  cases c <;> first | exact absurd rfl (h _ _) | rfl
theorem den_eq (c : Code) : Fast.tw11892475500146522536 Fast.tw14364793385576792824 c = denote table c := by
  rw [← Fast.te11892475500146522536, ← Fast.te14364793385576792824]
  rw [show table = treeTable from table_eq_tree]
noncomputable def roomM (d : Nat) : Option (Sem Unit) := match d with
  | 0 => some (Fast.tw15066281185411960212 0)
  | d + 1 => match d with
    | 0 => some Fast.tw3139746846981162851
    | d + 1 => match d with
      | 0 => some (Fast.tw10648789137845014744 "call")
      | _ + 1 => some (Fast.tw10648789137845014744 "str.__new__")
theorem stack_enter : ∃ f, enterFrame 0 = .stack f := ⟨_, rfl⟩
theorem stack_wake : ∃ f, roomToWake = .stack f := ⟨_, rfl⟩
theorem stack_c (w : String) : ∃ f, cRoom w = .stack f := ⟨_, rfl⟩
theorem roomM_ok {V : XV} (d : Nat) (u : Sem Unit) (h : roomM d = some u) : ∃ f, u = .stack f ∧ ∀ A Q (s : Shared), s.heap.NoLimit → A.depth < recursionLimit → A.units < cLine → Q () s → wpAny (model V.prog V.w) A u Q (fun _ _ => False) s := by
  have c : ∀ w, ∃ f, cRoom w = .stack f ∧ ∀ A Q (s : Shared), s.heap.NoLimit → A.depth < recursionLimit → A.units < cLine → Q () s → wpAny (model V.prog V.w) A (cRoom w) Q (fun _ _ => False) s := fun w => by
    obtain ⟨f, hf⟩ := stack_c w
    exact ⟨f, hf, fun A Q s _ _ hu q => wpAny_cRoom hu q⟩
  match d with
  | 0 =>
    have e : u = enterFrame 0 := by rw [Fast.te15066281185411960212]; exact (Option.some.inj h).symm
    obtain ⟨f, hf⟩ := stack_enter
    exact ⟨f, e.trans hf, fun A Q s hl hd _ q => e ▸ wpAny_enterFrame hl hd q⟩
  | 1 =>
    have e : u = roomToWake := by rw [Fast.te3139746846981162851]; exact (Option.some.inj h).symm
    obtain ⟨f, hf⟩ := stack_wake
    exact ⟨f, e.trans hf, fun A Q s hl hd _ q => e ▸ wpAny_roomToWake hl hd q⟩
  | 2 =>
    have e : u = cRoom "call" := by rw [Fast.te10648789137845014744]; exact (Option.some.inj h).symm
    rw [e]; exact c _
  | n + 3 =>
    have e : u = cRoom "str.__new__" := by rw [Fast.te10648789137845014744]; exact (Option.some.inj h).symm
    rw [e]; exact c _
theorem fine_builtin {id : String} {a : Args} (h : id ≠ "claim.caller") : cFine (.builtin id a) := by
  unfold cFine Code.isCaller
  split
  · rename_i e; injection e with e; exact absurd e h
  · rfl
noncomputable def idsOk (ids : List String) : Bool := ids.all fun s => !(s == "claim.caller") && !s.startsWith "lifetime."
theorem idsOk_get {ids : List String} (h : idsOk ids = true) {n : Nat} {s : String} (e : ids[n]? = some s) : s ≠ "claim.caller" ∧ s.startsWith "lifetime." = false := by
  have := List.all_eq_true.mp h s (List.mem_of_getElem? e)
  simpa using this
noncomputable abbrev DenTy := Code → ST → Nat → Bool → Option (Sem Fin × Nat × Obs)
noncomputable def denM (ids : List String) (rule : Nat → DenTy) (d : Nat) (c : Code) (T : ST) (ad : Nat) (rk : Bool) : Option (Sem Fin × Nat × Obs) := match d with
  | 0 => match c with
    | .builtin .. => none
    | c => some (Fast.tw11892475500146522536 Fast.tw14364793385576792824 c, ad, [])
  | d + 1 => match Nat.blt d 150 with
    | true => match nthO ids d with
      | some lit => match c with
        | .builtin id args => some (Fast.tw11892475500146522536 Fast.tw14364793385576792824 (.builtin id args), ad, [(.str id, .str lit)])
        | _ => none
      | none => none
    | false => rule (d - 150) c T ad rk
noncomputable def RuleOk (V : XV) (kt : KT) (bud m₀ : Nat) (rule : Nat → DenTy) : Prop :=
  ∀ d c T ad rk p, rule d c T ad rk = some p → Obs.ok p.2.2 → c.quiet = true ∧ cFine c ∧ ∀ md κ h g tk, mFine md κ → rk = roomK bud md κ → RepS V.h₀ m₀ kt h T → Means V c md κ p.1 ⟨h, g, V.d, tk, V.os⟩ → Means V c md κ (denote table c) ⟨h, g, V.d, tk, V.os⟩
theorem denM_ok {V : XV} {kt : KT} {bud m₀ : Nat} {ids : List String} {rule : Nat → DenTy} (hi : idsOk ids = true) (hr : RuleOk V kt bud m₀ rule) : RuleOk V kt bud m₀ (denM ids rule) := by
  intro d c T ad rk p h ok
  match d with
  | 0 =>
    have key : (∀ id a, c ≠ .builtin id a) → denM ids rule 0 c T ad rk = some (Fast.tw11892475500146522536 Fast.tw14364793385576792824 c, ad, []) → c.quiet = true ∧ cFine c ∧ ∀ md κ h g tk, mFine md κ → rk = roomK bud md κ → RepS V.h₀ m₀ kt h T → Means V c md κ p.1 ⟨h, g, V.d, tk, V.os⟩ → Means V c md κ (denote table c) ⟨h, g, V.d, tk, V.os⟩ := fun nb e => by
      rw [e] at h
      cases h
      refine ⟨quiet_of nb, fine_of nb, fun md κ h g tk _ _ _ z => ?_⟩
      rw [← den_eq]; exact z
    cases c <;> first | (exact key (fun _ _ e => by cases e) rfl) | (cases h)
  | d + 1 =>
    cases hb : Nat.blt d 150 with
    | false => simp only [denM, hb] at h; exact hr _ _ _ _ _ _ h ok
    | true =>
      cases hl : nthO ids d with
      | none => simp only [denM, hb, hl] at h; cases h
      | some lit =>
        cases c with
        | builtin id args =>
          simp only [denM, hb, hl] at h
          cases h
          have e : id = lit := by have := (Obs.ok_cons ok).1; injection this
          obtain ⟨a, b⟩ := idsOk_get hi (nthO_eq ids d ▸ hl)
          subst e
          refine ⟨Code.quiet_builtin _ b, fine_builtin a, fun md κ h g tk _ _ _ z => ?_⟩
          rw [← den_eq]; exact z
        | _ => simp only [denM, hb, hl] at h; cases h

/-! ## the start of a comprehension whose iterator is its own iterator -/
theorem bind_pure (m : Sem Fin) : m.bind .pure = m := by
  induction m <;> simp only [Sem.bind] <;> first | rfl | (congr; funext x; rename_i ih; exact ih x)
theorem self_iter {prog : Program} {w : World} {A : Around} {s : Shared} {E : Value → Shared → Prop} {a : Addr} {o : Obj} (ho : s.heap.get? a = some o) (hc : o.cls = .type "list_iterator" ∨ o.cls = .type "range_iterator") {Q : Value → Shared → Prop} (h : Q (.ref a) s) :
    wpAny (model prog w) A (pyIter (.ref a)) Q E s := by
  rcases hc with hc | hc
  · have ht : s.TypeIs (.ref a) "list_iterator" := ⟨o, ho, hc⟩
    refine wpAny_pyIter_slot ht slot_listiter_iter (wpAny_call_entry slot_listiter_iter ht entry_listiter_iter ?_ (args_listiter_iter _))
    show wpAny _ _ (ret (.ref a)) _ _ s
    exact wpAny_pure ⟨_, rfl, "list_iterator", _, ht, slot_listiter_next.lookup, h⟩
  · have ht : s.TypeIs (.ref a) "range_iterator" := ⟨o, ho, hc⟩
    refine wpAny_pyIter_slot ht F.slot_range_iterator_iter (wpAny_call_entry F.slot_range_iterator_iter ht F.entry_range_iterator_iter ?_ (F.args_range_iterator_iter_1 _))
    show wpAny _ _ (ret (.ref a)) _ _ s
    exact wpAny_pure ⟨_, rfl, "range_iterator", _, ht, F.slot_range_iterator_next.lookup, h⟩
theorem comp_start {V : XV} {e : Expr} {depth : Nat} {a : Addr} {acc : Value} {env : Env} {md : Option (List Frame)} {κ : Kont} {s : Shared} {o : Obj} (ho : s.heap.get? a = some o) (hc : o.cls = .type "list_iterator" ∨ o.cls = .type "range_iterator")
    (z : Means V (.compStart e depth (.ref a) acc env) md κ (.pure (.again (.compLoop e depth (.ref a) acc env))) s) : Means V (.compStart e depth (.ref a) acc env) md κ (denote table (.compStart e depth (.ref a) acc env)) s := by
  rw [← bind_pure (denote table _)]
  refine mn_cmd (bind_wrap _ _) fun A _ => ?_
  have key : ∀ E, wpAny (model V.prog V.w) A (compStart e depth (.ref a) acc env) (fun fin s' => Means V (.compStart e depth (.ref a) acc env) md κ (.pure fin) s') E s := fun E => by
    unfold compStart
    split
    · exact wpAny_pure (M := model V.prog V.w) (A := A) (E := E) z
    · show wpAny _ _ (ask >>= _) _ _ s
      refine wpAny_bind (wpAny_askSetting (wpAny_ite ?_))
      split
      · first
          | exact wpAny_bind (wpAny_pure (wpAny_pure z))
          | exact wpAny_pure z
      · refine wpAny_bind (wpAny_rule ?_)
        have last : ∀ p : Option Pos, wpAny (model V.prog V.w) A (pyIter (.ref a)) (fun it s' => wpAny (model V.prog V.w) A (again (.compLoop e depth it acc env)) (fun fin s' => Means V (.compStart e depth (.ref a) acc env) md κ (.pure fin) s') E s') E s := fun _ => self_iter ho hc (wpAny_pure z)
        cases (clausesOf e)[depth]? with
        | none => first | exact wpAny_bind (last none) | exact wpAny_bind (wpAny_pure (wpAny_bind (last none)))
        | some g => first | exact wpAny_bind (wpAny_standAt (wpAny_bind (last none))) | skip
  by_cases hf : (Code.compStart e depth (.ref a) acc env).isFrame = true
  · rw [show denote table (.compStart e depth (.ref a) acc env) = (compStart e depth (.ref a) acc env).onRaise (leaving env) from by
      show (if (Code.compStart e depth (.ref a) acc env).isFrame then _ else _) = _
      rw [if_pos hf]]
    exact wpAny_onRaise (key _)
  · rw [show denote table (.compStart e depth (.ref a) acc env) = (compStart e depth (.ref a) acc env).onRaise (fun x => do noteFrame x env; standAt theWindowsPlace) from by
      show (if (Code.compStart e depth (.ref a) acc env).isFrame then _ else _) = _
      rw [if_neg hf]]
    exact wpAny_onRaise (key _)
noncomputable def itName : Nat → String
  | 0 => "list_iterator"
  | _ => "range_iterator"
noncomputable def ruleM (d : Nat) (c : Code) (T : ST) (ad : Nat) (_ : Bool) : Option (Sem Fin × Nat × Obs) := match c with
  | .compStart e depth it acc env => match it with
    | .ref a => match T.get (ad % 4096) with
      | some w => match w.2.cls with
        | .type n => some (.pure (.again (.compLoop e depth (.ref a) acc env)), ad / 4096, [(.nat a, .nat w.1), (.str n, .str (itName d))])
        | _ => none
      | none => none
    | _ => none
  | _ => none
theorem ruleM_ok {V : XV} {kt : KT} {bud m₀ : Nat} : RuleOk V kt bud m₀ ruleM := by
  intro d c T ad rk p h ok
  unfold ruleM at h
  split at h
  · rename_i e depth it acc env
    split at h
    · rename_i a
      split at h
      · rename_i w hw
        split at h
        · rename_i n hn
          cases h
          obtain ⟨o1, ok⟩ := Obs.ok_cons ok
          obtain ⟨o2, _⟩ := Obs.ok_cons ok
          have o1 : a = w.1 := by injection o1
          have o2 : n = (itName d) := Sd.str.inj o2
          refine ⟨rfl, rfl, fun md κ h g tk _ _ R z => comp_start (o := w.2) (by rw [o1]; exact R.own _ _ _ hw) ?_ z⟩
          rw [hn, o2]
          cases d with
          | zero => exact .inl rfl
          | succ d => exact .inr rfl
        · cases h
      · cases h
    · cases h
  · cases h
open Sem (wp)
/-- where the first tree comes to good, the second does -/
noncomputable def Le (M : Model) (A : Around) (c : Code) {α : Type} (t' t : Sem α) : Prop :=
  ∀ Γ p s (Q : α → Pos → Shared → Prop) E, Γ.code = c → Γ.In A → wp M Γ t' Q E p s → wp M Γ t Q E p s
section
variable {M : Model} {A : Around} {c : Code} {α β : Type}
theorem Le.refl (t : Sem α) : Le M A c t t := fun _ _ _ _ _ _ _ h => h
theorem Le.of_eq {t' t : Sem α} (e : t' = t) : Le M A c t' t := e ▸ Le.refl _
theorem Le.bind {m' m : Sem α} {f' f : α → Sem β} (hm : Le M A c m' m) (hf : ∀ a, Le M A c (f' a) (f a)) : Le M A c (m' >>= f') (m >>= f) := by
  intro Γ p s Q E hc hΓ h
  rw [Sem.wp_bind'] at h ⊢
  exact hm _ _ _ _ _ hc hΓ (Sem.wp_mono M Γ _ (fun a p' s' h' => hf a _ _ _ _ _ hc hΓ h') (fun _ _ _ h' => h') p s h)
theorem Le.onRaise {m' m : Sem α} {k : Value → Sem Unit} (hm : Le M A c m' m) : Le M A c (m'.onRaise k) (m.onRaise k) := by
  intro Γ p s Q E hc hΓ h
  rw [Sem.wp_onRaise] at h ⊢
  exact hm _ _ _ _ _ hc hΓ h
theorem Le.holding {m' m : Sem α} {vs : List Value} (hm : Le M A c m' m) : Le M A c (holding vs m') (holding vs m) := by
  intro Γ p s Q E hc hΓ h
  rw [Sem.wp_holding] at h ⊢
  exact hm _ _ _ _ _ hc hΓ h
noncomputable def efM : Sem Unit := currentRecursionLimit >>= fun l => match Nat.beq l recursionLimit with
  | true => pure ()
  | false => unsupported "limit"
theorem Le.enter (hd : A.depth < recursionLimit) : Le M A c efM enterFrame := by
  intro Γ p s Q E hc hΓ h
  have hsum : ((((Γ.code, p) :: Γ.below).map (·.1)).map (·.frames)).sum + ((((Γ.code, p) :: Γ.below).map (·.1)).filter Code.isCreation).length < recursionLimit := by
    have hge := frameCount_ge ((Γ.code, p) :: Γ.below)
    rw [frameCount_cons] at hge
    have := hΓ.2.1
    omega
  have hlt : ¬ ((((Γ.code, p) :: Γ.below).map (·.1)).map (·.frames)).sum ≥ recursionLimit := by omega
  have hlt' : ¬ ((((Γ.code, p) :: Γ.below).map (·.1)).map (·.frames)).sum + ((((Γ.code, p) :: Γ.below).map (·.1)).filter Code.isCreation).length ≥ recursionLimit := by omega
  rw [efM, Sem.wp_bind'] at h
  simp only [enterFrame, Sem.wp_bind']
  show wp M Γ currentRecursionLimit _ _ p s
  refine Sem.wp_mono M Γ _ (fun l p' s' h' => ?_) (fun _ _ _ h' => h') p s h
  cases hb : Nat.beq l recursionLimit with
  | false => rw [hb] at h'; exact h'.elim
  | true =>
    rw [hb] at h'
    have hl : l = recursionLimit := Nat.eq_of_beq_eq_true hb
    subst hl
    show wp M Γ (if nearTheLimitUnderAClaim (((Γ.code, p) :: Γ.below).map (·.1)) (((((Γ.code, p) :: Γ.below).map (·.1)).map (·.frames)).sum + ((((Γ.code, p) :: Γ.below).map (·.1)).filter Code.isCreation).length) recursionLimit = true then _ else _) _ _ p' s'
    rw [if_neg (by rw [not_nearTheLimit hΓ hd]; exact Bool.false_ne_true)]
    show wp M Γ (if ((((Γ.code, p) :: Γ.below).map (·.1)).map (·.frames)).sum ≥ recursionLimit then _ else _) _ _ p' s'
    rw [if_neg hlt]
    show wp M Γ (if ((((Γ.code, p) :: Γ.below).map (·.1)).map (·.frames)).sum + ((((Γ.code, p) :: Γ.below).map (·.1)).filter Code.isCreation).length ≥ recursionLimit then _ else _) _ _ p' s'
    rw [if_neg hlt']; exact h'
theorem Le.comps {body : List Stmt} {env : Env} (hc : c = .func body env) : Le M A c (pure []) comprehensionsAround := by
  intro Γ p s Q E hcc hΓ h
  have e : pastTheWaiting ((.func body env, p) :: Γ.below) = (.func body env, p) :: pastTheWaiting.go false (some (.func body env)) Γ.below := rfl
  have hs : wp M Γ callersCodes (fun l p' s' => l = .func body env :: (pastTheWaiting.go false (some (.func body env)) Γ.below).map (·.1) ∧ p' = p ∧ s' = s) E p s := by
    unfold callersCodes
    rw [Sem.wp_bind']
    show wp M Γ (if (((((Γ.code, p) :: Γ.below).map (·.1)).findSome? (·.env?)).map (·.frame)) != (((pastTheWaiting ((Γ.code, p) :: Γ.below)).map (·.1)).findSome? (·.env?)).map (·.frame) then _ else _) _ _ p s
    rw [hcc, hc, e]
    split
    · rename_i hc
      exact absurd (show (some env.frame != some env.frame) = true from hc) (by simp)
    · exact ⟨rfl, rfl, rfl⟩
  unfold comprehensionsAround
  rw [Sem.wp_bind']
  refine Sem.wp_mono M Γ _ (fun l p' s' h' => ?_) (fun _ _ _ h' => h') p s hs
  obtain ⟨rfl, rfl, rfl⟩ := h'
  exact h
noncomputable def unst {α : Type} : Sem α → Sem α
  | .stack k => k []
  | t => t
noncomputable def cmp2 (op : CmpOp) (a b : Value) : Sem Value := match [a, b].any Value.onHeap with
  | true => unst (richCompare op a b)
  | false => richCompare op a b
theorem unst_room {w : String} {vs L : List Value} {X : Sem α} (hv : vs.any Value.onHeap = true) : unst ((cRoomFor w vs >>= fun _ => X).keep L) = X.keep L := by
  unfold cRoomFor
  rw [if_pos hv]
  rfl
theorem Le.compare (hu : A.units < cLine) {op : CmpOp} {a b : Value} : Le M A c (cmp2 op a b) (richCompare op a b) := by
  intro Γ p s Q E hcc hΓ h
  have hun : Γ.units < cLine := Nat.lt_of_le_of_lt hΓ.2.2.2.2 hu
  unfold cmp2 at h
  split at h
  · rename_i hv
    obtain ⟨X, hX⟩ : ∃ X, richCompare op a b = (cRoomFor "comparison" [a, b] >>= fun _ => X).keep ([a, b].filter Value.isRef) := ⟨_, by
      unfold richCompare
      rw [holding_eq_keep]⟩
    rw [hX] at h ⊢
    rw [unst_room hv, Sem.wp_keep] at h
    rw [Sem.wp_keep, Sem.wp_bind']
    exact Sem.wp_cRoomFor "comparison" [a, b] hun h
  · exact h
theorem Le.callWith {x' x : Sem Value} {pos : Pos} {f : Value} {first : List Value} {l : List (Bool × Sem Value)} {kw : List (Option Str × Sem Value)} (hx : Le M A c x' x) : Le M A c (callWith pos f first ((false, x') :: l) kw) (callWith pos f first ((false, x) :: l) kw) := by
  have hs : Le M A c (spliced ((false, x') :: l)) (spliced ((false, x) :: l)) := by
    unfold spliced
    exact Le.bind hx fun _ => Le.refl _
  have ha : Le M A c (evalArgs f true ((false, x') :: l) kw) (evalArgs f true ((false, x) :: l) kw) := by
    unfold evalArgs
    cases l with
    | nil => exact Le.bind (m' := spliced [(false, x')]) (m := spliced [(false, x)]) hs fun _ => Le.refl _
    | cons y l => exact Le.bind (m' := spliced ((false, x') :: y :: l)) (m := spliced ((false, x) :: y :: l)) hs fun _ => Le.refl _
  unfold PySem.callWith
  exact Le.bind (Le.holding ha) fun _ => Le.refl _
theorem Le.methodCall {x' x : Sem Value} {o : Expr} {name : Str} {apos pos : Pos} {env : Env} {ov : Value} {n : Nat} {l : List (Bool × Sem Value)} {kw : List (Option Str × Sem Value)} (hx : Le M A c x' x) :
    Le M A c (methodCall o name apos pos env ov n ((false, x') :: l) kw) (methodCall o name apos pos env ov n ((false, x) :: l) kw) := by
  unfold PySem.methodCall
  exact Le.bind (Le.refl _) fun _ => Le.bind (Le.refl _) fun _ => Le.callWith hx
end

/-! ## the pieces with the check taken out -/
noncomputable def genX : { F : Sem Unit → Expr → List Comprehension → Scope → Pos → Env → Sem Value // ∀ elt gens scope pos env, eval (.GeneratorExp elt gens scope pos) env = F enterFrame elt gens scope pos env } := by
  refine ⟨?_, ?_⟩
  rotate_left
  · intro elt gens scope pos env
    rw [arm_eval_GeneratorExp]
    generalize (enterFrame : Sem Unit) = ef
    rfl

noncomputable def abX : { F : Sem (List Env) → Expr → Str → Env → Sem Value → Sem Value // ∀ o attr env whole, attributeBase o attr env whole = F comprehensionsAround o attr env whole } := by
  refine ⟨?_, ?_⟩
  rotate_left
  · intro o attr env whole
    unfold attributeBase
    generalize comprehensionsAround = ca
    rfl
section
variable {M : Model} {A : Around} {c : Code} {α β : Type}
theorem Le.ite {p : Prop} [Decidable p] {a' a b' b : Sem α} (ha : Le M A c a' a) (hb : Le M A c b' b) : Le M A c (if p then a' else b') (if p then a else b) := by
  by_cases h : p
  · rw [if_pos h, if_pos h]; exact ha
  · rw [if_neg h, if_neg h]; exact hb
theorem Le.gen (hd : A.depth < recursionLimit) {elt : Expr} {gens : List Comprehension} {scope : Scope} {pos : Pos} {env : Env} : Le M A c (genX.1 efM elt gens scope pos env) (eval (.GeneratorExp elt gens scope pos) env) := by
  rw [genX.2]
  dsimp only [genX]
  exact Le.bind (Le.refl _) fun _ => Le.bind (Le.refl _) fun _ => Le.bind (Le.refl _) fun _ => Le.bind (Le.refl _) fun _ => Le.bind (Le.enter hd) fun _ => Le.refl _
set_option maxHeartbeats 2000000 in
theorem Le.ab {body : List Stmt} {env' : Env} (hc : c = .func body env') {o : Expr} {attr : Str} {env : Env} {whole : Sem Value} : Le M A c (abX.1 (pure []) o attr env whole) (attributeBase o attr env whole) := by
  rw [abX.2]
  dsimp only [abX]
  split
  · refine Le.ite (Le.refl _) ?_
    refine Le.ite ?_ ?_ <;>
    repeat' first
      | with_reducible exact Le.refl _
      | (with_reducible refine Le.bind (Le.refl _) fun _ => ?_)
      | (with_reducible refine Le.bind (Le.comps hc) fun _ => ?_)
      | with_reducible refine Le.ite ?_ ?_
      | split
  · exact Le.refl _
end
open Sem (wp)
structure Prims where
  bnd : {α β : Type} → Sem α → (α → Sem β) → Sem β
  onr : {α : Type} → Sem α → (Value → Sem Unit) → Sem α
  ev : PySem.Expr → Env → Sem Value
  exs : List Stmt → Env → Sem Flow
  leav : Env → Value → Sem Unit
  retv : Value → Sem Fin
  cw : Pos → Value → List Value → List (Bool × Sem Value) → List (Option Str × Sem Value) → Sem Value
  mc : PySem.Expr → Str → Pos → Pos → Env → Value → Nat → List (Bool × Sem Value) → List (Option Str × Sem Value) → Sem Value
  bt : Pos → List (Bool × Sem Value) → List (Bool × Sem Value)
  se : List PySem.Expr → Env → List (Bool × Sem Value)
  ab : PySem.Expr → Str → Env → Sem Value → Sem Value
  gen : PySem.Expr → List Comprehension → Scope → Pos → Env → Sem Value
  opr : List Value → Sem Value → Sem Value
  hol : List Value → Sem Value → Sem Value
  holB : List Value → Sem Bool → Sem Bool
  tru : Value → Sem Bool
  rich : CmpOp → Value → Value → Sem Value
  cop : CmpOp → Value → Value → Sem Value
  mark : List CmpOp → List PySem.Expr → List (Sem Value) → List (Sem Value)
  isT : PySem.Expr → Env → Sem Value → Sem Bool
  inter : Env → Bool
  swp : PySem.Expr → Option PySem.Expr → Nat → Env → Sem Bool
  drop : PySem.Expr → Pos → Value → Sem Flow
  etu : PySem.Expr → Env → (Value → Sem Unit) → Sem Unit
  prx : Sem Value → Sem Flow
noncomputable def P0 : Prims := ⟨fun m f => m.bind f, fun m h => m.onRaise h, eval, execs, leaving, ret, callWith, methodCall, backTo, starEach, abX.1 (pure []), genX.1 efM, operate, holding, holding, truthy, richCompare, compareOp, markedEach, PySem.isTrue, interactive, swapsWith, dropValue, evalThenUse, printExpr⟩
section
variable (P : Prims)
noncomputable def argsT (pos : Pos) (env : Env) : List PySem.Expr → List (Bool × Sem Value)
  | e :: rest => match e with
    | .GeneratorExp elt gens scope gpos => (false, P.gen elt gens scope gpos env) :: P.bt pos (P.se rest env)
    | e => P.bt pos (P.se (e :: rest) env)
  | [] => P.bt pos (P.se [] env)
noncomputable def valT (env : Env) : PySem.Expr → Sem Value
  | .Call f args kws pos => match kws with
    | k :: ks => P.ev (.Call f args (k :: ks) pos) env
    | [] => match f with
      | .Attribute o name apos => P.bnd (P.ab o name env (P.ev o env)) fun ov => P.bnd (standAt apos.atName) fun _ => P.mc o name apos pos env ov (args.length + 0) (argsT P pos env args) []
      | .Name id p => P.bnd (P.ev (.Name id p) env) fun fv => P.cw pos fv [] (argsT P pos env args) []
      | f => P.ev (.Call f args [] pos) env
  | e => P.ev e env
noncomputable def cmpT (op : CmpOp) (a b : Value) : Sem Value := match op with
  | .NotEq => match [a, b].any Value.onHeap with
    | true => unst (P.rich .NotEq a b)
    | false => P.rich .NotEq a b
  | .Eq => match [a, b].any Value.onHeap with
    | true => unst (P.rich .Eq a b)
    | false => P.rich .Eq a b
  | op => P.cop op a b
noncomputable def testC (env : Env) : PySem.Expr → Sem Bool
  | .Compare left ops rs pos => match ops, rs with
    | [op], [r] => P.bnd (P.ev left env) fun lv => match P.mark [op] [r] [P.ev r env] with
      | [x] => P.bnd (P.hol [lv] x) fun rv => P.bnd (standAt pos) fun _ => P.bnd (P.opr [lv, rv] (cmpT P op lv rv)) fun c => P.holB [c] (P.tru c)
      | _ => unsupported "internal"
    | ops, rs => P.isT (.Compare left ops rs pos) env (P.ev (.Compare left ops rs pos) env)
  | e => P.isT e env (P.ev e env)
noncomputable def testT (env : Env) : PySem.Expr → Sem Bool
  | .BoolOp op vs p => match op, vs with
    | .Or, [x, y] => P.bnd (testC P env x) fun b => match b with
      | true => .pure true
      | false => P.bnd (testC P env y) fun b => match b with
        | true => .pure true
        | false => .pure false
    | op, vs => P.isT (.BoolOp op vs p) env (P.ev (.BoolOp op vs p) env)
  | e => testC P env e
noncomputable def stmtT (env : Env) : Stmt → Sem Flow
  | .Return (some e) pos => P.bnd (standAt pos) fun _ => P.bnd (valT P env e) fun v => .pure (.ret v)
  | .Expr e pos => P.bnd (standAt pos) fun _ => match P.inter env with
    | true => P.prx (P.ev e env)
    | false => P.bnd (P.swp e none pos.line env) fun b => match b with
      | true => P.bnd (P.etu e env fun _ => point) fun _ => .pure .next
      | false => P.bnd (valT P env e) fun v => P.drop e pos v
  | .If test body orelse pos => P.bnd (standAt pos) fun _ => P.bnd (testT P env test) fun b => match b with
    | true => P.exs body env
    | false => P.exs orelse env
  | s => P.exs [s] env
noncomputable def bodyT (env : Env) : List Stmt → Sem Flow
  | [] => .pure .next
  | s :: rest => P.bnd (stmtT P env s) fun f => match f with
    | .next => bodyT env rest
    | f => .pure f
noncomputable def funcT (body : List Stmt) (env : Env) : Sem Fin :=
  P.bnd point fun _ => P.bnd (P.onr (bodyT P env body) (P.leav env)) fun f => match f with
    | .ret v => P.retv v
    | _ => P.retv .none
end

/-! ## with the model's own functions -/
section
variable {M : Model} {A : Around} {c : Code} {α β : Type} (hd : A.depth < recursionLimit) (hu : A.units < cLine) {body₀ : List Stmt} {env₀ : Env} (hc : c = .func body₀ env₀)
include hd in
theorem Le.args {pos : Pos} {env : Env} {args : List PySem.Expr} {F : List (Bool × Sem Value) → Sem Value} (hF : ∀ x' x l, Le M A c x' x → Le M A c (F ((false, x') :: l)) (F ((false, x) :: l))) :
    Le M A c (F (argsT P0 pos env args)) (F (backTo pos (starEach args env))) := by
  unfold argsT
  split
  · split
    · exact hF _ _ _ (Le.gen hd)
    · exact Le.refl _
  · exact Le.refl _
include hd hc in
theorem Le.val {env : Env} (e : PySem.Expr) : Le M A c (valT P0 env e) (eval e env) := by
  unfold valT
  split
  · split
    · exact Le.refl _
    · split
      · skip
        rw [arm_eval_Call]
        exact Le.bind (Le.ab hc) fun ov => Le.bind (Le.refl _) fun _ => Le.args hd (F := fun l => PySem.methodCall _ _ _ _ env ov _ l []) fun x' x l h => Le.methodCall h
      · skip
        exact Le.bind (Le.refl _) fun fv => Le.args hd (F := fun l => PySem.callWith _ fv [] l []) fun x' x l h => Le.callWith h
      · exact Le.refl _
  · exact Le.refl _
include hu in
theorem Le.cmp {op : CmpOp} {a b : Value} : Le M A c (cmpT P0 op a b) (compareOp op a b) := by
  unfold cmpT
  split
  · exact Le.compare (op := .NotEq) hu
  · exact Le.compare (op := .Eq) hu
  · exact Le.refl _
theorem Le.operate {vs : List Value} {m' m : Sem Value} (h : Le M A c m' m) : Le M A c (PySem.operate vs m') (PySem.operate vs m) := by
  unfold PySem.operate
  exact Le.bind (Le.holding h) fun _ => Le.refl _
include hu in
theorem Le.testC {env : Env} (e : PySem.Expr) : Le M A c (testC P0 env e) (PySem.isTrue e env (eval e env)) := by
  unfold Mine.testC
  split
  · split
    · rename_i left pos op r
      rw [arm_isTrue_Compare]
      exact Le.bind (Le.refl _) fun lv => Le.bind (Le.refl _) fun rv => Le.bind (Le.refl _) fun _ => Le.bind (Le.operate (Le.cmp hu)) fun _ => Le.refl _
    · exact Le.refl _
  · exact Le.refl _
include hu in
theorem Le.testT {env : Env} (e : PySem.Expr) : Le M A c (testT P0 env e) (PySem.isTrue e env (eval e env)) := by
  unfold Mine.testT
  split
  · split
    · rename_i x y
      rw [arm_isTrue_BoolOp, arm_allTrue_cons]
      refine Le.bind (Le.testC hu x) fun b => ?_
      cases b with
      | true => exact Le.refl _
      | false =>
        show Le _ _ _ _ (allTrue .Or [y] env)
        rw [arm_allTrue_cons]
        refine Le.bind (Le.testC hu y) fun b => ?_
        cases b with
        | true => exact Le.refl _
        | false => exact Le.refl _
    · exact Le.refl _
  · exact Le.testC hu _
theorem Le.one {s : Stmt} {env : Env} : Le M A c (execs [s] env) (exec s env) := by
  intro Γ p sh Q E hcc hΓ h
  rw [arm_execs_cons, Sem.wp_bind'] at h
  refine Sem.wp_mono M Γ _ (fun f p' s' h' => ?_) (fun _ _ _ h' => h') p sh h
  cases f <;> exact h'
include hd hu hc in
theorem Le.stmt {env : Env} (s : Stmt) : Le M A c (stmtT P0 env s) (exec s env) := by
  unfold stmtT
  split
  · rw [arm_exec_Return]
    exact Le.bind (Le.refl _) fun _ => Le.bind (Le.val hd hc _) fun _ => Le.refl _
  · rename_i e pos
    rw [arm_exec_Expr]
    refine Le.bind (Le.refl _) fun _ => ?_
    show Le M A c (match interactive env with | true => _ | false => _) _
    cases interactive env with
    | true => exact Le.refl _
    | false =>
      refine Le.bind (Le.refl _) fun b => ?_
      cases b with
      | true => exact Le.refl _
      | false => exact Le.bind (Le.val hd hc _) fun _ => Le.refl _
  · rename_i test body orelse pos
    rw [show exec (.If test body orelse pos) env = (do
      standAt pos
      if ← PySem.isTrue test env (eval test env) then execs body env else execs orelse env) from rfl]
    refine Le.bind (Le.refl _) fun _ => Le.bind (Le.testT hu _) fun b => ?_
    cases b <;> exact Le.refl _
  · exact Le.one
include hd hu hc in
theorem Le.body {env : Env} : ∀ ss : List Stmt, Le M A c (bodyT P0 env ss) (execs ss env)
  | [] => Le.refl _
  | s :: rest => by
    rw [bodyT, arm_execs_cons]
    refine Le.bind (Le.stmt hd hu hc s) fun f => ?_
    cases f with
    | next => exact Le.body rest
    | _ => exact Le.refl _
include hd hu hc in
theorem Le.func {body : List Stmt} {env : Env} : Le M A c (funcT P0 body env) (denote table (.func body env)) := by
  show Le M A c _ (point >>= fun _ => (execs body env).onRaise (leaving env) >>= fun f => match f with | .ret v => ret v | _ => ret .none)
  exact Le.bind (Le.refl _) fun _ => Le.bind (Le.onRaise (Le.body hd hu hc _)) fun f => by cases f <;> exact Le.refl _
end
theorem means_le {V : XV} {c : Code} {κ : Kont} {t' t : Sem Fin} {s : Shared} (h : Le (model V.prog V.w) ((aroundOf V true κ).under c) c t' t) (z : Means V c none κ t' s) : Means V c none κ t s :=
  fun Γ p hc hΓ => h Γ p s _ _ hc (hc ▸ hΓ.in) (z Γ p hc hΓ)
noncomputable def genT : { F : Sem Unit → PySem.Expr → List Comprehension → Scope → Pos → Env → Sem Value // F = genX.1 } := by
  refine ⟨?_, ?_⟩
  rotate_left
  · dsimp only [genX]
    try rewrite [Fast.te18100340678103251363]
    try rewrite [Fast.te11392484809677674534]
    try rewrite [Fast.te17359229931016689406]
    try rewrite [Fast.te5683257298004816981]
    try rewrite [Fast.te8711993805878244202]
    try rewrite [Fast.te14069538253670106520]
    try rewrite [Fast.te9492743126541576920]
    try rewrite [Fast.te6600643334278800223]
    try rewrite [Fast.te11113344188204177931]
    try rewrite [Fast.te13055414885448386229]
    try rewrite [Fast.te2426001476595277715]
    try rewrite [Fast.te16755525298939948312]
    try rewrite [Fast.te6609576154772507232]
    try rewrite [Fast.te8468629109055619292]
    try rewrite [Fast.te10380811246957099773]
    try rewrite [Fast.te11478286150595567475]
    try rewrite [Fast.te2730523204748688562]
    try rewrite [Fast.te4777696345729990297]
    try rewrite [Fast.te8406491124035677375]
    try rewrite [Fast.te2211186353215096513]
    try rewrite [Fast.te12456147031677567982]
    rfl
noncomputable def abT : { F : Sem (List Env) → PySem.Expr → Str → Env → Sem Value → Sem Value // F = abX.1 } := by
  refine ⟨?_, ?_⟩
  rotate_left
  · dsimp only [abX]
    try rewrite [Fast.te18100340678103251363]
    try rewrite [Fast.te11392484809677674534]
    try rewrite [Fast.te17359229931016689406]
    try rewrite [Fast.te5683257298004816981]
    try rewrite [Fast.te8711993805878244202]
    try rewrite [Fast.te14069538253670106520]
    try rewrite [Fast.te9492743126541576920]
    try rewrite [Fast.te6600643334278800223]
    try rewrite [Fast.te11113344188204177931]
    try rewrite [Fast.te13055414885448386229]
    try rewrite [Fast.te2426001476595277715]
    try rewrite [Fast.te16755525298939948312]
    try rewrite [Fast.te6609576154772507232]
    try rewrite [Fast.te8468629109055619292]
    try rewrite [Fast.te10380811246957099773]
    try rewrite [Fast.te11478286150595567475]
    try rewrite [Fast.te2730523204748688562]
    try rewrite [Fast.te4777696345729990297]
    try rewrite [Fast.te8406491124035677375]
    try rewrite [Fast.te2211186353215096513]
    try rewrite [Fast.te12456147031677567982]
    rfl
noncomputable def efT : { F : Sem Unit // F = efM } := by
  refine ⟨?_, ?_⟩
  rotate_left
  · dsimp only [efM]
    try rewrite [Fast.te18100340678103251363]
    try rewrite [Fast.te11392484809677674534]
    try rewrite [Fast.te17359229931016689406]
    try rewrite [Fast.te5683257298004816981]
    try rewrite [Fast.te8711993805878244202]
    try rewrite [Fast.te14069538253670106520]
    try rewrite [Fast.te9492743126541576920]
    try rewrite [Fast.te6600643334278800223]
    try rewrite [Fast.te11113344188204177931]
    try rewrite [Fast.te13055414885448386229]
    try rewrite [Fast.te2426001476595277715]
    try rewrite [Fast.te16755525298939948312]
    try rewrite [Fast.te6609576154772507232]
    try rewrite [Fast.te8468629109055619292]
    try rewrite [Fast.te10380811246957099773]
    try rewrite [Fast.te11478286150595567475]
    try rewrite [Fast.te2730523204748688562]
    try rewrite [Fast.te4777696345729990297]
    try rewrite [Fast.te8406491124035677375]
    try rewrite [Fast.te2211186353215096513]
    try rewrite [Fast.te12456147031677567982]
    rfl
noncomputable def P1 : Prims := ⟨fun m f => PySem.W.R.bindR m f, fun m h => PySem.W.R.onRaiseR m h, Fast.tw14044960220447912780, Fast.tw12563942051412417395, Fast.tw9442747609961115081, Fast.tw6905046200447255374, Fast.tw8289420714989923916, Fast.tw13401596951702201221, Fast.tw4897270859577272712, Fast.tw13897175071876407860, abT.1 (.pure []), genT.1 efT.1, Fast.tw8004119333741010377, Fast.tw17359229931016689406, Fast.tw17359229931016689406, Fast.tw15245631507167962100, Fast.tw9423741818375054981, Fast.tw12886488535604756494, Fast.tw2344580865713695371, Fast.tw15418851999007992765, Fast.tw15112477048112897374, Fast.tw17223243974762974889, Fast.tw12372662630863984472, Fast.tw1406442740598737775, Fast.tw189217752967746932⟩
theorem P1_eq : P1 = P0 := by
  unfold P1 P0
  have g : genT.1 efT.1 = genX.1 efM := by rw [genT.2, efT.2]
  have a : abT.1 (.pure []) = abX.1 (pure []) := by rw [abT.2]; rfl
  rw [g, a]
  generalize genX.1 efM = x
  generalize abX.1 (pure []) = y
  rw [← PySem.W.R.bindR_eq, ← PySem.W.R.onRaiseR_eq, PySem.W.R.onRaiseR_eq, Fast.te14044960220447912780, Fast.te12563942051412417395, Fast.te9442747609961115081, Fast.te6905046200447255374, Fast.te8289420714989923916, Fast.te13401596951702201221, Fast.te4897270859577272712, Fast.te13897175071876407860, Fast.te8004119333741010377, Fast.te17359229931016689406, Fast.te15245631507167962100, Fast.te9423741818375054981, Fast.te12886488535604756494, Fast.te2344580865713695371, Fast.te15418851999007992765, Fast.te15112477048112897374, Fast.te17223243974762974889, Fast.te12372662630863984472, Fast.te1406442740598737775, Fast.te189217752967746932]
noncomputable def ruleS (d : Nat) (c : Code) (T : ST) (ad : Nat) (rk : Bool) : Option (Sem Fin × Nat × Obs) := match Nat.blt d 2 with
  | true => ruleM d c T ad rk
  | false => match rk with
    | false => none
    | true => match c with
      | .func body env => some (funcT P1 body env, ad, [])
      | _ => none
theorem ruleS_ok {V : XV} {kt : KT} {bud m₀ : Nat} (hh : V.A₀.handled = none) (hd : V.A₀.depth + bud < recursionLimit) (hu : V.A₀.units + 2 * bud < cLine) : RuleOk V kt bud m₀ ruleS := by
  intro d c T ad rk p h ok
  unfold ruleS at h
  split at h
  · exact ruleM_ok d c T ad rk p h ok
  · split at h
    · cases h
    · split at h
      · rename_i body env
        cases h
        refine ⟨rfl, rfl, fun md κ h g tk hm hr _ z => ?_⟩
        cases md with
        | some fs => cases hr
        | none =>
          have hb : 5 * (kLen true κ + 1) ≤ bud := Nat.le_of_ble_eq_true hr.symm
          have hc : cFine (.func body env) := rfl
          obtain ⟨x, y⟩ := here_fine hh hc hm (A := (aroundOf V true κ).under (.func body env)) rfl
          have e1 : mLen none κ = kLen true κ := rfl
          rw [e1] at x y
          rw [P1_eq] at z
          exact means_le (Le.func (by omega) (by omega) rfl) z
      · cases h
open Sem (wp)
noncomputable def extX : { F : (Value → Value → Bool) → Value → Value → Value → Sem Fin // ∀ self it res, Builtin.List.listExtendWith self it res = F Builtin.List.listSameRef self it res } := by
  refine ⟨?_, ?_⟩
  rotate_left
  · intro self it res
    unfold Builtin.List.listExtendWith
    generalize Builtin.List.listSameRef = sr
    rfl
noncomputable def setX : { F : (Value → Value → Bool) → Args → Sem Fin // ∀ args, Builtin.«list.__setitem__» args = F Builtin.List.listSameRef args } := by
  refine ⟨?_, ?_⟩
  rotate_left
  · intro args
    unfold Builtin.«list.__setitem__»
    generalize Builtin.List.listSameRef = sr
    rfl
noncomputable def extT : { F : (Value → Value → Bool) → Value → Value → Value → Sem Fin // F = extX.1 } := by
  refine ⟨?_, ?_⟩
  rotate_left
  · dsimp only [extX]
    try rewrite [Fast.te14684505520029207082]
    try rewrite [Fast.te10557518346328741659]
    try rewrite [Fast.te2060155186595164805]
    try rewrite [Fast.te6905046200447255374]
    try rewrite [Fast.te8711993805878244202]
    try rewrite [Fast.te17359229931016689406]
    try rewrite [Fast.te15112759502256325868]
    try rewrite [Fast.te922294955767894045]
    try rewrite [Fast.te8809883150852718426]
    try rewrite [Fast.te10490335872163997894]
    try rewrite [Fast.te11295123933598969464]
    try rewrite [Fast.te10804002551933667111]
    try rewrite [Fast.te10123112551380213103]
    try rewrite [Fast.te3967640627792924556]
    try rewrite [Fast.te3461954006293484611]
    try rewrite [Fast.te10209042966406643723]
    try rewrite [Fast.te14898161412748792391]
    try rewrite [Fast.te12456147031677567982]
    try rewrite [Fast.te12377390311714414960]
    rfl
noncomputable def setT : { F : (Value → Value → Bool) → Args → Sem Fin // F = setX.1 } := by
  refine ⟨?_, ?_⟩
  rotate_left
  · dsimp only [setX]
    try rewrite [Fast.te14684505520029207082]
    try rewrite [Fast.te10557518346328741659]
    try rewrite [Fast.te2060155186595164805]
    try rewrite [Fast.te6905046200447255374]
    try rewrite [Fast.te8711993805878244202]
    try rewrite [Fast.te17359229931016689406]
    try rewrite [Fast.te15112759502256325868]
    try rewrite [Fast.te922294955767894045]
    try rewrite [Fast.te8809883150852718426]
    try rewrite [Fast.te10490335872163997894]
    try rewrite [Fast.te11295123933598969464]
    try rewrite [Fast.te10804002551933667111]
    try rewrite [Fast.te10123112551380213103]
    try rewrite [Fast.te3967640627792924556]
    try rewrite [Fast.te3461954006293484611]
    try rewrite [Fast.te10209042966406643723]
    try rewrite [Fast.te14898161412748792391]
    try rewrite [Fast.te12456147031677567982]
    try rewrite [Fast.te12377390311714414960]
    rfl
theorem same_no {a b : Addr} (h : a ≠ b) : Builtin.List.listSameRef (.ref a) (.ref b) = false := by
  show (a == b) = false
  simp [h]
theorem ext_eq {a b : Addr} (h : a ≠ b) (r : Value) : extX.1 (fun _ _ => false) (.ref a) (.ref b) r = extX.1 Builtin.List.listSameRef (.ref a) (.ref b) r := by
  dsimp only [extX]
  simp only [same_no h]
theorem denote_of {t : String → Option Builtin} {id : String} {b : Builtin} (h : entryFor t id = some b) (args : Args) : denote t (.builtin id args) = b args := by
  have e : denote t (.builtin id args) = match entryFor t id with
    | some b => b args
    | none => unsupported ((withoutEnding? id "#data").getD id) := rfl
  rw [e, h]
theorem iadd_eq {a b : Addr} (h : a ≠ b) : extT.1 (fun _ _ => false) (.ref a) (.ref b) (.ref a) = denote table (.builtin "list.__iadd__" ⟨[.ref a, .ref b], []⟩) := by
  rw [extT.2, ext_eq h, ← extX.2, denote_of F.entry_list_iadd]
  rfl
theorem set_eq {a b : Addr} (h : a ≠ b) (i : Value) : setT.1 (fun _ _ => false) ⟨[.ref a, i, .ref b], []⟩ = denote table (.builtin "list.__setitem__" ⟨[.ref a, i, .ref b], []⟩) := by
  rw [setT.2, denote_of F.entry_list_setitem, setX.2]
  dsimp only [setX]
  rw [show Builtin.List.listBlankSlotArgs "__setitem__" 2 ⟨[.ref a, i, .ref b], []⟩ = pure (.ref a, [i, .ref b]) from rfl]
  simp only [pure_bind, same_no h]
/-- two different own objects, by their places -/
noncomputable def twoAt (T : ST) (ad : Nat) : Option (Addr × Addr × Nat) := match Nat.beq (ad % 4096) (ad / 4096 % 4096) with
  | true => none
  | false => match T.get (ad % 4096) with
    | none => none
    | some w => match T.get (ad / 4096 % 4096) with
      | none => none
      | some x => some (w.1, x.1, ad / 4096 / 4096)
theorem twoAt_ne {h₀ h : Heap} {m₀ : Nat} {kt : KT} {T : ST} {ad : Nat} {a b : Addr} {n : Nat} (R : RepS h₀ m₀ kt h T) (e : twoAt T ad = some (a, b, n)) : a ≠ b := by
  unfold twoAt at e
  split at e
  · cases e
  · rename_i hb
    split at e
    · cases e
    · rename_i w hw
      split at e
      · cases e
      · rename_i x hx
        cases e
        intro q
        have := R.inj _ _ w.1 w.2 x.2 hw (by rw [q]; exact hx)
        rw [this, Nat.beq_refl] at hb
        cases hb
noncomputable def ruleQ (d : Nat) (c : Code) (T : ST) (ad : Nat) (rk : Bool) : Option (Sem Fin × Nat × Obs) := match Nat.blt d 3 with
  | true => ruleS d c T ad rk
  | false => match c with
    | .builtin id args => match args with
      | ⟨pos, kw⟩ => match kw with
        | _ :: _ => none
        | [] => match Nat.beq d 3, pos with
          | true, [.ref a, .ref b] => match twoAt T ad with
            | none => none
            | some (x, y, n) => some (extT.1 (fun _ _ => false) (.ref a) (.ref b) (.ref a), n, [(.nat a, .nat x), (.nat b, .nat y), (.str id, .str "list.__iadd__")])
          | false, [.ref a, i, .ref b] => match twoAt T ad with
            | none => none
            | some (x, y, n) => some (setT.1 (fun _ _ => false) ⟨[.ref a, i, .ref b], []⟩, n, [(.nat a, .nat x), (.nat b, .nat y), (.str id, .str "list.__setitem__")])
          | _, _ => none
    | _ => none
theorem ruleQ_ok {V : XV} {kt : KT} {bud m₀ : Nat} (hh : V.A₀.handled = none) (hd : V.A₀.depth + bud < recursionLimit) (hu : V.A₀.units + 2 * bud < cLine) : RuleOk V kt bud m₀ ruleQ := by
  intro d c T ad rk p h ok
  unfold ruleQ at h
  split at h
  · exact ruleS_ok hh hd hu d c T ad rk p h ok
  · split at h
    · rename_i id args
      obtain ⟨pos, kw⟩ := args
      simp only at h
      split at h
      · cases h
      · split at h
        · split at h
          · cases h
          · rename_i x y n ht
            cases h
            obtain ⟨o1, ok⟩ := Obs.ok_cons ok
            obtain ⟨o2, ok⟩ := Obs.ok_cons ok
            obtain ⟨o3, _⟩ := Obs.ok_cons ok
            have o1 := nat_inj o1
            have o2 := nat_inj o2
            have o3 : id = "list.__iadd__" := Sd.str.inj o3
            subst o1 o2 o3
            refine ⟨Code.quiet_builtin _ (by decide +kernel), fine_builtin (by simp), fun md κ h g tk _ _ R z => ?_⟩
            rw [← iadd_eq (twoAt_ne R ht)]; exact z
        · split at h
          · cases h
          · rename_i x y n ht
            cases h
            obtain ⟨o1, ok⟩ := Obs.ok_cons ok
            obtain ⟨o2, ok⟩ := Obs.ok_cons ok
            obtain ⟨o3, _⟩ := Obs.ok_cons ok
            have o1 := nat_inj o1
            have o2 := nat_inj o2
            have o3 : id = "list.__setitem__" := Sd.str.inj o3
            subst o1 o2 o3
            refine ⟨Code.quiet_builtin _ (by decide +kernel), fine_builtin (by simp), fun md κ h g tk _ _ R z => ?_⟩
            rw [← set_eq (twoAt_ne R ht)]; exact z
        · cases h
    · cases h
end
noncomputable section
open PySem PySem.Spec PySem.W PySem.W.X PySem.Calls PyProof.Rows
open PySem.SeqAt
open Sem (wp)
/-- two values that are the same or not, whatever their tokens -/
noncomputable def eqV : Value → Value → Option Bool
  | .str a _, .str b _ => some (a == b)
  | .int a _, .int b _ => some (a == b)
  | _, _ => none
theorem eqV_at {A : Around} {s : Shared} {x y : Value} {e : Bool} (h : eqV x y = some e) : EqAt A s x y e := by
  unfold eqV at h
  split at h
  · cases h; exact EqAt.str_str _ _ _ _
  · cases h; exact EqAt.int_int _ _ _ _
  · cases h
/-- all pairs known, and whether all are the same -/
noncomputable def eqL : List Value → List Value → Option Bool
  | x :: l, y :: m => match eqV x y with
    | none => none
    | some e => match eqL l m with
      | none => none
      | some r => some (match e with | true => r | false => false)
  | [], [] => some true
  | _, _ => none
noncomputable def eqN (l m : List Value) (j : Nat) : Bool := match l[j]?, m[j]? with
  | some x, some y => (eqV x y).getD false
  | _, _ => false
theorem eqL_len : ∀ {l m : List Value} {r : Bool}, eqL l m = some r → l.length = m.length
  | [], [], _, _ => rfl
  | [], _ :: _, _, h => by simp [eqL] at h
  | _ :: _, [], _, h => by simp [eqL] at h
  | x :: l, y :: m, r, h => by
    rw [eqL] at h
    split at h
    · cases h
    · split at h
      · cases h
      · rename_i r' h'
        rw [List.length_cons, List.length_cons, eqL_len h']
theorem eqL_each : ∀ {l m : List Value} {r : Bool}, eqL l m = some r → ∀ j x y, l[j]? = some x → m[j]? = some y → eqV x y = some (eqN l m j)
  | [], _, _, _, j, x, y, hx, _ => by simp at hx
  | _ :: _, [], _, h, j, x, y, _, hy => by simp at hy
  | a :: l, b :: m, r, h, j, x, y, hx, hy => by
    rw [eqL] at h
    split at h
    · cases h
    · rename_i e he
      split at h
      · cases h
      · rename_i r' h'
        cases j with
        | zero =>
          have hx : a = x := by simpa using hx
          have hy : b = y := by simpa using hy
          subst hx hy
          simp [eqN, he]
        | succ j =>
          have := eqL_each h' j x y (by simpa using hx) (by simpa using hy)
          simpa [eqN] using this
theorem eqL_all : ∀ {l m : List Value} {r : Bool}, eqL l m = some r → (List.range l.length).all (eqN l m) = r
  | [], [], _, h => by simp [eqL] at h; subst h; rfl
  | [], _ :: _, _, h => by simp [eqL] at h
  | _ :: _, [], _, h => by simp [eqL] at h
  | x :: l, y :: m, r, h => by
    rw [eqL] at h
    split at h
    · cases h
    · rename_i e he
      split at h
      · cases h
      · rename_i r' h'
        have ih := eqL_all h'
        have e1 : (List.range (x :: l).length).all (eqN (x :: l) (y :: m)) = (eqN (x :: l) (y :: m) 0 && (List.range l.length).all (eqN l m)) := by
          rw [List.length_cons, List.range_succ_eq_map, List.all_cons, List.all_map]
          rfl
        rw [e1, ih]
        have e2 : eqN (x :: l) (y :: m) 0 = e := by simp [eqN, he]
        rw [e2]
        cases h
        cases e <;> rfl
theorem means_meets {V : XV} {κ : Kont} {id : String} {args : Args} {b : Builtin} {S : PySem.Spec} {f : Flow} {s : Shared} (hp : plainId id = true) (he : entryFor table id = some b) (hm : Meets (b args) S)
    (hS : ∀ R : Result → Shared → Prop, R (.ok f) s → S (aroundOf V true κ) R s) (z : Means V (.builtin id args) none κ (.pure (.done f)) s) : Means V (.builtin id args) none κ (denote table (.builtin id args)) s := by
  rw [denote_of he]
  intro Γ p hc hΓ
  have hR : endOf V κ (.ok f) s := z Γ p hc hΓ
  have := hm V.prog V.w (aroundOf V true κ) (endOf V κ) s (hS _ hR)
  rw [← Around.under_plainId hp args] at this
  refine wpOwn_of_wpAny (wpAny_mono this (fun fin s' h => ?_) fun e s' h => h) Γ p hc hΓ
  cases fin with
  | done f => exact h
  | again c => exact h
theorem cm_plain0 : plainId "list.__eq__" = true := by decide +kernel
theorem cm0 {V : XV} {κ : Kont} {s : Shared} {a b : Addr} {xs ys : Array Value} {e1 e2 : Nat} {d1 d2 : Option Addr} {s1 s2 : Array (Option Value)} {E : Nat → Bool} {r : Bool}
    (ha : s.heap.get? a = some ⟨.type "list", d1, .seq xs e1, s1⟩) (hb : s.heap.get? b = some ⟨.type "list", d2, .seq ys e2, s2⟩) (hl : xs.size = ys.size) (hat : ∀ (A : Around) (s : Shared) j (h1 : j < xs.size) (h2 : j < ys.size), EqAt A s xs[j] ys[j] (E j)) (hall : (List.range xs.size).all E = r)
    (z : Means V (.builtin "list.__eq__" ⟨[.ref a, .ref b], []⟩) none κ (.pure (.done (.ret (.bool r)))) s) : Means V (.builtin "list.__eq__" ⟨[.ref a, .ref b], []⟩) none κ (denote table (.builtin "list.__eq__" ⟨[.ref a, .ref b], []⟩)) s :=
  @means_meets V κ "list.__eq__" ⟨[.ref a, .ref b], []⟩ Builtin.«list.__eq__» _ (.ret (.bool r)) s cm_plain0 F.entry_list_eq (list_eqAt a b xs ys e1 e2 d1 d2 s1 s2 hl E) (fun R' hR => ⟨ha, hb, hat _ _, by rw [hall]; exact hR⟩) z
theorem cm_quiet0 (args : Args) : (Code.builtin "list.__eq__" args).quiet = true := Code.quiet_builtin _ (by decide +kernel)
theorem cm_plain1 : plainId "list.__ne__" = true := by decide +kernel
theorem cm1 {V : XV} {κ : Kont} {s : Shared} {a b : Addr} {xs ys : Array Value} {e1 e2 : Nat} {d1 d2 : Option Addr} {s1 s2 : Array (Option Value)} {E : Nat → Bool} {r : Bool}
    (ha : s.heap.get? a = some ⟨.type "list", d1, .seq xs e1, s1⟩) (hb : s.heap.get? b = some ⟨.type "list", d2, .seq ys e2, s2⟩) (hl : xs.size = ys.size) (hat : ∀ (A : Around) (s : Shared) j (h1 : j < xs.size) (h2 : j < ys.size), EqAt A s xs[j] ys[j] (E j)) (hall : (List.range xs.size).all E = r)
    (z : Means V (.builtin "list.__ne__" ⟨[.ref a, .ref b], []⟩) none κ (.pure (.done (.ret (.bool (!r))))) s) : Means V (.builtin "list.__ne__" ⟨[.ref a, .ref b], []⟩) none κ (denote table (.builtin "list.__ne__" ⟨[.ref a, .ref b], []⟩)) s :=
  @means_meets V κ "list.__ne__" ⟨[.ref a, .ref b], []⟩ Builtin.«list.__ne__» _ (.ret (.bool (!r))) s cm_plain1 F.entry_list_ne (list_neAt a b xs ys e1 e2 d1 d2 s1 s2 hl E) (fun R' hR => ⟨ha, hb, hat _ _, by rw [hall]; exact hR⟩) z
theorem cm_quiet1 (args : Args) : (Code.builtin "list.__ne__" args).quiet = true := Code.quiet_builtin _ (by decide +kernel)
theorem cm_plain2 : plainId "tuple.__eq__" = true := by decide +kernel
set_option maxHeartbeats 4000000 in
theorem cm2 {V : XV} {κ : Kont} {s : Shared} {a b : Addr} {xs ys : Array Value} {e1 e2 : Nat} {d1 d2 : Option Addr} {s1 s2 : Array (Option Value)} {E : Nat → Bool} {r : Bool}
    (ha : s.heap.get? a = some ⟨.type "tuple", d1, .seq xs e1, s1⟩) (hb : s.heap.get? b = some ⟨.type "tuple", d2, .seq ys e2, s2⟩) (hl : xs.size = ys.size) (hat : ∀ (A : Around) (s : Shared) j (h1 : j < xs.size) (h2 : j < ys.size), EqAt A s xs[j] ys[j] (E j)) (hall : (List.range xs.size).all E = r)
    (z : Means V (.builtin "tuple.__eq__" ⟨[.ref a, .ref b], []⟩) none κ (.pure (.done (.ret (.bool r)))) s) : Means V (.builtin "tuple.__eq__" ⟨[.ref a, .ref b], []⟩) none κ (denote table (.builtin "tuple.__eq__" ⟨[.ref a, .ref b], []⟩)) s  := by
  have M := tuple_eqAt a b xs ys e1 e2 d1 d2 s1 s2 E
  refine @means_meets V κ "tuple.__eq__" ⟨[.ref a, .ref b], []⟩ Builtin.«tuple.__eq__» _ (.ret (.bool r)) s cm_plain2 F.entry_tuple_eq M (fun R' hR => ?_) z
  refine ⟨ha, hb, hat _ _, ?_⟩
  have e : ((List.range (min xs.size ys.size)).all E && xs.size == ys.size) = r := by rw [← hl, Nat.min_self, hall]; simp
  rw [e]
  exact hR
theorem cm_quiet2 (args : Args) : (Code.builtin "tuple.__eq__" args).quiet = true := Code.quiet_builtin _ (by decide +kernel)
theorem cm_plain3 : plainId "tuple.__ne__" = true := by decide +kernel
set_option maxHeartbeats 4000000 in
theorem cm3 {V : XV} {κ : Kont} {s : Shared} {a b : Addr} {xs ys : Array Value} {e1 e2 : Nat} {d1 d2 : Option Addr} {s1 s2 : Array (Option Value)} {E : Nat → Bool} {r : Bool}
    (ha : s.heap.get? a = some ⟨.type "tuple", d1, .seq xs e1, s1⟩) (hb : s.heap.get? b = some ⟨.type "tuple", d2, .seq ys e2, s2⟩) (hl : xs.size = ys.size) (hat : ∀ (A : Around) (s : Shared) j (h1 : j < xs.size) (h2 : j < ys.size), EqAt A s xs[j] ys[j] (E j)) (hall : (List.range xs.size).all E = r)
    (z : Means V (.builtin "tuple.__ne__" ⟨[.ref a, .ref b], []⟩) none κ (.pure (.done (.ret (.bool (!r))))) s) : Means V (.builtin "tuple.__ne__" ⟨[.ref a, .ref b], []⟩) none κ (denote table (.builtin "tuple.__ne__" ⟨[.ref a, .ref b], []⟩)) s  := by
  have M := tuple_neAt a b xs ys e1 e2 d1 d2 s1 s2 E
  refine @means_meets V κ "tuple.__ne__" ⟨[.ref a, .ref b], []⟩ Builtin.«tuple.__ne__» _ (.ret (.bool (!r))) s cm_plain3 F.entry_tuple_ne M (fun R' hR => ?_) z
  refine ⟨ha, hb, hat _ _, ?_⟩
  have e : ((List.range (min xs.size ys.size)).all E && xs.size == ys.size) = r := by rw [← hl, Nat.min_self, hall]; simp
  rw [e]
  exact hR
theorem cm_quiet3 (args : Args) : (Code.builtin "tuple.__ne__" args).quiet = true := Code.quiet_builtin _ (by decide +kernel)
noncomputable def cmpId (k : Nat) : String := match k with
  | 0 => "list.__eq__"
  | 1 => "list.__ne__"
  | 2 => "tuple.__eq__"
  | _ => "tuple.__ne__"
noncomputable def cmpCls (k : Nat) : String := match k with
  | 0 => "list"
  | 1 => "list"
  | _ => "tuple"
noncomputable def cmpRes (k : Nat) (r : Bool) : Bool := match k with
  | 0 => r
  | 1 => !r
  | 2 => r
  | _ => !r
/-- two lists, or two tuples, compared -/
noncomputable def ruleC (k : Nat) (c : Code) (T : ST) (ad : Nat) (rk : Bool) : Option (Sem Fin × Nat × Obs) := match rk with
  | false => none
  | true => match c with
    | .builtin id args => match args with
      | ⟨[.ref a, .ref b], []⟩ => match T.get (ad % 4096) with
        | some (x, ⟨.type n1, d1, .seq xs e1, s1⟩) => match T.get (ad / 4096 % 4096) with
          | some (y, ⟨.type n2, d2, .seq ys e2, s2⟩) => match eqL xs.toList ys.toList with
            | some r => some (.pure (.done (.ret (.bool (cmpRes k r)))), ad / 4096 / 4096, [(.nat a, .nat x), (.nat b, .nat y), (.str id, .str (cmpId k)), (.str n1, .str (cmpCls k)), (.str n2, .str (cmpCls k))])
            | none => none
          | _ => none
        | _ => none
      | _ => none
    | _ => none
set_option maxHeartbeats 4000000 in
theorem ruleC_ok {V : XV} {kt : KT} {bud m₀ k : Nat} : RuleOk V kt bud m₀ fun _ => ruleC k := by
  intro _ c T ad rk p h ok
  unfold ruleC at h
  dsimp only at h
  split at h
  · cases h
  · split at h
    · split at h
      · split at h
        · rename_i id _ a b _ x n1 d1 xs e1 s1 hx
          split at h
          · rename_i _ y n2 d2 ys e2 s2 hy
            split at h
            · rename_i r hr
              cases h
              obtain ⟨o1, ok⟩ := Obs.ok_cons ok
              obtain ⟨o2, ok⟩ := Obs.ok_cons ok
              obtain ⟨o3, ok⟩ := Obs.ok_cons ok
              obtain ⟨o4, ok⟩ := Obs.ok_cons ok
              obtain ⟨o5, _⟩ := Obs.ok_cons ok
              have o1 := nat_inj o1
              have o2 := nat_inj o2
              have o3 : id = cmpId k := Sd.str.inj o3
              have o4 : n1 = cmpCls k := Sd.str.inj o4
              have o5 : n2 = cmpCls k := Sd.str.inj o5
              subst o1 o2
              have hl : xs.size = ys.size := by have := eqL_len hr; simpa using this
              have hall : (List.range xs.size).all (eqN xs.toList ys.toList) = r := by have := eqL_all hr; simpa using this
              have hat : ∀ (A : Around) (s : Shared) j (h1 : j < xs.size) (h2 : j < ys.size), EqAt A s xs[j] ys[j] (eqN xs.toList ys.toList j) := fun A s j h1 h2 =>
                eqV_at (eqL_each hr j xs[j] ys[j] (by simp [h1]) (by simp [h2]))
              have no : ∀ {md : Option (List Frame)} {κ : Kont}, true = roomK bud md κ → md = none := fun {md κ} e => by
                cases md with
                | some fs => cases e
                | none => rfl
              match k, o3, o4, o5 with
              | 0, o3, o4, o5 =>
                have o3 : id = "list.__eq__" := o3
                have o4 : n1 = "list" := o4
                have o5 : n2 = "list" := o5
                subst o3 o4 o5
                exact ⟨cm_quiet0 _, fine_builtin (by simp), fun md κ h g tk _ hrk R z => by
                  cases no hrk
                  have q := @cm0 V κ ⟨h, g, V.d, tk, V.os⟩ _ _ xs ys e1 e2 d1 d2 s1 s2 _ r (R.own _ _ _ hx) (R.own _ _ _ hy) hl hat hall
                  rw [show cmpRes 0 r = r from rfl] at z
                  with_reducible exact q z⟩
              | 1, o3, o4, o5 =>
                have o3 : id = "list.__ne__" := o3
                have o4 : n1 = "list" := o4
                have o5 : n2 = "list" := o5
                subst o3 o4 o5
                exact ⟨cm_quiet1 _, fine_builtin (by simp), fun md κ h g tk _ hrk R z => by
                  cases no hrk
                  have q := @cm1 V κ ⟨h, g, V.d, tk, V.os⟩ _ _ xs ys e1 e2 d1 d2 s1 s2 _ r (R.own _ _ _ hx) (R.own _ _ _ hy) hl hat hall
                  rw [show cmpRes 1 r = !r from rfl] at z
                  with_reducible exact q z⟩
              | 2, o3, o4, o5 =>
                have o3 : id = "tuple.__eq__" := o3
                have o4 : n1 = "tuple" := o4
                have o5 : n2 = "tuple" := o5
                subst o3 o4 o5
                exact ⟨cm_quiet2 _, fine_builtin (by simp), fun md κ h g tk _ hrk R z => by
                  cases no hrk
                  have q := @cm2 V κ ⟨h, g, V.d, tk, V.os⟩ _ _ xs ys e1 e2 d1 d2 s1 s2 _ r (R.own _ _ _ hx) (R.own _ _ _ hy) hl hat hall
                  rw [show cmpRes 2 r = r from rfl] at z
                  with_reducible exact q z⟩
              | n + 3, o3, o4, o5 =>
                have o3 : id = "tuple.__ne__" := o3
                have o4 : n1 = "tuple" := o4
                have o5 : n2 = "tuple" := o5
                subst o3 o4 o5
                exact ⟨cm_quiet3 _, fine_builtin (by simp), fun md κ h g tk _ hrk R z => by
                  cases no hrk
                  have q := @cm3 V κ ⟨h, g, V.d, tk, V.os⟩ _ _ xs ys e1 e2 d1 d2 s1 s2 _ r (R.own _ _ _ hx) (R.own _ _ _ hy) hl hat hall
                  rw [show cmpRes (n + 3) r = !r from rfl] at z
                  with_reducible exact q z⟩
            · cases h
          · cases h
        · cases h
      · cases h
    · cases h
noncomputable def ruleR (d : Nat) (c : Code) (T : ST) (ad : Nat) (rk : Bool) : Option (Sem Fin × Nat × Obs) := match Nat.blt d 5 with
  | true => ruleQ d c T ad rk
  | false => ruleC (d - 5) c T ad rk
theorem ruleR_ok {V : XV} {kt : KT} {bud m₀ : Nat} (hh : V.A₀.handled = none) (hd : V.A₀.depth + bud < recursionLimit) (hu : V.A₀.units + 2 * bud < cLine) : RuleOk V kt bud m₀ ruleR := by
  intro d c T ad rk p h ok
  unfold ruleR at h
  split at h
  · exact ruleQ_ok hh hd hu d c T ad rk p h ok
  · exact ruleC_ok (k := d - 5) 0 c T ad rk p h ok
open Sem (wp)
theorem means_meetsF {V : XV} {κ : Kont} {id : String} {args : Args} {b : Builtin} {S : PySem.Spec} {f : Tok → Flow} {s : Shared} (hp : plainId id = true) (he : entryFor table id = some b) (hm : MeetsIn V.prog V.w (b args) S)
    (hS : ∀ R : Result → Shared → Prop, R (.ok (f s.toks)) { s with toks := s.toks + 1 } → S (aroundOf V true κ) R s) (z : Means V (.builtin id args) none κ (.fresh fun t => .pure (.done (f t))) s) : Means V (.builtin id args) none κ (denote table (.builtin id args)) s := by
  rw [denote_of he]
  intro Γ p hc hΓ
  have hR : endOf V κ (.ok (f s.toks)) { s with toks := s.toks + 1 } := z Γ p hc hΓ
  have := hm (aroundOf V true κ) (endOf V κ) s (hS _ hR)
  rw [← Around.under_plainId hp args] at this
  refine wpOwn_of_wpAny (wpAny_mono this (fun fin s' h => ?_) fun e s' h => h) Γ p hc hΓ
  cases fin with
  | done f => exact h
  | again c => exact h
noncomputable def hitV (x : Value) : List Value → Option Nat
  | [] => none
  | y :: l => match eqV y x with
    | none => none
    | some true => match l.all fun y => (eqV y x).isSome with
      | true => some 0
      | false => none
    | some false => match hitV x l with
      | none => none
      | some n => some (n + 1)
noncomputable def eqE (x y : Value) : Bool := (eqV y x).getD false
theorem hitV_ok : ∀ {x : Value} {l : List Value} {j : Nat}, hitV x l = some j → j < l.length ∧ (∀ y ∈ l, eqV y x = some (eqE x y)) ∧ (∀ y, l[j]? = some y → eqE x y = true) ∧ ∀ m y, m < j → l[m]? = some y → eqE x y = false
  | x, [], j, h => by cases h
  | x, a :: l, j, h => by
    rw [hitV] at h
    split at h
    · cases h
    · rename_i ha
      split at h
      · rename_i hall
        cases h
        refine ⟨by simp, fun y hy => ?_, fun y hy => ?_, fun m y hm => absurd hm (Nat.not_lt_zero _)⟩
        · rcases List.mem_cons.mp hy with rfl | hy
          · simp [eqE, ha]
          · have := List.all_eq_true.mp hall y hy
            unfold eqE
            cases h : eqV y x with
            | none => rw [h] at this; cases this
            | some b => rfl
        · have : a = y := by simpa using hy
          subst this
          simp [eqE, ha]
      · cases h
    · rename_i ha
      split at h
      · cases h
      · rename_i n hn
        cases h
        obtain ⟨h1, h2, h3, h4⟩ := hitV_ok hn
        refine ⟨by simpa using h1, fun y hy => ?_, fun y hy => h3 y (by simpa using hy), fun m y hm hy => ?_⟩
        · rcases List.mem_cons.mp hy with rfl | hy
          · simp [eqE, ha]
          · exact h2 y hy
        · cases m with
          | zero =>
            have : a = y := by simpa using hy
            subst this
            simp [eqE, ha]
          | succ m => exact h4 m y (by omega) (by simpa using hy)
theorem ix_plain : plainId "list.index" = true := by decide +kernel
set_option maxHeartbeats 4000000 in
theorem ix_means {V : XV} {κ : Kont} {s : Shared} {a : Addr} {x : Value} {xs : Array Value} {e1 : Nat} {d1 : Option Addr} {s1 : Array (Option Value)} {j : Nat}
    (ha : s.heap.get? a = some ⟨.type "list", d1, .seq xs e1, s1⟩) (hj : hitV x xs.toList = some j) (hs : j < 4096)
    (z : Means V (.builtin "list.index" ⟨[.ref a, x], []⟩) none κ (.fresh fun t => .pure (.done (.ret (.int (Int.ofNat j) t)))) s) : Means V (.builtin "list.index" ⟨[.ref a, x], []⟩) none κ (denote table (.builtin "list.index" ⟨[.ref a, x], []⟩)) s := by
  obtain ⟨h1, h2, h3, h4⟩ := hitV_ok hj
  have hlt : j < xs.size := by simpa using h1
  have M := list_indexAt a xs e1 d1 s1 x (eqE x) j hlt (by omega) (h3 _ (by simp [hlt])) (fun m hm hmj => h4 m _ hmj (by simp [hm]))
  exact @means_meetsF V κ "list.index" ⟨[.ref a, x], []⟩ Builtin.«list.index» _ (fun t => .ret (.int (Int.ofNat j) t)) s ix_plain F.entry_list_index (M.inModel V.prog V.w) (fun R hR => ⟨ha, fun y hy => eqV_at (h2 y (by simpa using hy)), hR⟩) z
noncomputable def intKeys : List DictEntry → Bool
  | [] => true
  | e :: l => match e.key with
    | .int z _ => match decide (e.hash = hashInt z) with
      | true => intKeys l
      | false => false
    | _ => false
noncomputable def lookI (k : Int) : List DictEntry → Option Value
  | [] => none
  | e :: l => match Value.isInt k e.key with
    | true => some e.val
    | false => lookI k l
theorem intKeys_ok : ∀ {l : List DictEntry}, intKeys l = true → ∀ e ∈ l, ∃ k, Value.isInt k e.key = true ∧ e.hash = hashInt k
  | [], _, _, hx => absurd hx List.not_mem_nil
  | e :: l, h, x, hx => by
    rw [intKeys] at h
    split at h
    · rename_i z t hk
      split at h
      · rename_i hd
        rcases List.mem_cons.mp hx with rfl | hx
        · exact ⟨z, by rw [hk]; simp [Value.isInt], of_decide_eq_true hd⟩
        · exact intKeys_ok h x hx
      · cases h
    · cases h
theorem lookI_ok (k : Int) : ∀ l : List DictEntry, (l.find? fun e => Value.isInt k e.key).map (·.val) = lookI k l
  | [] => rfl
  | e :: l => by
    rw [lookI, List.find?_cons]
    cases Value.isInt k e.key with
    | true => rfl
    | false => exact lookI_ok k l
theorem dg_plain : plainId "dict.__getitem__" = true := by decide +kernel
set_option maxHeartbeats 4000000 in
theorem dg_means {V : XV} {κ : Kont} {s : Shared} {a : Addr} {es : Array DictEntry} {ep : Nat} {k : Int} {t : Tok} {v : Value}
    (ha : s.heap.get? a = some ⟨.type "dict", none, .dict es ep, #[]⟩) (hk : intKeys es.toList = true) (hv : lookI k es.toList = some v)
    (z : Means V (.builtin "dict.__getitem__" ⟨[.ref a, .int k t], []⟩) none κ (.fresh fun _ => .pure (.done (.ret v))) s) : Means V (.builtin "dict.__getitem__" ⟨[.ref a, .int k t], []⟩) none κ (denote table (.builtin "dict.__getitem__" ⟨[.ref a, .int k t], []⟩)) s := by
  have hm : s.heap.MapOf (intKind V.prog V.w) a (fun k => findBy Value.isInt es k) := ⟨_, es, ep, ha, ⟨rfl, rfl, rfl⟩, rfl, fun e he => intKeys_ok hk e (by simpa using he), fun _ => rfl⟩
  have hf : findBy Value.isInt es k = some v := by
    rw [← hv, ← lookI_ok]
    unfold findBy
    obtain ⟨l⟩ := es
    simp
  exact @means_meetsF V κ "dict.__getitem__" ⟨[.ref a, .int k t], []⟩ Builtin.«dict.__getitem__» _ (fun _ => .ret v) s dg_plain F.entry_dict_getitem (meets_dict_getitem (knd := intKind V.prog V.w) (d := a) (k := k) (key := .int k t) (by show Value.isInt k (.int k t) = true; simp [Value.isInt])) (fun R hR => ⟨_, v, hm, hf, hR⟩) z
theorem ix_quiet (args : Args) : (Code.builtin "list.index" args).quiet = true := Code.quiet_builtin _ (by decide +kernel)
theorem dg_quiet (args : Args) : (Code.builtin "dict.__getitem__" args).quiet = true := Code.quiet_builtin _ (by decide +kernel)
/-- the place of a value in a list; what a dict with int keys holds -/
noncomputable def ruleI (k : Nat) (c : Code) (T : ST) (ad : Nat) (rk : Bool) : Option (Sem Fin × Nat × Obs) := match rk with
  | false => none
  | true => match c with
    | .builtin id args => match args with
      | ⟨[.ref a, x], []⟩ => match k with
        | 0 => match T.get (ad % 4096) with
          | some (y, ⟨.type n1, d1, .seq xs e1, s1⟩) => match hitV x xs.toList with
            | some j => match Nat.blt j 4096 with
              | true => some (.fresh fun t => .pure (.done (.ret (.int (Int.ofNat j) t))), ad / 4096, [(.nat a, .nat y), (.str id, .str "list.index"), (.str n1, .str "list")])
              | false => none
            | none => none
          | _ => none
        | _ + 1 => match x with
          | .int z t => match T.get (ad % 4096) with
            | some (y, ⟨.type n1, none, .dict es ep, s1⟩) => match s1.toList with
              | [] => match intKeys es.toList with
                | true => match lookI z es.toList with
                  | some v => some (.fresh fun _ => .pure (.done (.ret v)), ad / 4096, [(.nat a, .nat y), (.str id, .str "dict.__getitem__"), (.str n1, .str "dict")])
                  | none => none
                | false => none
              | _ => none
            | _ => none
          | _ => none
      | _ => none
    | _ => none
set_option maxHeartbeats 4000000 in
theorem ruleI_ok {V : XV} {kt : KT} {bud m₀ k : Nat} : RuleOk V kt bud m₀ fun _ => ruleI k := by
  intro _ c T ad rk p h ok
  unfold ruleI at h
  dsimp only at h
  have no : ∀ {md : Option (List Frame)} {κ : Kont}, true = roomK bud md κ → md = none := fun {md κ} e => by
    cases md with
    | some fs => cases e
    | none => rfl
  split at h
  · cases h
  · split at h
    · split at h
      · split at h
        · split at h
          · split at h
            · split at h
              · rename_i id _ a x _ _ y n1 d1 xs e1 s1 hx _ j hj _ hb
                cases h
                obtain ⟨o1, ok⟩ := Obs.ok_cons ok
                obtain ⟨o2, ok⟩ := Obs.ok_cons ok
                obtain ⟨o3, _⟩ := Obs.ok_cons ok
                have o1 := nat_inj o1
                have o2 : id = "list.index" := Sd.str.inj o2
                have o3 : n1 = "list" := Sd.str.inj o3
                subst o1 o2 o3
                exact ⟨ix_quiet _, fine_builtin (by simp), fun md κ h g tk _ hrk R z => by
                  cases no hrk
                  have q := @ix_means V κ ⟨h, g, V.d, tk, V.os⟩ _ x xs e1 d1 s1 j (R.own _ _ _ hx) hj (blt_true hb)
                  dsimp only at z
                  with_reducible exact q z⟩
              · cases h
            · cases h
          · cases h
        · split at h
          · split at h
            · split at h
              · split at h
                · split at h
                  · rename_i id _ a _ _ _ z t _ y n1 es ep s1 hx _ hs _ hk _ v hv
                    cases h
                    obtain ⟨o1, ok⟩ := Obs.ok_cons ok
                    obtain ⟨o2, ok⟩ := Obs.ok_cons ok
                    obtain ⟨o3, _⟩ := Obs.ok_cons ok
                    have o1 := nat_inj o1
                    have o2 : id = "dict.__getitem__" := Sd.str.inj o2
                    have o3 : n1 = "dict" := Sd.str.inj o3
                    have o4 : s1 = #[] := Array.ext' hs
                    subst o1 o2 o3 o4
                    exact ⟨dg_quiet _, fine_builtin (by simp), fun md κ h g tk _ hrk R z => by
                      cases no hrk
                      have q := fun t => @dg_means V κ ⟨h, g, V.d, tk, V.os⟩ _ es ep _ t v (R.own _ _ _ hx) hk hv
                      dsimp only at z
                      with_reducible exact q _ z⟩
                  · cases h
                · cases h
              · cases h
            · cases h
          · cases h
      · cases h
    · cases h
noncomputable def ruleT (d : Nat) (c : Code) (T : ST) (ad : Nat) (rk : Bool) : Option (Sem Fin × Nat × Obs) := match Nat.blt d 9 with
  | true => ruleR d c T ad rk
  | false => ruleI (d - 9) c T ad rk
theorem ruleT_ok {V : XV} {kt : KT} {bud m₀ : Nat} (hh : V.A₀.handled = none) (hd : V.A₀.depth + bud < recursionLimit) (hu : V.A₀.units + 2 * bud < cLine) : RuleOk V kt bud m₀ ruleT := by
  intro d c T ad rk p h ok
  unfold ruleT at h
  split at h
  · exact ruleR_ok hh hd hu d c T ad rk p h ok
  · exact ruleI_ok (k := d - 9) 0 c T ad rk p h ok
end
noncomputable section
open PySem PySem.Spec PySem.W PySem.W.X PySem.Calls PyProof.Rows
open Sem (wp)
theorem means_meetsS {V : XV} {κ : Kont} {id : String} {args : Args} {b : Builtin} {S : PySem.Spec} {f : Flow} {t : Sem Fin} {s s' : Shared} (hp : plainId id = true) (he : entryFor table id = some b) (hm : Meets (b args) S)
    (hS : ∀ R : Result → Shared → Prop, R (.ok f) s' → S (aroundOf V true κ) R s) (ht : Means V (.builtin id args) none κ t s → ∀ (Γ : PySem.Ctx) (p : Pos), Γ.code = .builtin id args → Γ.Below (aroundOf V true κ) → endOf V κ (.ok f) s')
    (z : Means V (.builtin id args) none κ t s) : Means V (.builtin id args) none κ (denote table (.builtin id args)) s := by
  rw [denote_of he]
  intro Γ p hc hΓ
  have hR : endOf V κ (.ok f) s' := ht z Γ p hc hΓ
  have := hm V.prog V.w (aroundOf V true κ) (endOf V κ) s (hS _ hR)
  rw [← Around.under_plainId hp args] at this
  refine wpOwn_of_wpAny (wpAny_mono this (fun fin s' h => ?_) fun e s' h => h) Γ p hc hΓ
  cases fin with
  | done f => exact h
  | again c => exact h
noncomputable def liO (l : Addr) : Obj := { cls := .type "list_iterator", data := .fields #[.ref l, .int 0 0] }
noncomputable def enO (a : Addr) : Obj := { cls := .type "enumerate", data := .fields #[.none, .bool false, .ref a, rawInt 0, .none, .none] }
theorem en_plain : plainId "enumerate.__new__" = true := by decide +kernel
theorem en_means {V : XV} {κ : Kont} {s : Shared} {l : Addr} {xs : Array Value} {e : Nat}
    (ha : s.heap.get? l = some ⟨.type "list", none, .seq xs e, #[]⟩)
    (z : Means V (.builtin "enumerate.__new__" ⟨[.type "enumerate", .ref l], []⟩) none κ (.alloc (liO l) fun a => .alloc (enO a) fun b => .pure (.done (.ret (.ref b)))) s) :
    Means V (.builtin "enumerate.__new__" ⟨[.type "enumerate", .ref l], []⟩) none κ (denote table (.builtin "enumerate.__new__" ⟨[.type "enumerate", .ref l], []⟩)) s :=
  @means_meetsS V κ "enumerate.__new__" ⟨[.type "enumerate", .ref l], []⟩ Builtin.«enumerate.__new__» _ (.ret (.ref (s.heap.push (liO l)).objs.size)) (.alloc (liO l) fun a => .alloc (enO a) fun b => .pure (.done (.ret (.ref b)))) s { s with heap := (s.heap.push (liO l)).push (enO s.heap.objs.size) } en_plain F.entry_enumerate_new (meets_enumerate_new l xs e)
    (fun R hR => ⟨ha, hR⟩) (fun z (Γ : PySem.Ctx) p hc hΓ => by exact z Γ p hc hΓ) z
theorem en_quiet (args : Args) : (Code.builtin "enumerate.__new__" args).quiet = true := Code.quiet_builtin _ (by decide +kernel)
theorem ext_quiet (args : Args) : (Code.builtin "list.extend" args).quiet = true := Code.quiet_builtin _ (by decide +kernel)
theorem extend_eq {a b : Addr} (h : a ≠ b) : extT.1 (fun _ _ => false) (.ref a) (.ref b) .none = denote table (.builtin "list.extend" ⟨[.ref a, .ref b], []⟩) := by
  rw [extT.2, ext_eq h, ← extX.2, denote_of F.entry_list_extend]
  rfl
/-- enumerate over an own list; list.extend -/
noncomputable def ruleE (k : Nat) (c : Code) (T : ST) (ad : Nat) (rk : Bool) : Option (Sem Fin × Nat × Obs) := match c with
  | .builtin id args => match k with
    | 0 => match rk with
      | false => none
      | true => match args with
        | ⟨[.type n, .ref a], []⟩ => match T.get (ad % 4096) with
          | some (y, ⟨.type n1, none, .seq xs e1, s1⟩) => match s1.toList with
            | [] => some (.alloc (liO a) fun a => .alloc (enO a) fun b => .pure (.done (.ret (.ref b))), ad / 4096, [(.nat a, .nat y), (.str id, .str "enumerate.__new__"), (.str n, .str "enumerate"), (.str n1, .str "list")])
            | _ => none
          | _ => none
        | _ => none
    | _ + 1 => match args with
      | ⟨[.ref a, .ref b], []⟩ => match twoAt T ad with
        | none => none
        | some (x, y, n) => some (extT.1 (fun _ _ => false) (.ref a) (.ref b) .none, n, [(.nat a, .nat x), (.nat b, .nat y), (.str id, .str "list.extend")])
      | _ => none
  | _ => none
set_option maxHeartbeats 4000000 in
theorem ruleE_ok {V : XV} {kt : KT} {bud m₀ k : Nat} : RuleOk V kt bud m₀ fun _ => ruleE k := by
  intro _ c T ad rk p h ok
  unfold ruleE at h
  dsimp only at h
  have no : ∀ {md : Option (List Frame)} {κ : Kont}, true = roomK bud md κ → md = none := fun {md κ} e => by
    cases md with
    | some fs => cases e
    | none => rfl
  split at h
  · split at h
    · split at h
      · cases h
      · split at h
        · split at h
          · split at h
            · rename_i id _ _ _ n a _ y n1 xs e1 s1 hx _ hs
              cases h
              obtain ⟨o1, ok⟩ := Obs.ok_cons ok
              obtain ⟨o2, ok⟩ := Obs.ok_cons ok
              obtain ⟨o3, ok⟩ := Obs.ok_cons ok
              obtain ⟨o4, _⟩ := Obs.ok_cons ok
              have o1 := nat_inj o1
              have o2 : id = "enumerate.__new__" := Sd.str.inj o2
              have o3 : n = "enumerate" := Sd.str.inj o3
              have o4 : n1 = "list" := Sd.str.inj o4
              have o5 : s1 = #[] := Array.ext' hs
              subst o1 o2 o3 o4 o5
              exact ⟨en_quiet _, fine_builtin (by simp), fun md κ h g tk _ hrk R z => by
                cases no hrk
                have q := @en_means V κ ⟨h, g, V.d, tk, V.os⟩ _ xs e1 (R.own _ _ _ hx)
                dsimp only at z
                with_reducible exact q z⟩
            · cases h
          · cases h
        · cases h
    · split at h
      · split at h
        · cases h
        · rename_i _ id _ _ _ a b _ x y n ht
          cases h
          obtain ⟨o1, ok⟩ := Obs.ok_cons ok
          obtain ⟨o2, ok⟩ := Obs.ok_cons ok
          obtain ⟨o3, _⟩ := Obs.ok_cons ok
          have o1 := nat_inj o1
          have o2 := nat_inj o2
          have o3 : id = "list.extend" := Sd.str.inj o3
          subst o1 o2 o3
          refine ⟨ext_quiet _, fine_builtin (by simp), fun md κ h g tk _ _ R z => ?_⟩
          rw [← extend_eq (twoAt_ne R ht)]; exact z
      · cases h
  · cases h
noncomputable def ruleV (d : Nat) (c : Code) (T : ST) (ad : Nat) (rk : Bool) : Option (Sem Fin × Nat × Obs) := match Nat.blt d 11 with
  | true => ruleT d c T ad rk
  | false => ruleE (d - 11) c T ad rk
theorem ruleV_ok {V : XV} {kt : KT} {bud m₀ : Nat} (hh : V.A₀.handled = none) (hd : V.A₀.depth + bud < recursionLimit) (hu : V.A₀.units + 2 * bud < cLine) : RuleOk V kt bud m₀ ruleV := by
  intro d c T ad rk p h ok
  unfold ruleV at h
  split at h
  · exact ruleT_ok hh hd hu d c T ad rk p h ok
  · exact ruleE_ok (k := d - 11) 0 c T ad rk p h ok
end
noncomputable section
open PySem PySem.Spec PySem.W PySem.W.X PySem.Calls PyProof.Rows
open PySem.Builtin.Str
open Sem (wp)
noncomputable def dStr : Str := Str.ofString "__str__"
noncomputable def strQ (v : Value) : Sem Fin := callSpecial? v dStr >>= fun o => match o with
  | some r => match r with
    | .str s t => .pure (.done (.ret (.str s t)))
    | _ => unsupported "no str"
  | none => unsupported "no str"
noncomputable def strR (v : Value) : Sem Fin := PySem.W.R.bindR (Fast.tw9201129301070521445 v dStr) fun o => match o with
  | some r => match r with
    | .str s t => .pure (.done (.ret (.str s t)))
    | _ => .unsupported "no str"
  | none => .unsupported "no str"
theorem strR_eq (v : Value) : strR v = strQ v := by
  unfold strR strQ
  rw [← Fast.te9201129301070521445]
  rw [← PySem.W.R.bindR_eq]
  rfl
theorem str_new_le {M : Model} {A : Around} {c : Code} {a : Addr} (hu : A.units < cLine) : Le M A c (strQ (.ref a)) (Builtin.«str.__new__» ⟨[.type "str", .ref a], []⟩) := by
  intro Γ p s Q E hc hΓ h
  have hun : Γ.units < cLine := Nat.lt_of_le_of_lt hΓ.2.2.2.2 hu
  rw [str_new_tree]
  show wp M Γ (isSubtype (.type "str") (.type "str") >>= _) Q E p s
  rw [isSubtype_str_str]
  show wp M Γ (Builtin.Str.strOf (.ref a) >>= fun r => ret r) Q E p s
  rw [Sem.wp_bind']
  unfold Builtin.Str.strOf
  show wp M Γ (cRoomFor "str" [.ref a] >>= _) _ E p s
  rw [Sem.wp_bind']
  refine Sem.wp_cRoomFor "str" [.ref a] hun ?_
  show wp M Γ (callSpecial? (.ref a) dStr >>= _) _ E p s
  unfold strQ at h
  rw [Sem.wp_bind'] at h ⊢
  refine Sem.wp_mono M Γ _ (fun o p' s' h' => ?_) (fun _ _ _ h' => h') p s h
  split at h'
  · rename_i r
    split at h'
    · exact h'
    · exact h'.elim
  · exact h'.elim
theorem sn_quiet (args : Args) : (Code.builtin "str.__new__" args).quiet = true := Code.quiet_builtin _ (by decide +kernel)
/-- str of an own object -/
noncomputable def ruleX (c : Code) (ad : Nat) (rk : Bool) : Option (Sem Fin × Nat × Obs) := match rk with
  | false => none
  | true => match c with
    | .builtin id args => match args with
      | ⟨[.type n, .ref a], []⟩ => some (strR (.ref a), ad, [(.str id, .str "str.__new__"), (.str n, .str "str")])
      | _ => none
    | _ => none
theorem ruleX_ok {V : XV} {kt : KT} {bud m₀ : Nat} (hh : V.A₀.handled = none) (hd : V.A₀.depth + bud < recursionLimit) (hu : V.A₀.units + 2 * bud < cLine) : RuleOk V kt bud m₀ fun _ c _ ad rk => ruleX c ad rk := by
  intro _ c T ad rk p h ok
  unfold ruleX at h
  dsimp only at h
  split at h
  · cases h
  · split at h
    · split at h
      · rename_i id _ n a
        cases h
        obtain ⟨o1, ok⟩ := Obs.ok_cons ok
        obtain ⟨o2, _⟩ := Obs.ok_cons ok
        have o1 : id = "str.__new__" := Sd.str.inj o1
        have o2 : n = "str" := Sd.str.inj o2
        subst o1 o2
        have hc : cFine (.builtin "str.__new__" ⟨[.type "str", .ref a], []⟩) := fine_builtin (by simp)
        refine ⟨sn_quiet _, hc, fun md κ h g tk hm hr _ z => ?_⟩
        cases md with
        | some fs => cases hr
        | none =>
          have hb : 5 * (kLen true κ + 1) ≤ bud := Nat.le_of_ble_eq_true hr.symm
          obtain ⟨x, y⟩ := here_fine hh hc hm (A := (aroundOf V true κ).under (.builtin "str.__new__" ⟨[.type "str", .ref a], []⟩)) rfl
          have e1 : mLen none κ = kLen true κ := rfl
          rw [e1] at x y
          rw [strR_eq] at z
          rw [denote_of F.entry_str_new]
          exact means_le (str_new_le (by omega)) z
      · cases h
    · cases h
noncomputable def ruleY (d : Nat) (c : Code) (T : ST) (ad : Nat) (rk : Bool) : Option (Sem Fin × Nat × Obs) := match Nat.blt d 13 with
  | true => ruleV d c T ad rk
  | false => ruleX c ad rk
theorem ruleY_ok {V : XV} {kt : KT} {bud m₀ : Nat} (hh : V.A₀.handled = none) (hd : V.A₀.depth + bud < recursionLimit) (hu : V.A₀.units + 2 * bud < cLine) : RuleOk V kt bud m₀ ruleY := by
  intro d c T ad rk p h ok
  unfold ruleY at h
  split at h
  · exact ruleV_ok hh hd hu d c T ad rk p h ok
  · exact ruleX_ok hh hd hu d c T ad rk p h ok
end
noncomputable section
open PySem PySem.Spec PySem.W PySem.W.X PySem.Calls PyProof.Rows
/-! ## many entries put at once -/
noncomputable def putAll : ST → List (Nat × Own) → ST
  | T, [] => T
  | T, p :: l => putAll (T.put 4096 p.1 p.2) l
noncomputable def getL : List (Nat × Own) → Nat → Option Own
  | [], _ => none
  | p :: l, i => match getL l i with
    | some x => some x
    | none => if p.1 = i then some p.2 else none
theorem get_putAll : ∀ (L : List (Nat × Own)) (T : ST) (i : Nat), (∀ p ∈ L, p.1 < 4096) → (putAll T L).get i = match getL L i with | some x => some x | none => T.get i
  | [], _, _, _ => rfl
  | p :: l, T, i, h => by
    rw [putAll, get_putAll l _ i fun q hq => h q (.tail _ hq), getL]
    cases getL l i with
    | some x => rfl
    | none =>
      simp only
      rw [ST.get_put _ _ _ _ _ (h p (.head _))]
      by_cases e : p.1 = i
      · rw [if_pos e.symm, if_pos e]
      · rw [if_neg (Ne.symm e), if_neg e]
theorem getL_mem {L : List (Nat × Own)} {i : Nat} {w : Own} (e : getL L i = some w) : (i, w) ∈ L := by
  induction L with
  | nil => rw [getL] at e; cases e
  | cons p l ih =>
    rw [getL] at e
    cases h : getL l i with
    | some x => rw [h] at e; exact .tail _ (ih (h.trans e))
    | none =>
      rw [h] at e
      simp only at e
      by_cases q : p.1 = i
      · rw [if_pos q] at e
        have : p = (i, w) := Prod.ext q (Option.some.inj e)
        rw [this]; exact .head _
      · rw [if_neg q] at e; cases e
theorem getL_some {L : List (Nat × Own)} {i : Nat} {w : Own} (h : (i, w) ∈ L) : ∃ w', getL L i = some w' := by
  induction L with
  | nil => cases h
  | cons p l ih =>
    rw [getL]
    cases e : getL l i with
    | some x => exact ⟨x, rfl⟩
    | none =>
      rcases List.mem_cons.mp h with q | q
      · rw [← q]; exact ⟨w, by simp⟩
      · obtain ⟨w', e'⟩ := ih q
        rw [e] at e'; cases e'
theorem getL_iff {L : List (Nat × Own)} (nd : ∀ i w w', (i, w) ∈ L → (i, w') ∈ L → w = w') {i : Nat} {w : Own} : getL L i = some w ↔ (i, w) ∈ L := by
  constructor
  · exact getL_mem
  · intro h
    obtain ⟨w', e⟩ := getL_some h
    rw [e, nd i w w' h (getL_mem e)]
noncomputable def mapP (p : Nat → Nat) (L : List (Nat × Own)) : List (Nat × Own) := L.map fun x => (p x.1, x.2)
theorem mem_mapP {p : Nat → Nat} {L : List (Nat × Own)} {i : Nat} {w : Own} : (i, w) ∈ mapP p L ↔ ∃ x, (x, w) ∈ L ∧ p x = i := by
  unfold mapP
  rw [List.mem_map]
  constructor
  · rintro ⟨⟨x, w'⟩, h, e⟩
    cases e; exact ⟨x, h, rfl⟩
  · rintro ⟨x, h, e⟩
    exact ⟨(x, w), h, by rw [← e]⟩

/-! ## a callee's store within the caller's -/
theorem RepS.call {h₀ h h' : Heap} {m₀ n : Nat} {kt : KT} {T P T' : ST} {p : Nat → Nat} (R : RepS h₀ m₀ kt h T) (S : RepS h n kt h' P)
    (a : ∀ i w, T'.get i = some w → (∃ x, p x = i ∧ P.get x = some w) ∨ (T.get i = some w ∧ ∀ x w', P.get x = some w' → p x ≠ i))
    (b : ∀ i a o, T.get i = some (a, o) → ∃ i' o', T'.get i' = some (a, o'))
    (c : ∀ x w, P.get x = some w → T'.get (p x) = some w)
    (d : ∀ x a o, P.get x = some (a, o) → x < n → ∃ o', T.get (p x) = some (a, o')) :
    RepS h₀ m₀ kt h' T' := by
  have old : ∀ i a o, T.get i = some (a, o) → a < h.objs.size := fun i a o e => Heap.lt_size (R.own _ _ _ e)
  have off : ∀ i a o, T.get i = some (a, o) → (∀ x w', P.get x = some w' → p x ≠ i) → ∀ x o', P.get x ≠ some (a, o') := fun i a o e hn x o' ex => by
    rcases Nat.lt_or_ge x n with hx | hx
    · obtain ⟨o₂, e₂⟩ := d x a o' ex hx
      exact hn x _ ex (R.inj _ _ a _ _ e₂ e)
    · exact absurd (old i a o e) (Nat.not_lt.mpr (S.fresh x a o' ex hx))
  refine ⟨Nat.le_trans R.grow S.grow, fun i a₁ o e hi => ?_, S.big, fun i a₁ o e => ?_, fun i j a₁ o o' ei ej => ?_, S.stat, fun i a₁ o e => ?_, fun b₁ o e hn => ?_, S.lim⟩
  · rcases a i _ e with ⟨x, hx, ex⟩ | ⟨e', _⟩
    · rcases Nat.lt_or_ge x n with hn | hn
      · obtain ⟨o₂, e₂⟩ := d x a₁ o ex hn
        rw [hx] at e₂
        exact R.fresh i a₁ _ e₂ hi
      · exact Nat.le_trans R.grow (S.fresh x a₁ o ex hn)
    · exact R.fresh i a₁ o e' hi
  · rcases a i _ e with ⟨x, hx, ex⟩ | ⟨e', hn⟩
    · exact S.own _ _ _ ex
    · exact S.keep a₁ o (R.own _ _ _ e') (off i a₁ o e' hn)
  · rcases a i _ ei with ⟨x, hx, ex⟩ | ⟨e', hn⟩ <;> rcases a j _ ej with ⟨y, hy, ey⟩ | ⟨e'', hn'⟩
    · rw [← hx, ← hy, S.inj x y a₁ o o' ex ey]
    · exact absurd ex (off j a₁ o' e'' hn' x o)
    · exact absurd ey (off i a₁ o e' hn y o')
    · exact R.inj i j a₁ o o' e' e''
  · rcases a i _ e with ⟨x, hx, ex⟩ | ⟨e', hn⟩
    · exact S.apart _ _ _ ex
    · exact R.apart _ _ _ e'
  · refine S.keep b₁ o (R.keep b₁ o e fun i o' q => ?_) fun x o' q => hn (p x) o' (c x _ q)
    obtain ⟨i', o₂, e₂⟩ := b i b₁ o' q
    exact hn i' o₂ e₂
/-- a part of a store -/
theorem RepS.sub {h₀ h : Heap} {n : Nat} {kt : KT} {T P : ST} (R : RepS h₀ n kt h T) (hs : ∀ i w, P.get i = some w → T.get i = some w)
    (ht : ∀ i a o, T.get i = some (a, o) → i < n → ∃ o', P.get i = some (a, o')) : RepS h₀ n kt h P :=
  ⟨R.grow, fun i a o e hi => R.fresh i a o (hs _ _ e) hi, R.big, fun i a o e => R.own _ _ _ (hs _ _ e), fun i j a o p ei ej => R.inj i j a o p (hs _ _ ei) (hs _ _ ej), R.stat,
   fun i a o e => R.apart _ _ _ (hs _ _ e), fun b o e hn => R.keep b o e fun i o' q => by
    rcases Nat.lt_or_ge i n with hi | hi
    · obtain ⟨o₂, e₂⟩ := ht i b o' q hi
      exact hn i o₂ e₂
    · exact absurd (Heap.lt_size e) (Nat.not_lt.mpr (R.fresh i b o' q hi)), R.lim⟩
/-- the store that a callee starts from -/
theorem RepS.start {h₀ h : Heap} {m₀ n : Nat} {kt : KT} {T P : ST} {p : Nat → Nat} (R : RepS h₀ m₀ kt h T) (hs : ∀ x w, P.get x = some w → x < n ∧ T.get (p x) = some w)
    (hi : ∀ x y, x < n → y < n → p x = p y → x = y) : RepS h n kt h P :=
  ⟨Nat.le_refl _, fun i a o e hn => absurd (hs _ _ e).1 (Nat.not_lt.mpr hn), R.big, fun i a o e => R.own _ _ _ (hs _ _ e).2,
   fun i j a o o' ei ej => hi i j (hs _ _ ei).1 (hs _ _ ej).1 (R.inj _ _ _ _ _ (hs _ _ ei).2 (hs _ _ ej).2), R.stat, fun i a o e => R.apart _ _ _ (hs _ _ e).2, fun b o e _ => e, R.lim⟩

/-! ## the numbers in a code and in an object, in order -/
noncomputable def natsV : Value → List Nat
  | .int z t => [t, z.toNat]
  | .float _ t => [t]
  | .str _ t => [t]
  | .bytes _ t => [t]
  | .ref a => [a]
  | _ => []
noncomputable def natsL : List Value → List Nat
  | [] => []
  | v :: l => natsV v ++ natsL l
noncomputable def natsE : List DictEntry → List Nat
  | [] => []
  | e :: l => natsV e.key ++ (natsV e.val ++ natsE l)
noncomputable def natsA : Option Addr → List Nat
  | some a => [a]
  | none => []
noncomputable def natsO (o : Obj) : List Nat := natsA o.dict ++ match o.data with
  | .prim v => natsV v
  | .seq xs e => e :: natsL xs.toList
  | .dict es e => e :: natsE es.toList
  | .cell v => match v with
    | some v => natsV v
    | none => []
  | .fields vs => natsL vs.toList
  | _ => []
noncomputable def natsC : Code → List Nat
  | .call _ as => natsL as.pos
  | .builtin _ as => natsL as.pos
  | .forLoop _ it _ _ env => natsV it ++ (env.locals :: natsL (match env.frame with | some f => [.ref f] | none => []))
  | _ => []
noncomputable def natsT (T : ST) (J : Nat → Nat) : Nat → Nat → List Nat
  | 0, _ => []
  | n + 1, x => match T.get (J x) with
    | some w => natsO w.2 ++ natsT T J n (x + 1)
    | none => natsT T J n (x + 1)

/-! ## a contract -/
structure Con where
  n : Nat
  na : Nat
  nt : Nat
  need : Nat
  sel : List Nat
  code : (Nat → Nat) → (Nat → Nat) → Code
  pre : (Nat → Nat) → (Nat → Nat) → List Own
  res : (Nat → Nat) → (Nat → Nat) → (Nat → Nat) → Result
  post : (Nat → Nat) → (Nat → Nat) → (Nat → Nat) → List Obj
  new : (Nat → Nat) → (Nat → Nat) → (Nat → Nat) → List Obj
  /-- the old objects that stay as they are -/
  keep : List Nat := []
noncomputable def idx {α : Type} : Nat → List α → List (Nat × α)
  | _, [] => []
  | k, x :: l => (k, x) :: idx (k + 1) l
theorem mem_idx {α : Type} : ∀ {l : List α} {k i : Nat} {w : α}, (i, w) ∈ idx k l ↔ k ≤ i ∧ l[i - k]? = some w
  | [], k, i, w => by simp [idx]
  | x :: l, k, i, w => by
    rw [idx, List.mem_cons, mem_idx]
    constructor
    · rintro (e | ⟨h, e⟩)
      · cases e; simp
      · refine ⟨by omega, ?_⟩
        rw [show i - k = (i - (k + 1)) + 1 from by omega, List.getElem?_cons_succ]; exact e
    · rintro ⟨h, e⟩
      rcases Nat.lt_or_ge k i with q | q
      · refine .inr ⟨q, ?_⟩
        rw [show i - k = (i - (k + 1)) + 1 from by omega, List.getElem?_cons_succ] at e; exact e
      · have : i = k := by omega
        subst this
        rw [Nat.sub_self] at e
        exact .inl (by simpa using e.symm)
noncomputable def newL (β : Nat → Nat) : List Nat → List Obj → List (Nat × Own)
  | x :: s, o :: l => (x, (β x + 259, o)) :: newL β s l
  | _, _ => []
theorem mem_newL {β : Nat → Nat} : ∀ {s : List Nat} {l : List Obj} {i : Nat} {w : Own}, (i, w) ∈ newL β s l → i ∈ s ∧ w.1 = β i + 259
  | [], _, _, _, h => by simp [newL] at h
  | _ :: _, [], _, _, h => by simp [newL] at h
  | x :: s, o :: l, i, w, h => by
    rw [newL] at h
    rcases List.mem_cons.mp h with e | e
    · cases e; exact ⟨.head _, rfl⟩
    · exact ⟨.tail _ (mem_newL e).1, (mem_newL e).2⟩
theorem newL_one {β : Nat → Nat} : ∀ {s : List Nat} {l : List Obj} {i : Nat} {w w' : Own}, s.Nodup → (i, w) ∈ newL β s l → (i, w') ∈ newL β s l → w = w'
  | [], _, _, _, _, _, h, _ => by simp [newL] at h
  | _ :: _, [], _, _, _, _, h, _ => by simp [newL] at h
  | x :: s, o :: l, i, w, w', nd, h, h' => by
    rw [newL] at h h'
    obtain ⟨n1, n2⟩ := List.nodup_cons.mp nd
    rcases List.mem_cons.mp h with e | e <;> rcases List.mem_cons.mp h' with e' | e'
    · cases e; cases e'; rfl
    · cases e; exact absurd (mem_newL e').1 n1
    · cases e'; exact absurd (mem_newL e).1 n1
    · exact newL_one n2 e e'
noncomputable def Con.L (K : Con) (β v τ : Nat → Nat) : List (Nat × Own) :=
  idx 0 (List.zipWith (fun p o => (p.1, o)) (K.pre (cut K.n β) v) (K.post β v τ)) ++ newL β K.sel (K.new β v τ)
structure Con.Wf (K : Con) : Prop where
  room : K.n + K.na ≤ 4096
  sel : ∀ x ∈ K.sel, K.n ≤ x ∧ x < K.n + K.na
  nodup : K.sel.Nodup
  pre : ∀ β v, (K.pre β v).length = K.n
  post : ∀ β v τ, (K.post β v τ).length = K.n
  quiet : ∀ β v, (K.code β v).quiet = true
  same : ∀ β v τ, K.keep.map (fun x => (K.post β v τ)[x]?) = K.keep.map fun x => ((K.pre (cut K.n β) v)[x]?).map (·.2)

noncomputable def ConOk (prog : Program) (w : World) (kt : KT) (K : Con) : Prop :=
  K.Wf ∧ ∀ β v (A : Around) h g tk d os (R : Result → Shared → Prop), A.handled = none → A.depth + K.need < recursionLimit → A.units + 2 * K.need < cLine →
    RepS h K.n kt h (putAll .nil (idx 0 (K.pre (cut K.n β) v))) → 556 ≤ tk →
    (∀ (β' τ' : Nat → Nat) h' (g' : Array GenState) tk', (∀ x, x < K.n → β' x = β x) → RepS h K.n kt h' (putAll .nil (K.L (cut (K.n + K.na) β') v (cut K.nt fun x => τ' x + 556))) →
      g.size ≤ g'.size → GK g g' → tk ≤ tk' → R (K.res (cut (K.n + K.na) β') v (cut K.nt fun x => τ' x + 556)) ⟨h', g', d, tk', os⟩) →
    codeAny (model prog w) A (K.code (cut K.n β) v) R ⟨h, g, d, tk, os⟩
noncomputable def Jd (ad x : Nat) : Nat := ad / 4096 ^ x % 4096
noncomputable def place (n ad m x : Nat) : Nat := match Nat.blt x n with
  | true => Jd ad x
  | false => m + (x - n)
theorem place_lt {n ad m x : Nat} (h : x < n) : place n ad m x = Jd ad x := by
  unfold place
  rw [show Nat.blt x n = true from Nat.ble_eq_true_of_le h]
theorem place_ge {n ad m x : Nat} (h : n ≤ x) : place n ad m x = m + (x - n) := by
  unfold place
  cases hb : Nat.blt x n with
  | true => exact absurd (blt_true hb) (Nat.not_lt.mpr h)
  | false => rfl
noncomputable def allB : Nat → (Nat → Bool) → Bool
  | 0, _ => true
  | n + 1, f => match f n with
    | true => allB n f
    | false => false
theorem allB_ok {f : Nat → Bool} : ∀ {n : Nat}, allB n f = true → ∀ x, x < n → f x = true
  | 0, _, x, h => absurd h (Nat.not_lt_zero _)
  | n + 1, e, x, h => by
    rw [allB] at e
    cases hf : f n with
    | false => rw [hf] at e; cases e
    | true =>
      rw [hf] at e
      rcases Nat.lt_or_ge x n with q | q
      · exact allB_ok e x q
      · rw [show x = n from by omega]; exact hf
noncomputable def goodB (n na ad m : Nat) : Bool := match allB n fun x => Nat.blt (Jd ad x) m with
  | false => false
  | true => match allB n fun x => allB x fun y => match Nat.beq (Jd ad x) (Jd ad y) with | true => false | false => true with
    | false => false
    | true => Nat.ble (m + na) 4096
theorem goodB_ok {n na ad m : Nat} (h : goodB n na ad m = true) : (∀ x, x < n → Jd ad x < m) ∧ (∀ x y, x < n → y < n → Jd ad x = Jd ad y → x = y) ∧ m + na ≤ 4096 := by
  unfold goodB at h
  split at h
  · cases h
  · rename_i h1
    split at h
    · cases h
    · rename_i h2
      have lt : ∀ x y, x < n → y < x → Jd ad x ≠ Jd ad y := fun x y hx hy e => by
        have := allB_ok (allB_ok h2 x hx) y hy
        rw [e, show Nat.beq (Jd ad y) (Jd ad y) = true from Nat.beq_refl _] at this
        cases this
      refine ⟨fun x hx => blt_true (allB_ok h1 x hx), fun x y hx hy e => ?_, Nat.le_of_ble_eq_true h⟩
      rcases Nat.lt_trichotomy x y with q | q | q
      · exact absurd e.symm (lt y x hy q)
      · exact q
      · exact absurd e (lt x y hx q)
noncomputable def preOs (T : ST) (J : Nat → Nat) : Nat → List Own → Obs
  | _, [] => []
  | x, p :: l => (.own (T.get (J x)), .own (some p)) :: preOs T J (x + 1) l
theorem preOs_ok {T : ST} {J : Nat → Nat} : ∀ {l : List Own} {k : Nat}, Obs.ok (preOs T J k l) → ∀ x w, l[x]? = some w → T.get (J (k + x)) = some w
  | [], _, _, x, w, e => by simp at e
  | p :: l, k, h, x, w, e => by
    obtain ⟨a, b⟩ := Obs.ok_cons h
    cases x with
    | zero =>
      have : p = w := by simpa using e
      subst this
      injection a
    | succ x =>
      have := preOs_ok b x w (by simpa using e)
      rw [show k + (x + 1) = k + 1 + x from by omega]; exact this
noncomputable def freeOs (T : ST) (m n : Nat) : List Nat → Obs
  | [] => []
  | x :: l => (.own (T.get (m + (x - n))), .own none) :: freeOs T m n l
theorem freeOs_ok {T : ST} {m n : Nat} : ∀ {l : List Nat}, Obs.ok (freeOs T m n l) → ∀ x ∈ l, T.get (m + (x - n)) = none
  | [], _, _, e => by cases e
  | p :: l, h, x, e => by
    obtain ⟨a, b⟩ := Obs.ok_cons h
    rcases List.mem_cons.mp e with q | q
    · subst q; injection a
    · exact freeOs_ok b x q
noncomputable def nmP (K : Con) (ad m : Nat) (β : Nat → Nat) : Nat → Nat := fun x => β (place K.n ad m x)
noncomputable def nmV (K : Con) (c : Code) (T : ST) (ad : Nat) : Nat → Nat := fun k => nthN (natsC c ++ natsT T (Jd ad) K.n 0) k
noncomputable def drp (keep : List Nat) (l : List (Nat × Own)) : List (Nat × Own) := l.filter fun p => match keep.elem p.1 with | true => false | false => true
theorem mem_drp {keep : List Nat} {l : List (Nat × Own)} {x : Nat} {w : Own} : (x, w) ∈ drp keep l ↔ (x, w) ∈ l ∧ x ∉ keep := by
  unfold drp
  rw [List.mem_filter]
  refine and_congr_right fun _ => ?_
  show (match keep.elem x with | true => false | false => true) = true ↔ _
  cases h : keep.elem x with
  | true => simp at h; simp [h]
  | false => simp at h; simp [h]
noncomputable def Con.L' (K : Con) (β v τ : Nat → Nat) : List (Nat × Own) :=
  drp K.keep (idx 0 (List.zipWith (fun p o => (p.1, o)) (K.pre (cut K.n β) v) (K.post β v τ))) ++ newL β K.sel (K.new β v τ)
noncomputable def Con.bigR (K : Con) (c : Code) (T : ST) (m i ad : Nat) : BigR where
  os β := (.code c, .code (K.code (cut K.n (nmP K ad m β)) (nmV K c T ad))) :: (.boo (goodB K.n K.na ad m), .boo true) :: (preOs T (Jd ad) 0 (K.pre (cut K.n (nmP K ad m β)) (nmV K c T ad)) ++ freeOs T m K.n K.sel)
  na := K.na
  nt := K.nt
  need := K.need
  ad := ad / 4096 ^ K.n
  res β τ := K.res (cut (K.n + K.na) (nmP K ad m β)) (nmV K c T ad) (cut K.nt fun x => τ (i + x) + 556)
  st β τ := putAll T (mapP (place K.n ad m) (K.L' (cut (K.n + K.na) (nmP K ad m β)) (nmV K c T ad) (cut K.nt fun x => τ (i + x) + 556)))
noncomputable def nmP' (n ad m : Nat) (β : Nat → Nat) : Nat → Nat := fun x => β (place n ad m x)
noncomputable def nmV' (n : Nat) (c : Code) (T : ST) (ad : Nat) : Nat → Nat := fun k => nthN (natsC c ++ natsT T (Jd ad) n 0) k
/-- the same, of its parts: so its numbers are plain numbers for the kernel -/
noncomputable def bigR' (n na nt need : Nat) (sel : List Nat) (code : (Nat → Nat) → (Nat → Nat) → Code) (pre : (Nat → Nat) → (Nat → Nat) → List Own) (res : (Nat → Nat) → (Nat → Nat) → (Nat → Nat) → Result)
    (post new : (Nat → Nat) → (Nat → Nat) → (Nat → Nat) → List Obj) (keep : List Nat) (c : Code) (T : ST) (m i ad : Nat) : BigR where
  os β := (.code c, .code (code (cut n (nmP' n ad m β)) (nmV' n c T ad))) :: (.boo (goodB n na ad m), .boo true) :: (preOs T (Jd ad) 0 (pre (cut n (nmP' n ad m β)) (nmV' n c T ad)) ++ freeOs T m n sel)
  na := na
  nt := nt
  need := need
  ad := ad / 4096 ^ n
  res β τ := res (cut (n + na) (nmP' n ad m β)) (nmV' n c T ad) (cut nt fun x => τ (i + x) + 556)
  st β τ := putAll T (mapP (place n ad m) (drp keep (idx 0 (List.zipWith (fun p o => (p.1, o)) (pre (cut n (cut (n + na) (nmP' n ad m β))) (nmV' n c T ad)) (post (cut (n + na) (nmP' n ad m β)) (nmV' n c T ad) (cut nt fun x => τ (i + x) + 556)))) ++ newL (cut (n + na) (nmP' n ad m β)) sel (new (cut (n + na) (nmP' n ad m β)) (nmV' n c T ad) (cut nt fun x => τ (i + x) + 556))))
theorem bigR'_eq (K : Con) (c : Code) (T : ST) (m i ad : Nat) : bigR' K.n K.na K.nt K.need K.sel K.code K.pre K.res K.post K.new K.keep c T m i ad = K.bigR c T m i ad := rfl
noncomputable def bigM (Ks : List Con) (d : Nat) (c : Code) (T : ST) (m i ad : Nat) : Option BigR := match Ks[d]? with
  | none => none
  | some K => match K with
    | ⟨n, na, nt, need, sel, code, pre, res, post, new, keep⟩ => some (bigR' n na nt need sel code pre res post new keep c T m i ad)
theorem cut_lt {n x : Nat} {f : Nat → Nat} (h : x < n) : cut n f x = f x := by
  unfold cut
  rw [show Nat.blt x n = true from Nat.ble_eq_true_of_le h]
theorem cut_ge {n x : Nat} {f : Nat → Nat} (h : n ≤ x) : cut n f x = 0 := by
  unfold cut
  cases hb : Nat.blt x n with
  | true => exact absurd (blt_true hb) (Nat.not_lt.mpr h)
  | false => rfl
theorem cut_same {n : Nat} {f g : Nat → Nat} (h : ∀ x, x < n → f x = g x) : cut n f = cut n g := by
  funext x
  rcases Nat.lt_or_ge x n with q | q
  · rw [cut_lt q, cut_lt q, h x q]
  · rw [cut_ge q, cut_ge q]
section
variable {K : Con} (wf : K.Wf)
include wf
theorem Con.L_cases {β v τ : Nat → Nat} {x : Nat} {w : Own} (h : (x, w) ∈ K.L β v τ) : (x < K.n ∧ ∃ o, (K.pre (cut K.n β) v)[x]? = some (w.1, o)) ∨ (x ∈ K.sel ∧ w.1 = β x + 259) := by
  unfold Con.L at h
  rcases List.mem_append.mp h with q | q
  · obtain ⟨_, e⟩ := mem_idx.mp q
    rw [Nat.sub_zero] at e
    obtain ⟨hx, _⟩ := List.getElem?_eq_some_iff.mp e
    rw [List.length_zipWith] at hx
    rw [List.getElem?_zipWith] at e
    have l1 := wf.pre (cut K.n β) v
    have l2 := wf.post β v τ
    have hx1 : x < (K.pre (cut K.n β) v).length := by omega
    have hx2 : x < (K.post β v τ).length := by omega
    rw [List.getElem?_eq_getElem hx1, List.getElem?_eq_getElem hx2] at e
    have e := Option.some.inj e
    refine .inl ⟨by omega, ((K.pre (cut K.n β) v)[x]).2, ?_⟩
    rw [List.getElem?_eq_getElem hx1, ← e]
  · exact .inr (mem_newL q)
theorem Con.L_one {β v τ : Nat → Nat} {x : Nat} {w w' : Own} (h : (x, w) ∈ K.L β v τ) (h' : (x, w') ∈ K.L β v τ) : w = w' := by
  unfold Con.L at h h'
  have lt : ∀ w, (x, w) ∈ idx 0 (List.zipWith (fun p o => (p.1, o)) (K.pre (cut K.n β) v) (K.post β v τ)) → x < K.n := fun w q => by
    obtain ⟨_, e⟩ := mem_idx.mp q
    obtain ⟨hx, _⟩ := List.getElem?_eq_some_iff.mp e
    rw [List.length_zipWith] at hx
    have l2 := wf.post β v τ
    omega
  rcases List.mem_append.mp h with q | q <;> rcases List.mem_append.mp h' with q' | q'
  · have := (mem_idx.mp q).2.symm.trans (mem_idx.mp q').2
    exact Option.some.inj this
  · have := (wf.sel _ (mem_newL q').1).1
    have := lt _ q
    omega
  · have := (wf.sel _ (mem_newL q).1).1
    have := lt _ q'
    omega
  · exact newL_one wf.nodup q q'
theorem Con.L_lt {β v τ : Nat → Nat} {x : Nat} {w : Own} (h : (x, w) ∈ K.L β v τ) : x < K.n + K.na := by
  rcases Con.L_cases wf h with q | q
  · omega
  · exact (wf.sel _ q.1).2
theorem Con.P_get {β v τ : Nat → Nat} {x : Nat} {w : Own} : (putAll .nil (K.L β v τ)).get x = some w ↔ (x, w) ∈ K.L β v τ := by
  rw [get_putAll _ _ _ fun p hp => Nat.lt_of_lt_of_le (Con.L_lt wf (w := p.2) (by exact hp)) wf.room]
  have key := getL_iff (L := K.L β v τ) (fun i w w' => Con.L_one wf) (i := x) (w := w)
  rw [← key]
  cases getL (K.L β v τ) x with
  | some y => rfl
  | none => simp [ST.get]
end
theorem idx_get {l : List Own} {x : Nat} {w : Own} (h : l.length ≤ 4096) : (putAll .nil (idx 0 l)).get x = some w ↔ l[x]? = some w := by
  have hm : ∀ {i w}, (i, w) ∈ idx 0 l ↔ l[i]? = some w := fun {i w} => by
    rw [mem_idx, Nat.sub_zero]; exact ⟨fun q => q.2, fun q => ⟨Nat.zero_le _, q⟩⟩
  rw [get_putAll _ _ _ fun p hp => by
    obtain ⟨q, _⟩ := List.getElem?_eq_some_iff.mp (hm.mp (show (p.1, p.2) ∈ idx 0 l from hp))
    omega]
  have key := getL_iff (L := idx 0 l) (fun i w w' a b => Option.some.inj ((hm.mp a).symm.trans (hm.mp b))) (i := x) (w := w)
  rw [← hm, ← key]
  cases getL (idx 0 l) x with
  | some y => rfl
  | none => simp [ST.get]
theorem RepS.congr {h₀ h : Heap} {n : Nat} {kt : KT} {T P : ST} (e : ∀ i, P.get i = T.get i) (R : RepS h₀ n kt h T) : RepS h₀ n kt h P :=
  ⟨R.grow, fun i a o q => R.fresh i a o (by rw [← e]; exact q), R.big, fun i a o q => R.own i a o (by rw [← e]; exact q), fun i j a o p q q' => R.inj i j a o p (by rw [← e]; exact q) (by rw [← e]; exact q'), R.stat,
   fun i a o q => R.apart i a o (by rw [← e]; exact q), fun b o q hn => R.keep b o q fun i o' => by rw [← e]; exact hn i o', R.lim⟩
theorem bigM_ok {V : XV} {kt : KT} {m₀ tk₀ : Nat} {Ks : List Con} (hK : ∀ K ∈ Ks, ConOk V.prog V.w kt K) (htk : 556 ≤ tk₀) :
    ∀ d c T m i ad b (β τ : Nat → Nat), bigM Ks d c T m i ad = some b → Obs.ok (b.os (cut m β)) → c.quiet = true ∧ ∀ (A : Around) h g tk (R : Result → Shared → Prop), A.handled = none → A.depth + b.need < recursionLimit → A.units + 2 * b.need < cLine → RepS V.h₀ m₀ kt h T → tk₀ ≤ tk →
    (∀ (β' τ' : Nat → Nat) h' (g' : Array GenState) tk', (∀ x, x < m → β' x = β x) → (∀ x, x < i → τ' x = τ x) → RepS V.h₀ m₀ kt h' (b.st (cut (m + b.na) β') (cut (i + b.nt) τ')) → g.size ≤ g'.size → GK g g' → tk ≤ tk' →
      R (b.res (cut (m + b.na) β') (cut (i + b.nt) τ')) ⟨h', g', V.d, tk', V.os⟩) →
    codeAny (model V.prog V.w) A c R ⟨h, g, V.d, tk, V.os⟩ := by
  intro d c T m i ad b β τ hb ok
  unfold bigM at hb
  cases hd : Ks[d]? with
  | none => rw [hd] at hb; cases hb
  | some K =>
    rw [hd] at hb
    have hb : some (bigR' K.n K.na K.nt K.need K.sel K.code K.pre K.res K.post K.new K.keep c T m i ad) = some b := hb
    rw [bigR'_eq] at hb
    cases hb
    obtain ⟨wf, S⟩ := hK K (List.mem_of_getElem? hd)
    obtain ⟨o1, ok⟩ := Obs.ok_cons ok
    obtain ⟨o2, ok⟩ := Obs.ok_cons ok
    obtain ⟨o3, o4⟩ := Obs.ok_append ok
    have o1 : c = K.code (cut K.n (nmP K ad m (cut m β))) (nmV K c T ad) := by injection o1
    obtain ⟨jlt, jinj, mle⟩ := goodB_ok (by injection o2 : goodB K.n K.na ad m = true)
    have o3 := preOs_ok o3
    have o4 := freeOs_ok o4
    have run := S (nmP K ad m (cut m β)) (nmV K c T ad)
    refine ⟨o1 ▸ wf.quiet _ _, fun A h g tk R ha hdep hun hR ht k => ?_⟩
    rw [o1]
    refine run A h g tk V.d V.os R ha hdep hun ?_ (Nat.le_trans htk ht) fun β₁ τ₁ h' g' tk' hβ R' hs hk htk' => ?_
    · refine RepS.start (p := Jd ad) hR (fun x w e => ?_) jinj
      rw [idx_get (by rw [wf.pre]; have := wf.room; omega)] at e
      refine ⟨?_, ?_⟩
      · obtain ⟨q, _⟩ := List.getElem?_eq_some_iff.mp e
        rw [wf.pre] at q; exact q
      · have := o3 x w e
        rwa [Nat.zero_add] at this
    · have e1 : cut (K.n + K.na) (nmP K ad m (cut (m + K.na) fun y => if y < m then β y else β₁ (y - m + K.n))) = cut (K.n + K.na) β₁ := cut_same fun x hx => by
        unfold nmP
        rcases Nat.lt_or_ge x K.n with q | q
        · have := jlt x q
          rw [place_lt q, cut_lt (by omega), if_pos this, hβ x q]
          unfold nmP
          rw [place_lt q, cut_lt this]
        · rw [place_ge q, cut_lt (by omega), if_neg (by omega), show m + (x - K.n) - m + K.n = x from by omega]
      have e2 : (cut K.nt fun x => (cut (i + K.nt) fun y => if y < i then τ y else τ₁ (y - i)) (i + x) + 556) = cut K.nt fun x => τ₁ x + 556 := cut_same fun x hx => by
        rw [cut_lt (by omega), if_neg (by omega), show i + x - i = x from by omega]
      have e3 : cut K.n (cut (K.n + K.na) β₁) = cut K.n (nmP K ad m (cut m β)) := cut_same fun x hx => by
        rw [cut_lt (by omega), hβ x hx]
      have := k (fun y => if y < m then β y else β₁ (y - m + K.n)) (fun y => if y < i then τ y else τ₁ (y - i)) h' g' tk' (fun x hx => if_pos hx) (fun x hx => if_pos hx)
      simp only [Con.bigR] at this
      rw [e1, e2] at this
      refine this ?_ hs hk htk'
      have inj : ∀ x y, x < K.n + K.na → y < K.n + K.na → place K.n ad m x = place K.n ad m y → x = y := fun x y hx hy e => by
        rcases Nat.lt_or_ge x K.n with q | q <;> rcases Nat.lt_or_ge y K.n with q' | q'
        · rw [place_lt q, place_lt q'] at e; exact jinj x y q q' e
        · rw [place_lt q, place_ge q'] at e; have := jlt x q; omega
        · rw [place_ge q, place_lt q'] at e; have := jlt y q'; omega
        · rw [place_ge q, place_ge q'] at e; omega
      have mlt : ∀ p ∈ mapP (place K.n ad m) (K.L (cut (K.n + K.na) β₁) (nmV K c T ad) (cut K.nt fun x => τ₁ x + 556)), p.1 < 4096 := fun p hp => by
        obtain ⟨x, hx, e⟩ := mem_mapP.mp (show (p.1, p.2) ∈ _ from hp)
        have := Con.L_lt wf hx
        rw [← e]
        rcases Nat.lt_or_ge x K.n with q | q
        · rw [place_lt q]; have := jlt x q; omega
        · rw [place_ge q]; omega
      have mone : ∀ i w w', (i, w) ∈ mapP (place K.n ad m) (K.L (cut (K.n + K.na) β₁) (nmV K c T ad) (cut K.nt fun x => τ₁ x + 556)) → (i, w') ∈ mapP (place K.n ad m) (K.L (cut (K.n + K.na) β₁) (nmV K c T ad) (cut K.nt fun x => τ₁ x + 556)) → w = w' := fun i w w' a b => by
        obtain ⟨x, hx, ex⟩ := mem_mapP.mp a
        obtain ⟨y, hy, ey⟩ := mem_mapP.mp b
        have := inj x y (Con.L_lt wf hx) (Con.L_lt wf hy) (ex.trans ey.symm)
        subst this
        exact Con.L_one wf hx hy
      have dd : ∀ x a o, (x, (a, o)) ∈ K.L (cut (K.n + K.na) β₁) (nmV K c T ad) (cut K.nt fun x => τ₁ x + 556) → x < K.n → ∃ o', T.get (place K.n ad m x) = some (a, o') := fun x a o hx hn => by
        rcases Con.L_cases wf hx with ⟨_, o', e⟩ | ⟨q, _⟩
        · rw [e3] at e
          have := o3 x _ e
          rw [Nat.zero_add] at this
          rw [place_lt hn]
          exact ⟨o', this⟩
        · have := (wf.sel _ q).1
          omega
      have fresh : ∀ x a o, (x, (a, o)) ∈ K.L (cut (K.n + K.na) β₁) (nmV K c T ad) (cut K.nt fun x => τ₁ x + 556) → K.n ≤ x → T.get (place K.n ad m x) = none := fun x a o hx hn => by
        rcases Con.L_cases wf hx with ⟨q, _⟩ | ⟨q, _⟩
        · omega
        · rw [place_ge hn]; exact o4 x q
      have hfull : RepS V.h₀ m₀ kt h' (putAll T (mapP (place K.n ad m) (K.L (cut (K.n + K.na) β₁) (nmV K c T ad) (cut K.nt fun x => τ₁ x + 556)))) → RepS V.h₀ m₀ kt h' (putAll T (mapP (place K.n ad m) (K.L' (cut (K.n + K.na) β₁) (nmV K c T ad) (cut K.nt fun x => τ₁ x + 556)))) := fun F => by
        have sub : ∀ x w, (x, w) ∈ K.L' (cut (K.n + K.na) β₁) (nmV K c T ad) (cut K.nt fun x => τ₁ x + 556) → (x, w) ∈ K.L (cut (K.n + K.na) β₁) (nmV K c T ad) (cut K.nt fun x => τ₁ x + 556) := fun x w q => by
          unfold Con.L' at q
          unfold Con.L
          rcases List.mem_append.mp q with q | q
          · exact List.mem_append_left _ (mem_drp.mp q).1
          · exact List.mem_append_right _ q
        refine RepS.congr (fun i => ?_) F
        rw [get_putAll _ _ _ mlt, get_putAll _ _ _ fun p hp => ?_]
        · cases hg : getL (mapP (place K.n ad m) (K.L (cut (K.n + K.na) β₁) (nmV K c T ad) (cut K.nt fun x => τ₁ x + 556))) i with
          | none =>
            cases hg' : getL (mapP (place K.n ad m) (K.L' (cut (K.n + K.na) β₁) (nmV K c T ad) (cut K.nt fun x => τ₁ x + 556))) i with
            | none => rfl
            | some w =>
              obtain ⟨x, hx, ex⟩ := mem_mapP.mp (getL_mem hg')
              obtain ⟨w', e'⟩ := getL_some (mem_mapP.mpr ⟨x, sub x w hx, ex⟩)
              rw [hg] at e'; cases e'
          | some w =>
            obtain ⟨x, hx, ex⟩ := mem_mapP.mp (getL_mem hg)
            by_cases hk : x ∈ K.keep ∧ x < K.n
            · have hn : getL (mapP (place K.n ad m) (K.L' (cut (K.n + K.na) β₁) (nmV K c T ad) (cut K.nt fun x => τ₁ x + 556))) i = none := by
                cases hg' : getL (mapP (place K.n ad m) (K.L' (cut (K.n + K.na) β₁) (nmV K c T ad) (cut K.nt fun x => τ₁ x + 556))) i with
                | none => rfl
                | some w' =>
                  obtain ⟨y, hy, ey⟩ := mem_mapP.mp (getL_mem hg')
                  have hxy := inj x y (Con.L_lt wf hx) (Con.L_lt wf (sub _ _ hy)) (ex.trans ey.symm)
                  subst hxy
                  unfold Con.L' at hy
                  rcases List.mem_append.mp hy with q | q
                  · exact absurd hk.1 (mem_drp.mp q).2
                  · have := (wf.sel _ (mem_newL q).1).1
                    omega
              rw [hn]
              have hs := wf.same (cut (K.n + K.na) β₁) (nmV K c T ad) (cut K.nt fun x => τ₁ x + 556)
              have hs := List.map_inj_left.mp hs x hk.1
              have l1 := wf.pre (cut K.n (cut (K.n + K.na) β₁)) (nmV K c T ad)
              have l2 := wf.post (cut (K.n + K.na) β₁) (nmV K c T ad) (cut K.nt fun x => τ₁ x + 556)
              have hx1 : x < (K.pre (cut K.n (cut (K.n + K.na) β₁)) (nmV K c T ad)).length := by omega
              have hx2 : x < (K.post (cut (K.n + K.na) β₁) (nmV K c T ad) (cut K.nt fun x => τ₁ x + 556)).length := by omega
              have hw : w = ((K.pre (cut K.n (cut (K.n + K.na) β₁)) (nmV K c T ad))[x].1, (K.post (cut (K.n + K.na) β₁) (nmV K c T ad) (cut K.nt fun x => τ₁ x + 556))[x]) := by
                have hm : (x, ((K.pre (cut K.n (cut (K.n + K.na) β₁)) (nmV K c T ad))[x].1, (K.post (cut (K.n + K.na) β₁) (nmV K c T ad) (cut K.nt fun x => τ₁ x + 556))[x])) ∈ K.L (cut (K.n + K.na) β₁) (nmV K c T ad) (cut K.nt fun x => τ₁ x + 556) := by
                  unfold Con.L
                  refine List.mem_append_left _ (mem_idx.mpr ⟨Nat.zero_le _, ?_⟩)
                  rw [Nat.sub_zero, List.getElem?_zipWith, List.getElem?_eq_getElem hx1, List.getElem?_eq_getElem hx2]
                exact Con.L_one wf hx hm
              rw [List.getElem?_eq_getElem hx1, List.getElem?_eq_getElem hx2, Option.map_some] at hs
              have hs := Option.some.inj hs
              have hpre := o3 x (K.pre (cut K.n (cut (K.n + K.na) β₁)) (nmV K c T ad))[x] (by rw [← e3]; exact List.getElem?_eq_getElem hx1)
              rw [Nat.zero_add] at hpre
              rw [← ex, place_lt hk.2]
              show T.get (Jd ad x) = some w
              rw [hpre, hw, hs]
            · have hx' : (x, w) ∈ K.L' (cut (K.n + K.na) β₁) (nmV K c T ad) (cut K.nt fun x => τ₁ x + 556) := by
                unfold Con.L at hx
                unfold Con.L'
                rcases List.mem_append.mp hx with q | q
                · refine List.mem_append_left _ (mem_drp.mpr ⟨q, fun hkp => hk ⟨hkp, ?_⟩⟩)
                  obtain ⟨_, e⟩ := mem_idx.mp q
                  obtain ⟨hx, _⟩ := List.getElem?_eq_some_iff.mp e
                  rw [List.length_zipWith] at hx
                  have l2 := wf.post (cut (K.n + K.na) β₁) (nmV K c T ad) (cut K.nt fun x => τ₁ x + 556)
                  omega
                · exact List.mem_append_right _ q
              have : getL (mapP (place K.n ad m) (K.L' (cut (K.n + K.na) β₁) (nmV K c T ad) (cut K.nt fun x => τ₁ x + 556))) i = some w := by
                refine (getL_iff fun i w w' a b => ?_).mpr (mem_mapP.mpr ⟨x, hx', ex⟩)
                obtain ⟨y, hy, ey⟩ := mem_mapP.mp a
                obtain ⟨z, hz, ez⟩ := mem_mapP.mp b
                exact mone i w w' (mem_mapP.mpr ⟨y, sub _ _ hy, ey⟩) (mem_mapP.mpr ⟨z, sub _ _ hz, ez⟩)
              rw [this]
        · obtain ⟨x, hx, e⟩ := mem_mapP.mp (show (p.1, p.2) ∈ _ from hp)
          exact mlt (p.1, p.2) (mem_mapP.mpr ⟨x, sub _ _ hx, e⟩)
      refine hfull (RepS.call (p := place K.n ad m) hR R' (fun i w e => ?_) (fun i a o e => ?_) (fun x w e => ?_) (fun x a o e hn => dd x a o ((Con.P_get wf).mp e) hn))
      · rw [get_putAll _ _ _ mlt] at e
        cases hg : getL (mapP (place K.n ad m) (K.L (cut (K.n + K.na) β₁) (nmV K c T ad) (cut K.nt fun x => τ₁ x + 556))) i with
        | some y =>
          rw [hg] at e
          cases e
          obtain ⟨x, hx, ex⟩ := mem_mapP.mp (getL_mem hg)
          exact .inl ⟨x, ex, (Con.P_get wf).mpr hx⟩
        | none =>
          rw [hg] at e
          refine .inr ⟨e, fun x w' ex q => ?_⟩
          obtain ⟨w₂, e₂⟩ := getL_some (mem_mapP.mpr ⟨x, (Con.P_get wf).mp ex, q⟩)
          rw [hg] at e₂; cases e₂
      · cases hg : getL (mapP (place K.n ad m) (K.L (cut (K.n + K.na) β₁) (nmV K c T ad) (cut K.nt fun x => τ₁ x + 556))) i with
        | none => exact ⟨i, o, by rw [get_putAll _ _ _ mlt, hg]; exact e⟩
        | some y =>
          obtain ⟨a', o'⟩ := y
          obtain ⟨x, hx, ex⟩ := mem_mapP.mp (getL_mem hg)
          rcases Nat.lt_or_ge x K.n with q | q
          · obtain ⟨o₂, e₂⟩ := dd x a' o' hx q
            rw [ex, e] at e₂
            cases e₂
            exact ⟨i, o', by rw [get_putAll _ _ _ mlt, hg]⟩
          · have := fresh x a' o' hx q
            rw [ex, e] at this; cases this
      · have : getL (mapP (place K.n ad m) (K.L (cut (K.n + K.na) β₁) (nmV K c T ad) (cut K.nt fun x => τ₁ x + 556))) (place K.n ad m x) = some w := (getL_iff mone).mpr (mem_mapP.mpr ⟨x, (Con.P_get wf).mp e, rfl⟩)
        rw [get_putAll _ _ _ mlt, this]
noncomputable def pRow (P : Params) (b : Bool) : Params := { P with followText := fun r => if r = "special-get-raises" then b else P.followText r }
theorem pRow_one (P : Params) : P = pRow P true ∨ P = pRow P false := by
  have key : ∀ b, P.followText "special-get-raises" = b → P = pRow P b := fun b h => by
    unfold pRow
    have : (fun r => if r = "special-get-raises" then b else P.followText r) = P.followText := by
      funext r
      by_cases e : r = "special-get-raises"
      · rw [if_pos e, e, h]
      · rw [if_neg e]
    rw [this]
  cases h : P.followText "special-get-raises" with
  | true => exact .inl (key _ h)
  | false => exact .inr (key _ h)
noncomputable def dM (prog : Program) (P : Params) (kt : KT) (ids : List String) (Ks : List Con) (need : Nat) : Par :=
  ⟨prog, P, pRow P true, pRow P false, kt, denM ids ruleY, roomM, need, bigM Ks⟩
theorem hyp_M {V : XV} {kt : KT} {ids : List String} {Ks : List Con} {need m₀ tk₀ : Nat} {g₀ : Array GenState} (hi : idsOk ids = true) (hk : (kt.get cStatics).isSome = true) (hK : ∀ K ∈ Ks, ConOk V.prog V.w kt K)
    (hh : V.A₀.handled = none) (hd : V.A₀.depth + need < recursionLimit) (hu : V.A₀.units + 2 * need < cLine) (ht : 556 ≤ tk₀) : Hyp V (dM V.prog V.w.params kt ids Ks need) m₀ g₀ tk₀ where
  prog := rfl
  P := rfl
  row := pRow_one _
  hand := hh
  depth := hd
  units := hu
  toks := ht
  stc := hk
  den := fun d c T ad rk p h ok => denM_ok hi (ruleY_ok hh hd hu) d c T ad rk p h ok
  room := fun d u h => roomM_ok d u h
  big := bigM_ok hK ht

/-! ## a contract out of one run -/
noncomputable abbrev HalfL := Option (Result × List (Option Own) × List Sd)
noncomputable def Out.oneL (L : List (Nat × Own)) : Out → HalfL
  | .fin r T _ os => some (r, L.map (fun p => T.get p.1), os.map (·.1))
  | .bad _ => none
noncomputable def Out.twoL (r : Result) (L : List (Nat × Own)) : Out → HalfL
  | .fin _ _ _ os => some (r, L.map (fun p => some p.2), os.map (·.2))
  | .bad _ => some (r, [], [])
theorem Out.endsL {x : Out} {r : Result} {L : List (Nat × Own)} (h : x.oneL L = x.twoL r L) : ∃ T gl os, x = .fin r T gl os ∧ (∀ p ∈ L, T.get p.1 = some p.2) ∧ Obs.ok os := by
  cases x with
  | bad n => simp [Out.oneL, Out.twoL] at h
  | fin r' T gl os =>
    simp only [Out.oneL, Out.twoL, Option.some.injEq, Prod.mk.injEq] at h
    obtain ⟨rfl, h2, h3⟩ := h
    exact ⟨T, gl, os, rfl, List.map_inj_left.mp h2, Obs.ok_of h3⟩
noncomputable def run' (prog : Program) (P : Params) (kt : KT) (ids : List String) (Ks : List Con) (n need : Nat) (code : (Nat → Nat) → (Nat → Nat) → Code) (pre : (Nat → Nat) → (Nat → Nat) → List Own) (fuel ad cd : Nat) (β v τ γ : Nat → Nat) (σ : Nat → Pos × Stk) : Out :=
  goC (dM prog P kt ids Ks need) (simS (dM prog P kt ids Ks need) β τ γ σ fuel) (cd % 256) (code (cut n β) v) none .base (putAll .nil (idx 0 (pre (cut n β) v))) n 0 ad (cd / 256) 0 [] []
noncomputable def Con.run (prog : Program) (P : Params) (kt : KT) (ids : List String) (Ks : List Con) (K : Con) (fuel ad cd : Nat) (β v τ γ : Nat → Nat) (σ : Nat → Pos × Stk) : Out :=
  match K with
  | ⟨n, _, _, need, _, code, pre, _, _, _, _⟩ => run' prog P kt ids Ks n need code pre fuel ad cd β v τ γ σ
noncomputable def Con.eqn (prog : Program) (P : Params) (kt : KT) (ids : List String) (Ks : List Con) (K : Con) (fuel ad cd : Nat) (β v τ γ : Nat → Nat) (σ : Nat → Pos × Stk) : Prop :=
  Out.oneL (K.L (cut (K.n + K.na) β) v (cut K.nt fun x => τ x + 556)) (K.run prog P kt ids Ks fuel ad cd β v τ γ σ) =
    Out.twoL (K.res (cut (K.n + K.na) β) v (cut K.nt fun x => τ x + 556)) (K.L (cut (K.n + K.na) β) v (cut K.nt fun x => τ x + 556)) (K.run prog P kt ids Ks fuel ad cd β v τ γ σ)
noncomputable def badST : ST := putAll .nil [(0, (0, default)), (1, (0, default))]
theorem badST_not {h₀ : Heap} {m₀ : Nat} {kt : KT} {h : Heap} (R : RepS h₀ m₀ kt h badST) : False := by
  have := R.inj 0 1 0 default default rfl rfl
  cases this
theorem L_all {K : Con} (wf : K.Wf) {β v τ : Nat → Nat} {i : Nat} (h : i < K.n) : ∃ w, (i, w) ∈ K.L β v τ := by
  have l1 := wf.pre (cut K.n β) v
  have l2 := wf.post β v τ
  refine ⟨_, List.mem_append_left _ (mem_idx.mpr ⟨Nat.zero_le _, List.getElem?_eq_getElem ?_⟩)⟩
  rw [List.length_zipWith]
  omega
noncomputable def Agree (n : Nat) (β β' : Nat → Nat) : Prop := ∀ x, x < n → β' x = β x
open Classical in
theorem con_of_runs {prog : Program} {w : World} {kt : KT} {ids : List String} {K : Con} (wf : K.Wf) (hi : idsOk ids = true) (hk : (kt.get cStatics).isSome = true)
    (H : ∀ v : Nat → Nat, ∃ (Ks : List Con) (fuel ad cd : Nat), (∀ K ∈ Ks, ConOk prog w kt K) ∧ ∀ β τ γ σ, Con.eqn prog w.params kt ids Ks K fuel ad cd β v τ γ σ) : ConOk prog w kt K := by
  refine ⟨wf, fun β v A h g tk d os R ha hd hu hR ht k => ?_⟩
  obtain ⟨Ks, fuel, ad, cd, hK, e⟩ := H v
  let V : XV := ⟨prog, w, h, 0, kt, [], A, R, d, 0, os⟩
  let D := dM prog w.params kt ids Ks K.need
  have Y : Hyp V D K.n g tk := hyp_M hi hk hK ha hd hu ht
  let T₀ := putAll .nil (idx 0 (K.pre (cut K.n β) v))
  let run : Rn := fun β' τ γ σ => goC D (simS D β' τ γ σ fuel) (cd % 256) (K.code (cut K.n β) v) none .base T₀ K.n 0 ad (cd / 256) 0 [] []
  have hrun : ∀ β' τ γ σ, Agree K.n β β' → run β' τ γ σ = K.run prog w.params kt ids Ks fuel ad cd β' v τ γ σ := fun β' τ γ σ ag => by
    have : cut K.n β = cut K.n β' := cut_same fun x hx => (ag x hx).symm
    show goC _ _ _ (K.code (cut K.n β) v) _ _ (putAll .nil (idx 0 (K.pre (cut K.n β) v))) _ _ _ _ _ _ _ = _
    rw [this]; rfl
  let rf : (Nat → Nat) → (Nat → Nat) → (Nat → Nat) → (Nat → Pos × Stk) → Result := fun β' τ _ _ => K.res (cut (K.n + K.na) β') v (cut K.nt fun x => τ x + 556)
  let Tf : (Nat → Nat) → (Nat → Nat) → (Nat → Nat) → (Nat → Pos × Stk) → ST := fun β' τ γ σ => if Agree K.n β β' then (match run β' τ γ σ with | .fin _ T _ _ => T | .bad _ => .nil) else badST
  let gf : (Nat → Nat) → (Nat → Nat) → (Nat → Nat) → (Nat → Pos × Stk) → Gls := fun β' τ γ σ => match run β' τ γ σ with | .fin _ _ gl _ => gl | .bad _ => []
  have get : ∀ β' τ γ σ, Agree K.n β β' → ∃ T gl o, run β' τ γ σ = .fin (rf β' τ γ σ) T gl o ∧ (∀ p ∈ K.L (cut (K.n + K.na) β') v (cut K.nt fun x => τ x + 556), T.get p.1 = some p.2) ∧ Obs.ok o := fun β' τ γ σ ag => by
    have q := e β' τ γ σ
    unfold Con.eqn at q
    rw [← hrun β' τ γ σ ag] at q
    exact Out.endsL q
  have H : Ends rf Tf gf (β, fun _ => 0, fun _ => 0, fun _ => default) run K.n 0 0 0 := fun β' τ γ σ a _ _ _ => by
    obtain ⟨T, gl, o, er, _, ok⟩ := get β' τ γ σ a
    refine ⟨o, ?_, ok⟩
    rw [er]
    have eT : Tf β' τ γ σ = T := by
      show (if Agree K.n β β' then _ else _) = _
      rw [if_pos (show Agree K.n β β' from a), er]
    have eg : gf β' τ γ σ = gl := by
      show (match run β' τ γ σ with | .fin _ _ gl _ => gl | .bad _ => []) = _
      rw [er]
    rw [eT, eg]
  have hE : ∀ β' τ γ σ h' g' tk', RepS V.h₀ K.n D.kt h' (Tf β' τ γ σ) → RepG g g' (gf β' τ γ σ) → tk ≤ tk' → V.R₀ (rf β' τ γ σ) ⟨h', g', V.d, tk', V.os⟩ := fun β' τ γ σ h' g' tk' R' G' ht' => by
    by_cases ag : Agree K.n β β'
    · obtain ⟨T, gl, o, er, hT, _⟩ := get β' τ γ σ ag
      have eT : Tf β' τ γ σ = T := by
        show (if Agree K.n β β' then _ else _) = _
        rw [if_pos ag, er]
      rw [eT] at R'
      refine k β' τ h' g' tk' ag (RepS.sub R' (fun i w hw => hT _ ((Con.P_get wf).mp hw)) fun i a o' hi' hn => ?_) G'.size G'.gk ht'
      obtain ⟨w', hw'⟩ := L_all wf (β := cut (K.n + K.na) β') (v := v) (τ := cut K.nt fun x => τ x + 556) hn
      have := hT _ hw'
      rw [hi'] at this
      have := Option.some.inj this
      exact ⟨o', (Con.P_get wf).mpr (by rw [this]; exact hw')⟩
    · have eT : Tf β' τ γ σ = badST := if_neg ag
      rw [eT] at R'
      exact (badST_not R').elim
  have z := (goC_sound Y (simS_sound Y hE fuel) (ρ := (β, fun _ => 0, fun _ => 0, fun _ => default)) (os := []) (gl := []) (T := T₀) (md := none) (κ := .base) H trivial (h := h) (g := g) (tk := tk) hR (RepG.start g) (Nat.le_refl _)).2
  exact y_code _ _ _ _ _ _ z
theorem con_of_run {prog : Program} {w : World} {kt : KT} {ids : List String} {Ks : List Con} {K : Con} (fuel ad cd : Nat) (wf : K.Wf) (hi : idsOk ids = true) (hk : (kt.get cStatics).isSome = true) (hK : ∀ K ∈ Ks, ConOk prog w kt K)
    (e : ∀ β v τ γ σ, Con.eqn prog w.params kt ids Ks K fuel ad cd β v τ γ σ) : ConOk prog w kt K :=
  con_of_runs wf hi hk fun v => ⟨Ks, fuel, ad, cd, hK, fun β τ γ σ => e β v τ γ σ⟩
/-- a builtin that gives a value back and leaves all as it was -/
noncomputable def primK (id : String) (args : (Nat → Nat) → List Value) (nt : Nat) (r : (Nat → Nat) → Nat → Value) : Con where
  n := 0
  na := 0
  nt := nt
  need := 5
  sel := []
  code _ v := .call (.builtin id) ⟨args v, []⟩
  pre _ _ := []
  res _ v t := .ok (.ret (r v (t 0)))
  post _ _ _ := []
  new _ _ _ := []
theorem primK_wf {id : String} {args : (Nat → Nat) → List Value} {nt : Nat} {r : (Nat → Nat) → Nat → Value} : (primK id args nt r).Wf :=
  ⟨(by show 0 + 0 ≤ 4096; decide), fun x h => (by cases h), List.nodup_nil, fun _ _ => rfl, fun _ _ _ => rfl, fun _ _ => rfl, fun _ _ _ => rfl⟩
section
variable {prog : Program} {w : World} {kt : KT} {T : String} {name : Str} {id : String} {B : Builtin} {self : (Nat → Nat) → Value} {rest : (Nat → Nat) → List Value}
theorem primK_val {r : (Nat → Nat) → Value} (slot : Slot T name id) (hT : ∀ s v, Shared.TypeIs s (self v) T) (entry : entryFor table id = some B) (args : ∀ v, argsOk id ⟨self v :: rest v, []⟩) (g : ∀ v, Gives (B ⟨self v :: rest v, []⟩) (.val (r v))) :
    ConOk prog w kt (primK id (fun v => self v :: rest v) 0 fun v _ => r v) := by
  refine ⟨primK_wf, fun β v A h gs tk d os R ha hd hu hR ht k => ?_⟩
  refine codeAny_call_builtin slot.plain entry (slot.check _ _ _ _ _ _ _ _ (hT _ v) (args v) (g v prog w A R _ ?_))
  exact k β (fun _ => tk) h gs tk (fun x hx => absurd hx (Nat.not_lt_zero _)) hR (Nat.le_refl _) (GK.refl _) (Nat.le_refl _)
theorem tk_cut {tk : Nat} (h : 556 ≤ tk) : cut 1 (fun x => (fun _ : Nat => tk - 556) x + 556) 0 = tk := by
  show tk - 556 + 556 = tk
  omega
theorem primK_int {z : (Nat → Nat) → Int} (slot : Slot T name id) (hT : ∀ s v, Shared.TypeIs s (self v) T) (entry : entryFor table id = some B) (args : ∀ v, argsOk id ⟨self v :: rest v, []⟩) (g : ∀ v, Gives (B ⟨self v :: rest v, []⟩) (.int (z v))) :
    ConOk prog w kt (primK id (fun v => self v :: rest v) 1 fun v t => .int (z v) t) := by
  refine ⟨primK_wf, fun β v A h gs tk d os R ha hd hu hR ht k => ?_⟩
  refine codeAny_call_builtin slot.plain entry (slot.check _ _ _ _ _ _ _ _ (hT _ v) (args v) (g v prog w A R _ ?_))
  have := k β (fun _ => tk - 556) h gs (tk + 1) (fun x hx => absurd hx (Nat.not_lt_zero _)) hR (Nat.le_refl _) (GK.refl _) (Nat.le_succ _)
  simp only [primK] at this
  rw [tk_cut ht] at this
  exact this
theorem primK_float {z : (Nat → Nat) → UInt64} (slot : Slot T name id) (hT : ∀ s v, Shared.TypeIs s (self v) T) (entry : entryFor table id = some B) (args : ∀ v, argsOk id ⟨self v :: rest v, []⟩) (g : ∀ v, Gives (B ⟨self v :: rest v, []⟩) (.float (z v))) :
    ConOk prog w kt (primK id (fun v => self v :: rest v) 1 fun v t => .float (z v) t) := by
  refine ⟨primK_wf, fun β v A h gs tk d os R ha hd hu hR ht k => ?_⟩
  refine codeAny_call_builtin slot.plain entry (slot.check _ _ _ _ _ _ _ _ (hT _ v) (args v) (g v prog w A R _ ?_))
  have := k β (fun _ => tk - 556) h gs (tk + 1) (fun x hx => absurd hx (Nat.not_lt_zero _)) hR (Nat.le_refl _) (GK.refl _) (Nat.le_succ _)
  simp only [primK] at this
  rw [tk_cut ht] at this
  exact this
end
section
variable (prog : Program) (w : World) (kt : KT)
noncomputable def cmpC (id : String) (x y : Int) (r : Bool) : Con := primK id (fun v => [.int x (v 0), .int y (v 2)]) 0 fun _ _ => .bool r
noncomputable def opC (id : String) (x y z : Int) : Con := primK id (fun v => [.int x (v 0), .int y (v 2)]) 1 fun _ t => .int z t
noncomputable def eqC (x y : Int) (r : Bool) : Con := cmpC "int.__eq__" x y r
noncomputable def neC (x y : Int) (r : Bool) : Con := cmpC "int.__ne__" x y r
noncomputable def ltC (x y : Int) (r : Bool) : Con := cmpC "int.__lt__" x y r
noncomputable def gtC (x y : Int) (r : Bool) : Con := cmpC "int.__gt__" x y r
noncomputable def powC (x y z : Int) : Con := opC "int.__pow__" x y z
noncomputable def divC (x y z : Int) : Con := opC "int.__floordiv__" x y z
noncomputable def mulC (x y z : Int) : Con := opC "int.__mul__" x y z
noncomputable def truC (x y : Int) (f : UInt64) : Con := primK "int.__truediv__" (fun v => [.int x (v 0), .int y (v 2)]) 1 fun _ t => .float f t
noncomputable def fmuC (x : UInt64) (y : Int) (f : UInt64) : Con := primK "float.__mul__" (fun v => [.float x (v 0), .int y (v 1)]) 1 fun _ t => .float f t
variable {prog w kt}
theorem eqC_ok {x y : Int} {r : Bool} (h : (x == y) = r) : ConOk prog w kt (eqC x y r) :=
  primK_val (self := fun v => .int x (v 0)) (rest := fun v => [.int y (v 2)]) F.slot_int_eq (fun s v => typeIs_int s _ _) F.entry_int_eq (fun v => F.args_int_eq_2 _ _) fun v => by
    rw [← h]; exact AutoIntG7.int___eq___int_int_0 x (v 0) y (v 2)
theorem neC_ok {x y : Int} {r : Bool} (h : (x != y) = r) : ConOk prog w kt (neC x y r) :=
  primK_val (self := fun v => .int x (v 0)) (rest := fun v => [.int y (v 2)]) F.slot_int_ne (fun s v => typeIs_int s _ _) F.entry_int_ne (fun v => F.args_int_ne_2 _ _) fun v => by
    rw [← h]; exact AutoIntG6.int___ne___int_int_0 x (v 0) y (v 2)
theorem ltC_ok {x y : Int} {r : Bool} (h : decide (x < y) = r) : ConOk prog w kt (ltC x y r) :=
  primK_val (self := fun v => .int x (v 0)) (rest := fun v => [.int y (v 2)]) F.slot_int_lt (fun s v => typeIs_int s _ _) F.entry_int_lt (fun v => F.args_int_lt_2 _ _) fun v => by
    rw [← h]; exact AutoIntG1.int___lt___int_int_0 x (v 0) y (v 2)
theorem gtC_ok {x y : Int} {r : Bool} (h : decide (x > y) = r) : ConOk prog w kt (gtC x y r) :=
  primK_val (self := fun v => .int x (v 0)) (rest := fun v => [.int y (v 2)]) F.slot_int_gt (fun s v => typeIs_int s _ _) F.entry_int_gt (fun v => F.args_int_gt_2 _ _) fun v => by
    rw [← h]; exact AutoIntG4.int___gt___int_int_0 x (v 0) y (v 2)
theorem divC_ok {x y z : Int} (h0 : ¬(y == 0) = true) (h1 : ¬(Builtin.divisionGoesByPylong x y) = true) (h : x.fdiv y = z) : ConOk prog w kt (divC x y z) :=
  primK_int (self := fun v => .int x (v 0)) (rest := fun v => [.int y (v 2)]) (z := fun _ => z) F.slot_int_floordiv (fun s v => typeIs_int s _ _) F.entry_int_floordiv (fun v => F.args_int_floordiv_2 _ _) fun v => by
    rw [← h]; exact AutoIntG4.int___floordiv___int_int_1 x (v 0) y (v 2) h0 h1
theorem mulC_ok {x y z : Int} (hm : IntMulOk x y) (h : x * y = z) : ConOk prog w kt (mulC x y z) :=
  primK_int (self := fun v => .int x (v 0)) (rest := fun v => [.int y (v 2)]) (z := fun _ => z) F.slot_int_mul (fun s v => typeIs_int s _ _) F.entry_int_mul (fun v => F.args_int_mul_2 _ _) fun v => by
    rw [← h]; exact AutoIntG1.int___mul___int_int_0 x (v 0) y (v 2) hm
theorem powC_ok {n : Nat} {z : Int} (h0 : n = 0 ∨ ¬ Builtin.Int.intTooBig (((Builtin.Int.intBits 2 : Nat) : Int) * (n : Int)) = true) (h : (2 : Int) ^ n = z) : ConOk prog w kt (powC 2 n z) :=
  primK_int (self := fun v => .int 2 (v 0)) (rest := fun v => [.int (n : Int) (v 2)]) (z := fun _ => z) F.slot_int_pow (fun s v => typeIs_int s _ _) F.entry_int_pow (fun v => F.args_int_pow_2 _ _) fun v => by
    rcases h0 with h0 | h0
    · subst h0
      rw [← h]
      exact AutoIntG9.int___pow___int_int_0 2 (v 0) 0 (v 2) (by decide) (by decide)
    · rcases Nat.eq_zero_or_pos n with q | q
      · subst q
        rw [← h]
        exact AutoIntG9.int___pow___int_int_0 2 (v 0) 0 (v 2) (by decide) (by decide)
      · have := AutoIntG2.int___pow___int_int_4 2 (v 0) (n : Int) (v 2) (Int.natCast_nonneg _) (by simp; omega) (by decide) (by decide) h0
        rw [Int.toNat_natCast, h] at this
        exact this
theorem truC_ok {x y : Int} {f : UInt64} (h0 : ¬(y == 0) = true) (h1 : ¬Float64.isInf (Float64.ofFrac (decide (x < 0) != decide (y < 0)) x.natAbs y.natAbs) = true) (h : Float64.ofFrac (decide (x < 0) != decide (y < 0)) x.natAbs y.natAbs = f) : ConOk prog w kt (truC x y f) :=
  primK_float (self := fun v => .int x (v 0)) (rest := fun v => [.int y (v 2)]) (z := fun _ => f) F.slot_int_truediv (fun s v => typeIs_int s _ _) F.entry_int_truediv (fun v => F.args_int_truediv_2 _ _) fun v => by
    rw [← h]; exact AutoIntG4.int___truediv___int_int_2 x (v 0) y (v 2) h0 h1
theorem fmuC_ok {x : UInt64} {y : Int} {f : UInt64} (h0 : ¬Float64.isInf (Float64.ofInt y) = true) (h : Float64.mul x (Float64.ofInt y) = f) : ConOk prog w kt (fmuC x y f) :=
  primK_float (self := fun v => .float x (v 0)) (rest := fun v => [.int y (v 1)]) (z := fun _ => f) F.slot_float_mul (fun s v => typeIs_float s _ _) F.entry_float_mul (fun v => F.args_float_mul_2 _ _) fun v => by
    rw [← h]; exact AutoFloatG3.float___mul___float_int_1 x (v 0) y (v 1) h0
end
/-! ## a contract out of one run, its names drawn anew -/
theorem RepS.pick {h₀ h : Heap} {n : Nat} {kt : KT} {T P : ST} (R : RepS h₀ n kt h T) (φ : Nat → Nat) (hs : ∀ x w, P.get x = some w → T.get (φ x) = some w)
    (hφ : ∀ x y w w', P.get x = some w → P.get y = some w' → φ x = φ y → x = y) (hn : ∀ x w, P.get x = some w → n ≤ x → n ≤ φ x)
    (ht : ∀ i a o, T.get i = some (a, o) → i < n → ∃ x o', P.get x = some (a, o')) : RepS h₀ n kt h P :=
  ⟨R.grow, fun i a o e hi => R.fresh _ a o (hs _ _ e) (hn _ _ e hi), R.big, fun i a o e => R.own _ _ _ (hs _ _ e), fun i j a o p ei ej => hφ i j _ _ ei ej (R.inj _ _ a o p (hs _ _ ei) (hs _ _ ej)), R.stat,
   fun i a o e => R.apart _ _ _ (hs _ _ e), fun b o e hn' => R.keep b o e fun i o' q => by
    rcases Nat.lt_or_ge i n with hi | hi
    · obtain ⟨x, o₂, e₂⟩ := ht i b o' q hi
      exact hn' x o₂ e₂
    · exact absurd (Heap.lt_size e) (Nat.not_lt.mpr (R.fresh i b o' q hi)), R.lim⟩
noncomputable def ext (n : Nat) (β : Nat → Nat) (e : List Nat) : Nat → Nat := fun x => match Nat.blt x n with
  | true => β x
  | false => nthN e (Nat.sub x n)
theorem ext_lt {n x : Nat} {β : Nat → Nat} {e : List Nat} (h : x < n) : ext n β e x = β x := by
  unfold ext
  rw [show Nat.blt x n = true from Nat.ble_eq_true_of_le h]
noncomputable def lst (e : List Nat) : Nat → Nat := fun x => nthN e x
noncomputable def phi (n : Nat) (Q : List Nat) : Nat → Nat := fun x => match Nat.blt x n with
  | true => x
  | false => Q.getD (x - n) 0
theorem phi_lt {n x : Nat} {Q : List Nat} (h : x < n) : phi n Q x = x := by
  unfold phi
  rw [show Nat.blt x n = true from Nat.ble_eq_true_of_le h]
noncomputable def goodQ (K : Con) (Q : List Nat) : Bool := K.sel.all fun x => Nat.ble K.n (phi K.n Q x) && K.sel.all fun y => !(Nat.beq (phi K.n Q x) (phi K.n Q y)) || Nat.beq x y
theorem goodQ_ok {K : Con} {Q : List Nat} (h : goodQ K Q = true) : (∀ x ∈ K.sel, K.n ≤ phi K.n Q x) ∧ ∀ x ∈ K.sel, ∀ y ∈ K.sel, phi K.n Q x = phi K.n Q y → x = y := by
  have key := List.all_eq_true.mp h
  refine ⟨fun x hx => ?_, fun x hx y hy e => ?_⟩
  · have := key x hx
    rw [Bool.and_eq_true] at this
    exact Nat.le_of_ble_eq_true this.1
  · have := key x hx
    rw [Bool.and_eq_true] at this
    have := List.all_eq_true.mp this.2 y hy
    rw [e, Nat.beq_refl] at this
    exact Nat.eq_of_beq_eq_true this
noncomputable def half1 (n : Nat) (sel : List Nat) (pre : (Nat → Nat) → (Nat → Nat) → List Own) (post new : (Nat → Nat) → (Nat → Nat) → (Nat → Nat) → List Obj) (Q : List Nat) (v β τ : Nat → Nat) (x : Out) : HalfL :=
  Out.oneL (mapP (phi n Q) (idx 0 (List.zipWith (fun p o => (p.1, o)) (pre (cut n β) v) (post β v τ)) ++ newL β sel (new β v τ))) x
noncomputable def half2 (n : Nat) (sel : List Nat) (pre : (Nat → Nat) → (Nat → Nat) → List Own) (res : (Nat → Nat) → (Nat → Nat) → (Nat → Nat) → Result) (post new : (Nat → Nat) → (Nat → Nat) → (Nat → Nat) → List Obj) (Q : List Nat) (v β τ : Nat → Nat) (x : Out) : HalfL :=
  Out.twoL (res β v τ) (mapP (phi n Q) (idx 0 (List.zipWith (fun p o => (p.1, o)) (pre (cut n β) v) (post β v τ)) ++ newL β sel (new β v τ))) x
noncomputable abbrev Names := (Nat → Nat) → (Nat → Nat) → (Nat → Nat) → List Nat
noncomputable def Con.lhsP (prog : Program) (P : Params) (kt : KT) (ids : List String) (Ks : List Con) (K : Con) (fuel ad cd : Nat) (Q : List Nat) (ef tf : Names) (β v τ γ : Nat → Nat) (σ : Nat → Pos × Stk) : HalfL :=
  match K with
  | ⟨n, na, nt, need, sel, code, pre, res, post, new, _⟩ => half1 n sel pre post new Q v (cut (n + na) (ext n β (ef β v τ))) (cut nt fun x => lst (tf β v τ) x + 556) (run' prog P kt ids Ks n need code pre fuel ad cd β v τ γ σ)
noncomputable def Con.rhsP (prog : Program) (P : Params) (kt : KT) (ids : List String) (Ks : List Con) (K : Con) (fuel ad cd : Nat) (Q : List Nat) (ef tf : Names) (β v τ γ : Nat → Nat) (σ : Nat → Pos × Stk) : HalfL :=
  match K with
  | ⟨n, na, nt, need, sel, code, pre, res, post, new, _⟩ => half2 n sel pre res post new Q v (cut (n + na) (ext n β (ef β v τ))) (cut nt fun x => lst (tf β v τ) x + 556) (run' prog P kt ids Ks n need code pre fuel ad cd β v τ γ σ)
noncomputable abbrev Con.eqnP (prog : Program) (P : Params) (kt : KT) (ids : List String) (Ks : List Con) (K : Con) (fuel ad cd : Nat) (Q : List Nat) (ef tf : Names) (β v τ γ : Nat → Nat) (σ : Nat → Pos × Stk) : Prop :=
  Con.lhsP prog P kt ids Ks K fuel ad cd Q ef tf β v τ γ σ = Con.rhsP prog P kt ids Ks K fuel ad cd Q ef tf β v τ γ σ
noncomputable def half (K : Con) (Q : List Nat) (v β τ : Nat → Nat) (x : Out) : Prop :=
  Out.oneL (mapP (phi K.n Q) (K.L β v τ)) x = Out.twoL (K.res β v τ) (mapP (phi K.n Q) (K.L β v τ)) x
theorem eqnP_eq (prog : Program) (P : Params) (kt : KT) (ids : List String) (Ks : List Con) (K : Con) (fuel ad cd : Nat) (Q : List Nat) (ef tf : Names) (β v τ γ : Nat → Nat) (σ : Nat → Pos × Stk) :
    Con.eqnP prog P kt ids Ks K fuel ad cd Q ef tf β v τ γ σ = half K Q v (cut (K.n + K.na) (ext K.n β (ef β v τ))) (cut K.nt fun x => lst (tf β v τ) x + 556) (K.run prog P kt ids Ks fuel ad cd β v τ γ σ) := rfl
open Classical in
theorem con_of_runsP {prog : Program} {w : World} {kt : KT} {ids : List String} {K : Con} (wf : K.Wf) (hi : idsOk ids = true) (hk : (kt.get cStatics).isSome = true)
    (H : ∀ v : Nat → Nat, ∃ (Ks : List Con) (fuel ad cd : Nat) (Q : List Nat) (ef tf : Names), goodQ K Q = true ∧ (∀ K ∈ Ks, ConOk prog w kt K) ∧ ∀ β τ γ σ, Con.eqnP prog w.params kt ids Ks K fuel ad cd Q ef tf β v τ γ σ) : ConOk prog w kt K := by
  refine ⟨wf, fun β v A h g tk d os R ha hd hu hR ht k => ?_⟩
  obtain ⟨Ks, fuel, ad, cd, Q, ef, tf, hQ, hK, e⟩ := H v
  obtain ⟨hQ1, hQ2⟩ := goodQ_ok hQ
  let V : XV := ⟨prog, w, h, 0, kt, [], A, R, d, 0, os⟩
  let D := dM prog w.params kt ids Ks K.need
  have Y : Hyp V D K.n g tk := hyp_M hi hk hK ha hd hu ht
  let T₀ := putAll .nil (idx 0 (K.pre (cut K.n β) v))
  let run : Rn := fun β' τ γ σ => goC D (simS D β' τ γ σ fuel) (cd % 256) (K.code (cut K.n β) v) none .base T₀ K.n 0 ad (cd / 256) 0 [] []
  have hrun : ∀ β' τ γ σ, Agree K.n β β' → run β' τ γ σ = K.run prog w.params kt ids Ks fuel ad cd β' v τ γ σ := fun β' τ γ σ ag => by
    have : cut K.n β = cut K.n β' := cut_same fun x hx => (ag x hx).symm
    show goC _ _ _ (K.code (cut K.n β) v) _ _ (putAll .nil (idx 0 (K.pre (cut K.n β) v))) _ _ _ _ _ _ _ = _
    rw [this]; rfl
  let b2 : (Nat → Nat) → (Nat → Nat) → Nat → Nat := fun β' τ => ext K.n β' (ef β' v τ)
  let t2 : (Nat → Nat) → (Nat → Nat) → Nat → Nat := fun β' τ => lst (tf β' v τ)
  let rf : (Nat → Nat) → (Nat → Nat) → (Nat → Nat) → (Nat → Pos × Stk) → Result := fun β' τ _ _ => K.res (cut (K.n + K.na) (b2 β' τ)) v (cut K.nt fun x => t2 β' τ x + 556)
  let Tf : (Nat → Nat) → (Nat → Nat) → (Nat → Nat) → (Nat → Pos × Stk) → ST := fun β' τ γ σ => if Agree K.n β β' then (match run β' τ γ σ with | .fin _ T _ _ => T | .bad _ => .nil) else badST
  let gf : (Nat → Nat) → (Nat → Nat) → (Nat → Nat) → (Nat → Pos × Stk) → Gls := fun β' τ γ σ => match run β' τ γ σ with | .fin _ _ gl _ => gl | .bad _ => []
  let Lf : (Nat → Nat) → (Nat → Nat) → List (Nat × Own) := fun β' τ => K.L (cut (K.n + K.na) (b2 β' τ)) v (cut K.nt fun x => t2 β' τ x + 556)
  have get : ∀ β' τ γ σ, Agree K.n β β' → ∃ T gl o, run β' τ γ σ = .fin (rf β' τ γ σ) T gl o ∧ (∀ p ∈ mapP (phi K.n Q) (Lf β' τ), T.get p.1 = some p.2) ∧ Obs.ok o := fun β' τ γ σ ag => by
    have q := e β' τ γ σ
    rw [eqnP_eq] at q
    unfold half at q
    rw [← hrun β' τ γ σ ag] at q
    exact Out.endsL q
  have H : Ends rf Tf gf (β, fun _ => 0, fun _ => 0, fun _ => default) run K.n 0 0 0 := fun β' τ γ σ a _ _ _ => by
    obtain ⟨T, gl, o, er, _, ok⟩ := get β' τ γ σ a
    refine ⟨o, ?_, ok⟩
    rw [er]
    have eT : Tf β' τ γ σ = T := by
      show (if Agree K.n β β' then _ else _) = _
      rw [if_pos (show Agree K.n β β' from a), er]
    have eg : gf β' τ γ σ = gl := by
      show (match run β' τ γ σ with | .fin _ _ gl _ => gl | .bad _ => []) = _
      rw [er]
    rw [eT, eg]
  have hE : ∀ β' τ γ σ h' g' tk', RepS V.h₀ K.n D.kt h' (Tf β' τ γ σ) → RepG g g' (gf β' τ γ σ) → tk ≤ tk' → V.R₀ (rf β' τ γ σ) ⟨h', g', V.d, tk', V.os⟩ := fun β' τ γ σ h' g' tk' R' G' ht' => by
    by_cases ag : Agree K.n β β'
    · obtain ⟨T, gl, o, er, hT, _⟩ := get β' τ γ σ ag
      have eT : Tf β' τ γ σ = T := by
        show (if Agree K.n β β' then _ else _) = _
        rw [if_pos ag, er]
      rw [eT] at R'
      have hPT : ∀ x w, (putAll .nil (Lf β' τ)).get x = some w → T.get (phi K.n Q x) = some w := fun x w hw => hT (phi K.n Q x, w) (mem_mapP.mpr ⟨x, (Con.P_get wf).mp hw, rfl⟩)
      have two : ∀ x w, (putAll .nil (Lf β' τ)).get x = some w → x < K.n ∨ x ∈ K.sel := fun x w hw => by
        rcases Con.L_cases wf ((Con.P_get wf).mp hw) with q | q
        · exact .inl q.1
        · exact .inr q.1
      refine k (b2 β' τ) (t2 β' τ) h' g' tk' (fun x hx => (ext_lt hx).trans (ag x hx)) (RepS.pick R' (phi K.n Q) hPT (fun x y w w' hx hy q => ?_) (fun x w hx hn => ?_) fun i a o' hi' hn => ?_) G'.size G'.gk ht'
      · rcases two x w hx with a | a <;> rcases two y w' hy with b | b
        · rwa [phi_lt a, phi_lt b] at q
        · have := hQ1 y b
          rw [phi_lt a] at q
          omega
        · have := hQ1 x a
          rw [phi_lt b] at q
          omega
        · exact hQ2 x a y b q
      · rcases two x w hx with a | a
        · omega
        · exact hQ1 x a
      · obtain ⟨w', hw'⟩ := L_all wf (β := cut (K.n + K.na) (b2 β' τ)) (v := v) (τ := cut K.nt fun x => t2 β' τ x + 556) hn
        have hg := (Con.P_get wf).mpr hw'
        have := hPT _ _ hg
        rw [phi_lt hn, hi'] at this
        have := Option.some.inj this
        exact ⟨i, o', by rw [this]; exact hg⟩
    · have eT : Tf β' τ γ σ = badST := if_neg ag
      rw [eT] at R'
      exact (badST_not R').elim
  have z := (goC_sound Y (simS_sound Y hE fuel) (ρ := (β, fun _ => 0, fun _ => 0, fun _ => default)) (os := []) (gl := []) (T := T₀) (md := none) (κ := .base) H trivial (h := h) (g := g) (tk := tk) hR (RepG.start g) (Nat.le_refl _)).2
  exact y_code _ _ _ _ _ _ z
theorem con_of_runP {prog : Program} {w : World} {kt : KT} {ids : List String} {Ks : List Con} {K : Con} (fuel ad cd : Nat) (Q : List Nat) (ef tf : Names) (wf : K.Wf) (hQ : goodQ K Q = true) (hi : idsOk ids = true) (hk : (kt.get cStatics).isSome = true) (hK : ∀ K ∈ Ks, ConOk prog w kt K)
    (e : ∀ β v τ γ σ, Con.eqnP prog w.params kt ids Ks K fuel ad cd Q ef tf β v τ γ σ) : ConOk prog w kt K :=
  con_of_runsP wf hi hk fun v => ⟨Ks, fuel, ad, cd, Q, ef, tf, hQ, hK, fun β τ γ σ => e β v τ γ σ⟩
/-- a check of a contract's numbers -/
noncomputable def wfB (K : Con) : Bool := Nat.ble (K.n + K.na) 4096 && (K.sel.all fun x => Nat.ble K.n x && Nat.blt x (K.n + K.na)) && decide K.sel.Nodup
theorem wf_of {K : Con} (h : wfB K = true) (pre : ∀ β v, (K.pre β v).length = K.n) (post : ∀ β v τ, (K.post β v τ).length = K.n) (quiet : ∀ β v, (K.code β v).quiet = true) (same : ∀ β v τ, K.keep.map (fun x => (K.post β v τ)[x]?) = K.keep.map fun x => ((K.pre (cut K.n β) v)[x]?).map (·.2)) : K.Wf := by
  unfold wfB at h
  rw [Bool.and_eq_true, Bool.and_eq_true] at h
  refine ⟨Nat.le_of_ble_eq_true h.1.1, fun x hx => ?_, of_decide_eq_true h.2, pre, post, quiet, same⟩
  have := List.all_eq_true.mp h.1.2 x hx
  rw [Bool.and_eq_true] at this
  exact ⟨Nat.le_of_ble_eq_true this.1, blt_true this.2⟩
end
noncomputable section
open PySem PySem.W PySem.W.X
noncomputable def fnOf (n : Nat) : List Stmt × Scope := match PySem.Challenge.pw_tv0043_01.main.body[n]? with
  | some (.FunctionDef _ _ b _ _ _ sc _ _ _) => (b, sc)
  | _ => ([], default)
noncomputable def topS (k : Nat) : Stmt := PySem.Challenge.pw_tv0043_01.main.body.getD k (.Pass default)
noncomputable def clsS (k j : Nat) : Stmt := match topS k with
  | .ClassDef _ _ _ b _ _ _ _ _ _ _ => b.getD j (.Pass default)
  | _ => .Pass default
noncomputable def fdOf (s : Stmt) : FuncData := match s with
  | .FunctionDef name args body _ _ _ sc _ _ _ => { name := name, qualname := name, params := args, body := .stmts body, scope := sc, globals := 3, closure := [], defaults := .none, kwdefaults := .none }
  | _ => default
noncomputable def forOf (f s : Nat) : Expr × List Stmt × List Stmt := match (fnOf f).1[s]? with
  | some (.For t _ b e _) => (t, b, e)
  | _ => (default, [], [])
noncomputable def nI (z : Nat) (t : Tok) : Value := .int (Int.ofNat z) t
noncomputable def tup (vs : List Value) (e : Nat) : Obj := ⟨.type "tuple", none, .seq vs.toArray e, #[]⟩
noncomputable def lis (vs : List Value) (e : Nat) : Obj := ⟨.type "list", none, .seq vs.toArray e, #[]⟩
noncomputable def tblNo : Obj := ⟨.none, none, .fields #[], #[]⟩
noncomputable def tblA (a : Nat) : Obj := ⟨.none, none, .fields #[.int 148 0, .int 19 0, .ref a], #[]⟩
noncomputable def tblB (a : Nat) : Obj := ⟨.none, none, .fields #[.int 151 0, .int 32 0, .ref a], #[]⟩
noncomputable def wA : Str := ⟨#[97]⟩
noncomputable def wB : Str := ⟨#[98, 98, 98]⟩
noncomputable def wordV : Bool → Tok → Value
  | true, t => .str wA t
  | false, t => .str wB t
noncomputable def rangeV (f : Nat → Value) : Nat → Nat → List Value
  | _, 0 => []
  | i, n + 1 => f i :: rangeV f (i + 1) n
noncomputable def rowObjs (b : Nat → Nat) : Nat → List (List Bool) → List Obj
  | _, [] => []
  | k, r :: l => lis (match r with
    | [x] => [wordV x (b k)]
    | [x, y] => [wordV x (b k), wordV y (b (k + 1))]
    | _ => []) 0 :: rowObjs b (k + 2) l
noncomputable def mkTuples (k : Nat) : (Nat → Nat) → (Nat → Nat) → Nat → Nat → List (Nat × Nat × Nat) → List Own
  | _, _, _, _, [] => []
  | b, v, i, q, (h, f, l) :: kn => match k with
    | 0 => (b i + 259, tup [nI h (v (q + 1)), nI (v (q + 4)) (v (q + 3)), nI (v (q + 6)) (v (q + 5))] (v q)) :: mkTuples k b v (i + 1) (q + 7) kn
    | _ => (b i + 259, tup [nI h (v (q + 1)), nI f (v (q + 3)), nI l (v (q + 5))] (v q)) :: mkTuples k b v (i + 1) (q + 7) kn
/-- _law_rows(knots, level): a knot of the level is a word a. m knots, r rows; q = 4 + 8 m, n = m + 3, o = n + 1 + 3 r -/
noncomputable def rowsPre (gr : Bool) (m q : Nat) (kn : List (Nat × Nat × Nat)) (b v : Nat → Nat) : List Own :=
  (b 0 + 259, lis (rangeV (fun i => .ref (b i + 259)) 1 m) (v 3)) :: (mkTuples 0 b v 1 (4 + m) kn ++ match gr with
    | true => [(162, tblA (v (q + 4))), (169, tblB (v (q + 9)))]
    | false => [(162, tblNo), (169, tblNo)])
noncomputable def rowsK (gr : Bool) (m r q n o na : Nat) (sel kp : List Nat) (rw : List (List Bool)) (kn : List (Nat × Nat × Nat)) (L : Nat) : Con where
  n := n
  na := na
  nt := 0
  need := 60
  sel := sel
  code b v := .call (.ref 216) ⟨[.ref (b 0 + 259), nI L (v 1)], []⟩
  pre := rowsPre gr m q kn
  res b _ _ := .ok (.ret (.ref (b n + 259)))
  post b v _ := match gr with
    | true => (rowsPre gr m q kn b v).map (·.2)
    | false => ((rowsPre gr m q kn b v).take (m + 1)).map (·.2) ++ [tblA (b o), tblB (b (o + 1))]
  keep := kp
  new b _ _ := lis (rangeV (fun i => .ref (b i + 259)) (n + 1) r) (b (o + 2)) :: rowObjs b (n + 1 + r) rw
/-! ## the levels of _law_folded -/
noncomputable def hs (P : Params) (cps : Array Nat) : Int := PyData.keyHash P ⟨cps⟩
noncomputable def sE (cps : Array Nat) (P : Params) (t : Tok) (w : Value) : DictEntry := ⟨hs P cps, .str ⟨cps⟩ t, w⟩
noncomputable def eKnots := sE #[107, 110, 111, 116, 115]
noncomputable def eBegins := sE #[98, 101, 103, 105, 110, 115]
noncomputable def eLevel := sE #[108, 101, 118, 101, 108]
noncomputable def ePlace := sE #[112, 108, 97, 99, 101]
noncomputable def eHigher := sE #[104, 105, 103, 104, 101, 114]
noncomputable def eWords := sE #[119, 111, 114, 100, 115]
noncomputable def eHeld := sE #[104, 101, 108, 100]
noncomputable def eHeight := sE #[104, 101, 105, 103, 104, 116]
noncomputable def eFirst := sE #[102, 105, 114, 115, 116]
noncomputable def eLast := sE #[108, 97, 115, 116]
noncomputable def eLeaf := sE #[108, 101, 97, 102]
noncomputable def frO (es : List DictEntry) (e : Nat) : Obj := ⟨.type "frame", none, .dict es.toArray e, #[]⟩
noncomputable def riO (c l : Nat) : Obj := ⟨.type "range_iterator", none, .fields #[nI c 0, nI l 0, .int 1 0], #[]⟩
noncomputable def ceO (w : Value) : Obj := ⟨.type "cell", none, .cell (some w), #[]⟩
noncomputable def foldEnv (l c : Nat) : Env := { scope := (fnOf 15).2, locals := l, globals := 3, cells := [(Str.ofString "heights", c)], qual := Str.ofString "_law_folded.<locals>.", func := some 221, code := .ref 220, frame := some l, builtins := 0 }
noncomputable def foldLoop (it l c : Nat) : Code := .forLoop (forOf 15 2).1 (.ref it) (forOf 15 2).2.1 (forOf 15 2).2.2 (foldEnv l c)
/-- the frame: kind 0 at the first level, 1 while no row held two knots, 2 after -/
noncomputable def stFr (P : Params) (kind g : Nat) (b v : Nat → Nat) : List DictEntry := match kind with
  | 0 => [eKnots P (v 10) (.ref (b 2 + 259)), eBegins P (v 12) (.ref (b g + 259))]
  | 1 => [eKnots P (v 10) (.ref (b 2 + 259)), eBegins P (v 12) (.ref (b g + 259)), eLevel P (v 14) (nI (v 16) (v 15)), ePlace P (v 17) (nI (v 19) (v 18)), eHigher P (v 20) (.ref (v 21)), eWords P (v 22) (.ref (v 23)), eHeld P (v 24) (.ref (v 25))]
  | _ => [eKnots P (v 10) (.ref (b 2 + 259)), eBegins P (v 12) (.ref (b g + 259)), eLevel P (v 14) (nI (v 16) (v 15)), ePlace P (v 17) (nI (v 19) (v 18)), eHigher P (v 20) (.ref (v 21)), eWords P (v 22) (.ref (v 23)), eHeld P (v 24) (.ref (v 25)),
      eHeight P (v 26) (nI (v 28) (v 27)), eFirst P (v 29) (nI (v 31) (v 30)), eLast P (v 32) (nI (v 34) (v 33)), eLeaf P (v 35) (nI (v 37) (v 36))]
/-- q: the number of the list's epoch; t: of the first tuple's; u: of what follows the tuples; w: of the begins; c: of the cell; g, k: places of begins and cell -/
noncomputable def stPre (P : Params) (kind m q t u w c g k : Nat) (kn : List (Nat × Nat × Nat)) (L R : Nat) (b v : Nat → Nat) : List Own :=
  (b 0 + 259, riO L R) :: (b 1 + 259, frO (stFr P kind g b v) (v 9)) :: (b 2 + 259, lis (rangeV (fun i => .ref (b i + 259)) 3 m) (v q)) :: (mkTuples 1 b v 3 t kn ++
    (match kind with
    | 0 => [(162, tblNo), (169, tblNo)]
    | _ => [(162, tblA (v (u + 4))), (169, tblB (v (u + 9)))]) ++
    [(b g + 259, lis (rangeV (fun i => nI (v (w + 2 + 2 * i)) (v (w + 1 + 2 * i))) 0 5) (v w)), (b k + 259, ceO (.ref (v c)))])
/-- the frame after the loop, but for its knots -/
noncomputable def endFr (P : Params) (g n : Nat) (kn : Value) (b v : Nat → Nat) : List DictEntry :=
  [eKnots P (v 10) kn, eBegins P (v 12) (.ref (b g + 259)), eLevel P (b n) (nI (b (n + 1)) (b (n + 2))), ePlace P (b (n + 3)) (nI (b (n + 4)) (b (n + 5))), eHigher P (b (n + 6)) (.ref (b (n + 7))), eWords P (b (n + 8)) (.ref (b (n + 9))), eHeld P (b (n + 10)) (.ref (b (n + 11))),
    eHeight P (b (n + 12)) (nI (b (n + 13)) (b (n + 14))), eFirst P (b (n + 15)) (nI (b (n + 16)) (b (n + 17))), eLast P (b (n + 18)) (nI (b (n + 19)) (b (n + 20))), eLeaf P (b (n + 21)) (nI (b (n + 22)) (b (n + 23)))]
/-- the loop over the levels from here on: one knot is left, of height H; begin i becomes F i of it -/
noncomputable def stK (P : Params) (kind m q t u w c g k n na : Nat) (sel kp : List Nat) (kn : List (Nat × Nat × Nat)) (L R H : Nat) (F : Nat → Nat → Nat) : Con where
  n := n
  na := na
  nt := 0
  need := 80
  sel := sel
  code b _ := foldLoop (b 0 + 259) (b 1 + 259) (b k + 259)
  pre := stPre P kind m q t u w c g k kn L R
  res _ _ _ := .ok .next
  post b v _ := riO (b (n + 26)) (b (n + 27)) :: frO (endFr P g (n + 2) (.ref (b n + 259)) b v) (b (n + 28)) :: (((stPre P kind m q t u w c g k kn L R b v).drop 2).take (m + 1)).map (·.2) ++
    (match kind with
    | 0 => [tblA (b (n + 29)), tblB (b (n + 30))]
    | _ => [tblA (v (u + 4)), tblB (v (u + 9))]) ++
    [lis (rangeV (fun i => nI (F i (v (w + 2 + 2 * i))) (b (n + 31 + i))) 0 5) (b (n + 36)), ceO (.ref (v c))]
  new b _ _ := [lis [.ref (b (n + 1) + 259)] (b (n + 37)), tup [nI H (b (n + 38)), nI 0 (b (n + 39)), nI 5 (b (n + 40))] 0]
  keep := kp
/-- the last turn: one knot -/
noncomputable def endK (P : Params) (q t u w c g k n na : Nat) (kp : List Nat) (H L R : Nat) : Con where
  n := n
  na := na
  nt := 0
  need := 80
  sel := []
  code b _ := foldLoop (b 0 + 259) (b 1 + 259) (b k + 259)
  pre := stPre P 2 1 q t u w c g k [(H, 0, 5)] L R
  res _ _ _ := .ok .next
  post b v _ := riO (b (n + 24)) (b (n + 25)) :: frO (endFr P g n (.ref (b 2 + 259)) b v) (b (n + 26)) :: ((stPre P 2 1 q t u w c g k [(H, 0, 5)] L R b v).drop 2).map (·.2)
  new _ _ _ := []
  keep := kp
noncomputable def addF (l : List Nat) (w : Nat) (F : Nat → Nat → Nat) : Nat → Nat → Nat := fun i z => match l.any (Nat.beq i) with
  | true => F i (z + w)
  | false => F i z
end
noncomputable section
open PySem PySem.Spec PySem.W PySem.W.X PySem.Calls PyProof.Rows
/-- a range's next number -/
noncomputable def rngC (c l : Nat) : Con where
  n := 1
  na := 0
  nt := 1
  need := 5
  sel := []
  code b _ := .call (.builtin "range_iterator.__next__") ⟨[.ref (b 0 + 259)], []⟩
  pre b _ := [(b 0 + 259, riO c (l + 1))]
  res _ _ t := .ok (.ret (nI c (t 0)))
  post _ _ _ := [riO (c + 1) l]
  new _ _ _ := []
theorem rngC_ok {prog : Program} {w : World} {kt : KT} {c l : Nat} : ConOk prog w kt (rngC c l) := by
  refine ⟨⟨by show 1 + 0 ≤ 4096; decide, fun x h => (by cases h), List.nodup_nil, fun _ _ => rfl, fun _ _ _ => rfl, fun _ _ => rfl, fun _ _ _ => rfl⟩, fun β v A h gs tk d os R ha hd hu hR ht k => ?_⟩
  have h0 : (putAll .nil (idx 0 ((rngC c l).pre (cut (rngC c l).n β) v))).get 0 = some (β 0 + 259, riO c (l + 1)) := rfl
  have hg := hR.own 0 _ _ h0
  refine codeAny_call_builtin F.slot_range_iterator_next.plain F.entry_range_iterator_next (F.slot_range_iterator_next.check _ _ _ _ _ _ _ _ ⟨_, hg, rfl⟩ (F.args_range_iterator_next_1 _)
    (AutoRange.range_iterator___next___range_iterator_1 (β 0 + 259) (Int.ofNat c) (Int.ofNat (l + 1)) 1 (by have : (0 : Int) < Int.ofNat (l + 1) := Int.natCast_pos.mpr (Nat.succ_pos l); omega) prog w A R _ ⟨hg, ?_⟩))
  let f1 : Obj → Obj := Obj.mapFields fun x_1 => x_1.setIfInBounds 0 (rawInt (Int.ofNat c + 1))
  let f2 : Obj → Obj := Obj.mapFields fun x => x.setIfInBounds 1 (rawInt (Int.ofNat (l + 1) - 1))
  have R1 := RepS.update (f := f1) hR (j := 0) (by decide) h0 rfl (fun q => by have q : β 0 + 259 = 2 := q; omega)
  have h1 : ((putAll .nil (idx 0 ((rngC c l).pre (cut (rngC c l).n β) v))).put 4096 0 (β 0 + 259, f1 (riO c (l + 1)))).get 0 = some (β 0 + 259, f1 (riO c (l + 1))) := rfl
  have R2 := RepS.update (f := f2) R1 (j := 0) (by decide) h1 rfl (fun q => by have q : β 0 + 259 = 2 := q; omega)
  have := k β (fun _ => tk - 556) _ gs (tk + 1) (fun x hx => rfl) (RepS.congr (fun i => ?_) R2) (Nat.le_refl _) (GK.refl _) (Nat.le_succ _)
  · have e : cut (rngC c l).nt (fun x => (fun _ : Nat => tk - 556) x + 556) 0 = tk := tk_cut ht
    simp only [rngC] at this
    rw [show cut 1 (fun x => (fun _ : Nat => tk - 556) x + 556) 0 = tk from tk_cut ht] at this
    exact this
  · have e : f2 (f1 (riO c (l + 1))) = riO (c + 1) l := by
      show (⟨.type "range_iterator", none, .fields #[rawInt (Int.ofNat c + 1), rawInt (Int.ofNat (l + 1) - 1), .int 1 0], #[]⟩ : Obj) = _
      rw [show Int.ofNat (l + 1) - 1 = Int.ofNat l from by show ((l : Int) + 1) - 1 = l; omega]
      rfl
    rw [e]
    rfl
end
noncomputable section
open PySem PySem.W PySem.W.X
noncomputable def zo0 (P : Params) : Obj := ⟨(.type "dict"), none, .dict #[sE #[95, 95, 110, 97, 109, 101, 95, 95] P 1 (.str ⟨#[98, 117, 105, 108, 116, 105, 110, 115]⟩ 160), sE #[95, 95, 100, 111, 99, 95, 95] P 2 (.builtin "builtins.__doc__:str#opaque"), sE #[95, 95, 112, 97, 99, 107, 97, 103, 101, 95, 95] P 3 (.builtin "builtins.__package__:str#opaque"), sE #[95, 95, 108, 111, 97, 100, 101, 114, 95, 95] P 4 (.builtin "builtins.__loader__:shared#opaque"), sE #[95, 95, 115, 112, 101, 99, 95, 95] P 5 (.builtin "builtins.__spec__#opaque"), sE #[95, 95, 98, 117, 105, 108, 100, 95, 99, 108, 97, 115, 115, 95, 95] P 6 (.builtin "__build_class__"), sE #[95, 95, 105, 109, 112, 111, 114, 116, 95, 95] P 7 (.builtin "__import__"), sE #[97, 98, 115] P 8 (.builtin "abs"), sE #[97, 108, 108] P 9 (.builtin "all"), sE #[97, 110, 121] P 10 (.builtin "any"), sE #[97, 115, 99, 105, 105] P 11 (.builtin "ascii"), sE #[98, 105, 110] P 12 (.builtin "bin"), sE #[98, 114, 101, 97, 107, 112, 111, 105, 110, 116] P 13 (.builtin "breakpoint"), sE #[99, 97, 108, 108, 97, 98, 108, 101] P 14 (.builtin "callable"), sE #[99, 104, 114] P 15 (.builtin "chr"), sE #[99, 111, 109, 112, 105, 108, 101] P 16 (.builtin "compile"), sE #[100, 101, 108, 97, 116, 116, 114] P 17 (.builtin "delattr"), sE #[100, 105, 114] P 18 (.builtin "dir"), sE #[100, 105, 118, 109, 111, 100] P 19 (.builtin "divmod"), sE #[101, 118, 97, 108] P 20 (.builtin "eval"), sE #[101, 120, 101, 99] P 21 (.builtin "exec"), sE #[102, 111, 114, 109, 97, 116] P 22 (.builtin "format"), sE #[103, 101, 116, 97, 116, 116, 114] P 23 (.builtin "getattr"), sE #[103, 108, 111, 98, 97, 108, 115] P 24 (.builtin "globals"), sE #[104, 97, 115, 97, 116, 116, 114] P 25 (.builtin "hasattr"), sE #[104, 97, 115, 104] P 26 (.builtin "hash"), sE #[104, 101, 120] P 27 (.builtin "hex"), sE #[105, 100] P 28 (.builtin "id"), sE #[105, 110, 112, 117, 116] P 29 (.builtin "input"), sE #[105, 115, 105, 110, 115, 116, 97, 110, 99, 101] P 30 (.builtin "isinstance"), sE #[105, 115, 115, 117, 98, 99, 108, 97, 115, 115] P 31 (.builtin "issubclass"), sE #[105, 116, 101, 114] P 32 (.builtin "iter"), sE #[97, 105, 116, 101, 114] P 33 (.builtin "aiter"), sE #[108, 101, 110] P 34 (.builtin "len"), sE #[108, 111, 99, 97, 108, 115] P 35 (.builtin "locals"), sE #[109, 97, 120] P 36 (.builtin "max"), sE #[109, 105, 110] P 37 (.builtin "min"), sE #[110, 101, 120, 116] P 38 (.builtin "next"), sE #[97, 110, 101, 120, 116] P 39 (.builtin "anext"), sE #[111, 99, 116] P 40 (.builtin "oct"), sE #[111, 114, 100] P 41 (.builtin "ord"), sE #[112, 111, 119] P 42 (.builtin "pow"), sE #[112, 114, 105, 110, 116] P 43 (.builtin "print"), sE #[114, 101, 112, 114] P 44 (.builtin "repr"), sE #[114, 111, 117, 110, 100] P 45 (.builtin "round"), sE #[115, 101, 116, 97, 116, 116, 114] P 46 (.builtin "setattr"), sE #[115, 111, 114, 116, 101, 100] P 47 (.builtin "sorted"), sE #[115, 117, 109] P 48 (.builtin "sum"), sE #[118, 97, 114, 115] P 49 (.builtin "vars"), sE #[78, 111, 110, 101] P 50 .none, sE #[69, 108, 108, 105, 112, 115, 105, 115] P 51 .ellipsis, sE #[78, 111, 116, 73, 109, 112, 108, 101, 109, 101, 110, 116, 101, 100] P 52 .notImplemented, sE #[70, 97, 108, 115, 101] P 53 (.bool false), sE #[84, 114, 117, 101] P 54 (.bool true), sE #[98, 111, 111, 108] P 55 (.type "bool"), sE #[109, 101, 109, 111, 114, 121, 118, 105, 101, 119] P 56 (.type "memoryview"), sE #[98, 121, 116, 101, 97, 114, 114, 97, 121] P 57 (.type "bytearray"), sE #[98, 121, 116, 101, 115] P 58 (.type "bytes"), sE #[99, 108, 97, 115, 115, 109, 101, 116, 104, 111, 100] P 59 (.type "classmethod"), sE #[99, 111, 109, 112, 108, 101, 120] P 60 (.type "complex"), sE #[100, 105, 99, 116] P 61 (.type "dict"), sE #[101, 110, 117, 109, 101, 114, 97, 116, 101] P 62 (.type "enumerate"), sE #[102, 105, 108, 116, 101, 114] P 63 (.type "filter"), sE #[102, 108, 111, 97, 116] P 64 (.type "float"), sE #[102, 114, 111, 122, 101, 110, 115, 101, 116] P 65 (.type "frozenset"), sE #[112, 114, 111, 112, 101, 114, 116, 121] P 66 (.type "property"), sE #[105, 110, 116] P 67 (.type "int"), sE #[108, 105, 115, 116] P 68 (.type "list"), sE #[109, 97, 112] P 69 (.type "map"), sE #[111, 98, 106, 101, 99, 116] P 70 (.type "object"), sE #[114, 97, 110, 103, 101] P 71 (.type "range"), sE #[114, 101, 118, 101, 114, 115, 101, 100] P 72 (.type "reversed"), sE #[115, 101, 116] P 73 (.type "set"), sE #[115, 108, 105, 99, 101] P 74 (.type "slice"), sE #[115, 116, 97, 116, 105, 99, 109, 101, 116, 104, 111, 100] P 75 (.type "staticmethod"), sE #[115, 116, 114] P 76 (.type "str"), sE #[115, 117, 112, 101, 114] P 77 (.type "super"), sE #[116, 117, 112, 108, 101] P 78 (.type "tuple"), sE #[116, 121, 112, 101] P 79 (.type "type"), sE #[122, 105, 112] P 80 (.type "zip"), sE #[95, 95, 100, 101, 98, 117, 103, 95, 95] P 81 (.bool true), sE #[66, 97, 115, 101, 69, 120, 99, 101, 112, 116, 105, 111, 110] P 82 (.type "BaseException"), sE #[66, 97, 115, 101, 69, 120, 99, 101, 112, 116, 105, 111, 110, 71, 114, 111, 117, 112] P 83 (.type "BaseExceptionGroup"), sE #[69, 120, 99, 101, 112, 116, 105, 111, 110] P 84 (.type "Exception"), sE #[71, 101, 110, 101, 114, 97, 116, 111, 114, 69, 120, 105, 116] P 85 (.type "GeneratorExit"), sE #[75, 101, 121, 98, 111, 97, 114, 100, 73, 110, 116, 101, 114, 114, 117, 112, 116] P 86 (.type "KeyboardInterrupt"), sE #[83, 121, 115, 116, 101, 109, 69, 120, 105, 116] P 87 (.type "SystemExit"), sE #[65, 114, 105, 116, 104, 109, 101, 116, 105, 99, 69, 114, 114, 111, 114] P 88 (.type "ArithmeticError"), sE #[65, 115, 115, 101, 114, 116, 105, 111, 110, 69, 114, 114, 111, 114] P 89 (.type "AssertionError"), sE #[65, 116, 116, 114, 105, 98, 117, 116, 101, 69, 114, 114, 111, 114] P 90 (.type "AttributeError"), sE #[66, 117, 102, 102, 101, 114, 69, 114, 114, 111, 114] P 91 (.type "BufferError"), sE #[69, 79, 70, 69, 114, 114, 111, 114] P 92 (.type "EOFError"), sE #[73, 109, 112, 111, 114, 116, 69, 114, 114, 111, 114] P 93 (.type "ImportError"), sE #[76, 111, 111, 107, 117, 112, 69, 114, 114, 111, 114] P 94 (.type "LookupError"), sE #[77, 101, 109, 111, 114, 121, 69, 114, 114, 111, 114] P 95 (.type "MemoryError"), sE #[78, 97, 109, 101, 69, 114, 114, 111, 114] P 96 (.type "NameError"), sE #[79, 83, 69, 114, 114, 111, 114] P 97 (.type "OSError"), sE #[82, 101, 102, 101, 114, 101, 110, 99, 101, 69, 114, 114, 111, 114] P 98 (.type "ReferenceError"), sE #[82, 117, 110, 116, 105, 109, 101, 69, 114, 114, 111, 114] P 99 (.type "RuntimeError"), sE #[83, 116, 111, 112, 65, 115, 121, 110, 99, 73, 116, 101, 114, 97, 116, 105, 111, 110] P 100 (.type "StopAsyncIteration"), sE #[83, 116, 111, 112, 73, 116, 101, 114, 97, 116, 105, 111, 110] P 101 (.type "StopIteration"), sE #[83, 121, 110, 116, 97, 120, 69, 114, 114, 111, 114] P 102 (.type "SyntaxError"), sE #[83, 121, 115, 116, 101, 109, 69, 114, 114, 111, 114] P 103 (.type "SystemError"), sE #[84, 121, 112, 101, 69, 114, 114, 111, 114] P 104 (.type "TypeError"), sE #[86, 97, 108, 117, 101, 69, 114, 114, 111, 114] P 105 (.type "ValueError"), sE #[87, 97, 114, 110, 105, 110, 103] P 106 (.type "Warning"), sE #[70, 108, 111, 97, 116, 105, 110, 103, 80, 111, 105, 110, 116, 69, 114, 114, 111, 114] P 107 (.type "FloatingPointError"), sE #[79, 118, 101, 114, 102, 108, 111, 119, 69, 114, 114, 111, 114] P 108 (.type "OverflowError"), sE #[90, 101, 114, 111, 68, 105, 118, 105, 115, 105, 111, 110, 69, 114, 114, 111, 114] P 109 (.type "ZeroDivisionError"), sE #[66, 121, 116, 101, 115, 87, 97, 114, 110, 105, 110, 103] P 110 (.type "BytesWarning"), sE #[68, 101, 112, 114, 101, 99, 97, 116, 105, 111, 110, 87, 97, 114, 110, 105, 110, 103] P 111 (.type "DeprecationWarning"), sE #[69, 110, 99, 111, 100, 105, 110, 103, 87, 97, 114, 110, 105, 110, 103] P 112 (.type "EncodingWarning"), sE #[70, 117, 116, 117, 114, 101, 87, 97, 114, 110, 105, 110, 103] P 113 (.type "FutureWarning"), sE #[73, 109, 112, 111, 114, 116, 87, 97, 114, 110, 105, 110, 103] P 114 (.type "ImportWarning"), sE #[80, 101, 110, 100, 105, 110, 103, 68, 101, 112, 114, 101, 99, 97, 116, 105, 111, 110, 87, 97, 114, 110, 105, 110, 103] P 115 (.type "PendingDeprecationWarning"), sE #[82, 101, 115, 111, 117, 114, 99, 101, 87, 97, 114, 110, 105, 110, 103] P 116 (.type "ResourceWarning"), sE #[82, 117, 110, 116, 105, 109, 101, 87, 97, 114, 110, 105, 110, 103] P 117 (.type "RuntimeWarning"), sE #[83, 121, 110, 116, 97, 120, 87, 97, 114, 110, 105, 110, 103] P 118 (.type "SyntaxWarning"), sE #[85, 110, 105, 99, 111, 100, 101, 87, 97, 114, 110, 105, 110, 103] P 119 (.type "UnicodeWarning"), sE #[85, 115, 101, 114, 87, 97, 114, 110, 105, 110, 103] P 120 (.type "UserWarning"), sE #[66, 108, 111, 99, 107, 105, 110, 103, 73, 79, 69, 114, 114, 111, 114] P 121 (.type "BlockingIOError"), sE #[67, 104, 105, 108, 100, 80, 114, 111, 99, 101, 115, 115, 69, 114, 114, 111, 114] P 122 (.type "ChildProcessError"), sE #[67, 111, 110, 110, 101, 99, 116, 105, 111, 110, 69, 114, 114, 111, 114] P 123 (.type "ConnectionError"), sE #[70, 105, 108, 101, 69, 120, 105, 115, 116, 115, 69, 114, 114, 111, 114] P 124 (.type "FileExistsError"), sE #[70, 105, 108, 101, 78, 111, 116, 70, 111, 117, 110, 100, 69, 114, 114, 111, 114] P 125 (.type "FileNotFoundError"), sE #[73, 110, 116, 101, 114, 114, 117, 112, 116, 101, 100, 69, 114, 114, 111, 114] P 126 (.type "InterruptedError"), sE #[73, 115, 65, 68, 105, 114, 101, 99, 116, 111, 114, 121, 69, 114, 114, 111, 114] P 127 (.type "IsADirectoryError"), sE #[78, 111, 116, 65, 68, 105, 114, 101, 99, 116, 111, 114, 121, 69, 114, 114, 111, 114] P 128 (.type "NotADirectoryError"), sE #[80, 101, 114, 109, 105, 115, 115, 105, 111, 110, 69, 114, 114, 111, 114] P 129 (.type "PermissionError"), sE #[80, 114, 111, 99, 101, 115, 115, 76, 111, 111, 107, 117, 112, 69, 114, 114, 111, 114] P 130 (.type "ProcessLookupError"), sE #[84, 105, 109, 101, 111, 117, 116, 69, 114, 114, 111, 114] P 131 (.type "TimeoutError"), sE #[73, 110, 100, 101, 110, 116, 97, 116, 105, 111, 110, 69, 114, 114, 111, 114] P 132 (.type "IndentationError"), sE #[95, 73, 110, 99, 111, 109, 112, 108, 101, 116, 101, 73, 110, 112, 117, 116, 69, 114, 114, 111, 114] P 133 (.type "_IncompleteInputError"), sE #[73, 110, 100, 101, 120, 69, 114, 114, 111, 114] P 134 (.type "IndexError"), sE #[75, 101, 121, 69, 114, 114, 111, 114] P 135 (.type "KeyError"), sE #[77, 111, 100, 117, 108, 101, 78, 111, 116, 70, 111, 117, 110, 100, 69, 114, 114, 111, 114] P 136 (.type "ModuleNotFoundError"), sE #[78, 111, 116, 73, 109, 112, 108, 101, 109, 101, 110, 116, 101, 100, 69, 114, 114, 111, 114] P 137 (.type "NotImplementedError"), sE #[80, 121, 116, 104, 111, 110, 70, 105, 110, 97, 108, 105, 122, 97, 116, 105, 111, 110, 69, 114, 114, 111, 114] P 138 (.type "PythonFinalizationError"), sE #[82, 101, 99, 117, 114, 115, 105, 111, 110, 69, 114, 114, 111, 114] P 139 (.type "RecursionError"), sE #[85, 110, 98, 111, 117, 110, 100, 76, 111, 99, 97, 108, 69, 114, 114, 111, 114] P 140 (.type "UnboundLocalError"), sE #[85, 110, 105, 99, 111, 100, 101, 69, 114, 114, 111, 114] P 141 (.type "UnicodeError"), sE #[66, 114, 111, 107, 101, 110, 80, 105, 112, 101, 69, 114, 114, 111, 114] P 142 (.type "BrokenPipeError"), sE #[67, 111, 110, 110, 101, 99, 116, 105, 111, 110, 65, 98, 111, 114, 116, 101, 100, 69, 114, 114, 111, 114] P 143 (.type "ConnectionAbortedError"), sE #[67, 111, 110, 110, 101, 99, 116, 105, 111, 110, 82, 101, 102, 117, 115, 101, 100, 69, 114, 114, 111, 114] P 144 (.type "ConnectionRefusedError"), sE #[67, 111, 110, 110, 101, 99, 116, 105, 111, 110, 82, 101, 115, 101, 116, 69, 114, 114, 111, 114] P 145 (.type "ConnectionResetError"), sE #[84, 97, 98, 69, 114, 114, 111, 114] P 146 (.type "TabError"), sE #[85, 110, 105, 99, 111, 100, 101, 68, 101, 99, 111, 100, 101, 69, 114, 114, 111, 114] P 147 (.type "UnicodeDecodeError"), sE #[85, 110, 105, 99, 111, 100, 101, 69, 110, 99, 111, 100, 101, 69, 114, 114, 111, 114] P 148 (.type "UnicodeEncodeError"), sE #[85, 110, 105, 99, 111, 100, 101, 84, 114, 97, 110, 115, 108, 97, 116, 101, 69, 114, 114, 111, 114] P 149 (.type "UnicodeTranslateError"), sE #[69, 120, 99, 101, 112, 116, 105, 111, 110, 71, 114, 111, 117, 112] P 150 (.type "ExceptionGroup"), sE #[69, 110, 118, 105, 114, 111, 110, 109, 101, 110, 116, 69, 114, 114, 111, 114] P 151 (.type "OSError"), sE #[73, 79, 69, 114, 114, 111, 114] P 152 (.type "OSError"), sE #[111, 112, 101, 110] P 153 (.builtin "open"), sE #[113, 117, 105, 116] P 154 (.builtin "builtins.quit#opaque"), sE #[101, 120, 105, 116] P 155 (.builtin "builtins.exit#opaque"), sE #[99, 111, 112, 121, 114, 105, 103, 104, 116] P 156 (.builtin "builtins.copyright#opaque"), sE #[99, 114, 101, 100, 105, 116, 115] P 157 (.builtin "builtins.credits#opaque"), sE #[108, 105, 99, 101, 110, 115, 101] P 158 (.builtin "builtins.license#opaque"), sE #[104, 101, 108, 112] P 159 (.builtin "builtins.help#opaque")] 159, #[]⟩
noncomputable def zo2 (P : Params) : Obj := ⟨.none, none, .dict #[] 0, #[]⟩
noncomputable def zo3 (P : Params) : Obj := ⟨(.type "dict"), none, .dict #[sE #[95, 95, 110, 97, 109, 101, 95, 95] P 165 (.str ⟨#[108, 97, 119, 95, 116, 118, 48, 48, 52, 51, 95, 48, 49]⟩ 481), sE #[95, 95, 100, 111, 99, 95, 95] P 166 .none, sE #[95, 95, 112, 97, 99, 107, 97, 103, 101, 95, 95] P 167 .none, sE #[95, 95, 108, 111, 97, 100, 101, 114, 95, 95] P 168 (.builtin "__main__.__loader__#opaque"), sE #[95, 95, 115, 112, 101, 99, 95, 95] P 169 .none, sE #[95, 95, 97, 110, 110, 111, 116, 97, 116, 105, 111, 110, 115, 95, 95] P 170 (.ref 6), sE #[95, 95, 98, 117, 105, 108, 116, 105, 110, 115, 95, 95] P 171 (.ref 4), sE #[95, 95, 102, 105, 108, 101, 95, 95] P 173 (.str ⟨#[47, 99, 108, 97, 105, 109, 47, 99, 117, 116, 46, 112, 121]⟩ 172), sE #[95, 95, 99, 97, 99, 104, 101, 100, 95, 95] P 174 .none, sE #[95, 119, 97, 108, 108] P 193 (.ref 21), sE #[114, 103, 98, 95, 116, 111, 95, 104, 115, 118] P 213 (.ref 28), sE #[104, 115, 118, 95, 116, 111, 95, 114, 103, 98] P 227 (.ref 35), sE #[67, 79, 77, 80, 73, 76, 69, 82, 95, 70, 76, 65, 71, 95, 78, 65, 77, 69, 83] P 260 (.ref 36), sE #[112, 114, 101, 116, 116, 121, 95, 102, 108, 97, 103, 115] P 270 (.ref 43), sE #[78, 76] P 274 (.str ⟨#[10]⟩ 273), sE #[69, 77, 80, 84, 89, 83, 84, 82, 73, 78, 71] P 276 (.str ⟨#[]⟩ 275), sE #[95, 86, 97, 108, 117, 101, 70, 111, 114, 109, 97, 116, 116, 101, 114] P 384 (.ref 116), sE #[95, 65, 99, 99, 117, 109, 117, 108, 97, 116, 111, 114] P 480 (.ref 200), sE #[95, 108, 97, 119, 95, 104, 101, 105, 103, 104, 116, 115] P 492 (.ref 211), sE #[95, 108, 97, 119, 95, 114, 111, 119, 115] P 498 (.ref 216), sE #[95, 108, 97, 119, 95, 102, 111, 108, 100, 101, 100] P 504 (.ref 221), sE #[95, 108, 97, 119, 95, 98, 108, 111, 99, 107, 115] P 515 (.ref 228), sE #[95, 108, 97, 119, 95, 108, 111, 119, 101, 115, 116] P 521 (.ref 233), sE #[95, 108, 97, 119, 95, 100, 111, 117, 98, 108, 105, 110, 103, 115] P 527 (.ref 238), sE #[95, 108, 97, 119, 95, 108, 97, 109, 112, 115] P 536 (.ref 245), sE #[95, 108, 97, 119, 95, 115, 101, 101, 110] P 549 (.ref 252), sE #[108, 97, 119] P 555 (.ref 257)] 27, #[]⟩
noncomputable def zo4 (_ : Params) : Obj := ⟨(.type "module"), some 0, .plain, #[]⟩
noncomputable def zo27 (_ : Params) : Obj := ⟨(.type "code"), none, .fields #[(.str ⟨#[114, 103, 98, 95, 116, 111, 95, 104, 115, 118]⟩ 196), (.str ⟨#[114, 103, 98, 95, 116, 111, 95, 104, 115, 118]⟩ 197), (.str ⟨#[47, 99, 108, 97, 105, 109, 47, 99, 117, 116, 46, 112, 121]⟩ 198), (.int (5) 0), (.int (3) 0), (.int (0) 0), (.int (0) 0), (.int (3) 0), (.ref 22), (.bool true), (.int (181) 0), (.ref 23), .none, (.ref 24), (.ref 25), (.ref 26), (.int (211) 0), (.int (5) 0), (.str ⟨#[47, 99, 108, 97, 105, 109, 47, 99, 117, 116, 46, 112, 121]⟩ 212)], #[]⟩
noncomputable def zo28 (P : Params) : Obj := ⟨(.type "function"), none, .func { fdOf (topS 2) with qualname := ⟨#[114, 103, 98, 95, 116, 111, 95, 104, 115, 118]⟩, pyModule := (.str ⟨#[99, 112, 121, 51, 49, 51, 46, 99, 111, 108, 111, 114, 115, 121, 115]⟩ 194), code := (.ref 27) }, #[]⟩
noncomputable def zo34 (_ : Params) : Obj := ⟨(.type "code"), none, .fields #[(.str ⟨#[104, 115, 118, 95, 116, 111, 95, 114, 103, 98]⟩ 214), (.str ⟨#[104, 115, 118, 95, 116, 111, 95, 114, 103, 98]⟩ 215), (.str ⟨#[47, 99, 108, 97, 105, 109, 47, 99, 117, 116, 46, 112, 121]⟩ 216), (.int (24) 0), (.int (3) 0), (.int (0) 0), (.int (0) 0), (.int (3) 0), (.ref 29), (.bool true), (.int (181) 0), (.ref 30), .none, (.ref 31), (.ref 32), (.ref 33), (.int (225) 0), (.int (24) 0), (.str ⟨#[47, 99, 108, 97, 105, 109, 47, 99, 117, 116, 46, 112, 121]⟩ 226)], #[]⟩
noncomputable def zo35 (P : Params) : Obj := ⟨(.type "function"), none, .func { fdOf (topS 3) with qualname := ⟨#[104, 115, 118, 95, 116, 111, 95, 114, 103, 98]⟩, pyModule := (.str ⟨#[99, 112, 121, 51, 49, 51, 46, 99, 111, 108, 111, 114, 115, 121, 115]⟩ 194), code := (.ref 34) }, #[]⟩
noncomputable def zo36 (P : Params) : Obj := ⟨(.type "dict"), none, .dict #[⟨1, (.int (1) 230), (.str ⟨#[79, 80, 84, 73, 77, 73, 90, 69, 68]⟩ 231)⟩, ⟨2, (.int (2) 232), (.str ⟨#[78, 69, 87, 76, 79, 67, 65, 76, 83]⟩ 233)⟩, ⟨4, (.int (4) 234), (.str ⟨#[86, 65, 82, 65, 82, 71, 83]⟩ 235)⟩, ⟨8, (.int (8) 236), (.str ⟨#[86, 65, 82, 75, 69, 89, 87, 79, 82, 68, 83]⟩ 237)⟩, ⟨16, (.int (16) 238), (.str ⟨#[78, 69, 83, 84, 69, 68]⟩ 239)⟩, ⟨32, (.int (32) 240), (.str ⟨#[71, 69, 78, 69, 82, 65, 84, 79, 82]⟩ 241)⟩, ⟨64, (.int (64) 242), (.str ⟨#[78, 79, 70, 82, 69, 69]⟩ 243)⟩, ⟨128, (.int (128) 244), (.str ⟨#[67, 79, 82, 79, 85, 84, 73, 78, 69]⟩ 245)⟩, ⟨256, (.int (256) 246), (.str ⟨#[73, 84, 69, 82, 65, 66, 76, 69, 95, 67, 79, 82, 79, 85, 84, 73, 78, 69]⟩ 247)⟩, ⟨512, (.int (512) 248), (.str ⟨#[65, 83, 89, 78, 67, 95, 71, 69, 78, 69, 82, 65, 84, 79, 82]⟩ 249)⟩] 10, #[]⟩
noncomputable def zo42 (_ : Params) : Obj := ⟨(.type "code"), none, .fields #[(.str ⟨#[112, 114, 101, 116, 116, 121, 95, 102, 108, 97, 103, 115]⟩ 261), (.str ⟨#[112, 114, 101, 116, 116, 121, 95, 102, 108, 97, 103, 115]⟩ 262), (.str ⟨#[47, 99, 108, 97, 105, 109, 47, 99, 117, 116, 46, 112, 121]⟩ 263), (.int (47) 0), (.int (1) 0), (.int (0) 0), (.int (0) 0), (.int (3) 0), (.ref 37), (.bool true), (.int (181) 0), (.ref 38), .none, (.ref 39), (.ref 40), (.ref 41), (.int (268) 0), (.int (47) 0), (.str ⟨#[47, 99, 108, 97, 105, 109, 47, 99, 117, 116, 46, 112, 121]⟩ 269)], #[]⟩
noncomputable def zo43 (P : Params) : Obj := ⟨(.type "function"), none, .func { fdOf (topS 6) with qualname := ⟨#[112, 114, 101, 116, 116, 121, 95, 102, 108, 97, 103, 115]⟩, pyModule := (.str ⟨#[99, 112, 121, 51, 49, 51, 46, 100, 105, 115]⟩ 228), code := (.ref 42) }, #[]⟩
noncomputable def zo56 (_ : Params) : Obj := ⟨(.type "code"), none, .fields #[(.str ⟨#[95, 95, 105, 110, 105, 116, 95, 95]⟩ 289), (.str ⟨#[95, 86, 97, 108, 117, 101, 70, 111, 114, 109, 97, 116, 116, 101, 114, 46, 95, 95, 105, 110, 105, 116, 95, 95]⟩ 290), (.str ⟨#[47, 99, 108, 97, 105, 109, 47, 99, 117, 116, 46, 112, 121]⟩ 291), (.int (64) 0), (.int (5) 0), (.int (0) 0), (.int (0) 0), (.int (3) 0), (.ref 51), (.bool true), (.int (181) 0), (.ref 52), .none, (.ref 53), (.ref 54), (.ref 55), (.int (297) 0), (.int (64) 0), (.str ⟨#[47, 99, 108, 97, 105, 109, 47, 99, 117, 116, 46, 112, 121]⟩ 298)], #[]⟩
noncomputable def zo57 (P : Params) : Obj := ⟨(.type "function"), none, .func { fdOf (clsS 10 0) with qualname := ⟨#[95, 86, 97, 108, 117, 101, 70, 111, 114, 109, 97, 116, 116, 101, 114, 46, 95, 95, 105, 110, 105, 116, 95, 95]⟩, pyModule := (.str ⟨#[99, 112, 121, 51, 49, 51, 46, 101, 109, 97, 105, 108, 46, 104, 101, 97, 100, 101, 114]⟩ 271), code := (.ref 56) }, #[]⟩
noncomputable def zo63 (_ : Params) : Obj := ⟨(.type "code"), none, .fields #[(.str ⟨#[95, 115, 116, 114]⟩ 300), (.str ⟨#[95, 86, 97, 108, 117, 101, 70, 111, 114, 109, 97, 116, 116, 101, 114, 46, 95, 115, 116, 114]⟩ 301), (.str ⟨#[47, 99, 108, 97, 105, 109, 47, 99, 117, 116, 46, 112, 121]⟩ 302), (.int (72) 0), (.int (2) 0), (.int (0) 0), (.int (0) 0), (.int (3) 0), (.ref 58), (.bool true), (.int (181) 0), (.ref 59), .none, (.ref 60), (.ref 61), (.ref 62), (.int (305) 0), (.int (72) 0), (.str ⟨#[47, 99, 108, 97, 105, 109, 47, 99, 117, 116, 46, 112, 121]⟩ 306)], #[]⟩
noncomputable def zo64 (P : Params) : Obj := ⟨(.type "function"), none, .func { fdOf (clsS 10 1) with qualname := ⟨#[95, 86, 97, 108, 117, 101, 70, 111, 114, 109, 97, 116, 116, 101, 114, 46, 95, 115, 116, 114]⟩, pyModule := (.str ⟨#[99, 112, 121, 51, 49, 51, 46, 101, 109, 97, 105, 108, 46, 104, 101, 97, 100, 101, 114]⟩ 271), code := (.ref 63) }, #[]⟩
noncomputable def zo77 (_ : Params) : Obj := ⟨(.type "code"), none, .fields #[(.str ⟨#[110, 101, 119, 108, 105, 110, 101]⟩ 315), (.str ⟨#[95, 86, 97, 108, 117, 101, 70, 111, 114, 109, 97, 116, 116, 101, 114, 46, 110, 101, 119, 108, 105, 110, 101]⟩ 316), (.str ⟨#[47, 99, 108, 97, 105, 109, 47, 99, 117, 116, 46, 112, 121]⟩ 317), (.int (79) 0), (.int (1) 0), (.int (0) 0), (.int (0) 0), (.int (3) 0), (.ref 72), (.bool true), (.int (181) 0), (.ref 73), .none, (.ref 74), (.ref 75), (.ref 76), (.int (320) 0), (.int (79) 0), (.str ⟨#[47, 99, 108, 97, 105, 109, 47, 99, 117, 116, 46, 112, 121]⟩ 321)], #[]⟩
noncomputable def zo78 (P : Params) : Obj := ⟨(.type "function"), none, .func { fdOf (clsS 10 3) with qualname := ⟨#[95, 86, 97, 108, 117, 101, 70, 111, 114, 109, 97, 116, 116, 101, 114, 46, 110, 101, 119, 108, 105, 110, 101]⟩, pyModule := (.str ⟨#[99, 112, 121, 51, 49, 51, 46, 101, 109, 97, 105, 108, 46, 104, 101, 97, 100, 101, 114]⟩ 271), code := (.ref 77) }, #[]⟩
noncomputable def zo112 (_ : Params) : Obj := ⟨(.type "code"), none, .fields #[(.str ⟨#[95, 97, 112, 112, 101, 110, 100, 95, 99, 104, 117, 110, 107]⟩ 357), (.str ⟨#[95, 86, 97, 108, 117, 101, 70, 111, 114, 109, 97, 116, 116, 101, 114, 46, 95, 97, 112, 112, 101, 110, 100, 95, 99, 104, 117, 110, 107]⟩ 358), (.str ⟨#[47, 99, 108, 97, 105, 109, 47, 99, 117, 116, 46, 112, 121]⟩ 359), (.int (102) 0), (.int (3) 0), (.int (0) 0), (.int (0) 0), (.int (3) 0), (.ref 107), (.bool true), (.int (181) 0), (.ref 108), .none, (.ref 109), (.ref 110), (.ref 111), (.int (368) 0), (.int (102) 0), (.str ⟨#[47, 99, 108, 97, 105, 109, 47, 99, 117, 116, 46, 112, 121]⟩ 369)], #[]⟩
noncomputable def zo113 (P : Params) : Obj := ⟨(.type "function"), none, .func { fdOf (clsS 10 8) with qualname := ⟨#[95, 86, 97, 108, 117, 101, 70, 111, 114, 109, 97, 116, 116, 101, 114, 46, 95, 97, 112, 112, 101, 110, 100, 95, 99, 104, 117, 110, 107]⟩, pyModule := (.str ⟨#[99, 112, 121, 51, 49, 51, 46, 101, 109, 97, 105, 108, 46, 104, 101, 97, 100, 101, 114]⟩ 271), code := (.ref 112) }, #[]⟩
noncomputable def zo115 (P : Params) : Obj := ⟨(.type "dict"), none, .dict #[sE #[95, 95, 109, 111, 100, 117, 108, 101, 95, 95] P 284 (.str ⟨#[99, 112, 121, 51, 49, 51, 46, 101, 109, 97, 105, 108, 46, 104, 101, 97, 100, 101, 114]⟩ 271), sE #[95, 95, 102, 105, 114, 115, 116, 108, 105, 110, 101, 110, 111, 95, 95] P 288 (.int (62) 287), sE #[95, 95, 105, 110, 105, 116, 95, 95] P 299 (.ref 57), sE #[95, 115, 116, 114] P 307 (.ref 64), sE #[95, 95, 115, 116, 114, 95, 95] P 314 (.ref 71), sE #[110, 101, 119, 108, 105, 110, 101] P 322 (.ref 78), sE #[97, 100, 100, 95, 116, 114, 97, 110, 115, 105, 116, 105, 111, 110] P 329 (.ref 85), sE #[102, 101, 101, 100] P 339 (.ref 92), sE #[95, 109, 97, 120, 108, 101, 110, 103, 116, 104, 115] P 346 (.ref 99), sE #[95, 97, 115, 99, 105, 105, 95, 115, 112, 108, 105, 116] P 356 (.ref 106), sE #[95, 97, 112, 112, 101, 110, 100, 95, 99, 104, 117, 110, 107] P 370 (.ref 113), sE #[95, 95, 115, 116, 97, 116, 105, 99, 95, 97, 116, 116, 114, 105, 98, 117, 116, 101, 115, 95, 95] P 377 (.ref 114), sE #[95, 95, 100, 105, 99, 116, 95, 95] P 379 (.ref 117), sE #[95, 95, 119, 101, 97, 107, 114, 101, 102, 95, 95] P 381 (.ref 118), sE #[95, 95, 100, 111, 99, 95, 95] P 382 .none] 4, #[]⟩
noncomputable def zo116 (P : Params) : Obj := ⟨(.type "type"), none, .cls { name := ⟨#[95, 86, 97, 108, 117, 101, 70, 111, 114, 109, 97, 116, 116, 101, 114]⟩, bases := [(.type "object")], mro := [(.ref 116), (.type "object")], ns := 115, qualname := ⟨#[95, 86, 97, 108, 117, 101, 70, 111, 114, 109, 97, 116, 116, 101, 114]⟩, hasDict := true, slotNames := [], subclasses := [], abstract := false, collection := none, hasDel := false }, #[none, none, some (.str ⟨#[95, 86, 97, 108, 117, 101, 70, 111, 114, 109, 97, 116, 116, 101, 114]⟩ 277), some (.str ⟨#[95, 86, 97, 108, 117, 101, 70, 111, 114, 109, 97, 116, 116, 101, 114]⟩ 285), some (.builtin "object.__new__"), some (.bool true)]⟩
noncomputable def zo124 (_ : Params) : Obj := ⟨(.type "cell"), none, .cell (some (.ref 200)), #[]⟩
noncomputable def zo129 (_ : Params) : Obj := ⟨(.type "tuple"), none, .seq #[(.int (0) 397)] 0, #[]⟩
noncomputable def zo136 (_ : Params) : Obj := ⟨(.type "code"), none, .fields #[(.str ⟨#[95, 95, 105, 110, 105, 116, 95, 95]⟩ 398), (.str ⟨#[95, 65, 99, 99, 117, 109, 117, 108, 97, 116, 111, 114, 46, 95, 95, 105, 110, 105, 116, 95, 95]⟩ 399), (.str ⟨#[47, 99, 108, 97, 105, 109, 47, 99, 117, 116, 46, 112, 121]⟩ 400), (.int (130) 0), (.int (2) 0), (.int (0) 0), (.int (0) 0), (.int (3) 0), (.ref 131), (.bool true), (.int (181) 0), (.ref 132), .none, (.ref 133), (.ref 134), (.ref 135), (.int (404) 0), (.int (130) 0), (.str ⟨#[47, 99, 108, 97, 105, 109, 47, 99, 117, 116, 46, 112, 121]⟩ 405)], #[]⟩
noncomputable def zo137 (P : Params) : Obj := ⟨(.type "function"), none, .func { fdOf (clsS 11 0) with qualname := ⟨#[95, 65, 99, 99, 117, 109, 117, 108, 97, 116, 111, 114, 46, 95, 95, 105, 110, 105, 116, 95, 95]⟩, closure := [(⟨#[95, 95, 99, 108, 97, 115, 115, 95, 95]⟩, 124)], defaults := (.ref 129), pyModule := (.str ⟨#[99, 112, 121, 51, 49, 51, 46, 101, 109, 97, 105, 108, 46, 104, 101, 97, 100, 101, 114]⟩ 271), code := (.ref 136), closureTuple := (.ref 130) }, #[]⟩
noncomputable def zo143 (_ : Params) : Obj := ⟨(.type "code"), none, .fields #[(.str ⟨#[112, 117, 115, 104]⟩ 407), (.str ⟨#[95, 65, 99, 99, 117, 109, 117, 108, 97, 116, 111, 114, 46, 112, 117, 115, 104]⟩ 408), (.str ⟨#[47, 99, 108, 97, 105, 109, 47, 99, 117, 116, 46, 112, 121]⟩ 409), (.int (134) 0), (.int (3) 0), (.int (0) 0), (.int (0) 0), (.int (3) 0), (.ref 138), (.bool true), (.int (181) 0), (.ref 139), .none, (.ref 140), (.ref 141), (.ref 142), (.int (413) 0), (.int (134) 0), (.str ⟨#[47, 99, 108, 97, 105, 109, 47, 99, 117, 116, 46, 112, 121]⟩ 414)], #[]⟩
noncomputable def zo144 (P : Params) : Obj := ⟨(.type "function"), none, .func { fdOf (clsS 11 1) with qualname := ⟨#[95, 65, 99, 99, 117, 109, 117, 108, 97, 116, 111, 114, 46, 112, 117, 115, 104]⟩, pyModule := (.str ⟨#[99, 112, 121, 51, 49, 51, 46, 101, 109, 97, 105, 108, 46, 104, 101, 97, 100, 101, 114]⟩ 271), code := (.ref 143) }, #[]⟩
noncomputable def zo145 (_ : Params) : Obj := ⟨(.type "tuple"), none, .seq #[(.int (0) 416)] 0, #[]⟩
noncomputable def zo151 (_ : Params) : Obj := ⟨(.type "code"), none, .fields #[(.str ⟨#[112, 111, 112, 95, 102, 114, 111, 109]⟩ 417), (.str ⟨#[95, 65, 99, 99, 117, 109, 117, 108, 97, 116, 111, 114, 46, 112, 111, 112, 95, 102, 114, 111, 109]⟩ 418), (.str ⟨#[47, 99, 108, 97, 105, 109, 47, 99, 117, 116, 46, 112, 121]⟩ 419), (.int (137) 0), (.int (2) 0), (.int (0) 0), (.int (0) 0), (.int (3) 0), (.ref 146), (.bool true), (.int (181) 0), (.ref 147), .none, (.ref 148), (.ref 149), (.ref 150), (.int (423) 0), (.int (137) 0), (.str ⟨#[47, 99, 108, 97, 105, 109, 47, 99, 117, 116, 46, 112, 121]⟩ 424)], #[]⟩
noncomputable def zo152 (P : Params) : Obj := ⟨(.type "function"), none, .func { fdOf (clsS 11 2) with qualname := ⟨#[95, 65, 99, 99, 117, 109, 117, 108, 97, 116, 111, 114, 46, 112, 111, 112, 95, 102, 114, 111, 109]⟩, defaults := (.ref 145), pyModule := (.str ⟨#[99, 112, 121, 51, 49, 51, 46, 101, 109, 97, 105, 108, 46, 104, 101, 97, 100, 101, 114]⟩ 271), code := (.ref 151) }, #[]⟩
noncomputable def zo159 (_ : Params) : Obj := ⟨(.type "code"), none, .fields #[(.str ⟨#[112, 111, 112]⟩ 426), (.str ⟨#[95, 65, 99, 99, 117, 109, 117, 108, 97, 116, 111, 114, 46, 112, 111, 112]⟩ 427), (.str ⟨#[47, 99, 108, 97, 105, 109, 47, 99, 117, 116, 46, 112, 121]⟩ 428), (.int (142) 0), (.int (1) 0), (.int (0) 0), (.int (0) 0), (.int (3) 0), (.ref 154), (.bool true), (.int (181) 0), (.ref 155), .none, (.ref 156), (.ref 157), (.ref 158), (.int (431) 0), (.int (142) 0), (.str ⟨#[47, 99, 108, 97, 105, 109, 47, 99, 117, 116, 46, 112, 121]⟩ 432)], #[]⟩
noncomputable def zo160 (P : Params) : Obj := ⟨(.type "function"), none, .func { fdOf (clsS 11 3) with qualname := ⟨#[95, 65, 99, 99, 117, 109, 117, 108, 97, 116, 111, 114, 46, 112, 111, 112]⟩, closure := [(⟨#[95, 95, 99, 108, 97, 115, 115, 95, 95]⟩, 124)], pyModule := (.str ⟨#[99, 112, 121, 51, 49, 51, 46, 101, 109, 97, 105, 108, 46, 104, 101, 97, 100, 101, 114]⟩ 271), code := (.ref 159), closureTuple := (.ref 153) }, #[]⟩
noncomputable def zo166 (_ : Params) : Obj := ⟨(.type "code"), none, .fields #[(.str ⟨#[95, 95, 108, 101, 110, 95, 95]⟩ 434), (.str ⟨#[95, 65, 99, 99, 117, 109, 117, 108, 97, 116, 111, 114, 46, 95, 95, 108, 101, 110, 95, 95]⟩ 435), (.str ⟨#[47, 99, 108, 97, 105, 109, 47, 99, 117, 116, 46, 112, 121]⟩ 436), (.int (147) 0), (.int (1) 0), (.int (0) 0), (.int (0) 0), (.int (3) 0), (.ref 161), (.bool true), (.int (181) 0), (.ref 162), .none, (.ref 163), (.ref 164), (.ref 165), (.int (438) 0), (.int (147) 0), (.str ⟨#[47, 99, 108, 97, 105, 109, 47, 99, 117, 116, 46, 112, 121]⟩ 439)], #[]⟩
noncomputable def zo167 (P : Params) : Obj := ⟨(.type "function"), none, .func { fdOf (clsS 11 4) with qualname := ⟨#[95, 65, 99, 99, 117, 109, 117, 108, 97, 116, 111, 114, 46, 95, 95, 108, 101, 110, 95, 95]⟩, pyModule := (.str ⟨#[99, 112, 121, 51, 49, 51, 46, 101, 109, 97, 105, 108, 46, 104, 101, 97, 100, 101, 114]⟩ 271), code := (.ref 166) }, #[]⟩
noncomputable def zo173 (_ : Params) : Obj := ⟨(.type "code"), none, .fields #[(.str ⟨#[95, 95, 115, 116, 114, 95, 95]⟩ 441), (.str ⟨#[95, 65, 99, 99, 117, 109, 117, 108, 97, 116, 111, 114, 46, 95, 95, 115, 116, 114, 95, 95]⟩ 442), (.str ⟨#[47, 99, 108, 97, 105, 109, 47, 99, 117, 116, 46, 112, 121]⟩ 443), (.int (150) 0), (.int (1) 0), (.int (0) 0), (.int (0) 0), (.int (3) 0), (.ref 168), (.bool true), (.int (181) 0), (.ref 169), .none, (.ref 170), (.ref 171), (.ref 172), (.int (445) 0), (.int (150) 0), (.str ⟨#[47, 99, 108, 97, 105, 109, 47, 99, 117, 116, 46, 112, 121]⟩ 446)], #[]⟩
noncomputable def zo174 (P : Params) : Obj := ⟨(.type "function"), none, .func { fdOf (clsS 11 5) with qualname := ⟨#[95, 65, 99, 99, 117, 109, 117, 108, 97, 116, 111, 114, 46, 95, 95, 115, 116, 114, 95, 95]⟩, pyModule := (.str ⟨#[99, 112, 121, 51, 49, 51, 46, 101, 109, 97, 105, 108, 46, 104, 101, 97, 100, 101, 114]⟩ 271), code := (.ref 173) }, #[]⟩
noncomputable def zo175 (_ : Params) : Obj := ⟨(.type "tuple"), none, .seq #[.none] 0, #[]⟩
noncomputable def zo181 (_ : Params) : Obj := ⟨(.type "code"), none, .fields #[(.str ⟨#[114, 101, 115, 101, 116]⟩ 448), (.str ⟨#[95, 65, 99, 99, 117, 109, 117, 108, 97, 116, 111, 114, 46, 114, 101, 115, 101, 116]⟩ 449), (.str ⟨#[47, 99, 108, 97, 105, 109, 47, 99, 117, 116, 46, 112, 121]⟩ 450), (.int (153) 0), (.int (2) 0), (.int (0) 0), (.int (0) 0), (.int (3) 0), (.ref 176), (.bool true), (.int (181) 0), (.ref 177), .none, (.ref 178), (.ref 179), (.ref 180), (.int (453) 0), (.int (153) 0), (.str ⟨#[47, 99, 108, 97, 105, 109, 47, 99, 117, 116, 46, 112, 121]⟩ 454)], #[]⟩
noncomputable def zo182 (P : Params) : Obj := ⟨(.type "function"), none, .func { fdOf (clsS 11 6) with qualname := ⟨#[95, 65, 99, 99, 117, 109, 117, 108, 97, 116, 111, 114, 46, 114, 101, 115, 101, 116]⟩, defaults := (.ref 175), pyModule := (.str ⟨#[99, 112, 121, 51, 49, 51, 46, 101, 109, 97, 105, 108, 46, 104, 101, 97, 100, 101, 114]⟩ 271), code := (.ref 181) }, #[]⟩
noncomputable def zo188 (_ : Params) : Obj := ⟨(.type "code"), none, .fields #[(.str ⟨#[105, 115, 95, 111, 110, 108, 121, 119, 115]⟩ 456), (.str ⟨#[95, 65, 99, 99, 117, 109, 117, 108, 97, 116, 111, 114, 46, 105, 115, 95, 111, 110, 108, 121, 119, 115]⟩ 457), (.str ⟨#[47, 99, 108, 97, 105, 109, 47, 99, 117, 116, 46, 112, 121]⟩ 458), (.int (159) 0), (.int (1) 0), (.int (0) 0), (.int (0) 0), (.int (3) 0), (.ref 183), (.bool true), (.int (181) 0), (.ref 184), .none, (.ref 185), (.ref 186), (.ref 187), (.int (460) 0), (.int (159) 0), (.str ⟨#[47, 99, 108, 97, 105, 109, 47, 99, 117, 116, 46, 112, 121]⟩ 461)], #[]⟩
noncomputable def zo189 (P : Params) : Obj := ⟨(.type "function"), none, .func { fdOf (clsS 11 7) with qualname := ⟨#[95, 65, 99, 99, 117, 109, 117, 108, 97, 116, 111, 114, 46, 105, 115, 95, 111, 110, 108, 121, 119, 115]⟩, pyModule := (.str ⟨#[99, 112, 121, 51, 49, 51, 46, 101, 109, 97, 105, 108, 46, 104, 101, 97, 100, 101, 114]⟩ 271), code := (.ref 188) }, #[]⟩
noncomputable def zo196 (_ : Params) : Obj := ⟨(.type "code"), none, .fields #[(.str ⟨#[112, 97, 114, 116, 95, 99, 111, 117, 110, 116]⟩ 463), (.str ⟨#[95, 65, 99, 99, 117, 109, 117, 108, 97, 116, 111, 114, 46, 112, 97, 114, 116, 95, 99, 111, 117, 110, 116]⟩ 464), (.str ⟨#[47, 99, 108, 97, 105, 109, 47, 99, 117, 116, 46, 112, 121]⟩ 465), (.int (162) 0), (.int (1) 0), (.int (0) 0), (.int (0) 0), (.int (3) 0), (.ref 191), (.bool true), (.int (181) 0), (.ref 192), .none, (.ref 193), (.ref 194), (.ref 195), (.int (468) 0), (.int (162) 0), (.str ⟨#[47, 99, 108, 97, 105, 109, 47, 99, 117, 116, 46, 112, 121]⟩ 469)], #[]⟩
noncomputable def zo197 (P : Params) : Obj := ⟨(.type "function"), none, .func { fdOf (clsS 11 8) with qualname := ⟨#[95, 65, 99, 99, 117, 109, 117, 108, 97, 116, 111, 114, 46, 112, 97, 114, 116, 95, 99, 111, 117, 110, 116]⟩, closure := [(⟨#[95, 95, 99, 108, 97, 115, 115, 95, 95]⟩, 124)], pyModule := (.str ⟨#[99, 112, 121, 51, 49, 51, 46, 101, 109, 97, 105, 108, 46, 104, 101, 97, 100, 101, 114]⟩ 271), code := (.ref 196), closureTuple := (.ref 190) }, #[]⟩
noncomputable def zo199 (P : Params) : Obj := ⟨(.type "dict"), none, .dict #[sE #[95, 95, 109, 111, 100, 117, 108, 101, 95, 95] P 392 (.str ⟨#[99, 112, 121, 51, 49, 51, 46, 101, 109, 97, 105, 108, 46, 104, 101, 97, 100, 101, 114]⟩ 271), sE #[95, 95, 102, 105, 114, 115, 116, 108, 105, 110, 101, 110, 111, 95, 95] P 396 (.int (128) 395), sE #[95, 95, 105, 110, 105, 116, 95, 95] P 406 (.ref 137), sE #[112, 117, 115, 104] P 415 (.ref 144), sE #[112, 111, 112, 95, 102, 114, 111, 109] P 425 (.ref 152), sE #[112, 111, 112] P 433 (.ref 160), sE #[95, 95, 108, 101, 110, 95, 95] P 440 (.ref 167), sE #[95, 95, 115, 116, 114, 95, 95] P 447 (.ref 174), sE #[114, 101, 115, 101, 116] P 455 (.ref 182), sE #[105, 115, 95, 111, 110, 108, 121, 119, 115] P 462 (.ref 189), sE #[112, 97, 114, 116, 95, 99, 111, 117, 110, 116] P 470 (.ref 197), sE #[95, 95, 115, 116, 97, 116, 105, 99, 95, 97, 116, 116, 114, 105, 98, 117, 116, 101, 115, 95, 95] P 472 (.ref 198), sE #[95, 95, 100, 105, 99, 116, 95, 95] P 475 (.ref 201), sE #[95, 95, 119, 101, 97, 107, 114, 101, 102, 95, 95] P 477 (.ref 202), sE #[95, 95, 100, 111, 99, 95, 95] P 478 .none] 5, #[]⟩
noncomputable def zo200 (P : Params) : Obj := ⟨(.type "type"), none, .cls { name := ⟨#[95, 65, 99, 99, 117, 109, 117, 108, 97, 116, 111, 114]⟩, bases := [(.type "list")], mro := [(.ref 200), (.type "list"), (.type "object")], ns := 199, qualname := ⟨#[95, 65, 99, 99, 117, 109, 117, 108, 97, 116, 111, 114]⟩, hasDict := true, slotNames := [], subclasses := [], abstract := false, collection := none, hasDel := false }, #[some (.ref 121), none, some (.str ⟨#[95, 65, 99, 99, 117, 109, 117, 108, 97, 116, 111, 114]⟩ 385), some (.str ⟨#[95, 65, 99, 99, 117, 109, 117, 108, 97, 116, 111, 114]⟩ 393), some (.builtin "list.__new__"), some (.bool true)]⟩
noncomputable def zo210 (_ : Params) : Obj := ⟨(.type "code"), none, .fields #[(.str ⟨#[95, 108, 97, 119, 95, 104, 101, 105, 103, 104, 116, 115]⟩ 483), (.str ⟨#[95, 108, 97, 119, 95, 104, 101, 105, 103, 104, 116, 115]⟩ 484), (.str ⟨#[47, 99, 108, 97, 105, 109, 47, 99, 117, 116, 46, 112, 121]⟩ 485), (.int (165) 0), (.int (1) 0), (.int (0) 0), (.int (0) 0), (.int (3) 0), (.ref 205), (.bool true), (.int (181) 0), (.ref 206), .none, (.ref 207), (.ref 208), (.ref 209), (.int (490) 0), (.int (165) 0), (.str ⟨#[47, 99, 108, 97, 105, 109, 47, 99, 117, 116, 46, 112, 121]⟩ 491)], #[]⟩
noncomputable def zo211 (P : Params) : Obj := ⟨(.type "function"), none, .func { fdOf (topS 13) with qualname := ⟨#[95, 108, 97, 119, 95, 104, 101, 105, 103, 104, 116, 115]⟩, pyModule := (.str ⟨#[108, 97, 119, 95, 116, 118, 48, 48, 52, 51, 95, 48, 49]⟩ 481), code := (.ref 210) }, #[]⟩
noncomputable def zo215 (_ : Params) : Obj := ⟨(.type "code"), none, .fields #[(.str ⟨#[95, 108, 97, 119, 95, 114, 111, 119, 115]⟩ 493), (.str ⟨#[95, 108, 97, 119, 95, 114, 111, 119, 115]⟩ 494), (.str ⟨#[47, 99, 108, 97, 105, 109, 47, 99, 117, 116, 46, 112, 121]⟩ 495), (.int (170) 0), (.int (2) 0), (.int (0) 0), (.int (0) 0), (.int (3) 0), (.ref 212), (.bool true), (.int (181) 0), (.ref 213), .none, .none, .none, (.ref 214), (.int (496) 0), (.int (170) 0), (.str ⟨#[47, 99, 108, 97, 105, 109, 47, 99, 117, 116, 46, 112, 121]⟩ 497)], #[]⟩
noncomputable def zo216 (P : Params) : Obj := ⟨(.type "function"), none, .func { fdOf (topS 14) with qualname := ⟨#[95, 108, 97, 119, 95, 114, 111, 119, 115]⟩, pyModule := (.str ⟨#[108, 97, 119, 95, 116, 118, 48, 48, 52, 51, 95, 48, 49]⟩ 481), code := (.ref 215) }, #[]⟩
noncomputable def zo220 (_ : Params) : Obj := ⟨(.type "code"), none, .fields #[(.str ⟨#[95, 108, 97, 119, 95, 102, 111, 108, 100, 101, 100]⟩ 499), (.str ⟨#[95, 108, 97, 119, 95, 102, 111, 108, 100, 101, 100]⟩ 500), (.str ⟨#[47, 99, 108, 97, 105, 109, 47, 99, 117, 116, 46, 112, 121]⟩ 501), (.int (175) 0), (.int (1) 0), (.int (0) 0), (.int (0) 0), (.int (3) 0), (.ref 217), (.bool true), (.int (181) 0), (.ref 218), .none, .none, .none, (.ref 219), (.int (502) 0), (.int (175) 0), (.str ⟨#[47, 99, 108, 97, 105, 109, 47, 99, 117, 116, 46, 112, 121]⟩ 503)], #[]⟩
noncomputable def zo221 (P : Params) : Obj := ⟨(.type "function"), none, .func { fdOf (topS 15) with qualname := ⟨#[95, 108, 97, 119, 95, 102, 111, 108, 100, 101, 100]⟩, pyModule := (.str ⟨#[108, 97, 119, 95, 116, 118, 48, 48, 52, 51, 95, 48, 49]⟩ 481), code := (.ref 220) }, #[]⟩
noncomputable def zo227 (_ : Params) : Obj := ⟨(.type "code"), none, .fields #[(.str ⟨#[95, 108, 97, 119, 95, 98, 108, 111, 99, 107, 115]⟩ 505), (.str ⟨#[95, 108, 97, 119, 95, 98, 108, 111, 99, 107, 115]⟩ 506), (.str ⟨#[47, 99, 108, 97, 105, 109, 47, 99, 117, 116, 46, 112, 121]⟩ 507), (.int (194) 0), (.int (1) 0), (.int (0) 0), (.int (0) 0), (.int (3) 0), (.ref 222), (.bool true), (.int (181) 0), (.ref 223), .none, (.ref 224), (.ref 225), (.ref 226), (.int (513) 0), (.int (194) 0), (.str ⟨#[47, 99, 108, 97, 105, 109, 47, 99, 117, 116, 46, 112, 121]⟩ 514)], #[]⟩
noncomputable def zo228 (P : Params) : Obj := ⟨(.type "function"), none, .func { fdOf (topS 16) with qualname := ⟨#[95, 108, 97, 119, 95, 98, 108, 111, 99, 107, 115]⟩, pyModule := (.str ⟨#[108, 97, 119, 95, 116, 118, 48, 48, 52, 51, 95, 48, 49]⟩ 481), code := (.ref 227) }, #[]⟩
noncomputable def zo232 (_ : Params) : Obj := ⟨(.type "code"), none, .fields #[(.str ⟨#[95, 108, 97, 119, 95, 108, 111, 119, 101, 115, 116]⟩ 516), (.str ⟨#[95, 108, 97, 119, 95, 108, 111, 119, 101, 115, 116]⟩ 517), (.str ⟨#[47, 99, 108, 97, 105, 109, 47, 99, 117, 116, 46, 112, 121]⟩ 518), (.int (201) 0), (.int (1) 0), (.int (0) 0), (.int (0) 0), (.int (3) 0), (.ref 229), (.bool true), (.int (181) 0), (.ref 230), .none, .none, .none, (.ref 231), (.int (519) 0), (.int (201) 0), (.str ⟨#[47, 99, 108, 97, 105, 109, 47, 99, 117, 116, 46, 112, 121]⟩ 520)], #[]⟩
noncomputable def zo233 (P : Params) : Obj := ⟨(.type "function"), none, .func { fdOf (topS 17) with qualname := ⟨#[95, 108, 97, 119, 95, 108, 111, 119, 101, 115, 116]⟩, pyModule := (.str ⟨#[108, 97, 119, 95, 116, 118, 48, 48, 52, 51, 95, 48, 49]⟩ 481), code := (.ref 232) }, #[]⟩
noncomputable def zo237 (_ : Params) : Obj := ⟨(.type "code"), none, .fields #[(.str ⟨#[95, 108, 97, 119, 95, 100, 111, 117, 98, 108, 105, 110, 103, 115]⟩ 522), (.str ⟨#[95, 108, 97, 119, 95, 100, 111, 117, 98, 108, 105, 110, 103, 115]⟩ 523), (.str ⟨#[47, 99, 108, 97, 105, 109, 47, 99, 117, 116, 46, 112, 121]⟩ 524), (.int (209) 0), (.int (1) 0), (.int (0) 0), (.int (0) 0), (.int (3) 0), (.ref 234), (.bool true), (.int (181) 0), (.ref 235), .none, .none, .none, (.ref 236), (.int (525) 0), (.int (209) 0), (.str ⟨#[47, 99, 108, 97, 105, 109, 47, 99, 117, 116, 46, 112, 121]⟩ 526)], #[]⟩
noncomputable def zo238 (P : Params) : Obj := ⟨(.type "function"), none, .func { fdOf (topS 18) with qualname := ⟨#[95, 108, 97, 119, 95, 100, 111, 117, 98, 108, 105, 110, 103, 115]⟩, pyModule := (.str ⟨#[108, 97, 119, 95, 116, 118, 48, 48, 52, 51, 95, 48, 49]⟩ 481), code := (.ref 237) }, #[]⟩
noncomputable def zo244 (_ : Params) : Obj := ⟨(.type "code"), none, .fields #[(.str ⟨#[95, 108, 97, 119, 95, 108, 97, 109, 112, 115]⟩ 528), (.str ⟨#[95, 108, 97, 119, 95, 108, 97, 109, 112, 115]⟩ 529), (.str ⟨#[47, 99, 108, 97, 105, 109, 47, 99, 117, 116, 46, 112, 121]⟩ 530), (.int (215) 0), (.int (1) 0), (.int (0) 0), (.int (0) 0), (.int (3) 0), (.ref 239), (.bool true), (.int (181) 0), (.ref 240), .none, (.ref 241), (.ref 242), (.ref 243), (.int (534) 0), (.int (215) 0), (.str ⟨#[47, 99, 108, 97, 105, 109, 47, 99, 117, 116, 46, 112, 121]⟩ 535)], #[]⟩
noncomputable def zo245 (P : Params) : Obj := ⟨(.type "function"), none, .func { fdOf (topS 19) with qualname := ⟨#[95, 108, 97, 119, 95, 108, 97, 109, 112, 115]⟩, pyModule := (.str ⟨#[108, 97, 119, 95, 116, 118, 48, 48, 52, 51, 95, 48, 49]⟩ 481), code := (.ref 244) }, #[]⟩
noncomputable def zo251 (_ : Params) : Obj := ⟨(.type "code"), none, .fields #[(.str ⟨#[95, 108, 97, 119, 95, 115, 101, 101, 110]⟩ 537), (.str ⟨#[95, 108, 97, 119, 95, 115, 101, 101, 110]⟩ 538), (.str ⟨#[47, 99, 108, 97, 105, 109, 47, 99, 117, 116, 46, 112, 121]⟩ 539), (.int (221) 0), (.int (2) 0), (.int (0) 0), (.int (0) 0), (.int (3) 0), (.ref 246), (.bool true), (.int (181) 0), (.ref 247), .none, (.ref 248), (.ref 249), (.ref 250), (.int (547) 0), (.int (221) 0), (.str ⟨#[47, 99, 108, 97, 105, 109, 47, 99, 117, 116, 46, 112, 121]⟩ 548)], #[]⟩
noncomputable def zo252 (P : Params) : Obj := ⟨(.type "function"), none, .func { fdOf (topS 20) with qualname := ⟨#[95, 108, 97, 119, 95, 115, 101, 101, 110]⟩, pyModule := (.str ⟨#[108, 97, 119, 95, 116, 118, 48, 48, 52, 51, 95, 48, 49]⟩ 481), code := (.ref 251) }, #[]⟩
noncomputable def zo256 (_ : Params) : Obj := ⟨(.type "code"), none, .fields #[(.str ⟨#[108, 97, 119]⟩ 550), (.str ⟨#[108, 97, 119]⟩ 551), (.str ⟨#[47, 99, 108, 97, 105, 109, 47, 99, 117, 116, 46, 112, 121]⟩ 552), (.int (227) 0), (.int (1) 0), (.int (0) 0), (.int (0) 0), (.int (3) 0), (.ref 253), (.bool true), (.int (181) 0), (.ref 254), .none, .none, .none, (.ref 255), (.int (553) 0), (.int (227) 0), (.str ⟨#[47, 99, 108, 97, 105, 109, 47, 99, 117, 116, 46, 112, 121]⟩ 554)], #[]⟩
noncomputable def zo257 (P : Params) : Obj := ⟨(.type "function"), none, .func { fdOf (topS 21) with qualname := ⟨#[108, 97, 119]⟩, pyModule := (.str ⟨#[108, 97, 119, 95, 116, 118, 48, 48, 52, 51, 95, 48, 49]⟩ 481), code := (.ref 256) }, #[]⟩
noncomputable def KTm (P : Params) : KT := (.node (some (zo0 P)) (.node none (.node (some (zo3 P)) (.node none (.node none (.node none (.node (some (zo63 P)) .nil .nil) (.node none (.node (some (zo159 P)) .nil .nil) .nil)) (.node none (.node none (.node (some (zo143 P)) .nil .nil) .nil) (.node none (.node (some (zo175 P)) .nil .nil) .nil))) (.node none (.node none (.node none .nil (.node (some (zo199 P)) .nil .nil)) (.node none (.node (some (zo167 P)) .nil .nil) .nil)) (.node none (.node none (.node (some (zo151 P)) .nil .nil) (.node (some (zo215 P)) .nil .nil)) .nil))) (.node none (.node none (.node (some (zo35 P)) .nil (.node none .nil (.node (some (zo227 P)) .nil .nil))) (.node none (.node none .nil (.node (some (zo211 P)) .nil .nil)) (.node (some (zo115 P)) .nil .nil))) (.node (some (zo27 P)) (.node (some (zo43 P)) .nil .nil) (.node none .nil (.node none .nil (.node (some (zo251 P)) .nil .nil)))))) (.node none (.node none (.node none (.node none (.node none (.node (some (zo129 P)) (.node (some (zo257 P)) .nil .nil) .nil) .nil) .nil) (.node none (.node none (.node (some (zo145 P)) .nil .nil) .nil) (.node (some (zo113 P)) .nil .nil))) (.node none (.node none (.node none (.node (some (zo137 P)) .nil .nil) .nil) (.node none .nil (.node (some (zo233 P)) .nil .nil))) (.node (some (zo57 P)) .nil .nil))) (.node none (.node none (.node none (.node none .nil (.node (some (zo197 P)) .nil .nil)) .nil) (.node none .nil (.node none (.node (some (zo181 P)) .nil .nil) (.node (some (zo245 P)) .nil .nil)))) (.node none (.node none (.node (some (zo77 P)) .nil .nil) (.node none (.node (some (zo173 P)) .nil .nil) (.node (some (zo237 P)) .nil .nil))) (.node none (.node none .nil (.node (some (zo221 P)) .nil .nil)) (.node none (.node (some (zo189 P)) .nil .nil) .nil)))))) (.node (some (zo2 P)) (.node (some (zo4 P)) (.node none (.node none (.node none (.node (some (zo64 P)) (.node none (.node (some (zo256 P)) .nil .nil) .nil) .nil) (.node none (.node (some (zo160 P)) .nil .nil) .nil)) (.node none (.node none (.node (some (zo144 P)) .nil .nil) .nil) (.node (some (zo112 P)) .nil .nil))) (.node none (.node none (.node none (.node (some (zo136 P)) .nil .nil) (.node (some (zo200 P)) .nil .nil)) (.node none .nil (.node (some (zo232 P)) .nil .nil))) (.node (some (zo56 P)) (.node none (.node (some (zo152 P)) .nil .nil) (.node (some (zo216 P)) .nil .nil)) .nil))) (.node none (.node none (.node (some (zo36 P)) (.node none .nil (.node (some (zo196 P)) .nil .nil)) (.node none .nil (.node (some (zo228 P)) .nil .nil))) (.node none .nil (.node (some (zo116 P)) .nil (.node (some (zo244 P)) .nil .nil)))) (.node (some (zo28 P)) .nil (.node none (.node none .nil (.node (some (zo220 P)) .nil .nil)) (.node (some (zo124 P)) (.node (some (zo188 P)) .nil .nil) (.node (some (zo252 P)) .nil .nil)))))) (.node none (.node none (.node none (.node (some (zo34 P)) .nil .nil) (.node none (.node none .nil (.node (some (zo210 P)) .nil .nil)) .nil)) (.node none (.node (some (zo42 P)) .nil .nil) .nil)) (.node none (.node none (.node none .nil (.node none (.node (some (zo166 P)) .nil .nil) .nil)) (.node none .nil (.node none (.node (some (zo182 P)) .nil .nil) .nil))) (.node none (.node none (.node (some (zo78 P)) .nil .nil) (.node none (.node (some (zo174 P)) .nil .nil) (.node (some (zo238 P)) .nil .nil))) .nil)))))
noncomputable abbrev pw := PySem.Challenge.pw_tv0043_01
noncomputable def idsM : List String := ["tuple.__new__","generator.__next__","list.append","range.__new__","range.__iter__","range_iterator.__next__","list.__iter__","list_iterator.__next__","builtins.len","list.__len__","builtins.sum","builtins.next","builtins.iter","list.__getitem__","tuple.__getitem__","list.__new__","str.__new__","list.__init__","object.__new__","object.__init__","builtins.isinstance","builtins.max","builtins.min","builtins.sorted","builtins.enumerate","enumerate.__new__","enumerate.__next__","enumerate.__iter__","type.__call__","tuple.__iter__","tuple_iterator.__next__","list.extend","list.pop","list.__setitem__","list.index","str.join","str.__len__","tuple.__len__","int.__new__","bool.__new__","super.__new__","super.__init__","super.__getattribute__","dict.__new__","dict.__getitem__","dict.__setitem__","dict.get","int.__neg__","int.__pow__","int.__floordiv__","int.__mul__","int.__add__","float.__add__","float.__eq__","float.__gt__","float.__int__","float.__lt__","float.__mod__","float.__mul__","float.__rmul__","float.__sub__","float.__truediv__","function.__get__","generator.__iter__","hex","int.__and__","int.__bool__","int.__eq__","int.__gt__","int.__hash__","int.__lshift__","int.__lt__","int.__mod__","int.__ne__","int.__sub__","int.__truediv__","int.__xor__","len","list.__add__","list.__eq__.loop","list.__getattribute__","list.__iadd__","list.__ne__","list.extend.loop","list.index.loop","list.sort","max","max.loop","min","min.loop","sum","sum.loop","method_descriptor.__get__","object.__setattr__","proto.collect","proto.getattr_hooked","proto.let_go","sorted","str.__eq__","str.__getitem__","str.__iter__","str.isspace","str.split","str_ascii_iterator.__next__","tuple.__eq__","tuple.__ne__","wrapper_descriptor.__get__"]
theorem ids_ok : idsOk idsM = true := by decide +kernel
theorem kt_ok (P : Params) : ((KTm P).get cStatics).isSome = true := by kernel_rfl
/-- one run of a contract, by the kernel -/
noncomputable def EQ (Ks : Params → List Con) (K : Params → Con) (ad cd : Nat) (Q : List Nat) (ef tf : Names) : Prop :=
  ∀ (P : Params) (β v τ γ : Nat → Nat) (σ : Nat → Pos × Stk), Con.eqnP pw P (KTm P) idsM (Ks P) (K P) 100000 ad cd Q ef tf β v τ γ σ
/-- its numbers -/
structure NM (K : Params → Con) (Q : List Nat) : Prop where
  a : ∀ P, (wfB (K P) && goodQ (K P) Q) = true
  pre : ∀ P β v, ((K P).pre β v).length = (K P).n
  post : ∀ P β v τ, ((K P).post β v τ).length = (K P).n
  quiet : ∀ P β v, ((K P).code β v).quiet = true
  same : ∀ P β v τ, (K P).keep.map (fun x => ((K P).post β v τ)[x]?) = (K P).keep.map fun x => (((K P).pre (cut (K P).n β) v)[x]?).map (·.2)
noncomputable abbrev OK (w : World) (K : Con) : Prop := ConOk pw w (KTm w.params) K
theorem ok_of {Ks : Params → List Con} {K : Params → Con} {ad cd : Nat} {Q : List Nat} {ef tf : Names} (h : EQ Ks K ad cd Q ef tf) (n : NM K Q) (w : World) (hK : ∀ k ∈ Ks w.params, OK w k) : OK w (K w.params) := by
  have a := n.a w.params
  rw [Bool.and_eq_true] at a
  exact con_of_runP 100000 ad cd Q ef tf (wf_of a.1 (n.pre _) (n.post _) (n.quiet _) (n.same _)) a.2 ids_ok (kt_ok _) hK (h w.params)
theorem ofNat_ne {x y : Nat} (h : x ≠ y) : (Int.ofNat x == Int.ofNat y) = false := by
  rw [beq_eq_false_iff_ne]
  exact fun e => h (Int.ofNat.inj e)
theorem hk_nil {w : World} : ∀ k ∈ ([] : List Con), OK w k := fun k h => by cases h
theorem hk_cons {w : World} {K : Con} {l : List Con} (h : OK w K) (t : ∀ k ∈ l, OK w k) : ∀ k ∈ K :: l, OK w k := fun k hk => by
  rcases List.mem_cons.mp hk with e | e
  · rw [e]; exact h
  · exact t k e
/-- max of two ilV -/
noncomputable def maxK (x y m : Nat) : Con where
  n := 0
  na := 1
  nt := 0
  need := 60
  sel := []
  code _ v := .call (.builtin "max") ⟨[nI x (v 0), nI y (v 2)], []⟩
  pre _ _ := []
  res b _ _ := .ok (.ret (nI m (b 0)))
  post _ _ _ := []
  new _ _ _ := []
/-- a list's ilV: numbers from q on -/
noncomputable def ilV (v : Nat → Nat) : Nat → List Nat → List Value
  | _, [] => []
  | q, x :: l => nI x (v q) :: ilV v (q + 2) l
noncomputable def ilB (b : Nat → Nat) : Nat → List Nat → List Value
  | _, [] => []
  | q, x :: l => nI x (b q) :: ilB b (q + 1) l
/-- min of a list of ilV -/
noncomputable def minK (xs : List Nat) (m : Nat) : Con where
  n := 1
  na := 1
  nt := 0
  need := 60
  sel := []
  code b _ := .call (.builtin "min") ⟨[.ref (b 0 + 259)], []⟩
  pre b v := [(b 0 + 259, lis (ilV v 2 xs) (v 1))]
  res b _ _ := .ok (.ret (nI m (b 1)))
  post _ v _ := [lis (ilV v 2 xs) (v 1)]
  new _ _ _ := []
  keep := [0]
/-- sorted of a list of n ilV -/
noncomputable def sorK (rev : Bool) (na : Nat) (xs ys : List Nat) : Con where
  n := 1
  na := na
  nt := 0
  need := 60
  sel := [1]
  code b _ := .call (.builtin "sorted") ⟨[.ref (b 0 + 259)], match rev with | true => [(Str.ofString "reverse", .bool true)] | false => []⟩
  pre b v := [(b 0 + 259, lis (ilV v 2 xs) (v 1))]
  res b _ _ := .ok (.ret (.ref (b 1 + 259)))
  post _ v _ := [lis (ilV v 2 xs) (v 1)]
  new b _ _ := [lis (ilB b 3 ys) (b 2)]
  keep := [0]
/-- a call of a function of the text with one own list of five -/
noncomputable def lowK (x0 x1 x2 x3 x4 z : Nat) : Con where
  n := 1
  na := 1
  nt := 0
  need := 80
  sel := []
  code b _ := .call (.ref 233) ⟨[.ref (b 0 + 259)], []⟩
  pre b v := [(b 0 + 259, lis (ilV v 2 [x0, x1, x2, x3, x4]) (v 1))]
  res b _ _ := .ok (.ret (nI z (b 1)))
  post _ v _ := [lis (ilV v 2 [x0, x1, x2, x3, x4]) (v 1)]
  new _ _ _ := []
  keep := [0]
noncomputable def bloK (x0 x1 x2 x3 x4 y0 y1 y2 y3 y4 e : Nat) : Con where
  n := 1
  na := 9
  nt := 0
  need := 80
  sel := [1, 2]
  code b _ := .call (.ref 228) ⟨[.ref (b 0 + 259)], []⟩
  pre b v := [(b 0 + 259, lis (ilV v 2 [x0, x1, x2, x3, x4]) (v 1))]
  res b _ _ := .ok (.ret (.ref (b 1 + 259)))
  post _ v _ := [lis (ilV v 2 [x0, x1, x2, x3, x4]) (v 1)]
  new b _ _ := [tup [.ref (b 2 + 259), nI e (b 3)] 0, lis (ilB b 5 [y0, y1, y2, y3, y4]) (b 4)]
  keep := [0]
noncomputable def folK (x0 x1 x2 x3 x4 H : Nat) (F : Nat → Nat → Nat) : Con where
  n := 3
  na := 16
  nt := 0
  need := 100
  sel := [3, 4, 5, 6]
  code b _ := .call (.ref 221) ⟨[.ref (b 0 + 259)], []⟩
  pre b v := [(b 0 + 259, lis (ilV v 2 [x0, x1, x2, x3, x4]) (v 1)), (162, tblNo), (169, tblNo)]
  res b _ _ := .ok (.ret (.ref (b 3 + 259)))
  post b v _ := [lis (ilV v 2 [x0, x1, x2, x3, x4]) (v 1), tblA (b 7), tblB (b 8)]
  new b _ _ := [tup [.ref (b 4 + 259), .ref (b 5 + 259)] 0, lis [.ref (b 6 + 259)] (b 9), lis (ilB b 14 [F 0 0, F 1 0, F 2 0, F 3 0, F 4 0]) (b 10), tup [nI H (b 11), nI 0 (b 12), nI 5 (b 13)] 0]
  keep := [0]
end
noncomputable section
open PySem PySem.Spec PySem.W PySem.W.X PySem.Calls PyProof.Rows
noncomputable def svF (z : Nat → Int) (t : Nat → Nat) : Nat → Nat → List Value → List Value
  | _, 0, tl => tl
  | i, n + 1, tl => .int (z i) (t i) :: svF z t (i + 1) n tl
noncomputable def fl (x : UInt64) (t : Tok) : Value := .float x t
noncomputable def oneF : UInt64 := 4607182418800017408
noncomputable def modC (x y z : Int) : Con := opC "int.__mod__" x y z
noncomputable def frmC (x : UInt64) (y : Int) (f : UInt64) : Con := primK "float.__rmul__" (fun v => [.float x (v 0), .int y (v 1)]) 1 fun _ t => .float f t
variable {prog : Program} {w : World} {kt : KT}
theorem modC_ok {x y z : Int} (h0 : ¬(y == 0) = true) (h : x.fmod y = z) : ConOk prog w kt (modC x y z) :=
  primK_int (self := fun v => .int x (v 0)) (rest := fun v => [.int y (v 2)]) (z := fun _ => z) F.slot_int_mod (fun s v => typeIs_int s _ _) F.entry_int_mod (fun v => F.args_int_mod_2 _ _) fun v => by
    rw [← h]; exact AutoIntG6.int___mod___int_int_1 x (v 0) y (v 2) h0
theorem frmC_ok {x : UInt64} {y : Int} {f : UInt64} (h0 : ¬Float64.isInf (Float64.ofInt y) = true) (h : Float64.mul (Float64.ofInt y) x = f) : ConOk prog w kt (frmC x y f) :=
  primK_float (self := fun v => .float x (v 0)) (rest := fun v => [.int y (v 1)]) (z := fun _ => f) F.slot_float_rmul (fun s v => typeIs_float s _ _) F.entry_float_rmul (fun v => F.args_float_rmul_2 _ _) fun v => by
    rw [← h]; exact AutoFloatG6.float___rmul___float_int_1 x (v 0) y (v 1) h0
/-- script[:15] -/
noncomputable def sliK (sv out : List Value) : Con where
  n := 2
  na := 2
  nt := 0
  need := 10
  sel := [2]
  code b _ := .call (.builtin "list.__getitem__") ⟨[.ref 258, .ref (b 0 + 259)], []⟩
  pre b v := [(b 0 + 259, ⟨.type "slice", none, .fields #[.none, .int 15 (v 2), .none], #[]⟩), (258, lis sv (v 4))]
  res b _ _ := .ok (.ret (.ref (b 2 + 259)))
  post _ v _ := [⟨.type "slice", none, .fields #[.none, .int 15 (v 2), .none], #[]⟩, lis sv (v 4)]
  new b _ _ := [lis out (b 3)]
  keep := [0, 1]
noncomputable def heiK (sv : List Value) (ys : List Nat) : Con where
  n := 1
  na := 7
  nt := 0
  need := 60
  sel := [1]
  code _ _ := .call (.ref 211) ⟨[.ref 258], []⟩
  pre _ v := [(258, lis sv (v 1))]
  res b _ _ := .ok (.ret (.ref (b 1 + 259)))
  post _ v _ := [lis sv (v 1)]
  new b _ _ := [lis (ilB b 3 ys) (b 2)]
  keep := [0]
noncomputable def intK (f : UInt64) (n : Nat) : Con where
  n := 0
  na := 1
  nt := 0
  need := 60
  sel := []
  code _ v := .call (.type "int") ⟨[.float f (v 0)], []⟩
  pre _ _ := []
  res b _ _ := .ok (.ret (nI n (b 0)))
  post _ _ _ := []
  new _ _ _ := []
noncomputable def hsvK (q r g b' : UInt64) : Con where
  n := 0
  na := 4
  nt := 0
  need := 60
  sel := [0]
  code _ v := .call (.ref 35) ⟨[.float q (v 0), .float oneF (v 1), .float oneF (v 2)], []⟩
  pre _ _ := []
  res b _ _ := .ok (.ret (.ref (b 0 + 259)))
  post _ _ _ := []
  new b _ _ := [tup [.float r (b 1), .float g (b 2), .float b' (b 3)] 0]
noncomputable def rgbK (r g b' h s' v' : UInt64) : Con where
  n := 0
  na := 4
  nt := 0
  need := 60
  sel := [0]
  code _ v := .call (.ref 28) ⟨[.float r (v 0), .float g (v 1), .float b' (v 2)], []⟩
  pre _ _ := []
  res b _ _ := .ok (.ret (.ref (b 0 + 259)))
  post _ _ _ := []
  new b _ _ := [tup [.float h (b 1), .float s' (b 2), .float v' (b 3)] 0]
noncomputable def seeK (b0 b1 b2 b3 b4 W : Nat) (f0 f1 f2 f3 f4 : UInt64) : Con where
  n := 1
  na := 7
  nt := 0
  need := 90
  sel := [1]
  code b v := .call (.ref 252) ⟨[.ref (b 0 + 259), nI W (v 1)], []⟩
  pre b v := [(b 0 + 259, lis (ilV v 4 [b0, b1, b2, b3, b4]) (v 3))]
  res b _ _ := .ok (.ret (.ref (b 1 + 259)))
  post _ v _ := [lis (ilV v 4 [b0, b1, b2, b3, b4]) (v 3)]
  new b _ _ := [lis [.float f0 (b 3), .float f1 (b 4), .float f2 (b 5), .float f3 (b 6), .float f4 (b 7)] (b 2)]
  keep := [0]
noncomputable def lamK (x0 x1 x2 x3 x4 z : Nat) : Con where
  n := 1
  na := 1
  nt := 0
  need := 90
  sel := []
  code b _ := .call (.ref 245) ⟨[.ref (b 0 + 259)], []⟩
  pre b v := [(b 0 + 259, lis (ilV v 2 [x0, x1, x2, x3, x4]) (v 1))]
  res b _ _ := .ok (.ret (nI z (b 1)))
  post _ v _ := [lis (ilV v 2 [x0, x1, x2, x3, x4]) (v 1)]
  new _ _ _ := []
  keep := [0]
noncomputable def douK (x z : Nat) : Con where
  n := 0
  na := 1
  nt := 0
  need := 60
  sel := []
  code _ v := .call (.ref 238) ⟨[nI x (v 0)], []⟩
  pre _ _ := []
  res b _ _ := .ok (.ret (nI z (b 0)))
  post _ _ _ := []
  new _ _ _ := []
/-- [(H, 0, 5)] != [(K, 0, 5)] of own lists -/
noncomputable def kneK (H K : Nat) (r : Bool) : Con where
  n := 4
  na := 0
  nt := 0
  need := 20
  sel := []
  code b _ := .call (.builtin "list.__ne__") ⟨[.ref (b 0 + 259), .ref (b 1 + 259)], []⟩
  pre b v := [(b 0 + 259, lis [.ref (b 2 + 259)] (v 2)), (b 1 + 259, lis [.ref (b 3 + 259)] (v 4)), (b 2 + 259, tup [nI H (v 7), nI 0 (v 9), nI 5 (v 11)] (v 6)), (b 3 + 259, tup [nI K (v 14), nI 0 (v 16), nI 5 (v 18)] (v 13))]
  res _ _ _ := .ok (.ret (.bool r))
  post b v _ := [lis [.ref (b 2 + 259)] (v 2), lis [.ref (b 3 + 259)] (v 4), tup [nI H (v 7), nI 0 (v 9), nI 5 (v 11)] (v 6), tup [nI K (v 14), nI 0 (v 16), nI 5 (v 18)] (v 13)]
  new _ _ _ := []
  keep := [0, 1, 2, 3]
/-- floats != ints of own lists -/
noncomputable def fneK (f0 f1 f2 f3 f4 : UInt64) (y0 y1 y2 y3 y4 : Nat) (r : Bool) : Con where
  n := 2
  na := 0
  nt := 0
  need := 20
  sel := []
  code b _ := .call (.builtin "list.__ne__") ⟨[.ref (b 0 + 259), .ref (b 1 + 259)], []⟩
  pre b v := [(b 0 + 259, lis [.float f0 (v 3), .float f1 (v 4), .float f2 (v 5), .float f3 (v 6), .float f4 (v 7)] (v 2)), (b 1 + 259, lis (ilV v 9 [y0, y1, y2, y3, y4]) (v 8))]
  res _ _ _ := .ok (.ret (.bool r))
  post _ v _ := [lis [.float f0 (v 3), .float f1 (v 4), .float f2 (v 5), .float f3 (v 6), .float f4 (v 7)] (v 2), lis (ilV v 9 [y0, y1, y2, y3, y4]) (v 8)]
  new _ _ _ := []
  keep := [0, 1]
/-- the law -/
noncomputable def lawK (sv : List Value) : Con where
  n := 3
  na := 2
  nt := 0
  need := 150
  sel := []
  code _ _ := .call (.ref 257) ⟨[.ref 258], []⟩
  pre _ v := [(162, tblNo), (169, tblNo), (258, lis sv (v 1))]
  res _ _ _ := .ok (.ret (.bool true))
  post b v _ := [tblA (b 3), tblB (b 4), lis sv (v 1)]
  new _ _ _ := []
  keep := [2]
end
noncomputable section
open PySem PySem.W PySem.W.X
noncomputable def liE (k : Nat) (l : Nat) : Obj := ⟨.type "list_iterator", none, .fields #[.ref l, .int (Int.ofNat k) 0], #[]⟩
/-- sum's loop at place k with a in hand; s comes of it -/
noncomputable def sumL (k a s : Nat) (xs : List Nat) : Con where
  n := 3
  na := 4
  nt := 0
  need := 40
  sel := []
  code b _ := .builtin "sum.loop" ⟨[.ref (b 0 + 259), .ref (b 1 + 259), .int 0 0, .int 0 0], []⟩
  pre b v := [(b 0 + 259, liE k (b 2 + 259)), (b 1 + 259, lis [nI a (v 10)] (v 9)), (b 2 + 259, lis (ilV v 13 xs) (v 12))]
  res b _ _ := .ok (.ret (nI s (b 3)))
  post b v _ := [⟨.type "list_iterator", none, .fields #[.none, .int (Int.ofNat (b 4)) 0], #[]⟩, lis [nI s (b 5)] (b 6), lis (ilV v 13 xs) (v 12)]
  new _ _ _ := []
  keep := [2]
noncomputable def sumK (s : Nat) (xs : List Nat) : Con where
  n := 1
  na := 1
  nt := 0
  need := 60
  sel := []
  code b _ := .call (.builtin "sum") ⟨[.ref (b 0 + 259)], []⟩
  pre b v := [(b 0 + 259, lis (ilV v 2 xs) (v 1))]
  res b _ _ := .ok (.ret (nI s (b 1)))
  post _ v _ := [lis (ilV v 2 xs) (v 1)]
  new _ _ _ := []
  keep := [0]
end
noncomputable section
open PySem PySem.Spec PySem.W PySem.W.X PySem.Calls PyProof.Rows
open PySem.SeqAt
variable {prog : Program} {w : World} {kt : KT}
theorem kneK_ok {H K : Nat} (h : H = K) : ConOk prog w kt (kneK H K false) := by
  subst h
  refine ⟨⟨by show 4 + 0 ≤ 4096; decide, fun x h => (by cases h), List.nodup_nil, fun _ _ => rfl, fun _ _ _ => rfl, fun _ _ => rfl, fun _ _ _ => rfl⟩, fun β v A h gs tk d os R ha hd hu hR ht k => ?_⟩
  have g0 : h.get? (β 0 + 259) = some (lis [.ref (β 2 + 259)] (v 2)) := hR.own 0 (β 0 + 259) (lis [.ref (β 2 + 259)] (v 2)) (by kernel_rfl)
  have g1 : h.get? (β 1 + 259) = some (lis [.ref (β 3 + 259)] (v 4)) := hR.own 1 (β 1 + 259) (lis [.ref (β 3 + 259)] (v 4)) (by kernel_rfl)
  have g2 : h.get? (β 2 + 259) = some (tup [nI H (v 7), nI 0 (v 9), nI 5 (v 11)] (v 6)) := hR.own 2 (β 2 + 259) (tup [nI H (v 7), nI 0 (v 9), nI 5 (v 11)] (v 6)) (by kernel_rfl)
  have g3 : h.get? (β 3 + 259) = some (tup [nI H (v 14), nI 0 (v 16), nI 5 (v 18)] (v 13)) := hR.own 3 (β 3 + 259) (tup [nI H (v 14), nI 0 (v 16), nI 5 (v 18)] (v 13)) (by kernel_rfl)
  have ne : β 2 + 259 ≠ β 3 + 259 := fun e => by
    have := hR.inj 2 3 (β 2 + 259) (tup [nI H (v 7), nI 0 (v 9), nI 5 (v 11)] (v 6)) (tup [nI H (v 14), nI 0 (v 16), nI 5 (v 18)] (v 13)) (by kernel_rfl) (by rw [e]; kernel_rfl)
    cases this
  have hun : A.units + 40 < cLine := hu
  have at0 : ∀ (A' : Around) (j : Nat) (h1 : j < #[nI H (v 7), nI 0 (v 9), nI 5 (v 11)].size) (h2 : j < #[nI H (v 14), nI 0 (v 16), nI 5 (v 18)].size), EqAt A' ⟨h, gs, d, tk, os⟩ #[nI H (v 7), nI 0 (v 9), nI 5 (v 11)][j] #[nI H (v 14), nI 0 (v 16), nI 5 (v 18)][j] true := fun A' j h1 h2 => by
    match j, h1, h2 with
    | 0, _, _ => have := EqAt.int_int (A := A') (s := ⟨h, gs, d, tk, os⟩) (Int.ofNat H) (v 7) (Int.ofNat H) (v 14); rw [beq_self_eq_true] at this; exact this
    | 1, _, _ => exact EqAt.int_int (A := A') (s := ⟨h, gs, d, tk, os⟩) 0 (v 9) 0 (v 16)
    | 2, _, _ => exact EqAt.int_int (A := A') (s := ⟨h, gs, d, tk, os⟩) 5 (v 11) 5 (v 18)
  refine codeAny_call_builtin F.slot_list_ne.plain F.entry_list_ne (F.slot_list_ne.check _ _ _ _ _ _ _ _ ⟨_, g0, rfl⟩ (F.args_list_ne_2 _ _)
    (list_neAt (β 0 + 259) (β 1 + 259) #[.ref (β 2 + 259)] #[.ref (β 3 + 259)] (v 2) (v 4) none none #[] #[] rfl (fun _ => true) prog w A R _ ⟨g0, g1, fun j h1 h2 => ?_, ?_⟩))
  · match j, h1, h2 with
    | 0, _, _ =>
      refine EqAt.of_refs ne ?_
      exact RcAt.tuples (e := fun _ => true) ⟨_, g2, rfl, v 6, rfl⟩ ⟨_, g3, rfl, v 13, rfl⟩ (by show A.units + _ < _; omega) (fun j h1 h2 => at0 _ j h1 h2)
  · exact k β (fun _ => tk) h gs tk (fun x hx => rfl) hR (Nat.le_refl _) (GK.refl _) (Nat.le_refl _)
/-- a float and an int that are the same -/
theorem fi_at {A : Around} {s : Shared} {f : UInt64} {t u : Tok} {y : Int} (h : (Float64.cmpInt f y == some Ordering.eq) = true) : EqAt A s (.float f t) (.int y u) true := fun prog w E Q hq => by
  unfold eqBool
  refine wpAny_holding ?_
  refine wpAny_ite_split (fun hab => absurd (eq_of_beq hab) nofun) (fun _ => ?_)
  exact wpAny_bind (PyProof.Rows.eq_fi (wpAny_truthy_bool (by rw [h]; exact hq)))
theorem fneK_ok {f0 f1 f2 f3 f4 : UInt64} {y0 y1 y2 y3 y4 : Nat} (h0 : (Float64.cmpInt f0 (Int.ofNat y0) == some Ordering.eq) = true) (h1 : (Float64.cmpInt f1 (Int.ofNat y1) == some Ordering.eq) = true) (h2 : (Float64.cmpInt f2 (Int.ofNat y2) == some Ordering.eq) = true) (h3 : (Float64.cmpInt f3 (Int.ofNat y3) == some Ordering.eq) = true) (h4 : (Float64.cmpInt f4 (Int.ofNat y4) == some Ordering.eq) = true) :
    ConOk prog w kt (fneK f0 f1 f2 f3 f4 y0 y1 y2 y3 y4 false) := by
  refine ⟨⟨by show 2 + 0 ≤ 4096; decide, fun x h => (by cases h), List.nodup_nil, fun _ _ => rfl, fun _ _ _ => rfl, fun _ _ => rfl, fun _ _ _ => rfl⟩, fun β v A h gs tk d os R ha hd hu hR ht k => ?_⟩
  have g0 : h.get? (β 0 + 259) = some (lis [.float f0 (v 3), .float f1 (v 4), .float f2 (v 5), .float f3 (v 6), .float f4 (v 7)] (v 2)) := hR.own 0 (β 0 + 259) (lis [.float f0 (v 3), .float f1 (v 4), .float f2 (v 5), .float f3 (v 6), .float f4 (v 7)] (v 2)) (by kernel_rfl)
  have g1 : h.get? (β 1 + 259) = some (lis (ilV v 9 [y0, y1, y2, y3, y4]) (v 8)) := hR.own 1 (β 1 + 259) (lis (ilV v 9 [y0, y1, y2, y3, y4]) (v 8)) (by kernel_rfl)
  refine codeAny_call_builtin F.slot_list_ne.plain F.entry_list_ne (F.slot_list_ne.check _ _ _ _ _ _ _ _ ⟨_, g0, rfl⟩ (F.args_list_ne_2 _ _)
    (list_neAt (β 0 + 259) (β 1 + 259) #[.float f0 (v 3), .float f1 (v 4), .float f2 (v 5), .float f3 (v 6), .float f4 (v 7)] #[nI y0 (v 9), nI y1 (v 11), nI y2 (v 13), nI y3 (v 15), nI y4 (v 17)] (v 2) (v 8) none none #[] #[] rfl (fun _ => true) prog w A R _ ⟨g0, g1, fun j a1 a2 => ?_, ?_⟩))
  · match j, a1, a2 with
    | 0, _, _ => exact fi_at h0
    | 1, _, _ => exact fi_at h1
    | 2, _, _ => exact fi_at h2
    | 3, _, _ => exact fi_at h3
    | 4, _, _ => exact fi_at h4
  · exact k β (fun _ => tk) h gs tk (fun x hx => rfl) hR (Nat.le_refl _) (GK.refl _) (Nat.le_refl _)
end
noncomputable section
open PySem PySem.W PySem.W.X
/-! ## the fold, plain -/
/-- a state of the loop over the levels, its numbers from kind and length -/
noncomputable def stG (P : Params) (kind m : Nat) (kn : List (Nat × Nat × Nat)) (L R H : Nat) (F : Nat → Nat → Nat) : Con :=
  let q := match kind with | 0 => 14 | 1 => 26 | _ => 38
  let t := q + 1 + m
  let u := t + 7 * m
  let w := match kind with | 0 => u | _ => u + 10
  stK P kind m q t u w (w + 11) (m + 5) (m + 6) (m + 7) 41 [m + 7, m + 8] (match kind with | 0 => List.range' 2 (m + 1) ++ [m + 6] | _ => List.range' 2 (m + 3) ++ [m + 6]) kn L R H F
noncomputable def endG (P : Params) (H L R : Nat) : Con := endK P 38 40 47 57 68 6 7 8 27 [2, 3, 4, 5, 6, 7] H L R
/-- the rows of a page of words -/
noncomputable def rowsP : List Bool → List (List Bool)
  | [] => []
  | [false] => [[false]]
  | [true] => [[true]]
  | false :: b :: l => [false] :: rowsP (b :: l)
  | true :: true :: l => [true, true] :: rowsP l
  | true :: false :: l => [true] :: rowsP (false :: l)
/-- the knots after a level, and the leaves moved on -/
noncomputable def stepP (U : Nat) : List (Nat × Nat × Nat) → List (List Bool) → List (Nat × Nat × Nat) × List Nat
  | k :: kn, [false] :: rw => (k :: (stepP U kn rw).1, (stepP U kn rw).2)
  | (_, f, l) :: kn, [true] :: rw => ((U, f, l) :: (stepP U kn rw).1, (stepP U kn rw).2)
  | (_, f, _) :: (_, f2, l) :: kn, [true, true] :: rw => ((U, f, l) :: (stepP U kn rw).1, List.range' f2 (l - f2) ++ (stepP U kn rw).2)
  | _, _ => ([], [])
noncomputable abbrev Kn := Nat × Nat × Nat
/-- one level -/
noncomputable def stp (L U : Nat) : List Kn → List Kn
  | [] => []
  | [(h, f, l)] => match Nat.beq h L with
    | true => [(U, f, l)]
    | false => [(h, f, l)]
  | (h, f, l) :: (h2, f2, l2) :: kn => match Nat.beq h L with
    | false => (h, f, l) :: stp L U ((h2, f2, l2) :: kn)
    | true => match Nat.beq h2 L with
      | false => (U, f, l) :: stp L U ((h2, f2, l2) :: kn)
      | true => (U, f, l2) :: stp L U kn
noncomputable def patP (L : Nat) (kn : List (Nat × Nat × Nat)) : List Bool := kn.map fun k => k.1 == L
theorem beq_t {a b : Nat} (h : Nat.beq a b = true) : (a == b) = true := by rw [Nat.eq_of_beq_eq_true h]; exact beq_self_eq_true b
theorem beq_f {a b : Nat} (h : Nat.beq a b = false) : (a == b) = false := by
  rw [beq_eq_false_iff_ne]
  intro e
  rw [e, Nat.beq_refl] at h
  cases h
theorem patP_cons (L h f l : Nat) (kn : List Kn) : patP L ((h, f, l) :: kn) = (h == L) :: patP L kn := rfl
theorem stp_eq (L U : Nat) : ∀ kn : List Kn, (stepP U kn (rowsP (patP L kn))).1 = stp L U kn
  | [] => rfl
  | [(h, f, l)] => by
    rw [patP_cons]
    cases hb : Nat.beq h L with
    | true => rw [beq_t hb]; simp only [stp, hb]; rfl
    | false => rw [beq_f hb]; simp only [stp, hb]; rfl
  | (h, f, l) :: (h2, f2, l2) :: kn => by
    have i1 := stp_eq L U ((h2, f2, l2) :: kn)
    have i2 := stp_eq L U kn
    rw [patP_cons] at i1 ⊢
    rw [patP_cons]
    cases hb : Nat.beq h L with
    | false =>
      rw [beq_f hb]
      simp only [stp, hb, rowsP, stepP]
      rw [i1]
    | true =>
      cases hb2 : Nat.beq h2 L with
      | false =>
        rw [beq_t hb, beq_f hb2]
        rw [beq_f hb2] at i1
        simp only [stp, hb, hb2, rowsP, stepP]
        rw [i1]
      | true =>
        rw [beq_t hb, beq_t hb2]
        simp only [stp, hb, hb2, rowsP, stepP]
        rw [i2]
theorem len_eq (L U : Nat) : ∀ kn : List Kn, (stp L U kn).length = (rowsP (patP L kn)).length
  | [] => rfl
  | [(h, f, l)] => by
    rw [patP_cons]
    cases hb : Nat.beq h L with
    | true => rw [beq_t hb]; simp only [stp, hb]; rfl
    | false => rw [beq_f hb]; simp only [stp, hb]; rfl
  | (h, f, l) :: (h2, f2, l2) :: kn => by
    have i1 := len_eq L U ((h2, f2, l2) :: kn)
    have i2 := len_eq L U kn
    rw [patP_cons] at i1 ⊢
    rw [patP_cons]
    cases hb : Nat.beq h L with
    | false =>
      rw [beq_f hb]
      simp only [stp, hb, rowsP, List.length_cons]
      rw [i1]
    | true =>
      cases hb2 : Nat.beq h2 L with
      | false =>
        rw [beq_t hb, beq_f hb2]
        rw [beq_f hb2] at i1
        simp only [stp, hb, hb2, rowsP, List.length_cons]
        rw [i1]
      | true =>
        rw [beq_t hb, beq_t hb2]
        simp only [stp, hb, hb2, rowsP, List.length_cons]
        rw [i2]
noncomputable def lvP : List (Nat × Nat) → List Bool → List Nat
  | _ :: (f2, l2) :: sp, b :: b2 :: pt => match b with
    | false => lvP ((f2, l2) :: sp) (b2 :: pt)
    | true => match b2 with
      | false => lvP ((f2, l2) :: sp) (b2 :: pt)
      | true => List.range' f2 (l2 - f2) ++ lvP sp pt
  | _, _ => []
structure SR where
  kind : Nat
  sp : List (Nat × Nat)
  pat : List Bool
/-- the knots of a state at level L; hs are the heights of those above -/
noncomputable def knS (L : Nat) (hs : Nat → Nat) : Nat → List (Nat × Nat) → List Bool → List (Nat × Nat × Nat)
  | i, (f, l) :: sp, b :: pat => (match b with | true => L | false => hs i, f, l) :: knS L hs (i + 1) sp pat
  | _, _, _ => []
noncomputable def SR.kn (r : SR) (L : Nat) (hs : Nat → Nat) : List (Nat × Nat × Nat) := knS L hs 0 r.sp r.pat
noncomputable def SR.nkind (r : SR) : Nat := match r.kind == 2 || (rowsP r.pat).any (fun x => x.length == 2) with | true => 2 | false => 1
/-- what a state promises: one knot left, of height H, begin i is F i of the old one -/
noncomputable def FK (w : World) (kind : Nat) (kn : List (Nat × Nat × Nat)) (L R H : Nat) (F : Nat → Nat → Nat) : Prop := match kn with
  | [(h, _, _)] => OK w (endG w.params h L R) ∧ h = H ∧ F = fun _ z => z
  | kn => OK w (stG w.params kind kn.length kn L R H F)
noncomputable def SR.ok (r : SR) : Prop := ∀ (w : World) (L R H : Nat) (hs : Nat → Nat) (F : Nat → Nat → Nat), (∀ i, hs i ≠ L) → (r.kind = 0 → L = 0 ∧ R = 7) → L < 8 →
  FK w r.nkind (stepP (L + 1) (r.kn L hs) (rowsP r.pat)).1 (L + 1) R H F → FK w r.kind (r.kn L hs) L (R + 1) H (addF (lvP r.sp r.pat) (2 ^ L) F)
theorem pow_fits {L : Nat} (h : L < 8) : L = 0 ∨ ¬ Builtin.Int.intTooBig (((Builtin.Int.intBits 2 : Nat) : Int) * (L : Int)) = true := by
  have : ∀ L : Nat, L < 8 → ¬ Builtin.Int.intTooBig (((Builtin.Int.intBits 2 : Nat) : Int) * (L : Int)) = true := by decide +kernel
  exact .inr (this L h)
theorem pow_nat (L : Nat) : (2 : Int) ^ L = Int.ofNat (2 ^ L) := by
  show ((2 : Nat) : Int) ^ L = ((2 ^ L : Nat) : Int)
  exact (Int.natCast_pow 2 L).symm
noncomputable abbrev NmT := Bool × Nat × Nat × Bool × List (Option Obj)
noncomputable def nmL (K : Con) (Q : List Nat) (β v τ : Nat → Nat) : NmT := match K with
  | ⟨n, na, nt, need, sel, code, pre, res, post, new, keep⟩ => (wfB ⟨n, na, nt, need, sel, code, pre, res, post, new, keep⟩ && goodQ ⟨n, na, nt, need, sel, code, pre, res, post, new, keep⟩ Q, (pre β v).length, (post β v τ).length, (code β v).quiet, keep.map fun x => (post β v τ)[x]?)
noncomputable def nmR (K : Con) (β v : Nat → Nat) : NmT := match K with
  | ⟨n, na, nt, need, sel, code, pre, res, post, new, keep⟩ => (true, n, n, true, keep.map fun x => ((pre (cut n β) v)[x]?).map (·.2))
/-- one run of a contract, and its numbers -/
noncomputable def EN (Ks : Params → List Con) (K : Params → Con) (ad cd : Nat) (Q : List Nat) (ef tf : Names) : Prop :=
  ∀ (P : Params) (β v τ γ : Nat → Nat) (σ : Nat → Pos × Stk), (Con.lhsP pw P (KTm P) idsM (Ks P) (K P) 100000 ad cd Q ef tf β v τ γ σ, nmL (K P) Q β v τ) = (Con.rhsP pw P (KTm P) idsM (Ks P) (K P) 100000 ad cd Q ef tf β v τ γ σ, nmR (K P) β v)
theorem en_ok {Ks : Params → List Con} {K : Params → Con} {ad cd : Nat} {Q : List Nat} {ef tf : Names} (h : EN Ks K ad cd Q ef tf) (w : World) (hK : ∀ k ∈ Ks w.params, OK w k) : OK w (K w.params) := by
  refine ok_of (fun P β v τ γ σ => (Prod.mk.inj (h P β v τ γ σ)).1) ⟨fun P => ?_, fun P β v => ?_, fun P β v τ => ?_, fun P β v => ?_, fun P β v τ => ?_⟩ w hK
  · have := (Prod.mk.inj (h P (fun _ => 0) (fun _ => 0) (fun _ => 0) (fun _ => 0) (fun _ => default))).2
    exact (Prod.mk.inj this).1
  · have := (Prod.mk.inj (h P β v (fun _ => 0) (fun _ => 0) (fun _ => default))).2
    exact (Prod.mk.inj (Prod.mk.inj this).2).1
  · have := (Prod.mk.inj (h P β v τ (fun _ => 0) (fun _ => default))).2
    exact (Prod.mk.inj (Prod.mk.inj (Prod.mk.inj this).2).2).1
  · have := (Prod.mk.inj (h P β v (fun _ => 0) (fun _ => 0) (fun _ => default))).2
    exact (Prod.mk.inj (Prod.mk.inj (Prod.mk.inj (Prod.mk.inj this).2).2).2).1
  · have := (Prod.mk.inj (h P β v τ (fun _ => 0) (fun _ => default))).2
    exact (Prod.mk.inj (Prod.mk.inj (Prod.mk.inj (Prod.mk.inj this).2).2).2).2
/-- a contract with its proof -/
structure BK where
  K : Params → Con
  ok : ∀ w : World, OK w (K w.params)
theorem hk_map {w : World} : ∀ {l : List BK} {k : Con}, k ∈ l.map (fun b => b.K w.params) → OK w k := fun h => by
  obtain ⟨b, _, e⟩ := List.mem_map.mp h
  rw [← e]
  exact b.ok w
noncomputable def mkB {Ks : Params → List Con} {K : Params → Con} {ad cd : Nat} {Q : List Nat} {ef tf : Names} (l : List BK) (h : EN Ks K ad cd Q ef tf) (e : ∀ P, Ks P = l.map fun b => b.K P := by intro; rfl) : BK :=
  ⟨K, fun w => en_ok h w fun _ hk => hk_map (e w.params ▸ hk)⟩
/-- numbers put together: (value, its figures of 16) -/
noncomputable def jn (l : List (Nat × Nat)) : Nat × Nat := List.rec (motive := fun _ => Nat × Nat) (0, 0) (fun a _ r => (Nat.add (Nat.mul a.1 (Nat.pow 16 r.2)) r.1, Nat.add a.2 r.2)) l
noncomputable def cn (l : List (Nat × Nat)) : Nat := (jn l).1
noncomputable def nN : Names := fun _ _ _ => []
noncomputable def R (b : Nat → Nat) (i : Nat) : Value := .ref (b i + 259)
noncomputable def dic (l : List DictEntry) (e : Nat) : Obj := ⟨.type "dict", none, .dict l.toArray e, #[]⟩
noncomputable def iv (z : Nat) (t : Tok) : Value := .int (Int.ofNat z) t
noncomputable def ko (l : List Own) (i : Nat) : Obj := (l.getD i (0, tblNo)).2
noncomputable def g0:=jn [(0x0,4)]
noncomputable def g1:=jn [(0x2002,6)]
noncomputable def g2:=jn [(0x0,6)]
noncomputable def g3:=jn [(0x1,4)]
noncomputable def g4:=jn [(0x7007,6)]
noncomputable def g5:=jn [(0x1001,6)]
noncomputable def g6:=jn [(0x3003,6)]
noncomputable def g7:=jn [(0x4004,6)]
noncomputable def g8:=jn [(0x8008,6)]
noncomputable def g9:=jn [(0x1f00,4)]
noncomputable def g10:=jn [g1,(0x2,3)]
noncomputable def g11:=jn [(0xd00d,6)]
noncomputable def g12:=jn [(0xe00,4)]
noncomputable def g13:=jn [(0x8,2),g0]
noncomputable def g14:=jn [g4,g4]
noncomputable def g15:=jn [(0x9009,6)]
noncomputable def g16:=jn [g7,g7]
noncomputable def g17:=jn [(0x2,3),g2]
noncomputable def g18:=jn [(0xf00f,6)]
noncomputable def g19:=jn [g5,g5]
noncomputable def g20:=jn [(0x3400,4)]
noncomputable def g21:=jn [(0x6,2),g0]
noncomputable def g22:=jn [g1,g1]
noncomputable def g23:=jn [g6,g6]
noncomputable def g24:=jn [g2,(0x0,3)]
noncomputable def g25:=jn [g0,g21]
noncomputable def g26:=jn [g9,g9]
noncomputable def g27:=jn [(0x22022,6)]
noncomputable def g28:=jn [g8,g8]
noncomputable def g29:=jn [(0x6006,6)]
noncomputable def g30:=jn [(0x44,2),g3]
noncomputable def g31:=jn [(0x25025,6)]
noncomputable def g32:=jn [g11,g11]
noncomputable def g33:=jn [(0x4e,4),g0]
noncomputable def g34:=jn [(0x300,4)]
noncomputable def g35:=jn [(0xe00e,6)]
noncomputable def g36:=jn [g14,(0x7,3)]
noncomputable def g37:=jn [(0x1e,2),g3]
noncomputable def g38:=jn [g16,(0x4,3)]
noncomputable def g39:=jn [g17,g1]
noncomputable def g40:=jn [(0x5005,6)]
noncomputable def g41:=jn [g0,g13]
noncomputable def g42:=jn [(0x14014,6)]
noncomputable def g43:=jn [(0xc00c,6)]
noncomputable def g44:=jn [(0x13013,6)]
noncomputable def g45:=jn [(0x26026,6)]
noncomputable def g46:=jn [(0x28028,6)]
noncomputable def g47:=jn [(0xb00b,6)]
noncomputable def g48:=jn [(0xa00a,6)]
noncomputable def g49:=jn [(0x1,3),g2]
noncomputable def g50:=jn [(0x16016,6)]
noncomputable def g51:=jn [g17,g10,(0x3,3)]
noncomputable def g52:=jn [g39,g10]
noncomputable def g53:=jn [(0x12012,6)]
noncomputable def g54:=jn [(0x27027,6)]
noncomputable def g55:=jn [(0x1e01e,6)]
noncomputable def g56:=jn [(0x24024,6)]
noncomputable def g57:=jn [g2,g2]
noncomputable def g58:=jn [(0x20020,6)]
noncomputable def g59:=jn [g29,g29]
noncomputable def g60:=jn [(0x2e02e,6)]
noncomputable def g61:=jn [(0x15015,6)]
noncomputable def g62:=jn [(0x2a02a,6)]
noncomputable def g63:=jn [(0x9002,6),g15,g14,g36]
noncomputable def g64:=jn [(0x7,2),g3]
noncomputable def g65:=jn [(0x63,2),g3,(0xe,2),g0,g20,(0xa,2),g33,g12,g20,(0xa,2),g33,g13]
noncomputable def g66:=jn [g30,(0x4900320031004b,14),g25]
noncomputable def g67:=jn [g0,(0x0,2)]
noncomputable def g68:=jn [g44,(0x13,3)]
noncomputable def g69:=jn [g27,g27]
noncomputable def g70:=jn [(0x17017,6)]
noncomputable def g71:=jn [g42,(0x14,3)]
noncomputable def g72:=jn [g19,g19]
noncomputable def g73:=jn [g5,(0x1,3)]
noncomputable def g74:=jn [(0x21021,6)]
noncomputable def g75:=jn [(0x2c02c,6)]
noncomputable def g76:=jn [g31,g31]
noncomputable def g77:=jn [(0x29029,6)]
noncomputable def g78:=jn [(0x32032,6)]
noncomputable def g79:=jn [(0x2d02d,6)]
noncomputable def g80:=jn [(0x10010,6)]
noncomputable def g81:=jn [(0x430042,6),g0,(0x47,2),g25]
noncomputable def g82:=jn [(0x1d,4),g0]
noncomputable def g83:=jn [(0x2000,6)]
noncomputable def g84:=jn [(0x1f01f,6)]
noncomputable def g85:=jn [(0x23023,6)]
noncomputable def g86:=jn [g35,g35]
noncomputable def g87:=jn [(0x34034,6)]
noncomputable def g88:=jn [(0x3000,4)]
noncomputable def g89:=jn [(0x1c01c,6)]
noncomputable def g90:=jn [g61,(0x15,3)]
noncomputable def g91:=jn [g2,g24]
noncomputable def g92:=jn [g43,g43]
noncomputable def g93:=jn [g40,g40]
noncomputable def g94:=jn [(0x30030,6)]
noncomputable def g95:=jn [g53,(0x12,3)]
noncomputable def g96:=jn [(0x1a01a,6)]
noncomputable def g97:=jn [(0x2b02b,6)]
noncomputable def g98:=jn [(0x4003,6)]
noncomputable def g99:=jn [(0x36036,6)]
noncomputable def g100:=jn [g50,(0x16,3)]
noncomputable def g101:=jn [g8,(0x8,3)]
noncomputable def g102:=jn [g15,g15]
noncomputable def g103:=jn [(0x1,2),g67,g26,g26,g37,g13]
noncomputable def g104:=jn [g18,(0xe,3),g18,g18]
noncomputable def g105:=jn [(0x1,3),g22]
noncomputable def g106:=jn [(0x1b01b,6)]
noncomputable def g107:=jn [(0x5,2),g3,(0x1400,4)]
noncomputable def g108:=jn [g34,g12,g66]
noncomputable def g109:=jn [g64,g12]
noncomputable def g110:=jn [g47,g47]
noncomputable def g111:=jn [(0x9008,6)]
noncomputable def g112:=jn [g46,g46]
noncomputable def g113:=jn [(0x2f02f,6)]
noncomputable def g114:=jn [(0x7006,6)]
noncomputable def g115:=jn [g107,(0x4,2),g82]
noncomputable def g116:=jn [g91,g49,g49,g24,g22,g72]
noncomputable def g117:=jn [g28,g38,(0x9003,6),g63]
noncomputable def g118:=jn [(0x610f00,6),g12,g88,(0x610f00,6),g12,(0x34,2),g41]
noncomputable def g119:=jn [(0xc00d002,9),g32,(0x2,3)]
noncomputable def g120:=jn [g15,(0x9,3)]
noncomputable def g121:=jn [(0x35035,6)]
noncomputable def g122:=jn [g45,g45]
noncomputable def g123:=jn [g48,g48]
noncomputable def g124:=jn [(0x11011,6)]
noncomputable def g125:=jn [(0x31031,6)]
noncomputable def g126:=jn [(0x1d01d,6)]
noncomputable def g127:=jn [(0x33033,6)]
noncomputable def g128:=jn [g24,(0x1,3)]
noncomputable def g129:=jn [g54,g54]
noncomputable def g130:=jn [g56,g56]
noncomputable def g131:=jn [(0x18018,6)]
noncomputable def g132:=jn [g60,g60]
noncomputable def g133:=jn [g55,g55]
noncomputable def g134:=jn [(0x37037,6)]
noncomputable def g135:=jn [(0x38038,6)]
noncomputable def g136:=jn [g31,(0x12,3),g76,g32]
noncomputable def g137:=jn [g6,(0x3,3)]
noncomputable def g138:=jn [g93,(0x5,3)]
noncomputable def g139:=jn [g23,(0x3,3)]
noncomputable def g140:=jn [(0x43,2),g0,(0x4d00,4),g34,g30,(0x46,2),g3,(0x2f004100,8),g81]
noncomputable def g141:=jn [g65,(0xa300,4)]
noncomputable def g142:=jn [(0x5,3),g98]
noncomputable def g143:=jn [(0x900a,6)]
noncomputable def g144:=jn [g58,g58]
noncomputable def g145:=jn [(0x67,2),g41,g34]
noncomputable def g146:=jn [g27,(0x12,3),g69,g32]
noncomputable def g147:=jn [g62,g62]
noncomputable def g148:=jn [(0x1,6)]
noncomputable def g149:=jn [g1,g32,(0x2,3)]
noncomputable def g150:=jn [g73,g16,g38,g19]
noncomputable def g151:=jn [g0,g26,g9,g37]
noncomputable def g152:=jn [(0xc8,4)]
noncomputable def g153:=jn [(0x7fff,6),g28,g28,g28,g8]
noncomputable def g154:=jn [g65,g34,g118]
noncomputable def g155:=jn [g35,(0xd,3),g86]
noncomputable def g156:=jn [(0x0,3),g10]
noncomputable def g157:=jn [g63,g117]
noncomputable def g158:=jn [g66,g108]
noncomputable def g159:=jn [g111,g114]
noncomputable def g160:=jn [g44,g68]
noncomputable def g161:=jn [g70,(0x17,3)]
noncomputable def g162:=jn [g75,g75]
noncomputable def g163:=jn [g85,g85]
noncomputable def g164:=jn [g78,g78]
noncomputable def g165:=jn [(0x3a03a,6)]
noncomputable def g166:=jn [g74,g74]
noncomputable def g167:=jn [g4,(0x5,3),g14,g101,g23,g6,g10,g139,g22,g1]
noncomputable def g168:=jn [(0x8001b,6),g0,(0x22004900,8)]
noncomputable def g169:=jn [g20,g12,(0x49,2),g67,g26,g9,g37]
noncomputable def g170:=jn [(0x1,3),g156]
noncomputable def g171:=jn [(0x0,2),g21]
noncomputable def g172:=jn [(0xc9,2),g103]
noncomputable def g173:=jn [g77,(0x29,3)]
noncomputable def g174:=jn [g79,g79]
noncomputable def g175:=jn [g105,g116,g16,g38,g19]
noncomputable def g176:=jn [g94,g94]
noncomputable def g177:=jn [g153,g167]
noncomputable def g178:=jn [g169,g168]
noncomputable def g179:=jn [(0xd00c,6),g143,(0x0,3)]
noncomputable def g180:=jn [g160,g10,g68,g51]
noncomputable def g181:=jn [g84,g84]
noncomputable def g182:=jn [g122,(0x26,3)]
noncomputable def g183:=jn [(0x2200,4),g20,(0xca,2)]
noncomputable def g184:=jn [g1,g2,g22,g1]
noncomputable def g185:=jn [(0x0,2),g20]
noncomputable def g186:=jn [(0xb00a,6)]
noncomputable def g187:=jn [g59,(0x6,3)]
noncomputable def g188:=jn [g137,g39,g148]
noncomputable def g189:=jn [g140,g81]
noncomputable def g190:=jn [g142,g83,g1,(0x0,3),g22]
noncomputable def g191:=jn [(0xa00b,6),g57,(0xb,3),g24,(0xb,3),g24,(0xb,3)]
noncomputable def g192:=jn [g23,g68,g52]
noncomputable def g193:=jn [g42,g71,g10,g71,g51]
noncomputable def g194:=jn [g18,(0xf001,6),g18,g18]
noncomputable def g195:=jn [(0xe,2),g25,g115,g0,g26,g26,g37,g13]
noncomputable def g196:=jn [(0x26,3),g129]
noncomputable def g197:=jn [g97,g97]
noncomputable def g198:=jn [g113,(0x2f,3)]
noncomputable def g199:=jn [g124,(0x11,3)]
noncomputable def g200:=jn [g3,g0]
noncomputable def g201:=jn [g130,(0x24,3)]
noncomputable def g202:=jn [g123,g48]
noncomputable def g203:=jn [g120,(0xb,3)]
noncomputable def g204:=jn [g147,(0x2a,3)]
noncomputable def g205:=jn [(0x3004,6)]
noncomputable def g206:=jn [(0xc,3),g170]
noncomputable def g207:=jn [g112,(0x28,3)]
noncomputable def g208:=jn [g106,g106]
noncomputable def g209:=jn [(0x6,3),g179,g15,g191,g102,g120]
noncomputable def g210:=jn [g65,g64,(0xc9,2),g151,g30,(0xa,2),g33,(0xc800,4)]
noncomputable def g211:=jn [g164,(0x32,3)]
noncomputable def g212:=jn [(0x4,3),g40]
noncomputable def g213:=jn [g13,g34]
noncomputable def g214:=jn [g132,(0x2e,3)]
noncomputable def g215:=jn [g126,g126]
noncomputable def g216:=jn [g61,g90,g10,g90,g51]
noncomputable def g217:=jn [g80,(0x2,3),g80,g80]
noncomputable def g218:=jn [(0x6007,6),g59,g59,g29,g2]
noncomputable def g219:=jn [g1,g19,g5,g22,g116,g16,g38,g19]
noncomputable def g220:=jn [g115,g200]
noncomputable def g221:=jn [g176,(0x30,3)]
noncomputable def g222:=jn [(0x2,3),g38]
noncomputable def g223:=jn [g41,g34,g118]
noncomputable def g224:=jn [g95,g159,g190,(0x11,3),g104,g104,g104,(0xf,3),g86]
noncomputable def g225:=jn [g125,g125]
noncomputable def g226:=jn [g144,(0x20,3)]
noncomputable def g227:=jn [g87,g87,(0x34,3)]
noncomputable def g228:=jn [g163,(0x23,3)]
noncomputable def g229:=jn [g121,g121]
noncomputable def g230:=jn [g28,(0x8,3)]
noncomputable def g231:=jn [g53,g95]
noncomputable def g232:=jn [g16,g16,g7,g23,g23,g6,g2,g19,g2]
noncomputable def g233:=jn [g218,g73,(0x0,3),g83,g6,g1,g2]
noncomputable def g234:=jn [g20,(0xa000,4),g12,g88,(0x9d,2),g3,g21]
noncomputable def g235:=jn [(0x98,2),g115,(0x67,2),g152,(0x4b00990100,10)]
noncomputable def g236:=jn [g50,g100,g10,g100,g51]
noncomputable def g237:=jn [g110,g47]
noncomputable def g238:=jn [g162,(0x2c,3)]
noncomputable def g239:=jn [(0x1d,4)]
noncomputable def g240:=jn [g76,(0x25,3)]
noncomputable def g241:=jn [g127,g127]
noncomputable def g242:=jn [(0xc901,4)]
noncomputable def g243:=jn [g63,g157]
noncomputable def g244:=jn [g66,g158]
noncomputable def g245:=jn [g27,(0x21,3),g69]
noncomputable def g246:=jn [(0x39039,6)]
noncomputable def g247:=jn [(0xcb,2),g103]
noncomputable def g248:=jn [g186,g111]
noncomputable def g249:=jn [(0x2,3),g180]
noncomputable def g250:=jn [g134,g134]
noncomputable def g251:=jn [g205,g138,(0x1,3),g16,(0x3007,6),g212,(0x8005,6),g203,g36]
noncomputable def g252:=jn [g79,(0x2c,3)]
noncomputable def g253:=jn [(0xcb01,4)]
noncomputable def g254:=jn [(0x0,2),g13]
noncomputable def g255:=jn [g89,(0x5,3),g89,g89]
noncomputable def g256:=jn [g99,g99,(0x36,3)]
noncomputable def g257:=jn [(0x3d03d,6)]
noncomputable def g258:=jn [g70,g161]
noncomputable def g259:=jn [g195,g109]
noncomputable def g260:=jn [g55,(0x11,3),g133,g92]
noncomputable def g261:=jn [g41,(0xa300,4)]
noncomputable def g262:=jn [g237,(0x2,3),g110,g22]
noncomputable def g263:=jn [g83,g5,g128,g128]
noncomputable def g264:=jn [g166,(0x21,3)]
noncomputable def g265:=jn [(0x5,3),g59]
noncomputable def g266:=jn [g213,g145,g145]
noncomputable def g267:=jn [g119,g193]
noncomputable def g268:=jn [(0x2,3),g187]
noncomputable def g269:=jn [g32,g11]
noncomputable def g270:=jn [(0x4000,6)]
noncomputable def g271:=jn [(0xca,2),g172,g64,g152,(0x13,2),g82,g3,g67]
noncomputable def g272:=jn [(0xcc01,4)]
noncomputable def g273:=jn [g70,g70,g70]
noncomputable def g274:=jn [g119,g216]
noncomputable def g275:=jn [g77,g173]
noncomputable def g276:=jn [g1,g92,(0x2,3)]
noncomputable def g277:=jn [g154,g171,g183]
noncomputable def g278:=jn [(0x3,3),g24]
noncomputable def g279:=jn [g189,g81]
noncomputable def g280:=jn [(0x6,3),g122,g45]
noncomputable def g281:=jn [g181,(0x1f,3)]
noncomputable def g282:=jn [(0x67,2),g41,(0x97,2),g64,(0x6700,4)]
noncomputable def g283:=jn [(0xca01,4),g242,(0xc801,4)]
noncomputable def g284:=jn [(0xb00c002,9),g92,(0x2,3)]
noncomputable def g285:=jn [g195,g109,g141]
noncomputable def g286:=jn [g219,g150]
noncomputable def g287:=jn [g194,(0x700b,6)]
noncomputable def g288:=jn [g69,(0x22,3)]
noncomputable def g289:=jn [g119,g236]
noncomputable def g290:=jn [(0x2,3),g193]
noncomputable def g291:=jn [g197,(0x2b,3)]
noncomputable def g292:=jn [g140,g220]
noncomputable def g293:=jn [g129,(0x27,3)]
noncomputable def g294:=jn [(0x56009a5f6200,12)]
noncomputable def g295:=jn [(0xcd01,4)]
noncomputable def g296:=jn [g23,g95,g52]
noncomputable def g297:=jn [g105,g116,g232]
noncomputable def g298:=jn [g96,(0x19,3),g96,g96]
noncomputable def g299:=jn [g154,g109]
noncomputable def g300:=jn [g225,(0x31,3)]
noncomputable def g301:=jn [(0x9,3),g202]
noncomputable def g302:=jn [g133,(0x1e,3)]
noncomputable def g303:=jn [(0x10,3),g155,g155,g155,(0xe,3),g32]
noncomputable def g304:=jn [g253,g283,g294]
noncomputable def g305:=jn [g131,(0x4,3),g131,g131]
noncomputable def g306:=jn [g224,g137,g39,g72,(0x1,3)]
noncomputable def g307:=jn [g224,g188]
noncomputable def g308:=jn [g1,g105,g23]
noncomputable def g309:=jn [(0xcc,2),g247,g271]
noncomputable def g310:=jn [(0x5004,6)]
noncomputable def g311:=jn [(0x2,3),g123]
noncomputable def g312:=jn [(0xce01,4)]
noncomputable def g313:=jn [g175,g150]
noncomputable def g314:=jn [g56,(0x24,3)]
noncomputable def g315:=jn [g23,g100,g52,g146]
noncomputable def g316:=jn [g135,g135,(0x38,3)]
noncomputable def g317:=jn [g154,g109,g141]
noncomputable def g318:=jn [g60,(0x2d,3)]
noncomputable def g319:=jn [g113,g198]
noncomputable def g320:=jn [g23,g71,g52]
noncomputable def g321:=jn [g65,g64,(0xc8,2),g151,g30,(0xa004e,6),g25]
noncomputable def g322:=jn [g1,g105,(0x3,3)]
noncomputable def g323:=jn [g252,g174,g132,g198]
noncomputable def g324:=jn [g54,g196,g112,g173]
noncomputable def g325:=jn [g23,g90,g52,g146]
noncomputable def g326:=jn [(0x5,3),g112,g46]
noncomputable def g327:=jn [g228,g192,g27,(0x12,3),g69,(0x22,3)]
noncomputable def g328:=jn [(0x2,3),g216]
noncomputable def g329:=jn [g6,(0x2,3),g23]
noncomputable def g330:=jn [g45,(0x26,3)]
noncomputable def g331:=jn [g241,(0x33,3)]
noncomputable def g332:=jn [g57,g57,g57,g57]
noncomputable def g333:=jn [g63,g63]
noncomputable def g334:=jn [g66,g66]
noncomputable def g335:=jn [g87,g87,g87]
noncomputable def g336:=jn [g7,(0x4,3)]
noncomputable def g337:=jn [g102,g15]
noncomputable def g338:=jn [g73,g232]
noncomputable def g339:=jn [g251,g157]
noncomputable def g340:=jn [g234,g158]
noncomputable def g341:=jn [g23,g71,g52,g146]
noncomputable def g342:=jn [g202,g311,g22]
noncomputable def g343:=jn [g8,(0x7,3),g28]
noncomputable def g344:=jn [g74,(0x11,3),g166,g92]
noncomputable def g345:=jn [(0x2,3),g138]
noncomputable def g346:=jn [g96,(0x10,3),g96,g96]
noncomputable def g347:=jn [g208,(0x1b,3)]
noncomputable def g348:=jn [g23,g100,g52,g136]
noncomputable def g349:=jn [g127,(0x32,3)]
noncomputable def g350:=jn [g53,(0x11,3),g53,g53]
noncomputable def g351:=jn [g123,(0xa,3)]
noncomputable def g352:=jn [(0x2400,4),g140]
noncomputable def g353:=jn [(0xcd,2),g103]
noncomputable def g354:=jn [(0x2,3),g36]
noncomputable def g355:=jn [g182,g192,g31,(0x12,3),g76,(0x25,3)]
noncomputable def g356:=jn [(0x19019019019,12)]
noncomputable def g357:=jn [(0x2c,3),g62]
noncomputable def g358:=jn [g165,g165,(0x3a,3)]
noncomputable def g359:=jn [g229,(0x35,3)]
noncomputable def g360:=jn [g80,(0x10,3)]
noncomputable def g361:=jn [g295,g272,g304]
noncomputable def g362:=jn [(0x28,3),g45]
noncomputable def g363:=jn [(0x5,3),g69,g27]
noncomputable def g364:=jn [(0x3,3),g273]
noncomputable def g365:=jn [(0x6,3),g144,g58]
noncomputable def g366:=jn [g42,(0x3,3),g42,g42]
noncomputable def g367:=jn [g99,g99,g99]
noncomputable def g368:=jn [(0x2,3),g231,g10,g95,g51]
noncomputable def g369:=jn [g23,g161,g52,g136]
noncomputable def g370:=jn [g143,g57,(0xa,3),g24,(0xa,3),g24,(0xa,3)]
noncomputable def g371:=jn [g84,(0x12,3),g181,g32]
noncomputable def g372:=jn [(0xb,3),g170]
noncomputable def g373:=jn [(0xe,2),g25,g183]
noncomputable def g374:=jn [g50,(0x15,3),g50,g50]
noncomputable def g375:=jn [(0x45,2),g3]
noncomputable def g376:=jn [(0x3b03b,6)]
noncomputable def g377:=jn [g0,(0x1,2),g0]
noncomputable def g378:=jn [g4,(0x7,3)]
noncomputable def g379:=jn [g243,g117]
noncomputable def g380:=jn [g244,g108]
noncomputable def g381:=jn [(0x12,3),g209]
noncomputable def g382:=jn [g113,(0x2e,3)]
noncomputable def g383:=jn [g174,(0x2d,3)]
noncomputable def g384:=jn [g215,(0x1d,3)]
noncomputable def g385:=jn [g171,(0x2200,4),g20,(0x3100,4)]
noncomputable def g386:=jn [g107,(0x4,2),g239]
noncomputable def g387:=jn [(0x2,3),g236]
noncomputable def g388:=jn [(0xb,3),g92]
noncomputable def g389:=jn [g32,(0xd,3)]
noncomputable def g390:=jn [g121,(0x34,3)]
noncomputable def g391:=jn [g56,(0x23,3)]
noncomputable def g392:=jn [(0x2400,4),g279]
noncomputable def g393:=jn [g72,g72]
noncomputable def g394:=jn [g84,(0x1f,3)]
noncomputable def g395:=jn [g77,(0x28,3)]
noncomputable def g396:=jn [g125,(0x30,3)]
noncomputable def g397:=jn [(0x3f03f,6)]
noncomputable def g398:=jn [(0xcf01,4),g312]
noncomputable def g399:=jn [g98,g2]
noncomputable def g400:=jn [g199,(0x8,3),g114,g190,g303,g188]
noncomputable def g401:=jn [(0x2,3),g230]
noncomputable def g402:=jn [g35,(0xe001,6),g86]
noncomputable def g403:=jn [g265,(0x5,3)]
noncomputable def g404:=jn [g286,g150]
noncomputable def g405:=jn [g266,g145,g282]
noncomputable def g406:=jn [g54,(0x26,3)]
noncomputable def g407:=jn [(0x3e03e03e03e,12)]
noncomputable def g408:=jn [(0xcb,2),g223,g171,g183]
noncomputable def g409:=jn [g89,g89,(0x1c,3)]
noncomputable def g410:=jn [g175,g297]
noncomputable def g411:=jn [g140,g292]
noncomputable def g412:=jn [(0x6,3),g147,g62]
noncomputable def g413:=jn [g113,g113]
noncomputable def g414:=jn [g31,(0x5,3),g76]
noncomputable def g415:=jn [g246,(0x39,3)]
noncomputable def g416:=jn [(0x40040,6)]
noncomputable def g417:=jn [(0x500c00b008009000,18),g8,g370,g28,g101]
noncomputable def g418:=jn [(0x3,3),g265]
noncomputable def g419:=jn [(0xa1,2),g185,(0x3300a1,6),g185,(0x33,2),g25]
noncomputable def g420:=jn [(0x27,3),g330,(0x24,3),g240,g130]
noncomputable def g421:=jn [(0x5,3),g130,g56]
noncomputable def g422:=jn [(0xf,3),g11]
noncomputable def g423:=jn [(0xc,3),g48]
noncomputable def g424:=jn [(0x20,3),g55]
noncomputable def g425:=jn [g63,g233]
noncomputable def g426:=jn [g66,g235]
noncomputable def g427:=jn [g18,(0x2,3),g18,g18]
noncomputable def g428:=jn [g337,(0x2,3),g15,g15,g22]
noncomputable def g429:=jn [(0x5,3),g144,g58]
noncomputable def g430:=jn [g18,(0x1,3),g18,g18]
noncomputable def g431:=jn [(0xce,2),g353,g309]
noncomputable def g432:=jn [g186,g159]
noncomputable def g433:=jn [g119,g258,g10,g161,g51]
noncomputable def g434:=jn [g97,(0x2a,3)]
noncomputable def g435:=jn [g221,g23,g90,g52,g136]
noncomputable def g436:=jn [g1,g110,(0x2,3)]
noncomputable def g437:=jn [g98,g57,g278,g278,(0x3,3),g263]
noncomputable def g438:=jn [(0x2a,3),g46]
noncomputable def g439:=jn [(0x38,3),g99]
noncomputable def g440:=jn [g248,(0x7,3)]
noncomputable def g441:=jn [g299,g210]
noncomputable def g442:=jn [g207,g23,g71,g52,g136,g406,g119,g180,g355]
noncomputable def g443:=jn [g9,(0x58,2)]
noncomputable def g444:=jn [(0x4,3),g133,g55]
noncomputable def g445:=jn [(0xcb,2),g172,g271]
noncomputable def g446:=jn [(0x22,3),g58]
noncomputable def g447:=jn [(0x5,3),g208,g106]
noncomputable def g448:=jn [g44,(0x3,3),g44,g44]
noncomputable def g449:=jn [(0x29,3),g204,g77,g77]
noncomputable def g450:=jn [(0x34,3),g78]
noncomputable def g451:=jn [g4,(0x5,3),g14,g28,g28,g101,g270,(0x3,3),g73,g17,g22,g2]
noncomputable def g452:=jn [g245,g163,g314]
noncomputable def g453:=jn [(0x4,3),g273]
noncomputable def g454:=jn [g197,g197,g97]
noncomputable def g455:=jn [g277,g259,g210]
noncomputable def g456:=jn [g137,(0x5,3)]
noncomputable def g457:=jn [g59,g59,g142]
noncomputable def g458:=jn [g23,g194,g209,(0x12,3),g217,g217,g217,g217,(0x10,3),g22,g194,(0xf,3),g73,g102,(0xa,3),g57,(0xb00000b,9),g57,g332,g57,g91,g102,g2]
noncomputable def g459:=jn [(0x8001b,6),g0,(0x1c,2),g3,(0x1400a2,6),g239,g152,g377]
noncomputable def g460:=jn [(0x46,2),g3,(0x2e,2),g185,(0x33,2)]
noncomputable def g461:=jn [g86,g35]
noncomputable def g462:=jn [(0x2400,4),g189]
noncomputable def g463:=jn [g54,(0x27,3)]
noncomputable def g464:=jn [(0x2,3),g124,g199,g10,g199,g51]
noncomputable def g465:=jn [g23,g199,g52]
noncomputable def g466:=jn [g308,g322,(0x2,3),g73]
noncomputable def g467:=jn [(0x3c03c03c03c03c,15)]
noncomputable def g468:=jn [g407,(0x3e,3)]
noncomputable def g469:=jn [g320,g260]
noncomputable def g470:=jn [(0x8005a,6)]
noncomputable def g471:=jn [g219,g313]
noncomputable def g472:=jn [g423,g301,g301,(0x9,3),g351,g102,g101,g153,g451]
noncomputable def g473:=jn [g310,g2,g40,(0x2,3),g336]
noncomputable def g474:=jn [(0x98,2),g386,g185,g20,g21]
noncomputable def g475:=jn [g240,g341,g391,g119,g180,g327]
noncomputable def g476:=jn [(0xa,3),g111,(0x7,3)]
noncomputable def g477:=jn [(0xca,2),g178,(0xc9,2),g169,g459]
noncomputable def g478:=jn [g141,g141]
noncomputable def g479:=jn [(0x27,3),g207]
noncomputable def g480:=jn [(0x2e,3),g75]
noncomputable def g481:=jn [g284,g180]
noncomputable def g482:=jn [(0xa,3),g170]
noncomputable def g483:=jn [(0xa00b002,9),g110]
noncomputable def g484:=jn [g281,g296,g55,(0x11,3),g133,(0x1e,3),g400]
noncomputable def g485:=jn [g303,g8,(0xc,3),g177,g472]
noncomputable def g486:=jn [g85,(0x22,3)]
noncomputable def g487:=jn [g2,(0x3,3)]
noncomputable def g488:=jn [g29,(0x6,3)]
noncomputable def g489:=jn [g53,g53,g53]
noncomputable def g490:=jn [g343,g102]
noncomputable def g491:=jn [g2,(0x3,3),g263]
noncomputable def g492:=jn [g360,g114,g190,g422,(0xc,3),g269,(0xc,3),g269,(0xc,3),g389,g92,g188]
noncomputable def g493:=jn [(0x14,3),g350,g350,g53,(0x11,3),g231,g124,g124,g8,(0x10,3),g177,g485]
noncomputable def g494:=jn [(0x1e,3),g255,g255,g255,g255,(0x1c,3)]
noncomputable def g495:=jn [g227,g369,g349,g289,g211,g348]
noncomputable def g496:=jn [(0x30,3),g54,g196,(0x2e,3),g238]
noncomputable def g497:=jn [g162,g162,g75,g454,g184,g438]
noncomputable def g498:=jn [(0x7,3),g162,g75]
noncomputable def g499:=jn [(0x8,3),g335]
noncomputable def g500:=jn [(0xcb,2),g261]
noncomputable def g501:=jn [g362,g280,g280,g280,(0x6,3),g182,g59]
noncomputable def g502:=jn [(0x8009,6),g57,(0x9,3),g24,(0x9,3),g24,(0x9,3)]
noncomputable def g503:=jn [(0x7,3),g164,g78]
noncomputable def g504:=jn [(0x8,3),g367]
noncomputable def g505:=jn [g201,g428,g130]
noncomputable def g506:=jn [g126,(0x10,3),g215,g110]
noncomputable def g507:=jn [(0x0,2),g213]
noncomputable def g508:=jn [g219,g175]
noncomputable def g509:=jn [g189,g220]
noncomputable def g510:=jn [g392,g81]
noncomputable def g511:=jn [g339,g117]
noncomputable def g512:=jn [g340,g108]
noncomputable def g513:=jn [g285,g210]
noncomputable def g514:=jn [(0x7,3),g335]
noncomputable def g515:=jn [(0xcc,2),g178,(0xcb,2),g178,g477]
noncomputable def g516:=jn [g134,(0x5,3),g250]
noncomputable def g517:=jn [(0xca,2),g223,g109,g141]
noncomputable def g518:=jn [g284,g193]
noncomputable def g519:=jn [g373,g259,g210]
noncomputable def g520:=jn [(0x24,3),g245]
noncomputable def g521:=jn [g19,(0x1,3)]
noncomputable def g522:=jn [(0x9901,4),g0]
noncomputable def g523:=jn [(0x9,3),g2]
noncomputable def g524:=jn [g17,g491]
noncomputable def g525:=jn [(0x6005,6)]
noncomputable def g526:=jn [g175,g338]
noncomputable def g527:=jn [g352,g140]
noncomputable def g528:=jn [g404,g150]
noncomputable def g529:=jn [g357,(0x29,3),g204,g173,g479,g129]
noncomputable def g530:=jn [g333,g233]
noncomputable def g531:=jn [g334,g235]
noncomputable def g532:=jn [g393,g72]
noncomputable def g533:=jn [g405,(0xd1,2),g254]
noncomputable def g534:=jn [(0x18,3),g374,g374,g50,(0x15,3),g50,g100,g61,g61,g8,(0x14,3),g177,g493]
noncomputable def g535:=jn [(0x610f00,6)]
noncomputable def g536:=jn [(0xd2,2),g254,(0xd1,2)]
noncomputable def g537:=jn [g332,g57,g57,g91]
noncomputable def g538:=jn [g206,(0x37,3),g136]
noncomputable def g539:=jn [(0x2e003,6)]
noncomputable def g540:=jn [g154,g385,g259]
noncomputable def g541:=jn [g204,g23,g90,g52,g136,g395,g267,g442]
noncomputable def g542:=jn [(0x2,3),g258,g10,g161,g51]
noncomputable def g543:=jn [g248,(0x3c,3)]
noncomputable def g544:=jn [g206,(0x3f,3),g146,g230]
noncomputable def g545:=jn [g141,g210]
noncomputable def g546:=jn [(0xa,3),g159]
noncomputable def g547:=jn [(0x25,3),g182,g76]
noncomputable def g548:=jn [g284,g231,g10,g95,g51]
noncomputable def g549:=jn [(0x1c,3),g298,g298,g298,(0x1a,3),g356,g8,(0x18,3),g177,g534]
noncomputable def g550:=jn [g77,g77,g77,g77,g77]
noncomputable def g551:=jn [g375,g171,g34,g20]
noncomputable def g552:=jn [(0x0,3),g49]
noncomputable def g553:=jn [g382,g267,g214,g23,g71,g52,g136,g38,g293,g222,g293,g149,g529,g249,g355]
noncomputable def g554:=jn [g359,g149,(0x3a,3),g135,(0x37,3),g316,g134,(0x37035,6),g256,g229]
noncomputable def g555:=jn [g226,g28,g8,(0x2,3),g28,g22,g144]
noncomputable def g556:=jn [(0xce,2),g178,(0xcd,2),g178,g515]
noncomputable def g557:=jn [g17,(0x2,3)]
noncomputable def g558:=jn [g419,g34,g20]
noncomputable def g559:=jn [g516,g135,g135,g415]
noncomputable def g560:=jn [g148,g128,g148,g148,g128]
noncomputable def g561:=jn [g124,g124,g124]
noncomputable def g562:=jn [(0x36,2),g3]
noncomputable def g563:=jn [g343,(0x9,3)]
noncomputable def g564:=jn [g30,g30]
noncomputable def g565:=jn [(0xcfce,4),g103]
noncomputable def g566:=jn [g50,(0x4,3),g50,g50]
noncomputable def g567:=jn [(0x3,3),g489]
noncomputable def g568:=jn [g211,g341,g138,g201,g222,g201,g149,g496,g262,g497,g326,g326,g326,(0x5,3),g207,g93,g463,g196,g420,g249,g327]
noncomputable def g569:=jn [(0x4,3),g208,g106]
noncomputable def g570:=jn [(0x2,3),g461]
noncomputable def g571:=jn [g96,(0x1a,3)]
noncomputable def g572:=jn [g257,g257,(0x3d,3)]
noncomputable def g573:=jn [(0x7,3),g176,g94]
noncomputable def g574:=jn [g74,(0x5,3),g166]
noncomputable def g575:=jn [(0x6,3),g69,g27]
noncomputable def g576:=jn [g131,g131,(0x18,3)]
noncomputable def g577:=jn [g398,g361]
noncomputable def g578:=jn [g424,(0x1d,3),g133,g55,(0x1d,3),g133,g55,(0x1d,3),g302,g215,g8,(0x1c,3),g177,g549]
noncomputable def g579:=jn [(0x4,3),g186,(0x7008000,9),g4,g502,g14,g378]
noncomputable def g580:=jn [g148,g128,g128]
noncomputable def g581:=jn [g48,(0xa,3)]
noncomputable def g582:=jn [g175,g410]
noncomputable def g583:=jn [g140,g411]
noncomputable def g584:=jn [g243,g157]
noncomputable def g585:=jn [g244,g158]
noncomputable def g586:=jn [g251,g63]
noncomputable def g587:=jn [g234,g66]
noncomputable def g588:=jn [g464,g347,g465,g346,(0x1a,3),g492]
noncomputable def g589:=jn [(0x0,3),g270]
noncomputable def g590:=jn [g251,g379]
noncomputable def g591:=jn [g234,g380]
noncomputable def g592:=jn [g243,g233]
noncomputable def g593:=jn [g244,g235]
noncomputable def g594:=jn [g520,g245,g245,(0x22,3),g166,g8,(0x20,3),g177,g578]
noncomputable def g595:=jn [g0,(0x3d00,4)]
noncomputable def g596:=jn [g252,g174,(0x2c02d,6),g75,(0x2c,3)]
noncomputable def g597:=jn [(0x28,3),g179,g191,(0x902b,6)]
noncomputable def g598:=jn [g266,g145,g145,g282]
noncomputable def g599:=jn [g266,g282,(0xcf,2),g254]
noncomputable def g600:=jn [g54,g196,(0x26027,6),g330]
noncomputable def g601:=jn [(0xc9,2),g261,g141]
noncomputable def g602:=jn [g299,g321]
noncomputable def g603:=jn [(0x22,3),g179,g191,(0x9025,6)]
noncomputable def g604:=jn [g538,g390,g433]
noncomputable def g605:=jn [g134,(0x36,3)]
noncomputable def g606:=jn [g540,g321]
noncomputable def g607:=jn [g149,(0x32,3)]
noncomputable def g608:=jn [g209,(0x24,3),g27,g363,g363,g363,(0x5,3),g288]
noncomputable def g609:=jn [(0x19,3),g70,g364,g364,g364,(0x3,3),g258,g458]
noncomputable def g610:=jn [(0x1a,3),g305,g305,g305,g305,(0x18,3)]
noncomputable def g611:=jn [g480,(0x2b,3),g238,g97,(0x2b,3),g449]
noncomputable def g612:=jn [g206,(0x39,3),g146]
noncomputable def g613:=jn [g256,g315,g390,g274,g227,g325]
noncomputable def g614:=jn [(0x36,3),g87,(0x33,3),g227,g127,(0x33031,6),g211,g225]
noncomputable def g615:=jn [g182,g345,g182]
noncomputable def g616:=jn [g154,g385,g285]
noncomputable def g617:=jn [g467,g315,g36]
noncomputable def g618:=jn [g45,(0x25,3)]
noncomputable def g619:=jn [g209,g446,g365,g365,g365,(0x6,3),g226,g59]
noncomputable def g620:=jn [(0x16,3),g366,g366,g366,g42,(0x3,3),g42,g71,g458]
noncomputable def g621:=jn [g206,(0x3f,3),g146,g257,(0x3c,3),g289]
noncomputable def g622:=jn [(0xc9,2),g223,g109,g141]
noncomputable def g623:=jn [(0xca,2),g261,g141]
noncomputable def g624:=jn [g46,(0x28,3),g196,(0x27,3),g122,g290,g475]
noncomputable def g625:=jn [g331,g149,g439,(0x35,3),g256,g121,(0x35033,6),g227,g241]
noncomputable def g626:=jn [g226,g192,g84,(0x12,3),g281]
noncomputable def g627:=jn [g372,(0x39,3)]
noncomputable def g628:=jn [g84,(0x1e,3)]
noncomputable def g629:=jn [g10,g560]
noncomputable def g630:=jn [(0x40,2),g3]
noncomputable def g631:=jn [g43,(0xc,3)]
noncomputable def g632:=jn [(0x8,3),g114]
noncomputable def g633:=jn [g352,g279]
noncomputable def g634:=jn [g127,(0x33032,6),g331,g78,(0x32030,6),g300,g176]
noncomputable def g635:=jn [g27,(0x22020,6),g264,g144,g368,g484]
noncomputable def g636:=jn [(0xd0,2),g178,(0xcf,2),g178,g556]
noncomputable def g637:=jn [g8,(0x1,3)]
noncomputable def g638:=jn [g81,g220]
noncomputable def g639:=jn [g117,g117,g233]
noncomputable def g640:=jn [g108,g108,g235]
noncomputable def g641:=jn [g339,g157]
noncomputable def g642:=jn [g340,g158]
noncomputable def g643:=jn [g19,g5,g49]
noncomputable def g644:=jn [(0xcd,2),g172,g309]
noncomputable def g645:=jn [g221,g149,(0x3c,3),g349,g241,(0x3a,3),g316,g262,g135,g135,g135,g135,g135,g250,g250,g134,g184,(0x36,3),g87]
noncomputable def g646:=jn [g226,g222,g226,g276]
noncomputable def g647:=jn [(0xcdcc,4),g103,g445]
noncomputable def g648:=jn [(0xcd,2),g247,g309]
noncomputable def g649:=jn [(0x22,3),g74,(0x21,3)]
noncomputable def g650:=jn [(0x11,3),g417]
noncomputable def g651:=jn [g500,g277]
noncomputable def g652:=jn [g23,g90,g52,g344]
noncomputable def g653:=jn [g362,(0x25,3),g122,g45,(0x25,3),g122,g45,g547,g8,(0x24,3),g177,g594]
noncomputable def g654:=jn [(0x1400380027,10),g239,(0x0,2)]
noncomputable def g655:=jn [g490,g343,g111,g378,g5,g49,g5,g336,(0x6,3)]
noncomputable def g656:=jn [g329,g16,g329,g98,g10,g5,g49,g19,g5,g2]
noncomputable def g657:=jn [(0xcc,2),g172,g445]
noncomputable def g658:=jn [g126,(0x1c,3),g215,g133,g394]
noncomputable def g659:=jn [g85,(0x23021,6),g69,(0x22,3),g166]
noncomputable def g660:=jn [(0xcb,2),g223,g109,g277]
noncomputable def g661:=jn [g408,g373]
noncomputable def g662:=jn [g356,(0x19,3)]
noncomputable def g663:=jn [g308,g466]
noncomputable def g664:=jn [g456,g322]
noncomputable def g665:=jn [(0x50050050050,12)]
noncomputable def g666:=jn [(0x1,3),g59,g2]
noncomputable def g667:=jn [(0x30,3),g318,g214,g79,(0x2d02b,6),g238,g197]
noncomputable def g668:=jn [g86,(0xe,3)]
noncomputable def g669:=jn [g92,(0xc,3)]
noncomputable def g670:=jn [g286,g313]
noncomputable def g671:=jn [g352,g189]
noncomputable def g672:=jn [g471,g150]
noncomputable def g673:=jn [g288,g296,g74,(0x11,3),g264,g400]
noncomputable def g674:=jn [g128,g552,g57,(0x1,3)]
noncomputable def g675:=jn [(0x3e003d,6),g0]
noncomputable def g676:=jn [(0xd0cf,4),g103,g431]
noncomputable def g677:=jn [g357,(0x29,3),g147,g62,(0x29,3),g147,g62,g449,g8,(0x28,3),g177,g653]
noncomputable def g678:=jn [(0x202005c,8),g20,(0x25004e0025,10),g33,(0x0,2),g26,g9,g37,g13]
noncomputable def g679:=jn [(0x24,3),g209,g501,g287]
noncomputable def g680:=jn [g608,g93,g287,(0x19,3)]
noncomputable def g681:=jn [(0x3,3),g561]
noncomputable def g682:=jn [(0x2,3),g269]
noncomputable def g683:=jn [g141,g321]
noncomputable def g684:=jn [g310,(0x2c,3)]
noncomputable def g685:=jn [(0x1e,3),g619,g287]
noncomputable def g686:=jn [(0x1a,3),g209,g494,g93,g287,(0x16,3)]
noncomputable def g687:=jn [(0xa009006007000,15)]
noncomputable def g688:=jn [(0x30,3),g98]
noncomputable def g689:=jn [(0x32003,6)]
noncomputable def g690:=jn [(0x49,4),g0,(0x3b003d003b003d,14),g0,(0x3b003d003b,10),g0,(0x3b003d,6),g595,(0x3b,2),g0,g654,(0x3b00,4),g562,g200,g0]
noncomputable def g691:=jn [(0x7008,6),g57,(0x8,3),g24,(0x8,3),g24,(0x8,3)]
noncomputable def g692:=jn [g238,g348,g434,g274,g541]
noncomputable def g693:=jn [g612,g605,g289]
noncomputable def g694:=jn [g206,(0x3d,3),g136,g376,(0x3a,3),g433,g358,g369]
noncomputable def g695:=jn [g440,(0x3a,3)]
noncomputable def g696:=jn [g94,(0x30,3)]
noncomputable def g697:=jn [(0x2d,3),g206]
noncomputable def g698:=jn [(0x41,3),g371]
noncomputable def g699:=jn [g138,g275,g345,g275,g149,g611,g290,g442]
noncomputable def g700:=jn [g293,g325,g618,g267,g475]
noncomputable def g701:=jn [g248,(0x3a,3)]
noncomputable def g702:=jn [g383,g325,g75,(0x2b,3),g267,g291,g341,g38,g201,g222,g201,g149,(0x29,3),g54,g196,g420,g249,g327]
noncomputable def g703:=jn [g468,g257,g257]
noncomputable def g704:=jn [(0x8,3),g132,g60]
noncomputable def g705:=jn [g147,g147,g62]
noncomputable def g706:=jn [(0x6,3),g129,g54]
noncomputable def g707:=jn [g74,(0x20,3)]
noncomputable def g708:=jn [g317,g210]
noncomputable def g709:=jn [(0xca,2),g261,g317]
noncomputable def g710:=jn [g408,g285]
noncomputable def g711:=jn [g187,g615,g607,g395,g77,g77,(0x30,3),g214,g262,g132,g132,g60,g174,g174,g79,g184,g357,g412,g412,g412,(0x6,3),g204,g59,g173,(0x28,3),g275,g624]
noncomputable def g712:=jn [g450,(0x31,3),g211,g125,(0x3102f,6),g221,g413]
noncomputable def g713:=jn [g206,(0x3d,3),g136,g230,g359,g401,g554,g542]
noncomputable def g714:=jn [(0x3f,3),g416,g416,(0x40,3)]
noncomputable def g715:=jn [(0x25,3),g182,g31,(0x25023,6),g201,g163]
noncomputable def g716:=jn [g372,(0x33,3)]
noncomputable def g717:=jn [g627,g260,g36]
noncomputable def g718:=jn [(0x7,3),g132,g60]
noncomputable def g719:=jn [g106,(0x11,3),g208,g92]
noncomputable def g720:=jn [(0x1f,3),g226]
noncomputable def g721:=jn [g31,(0x24,3)]
noncomputable def g722:=jn [(0x7,3),g112,g46]
noncomputable def g723:=jn [g319,g320,g371,g138,g264,g222,g264,g149,(0x2d,3),g391,g130,(0x2b,3),g275,g262,g550,g112,g112,g46,g184,(0x27,3),g414,g414,g414,g31,(0x5,3),g240,g93,g314,(0x23,3),g201,g659,g249,g626]
noncomputable def g724:=jn [g544,g250,(0x37,3),g401,g250,(0x37,3),g149,(0x3c,3),g165,(0x39,3),g358,g415,(0x37,3),g316,g250,g387]
noncomputable def g725:=jn [g214,g192,g260,g138,g646,(0x2c,3),g486,g163,(0x2a,3)]
noncomputable def g726:=jn [(0x9,3),g170]
noncomputable def g727:=jn [g264,g192,g260,g58,(0x1f,3),g548,g484]
noncomputable def g728:=jn [g182,g428,g122]
noncomputable def g729:=jn [g1,g123,(0x2,3)]
noncomputable def g730:=jn [(0x1901900f,9)]
noncomputable def g731:=jn [g207,g342,g112,g112,g46,g129,g129,g54,g184,(0x26,3),g56,g421,g421,g421,(0x5,3),g201,g93,g85,(0x23022,6),g228,g635]
noncomputable def g732:=jn [g165,(0x39,3),g165,g165]
noncomputable def g733:=jn [g419,g474,g460,(0x0,2)]
noncomputable def g734:=jn [g89,(0xc,3)]
noncomputable def g735:=jn [(0xa,3),g2]
noncomputable def g736:=jn [(0x10,3),g35]
noncomputable def g737:=jn [g92,g43]
noncomputable def g738:=jn [(0x2020054,8)]
noncomputable def g739:=jn [g204,g296,g346,g110,g138,g409,g222,g409,g436,(0x28,3),g628,g181,(0x26,3),g505]
noncomputable def g740:=jn [(0x2,3),g80,g80,(0x10,3),g10,g360,g51]
noncomputable def g741:=jn [g23,g360,g52]
noncomputable def g742:=jn [(0xd2,2),g178,(0xd1,2),g178,g636]
noncomputable def g743:=jn [g0,g64,g522]
noncomputable def g744:=jn [(0x2,3),g49]
noncomputable def g745:=jn [(0x3,3),g83,g437]
noncomputable def g746:=jn [g40,(0x4,3)]
noncomputable def g747:=jn [(0x5009,6)]
noncomputable def g748:=jn [g279,g220]
noncomputable def g749:=jn [g189,g292]
noncomputable def g750:=jn [g508,g313]
noncomputable def g751:=jn [g528,g150]
noncomputable def g752:=jn [g510,g81]
noncomputable def g753:=jn [g333,g425]
noncomputable def g754:=jn [g334,g426]
noncomputable def g755:=jn [g157,g233]
noncomputable def g756:=jn [g158,g235]
noncomputable def g757:=jn [g655,g329,(0x4,3)]
noncomputable def g758:=jn [g130,g56,g163,g163,g85,g184,g446,g429,g429,g429,(0x5,3),g226,g93,g394,(0x1e,3),g281,g55,(0x1e01c,6),g384,g89,g89,g588]
noncomputable def g759:=jn [g18,(0xf006,6),g190,(0xe,3),g43,g388,g43,g388,g43,g388,(0xc,3),g110,g188]
noncomputable def g760:=jn [(0x30,3),g318,g132,g318,g132,g318,g214,g174,g8,(0x2c,3),g177,g677]
noncomputable def g761:=jn [g2,g17]
noncomputable def g762:=jn [g596,(0xb,3),g114,g597,g430,(0x700b,6)]
noncomputable def g763:=jn [g533,(0xd0,2)]
noncomputable def g764:=jn [g405,(0xd0,2),g254]
noncomputable def g765:=jn [g2,(0x1,3)]
noncomputable def g766:=jn [g600,(0xb,3),g114,g603,g430,(0x700b,6)]
noncomputable def g767:=jn [g245,(0x21,3),g649,(0xa,3)]
noncomputable def g768:=jn [(0x7,3),g2]
noncomputable def g769:=jn [g209,g610,g16,g287,g381,g620]
noncomputable def g770:=jn [(0x1d00c00b008009000,18),g370,(0x8020,6),g35,(0x1,3),g86]
noncomputable def g771:=jn [g213,g145,g282]
noncomputable def g772:=jn [g553,g306]
noncomputable def g773:=jn [(0xcb,2),g261,g141]
noncomputable def g774:=jn [(0xcb,2),g223,g109,g141]
noncomputable def g775:=jn [g209,g424,g444,g444,g444,(0x4,3),g302,g16,g287,g381,g609]
noncomputable def g776:=jn [g417,(0x1d,3),g106,g447,g447,g447,(0x5,3),g347,g93]
noncomputable def g777:=jn [g131,(0x17,3),g131,g131]
noncomputable def g778:=jn [g553,g307]
noncomputable def g779:=jn [(0xd001,4),g398]
noncomputable def g780:=jn [(0x88088,6)]
noncomputable def g781:=jn [(0x86086,6)]
noncomputable def g782:=jn [(0x6f06f06f06f,12)]
noncomputable def g783:=jn [(0x19,3),g70,g453,g453,g453,(0x4,3),g258,g16]
noncomputable def g784:=jn [(0x42042041042042042042,21)]
noncomputable def g785:=jn [(0x7a07a,6)]
noncomputable def g786:=jn [(0x70070,6)]
noncomputable def g787:=jn [(0x6e06e,6)]
noncomputable def g788:=jn [(0x64064064064,12)]
noncomputable def g789:=jn [(0x63063,6)]
noncomputable def g790:=jn [(0x5b05b05b05b,12)]
noncomputable def g791:=jn [(0x5a05a,6)]
noncomputable def g792:=jn [(0x52052052052,12)]
noncomputable def g793:=jn [(0x51051,6)]
noncomputable def g794:=jn [(0x4f04f,6)]
noncomputable def g795:=jn [(0x45045,6)]
noncomputable def g796:=jn [(0x3,2),g0]
noncomputable def g797:=jn [g460,(0x0,2),g12,g375,g171,g474]
noncomputable def g798:=jn [g34,g20,(0xe,2),g25]
noncomputable def g799:=jn [(0x8,3),g2]
noncomputable def g800:=jn [(0x1,3),g93]
noncomputable def g801:=jn [g650,(0x15,3),g448,g448,g448,g44,(0x3,3),g160,g23,g402,g417,(0x11,3),g427,g427,g427,g427,(0xf,3),g22,g402,(0xe,3),g73,g28,(0x9,3),g57,(0xa00000a,9),g537,g28,g2]
noncomputable def g802:=jn [g450,(0x31,3),g164,g78,(0x31,3),g164,g78,(0x31,3),g211,g225,g8,(0x30,3),g177,g760]
noncomputable def g803:=jn [g351,g457,g521,(0x4,3),g1]
noncomputable def g804:=jn [g637,g28,g22,g23,(0x2,3),g23,g22,g22]
noncomputable def g805:=jn [g7,(0x1,3),g16,g23,(0x2,3)]
noncomputable def g806:=jn [(0x0,3),g1,(0x0,3),g1]
noncomputable def g807:=jn [g67,g26,g26,g37]
noncomputable def g808:=jn [(0x1,3),g59,(0x5,3),g2]
noncomputable def g809:=jn [(0x3000,6),g5,g674]
noncomputable def g810:=jn [(0x6,3),g580,(0x5,3)]
noncomputable def g811:=jn [(0x3000,6),g278]
noncomputable def g812:=jn [g28,g15,g521,(0x9005,6),g15,g14,g36]
noncomputable def g813:=jn [g156,(0x0,3),g23,g22,g10]
noncomputable def g814:=jn [g270,g7,g2]
noncomputable def g815:=jn [g679,(0x20,3)]
noncomputable def g816:=jn [g533,(0xd0cf,4),g103]
noncomputable def g817:=jn [(0xce,2),g254]
noncomputable def g818:=jn [(0x1,3),g92]
noncomputable def g819:=jn [g443,g443,g37,(0x57,2)]
noncomputable def g820:=jn [g198,(0x35,3),g323,g323,g323,g323]
noncomputable def g821:=jn [g173,(0x2f,3),g324,g324,g324,g324]
noncomputable def g822:=jn [(0x19,3),g776,g402,(0x600a015,9)]
noncomputable def g823:=jn [g604,g495,g396,g274,g435]
noncomputable def g824:=jn [g432,(0x5,3)]
noncomputable def g825:=jn [(0x3600402c,9)]
noncomputable def g826:=jn [(0x3,3),g687,g29,g691,g59,g488]
noncomputable def g827:=jn [g214,g369,g252,g289,g692]
noncomputable def g828:=jn [(0x38030,6)]
noncomputable def g829:=jn [(0xc9,2),g261,g317]
noncomputable def g830:=jn [(0x34,3),g98]
noncomputable def g831:=jn [g495,g187,g291,g268,g291,g149,g667,g328,g541]
noncomputable def g832:=jn [g440,(0x38,3)]
noncomputable def g833:=jn [g621,g617,g359,g354,g554,g328,g227,g325]
noncomputable def g834:=jn [(0xc9,2),g261]
noncomputable def g835:=jn [(0x4029,6)]
noncomputable def g836:=jn [g246,(0x38,3),g289,g316,g348,g187,g300,g268,g300,g149,g614,g328,g435]
noncomputable def g837:=jn [g467,g315,g376,(0x3a,3),g274,g358,g325,g187,g331,g268,g625,g290,g568]
noncomputable def g838:=jn [g694,g36,g331,g354,g625,g387,g211,g348,g396,g274,g435]
noncomputable def g839:=jn [(0x3c,3),g697]
noncomputable def g840:=jn [g701,(0x6,3)]
noncomputable def g841:=jn [g713,g495,g396,g274,g435]
noncomputable def g842:=jn [g376,g376,(0x3b,3)]
noncomputable def g843:=jn [(0x4003e03e03d,12)]
noncomputable def g844:=jn [g248,(0x42,3)]
noncomputable def g845:=jn [g46,(0x27,3)]
noncomputable def g846:=jn [(0xc9,2),g223,g385,g285]
noncomputable def g847:=jn [g256,g315,g36,g207,g268,g207,g149,(0x34,3),g434,g197,(0x32,3),g221,g262,g176,g176,g94,g413,g413,g113,g184,g480,g498,g498,g498,(0x7,3),g238,g14,g97,(0x2b02a,6),g291,g62,(0x2a028,6),g275,g112,g328,g700]
noncomputable def g848:=jn [(0x36,3),g252,g174,(0x34,3),g211]
noncomputable def g849:=jn [g248,(0x3e,3)]
noncomputable def g850:=jn [g214,g268,g214,g149,(0x3a,3),g396,g225,(0x38,3),g256,g262,g99,g99,g367,g229,g229,g121,g184,g450,g503,g503,g503,(0x7,3),g211,g14,g125,(0x31030,6),g300,g696,(0x2e,3),g319,g132,g328,g702]
noncomputable def g851:=jn [g468,g23,g90,g52,g371,g36,g221,g268,g645,g514,g514,g514,(0x7,3),g227,g14,g634,g290,g723]
noncomputable def g852:=jn [g164,g164,g78,g225,g225,g125,g184,(0x30,3),g60]
noncomputable def g853:=jn [g79,(0x2d02c,6),g383,g75,(0x2c02a,6),g291,g147]
noncomputable def g854:=jn [g206,(0x45,3),g146,g230,g572,g401,g572,g149,(0x42,3),g416,g714,g397,(0x3f03d,6),g703,g387]
noncomputable def g855:=jn [g397,g397,(0x3f,3)]
noncomputable def g856:=jn [(0x502c,6)]
noncomputable def g857:=jn [g214,g652,g252,g518,g238,g320,g344]
noncomputable def g858:=jn [g476,(0x36,3)]
noncomputable def g859:=jn [g544,g221,g354,g645,g499,g499,g499,(0x8,3),g227,g28,g634,g387,g319,g315,g318,g274]
noncomputable def g860:=jn [g716,g260,g396,g518,g221,g469]
noncomputable def g861:=jn [g382,g481,g725]
noncomputable def g862:=jn [g319,g276,g712]
noncomputable def g863:=jn [g720,g394,(0x1d,3),g302,g215]
noncomputable def g864:=jn [g201,g192,g344,g486,g548,g673]
noncomputable def g865:=jn [g698,g230,g211,g354,g211,g149,(0x3e,3),g390,g229,(0x3c,3),g358,g262,g165,g165,g165,g165,g165,g246,g246,g246,g246,g246,g184,g439,g504,g504,g504,(0x8,3),g256,g28,g121,(0x35034,6),g359,g87,(0x34032,6),g331,g164,g328,g300,g23,g90,g52,g371]
noncomputable def g866:=jn [g717,g300,g354,g300,g276,g614,g290,g221,g469]
noncomputable def g867:=jn [g187,g288,g345,g288,g276,(0x2e,3),g721,g76,(0x2c,3)]
noncomputable def g868:=jn [g204,g342,g705,g550,g184,g501,g31,(0x25024,6),g240,g314,(0x22,3),g228,g69,g249,g727]
noncomputable def g869:=jn [g464,g302,g465,g126,(0x10,3),g384,g492]
noncomputable def g870:=jn [(0xd001,4),g577]
noncomputable def g871:=jn [g407,(0x3e03e03d,9)]
noncomputable def g872:=jn [(0xd4,2),g178,(0xd3,2),g178,g742]
noncomputable def g873:=jn [g39,g28,g28,(0x8,3)]
noncomputable def g874:=jn [(0x65065,6)]
noncomputable def g875:=jn [(0x5c05c,6)]
noncomputable def g876:=jn [(0x53053,6)]
noncomputable def g877:=jn [g473,g123,g803]
noncomputable def g878:=jn [g419,g474,g386,(0x4b,4),g25]
noncomputable def g879:=jn [(0x30,2),g41,g185]
noncomputable def g880:=jn [g632,(0x5024,6),g726,(0x27,3),g50,(0xf,3),g50,g50,g123,g138,g576,g222,g576,g729,(0x24,3),g106,(0x1a,3),g208,(0x22,3)]
noncomputable def g881:=jn [g470,g470,g64,(0x5900,4)]
noncomputable def g882:=jn [g12,g375,(0xa,2),g33,(0x0,2)]
noncomputable def g883:=jn [(0x4f,2),g185]
noncomputable def g884:=jn [(0x0,3),g7]
noncomputable def g885:=jn [(0x1f,3),g112,g46]
noncomputable def g886:=jn [g734,g89,g89]
noncomputable def g887:=jn [g128,g128,g128]
noncomputable def g888:=jn [g2,g22,g2]
noncomputable def g889:=jn [g144,g58,g181,g181,g84,g184,g494,g93,g106,(0x1b01a,6),g347,g571,(0x18,3),g662,g131,g131,g740,g258,g741,g50,(0xf,3),g50,g100,g759]
noncomputable def g890:=jn [g439,(0x35,3),g367,(0x35,3),g367,(0x35,3),g256,g229,g8,(0x34,3),g177,g802]
noncomputable def g891:=jn [g101,(0x1,3)]
noncomputable def g892:=jn [(0x13,3),g124]
noncomputable def g893:=jn [(0x8908908908908908a08a08a08a,27),g403,(0x8b,3),g418,(0x8b,3),g399,(0x8b08b089089089089,18)]
noncomputable def g894:=jn [(0x33000e,6),g0,g535]
noncomputable def g895:=jn [(0x0,3),g5,(0x0,3)]
noncomputable def g896:=jn [(0x970202005c,10),g630,(0x5b0051,6),g743]
noncomputable def g897:=jn [g738,(0x24,2),g67,g26,g9,g37,g13]
noncomputable def g898:=jn [g18,(0x5,3),g18,g18]
noncomputable def g899:=jn [g744,g765,g128,g128]
noncomputable def g900:=jn [g379,g117,g233]
noncomputable def g901:=jn [g380,g108,g235]
noncomputable def g902:=jn [g757,g329,(0x4,3),g656]
noncomputable def g903:=jn [g157,g117,g233]
noncomputable def g904:=jn [g158,g108,g235]
noncomputable def g905:=jn [g251,g117,g333]
noncomputable def g906:=jn [g234,g108,g334]
noncomputable def g907:=jn [g329,g16,g656]
noncomputable def g908:=jn [g393,g532,g19,g203,g563]
noncomputable def g909:=jn [g28,g2,g581,g110,(0x0,3),g523,g523,g102]
noncomputable def g910:=jn [g405,g536,(0xd0,2),g103]
noncomputable def g911:=jn [(0xce,2),g353,g657]
noncomputable def g912:=jn [(0xcf,2),g172,g431]
noncomputable def g913:=jn [(0xce,2),g172,g644]
noncomputable def g914:=jn [(0x2b002a0029,12)]
noncomputable def g915:=jn [g598,g536,(0xd0,2),g103]
noncomputable def g916:=jn [(0xcf,2),g247,g431]
noncomputable def g917:=jn [(0xce,2),g172,g647]
noncomputable def g918:=jn [g198,(0x34,3),g323,g323,g323]
noncomputable def g919:=jn [(0xcb,2),g172,g657]
noncomputable def g920:=jn [(0x36,2),g200,(0x3d,2),g0,g9,(0x5a39,4),g3,g9,(0x5a39,4),g3,g9,(0x5a,2),g9,(0x5a,2),g37,(0x59,2),g0,g443,(0x37,2),g3,g443,(0x37,2),g3,g819,g377,g0]
noncomputable def g921:=jn [(0xcf,2),g353,g431]
noncomputable def g922:=jn [g381,g610,g16,g194,g381,g620]
noncomputable def g923:=jn [g173,(0x2e,3),g324,g324,g324]
noncomputable def g924:=jn [g767,g525,g770,(0x600a,6)]
noncomputable def g925:=jn [g266,g282,(0xd0,2),g254]
noncomputable def g926:=jn [(0x1d,3),g680,g381,(0x1d,3),g106,g569,g569,g569,(0x4,3),g347,g16,g194,g381,g609]
noncomputable def g927:=jn [(0xce,2),g247,g648]
noncomputable def g928:=jn [g596,(0xb007024006,12),g597,g430]
noncomputable def g929:=jn [g417,g783,g402,(0x600a,6),g801]
noncomputable def g930:=jn [g314,(0x29,3),g452,g452,g452]
noncomputable def g931:=jn [g771,(0xcd,2),g254]
noncomputable def g932:=jn [g600,(0xb00701e006,12),g603,g430]
noncomputable def g933:=jn [g126,(0x1c,3),g215,(0x1c01d,6),g89,(0x1c009,6)]
noncomputable def g934:=jn [(0x18,3),g186,(0x7008000,9),g502,(0x701b,6),g11,(0x1,3),g32]
noncomputable def g935:=jn [g257,(0x3d,3)]
noncomputable def g936:=jn [(0xc9,2),g223,g109]
noncomputable def g937:=jn [(0x44,3),g784]
noncomputable def g938:=jn [(0x42041041,9)]
noncomputable def g939:=jn [(0x18,3),g566,g566,g566,g50,(0x4,3),g50,g100,g16,g11,(0xd001,6),g32]
noncomputable def g940:=jn [g777,g356,g571]
noncomputable def g941:=jn [g349,g267,g568,g306]
noncomputable def g942:=jn [(0x2f,3),g221,g198,(0x2d,3),g214,g174]
noncomputable def g943:=jn [g349,g267,g568,g307]
noncomputable def g944:=jn [g372,(0x31,3),g344,g382,g284,g216]
noncomputable def g945:=jn [g372,(0x37,3),g344]
noncomputable def g946:=jn [(0x10,3),g579,(0x14,3),g53,g567,g567,g567,(0x3,3),g231,g23,g11,(0xd001,6),g32,g579,g736,g570,g570,g570,(0x2,3),g668,g22,g11,(0xd001,6),g389,g73,g14,(0x8,3),g57,(0x9000009,9),g537,g14,g2]
noncomputable def g947:=jn [g434,g481,g204,g192,g344,g38,g228,g222,g228,g276,g362,g715,g368,g673]
noncomputable def g948:=jn [g476,(0x38029,6),g372,(0x3b,3),g719,g36,g238,g268,g238,g276,(0x38,3),g382,g413,(0x36,3),g227,g342,g87,g87]
noncomputable def g949:=jn [g207,g342,g112,g731]
noncomputable def g950:=jn [g159,(0x5028,6),g482,(0x2d,3),g346,g110,g434,g483,g368]
noncomputable def g951:=jn [g249,g207,g192,g506]
noncomputable def g952:=jn [g335,g241,g241,g127,g184,(0x32,3),g94,g573,g573,g573,(0x7,3),g221,g14,g198,(0x2e,3),g319,g60,(0x2e02c,6),g383,g162,g249,g291,g192,g719,g138,g384,g222,g384,g276,(0x29,3),g58,(0x1f,3),g144,(0x27,3),g240,g342]
noncomputable def g953:=jn [g880,g555,g555]
noncomputable def g954:=jn [g730,g356,g123]
noncomputable def g955:=jn [(0xca01,4),g361]
noncomputable def g956:=jn [g295,g272,g242,g253,g304]
noncomputable def g957:=jn [g295,g253,g361]
noncomputable def g958:=jn [g253,g312,g361]
noncomputable def g959:=jn [g76,g76,g31,g130,g130,g56,g184,(0x23,3),g574,g574,g574,g74,(0x5,3),g264,g93,g58,(0x20,3),g863,g368,g409,g296,g106,(0x11,3),g347,g400]
noncomputable def g960:=jn [g159,(0x30028,6),g482,(0x33,3),g346,g110,g187,g291,g268,g291,g436,g667,g368]
noncomputable def g961:=jn [g482,(0x2b,3),g506]
noncomputable def g962:=jn [g295,g272,g253,g242,g283,g294]
noncomputable def g963:=jn [(0xca01,4),g272,g304]
noncomputable def g964:=jn [g456,g308,g322]
noncomputable def g965:=jn [(0x87087087087,12)]
noncomputable def g966:=jn [g159,(0x2a003,6),g482,(0x2d,3),g346,g110,g187,g302,g345,g302,g436,(0x2a,3),g707,g166,(0x28,3),g728]
noncomputable def g967:=jn [(0xd5,2),g178,g872]
noncomputable def g968:=jn [g470,(0xc801,4),g881]
noncomputable def g969:=jn [g788,(0x64,3)]
noncomputable def g970:=jn [g790,(0x5b,3)]
noncomputable def g971:=jn [g792,(0x52,3)]
noncomputable def g972:=jn [(0x46046046046,12)]
noncomputable def g973:=jn [g878,g171,g460,(0x0,2)]
noncomputable def g974:=jn [(0x31,3),g229,g121]
noncomputable def g975:=jn [g122,g45,g76,g76,g31,g184,(0x24,3),g27,g575,g575,g575,(0x6,3),g288,g59,g74,(0x21020,6),g264,g58,(0x2001e,6),g281,g133,g368,g384,g296,g346,g110,g89,(0x1b,3),g483,g588]
noncomputable def g976:=jn [(0x3c,3),g732,g732,g165,(0x39,3),g358,g246,g246,g8,(0x38,3),g177,g890]
noncomputable def g977:=jn [g665,(0x50,3),g457]
noncomputable def g978:=jn [(0x26,3),g147,g62]
noncomputable def g979:=jn [(0x1b,3),g181,g84]
noncomputable def g980:=jn [g42,(0x10,3),g42,g42]
noncomputable def g981:=jn [(0x5,3),g337]
noncomputable def g982:=jn [(0x7b07b07b07b07b07c07c07c07c,27),g403,(0x7d,3),g418,(0x7d,3),g399,(0x7d07d07b07b07b07b,18)]
noncomputable def g983:=jn [g473,g162,g238,g457]
noncomputable def g984:=jn [(0x71071071071071072072072072,27),g403,(0x73,3),g418,(0x73,3),g399,(0x73073071071071071,18)]
noncomputable def d0:=cn [g19,g40,g552,g16,g16,g16,g895,g336,g487,g91,g629,g23,g6,g24]
noncomputable def d1:=cn [(0x12006b,6),g914,g239,g67,(0x5e009901,8),g67]
noncomputable def d2:=cn [g73,g148,g6,(0x2001,6),g887,g23,g6,(0x3,3),g2]
noncomputable def d3:=cn [(0x3,2),g377,g0]
noncomputable def d4:=cn [(0x13000011,9),g29,g666,g47,g388,(0xa,6),g2,g735,g123,g422,(0x4,3),g269,(0x4,3),g269,(0x4,3),g389,g16,g488,g808,g47,(0xb00c,6),g110,g809,(0x5,3),g48,g888,g810,g2,g40,g2]
noncomputable def d5:=cn [g13,g678,g896]
noncomputable def d6:=cn [(0x14000012,9),g4,(0x1,3),g14,g2,g120,g123,(0x0,3),g799,g799,g28,g736,(0x5,3),g461,(0x5,3),g461,(0x5,3),g668,g93,g378,(0x1,3),g14,g2,g120,g123,(0x0,3),g799,g799,g28,(0xd,3),g47,(0x4,3),g237,(0x4,3),g237,(0x4,3),g110,(0xb,3),g16,g378,(0x1,3),g14,(0x6,3),g2,g120,(0xa,3),g102,g809,(0x6,3),g8,g761,(0x7,3),g580,(0x6,3),g2,g29,g2]
noncomputable def d7:=cn [g13,g678,g678,g896]
noncomputable def d8:=cn [(0x1,3),g7,g552,g23,g23,g23,g895,g137,g761,g24,g1,g2]
noncomputable def d9:=cn [(0xa006b,6),g914,g82,g522]
noncomputable def d10:=cn [(0x2,3),g19,g40,g187,(0x4,3),g765,g128,(0x0,3),g105,(0x1,3),g139,g148,g128,g148,g128,g22,g1,g24]
noncomputable def d11:=cn [(0x9b,2),g0,(0xe,2),g0,(0x1,2),g67]
noncomputable def d12:=cn [(0xb013000011,12),g40,g800,g2,g581,g47,(0xb000,6),g18,g15,(0x0,3),g102,(0xe,3),g43,(0x3,3),g737,(0x3,3),g737,(0x3,3),g669,g23,g40,(0x5,3),g800,(0x4,3),g2,g581,g237,g202,(0xa,3),g301,g15,g888,(0x5,3),g580,g814]
noncomputable def d13:=cn [g13,g897,(0x97,2),g738,g630,(0x9a5f,4),g630,(0x24,2),g743]
noncomputable def d14:=cn [g137,g560,(0x4,3),g19,g1,g138,g49,(0x1,3),g128,g148,g16,g336,g24]
noncomputable def d15:=cn [(0x5e009b,6),g0,(0x1,2),g67]
noncomputable def d16:=cn [(0x801000000e,12),g40,g800,g2,g378,g101,(0x0,3),g43,g29,(0x0,3),g59,(0xb,3),g15,(0x3,3),g337,(0x3,3),g337,(0x3,3),g102,(0x9,3),g23,g40,(0x5,3),g800,(0x4,3),g2,g378,g28,g8,g14,g4,g114,g14,g4,g29,g2,g17,(0x5,3),g580,g814]
noncomputable def d17:=cn [(0x1000000e,9),g29,g666,g101,g102,(0x0,3),g768,g768,g14,g423,(0x4,3),g202,(0x4,3),g202,(0x4,3),g351,g16,g488,g808,g101,(0x9,3),g28,g809,(0x5,3),g4,g761,g810,g2,g40,g2]
noncomputable def d18:=cn [g629,(0x3,3),g19,g7,g138,(0x3,3),g765,g128,g148,g23,g139,g24]
noncomputable def d19:=cn [(0x5e009b,6),g0,g3,g67]
noncomputable def d20:=cn [(0x18000016,9),g637,g909,(0x14,3),g53,(0x6,3),g489,(0x6,3),g489,(0x6,3),g231,g59,g891,g909,(0x11,3),g898,g898,g898,(0xf,3),g93,g891,g909,(0xe,3),g43,(0x4,3),g737,(0x4,3),g737,(0x4,3),g669,g16,g891,g28,g768,g48,(0xa00b,6),g123,g809,(0x7,3),g15,g761,(0x8,3),g580,g768,g4,g2]
noncomputable def d21:=cn [g13,g678,g678,g678,g896]
noncomputable def d22:=cn [(0xc018000016,12),g29,g666,g47,(0xb,3),g631,(0x0,3),g42,g48,(0x0,3),g123,g892,(0x4,3),g561,(0x4,3),g561,(0x4,3),g124,g199,g16,g488,g666,g47,(0xb,3),g631,(0x0,3),g80,g48,(0x0,3),g123,g422,(0x3,3),g269,(0x3,3),g269,(0x3,3),g389,g23,g488,g808,g47,g388,g43,g237,g186,g237,g48,g888,g810,(0x0,3),g40,g2]
noncomputable def d23:=cn [g13,g897,g897,(0x97,2),g738,g630,(0x9a5f,4),g630,(0x24,2),g743]
noncomputable def d24:=cn [(0x9015000013,12),g29,g666,g101,g120,(0x0,3),g124,g4,(0x0,3),g14,g736,(0x4,3),g461,(0x4,3),g461,(0x4,3),g668,g16,g488,g666,g101,g120,(0x0,3),g11,g4,(0x0,3),g14,g423,(0x3,3),g202,(0x3,3),g202,(0x3,3),g351,g23,g488,g808,g101,g337,g28,g101,(0x7,3),g28,g8,g4,g761,g810,(0x0,3),g40,g2]
noncomputable def d25:=cn [g629,g205,(0x5,3),g57,(0x6000006,9),g332,g487,g156,g560,(0x3,3),g629,g6,g629,g6,g2,g629,g6,g629,g23,g23,g23,g2]
noncomputable def d26:=cn [(0x5e,2),g152,(0x10,4),g239,g67,(0x5e,2),g0,(0x5e,2),g0,(0x5e0025,6),g33,(0x5e,2),g0,(0x5e,2),g377,g0,g0]
noncomputable def d27:=cn [g263,g29,g205,g524,(0x6,3),g487,g83,g29,g437,g59,g488,g2]
noncomputable def d28:=cn [g375,(0x60c94e0060c860,14),g200,g0]
noncomputable def d29:=cn [(0x300d,6),g83,(0x9,3),g437,(0x9,3),g14,(0x5007,6),g524,g523,g14,g263,g120,g83,(0x9,3),g437,g337,g351,g811,g811,(0x3009,6),g263,g102,g32,g269,g92,g737,g83,g437,g523,g15,g237,(0xb,3),g263,(0x9,3),g263,g15,(0x5,3),g205,g524,(0x9,3),g487,g83,g15,g437,g102,g120,g2]
noncomputable def d30:=cn [(0xcd60,4),g34,(0x1400cca4,8),g239,(0x606000cb6063,14),g3,(0x640025004e00,12),g535,(0x61,2),g12,(0x6066,4),g25,g386,(0x0,2),g88,(0x4b00ca600068,12),g0,(0x65,2),g3,(0x60,2),g375,(0x60c94e0060c860,14),g200,g0]
noncomputable def d31:=cn [g19,g2,g5,g148,g40,g552,g16,g16,g16,g895,g336,g487,g57,g24,g899,g137,g2]
noncomputable def d32:=cn [(0x21005d,6),g914,g82,g30,(0xc8,2),g522]
noncomputable def d33:=cn [g205,g91,(0x1006,6),g487,(0x1,3),g17,g887,(0x6,3),g83,g5,g674,g488,g2]
noncomputable def d34:=cn [(0x66001400c9a4,12),g239,g152,(0x4e,2),g30,(0x51,2),g377]
noncomputable def d35:=cn [g263,g4,(0x5,3),g205,g524,(0x7,3),g487,g83,g4,g437,g14,g378,g2]
noncomputable def d36:=cn [(0x300e,6),g83,(0xa,3),g437,(0xa,3),g28,g525,(0x8,3),g524,g735,g28,g263,g581,g83,(0xa,3),g437,g202,g110,(0xb,3),g811,g811,(0x300a,6),g263,g123,g86,g461,g32,g269,g83,g437,g735,g48,g92,g631,g263,(0xa,3),g263,g48,g525,g205,g524,(0xa,3),g487,g83,g48,g437,g202,g735]
noncomputable def d37:=cn [g98,(0x5,3),g91,(0x1,3),g768,g98,(0x1,3),g17,g887,(0x7,3),g83,g5,g674,g378,g2]
noncomputable def d38:=cn [g745,(0x9,3),g28,(0xc006,6),g524,g523,g28,g263,(0x900600c005,12),g745,(0x900c003005,12),g524,(0x9,3),g487,(0x200b000,9),g388,(0xc,3),g746,(0xb,3),g747,g589,g6,g57,g487,(0x3,6),g57,g491,g15,g212,(0xa005,6),g15,(0x9003,6),g83,g437,g120,g2]
noncomputable def d39:=cn [(0xcd60,4),g34,(0x1400cca4,8),g239,(0x6060cb60,10),g375,(0xca4e0060c9009a5f3f005100609f,28),g3,g152,(0x60,2),g522]
noncomputable def d40:=cn [g745,(0xa,3),g102,(0xd006007,9),g524,g735,g102,g263,(0xa00700d,9),g525,g745,(0xa00d006003005,15),g524,(0xa,3),g487,(0x200c00000c,12),g389,g746,(0xc00500a,9),g589,g6,g57,g487,(0x3,6),g57,g491,g48,g212,(0xb005,6),g581,g745,g581,g2]
noncomputable def d41:=cn [g8,g263,g15,g114,g142,g744,g899,g102,g523]
noncomputable def d42:=cn [(0x240060c8,8),g3,g67]
noncomputable def d43:=cn [g15,g263,g48,g632,g142,g744,g899,g351,g2]
noncomputable def d44:=cn [g286,g338]
noncomputable def d45:=cn [g392,g220]
noncomputable def d46:=cn [g286,g297]
noncomputable def d47:=cn [g462,g292]
noncomputable def d48:=cn [g219,g410]
noncomputable def d49:=cn [g352,g411]
noncomputable def d50:=cn [g286,g410]
noncomputable def d51:=cn [g462,g411]
noncomputable def d52:=cn [g404,g410]
noncomputable def d53:=cn [g392,g411]
noncomputable def d54:=cn [g508,g338]
noncomputable def d55:=cn [g352,g509]
noncomputable def d56:=cn [g404,g338]
noncomputable def d57:=cn [g510,g220]
noncomputable def d58:=cn [g471,g338]
noncomputable def d59:=cn [g633,g220]
noncomputable def d60:=cn [g670,g338]
noncomputable def d61:=cn [g462,g748]
noncomputable def d62:=cn [g286,g526]
noncomputable def d63:=cn [g462,g509]
noncomputable def d64:=cn [g508,g526]
noncomputable def d65:=cn [g527,g509]
noncomputable def d66:=cn [g286,g175,g526]
noncomputable def d67:=cn [g462,g140,g509]
noncomputable def d68:=cn [g404,g526]
noncomputable def d69:=cn [g392,g509]
noncomputable def d70:=cn [g471,g526]
noncomputable def d71:=cn [g671,g509]
noncomputable def d72:=cn [g528,g526]
noncomputable def d73:=cn [g510,g509]
noncomputable def d74:=cn [g404,g297]
noncomputable def d75:=cn [g392,g292]
noncomputable def d76:=cn [g471,g297]
noncomputable def d77:=cn [g671,g292]
noncomputable def d78:=cn [g670,g297]
noncomputable def d79:=cn [g462,g749]
noncomputable def d80:=cn [g508,g410]
noncomputable def d81:=cn [g527,g411]
noncomputable def d82:=cn [g286,g582]
noncomputable def d83:=cn [g462,g583]
noncomputable def d84:=cn [g471,g410]
noncomputable def d85:=cn [g671,g411]
noncomputable def d86:=cn [g528,g410]
noncomputable def d87:=cn [g510,g411]
noncomputable def d88:=cn [g528,g297]
noncomputable def d89:=cn [g510,g292]
noncomputable def d90:=cn [g672,g297]
noncomputable def d91:=cn [g633,g292]
noncomputable def d92:=cn [g750,g297]
noncomputable def d93:=cn [g527,g749]
noncomputable def d94:=cn [g404,g313,g297]
noncomputable def d95:=cn [g392,g749]
noncomputable def d96:=cn [g751,g297]
noncomputable def d97:=cn [g752,g292]
noncomputable def d98:=cn [g670,g150,g297]
noncomputable def d99:=cn [g462,g279,g292]
noncomputable def d100:=cn [g672,g150,g297]
noncomputable def d101:=cn [g633,g81,g292]
noncomputable def d102:=cn [g528,g338]
noncomputable def d103:=cn [g510,g638]
noncomputable def d104:=cn [g672,g338]
noncomputable def d105:=cn [g633,g638]
noncomputable def d106:=cn [g750,g338]
noncomputable def d107:=cn [g527,g748]
noncomputable def d108:=cn [g404,g313,g338]
noncomputable def d109:=cn [g392,g748]
noncomputable def d110:=cn [g508,g175,g526]
noncomputable def d111:=cn [g527,g140,g509]
noncomputable def d112:=cn [g404,g175,g526]
noncomputable def d113:=cn [g392,g140,g509]
noncomputable def d114:=cn [g670,g526]
noncomputable def d115:=cn [g462,g189,g509]
noncomputable def d116:=cn [g672,g526]
noncomputable def d117:=cn [g633,g509]
noncomputable def d118:=cn [g751,g338]
noncomputable def d119:=cn [g752,g638]
noncomputable def d120:=cn [g670,g150,g338]
noncomputable def d121:=cn [g462,g279,g638]
noncomputable def d122:=cn [g286,g175,g313,g338]
noncomputable def d123:=cn [g462,g140,g748]
noncomputable def d124:=cn [g471,g313,g338]
noncomputable def d125:=cn [g671,g748]
noncomputable def d126:=cn [g672,g150,g338]
noncomputable def d127:=cn [g633,g81,g638]
noncomputable def d128:=cn [g750,g150,g338]
noncomputable def d129:=cn [g527,g279,g638]
noncomputable def d130:=cn [g751,g150,g338]
noncomputable def d131:=cn [g752,g81,g638]
noncomputable def d132:=cn [g508,g582]
noncomputable def d133:=cn [g527,g583]
noncomputable def d134:=cn [g404,g582]
noncomputable def d135:=cn [g392,g583]
noncomputable def d136:=cn [g670,g410]
noncomputable def d137:=cn [g462,g189,g411]
noncomputable def d138:=cn [g672,g410]
noncomputable def d139:=cn [g633,g411]
noncomputable def d140:=cn [g286,g175,g313,g297]
noncomputable def d141:=cn [g462,g140,g749]
noncomputable def d142:=cn [g471,g313,g297]
noncomputable def d143:=cn [g671,g749]
noncomputable def d144:=cn [g750,g150,g297]
noncomputable def d145:=cn [g527,g279,g292]
noncomputable def d146:=cn [g751,g150,g297]
noncomputable def d147:=cn [g752,g81,g292]
noncomputable def d148:=cn [g286,g175,g582]
noncomputable def d149:=cn [g462,g140,g583]
noncomputable def d150:=cn [g471,g582]
noncomputable def d151:=cn [g671,g583]
noncomputable def d152:=cn [g750,g410]
noncomputable def d153:=cn [g527,g189,g411]
noncomputable def d154:=cn [g751,g410]
noncomputable def d155:=cn [g752,g411]
noncomputable def d156:=cn [g508,g175,g582]
noncomputable def d157:=cn [g527,g140,g583]
noncomputable def d158:=cn [g528,g582]
noncomputable def d159:=cn [g510,g583]
noncomputable def d160:=cn [g404,g175,g582]
noncomputable def d161:=cn [g392,g140,g583]
noncomputable def d162:=cn [g251,g333,g243,g530]
noncomputable def d163:=cn [g234,g334,g244,g531]
noncomputable def d164:=cn [g251,g333,g584,g233]
noncomputable def d165:=cn [g234,g334,g585,g235]
noncomputable def d166:=cn [g251,g333,g900]
noncomputable def d167:=cn [g234,g334,g901]
noncomputable def d168:=cn [g586,g584,g117,g233]
noncomputable def d169:=cn [g587,g585,g108,g235]
noncomputable def d170:=cn [g251,g243,g379,g233]
noncomputable def d171:=cn [g234,g244,g380,g235]
noncomputable def d172:=cn [g251,g333,g379,g425]
noncomputable def d173:=cn [g234,g334,g380,g426]
noncomputable def d174:=cn [g586,g243,g753]
noncomputable def d175:=cn [g587,g244,g754]
noncomputable def d176:=cn [g586,g379,g530]
noncomputable def d177:=cn [g587,g380,g531]
noncomputable def d178:=cn [g251,g584,g530]
noncomputable def d179:=cn [g234,g585,g531]
noncomputable def d180:=cn [g586,g584,g425]
noncomputable def d181:=cn [g587,g585,g426]
noncomputable def d182:=cn [g586,g379,g117,g425]
noncomputable def d183:=cn [g587,g380,g108,g426]
noncomputable def d184:=cn [g251,g584,g117,g425]
noncomputable def d185:=cn [g234,g585,g108,g426]
noncomputable def d186:=cn [g251,g243,g243,g425]
noncomputable def d187:=cn [g234,g244,g244,g426]
noncomputable def d188:=cn [g590,g157,g425]
noncomputable def d189:=cn [g591,g158,g426]
noncomputable def d190:=cn [g339,g63,g243,g425]
noncomputable def d191:=cn [g340,g66,g244,g426]
noncomputable def d192:=cn [g586,g243,g592]
noncomputable def d193:=cn [g587,g244,g593]
noncomputable def d194:=cn [g586,g379,g755]
noncomputable def d195:=cn [g587,g380,g756]
noncomputable def d196:=cn [g251,g584,g755]
noncomputable def d197:=cn [g234,g585,g756]
noncomputable def d198:=cn [g586,g379,g639]
noncomputable def d199:=cn [g587,g380,g640]
noncomputable def d200:=cn [g251,g584,g639]
noncomputable def d201:=cn [g234,g585,g640]
noncomputable def d202:=cn [g590,g903]
noncomputable def d203:=cn [g591,g904]
noncomputable def d204:=cn [g339,g63,g379,g233]
noncomputable def d205:=cn [g340,g66,g380,g235]
noncomputable def d206:=cn [g251,g243,g63,g592]
noncomputable def d207:=cn [g234,g244,g66,g593]
noncomputable def d208:=cn [g590,g592]
noncomputable def d209:=cn [g591,g593]
noncomputable def d210:=cn [g590,g117,g755]
noncomputable def d211:=cn [g591,g108,g756]
noncomputable def d212:=cn [g339,g584,g233]
noncomputable def d213:=cn [g340,g585,g235]
noncomputable def d214:=cn [g339,g333,g592]
noncomputable def d215:=cn [g340,g334,g593]
noncomputable def d216:=cn [g641,g592]
noncomputable def d217:=cn [g642,g593]
noncomputable def d218:=cn [g511,g63,g592]
noncomputable def d219:=cn [g512,g66,g593]
noncomputable def d220:=cn [g251,g243,g333,g530]
noncomputable def d221:=cn [g234,g244,g334,g531]
noncomputable def d222:=cn [g590,g753]
noncomputable def d223:=cn [g591,g754]
noncomputable def d224:=cn [g590,g117,g530]
noncomputable def d225:=cn [g591,g108,g531]
noncomputable def d226:=cn [g339,g243,g530]
noncomputable def d227:=cn [g340,g244,g531]
noncomputable def d228:=cn [g590,g117,g117,g425]
noncomputable def d229:=cn [g591,g108,g108,g426]
noncomputable def d230:=cn [g339,g379,g425]
noncomputable def d231:=cn [g340,g380,g426]
noncomputable def d232:=cn [g641,g157,g425]
noncomputable def d233:=cn [g642,g158,g426]
noncomputable def d234:=cn [g511,g243,g425]
noncomputable def d235:=cn [g512,g244,g426]
noncomputable def d236:=cn [g339,g333,g753]
noncomputable def d237:=cn [g340,g334,g754]
noncomputable def d238:=cn [g641,g753]
noncomputable def d239:=cn [g642,g754]
noncomputable def d240:=cn [g641,g117,g530]
noncomputable def d241:=cn [g642,g108,g531]
noncomputable def d242:=cn [g511,g157,g530]
noncomputable def d243:=cn [g512,g158,g531]
noncomputable def d244:=cn [g511,g333,g530]
noncomputable def d245:=cn [g512,g334,g531]
noncomputable def d246:=cn [g511,g117,g753]
noncomputable def d247:=cn [g512,g108,g754]
noncomputable def d248:=cn [g905,g333,g530]
noncomputable def d249:=cn [g906,g334,g531]
noncomputable def d250:=cn [g590,g117,g639]
noncomputable def d251:=cn [g591,g108,g640]
noncomputable def d252:=cn [g339,g900]
noncomputable def d253:=cn [g340,g901]
noncomputable def d254:=cn [g641,g903]
noncomputable def d255:=cn [g642,g904]
noncomputable def d256:=cn [g511,g379,g233]
noncomputable def d257:=cn [g512,g380,g235]
noncomputable def d258:=cn [g641,g117,g755]
noncomputable def d259:=cn [g642,g108,g756]
noncomputable def d260:=cn [g511,g157,g755]
noncomputable def d261:=cn [g512,g158,g756]
noncomputable def d262:=cn [g511,g117,g592]
noncomputable def d263:=cn [g512,g108,g593]
noncomputable def d264:=cn [g905,g63,g592]
noncomputable def d265:=cn [g906,g66,g593]
noncomputable def d266:=cn [g641,g117,g639]
noncomputable def d267:=cn [g642,g108,g640]
noncomputable def d268:=cn [g511,g157,g639]
noncomputable def d269:=cn [g512,g158,g640]
noncomputable def d270:=cn [g511,g117,g903]
noncomputable def d271:=cn [g512,g108,g904]
noncomputable def d272:=cn [g905,g379,g233]
noncomputable def d273:=cn [g906,g380,g235]
noncomputable def d274:=cn [g511,g117,g117,g639]
noncomputable def d275:=cn [g512,g108,g108,g640]
noncomputable def d276:=cn [g251,g117,g63,g900]
noncomputable def d277:=cn [g234,g108,g66,g901]
noncomputable def d278:=cn [g251,g117,g379,g639]
noncomputable def d279:=cn [g234,g108,g380,g640]
noncomputable def d280:=cn [g532,g19,g2,g643]
noncomputable def d281:=cn [g30,g690]
noncomputable def d282:=cn [g393,g532,g5,g203,g563,g490,g902]
noncomputable def d283:=cn [(0x3a003e,6),g595,g562,(0x0,2),g675,g675,g675,(0x3e00,4),g920]
noncomputable def d284:=cn [g393,g532,g5,g203,g490,g490,g902]
noncomputable def d285:=cn [g532,g19,g49,g643]
noncomputable def d286:=cn [g564,g690]
noncomputable def d287:=cn [g393,g532,g19,g203,g490,g563,g757,g907]
noncomputable def d288:=cn [(0x3a003e,6),g595,(0x3500,4),g562,g562,(0x0,2),g675,g675,g675,(0x3e00,4),g920]
noncomputable def d289:=cn [g532,g19,g5,g2,g643]
noncomputable def d290:=cn [g564,g30,g690]
noncomputable def d291:=cn [g908,g563,g757,g907]
noncomputable def d292:=cn [g532,g643,g643]
noncomputable def d293:=cn [g564,g564,g690]
noncomputable def d294:=cn [g908,g563,g655,g329,g16,g907]
noncomputable def d295:=cn [g393,g393,g2,g643]
noncomputable def d296:=cn [g564,g564,g30,g690]
noncomputable def d297:=cn [g908,g490,g655,g329,g16,g329,(0x4,3),g656]
noncomputable def d298:=cn [g393,g393,g49,g643]
noncomputable def d299:=cn [g564,g564,g564,g690]
noncomputable def d300:=cn [g72,g19,g203,g563,g563,g902]
noncomputable def d301:=cn [g920]
noncomputable def d302:=cn [g654]
noncomputable def d303:=cn [g198,(0x36,3),g323,g323,g323,g323,g323,g762,g815,g680,g775]
noncomputable def d304:=cn [g598,(0xd3,2),g254,(0xd2d1,4),g103,g676]
noncomputable def d305:=cn [g820,g762,g679,g926]
noncomputable def d306:=cn [g910,g565,g647]
noncomputable def d307:=cn [g915,g565,g644]
noncomputable def d308:=cn [g820,g762,g815,(0x19,3),g608,g93,g194,(0x19,3),g775]
noncomputable def d309:=cn [g910,g565,g648]
noncomputable def d310:=cn [g816,g911]
noncomputable def d311:=cn [g915,g912]
noncomputable def d312:=cn [g915,g916]
noncomputable def d313:=cn [g816,g917]
noncomputable def d314:=cn [g820,g762,(0x24020,6),g209,g501,g194,(0x20,3),g680,g775]
noncomputable def d315:=cn [g910,g921]
noncomputable def d316:=cn [g816,g913]
noncomputable def d317:=cn [g816,g927]
noncomputable def d318:=cn [g918,g762,(0x2401d,6),g209,g501,g194,g926]
noncomputable def d319:=cn [g599,(0xce,2),g353,g919]
noncomputable def d320:=cn [g598,g536,g172,g676]
noncomputable def d321:=cn [g598,g536,g247,g676]
noncomputable def d322:=cn [g763,g172,g565,g647]
noncomputable def d323:=cn [g598,g536,g353,g676]
noncomputable def d324:=cn [g598,(0xd1,2),g254,(0xd0,2),g172,g565,g644]
noncomputable def d325:=cn [g763,g247,g565,g648]
noncomputable def d326:=cn [g764,(0xcf,2),g172,g911]
noncomputable def d327:=cn [g820,g928,g815,g680,g775]
noncomputable def d328:=cn [g405,g536,(0xcf,2),g103,g676]
noncomputable def d329:=cn [g763,g172,g912]
noncomputable def d330:=cn [g763,g247,g916]
noncomputable def d331:=cn [g918,g928,g679,g926]
noncomputable def d332:=cn [g599,(0xcb,2),g172,g917]
noncomputable def d333:=cn [g763,g353,g921]
noncomputable def d334:=cn [g764,(0xcf,2),g172,g913]
noncomputable def d335:=cn [g918,g928,g815,(0x19,3),g608,g93,g194,(0x19,3),g775]
noncomputable def d336:=cn [g599,(0xcd,2),g247,g927]
noncomputable def d337:=cn [g266,g282,g817,(0xcd,2),g172,g919]
noncomputable def d338:=cn [g173,(0x30,3),g324,g324,g324,g324,g324,g766,g685,g686,g769]
noncomputable def d339:=cn [g821,g766,g685,g686,g922]
noncomputable def d340:=cn [g821,g766,g685,(0x1a016,6),g209,g494,g93,g194,(0x16,3),g769]
noncomputable def d341:=cn [g821,g766,(0x1e01a,6),g619,g194,g686,g769]
noncomputable def d342:=cn [g923,g766,(0x1e01a,6),g619,g194,g686,g922]
noncomputable def d343:=cn [g821,g932,g685,g686,g769]
noncomputable def d344:=cn [g923,g932,g685,g686,g922]
noncomputable def d345:=cn [g923,g932,g685,(0x1a016,6),g209,g494,g93,g194,(0x16,3),g769]
noncomputable def d346:=cn [g314,(0x2a,3),g452,g452,g452,g452,g924,g822,g929]
noncomputable def d347:=cn [g533,g676]
noncomputable def d348:=cn [g930,g924,g822,g650,g783,g402,g801]
noncomputable def d349:=cn [g925,g565,g647]
noncomputable def d350:=cn [g764,g565,g644]
noncomputable def d351:=cn [g599,g911]
noncomputable def d352:=cn [g764,g912]
noncomputable def d353:=cn [g599,g917]
noncomputable def d354:=cn [g930,g767,(0x6019005,9),g770,g822,g929]
noncomputable def d355:=cn [g599,g913]
noncomputable def d356:=cn [g314,(0x28,3),g452,g452,g767,(0x6019005,9),g770,g822,g650,g783,g402,g801]
noncomputable def d357:=cn [g931,g919]
noncomputable def d358:=cn [g930,g924,(0x19015,6),g776,g402,(0x15,3),g929]
noncomputable def d359:=cn [g925,g565,g648]
noncomputable def d360:=cn [g764,g916]
noncomputable def d361:=cn [g599,g927]
noncomputable def d362:=cn [g925,g921]
noncomputable def d363:=cn [g394,(0x23,3),g658,g658,g933,g310,g934,g747,(0x14010,6),g579,g939,g946]
noncomputable def d364:=cn [g771,g817,g647]
noncomputable def d365:=cn [g931,g657]
noncomputable def d366:=cn [g394,(0x24,3),g658,g658,g658,g933,g310,g934,g747,(0x14,3),g579,g939,g747,g946]
noncomputable def d367:=cn [g266,g282,g817,g644]
noncomputable def d368:=cn [g394,(0x23,3),g658,g658,g933,(0x5014004,9),g934,(0x14,3),g579,g939,g747,g946]
noncomputable def d369:=cn [g771,g817,g648]
noncomputable def d370:=cn [g599,g431]
noncomputable def d371:=cn [g571,(0x1d,3),g940,g777,(0x17018,6),g161,(0x800400f003013,15),g687,g691,(0x6016,6),g43,g818,(0xf,3),g826,g892,g681,g681,g681,(0x3,3),g124,g199,g23,g631,g818,g826,g422,g682,g682,g682,(0x2,3),g389,g22,g631,(0x1,3),g669,g73,g59,(0x7,3),g57,(0x8000008,9),g537,g59,g2]
noncomputable def d372:=cn [g213,g282,(0xcc,2),g254,g445]
noncomputable def d373:=cn [g571,(0x1e,3),g940,g940,g777,(0x17018,6),g161,(0x8,3),g98,(0x13,3),g687,g691,(0x6016,6),g43,g818,(0x400800f,9),g826,g892,g681,g681,g681,(0x3,3),g124,g199,g23,g631,g818,g826,g422,g682,g682,g682,(0x2,3),g389,g22,g631,(0x1,3),g669,g73,g59,(0x7,3),g57,(0x8000008,9),g537,g59,g2]
noncomputable def d374:=cn [g931,g309]
noncomputable def d375:=cn [g432,g142,g206,(0x31,3),g136,g382,g433,g827,g306]
noncomputable def d376:=cn [g601,g478,g683]
noncomputable def d377:=cn [g432,g684,g823,g772]
noncomputable def d378:=cn [g601,g478,g602]
noncomputable def d379:=cn [g824,g539,g823,g699,g306]
noncomputable def d380:=cn [g601,g141,g317,g321]
noncomputable def d381:=cn [g824,(0x30,3),g693,g613,g941]
noncomputable def d382:=cn [g601,g141,g606]
noncomputable def d383:=cn [g432,g688,g604,g831,g306]
noncomputable def d384:=cn [g601,g317,g683]
noncomputable def d385:=cn [g432,g825,g694,g836,g772]
noncomputable def d386:=cn [g601,g317,g602]
noncomputable def d387:=cn [g432,g689,g693,g613,g711,g306]
noncomputable def d388:=cn [g601,g616,g321]
noncomputable def d389:=cn [g432,g828,g621,g837,g306]
noncomputable def d390:=cn [g601,g299,g606]
noncomputable def d391:=cn [g440,(0x32,3),g142,g604,g227,g369,g36,g383,g354,g383,g607,g94,g942,g387,g692,g306]
noncomputable def d392:=cn [g829,g478,g321]
noncomputable def d393:=cn [g832,g684,g838,g772]
noncomputable def d394:=cn [g829,g141,g602]
noncomputable def d395:=cn [g832,(0x5,3),g539,g838,g699,g306]
noncomputable def d396:=cn [g829,g317,g321]
noncomputable def d397:=cn [g695,(0x5030,6),g833,g941]
noncomputable def d398:=cn [g829,g606]
noncomputable def d399:=cn [g440,g830,g693,g847,g306]
noncomputable def d400:=cn [g834,g616,g683]
noncomputable def d401:=cn [g695,g835,g621,g617,g850,g306]
noncomputable def d402:=cn [g834,g616,g602]
noncomputable def d403:=cn [g695,g689,g833,g711,g306]
noncomputable def d404:=cn [g834,g299,g616,g321]
noncomputable def d405:=cn [g440,g839,g698,g397,(0x3e,3),g274,g851,g306]
noncomputable def d406:=cn [g834,g540,g606]
noncomputable def d407:=cn [g248,(0x34006,6),g142,g538,g230,g319,g401,g319,g149,g712,g542,g827,g306]
noncomputable def d408:=cn [g622,g478,g683]
noncomputable def d409:=cn [g840,g684,g841,g772]
noncomputable def d410:=cn [g622,g478,g602]
noncomputable def d411:=cn [g701,g525,g539,g841,g699,g306]
noncomputable def d412:=cn [g622,g141,g317,g321]
noncomputable def d413:=cn [g543,g525,(0x30,3),g724,g613,g941]
noncomputable def d414:=cn [g622,g141,g606]
noncomputable def d415:=cn [g840,g688,g713,g831,g306]
noncomputable def d416:=cn [g622,g317,g683]
noncomputable def d417:=cn [g248,(0x40006,6),g825,g206,(0x43,3),g136,g230,g842,g401,g842,g149,g843,g468,g935,(0x3b,3),g467,g376,g376,g542,g358,g369,g836,g772]
noncomputable def d418:=cn [g622,g317,g602]
noncomputable def d419:=cn [g543,(0x6,3),g689,g724,g613,g711,g306]
noncomputable def d420:=cn [g622,g616,g321]
noncomputable def d421:=cn [g844,(0x6,3),g828,g854,g837,g306]
noncomputable def d422:=cn [g622,g299,g606]
noncomputable def d423:=cn [g248,(0x36,3),g142,g612,g230,g204,g354,g204,g149,g848,g262,g852,g704,g704,g704,(0x8,3),g214,g28,g853,g387,g275,g315,g845,g274,g700,g306]
noncomputable def d424:=cn [g846,g478,g321]
noncomputable def d425:=cn [g543,g310,(0x29,3),g859,g702,g306]
noncomputable def d426:=cn [g846,g141,g602]
noncomputable def d427:=cn [g543,(0x502b003,9),g859,g383,g325,g138,g615,g149,(0x2b,3),g395,g275,g624,g306]
noncomputable def d428:=cn [g846,g317,g321]
noncomputable def d429:=cn [g849,(0x5,3),g697,g865,g94,(0x2f,3),g267,g723,g306]
noncomputable def d430:=cn [g846,g606]
noncomputable def d431:=cn [g543,g830,g724,g847,g306]
noncomputable def d432:=cn [g936,g616,g683]
noncomputable def d433:=cn [g844,(0x3a,3),g835,g854,g617,g850,g306]
noncomputable def d434:=cn [g936,g616,g602]
noncomputable def d435:=cn [g849,(0x2f003,6),g206,g865,g187,g228,g345,g228,g149,(0x2f,3),g618,g122,(0x2d,3),g291,g262,g454,g705,g184,(0x29,3),g54,g706,g706,g706,(0x6,3),g293,g59,g330,g715,g290,g288,g320,g371,g707,g119,g180,g626,g306]
noncomputable def d436:=cn [(0xc9,2),g223,g385,g259,g616,g321]
noncomputable def d437:=cn [g248,(0x44,3),g839,(0x47,3),g371,g230,g855,g401,g855,g149,g937,g938,(0x41,3),g714,g397,g397,g328,g851,g306]
noncomputable def d438:=cn [g936,g540,g606]
noncomputable def d439:=cn [g432,g142,g206,(0x31,3),g136,g382,g433,g827,g307]
noncomputable def d440:=cn [g623,g478,g545]
noncomputable def d441:=cn [g432,g684,g823,g778]
noncomputable def d442:=cn [g623,g478,g441]
noncomputable def d443:=cn [g824,g539,g823,g699,g307]
noncomputable def d444:=cn [g623,g141,g708]
noncomputable def d445:=cn [g824,(0x30,3),g693,g613,g943]
noncomputable def d446:=cn [g773,g141,g455]
noncomputable def d447:=cn [g432,g688,g604,g831,g307]
noncomputable def d448:=cn [g623,g317,g545]
noncomputable def d449:=cn [g432,g825,g694,g836,g778]
noncomputable def d450:=cn [g623,g317,g441]
noncomputable def d451:=cn [g432,g689,g693,g613,g711,g307]
noncomputable def d452:=cn [g773,g277,g513]
noncomputable def d453:=cn [g432,g828,g621,g837,g307]
noncomputable def d454:=cn [g773,g299,g455]
noncomputable def d455:=cn [g440,(0x32,3),g142,g604,g227,g369,g36,g383,g354,g383,g607,g94,g942,g387,g692,g307]
noncomputable def d456:=cn [g709,g478,g210]
noncomputable def d457:=cn [g832,g684,g838,g778]
noncomputable def d458:=cn [g709,g141,g441]
noncomputable def d459:=cn [g832,(0x5,3),g539,g838,g699,g307]
noncomputable def d460:=cn [g709,g708]
noncomputable def d461:=cn [g695,(0x5030,6),g833,g943]
noncomputable def d462:=cn [g500,g317,g455]
noncomputable def d463:=cn [g440,g830,g693,g847,g307]
noncomputable def d464:=cn [g651,g285,g545]
noncomputable def d465:=cn [g695,g835,g621,g617,g850,g307]
noncomputable def d466:=cn [g651,g285,g441]
noncomputable def d467:=cn [g695,g689,g833,g711,g307]
noncomputable def d468:=cn [g500,g299,g277,g513]
noncomputable def d469:=cn [g440,g839,g698,g397,(0x3e,3),g274,g851,g307]
noncomputable def d470:=cn [g651,g259,g455]
noncomputable def d471:=cn [g248,(0x34006,6),g142,g538,g230,g319,g401,g319,g149,g712,g542,g827,g307]
noncomputable def d472:=cn [g517,g478,g545]
noncomputable def d473:=cn [g840,g684,g841,g778]
noncomputable def d474:=cn [g517,g478,g441]
noncomputable def d475:=cn [g701,g525,g539,g841,g699,g307]
noncomputable def d476:=cn [g517,g141,g708]
noncomputable def d477:=cn [g543,g525,(0x30,3),g724,g613,g943]
noncomputable def d478:=cn [g774,g141,g455]
noncomputable def d479:=cn [g840,g688,g713,g831,g307]
noncomputable def d480:=cn [g517,g317,g545]
noncomputable def d481:=cn [g248,(0x40006,6),g825,g206,(0x43,3),g136,g230,g842,g401,g842,g149,g843,g468,g935,(0x3b,3),g467,g376,g376,g542,g358,g369,g836,g778]
noncomputable def d482:=cn [g517,g317,g441]
noncomputable def d483:=cn [g543,(0x6,3),g689,g724,g613,g711,g307]
noncomputable def d484:=cn [g774,g277,g513]
noncomputable def d485:=cn [g844,(0x6,3),g828,g854,g837,g307]
noncomputable def d486:=cn [g774,g299,g455]
noncomputable def d487:=cn [g248,(0x36,3),g142,g612,g230,g204,g354,g204,g149,g848,g262,g852,g704,g704,g704,(0x8,3),g214,g28,g853,g387,g275,g315,g845,g274,g700,g307]
noncomputable def d488:=cn [g710,g478,g210]
noncomputable def d489:=cn [g543,g310,(0x29,3),g859,g702,g307]
noncomputable def d490:=cn [g710,g141,g441]
noncomputable def d491:=cn [g543,(0x502b003,9),g859,g383,g325,g138,g615,g149,(0x2b,3),g395,g275,g624,g307]
noncomputable def d492:=cn [g710,g708]
noncomputable def d493:=cn [g849,(0x5,3),g697,g865,g94,(0x2f,3),g267,g723,g307]
noncomputable def d494:=cn [g710,g455]
noncomputable def d495:=cn [g543,g830,g724,g847,g307]
noncomputable def d496:=cn [g660,g285,g545]
noncomputable def d497:=cn [g844,(0x3a,3),g835,g854,g617,g850,g307]
noncomputable def d498:=cn [g660,g285,g441]
noncomputable def d499:=cn [g849,(0x2f003,6),g206,g865,g187,g228,g345,g228,g149,(0x2f,3),g618,g122,(0x2d,3),g291,g262,g454,g705,g184,(0x29,3),g54,g706,g706,g706,(0x6,3),g293,g59,g330,g715,g290,g288,g320,g371,g707,g119,g180,g626,g307]
noncomputable def d500:=cn [g408,g259,g277,g513]
noncomputable def d501:=cn [g248,(0x44,3),g839,(0x47,3),g371,g230,g855,g401,g855,g149,g937,g938,(0x41,3),g714,g397,g397,g328,g851,g307]
noncomputable def d502:=cn [g660,g259,g455]
noncomputable def d503:=cn [g546,g310,(0x28,3),g944,g857,g947]
noncomputable def d504:=cn [g623,g141,g441]
noncomputable def d505:=cn [g546,g856,g860,g861,g731]
noncomputable def d506:=cn [g773,g455]
noncomputable def d507:=cn [g546,(0x32004028,9),g945,g390,g284,g216,g227,g652,g187,g383,g268,g383,g276,(0x32,3),g94,g942,g290,g238,g320,g344,g947]
noncomputable def d508:=cn [g709,g441]
noncomputable def d509:=cn [g546,(0x3402c,6),g627,g260,g605,g518,g256,g469,g187,g319,g268,g862,g249,g725,g731]
noncomputable def d510:=cn [g500,g299,g455]
noncomputable def d511:=cn [g476,(0x34,3),g310,(0x28,3),g945,g36,g319,g354,g862,g328,g857,g947]
noncomputable def d512:=cn [g517,g141,g441]
noncomputable def d513:=cn [g858,g856,g866,g861,g731]
noncomputable def d514:=cn [g774,g455]
noncomputable def d515:=cn [g476,(0x36004025,9),g717,g204,g268,g204,g276,g848,g342,g852,g718,g718,g718,(0x7,3),g214,g14,g853,g290,g275,g469,g845,g481,g293,g192,g260,g38,g646,(0x25,3),g486,g228,g635]
noncomputable def d516:=cn [g710,g441]
noncomputable def d517:=cn [g948,g952,g959]
noncomputable def d518:=cn [g408,g259,g455]
noncomputable def d519:=cn [g546,(0x502a003,9),g944,g857,g138,g240,g345,g240,g276,g438,g479,g463,g547,g249,g864]
noncomputable def d520:=cn [g623,g708]
noncomputable def d521:=cn [g546,g856,g860,g861,g949]
noncomputable def d522:=cn [g773,g277,g519]
noncomputable def d523:=cn [g546,g539,g860,g867,g868]
noncomputable def d524:=cn [g651,g513]
noncomputable def d525:=cn [g546,(0x3402c,6),g627,g260,g605,g518,g256,g469,g187,g319,g268,g862,g249,g725,g949]
noncomputable def d526:=cn [g500,g299,g277,g519]
noncomputable def d527:=cn [g476,(0x3400502a003,12),g945,g36,g319,g354,g862,g328,g857,g138,g240,g345,g240,g276,g438,g479,g463,g547,g249,g864]
noncomputable def d528:=cn [g517,g708]
noncomputable def d529:=cn [g858,g856,g866,g861,g949]
noncomputable def d530:=cn [g774,g277,g519]
noncomputable def d531:=cn [g858,g539,g866,g867,g868]
noncomputable def d532:=cn [g660,g513]
noncomputable def d533:=cn [g948,g952,g76,g240,g342,g959]
noncomputable def d534:=cn [g408,g259,g277,g519]
noncomputable def d535:=cn [g546,(0x2c,3),g98,g944,g214,g652,g187,g293,g268,g293,g276,g529,g290,g182,g320,g344,g721,g481,g864]
noncomputable def d536:=cn [g709,g545]
noncomputable def d537:=cn [g546,g539,g860,g867,g204,g342,g147,g868]
noncomputable def d538:=cn [g651,g373,g513]
noncomputable def d539:=cn [g476,g688,g716,g260,g36,g201,g268,g201,g276,g496,g342,g497,g722,g722,g722,(0x7,3),g207,g14,g463,g196,g420,g290,g228,g469,g27,(0x21,3),g481,g727]
noncomputable def d540:=cn [g710,g545]
noncomputable def d541:=cn [g858,g539,g866,g867,g204,g342,g147,g868]
noncomputable def d542:=cn [g660,g373,g513]
noncomputable def d543:=cn [g950,g739,g505,g758]
noncomputable def d544:=cn [g651,g519]
noncomputable def d545:=cn [g960,g739,g505,g758]
noncomputable def d546:=cn [g660,g519]
noncomputable def d547:=cn [g476,(0x2e,3),g142,g372,(0x31,3),g344,g36,g275,g354,g275,g276,g611,g328,g207,g652,g406,g518,g182,g320,g344,g721,g481,g864]
noncomputable def d548:=cn [g517,g478,g210]
noncomputable def d549:=cn [g476,g688,g716,g260,g36,g201,g268,g201,g276,g496,g342,g162,g238,g342,g497,g722,g722,g722,(0x7,3),g207,g14,g463,g196,g420,g290,g228,g469,g27,(0x21,3),g481,g727]
noncomputable def d550:=cn [g661,g285,g545]
noncomputable def d551:=cn [g476,(0x36004025,9),g717,g204,g268,g204,g276,g848,g342,g164,g211,g342,g852,g718,g718,g718,(0x7,3),g214,g14,g853,g290,g275,g469,g845,g481,g293,g192,g260,g38,g646,(0x25,3),g486,g228,g635]
noncomputable def d552:=cn [g661,g285,g441]
noncomputable def d553:=cn [g948,g227,g342,g87,g87,g952,g959]
noncomputable def d554:=cn [g661,g259,g455]
noncomputable def d555:=cn [g159,(0x2e004024,9),g482,(0x31,3),g506,g187,g275,g268,g275,g436,g611,g951,g406,g483,g368,g182,g296,g506,g38,g281,g222,g281,g436,g520,g649,g720,g181,g869]
noncomputable def d556:=cn [g517,g441]
noncomputable def d557:=cn [g960,g739,g758]
noncomputable def d558:=cn [(0xcb,2),g223,g109,g455]
noncomputable def d559:=cn [g966,g728,g975]
noncomputable def d560:=cn [g661,g513]
noncomputable def d561:=cn [g159,g310,(0x24,3),g961,g395,g483,g951,g406,g483,g368,g182,g296,g506,g38,g281,g222,g281,g436,g520,g649,g720,g181,g869]
noncomputable def d562:=cn [g623,g441]
noncomputable def d563:=cn [g950,g739,g758]
noncomputable def d564:=cn [g500,g455]
noncomputable def d565:=cn [g953,g889]
noncomputable def d566:=cn [g408,g519]
noncomputable def d567:=cn [g159,(0x5026003,9),g961,g395,g483,g951,g138,g264,g345,g264,g436,(0x26,3),g391,g201,g659,g368,g226,g296,g506,g628,g483,g869]
noncomputable def d568:=cn [g709,g210]
noncomputable def d569:=cn [g950,g739,g505,g505,g758]
noncomputable def d570:=cn [g651,g373,g519]
noncomputable def d571:=cn [g966,g975]
noncomputable def d572:=cn [g408,g513]
noncomputable def d573:=cn [g960,g739,g505,g505,g758]
noncomputable def d574:=cn [g660,g373,g519]
noncomputable def d575:=cn [g159,(0x28,3),g98,g961,g187,g228,g268,g228,g436,g362,g715,g249,g288,g192,g506,g707,g483,g368,g226,g296,g506,g628,g483,g869]
noncomputable def d576:=cn [g517,g545]
noncomputable def d577:=cn [g966,g728,g728,g975]
noncomputable def d578:=cn [g661,g373,g513]
noncomputable def d579:=cn [g953,g555,g889]
noncomputable def d580:=cn [g661,g519]
noncomputable def d581:=cn [g632,g310,(0x20,3),g726,(0x25,3),g954,g486,g143,g311,g464,g288,g465,g954,g38,g347,g222,g347,g729,g424,(0x1d,3),g302,g126,(0x1d01b,6),g409,g208,g740,g96,g96,(0x1a,3),g741,g730,g662,g759]
noncomputable def d582:=cn [(0xca,2),g261,g441]
noncomputable def d583:=cn [g880,g555,g889]
noncomputable def d584:=cn [g408,g259,g210]
noncomputable def d585:=cn [g632,(0x5022003,9),g726,(0x25,3),g730,g356,g123,g138,g384,g345,g384,g729,g446,g863,g464,g409,g465,g954,g106,(0x1a,3),g143,g311,g740,g96,g96,(0x1a,3),g741,g730,g662,g759]
noncomputable def d586:=cn [g517,g210]
noncomputable def d587:=cn [g953,g555,g555,g889]
noncomputable def d588:=cn [g661,g373,g519]
noncomputable def d589:=cn [g294]
noncomputable def d590:=cn [(0xc801,4),g294]
noncomputable def d591:=cn [g242,(0xc801,4),g294]
noncomputable def d592:=cn [g242,g253,g304]
noncomputable def d593:=cn [g304]
noncomputable def d594:=cn [g283,g294]
noncomputable def d595:=cn [g253,g242,g283,g294]
noncomputable def d596:=cn [g955]
noncomputable def d597:=cn [g272,g361]
noncomputable def d598:=cn [g272,g304]
noncomputable def d599:=cn [g956]
noncomputable def d600:=cn [g312,g361]
noncomputable def d601:=cn [g957]
noncomputable def d602:=cn [g361]
noncomputable def d603:=cn [g962]
noncomputable def d604:=cn [g958]
noncomputable def d605:=cn [g963]
noncomputable def d606:=cn [g253,g577]
noncomputable def d607:=cn [g577]
noncomputable def d608:=cn [g295,g312,g361]
noncomputable def d609:=cn [g779,g955]
noncomputable def d610:=cn [g398,g955]
noncomputable def d611:=cn [g779,g272,g361]
noncomputable def d612:=cn [g398,g272,g361]
noncomputable def d613:=cn [g870]
noncomputable def d614:=cn [g272,g577]
noncomputable def d615:=cn [g312,g577]
noncomputable def d616:=cn [g779,g956]
noncomputable def d617:=cn [g398,g956]
noncomputable def d618:=cn [(0xd101,4),g870]
noncomputable def d619:=cn [g272,g870]
noncomputable def d620:=cn [g779,g957]
noncomputable def d621:=cn [g398,g957]
noncomputable def d622:=cn [(0xcf01,4),g295,g577]
noncomputable def d623:=cn [g779,g962]
noncomputable def d624:=cn [g398,g962]
noncomputable def d625:=cn [(0xd101d001cf01,12),g958]
noncomputable def d626:=cn [(0xd001cf01,8),g958]
noncomputable def d627:=cn [g295,g870]
noncomputable def d628:=cn [g398,g295,g963]
noncomputable def d629:=cn [g312,g295,g963]
noncomputable def d630:=cn [g253,g361]
noncomputable def d631:=cn [g23,g23,g6,g1,g10,g5,g148]
noncomputable def d632:=cn [(0x2,3),g521,(0x2,3)]
noncomputable def d633:=cn [(0x200a,6),g451]
noncomputable def d634:=cn [g459]
noncomputable def d635:=cn [(0x200e,6),g167,g472]
noncomputable def d636:=cn [g168,(0xc9,2),g169,g459]
noncomputable def d637:=cn [(0x2012,6),g167,g485]
noncomputable def d638:=cn [g168,g477]
noncomputable def d639:=cn [(0x2016,6),g167,g493]
noncomputable def d640:=cn [g168,(0xcb,2),g178,g477]
noncomputable def d641:=cn [(0x201a,6),g167,g534]
noncomputable def d642:=cn [g168,g515]
noncomputable def d643:=cn [(0x201e,6),g167,g549]
noncomputable def d644:=cn [g168,(0xcd,2),g178,g515]
noncomputable def d645:=cn [(0x2022,6),g167,g578]
noncomputable def d646:=cn [g168,g556]
noncomputable def d647:=cn [(0x2026,6),g167,g594]
noncomputable def d648:=cn [g168,(0xcf,2),g178,g556]
noncomputable def d649:=cn [(0x202a,6),g167,g653]
noncomputable def d650:=cn [g168,g636]
noncomputable def d651:=cn [(0x202e,6),g167,g677]
noncomputable def d652:=cn [g168,(0xd1,2),g178,g636]
noncomputable def d653:=cn [(0x2032,6),g167,g760]
noncomputable def d654:=cn [g168,g742]
noncomputable def d655:=cn [(0x2036,6),g167,g802]
noncomputable def d656:=cn [g168,(0xd3,2),g178,g742]
noncomputable def d657:=cn [(0x203a,6),g167,g890]
noncomputable def d658:=cn [g168,g872]
noncomputable def d659:=cn [(0x203e,6),g167,g976]
noncomputable def d660:=cn [g168,g967]
noncomputable def d661:=cn [(0x2042,6),g167,g843,g871,g871,g703,g8,(0x3c,3),g177,g976]
noncomputable def d662:=cn [g168,(0xd6,2),g178,g967]
noncomputable def d663:=cn [(0x2046,6),g167,g937,g784,g784,g938,(0x41041,6),g8,(0x40,3),g177,g843,g871,g871,g703,g8,(0x3c,3),g177,g976]
noncomputable def d664:=cn [g168,(0xd7,2),g178,(0xd6,2),g178,g967]
noncomputable def d665:=cn [g456,g663]
noncomputable def d666:=cn [g443,(0xc801,4),g819,(0x0,2)]
noncomputable def d667:=cn [g664,g466]
noncomputable def d668:=cn [g456,g466]
noncomputable def d669:=cn [g881]
noncomputable def d670:=cn [g968]
noncomputable def d671:=cn [g664,g322,g466]
noncomputable def d672:=cn [g470,g242,g968]
noncomputable def d673:=cn [g664,g663]
noncomputable def d674:=cn [g964,g466]
noncomputable def d675:=cn [g456,g308,g663]
noncomputable def d676:=cn [g664,g322,g322,g466]
noncomputable def d677:=cn [g470,(0xca01,4),g470,g242,g968]
noncomputable def d678:=cn [g664,g322,g663]
noncomputable def d679:=cn [g664,g308,g322,g466]
noncomputable def d680:=cn [g664,g308,g663]
noncomputable def d681:=cn [g964,g322,g466]
noncomputable def d682:=cn [g964,g663]
noncomputable def d683:=cn [g456,g308,g308,g322,g466]
noncomputable def d684:=cn [g456,g308,g308,g663]
noncomputable def d685:=cn [g265,(0x3096,6),g230,(0x94,3),g965,(0x87,3),g457,(0x89,3),g557,(0x8b08b08b,9),g1,(0x91,3),g893,g893,g893,g893,(0x89089089089089088089,21),g780,g780,g780,g780,g780,g473,g965,g965,(0x87087,6),g781,g781,g781,g781,g781,g873,(0x85,3),g782,(0x6f,3),g457,(0x7b,3),g557,(0x7d07d07d,9),g1,(0x82,3),g982,g982,g982,(0x7b07b07b07b07b07a07b,21),g785,g785,g785,g785,g785,g473,g782,g782,(0x6f,3),g457,(0x71,3),g557,(0x73073073,9),g1,(0x78,3),g984,g984,g984,(0x71071071071071070071,21),g786,g786,g786,g786,g786,g473,g782,g782,(0x6f06f,6),g787,g787,g787,g787,g787,g873,(0x6d,3),g977,(0x64,3),g557,(0x66066066,9),g1,(0x6a,3),g969,g874,g874,g403,(0x66,3),g418,(0x66,3),g399,(0x66066,6),g788,g969,g874,g874,g403,(0x66,3),g418,(0x66,3),g399,(0x66066,6),g788,g969,(0x63064,6),g789,g789,g789,g789,g789,g473,g665,g977,(0x5b,3),g557,(0x5d05d05d,9),g1,(0x61,3),g970,g875,g875,g403,(0x5d,3),g418,(0x5d,3),g399,(0x5d05d,6),g790,g970,g875,g875,g403,(0x5d,3),g418,(0x5d,3),g399,(0x5d05d,6),g790,g970,(0x5a05b,6),g791,g791,g791,g791,g791,g473,g665,g977,(0x52,3),g557,(0x54054054,9),g1,(0x58,3),g971,g876,g876,g403,(0x54,3),g418,(0x54,3),g399,(0x54054,6),g792,g971,g876,g876,g403,(0x54,3),g418,(0x54,3),g399,(0x54054,6),g792,g971,(0x51052,6),g793,g793,g793,g793,g793,g473,g665,g665,(0x50050,6),g794,g794,g794,g794,g794,g873,(0x4e,3),g238,g457,(0x46,3),g557,(0x48048048,9),g1,(0x4b,3),g972,(0x46047047047047,15),g403,(0x48,3),g418,(0x48,3),g399,(0x48048,6),g972,g972,(0x46045046,9),g795,g795,g795,g795,g795,g983,(0x3e,3),g557,g416,(0x40,3),g1,(0x43,3),g468,g397,g397,g403,(0x40,3),g418,(0x40,3),g399,g416,g407,g468,(0x3d03e,6),g257,g257,g257,g257,g257,g983,(0x36,3),g557,g135,(0x38,3),g1,(0x3b,3),g256,g250,g403,(0x38,3),g418,(0x38,3),g399,g135,g99,g99,g256,(0x35036,6),g229,g229,g121,g983,(0x2e,3),g557,g696,g1,(0x33,3),g214,g413,g403,(0x30,3),g418,(0x30,3),g399,g94,g132,g214,(0x2d02e,6),g174,g174,g79,g473,g162,g162,g75,g454,g873,(0x2a,3),g803,(0x26,3),g1,(0x28,3),g201,(0x23024,6),g163,g163,g85,g877,(0x20,3),g1,(0x22,3),g302,(0x1d01e,6),g215,g215,g126,g877,(0x1a,3),g1,(0x1c,3),g576,(0x17018,6),g70,g70,g273,g877,(0x14,3),g1,(0x16,3),g231,(0x11012,6),g124,g124,g561,g877,(0xe,3),g1,(0x10,3),g669,(0xb00c,6),g110,g237,g473,g123,g202,g102,g337,g39,g28,g28,g8,g14,g14,g4,g2,g6,g1,g2]
noncomputable def d686:=cn [(0xa1,2),g25,g171,g460,(0xe5,4),g551,(0xe4,2),g558,(0xe3,2),g558,(0xe2,2),g558,(0xe1,2),g973,(0xe0,2),g551,(0xdf,2),g558,(0xde,2),g558,(0xdd,2),g733,(0xdc,2),g551,(0xdb,2),g558,(0xda,2),g558,(0xd9,2),g973,(0xd8,2),g551,(0xd7,2),g558,(0xd6,2),g733,(0xd5,2),g551,(0xd4,2),g558,(0xd3,2),g733,(0xd2,2),g551,(0xd1,2),g558,(0xd0,2),g973,(0xcf,2),g551,(0xce,2),g733,(0xcd,2),g551,(0xcc,2),g733,(0xcb,2),g551,(0xca,2),g733,(0xc9,2),g551,(0xc8,2),g878,g171,g797,g797,g797,g797,g797,g386,(0x4b,4),g25,g115,(0x1,2),g0]
noncomputable def d687:=cn [g1,(0xa,3),g804,g804,g804,g804,g804,g637,g230,g73,g1,g10,(0x7,3),g746,g93,g746,g93,g746,g138,g16,g1,g2]
noncomputable def d688:=cn [g13,g185,(0xd4,2),g796,(0xd6d4,4),g88,(0xd5d4,4),g879,(0xd1,2),g796,(0xd3d1,4),g88,(0xd2d1,4),g879,(0xce,2),g796,(0xd0ce,4),g88,(0xcfce,4),g879,(0xcb,2),g796,(0xcdcb,4),g88,(0xcccb,4),g879,(0xc8,2),g796,(0xcac8,4),g88,(0xc9c830,6),g41,g64,g151,g200]
noncomputable def d689:=cn [g336,(0x1000200100d00c,15),g186,(0x9007003012013,15),g53,g53,g489,g2,g7,g120,g7,(0x10,3),g36,g812,g812,g812,g812,g812,g218,g40,g2]
noncomputable def d690:=cn [(0xc8,2),g386,g67,g21,g798,g798,g798,g798,g798,(0x98,2),g115,(0x100,4)]
noncomputable def d691:=cn [(0x203d,6),g805,g316,g813,(0x37,3),g121,g974,g974,g974,(0x31,3),g359,g225,g806,g805,g383,g813,g357,g978,g978,g978,(0x26,3),g204,g122,g806,g805,g288,g813,(0x21,3),g84,g979,g979,g979,(0x1b,3),g281,g208,g806,g805,g258,g813,(0x16,3),g980,g980,g980,g42,(0x10,3),g42,g71,g80,g80,g806,g805,g669,g813,(0xb,3),g15,g981,g981,g981,(0x5,3),g102,(0x9,3),g93,g806,g7,(0x1,3),g38,g73,g22,g10,g2]
noncomputable def d692:=cn [g213,(0xdb,2),g535,(0xda,2),g807,(0xd9d8,4),g507,(0xd7,2),g535,(0xd6,2),g807,(0xd5d4,4),g507,(0xd3,2),g535,(0xd2,2),g807,(0xd1d0,4),g507,(0xcf,2),g535,(0xce,2),g807,(0xcdcc,4),g507,(0xcb,2),g535,(0xca,2),g807,(0xc9c8,4),g254,g64,g0,(0x1,2),g67]
noncomputable def d693:=cn [g572,(0x2,3),g935,g39,g376,(0x3903b,6),g246,(0x3b039,6),g17,(0x30,3),g316,g176,g39,g227,(0x0,3),g221,(0x2,3),g221,(0x2,3),g221,g83,g696,g39,g60,(0x2c,3),g480,(0x2e02c,6),g17,(0x22,3),g291,g69,g39,g293,(0x0,3),g288,(0x2,3),g288,(0x2,3),g288,g83,g27,(0x22,3),g39,g58,(0x1e,3),g424,(0x2001e,6),g17,(0x13,3),g384,g44,g44,g39,g662,(0x0,3),g160,(0x2,3),g160,(0x2,3),g160,g83,g68,g39,g124,(0xf011,6),g18,(0x1100f,6),g17,(0x3,3),g668,g23,g39,g351,(0x0,3),g139,(0x2,3),g139,(0x2,3),g139,g83,g137,g39,(0x0,3),g39,g2]
noncomputable def d694:=cn [g882,(0xe0,2),g883,(0xdfde,4),g894,(0xdddb,4),g12,(0xdc,2),g12,(0xdb,2),g882,(0xda,2),g883,(0xd9d8,4),g894,(0xd7d5,4),g12,(0xd6,2),g12,(0xd5,2),g882,(0xd4,2),g883,(0xd3d2,4),g894,(0xd1cf,4),g12,(0xd0,2),g12,(0xcf,2),g882,(0xce,2),g883,(0xcdcc,4),g894,(0xcbc9,4),g12,(0xca,2),g12,(0xc9,2),g12,g375,(0xa,2),g33,g152,g200]
noncomputable def d695:=cn [g7,(0x3d,3),g884,g24,g270,(0x37,3),g415,(0x3b,3),g559,g559,g559,g559,g559,g516,(0x36037,6),g40,g310,g24,g16,g589,(0x1f02e02f02002f00400d,21),g884,g2,g270,(0x402b00e02c00c00d02d00d,24),g38,g589,g16,g438,g885,g885,(0x1f,3),g207,g181,g270,g270,g16,(0x1e,3),g886,g886,g734,g409,g92,(0x1,3),g589,g270,g7,g83,g814]
noncomputable def d696:=cn [(0xdc01,4),g312,(0xdbda,4),g312,(0xd9d8,4),g213,(0xd7,2),g507,(0xd6,2),g507,(0xd5,2),g507,(0xd4,2),g507,(0xd3,2),g254,(0x97,2),g64,(0xd2d101d0cf,12),g312,(0xcd,2),g272,(0xcb,4),g151,(0xca,2),g151,(0xc9,2),g152,g522]
noncomputable def d697:=cn [g16,(0x3d,3),g884,g24,g270,(0x37,3),g415,(0x3b,3),g559,g559,g559,g559,g559,g516,(0x36037,6),g40,g310,g24,g16,g589,(0x1f02e02f02002f00400d,21),g884,g2,g270,(0x402b00e02c00c00d02d00d,24),g38,g589,g16,g438,g885,g885,(0x1f,3),g207,g181,g270,g270,g16,(0x1e,3),g886,g886,g734,g409,g92,(0x1,3),g589,g270,g7,g83,g814]
noncomputable def d698:=cn [(0xde01,4),g20,(0xdd01da01dcdbda01d9d8,20),g213,(0xd7,2),g507,(0xd6,2),g507,(0xd5,2),g507,(0xd4,2),g507,(0xd3,2),g254,(0x97,2),g64,(0xd2d101d0cf,12),g312,(0xcd,2),g272,(0xcb,4),g151,(0xca,2),g151,(0xc9,2),g152,g522]
noncomputable def d699:=cn [g188]
noncomputable def d700:=cn [g30,(0xa,2),g33,(0xc800,4)]
noncomputable def n0 : Names := fun β v τ => [τ 3]
noncomputable def n1 : Names := fun β v τ => [β 3]
noncomputable def n2 : Names := fun β v τ => [β 8, β 6, β 7]
noncomputable def n3 : Names := fun β v τ => [τ 18, τ 1, τ 2, τ 3, τ 4, τ 5]
noncomputable def n4 : Names := fun β v τ => [τ 21]
noncomputable def n5 : Names := fun β v τ => [τ 2]
noncomputable def n6 : Names := fun β v τ => [β 7, β 5, β 6]
noncomputable def n7 : Names := fun β v τ => [τ 11, τ 1, τ 2, τ 3, τ 4, τ 5]
noncomputable def n8 : Names := fun β v τ => [τ 6]
noncomputable def n9 : Names := fun β v τ => [τ 13]
noncomputable def n10 : Names := fun β v τ => [τ 29]
noncomputable def n11 : Names := fun β v τ => [τ 15, τ 1, τ 2, τ 3, τ 4, τ 5]
noncomputable def n12 : Names := fun β v τ => [τ 10]
noncomputable def n13 : Names := fun β v τ => [β 3, β 5, β 4]
noncomputable def n14 : Names := fun β v τ => [τ 6, τ 8, τ 12, τ 10, τ 14, τ 16, τ 19, τ 17]
noncomputable def n15 : Names := fun β v τ => [β 6, β 7, β 8, β 9]
noncomputable def n16 : Names := fun β v τ => [τ 6, τ 7, τ 8, τ 9, τ 10]
noncomputable def n17 : Names := fun β v τ => [β 9, β 14, β 15, β 16]
noncomputable def n18 : Names := fun β v τ => [τ 38, τ 31, τ 32, τ 33, τ 34, τ 35, τ 36]
noncomputable def n19 : Names := fun β v τ => [β 9]
noncomputable def n20 : Names := fun β v τ => [τ 33, τ 31]
noncomputable def n21 : Names := fun β v τ => [β 7]
noncomputable def n22 : Names := fun β v τ => [β 10, β 15, β 16, β 17]
noncomputable def n23 : Names := fun β v τ => [β 10]
noncomputable def n24 : Names := fun β v τ => [β 6]
noncomputable def n25 : Names := fun β v τ => [τ 16, τ 14]
noncomputable def n26 : Names := fun β v τ => [τ 5, τ 2, τ 3]
noncomputable def n27 : Names := fun β v τ => [τ 3, τ 2]
noncomputable def n28 : Names := fun β v τ => [τ 32]
noncomputable def n29 : Names := fun β v τ => [τ 36]
noncomputable def n30 : Names := fun β v τ => [τ 42]
noncomputable def n31 : Names := fun β v τ => [τ 48]
noncomputable def n32 : Names := fun β v τ => [τ 38]
noncomputable def n33 : Names := fun β v τ => [τ 44]
noncomputable def n34 : Names := fun β v τ => [τ 50]
noncomputable def n35 : Names := fun β v τ => [τ 46]
noncomputable def n36 : Names := fun β v τ => [τ 52]
noncomputable def n37 : Names := fun β v τ => [τ 54]
noncomputable def n38 : Names := fun β v τ => [τ 56]
noncomputable def n39 : Names := fun β v τ => [τ 58]
noncomputable def n40 : Names := fun β v τ => [τ 62]
noncomputable def n41 : Names := fun β v τ => [τ 60]
noncomputable def n42 : Names := fun β v τ => [τ 66]
noncomputable def n43 : Names := fun β v τ => [τ 64]
noncomputable def n44 : Names := fun β v τ => [τ 68]
noncomputable def n45 : Names := fun β v τ => [τ 88 + 556]
noncomputable def n46 : Names := fun β v τ => [τ 91 + 556]
noncomputable def n47 : Names := fun β v τ => [τ 92 + 556]
noncomputable def n48 : Names := fun β v τ => [τ 93 + 556]
noncomputable def n49 : Names := fun β v τ => [τ 94 + 556]
noncomputable def n50 : Names := fun β v τ => [τ 95 + 556]
noncomputable def n51 : Names := fun β v τ => [β 1, v 2, τ 26 + 556, τ 14 + 556]
noncomputable def n52 : Names := fun β v τ => [β 11, τ 24 + 556, τ 8 + 556, v 0]
noncomputable def n53 : Names := fun β v τ => [β 1, τ 19 + 556, v 2, τ 14 + 556]
noncomputable def n54 : Names := fun β v τ => [β 11, τ 26 + 556, τ 8 + 556, v 1]
noncomputable def n55 : Names := fun β v τ => [β 1, τ 14 + 556, v 2, τ 26 + 556]
noncomputable def n56 : Names := fun β v τ => [β 1, τ 14 + 556, τ 19 + 556, v 2]
noncomputable def n57 : Names := fun β v τ => [β 11, τ 26 + 556, τ 8 + 556, v 2]
noncomputable def n58 : Names := fun β v τ => [β 1, τ 26 + 556, τ 14 + 556, v 2]
noncomputable def n59 : Names := fun β v τ => [β 1, v 2, τ 14 + 556, τ 19 + 556]
noncomputable def n60 : Names := fun β v τ => [β 11, τ 8 + 556, τ 9 + 556, v 0]
noncomputable def n61 : Names := fun β v τ => [τ 0 + 556]
noncomputable def n62 : Names := fun β v τ => [β 45, β 47, β 48, β 49, β 50, β 51, τ 69 + 556, 0, τ 71 + 556, 0, τ 73 + 556, 0, τ 75 + 556, 0, τ 77 + 556, 0, β 19 + 259, β 26 + 259, 5]
noncomputable def n63 : Names := fun β v τ => [β 45, β 47, β 48, β 49, β 50, τ 66 + 556, τ 67 + 556, τ 69 + 556, 0, τ 71 + 556, 0, τ 73 + 556, 0, β 19 + 259, β 30 + 259, 4]
noncomputable def n64 : Names := fun β v τ => [β 45, β 47, β 48, β 49, β 50, τ 66 + 556, 0, τ 68 + 556, τ 69 + 556, τ 71 + 556, 0, τ 73 + 556, 0, β 19 + 259, β 26 + 259, 4]
noncomputable def n65 : Names := fun β v τ => [β 45, β 47, β 48, β 49, β 50, τ 66 + 556, 0, τ 68 + 556, 0, τ 70 + 556, τ 71 + 556, τ 73 + 556, 0, β 19 + 259, β 26 + 259, 4]
noncomputable def n66 : Names := fun β v τ => [β 45, β 47, β 48, β 49, τ 63 + 556, τ 64 + 556, τ 66 + 556, τ 67 + 556, τ 69 + 556, 0, β 19 + 259, β 30 + 259, 3]
noncomputable def n67 : Names := fun β v τ => [β 45, β 47, β 48, β 49, β 50, τ 66 + 556, 0, τ 68 + 556, 0, τ 70 + 556, 0, τ 72 + 556, τ 73 + 556, β 19 + 259, β 26 + 259, 4]
noncomputable def n68 : Names := fun β v τ => [β 45, β 47, β 48, β 49, τ 63 + 556, τ 64 + 556, τ 66 + 556, 0, τ 68 + 556, τ 69 + 556, β 19 + 259, β 30 + 259, 3]
noncomputable def n69 : Names := fun β v τ => [β 45, β 47, β 48, β 49, τ 63 + 556, 0, τ 65 + 556, τ 66 + 556, τ 68 + 556, τ 69 + 556, β 19 + 259, β 26 + 259, 3]
noncomputable def n70 : Names := fun β v τ => [β 39, β 41, β 42, β 43, β 44, β 45, τ 59 + 556, 0, τ 61 + 556, 0, τ 63 + 556, 0, τ 65 + 556, 0, τ 67 + 556, 0, 0, 0, 5]
noncomputable def n71 : Names := fun β v τ => [β 39, β 41, β 42, β 43, β 44, τ 56 + 556, τ 57 + 556, τ 59 + 556, 0, τ 61 + 556, 0, τ 63 + 556, 0, 0, 0, 4]
noncomputable def n72 : Names := fun β v τ => [β 39, β 41, β 42, β 43, β 44, τ 56 + 556, 0, τ 58 + 556, τ 59 + 556, τ 61 + 556, 0, τ 63 + 556, 0, 0, 0, 4]
noncomputable def n73 : Names := fun β v τ => [β 39, β 41, β 42, β 43, β 44, τ 56 + 556, 0, τ 58 + 556, 0, τ 60 + 556, τ 61 + 556, τ 63 + 556, 0, 0, 0, 4]
noncomputable def n74 : Names := fun β v τ => [β 39, β 41, β 42, β 43, τ 53 + 556, τ 54 + 556, τ 56 + 556, τ 57 + 556, τ 59 + 556, 0, 0, 0, 3]
noncomputable def n75 : Names := fun β v τ => [β 39, β 41, β 42, β 43, β 44, τ 56 + 556, 0, τ 58 + 556, 0, τ 60 + 556, 0, τ 62 + 556, τ 63 + 556, 0, 0, 4]
noncomputable def n76 : Names := fun β v τ => [β 39, β 41, β 42, β 43, τ 53 + 556, τ 54 + 556, τ 56 + 556, 0, τ 58 + 556, τ 59 + 556, 0, 0, 3]
noncomputable def n77 : Names := fun β v τ => [β 39, β 41, β 42, β 43, τ 53 + 556, 0, τ 55 + 556, τ 56 + 556, τ 58 + 556, τ 59 + 556, 0, 0, 3]
noncomputable def n78 : Names := fun β v τ => [β 34, β 36, β 37, β 38, β 39, τ 51 + 556, 0, τ 53 + 556, 0, τ 55 + 556, 0, τ 57 + 556, 0, 0, 0, 4]
noncomputable def n79 : Names := fun β v τ => [β 34, β 36, β 37, β 38, τ 48 + 556, τ 49 + 556, τ 51 + 556, 0, τ 53 + 556, 0, 0, 0, 3]
noncomputable def n80 : Names := fun β v τ => [β 34, β 36, β 37, β 38, τ 48 + 556, 0, τ 50 + 556, 0, τ 52 + 556, τ 53 + 556, 0, 0, 3]
noncomputable def n81 : Names := fun β v τ => [β 34, β 36, β 37, τ 45 + 556, τ 46 + 556, τ 48 + 556, τ 49 + 556, 0, 0, 2]
noncomputable def n82 : Names := fun β v τ => [β 34, β 36, β 37, β 38, τ 48 + 556, 0, τ 50 + 556, τ 51 + 556, τ 53 + 556, 0, 0, 0, 3]
noncomputable def n83 : Names := fun β v τ => [β 29, β 31, β 32, τ 40 + 556, τ 41 + 556, τ 43 + 556, 0, 0, 0, 2]
noncomputable def n84 : Names := fun β v τ => [β 29, β 31, β 32, β 33, τ 43 + 556, 0, τ 45 + 556, 0, τ 47 + 556, 0, 0, 0, 3]
noncomputable def n85 : Names := fun β v τ => [β 29, β 31, β 32, τ 40 + 556, 0, τ 42 + 556, τ 43 + 556, 0, 0, 2]
noncomputable def n86 : Names := fun β v τ => [β 24, β 26, τ 30 + 556, τ 31 + 556, 0, 0, 1]
noncomputable def n87 : Names := fun β v τ => [β 24, β 26, β 27, τ 35 + 556, 0, τ 37 + 556, 0, 0, 0, 2]
noncomputable def n88 : Names := fun β v τ => [β 49, β 50, β 51, β 52, β 53, β 54, β 55, β 56, β 57, β 58, β 59, β 60, β 61, β 62, β 63, β 64, β 65, β 66, β 67, β 68, β 69, β 70, β 71, β 72, β 73, β 74, β 75, β 76, β 77, β 33, β 34, β 80, β 81, β 82, β 83, β 84, β 85, β 86, β 87, β 88, β 89]
noncomputable def n89 : Names := fun β v τ => [β 55, β 56, β 57, β 58, β 59, β 60, β 61, β 62, β 63, β 64, β 65, β 66, β 67, β 68, β 69, β 70, β 71, β 72, β 73, β 74, β 75, β 76, β 77, β 78, β 79, β 80, β 81, β 82, β 83, β 33, β 34, β 86, β 87, β 88, β 89, β 90, β 91, β 92, β 93, β 94, β 95]
noncomputable def n90 : Names := fun β v τ => [β 57, β 58, β 59, β 60, β 61, β 62, β 63, β 64, β 65, β 66, β 67, β 68, β 69, β 70, β 71, β 72, β 73, β 74, β 75, β 76, β 77, β 78, β 79, β 80, β 81, β 82, β 83, β 84, β 85, β 30, β 31, β 88, β 89, β 90, β 91, β 92, β 93, β 94, β 95, β 96, β 97]
noncomputable def n91 : Names := fun β v τ => [β 61, β 62, β 63, β 64, β 65, β 66, β 67, β 68, β 69, β 70, β 71, β 72, β 73, β 74, β 75, β 76, β 77, β 78, β 79, β 80, β 81, β 82, β 83, β 84, β 85, β 86, β 87, β 88, β 89, β 33, β 34, β 92, β 93, β 94, β 95, β 96, β 97, β 98, β 99, β 100, β 101]
noncomputable def n92 : Names := fun β v τ => [β 63, β 64, β 65, β 66, β 67, β 68, β 69, β 70, β 71, β 72, β 73, β 74, β 75, β 76, β 77, β 78, β 79, β 80, β 81, β 82, β 83, β 84, β 85, β 86, β 87, β 88, β 89, β 90, β 91, β 30, β 31, β 94, β 95, β 96, β 97, β 98, β 99, β 100, β 101, β 102, β 103]
noncomputable def n93 : Names := fun β v τ => [β 65, β 66, β 67, β 68, β 69, β 70, β 71, β 72, β 73, β 74, β 75, β 76, β 77, β 78, β 79, β 80, β 81, β 82, β 83, β 84, β 85, β 86, β 87, β 88, β 89, β 90, β 91, β 92, β 93, β 27, β 28, β 96, β 97, β 98, β 99, β 100, β 101, β 102, β 103, β 104, β 105]
noncomputable def n94 : Names := fun β v τ => [β 67, β 68, β 69, β 70, β 71, β 72, β 73, β 74, β 75, β 76, β 77, β 78, β 79, β 80, β 81, β 82, β 83, β 84, β 85, β 86, β 87, β 88, β 89, β 90, β 91, β 92, β 93, β 94, β 95, β 33, β 34, β 98, β 99, β 100, β 101, β 102, β 103, β 104, β 105, β 106, β 107]
noncomputable def n95 : Names := fun β v τ => [β 69, β 70, β 71, β 72, β 73, β 74, β 75, β 76, β 77, β 78, β 79, β 80, β 81, β 82, β 83, β 84, β 85, β 86, β 87, β 88, β 89, β 90, β 91, β 92, β 93, β 94, β 95, β 96, β 97, β 30, β 31, β 100, β 101, β 102, β 103, β 104, β 105, β 106, β 107, β 108, β 109]
noncomputable def n96 : Names := fun β v τ => [β 71, β 72, β 73, β 74, β 75, β 76, β 77, β 78, β 79, β 80, β 81, β 82, β 83, β 84, β 85, β 86, β 87, β 88, β 89, β 90, β 91, β 92, β 93, β 94, β 95, β 96, β 97, β 98, β 99, β 27, β 28, β 102, β 103, β 104, β 105, β 106, β 107, β 108, β 109, β 110, β 111]
noncomputable def n97 : Names := fun β v τ => [β 49, β 50, β 51, β 52, β 53, β 54, β 55, β 56, β 57, β 58, β 59, β 60, β 61, β 62, β 63, β 64, β 65, β 66, β 67, β 68, β 69, β 70, β 71, β 72, β 73, β 74, β 75, β 76, β 77, 0, 0, β 80, β 81, β 82, β 83, β 84, β 85, β 86, β 87, β 88, β 89]
noncomputable def n98 : Names := fun β v τ => [β 55, β 56, β 57, β 58, β 59, β 60, β 61, β 62, β 63, β 64, β 65, β 66, β 67, β 68, β 69, β 70, β 71, β 72, β 73, β 74, β 75, β 76, β 77, β 78, β 79, β 80, β 81, β 82, β 83, 0, 0, β 86, β 87, β 88, β 89, β 90, β 91, β 92, β 93, β 94, β 95]
noncomputable def n99 : Names := fun β v τ => [β 57, β 58, β 59, β 60, β 61, β 62, β 63, β 64, β 65, β 66, β 67, β 68, β 69, β 70, β 71, β 72, β 73, β 74, β 75, β 76, β 77, β 78, β 79, β 80, β 81, β 82, β 83, β 84, β 85, 0, 0, β 88, β 89, β 90, β 91, β 92, β 93, β 94, β 95, β 96, β 97]
noncomputable def n100 : Names := fun β v τ => [β 61, β 62, β 63, β 64, β 65, β 66, β 67, β 68, β 69, β 70, β 71, β 72, β 73, β 74, β 75, β 76, β 77, β 78, β 79, β 80, β 81, β 82, β 83, β 84, β 85, β 86, β 87, β 88, β 89, 0, 0, β 92, β 93, β 94, β 95, β 96, β 97, β 98, β 99, β 100, β 101]
noncomputable def n101 : Names := fun β v τ => [β 63, β 64, β 65, β 66, β 67, β 68, β 69, β 70, β 71, β 72, β 73, β 74, β 75, β 76, β 77, β 78, β 79, β 80, β 81, β 82, β 83, β 84, β 85, β 86, β 87, β 88, β 89, β 90, β 91, 0, 0, β 94, β 95, β 96, β 97, β 98, β 99, β 100, β 101, β 102, β 103]
noncomputable def n102 : Names := fun β v τ => [β 65, β 66, β 67, β 68, β 69, β 70, β 71, β 72, β 73, β 74, β 75, β 76, β 77, β 78, β 79, β 80, β 81, β 82, β 83, β 84, β 85, β 86, β 87, β 88, β 89, β 90, β 91, β 92, β 93, 0, 0, β 96, β 97, β 98, β 99, β 100, β 101, β 102, β 103, β 104, β 105]
noncomputable def n103 : Names := fun β v τ => [β 67, β 68, β 69, β 70, β 71, β 72, β 73, β 74, β 75, β 76, β 77, β 78, β 79, β 80, β 81, β 82, β 83, β 84, β 85, β 86, β 87, β 88, β 89, β 90, β 91, β 92, β 93, β 94, β 95, 0, 0, β 98, β 99, β 100, β 101, β 102, β 103, β 104, β 105, β 106, β 107]
noncomputable def n104 : Names := fun β v τ => [β 69, β 70, β 71, β 72, β 73, β 74, β 75, β 76, β 77, β 78, β 79, β 80, β 81, β 82, β 83, β 84, β 85, β 86, β 87, β 88, β 89, β 90, β 91, β 92, β 93, β 94, β 95, β 96, β 97, 0, 0, β 100, β 101, β 102, β 103, β 104, β 105, β 106, β 107, β 108, β 109]
noncomputable def n105 : Names := fun β v τ => [β 71, β 72, β 73, β 74, β 75, β 76, β 77, β 78, β 79, β 80, β 81, β 82, β 83, β 84, β 85, β 86, β 87, β 88, β 89, β 90, β 91, β 92, β 93, β 94, β 95, β 96, β 97, β 98, β 99, 0, 0, β 102, β 103, β 104, β 105, β 106, β 107, β 108, β 109, β 110, β 111]
noncomputable def n106 : Names := fun β v τ => [β 51, β 52, β 53, β 54, β 55, β 56, β 57, β 58, β 59, β 60, β 61, β 62, β 63, β 64, β 65, β 66, β 67, β 68, β 69, β 70, β 71, β 72, β 73, β 74, β 75, β 76, β 77, β 78, β 79, 0, 0, β 82, β 83, β 84, β 85, β 86, β 87, β 88, β 89, β 90, β 91]
noncomputable def n107 : Names := fun β v τ => [β 59, β 60, β 61, β 62, β 63, β 64, β 65, β 66, β 67, β 68, β 69, β 70, β 71, β 72, β 73, β 74, β 75, β 76, β 77, β 78, β 79, β 80, β 81, β 82, β 83, β 84, β 85, β 86, β 87, 0, 0, β 90, β 91, β 92, β 93, β 94, β 95, β 96, β 97, β 98, β 99]
noncomputable def n108 : Names := fun β v τ => [β 45, β 46, β 47, β 48, β 49, β 50, β 51, β 52, β 53, β 54, β 55, β 56, β 57, β 58, β 59, β 60, β 61, β 62, β 63, β 64, β 65, β 66, β 67, β 68, β 69, β 70, β 71, β 72, β 73, 0, 0, β 76, β 77, β 78, β 79, β 80, β 81, β 82, β 83, β 84, β 85]
noncomputable def n109 : Names := fun β v τ => [β 43, β 44, β 45, β 46, β 47, β 48, β 49, β 50, β 51, β 52, β 53, β 54, β 55, β 56, β 57, β 58, β 59, β 60, β 61, β 62, β 63, β 64, β 65, β 66, β 67, β 68, β 69, β 70, β 71, 0, 0, β 74, β 75, β 76, β 77, β 78, β 79, β 80, β 81, β 82, β 83]
noncomputable def n110 : Names := fun β v τ => [β 9, β 36, β 39, β 40, β 41, β 42, β 43, β 44, β 45, β 46, β 47, β 48, β 49, β 50, β 51, β 52, β 53, β 54, β 55, β 56, β 57, β 58, β 59, β 60, β 61, β 62, β 63, β 64, β 65, 0, 0, v 66, v 68, v 70, τ 28 + 556, τ 33 + 556, v 65, 1, τ 35 + 556, v 44, v 53]
noncomputable def n111 : Names := fun β v τ => [β 9, β 36, β 39, β 40, β 41, β 42, β 43, β 44, β 45, β 46, β 47, β 48, β 49, β 50, β 51, β 52, β 53, β 54, β 55, β 56, β 57, β 58, β 59, β 60, β 61, β 62, β 63, β 64, β 65, 0, 0, v 66, v 68, τ 28 + 556, τ 33 + 556, τ 38 + 556, v 65, 1, τ 40 + 556, v 44, v 53]
noncomputable def n112 : Names := fun β v τ => [β 37, β 38, β 39, β 40, β 41, β 42, β 43, β 44, β 45, β 46, β 47, β 48, β 49, β 50, β 51, β 52, β 53, β 54, β 55, β 56, β 57, β 58, β 59, β 60, β 61, β 62, β 63, β 64, β 65, 0, 0, β 68, β 69, β 70, β 71, β 72, β 73, β 74, β 75, β 76, β 77]
noncomputable def n113 : Names := fun β v τ => [β 9, β 36, β 39, β 40, β 41, β 42, β 43, β 44, β 45, β 46, β 47, β 48, β 49, β 50, β 51, β 52, β 53, β 54, β 55, β 56, β 57, β 58, β 59, β 60, β 61, β 62, β 63, β 64, β 65, 0, 0, v 66, v 68, v 70, v 72, τ 28 + 556, v 65, 1, τ 30 + 556, v 44, v 53]
noncomputable def n114 : Names := fun β v τ => [β 9, β 36, β 39, β 40, β 41, β 42, β 43, β 44, β 45, β 46, β 47, β 48, β 49, β 50, β 51, β 52, β 53, β 54, β 55, β 56, β 57, β 58, β 59, β 60, β 61, β 62, β 63, β 64, β 65, 0, 0, v 66, τ 28 + 556, τ 33 + 556, τ 38 + 556, τ 43 + 556, v 65, 1, τ 45 + 556, v 44, v 53]
noncomputable def n115 : Names := fun β v τ => [β 2, 0]
noncomputable def n116 : Names := fun β v τ => [β 2, 0, τ 1 + 556, τ 2 + 556, τ 3 + 556, τ 4 + 556, τ 5 + 556]
noncomputable def n117 : Names := fun β v τ => [β 2, 0, τ 15 + 556, τ 2 + 556, τ 3 + 556, τ 4 + 556, τ 5 + 556]
noncomputable def n118 : Names := fun β v τ => [β 2, 0, τ 15 + 556, τ 25 + 556, τ 3 + 556, τ 4 + 556, τ 5 + 556]
noncomputable def n119 : Names := fun β v τ => [β 2, 0, τ 15 + 556, τ 25 + 556, τ 35 + 556, τ 4 + 556, τ 5 + 556]
noncomputable def n120 : Names := fun β v τ => [β 2, 0, τ 15 + 556, τ 25 + 556, τ 35 + 556, τ 45 + 556, τ 5 + 556]
noncomputable def n121 : Names := fun β v τ => [β 2, 0, τ 15 + 556, τ 25 + 556, τ 35 + 556, τ 45 + 556, τ 55 + 556]
noncomputable def n122 : Names := fun β v τ => [β 2, 0, τ 65 + 556, τ 25 + 556, τ 35 + 556, τ 45 + 556, τ 55 + 556]
noncomputable def n123 : Names := fun β v τ => [β 2, 0, τ 65 + 556, τ 75 + 556, τ 35 + 556, τ 45 + 556, τ 55 + 556]
noncomputable def n124 : Names := fun β v τ => [β 2, 0, τ 65 + 556, τ 75 + 556, τ 85 + 556, τ 45 + 556, τ 55 + 556]
noncomputable def n125 : Names := fun β v τ => [β 2, 0, τ 65 + 556, τ 75 + 556, τ 85 + 556, τ 95 + 556, τ 55 + 556]
noncomputable def n126 : Names := fun β v τ => [β 2, 0, τ 65 + 556, τ 75 + 556, τ 85 + 556, τ 95 + 556, τ 105 + 556]
noncomputable def n127 : Names := fun β v τ => [β 2, 0, τ 115 + 556, τ 75 + 556, τ 85 + 556, τ 95 + 556, τ 105 + 556]
noncomputable def n128 : Names := fun β v τ => [β 2, 0, τ 115 + 556, τ 125 + 556, τ 85 + 556, τ 95 + 556, τ 105 + 556]
noncomputable def n129 : Names := fun β v τ => [β 2, 0, τ 115 + 556, τ 125 + 556, τ 135 + 556, τ 95 + 556, τ 105 + 556]
noncomputable def n130 : Names := fun β v τ => [β 2, 0, τ 115 + 556, τ 125 + 556, τ 135 + 556, τ 145 + 556, τ 105 + 556]
noncomputable def n131 : Names := fun β v τ => [β 2, 0, τ 115 + 556, τ 125 + 556, τ 135 + 556, τ 145 + 556, τ 155 + 556]
noncomputable def e0 := sE #[95, 105, 110, 105, 116, 105, 97, 108, 95, 115, 105, 122, 101]
noncomputable def e1 := sE #[95, 109, 97, 120, 108, 101, 110]
noncomputable def e2 := sE #[95, 99, 111, 110, 116, 105, 110, 117, 97, 116, 105, 111, 110, 95, 119, 115]
noncomputable def e3 := sE #[95, 99, 111, 110, 116, 105, 110, 117, 97, 116, 105, 111, 110, 95, 119, 115, 95, 108, 101, 110]
noncomputable def e4 := sE #[95, 115, 112, 108, 105, 116, 99, 104, 97, 114, 115]
noncomputable def e5 := sE #[95, 108, 105, 110, 101, 115]
noncomputable def e6 := sE #[95, 99, 117, 114, 114, 101, 110, 116, 95, 108, 105, 110, 101]
noncomputable def s0 (t : Tok) : Value := .str ⟨#[32]⟩ t
noncomputable def s1 (t : Tok) : Value := .str ⟨#[98, 98, 98]⟩ t
noncomputable def s2 (t : Tok) : Value := .str ⟨#[60, 103, 101, 110, 101, 120, 112, 114, 62]⟩ t
noncomputable def s3 (t : Tok) : Value := .str ⟨#[95, 65, 99, 99, 117, 109, 117, 108, 97, 116, 111, 114, 46, 95, 95, 108, 101, 110, 95, 95, 46, 60, 108, 111, 99, 97, 108, 115, 62, 46, 60, 103, 101, 110, 101, 120, 112, 114, 62]⟩ t
noncomputable def s4 (t : Tok) : Value := .str ⟨#[47, 99, 108, 97, 105, 109, 47, 99, 117, 116, 46, 112, 121]⟩ t
noncomputable def s5 (t : Tok) : Value := .str ⟨#[95, 65, 99, 99, 117, 109, 117, 108, 97, 116, 111, 114, 46, 95, 95, 115, 116, 114, 95, 95, 46, 60, 108, 111, 99, 97, 108, 115, 62, 46, 60, 103, 101, 110, 101, 120, 112, 114, 62]⟩ t
noncomputable def s6 (t : Tok) : Value := .str ⟨#[32, 98, 98, 98]⟩ t
noncomputable def s7 (t : Tok) : Value := .str ⟨#[97]⟩ t
noncomputable def s8 (t : Tok) : Value := .str ⟨#[32, 97]⟩ t
noncomputable def s9 (t : Tok) : Value := .str ⟨#[32, 97, 32, 97]⟩ t
noncomputable def s10 (t : Tok) : Value := .str ⟨#[47]⟩ t
noncomputable def s11 (t : Tok) : Value := .str ⟨#[32, 98, 98, 98, 47, 32, 98, 98, 98, 47, 32, 98, 98, 98, 47, 32, 98, 98, 98, 47, 32, 98, 98, 98]⟩ t
noncomputable def s12 (t : Tok) : Value := .str ⟨#[32, 97, 47, 32, 98, 98, 98, 47, 32, 98, 98, 98, 47, 32, 98, 98, 98, 47, 32, 98, 98, 98]⟩ t
noncomputable def s13 (t : Tok) : Value := .str ⟨#[32, 98, 98, 98, 47, 32, 97, 47, 32, 98, 98, 98, 47, 32, 98, 98, 98, 47, 32, 98, 98, 98]⟩ t
noncomputable def s14 (t : Tok) : Value := .str ⟨#[32, 97, 32, 97, 47, 32, 98, 98, 98, 47, 32, 98, 98, 98, 47, 32, 98, 98, 98]⟩ t
noncomputable def s15 (t : Tok) : Value := .str ⟨#[32, 98, 98, 98, 47, 32, 98, 98, 98, 47, 32, 97, 47, 32, 98, 98, 98, 47, 32, 98, 98, 98]⟩ t
noncomputable def s16 (t : Tok) : Value := .str ⟨#[32, 97, 47, 32, 98, 98, 98, 47, 32, 97, 47, 32, 98, 98, 98, 47, 32, 98, 98, 98]⟩ t
noncomputable def s17 (t : Tok) : Value := .str ⟨#[32, 98, 98, 98, 47, 32, 97, 32, 97, 47, 32, 98, 98, 98, 47, 32, 98, 98, 98]⟩ t
noncomputable def s18 (t : Tok) : Value := .str ⟨#[32, 97, 32, 97, 47, 32, 97, 47, 32, 98, 98, 98, 47, 32, 98, 98, 98]⟩ t
noncomputable def s19 (t : Tok) : Value := .str ⟨#[32, 98, 98, 98, 47, 32, 98, 98, 98, 47, 32, 98, 98, 98, 47, 32, 97, 47, 32, 98, 98, 98]⟩ t
noncomputable def s20 (t : Tok) : Value := .str ⟨#[32, 97, 47, 32, 98, 98, 98, 47, 32, 98, 98, 98, 47, 32, 97, 47, 32, 98, 98, 98]⟩ t
noncomputable def s21 (t : Tok) : Value := .str ⟨#[32, 98, 98, 98, 47, 32, 97, 47, 32, 98, 98, 98, 47, 32, 97, 47, 32, 98, 98, 98]⟩ t
noncomputable def s22 (t : Tok) : Value := .str ⟨#[32, 97, 32, 97, 47, 32, 98, 98, 98, 47, 32, 97, 47, 32, 98, 98, 98]⟩ t
noncomputable def s23 (t : Tok) : Value := .str ⟨#[32, 98, 98, 98, 47, 32, 98, 98, 98, 47, 32, 97, 32, 97, 47, 32, 98, 98, 98]⟩ t
noncomputable def s24 (t : Tok) : Value := .str ⟨#[32, 97, 47, 32, 98, 98, 98, 47, 32, 97, 32, 97, 47, 32, 98, 98, 98]⟩ t
noncomputable def s25 (t : Tok) : Value := .str ⟨#[32, 98, 98, 98, 47, 32, 97, 32, 97, 47, 32, 97, 47, 32, 98, 98, 98]⟩ t
noncomputable def s26 (t : Tok) : Value := .str ⟨#[32, 97, 32, 97, 47, 32, 97, 32, 97, 47, 32, 98, 98, 98]⟩ t
noncomputable def s27 (t : Tok) : Value := .str ⟨#[32, 98, 98, 98, 47, 32, 98, 98, 98, 47, 32, 98, 98, 98, 47, 32, 98, 98, 98, 47, 32, 97]⟩ t
noncomputable def s28 (t : Tok) : Value := .str ⟨#[32, 97, 47, 32, 98, 98, 98, 47, 32, 98, 98, 98, 47, 32, 98, 98, 98, 47, 32, 97]⟩ t
noncomputable def s29 (t : Tok) : Value := .str ⟨#[32, 98, 98, 98, 47, 32, 97, 47, 32, 98, 98, 98, 47, 32, 98, 98, 98, 47, 32, 97]⟩ t
noncomputable def s30 (t : Tok) : Value := .str ⟨#[32, 97, 32, 97, 47, 32, 98, 98, 98, 47, 32, 98, 98, 98, 47, 32, 97]⟩ t
noncomputable def s31 (t : Tok) : Value := .str ⟨#[32, 98, 98, 98, 47, 32, 98, 98, 98, 47, 32, 97, 47, 32, 98, 98, 98, 47, 32, 97]⟩ t
noncomputable def s32 (t : Tok) : Value := .str ⟨#[32, 97, 47, 32, 98, 98, 98, 47, 32, 97, 47, 32, 98, 98, 98, 47, 32, 97]⟩ t
noncomputable def s33 (t : Tok) : Value := .str ⟨#[32, 98, 98, 98, 47, 32, 97, 32, 97, 47, 32, 98, 98, 98, 47, 32, 97]⟩ t
noncomputable def s34 (t : Tok) : Value := .str ⟨#[32, 97, 32, 97, 47, 32, 97, 47, 32, 98, 98, 98, 47, 32, 97]⟩ t
noncomputable def s35 (t : Tok) : Value := .str ⟨#[32, 98, 98, 98, 47, 32, 98, 98, 98, 47, 32, 98, 98, 98, 47, 32, 97, 32, 97]⟩ t
noncomputable def s36 (t : Tok) : Value := .str ⟨#[32, 97, 47, 32, 98, 98, 98, 47, 32, 98, 98, 98, 47, 32, 97, 32, 97]⟩ t
noncomputable def s37 (t : Tok) : Value := .str ⟨#[32, 98, 98, 98, 47, 32, 97, 47, 32, 98, 98, 98, 47, 32, 97, 32, 97]⟩ t
noncomputable def s38 (t : Tok) : Value := .str ⟨#[32, 97, 32, 97, 47, 32, 98, 98, 98, 47, 32, 97, 32, 97]⟩ t
noncomputable def s39 (t : Tok) : Value := .str ⟨#[32, 98, 98, 98, 47, 32, 98, 98, 98, 47, 32, 97, 32, 97, 47, 32, 97]⟩ t
noncomputable def s40 (t : Tok) : Value := .str ⟨#[32, 97, 47, 32, 98, 98, 98, 47, 32, 97, 32, 97, 47, 32, 97]⟩ t
noncomputable def s41 (t : Tok) : Value := .str ⟨#[32, 98, 98, 98, 47, 32, 97, 32, 97, 47, 32, 97, 32, 97]⟩ t
noncomputable def s42 (t : Tok) : Value := .str ⟨#[32, 97, 32, 97, 47, 32, 97, 32, 97, 47, 32, 97]⟩ t
noncomputable def s43 (t : Tok) : Value := .str ⟨#[32, 97, 47, 32, 98, 98, 98, 47, 32, 98, 98, 98, 47, 32, 98, 98, 98]⟩ t
noncomputable def s44 (t : Tok) : Value := .str ⟨#[32, 97, 32, 97, 47, 32, 98, 98, 98, 47, 32, 98, 98, 98]⟩ t
noncomputable def s45 (t : Tok) : Value := .str ⟨#[32, 97, 47, 32, 98, 98, 98, 47, 32, 97, 47, 32, 98, 98, 98]⟩ t
noncomputable def s46 (t : Tok) : Value := .str ⟨#[32, 97, 32, 97, 47, 32, 97, 47, 32, 98, 98, 98]⟩ t
noncomputable def s47 (t : Tok) : Value := .str ⟨#[32, 97, 47, 32, 98, 98, 98, 47, 32, 98, 98, 98, 47, 32, 97]⟩ t
noncomputable def s48 (t : Tok) : Value := .str ⟨#[32, 97, 32, 97, 47, 32, 98, 98, 98, 47, 32, 97]⟩ t
noncomputable def s49 (t : Tok) : Value := .str ⟨#[32, 97, 47, 32, 98, 98, 98, 47, 32, 97, 32, 97]⟩ t
noncomputable def s50 (t : Tok) : Value := .str ⟨#[32, 97, 32, 97, 47, 32, 97, 32, 97]⟩ t
noncomputable def s51 (t : Tok) : Value := .str ⟨#[32, 98, 98, 98, 47, 32, 97, 47, 32, 98, 98, 98, 47, 32, 98, 98, 98]⟩ t
noncomputable def s52 (t : Tok) : Value := .str ⟨#[32, 98, 98, 98, 47, 32, 97, 32, 97, 47, 32, 98, 98, 98]⟩ t
noncomputable def s53 (t : Tok) : Value := .str ⟨#[32, 98, 98, 98, 47, 32, 97, 47, 32, 98, 98, 98, 47, 32, 97]⟩ t
noncomputable def s54 (t : Tok) : Value := .str ⟨#[32, 98, 98, 98, 47, 32, 97, 32, 97, 47, 32, 97]⟩ t
noncomputable def s55 (t : Tok) : Value := .str ⟨#[32, 98, 98, 98, 47, 32, 98, 98, 98, 47, 32, 97, 47, 32, 98, 98, 98]⟩ t
noncomputable def s56 (t : Tok) : Value := .str ⟨#[32, 98, 98, 98, 47, 32, 98, 98, 98, 47, 32, 97, 32, 97]⟩ t
noncomputable def s57 (t : Tok) : Value := .str ⟨#[32, 97, 32, 97, 47, 32, 98, 98, 98]⟩ t
noncomputable def s58 (t : Tok) : Value := .str ⟨#[32, 97, 32, 97, 47, 32, 97]⟩ t
noncomputable def s59 (t : Tok) : Value := .str ⟨#[32, 98, 98, 98, 47, 32, 98, 98, 98, 47, 32, 98, 98, 98, 47, 32, 97]⟩ t
noncomputable def s60 (t : Tok) : Value := .str ⟨#[32, 97, 47, 32, 98, 98, 98, 47, 32, 97]⟩ t
noncomputable def s61 (t : Tok) : Value := .str ⟨#[32, 98, 98, 98, 47, 32, 97, 32, 97]⟩ t
noncomputable def s62 (t : Tok) : Value := .str ⟨#[32, 97, 47, 32, 98, 98, 98, 47, 32, 98, 98, 98]⟩ t
noncomputable def s63 (t : Tok) : Value := .str ⟨#[32, 98, 98, 98, 47, 32, 97, 47, 32, 98, 98, 98]⟩ t
noncomputable def s64 (t : Tok) : Value := .str ⟨#[32, 98, 98, 98, 47, 32, 98, 98, 98, 47, 32, 97]⟩ t
noncomputable def s65 (t : Tok) : Value := .str ⟨#[32, 97, 47, 32, 98, 98, 98]⟩ t
noncomputable def s66 (t : Tok) : Value := .str ⟨#[32, 98, 98, 98, 47, 32, 97]⟩ t
noncomputable def s67 (t : Tok) : Value := .str ⟨#[86, 65, 82, 65, 82, 71, 83]⟩ t
noncomputable def s68 (t : Tok) : Value := .str ⟨#[79, 80, 84, 73, 77, 73, 90, 69, 68, 44, 32, 86, 65, 82, 65, 82, 71, 83]⟩ t
noncomputable def s69 (t : Tok) : Value := .str ⟨#[79, 80, 84, 73, 77, 73, 90, 69, 68, 44, 32, 78, 69, 87, 76, 79, 67, 65, 76, 83, 44, 32, 86, 65, 82, 65, 82, 71, 83]⟩ t
noncomputable def s70 (t : Tok) : Value := .str ⟨#[79, 80, 84, 73, 77, 73, 90, 69, 68, 44, 32, 78, 69, 87, 76, 79, 67, 65, 76, 83, 44, 32, 86, 65, 82, 75, 69, 89, 87, 79, 82, 68, 83]⟩ t
noncomputable def s71 (t : Tok) : Value := .str ⟨#[79, 80, 84, 73, 77, 73, 90, 69, 68, 44, 32, 78, 69, 87, 76, 79, 67, 65, 76, 83, 44, 32, 78, 69, 83, 84, 69, 68]⟩ t
noncomputable def s72 (t : Tok) : Value := .str ⟨#[78, 69, 87, 76, 79, 67, 65, 76, 83, 44, 32, 86, 65, 82, 65, 82, 71, 83]⟩ t
noncomputable def s73 (t : Tok) : Value := .str ⟨#[86, 65, 82, 75, 69, 89, 87, 79, 82, 68, 83]⟩ t
noncomputable def s74 (t : Tok) : Value := .str ⟨#[86, 65, 82, 65, 82, 71, 83, 44, 32, 86, 65, 82, 75, 69, 89, 87, 79, 82, 68, 83]⟩ t
noncomputable def s75 (t : Tok) : Value := .str ⟨#[86, 65, 82, 65, 82, 71, 83, 44, 32, 78, 69, 83, 84, 69, 68]⟩ t
noncomputable def s76 (t : Tok) : Value := .str ⟨#[78, 69, 87, 76, 79, 67, 65, 76, 83, 44, 32, 86, 65, 82, 75, 69, 89, 87, 79, 82, 68, 83]⟩ t
noncomputable def s77 (t : Tok) : Value := .str ⟨#[78, 69, 87, 76, 79, 67, 65, 76, 83, 44, 32, 86, 65, 82, 65, 82, 71, 83, 44, 32, 86, 65, 82, 75, 69, 89, 87, 79, 82, 68, 83]⟩ t
noncomputable def s78 (t : Tok) : Value := .str ⟨#[78, 69, 87, 76, 79, 67, 65, 76, 83, 44, 32, 86, 65, 82, 65, 82, 71, 83, 44, 32, 78, 69, 83, 84, 69, 68]⟩ t
noncomputable def s79 (t : Tok) : Value := .str ⟨#[78, 69, 87, 76, 79, 67, 65, 76, 83, 44, 32, 78, 69, 83, 84, 69, 68]⟩ t
noncomputable def s80 (t : Tok) : Value := .str ⟨#[78, 69, 87, 76, 79, 67, 65, 76, 83, 44, 32, 86, 65, 82, 75, 69, 89, 87, 79, 82, 68, 83, 44, 32, 78, 69, 83, 84, 69, 68]⟩ t
noncomputable def s81 (t : Tok) : Value := .str ⟨#[78, 69, 87, 76, 79, 67, 65, 76, 83, 44, 32, 71, 69, 78, 69, 82, 65, 84, 79, 82]⟩ t
noncomputable def s82 (t : Tok) : Value := .str ⟨#[79, 80, 84, 73, 77, 73, 90, 69, 68, 44, 32, 86, 65, 82, 75, 69, 89, 87, 79, 82, 68, 83]⟩ t
noncomputable def s83 (t : Tok) : Value := .str ⟨#[79, 80, 84, 73, 77, 73, 90, 69, 68, 44, 32, 86, 65, 82, 65, 82, 71, 83, 44, 32, 86, 65, 82, 75, 69, 89, 87, 79, 82, 68, 83]⟩ t
noncomputable def s84 (t : Tok) : Value := .str ⟨#[79, 80, 84, 73, 77, 73, 90, 69, 68, 44, 32, 86, 65, 82, 65, 82, 71, 83, 44, 32, 78, 69, 83, 84, 69, 68]⟩ t
noncomputable def s85 (t : Tok) : Value := .str ⟨#[79, 80, 84, 73, 77, 73, 90, 69, 68, 44, 32, 78, 69, 87, 76, 79, 67, 65, 76, 83, 44, 32, 86, 65, 82, 65, 82, 71, 83, 44, 32, 86, 65, 82, 75, 69, 89, 87, 79, 82, 68, 83]⟩ t
noncomputable def s86 (t : Tok) : Value := .str ⟨#[79, 80, 84, 73, 77, 73, 90, 69, 68, 44, 32, 78, 69, 87, 76, 79, 67, 65, 76, 83, 44, 32, 86, 65, 82, 65, 82, 71, 83, 44, 32, 78, 69, 83, 84, 69, 68]⟩ t
noncomputable def s87 (t : Tok) : Value := .str ⟨#[79, 80, 84, 73, 77, 73, 90, 69, 68, 44, 32, 78, 69, 87, 76, 79, 67, 65, 76, 83, 44, 32, 86, 65, 82, 75, 69, 89, 87, 79, 82, 68, 83, 44, 32, 78, 69, 83, 84, 69, 68]⟩ t
noncomputable def s88 (t : Tok) : Value := .str ⟨#[79, 80, 84, 73, 77, 73, 90, 69, 68, 44, 32, 78, 69, 87, 76, 79, 67, 65, 76, 83, 44, 32, 71, 69, 78, 69, 82, 65, 84, 79, 82]⟩ t
noncomputable def s89 (t : Tok) : Value := .str ⟨#[79, 80, 84, 73, 77, 73, 90, 69, 68, 44, 32, 78, 69, 83, 84, 69, 68]⟩ t
noncomputable def s90 (t : Tok) : Value := .str ⟨#[79, 80, 84, 73, 77, 73, 90, 69, 68, 44, 32, 86, 65, 82, 75, 69, 89, 87, 79, 82, 68, 83, 44, 32, 78, 69, 83, 84, 69, 68]⟩ t
noncomputable def s91 (t : Tok) : Value := .str ⟨#[79, 80, 84, 73, 77, 73, 90, 69, 68, 44, 32, 86, 65, 82, 65, 82, 71, 83, 44, 32, 86, 65, 82, 75, 69, 89, 87, 79, 82, 68, 83, 44, 32, 78, 69, 83, 84, 69, 68]⟩ t
noncomputable def s92 (t : Tok) : Value := .str ⟨#[79, 80, 84, 73, 77, 73, 90, 69, 68, 44, 32, 86, 65, 82, 65, 82, 71, 83, 44, 32, 71, 69, 78, 69, 82, 65, 84, 79, 82]⟩ t
noncomputable def s93 (t : Tok) : Value := .str ⟨#[79, 80, 84, 73, 77, 73, 90, 69, 68, 44, 32, 71, 69, 78, 69, 82, 65, 84, 79, 82]⟩ t
noncomputable def s94 (t : Tok) : Value := .str ⟨#[79, 80, 84, 73, 77, 73, 90, 69, 68, 44, 32, 86, 65, 82, 75, 69, 89, 87, 79, 82, 68, 83, 44, 32, 71, 69, 78, 69, 82, 65, 84, 79, 82]⟩ t
noncomputable def s95 (t : Tok) : Value := .str ⟨#[79, 80, 84, 73, 77, 73, 90, 69, 68, 44, 32, 78, 69, 83, 84, 69, 68, 44, 32, 71, 69, 78, 69, 82, 65, 84, 79, 82]⟩ t
noncomputable def s96 (t : Tok) : Value := .str ⟨#[78, 69, 83, 84, 69, 68]⟩ t
noncomputable def s97 (t : Tok) : Value := .str ⟨#[86, 65, 82, 75, 69, 89, 87, 79, 82, 68, 83, 44, 32, 78, 69, 83, 84, 69, 68]⟩ t
noncomputable def s98 (t : Tok) : Value := .str ⟨#[86, 65, 82, 65, 82, 71, 83, 44, 32, 86, 65, 82, 75, 69, 89, 87, 79, 82, 68, 83, 44, 32, 78, 69, 83, 84, 69, 68]⟩ t
noncomputable def s99 (t : Tok) : Value := .str ⟨#[86, 65, 82, 65, 82, 71, 83, 44, 32, 71, 69, 78, 69, 82, 65, 84, 79, 82]⟩ t
noncomputable def s100 (t : Tok) : Value := .str ⟨#[78, 69, 87, 76, 79, 67, 65, 76, 83, 44, 32, 86, 65, 82, 65, 82, 71, 83, 44, 32, 86, 65, 82, 75, 69, 89, 87, 79, 82, 68, 83, 44, 32, 78, 69, 83, 84, 69, 68]⟩ t
noncomputable def s101 (t : Tok) : Value := .str ⟨#[78, 69, 87, 76, 79, 67, 65, 76, 83, 44, 32, 86, 65, 82, 65, 82, 71, 83, 44, 32, 71, 69, 78, 69, 82, 65, 84, 79, 82]⟩ t
noncomputable def s102 (t : Tok) : Value := .str ⟨#[78, 69, 87, 76, 79, 67, 65, 76, 83, 44, 32, 86, 65, 82, 75, 69, 89, 87, 79, 82, 68, 83, 44, 32, 71, 69, 78, 69, 82, 65, 84, 79, 82]⟩ t
noncomputable def s103 (t : Tok) : Value := .str ⟨#[78, 69, 87, 76, 79, 67, 65, 76, 83, 44, 32, 78, 69, 83, 84, 69, 68, 44, 32, 71, 69, 78, 69, 82, 65, 84, 79, 82]⟩ t
noncomputable def s104 (t : Tok) : Value := .str ⟨#[71, 69, 78, 69, 82, 65, 84, 79, 82]⟩ t
noncomputable def s105 (t : Tok) : Value := .str ⟨#[86, 65, 82, 75, 69, 89, 87, 79, 82, 68, 83, 44, 32, 71, 69, 78, 69, 82, 65, 84, 79, 82]⟩ t
noncomputable def s106 (t : Tok) : Value := .str ⟨#[86, 65, 82, 65, 82, 71, 83, 44, 32, 86, 65, 82, 75, 69, 89, 87, 79, 82, 68, 83, 44, 32, 71, 69, 78, 69, 82, 65, 84, 79, 82]⟩ t
noncomputable def s107 (t : Tok) : Value := .str ⟨#[86, 65, 82, 65, 82, 71, 83, 44, 32, 78, 69, 83, 84, 69, 68, 44, 32, 71, 69, 78, 69, 82, 65, 84, 79, 82]⟩ t
noncomputable def s108 (t : Tok) : Value := .str ⟨#[78, 69, 83, 84, 69, 68, 44, 32, 71, 69, 78, 69, 82, 65, 84, 79, 82]⟩ t
noncomputable def s109 (t : Tok) : Value := .str ⟨#[86, 65, 82, 75, 69, 89, 87, 79, 82, 68, 83, 44, 32, 78, 69, 83, 84, 69, 68, 44, 32, 71, 69, 78, 69, 82, 65, 84, 79, 82]⟩ t
noncomputable def s110 (t : Tok) : Value := .str ⟨#[78, 79, 70, 82, 69, 69]⟩ t
noncomputable def s111 (t : Tok) : Value := .str ⟨#[79, 80, 84, 73, 77, 73, 90, 69, 68, 44, 32, 78, 69, 87, 76, 79, 67, 65, 76, 83, 44, 32, 86, 65, 82, 65, 82, 71, 83, 44, 32, 86, 65, 82, 75, 69, 89, 87, 79, 82, 68, 83, 44, 32, 78, 69, 83, 84, 69, 68]⟩ t
noncomputable def s112 (t : Tok) : Value := .str ⟨#[79, 80, 84, 73, 77, 73, 90, 69, 68, 44, 32, 78, 69, 87, 76, 79, 67, 65, 76, 83, 44, 32, 86, 65, 82, 65, 82, 71, 83, 44, 32, 71, 69, 78, 69, 82, 65, 84, 79, 82]⟩ t
noncomputable def s113 (t : Tok) : Value := .str ⟨#[79, 80, 84, 73, 77, 73, 90, 69, 68, 44, 32, 78, 69, 87, 76, 79, 67, 65, 76, 83, 44, 32, 86, 65, 82, 75, 69, 89, 87, 79, 82, 68, 83, 44, 32, 71, 69, 78, 69, 82, 65, 84, 79, 82]⟩ t
noncomputable def s114 (t : Tok) : Value := .str ⟨#[79, 80, 84, 73, 77, 73, 90, 69, 68, 44, 32, 78, 69, 87, 76, 79, 67, 65, 76, 83, 44, 32, 78, 69, 83, 84, 69, 68, 44, 32, 71, 69, 78, 69, 82, 65, 84, 79, 82]⟩ t
noncomputable def s115 (t : Tok) : Value := .str ⟨#[79, 80, 84, 73, 77, 73, 90, 69, 68, 44, 32, 86, 65, 82, 65, 82, 71, 83, 44, 32, 86, 65, 82, 75, 69, 89, 87, 79, 82, 68, 83, 44, 32, 71, 69, 78, 69, 82, 65, 84, 79, 82]⟩ t
noncomputable def s116 (t : Tok) : Value := .str ⟨#[79, 80, 84, 73, 77, 73, 90, 69, 68, 44, 32, 86, 65, 82, 65, 82, 71, 83, 44, 32, 78, 69, 83, 84, 69, 68, 44, 32, 71, 69, 78, 69, 82, 65, 84, 79, 82]⟩ t
noncomputable def s117 (t : Tok) : Value := .str ⟨#[79, 80, 84, 73, 77, 73, 90, 69, 68, 44, 32, 86, 65, 82, 75, 69, 89, 87, 79, 82, 68, 83, 44, 32, 78, 69, 83, 84, 69, 68, 44, 32, 71, 69, 78, 69, 82, 65, 84, 79, 82]⟩ t
noncomputable def s118 (t : Tok) : Value := .str ⟨#[79, 80, 84, 73, 77, 73, 90, 69, 68, 44, 32, 78, 79, 70, 82, 69, 69]⟩ t
noncomputable def s119 (t : Tok) : Value := .str ⟨#[79, 80, 84, 73, 77, 73, 90, 69, 68, 44, 32, 78, 69, 87, 76, 79, 67, 65, 76, 83, 44, 32, 86, 65, 82, 65, 82, 71, 83, 44, 32, 86, 65, 82, 75, 69, 89, 87, 79, 82, 68, 83, 44, 32, 71, 69, 78, 69, 82, 65, 84, 79, 82]⟩ t
noncomputable def s120 (t : Tok) : Value := .str ⟨#[79, 80, 84, 73, 77, 73, 90, 69, 68, 44, 32, 78, 69, 87, 76, 79, 67, 65, 76, 83, 44, 32, 86, 65, 82, 65, 82, 71, 83, 44, 32, 78, 69, 83, 84, 69, 68, 44, 32, 71, 69, 78, 69, 82, 65, 84, 79, 82]⟩ t
noncomputable def s121 (t : Tok) : Value := .str ⟨#[79, 80, 84, 73, 77, 73, 90, 69, 68, 44, 32, 78, 69, 87, 76, 79, 67, 65, 76, 83, 44, 32, 86, 65, 82, 75, 69, 89, 87, 79, 82, 68, 83, 44, 32, 78, 69, 83, 84, 69, 68, 44, 32, 71, 69, 78, 69, 82, 65, 84, 79, 82]⟩ t
noncomputable def s122 (t : Tok) : Value := .str ⟨#[79, 80, 84, 73, 77, 73, 90, 69, 68, 44, 32, 78, 69, 87, 76, 79, 67, 65, 76, 83, 44, 32, 78, 79, 70, 82, 69, 69]⟩ t
noncomputable def s123 (t : Tok) : Value := .str ⟨#[79, 80, 84, 73, 77, 73, 90, 69, 68, 44, 32, 78, 69, 87, 76, 79, 67, 65, 76, 83, 44, 32, 86, 65, 82, 65, 82, 71, 83, 44, 32, 86, 65, 82, 75, 69, 89, 87, 79, 82, 68, 83, 44, 32, 78, 69, 83, 84, 69, 68, 44, 32, 71, 69, 78, 69, 82, 65, 84, 79, 82]⟩ t
noncomputable def s124 (t : Tok) : Value := .str ⟨#[79, 80, 84, 73, 77, 73, 90, 69, 68, 44, 32, 78, 69, 87, 76, 79, 67, 65, 76, 83, 44, 32, 86, 65, 82, 65, 82, 71, 83, 44, 32, 78, 79, 70, 82, 69, 69]⟩ t
noncomputable def s125 (t : Tok) : Value := .str ⟨#[79, 80, 84, 73, 77, 73, 90, 69, 68, 44, 32, 78, 69, 87, 76, 79, 67, 65, 76, 83, 44, 32, 86, 65, 82, 65, 82, 71, 83, 44, 32, 86, 65, 82, 75, 69, 89, 87, 79, 82, 68, 83, 44, 32, 78, 79, 70, 82, 69, 69]⟩ t
noncomputable abbrev ff : Bool := false
noncomputable abbrev tt : Bool := true
/-! ## rows as data -/
noncomputable def knR (x : Nat → Nat) (L : Nat) : Nat → List Bool → List (Nat × Nat × Nat)
  | _, [] => []
  | i, b :: pt => (match b with | true => L | false => x i, 0, 0) :: knR x L (i + 1) pt
noncomputable def rowG (gr : Bool) (pt : List Bool) (x : Nat → Nat) (L : Nat) : Con :=
  rowsK gr pt.length (rowsP pt).length (4 + 8 * pt.length) (pt.length + 3) (pt.length + 4 + 3 * (rowsP pt).length) (3 * (rowsP pt).length + 4) (List.range' (pt.length + 3) ((rowsP pt).length + 1))
    (match gr with | true => List.range' 0 (pt.length + 3) | false => List.range' 0 (pt.length + 1)) (rowsP pt) (knR x L 0 pt) L
inductive HI where
  | f (i : Nat)
  | t
  | k (b : BK)
noncomputable def HI.h (i : HI) (P : Params) (x : Nat → Nat) (L : Nat) : Con := match i with
  | .f i => eqC (Int.ofNat (x i)) (Int.ofNat L) false
  | .t => eqC (Int.ofNat L) (Int.ofNat L) true
  | .k b => b.K P
noncomputable def RowOk (gr : Bool) (pt : List Bool) : Prop := ∀ (w : World) (x : Nat → Nat) (L : Nat), (∀ i, x i ≠ L) → OK w (rowG gr pt x L)
noncomputable def RowE (gr : Bool) (pt : List Bool) (hs : List HI) (ad cd : Nat) (Q : List Nat) (ef : Names) : Prop := ∀ (x : Nat → Nat) (L : Nat), EN (fun P => hs.map fun h => h.h P x L) (fun _ => rowG gr pt x L) ad cd Q ef nN
theorem row_ok {gr : Bool} {pt : List Bool} {hs : List HI} {ad cd : Nat} {Q : List Nat} {ef : Names} (e : RowE gr pt hs ad cd Q ef) : RowOk gr pt := fun w x L hx => by
  refine en_ok (e x L) w fun k hk => ?_
  obtain ⟨h, _, rfl⟩ := List.mem_map.mp hk
  cases h with
  | f i => exact eqC_ok (ofNat_ne (hx i))
  | t => exact eqC_ok (beq_self_eq_true _)
  | k b => exact b.ok w
/-! ## the states of the loop over the levels as data -/
noncomputable def nxK (P : Params) (r : SR) (L R H : Nat) (hs : Nat → Nat) (F : Nat → Nat → Nat) : Con :=
  stG P r.nkind (rowsP r.pat).length (stepP (L + 1) (r.kn L hs) (rowsP r.pat)).1 (L + 1) R H F
noncomputable def pwB (r : SR) : Bool := (rowsP r.pat).any fun x => x.length == 2
noncomputable def hdS (r : SR) (k0 : Bool) (L R W : Nat) (hs : Nat → Nat) (nx : Con) : List Con := match k0 with
  | true => [rowG false r.pat hs L, nx]
  | false => match pwB r with
    | true => [rngC L R, rowG true r.pat hs L, powC 2 (Int.ofNat L) (Int.ofNat W), nx]
    | false => [rngC L R, rowG true r.pat hs L, nx]
noncomputable def SRE (r : SR) (k0 : Bool) (ad cd : Nat) (Q : List Nat) (ef : Names) (L R W H : Nat) (hs : Nat → Nat) (F : Nat → Nat → Nat) : Prop :=
  EN (fun P => hdS r k0 L R W hs (nxK P r L R H hs F)) (fun P => stG P r.kind r.pat.length (r.kn L hs) L (R + 1) H (addF (lvP r.sp r.pat) W F)) ad cd Q ef nN
noncomputable def sdB (r : SR) : Bool := Nat.beq r.sp.length r.pat.length && !(Nat.beq r.pat.length 1) && !(Nat.beq (rowsP r.pat).length 1)
theorem knS_len (L : Nat) (hs : Nat → Nat) : ∀ (sp : List (Nat × Nat)) (pt : List Bool) (i : Nat), sp.length = pt.length → (knS L hs i sp pt).length = pt.length
  | [], [], _, _ => rfl
  | [], _ :: _, _, h => by cases h
  | _ :: _, [], _, h => by cases h
  | (f, l) :: sp, b :: pt, i, h => by
    show (knS L hs (i + 1) sp pt).length + 1 = pt.length + 1
    rw [knS_len L hs sp pt (i + 1) (by simpa using h)]
theorem knS_pat (L : Nat) (hs : Nat → Nat) (hne : ∀ i, hs i ≠ L) : ∀ (sp : List (Nat × Nat)) (pt : List Bool) (i : Nat), sp.length = pt.length → patP L (knS L hs i sp pt) = pt
  | [], [], _, _ => rfl
  | [], _ :: _, _, h => by cases h
  | _ :: _, [], _, h => by cases h
  | (f, l) :: sp, b :: pt, i, h => by
    show ((match (generalizing := false) b with | true => L | false => hs i) == L) :: patP L (knS L hs (i + 1) sp pt) = b :: pt
    rw [knS_pat L hs hne sp pt (i + 1) (by simpa using h)]
    cases b with
    | true => rw [beq_self_eq_true]
    | false => rw [show (hs i == L) = false from beq_eq_false_iff_ne.mpr (hne i)]
theorem FK_many {w : World} {kind : Nat} {kn : List (Nat × Nat × Nat)} {L R H : Nat} {F : Nat → Nat → Nat} (h : kn.length ≠ 1) : FK w kind kn L R H F = OK w (stG w.params kind kn.length kn L R H F) := by
  unfold FK
  split
  · exact absurd rfl h
  · rfl
theorem sr_of (r : SR) (k0 : Bool) (ad cd : Nat) (Q : List Nat) (ef : Names) (row : RowOk (!k0) r.pat) (hk : (k0 == Nat.beq r.kind 0) = true) (sd : sdB r = true)
    (e : ∀ (L R W H : Nat) (hs : Nat → Nat) (F : Nat → Nat → Nat), (k0 = true → L = 0 ∧ R = 7 ∧ W = 1) → SRE r k0 ad cd Q ef L R W H hs F) : r.ok := by
  intro w L R H hs F hne h0 hL hn
  unfold sdB at sd
  simp only [Bool.and_eq_true, Bool.not_eq_true'] at sd
  obtain ⟨⟨s1, s2⟩, s3⟩ := sd
  have s1 := Nat.eq_of_beq_eq_true s1
  have n2 : r.pat.length ≠ 1 := fun q => by rw [q] at s2; cases s2
  have n3 : (rowsP r.pat).length ≠ 1 := fun q => by rw [q] at s3; cases s3
  have l1 : (r.kn L hs).length = r.pat.length := knS_len L hs r.sp r.pat 0 s1
  have p1 : patP L (r.kn L hs) = r.pat := knS_pat L hs hne r.sp r.pat 0 s1
  have l2 : (stepP (L + 1) (r.kn L hs) (rowsP r.pat)).1.length = (rowsP r.pat).length := by
    have := stp_eq L (L + 1) (r.kn L hs)
    rw [p1] at this
    rw [this, len_eq, p1]
  rw [FK_many (by rw [l1]; exact n2), l1]
  rw [FK_many (by rw [l2]; exact n3), l2] at hn
  have hk := eq_of_beq hk
  have z : k0 = true → L = 0 ∧ R = 7 ∧ 2 ^ L = 1 := fun q => by
    rw [q] at hk
    have := h0 (Nat.eq_of_beq_eq_true hk.symm)
    exact ⟨this.1, this.2, by rw [this.1]⟩
  refine en_ok (e L R (2 ^ L) H hs F z) w fun k hkm => ?_
  have rk := row w hs L hne
  unfold hdS at hkm
  split at hkm
  · simp only [List.mem_cons, List.not_mem_nil, or_false] at hkm
    rcases hkm with rfl | rfl
    · exact rk
    · exact hn
  · split at hkm
    · simp only [List.mem_cons, List.not_mem_nil, or_false] at hkm
      rcases hkm with rfl | rfl | rfl | rfl
      · exact rngC_ok
      · exact rk
      · exact powC_ok (pow_fits hL) (pow_nat L)
      · exact hn
    · simp only [List.mem_cons, List.not_mem_nil, or_false] at hkm
      rcases hkm with rfl | rfl | rfl
      · exact rngC_ok
      · exact rk
      · exact hn
noncomputable def SR0 (r : SR) (ad cd : Nat) (Q : List Nat) (ef : Names) : Prop := ∀ (H : Nat) (hs : Nat → Nat) (F : Nat → Nat → Nat), SRE r true ad cd Q ef 0 7 1 H hs F
noncomputable def SR1 (r : SR) (ad cd : Nat) (Q : List Nat) (ef : Names) : Prop := ∀ (L R W H : Nat) (hs : Nat → Nat) (F : Nat → Nat → Nat), SRE r false ad cd Q ef L R W H hs F
theorem sr0 {r : SR} {ad cd : Nat} {Q : List Nat} {ef : Names} (e : SR0 r ad cd Q ef) (row : RowOk false r.pat) (hk : (true == Nat.beq r.kind 0) = true) (sd : sdB r = true) : r.ok :=
  sr_of r true ad cd Q ef row hk sd fun L R W H hs F h => by
    obtain ⟨rfl, rfl, rfl⟩ := h rfl
    exact e H hs F
theorem sr1 {r : SR} {ad cd : Nat} {Q : List Nat} {ef : Names} (e : SR1 r ad cd Q ef) (row : RowOk true r.pat) (hk : (false == Nat.beq r.kind 0) = true) (sd : sdB r = true) : r.ok :=
  sr_of r false ad cd Q ef row hk sd fun L R W H hs F _ => e L R W H hs F
/-- the last turn but one: two knots, both words -/
noncomputable def SRL (a ad cd : Nat) (Q : List Nat) (ef : Names) : Prop := ∀ (L R W : Nat) (hs : Nat → Nat),
  EN (fun P => [rngC L R, rowG true [true, true] hs L, powC 2 (Int.ofNat L) (Int.ofNat W), endG P (L + 1) (L + 1) R]) (fun P => stG P 2 2 [(L, 0, a), (L, a, 5)] L (R + 1) (L + 1) (addF (lvP [(0, a), (a, 5)] [true, true]) W fun _ z => z)) ad cd Q ef nN
theorem sr_last {a ad cd : Nat} {Q : List Nat} {ef : Names} (e : SRL a ad cd Q ef) (row : RowOk true [true, true]) : SR.ok ⟨2, [(0, a), (a, 5)], [true, true]⟩ := by
  intro w L R H hs F hne h0 hL hn
  have hn : OK w (endG w.params (L + 1) (L + 1) R) ∧ L + 1 = H ∧ F = fun _ z => z := hn
  obtain ⟨h1, h2, h3⟩ := hn
  subst h2 h3
  have key := en_ok (e L R (2 ^ L) hs) w fun k hkm => by
    simp only [List.mem_cons, List.not_mem_nil, or_false] at hkm
    rcases hkm with rfl | rfl | rfl | rfl
    · exact rngC_ok
    · exact row w hs L hne
    · exact powC_ok (pow_fits hL) (pow_nat L)
    · exact h1
  exact key
theorem sr_nil : ∀ r ∈ ([] : List SR), r.ok := fun r h => by cases h
theorem sr_cons {r : SR} {l : List SR} (h : r.ok) (t : ∀ r ∈ l, r.ok) : ∀ q ∈ r :: l, q.ok := fun q hq => by
  rcases List.mem_cons.mp hq with e | e
  · rw [e]; exact h
  · exact t q e
noncomputable def a0p (P : Params) (b v : Nat → Nat) : List Own := [(b 0 + 259, ⟨(.ref 200), some (b 1 + 259), .seq #[] (v 4), #[]⟩), (b 1 + 259, (dic [] (v 5)))]
noncomputable def a0 (P : Params) : Con := { n := 2, na := 0, nt := 1, need := 5, sel := [], code b v := .call (.ref 137) ⟨[(R b 0), (iv 0 (v 1))], []⟩, pre := a0p P, res b v t := .ok (.ret .none), post b v t := [ko (a0p P b v) 0, (dic [(e0 P (t 0) (iv 0 (v 1)))] (v 5 + 1))], new b v t := [], keep := [0] }
noncomputable def a1p (f0 : Tok → Value) (P : Params) (b v : Nat → Nat) : List Own := [(b 0 + 259, ⟨(.ref 200), some (b 1 + 259), .seq #[] (v 4), #[]⟩), (b 1 + 259, (dic [(e0 P (v 6) (iv 0 (v 7)))] (v 5)))]
noncomputable def a1 (f0 : Tok → Value) (P : Params) : Con := { n := 2, na := 1, nt := 0, need := 5, sel := [2], code b v := .call (.ref 144) ⟨[(R b 0), (s0 (v 1)), (f0 (v 2))], []⟩, pre := a1p f0 P, res b v t := .ok (.ret .none), post b v t := [⟨(.ref 200), some (b 1 + 259), .seq #[(R b 2)] (v 4 + 1), #[]⟩, ko (a1p f0 P b v) 1], new b v t := [(tup [(s0 (v 1)), (f0 (v 2))] 0)], keep := [1] }
noncomputable def a2p (f0 : Tok → Value) (x1 : Nat) (P : Params) (b v : Nat → Nat) : List Own := [(b 0 + 259, ⟨(.ref 200), some (b 2 + 259), .seq #[(R b 3)] (v 2), #[]⟩), (162, ⟨.none, none, .fields #[], #[]⟩), (b 2 + 259, (dic [(e0 P (v 5) (iv 0 (v 6)))] (v 4))), (b 3 + 259, (tup [(s0 (v 9)), (f0 (v 10))] (v 8)))]
noncomputable def a2 (f0 : Tok → Value) (x1 : Nat) (P : Params) : Con := { n := 4, na := 3, nt := 6, need := 15, sel := [4, 5, 6], code b v := .call (.ref 167) ⟨[(R b 0)], []⟩, pre := a2p f0 x1 P, res b v t := .ok (.ret (iv x1 (t 0))), post b v t := [ko (a2p f0 x1 P b v) 0, ⟨.none, none, .fields #[(iv 148 0), (iv 19 0), (R b 4)], #[]⟩, ko (a2p f0 x1 P b v) 2, ko (a2p f0 x1 P b v) 3], new b v t := [⟨(.type "code"), none, .fields #[(s2 (t 1)), (s3 (t 2)), (s4 (t 3)), (iv 148 0), (iv 1 0), (iv 0 0), (iv 0 0), (iv 51 0), (R b 5), (.bool true), (iv 181 0), (R b 6), .none, .none, .none, .none, (.int (Int.ofNat (t 4)) 0), (iv 148 0), (s4 (t 5))], #[]⟩, (tup [] 0), ⟨.none, none, .fields #[], #[]⟩], keep := [0, 2, 3] }
noncomputable def a3p (f0 : Tok → Value) (P : Params) (b v : Nat → Nat) : List Own := [(b 0 + 259, ⟨(.ref 200), some (b 1 + 259), .seq #[(.ref (v 5))] (v 4), #[]⟩), (b 1 + 259, (dic [(e0 P (v 7) (iv 0 (v 8)))] (v 6)))]
noncomputable def a3 (f0 : Tok → Value) (P : Params) : Con := { n := 2, na := 1, nt := 0, need := 5, sel := [2], code b v := .call (.ref 144) ⟨[(R b 0), (s0 (v 1)), (f0 (v 2))], []⟩, pre := a3p f0 P, res b v t := .ok (.ret .none), post b v t := [⟨(.ref 200), some (b 1 + 259), .seq #[(.ref (v 5)), (R b 2)] (v 4 + 1), #[]⟩, ko (a3p f0 P b v) 1], new b v t := [(tup [(s0 (v 1)), (f0 (v 2))] 0)], keep := [1] }
noncomputable def a4p (f0 : Tok → Value) (f1 : Tok → Value) (x2 : Nat) (P : Params) (b v : Nat → Nat) : List Own := [(b 0 + 259, ⟨(.ref 200), some (b 2 + 259), .seq #[(R b 3), (R b 4)] (v 2), #[]⟩), (162, ⟨.none, none, .fields #[(iv 148 0), (iv 19 0), (.ref (v 9))], #[]⟩), (b 2 + 259, (dic [(e0 P (v 11) (iv 0 (v 12)))] (v 10))), (b 3 + 259, (tup [(s0 (v 15)), (f0 (v 16))] (v 14))), (b 4 + 259, (tup [(s0 (v 18)), (f1 (v 19))] (v 17)))]
noncomputable def a4 (f0 : Tok → Value) (f1 : Tok → Value) (x2 : Nat) (P : Params) : Con := { n := 5, na := 0, nt := 1, need := 15, sel := [], code b v := .call (.ref 167) ⟨[(R b 0)], []⟩, pre := a4p f0 f1 x2 P, res b v t := .ok (.ret (iv x2 (t 0))), post b v t := [ko (a4p f0 f1 x2 P b v) 0, ko (a4p f0 f1 x2 P b v) 1, ko (a4p f0 f1 x2 P b v) 2, ko (a4p f0 f1 x2 P b v) 3, ko (a4p f0 f1 x2 P b v) 4], new b v t := [], keep := [0, 1, 2, 3, 4] }
noncomputable def a5p (P : Params) (b v : Nat → Nat) : List Own := [(b 0 + 259, ⟨(.ref 200), some (v 1), .seq #[(.ref (v 3)), (.ref (v 4))] (v 2), #[]⟩)]
noncomputable def a5 (P : Params) : Con := { n := 1, na := 0, nt := 1, need := 5, sel := [], code b v := .call (.ref 197) ⟨[(R b 0)], []⟩, pre := a5p P, res b v t := .ok (.ret (iv 2 (t 0))), post b v t := [ko (a5p P b v) 0], new b v t := [], keep := [0] }
noncomputable def a6p (P : Params) (b v : Nat → Nat) : List Own := [(b 0 + 259, ⟨(.ref 200), some (v 3), .seq #[(.ref (v 5)), (.ref (v 6))] (v 4), #[]⟩)]
noncomputable def a6 (P : Params) : Con := { n := 1, na := 1, nt := 0, need := 5, sel := [1], code b v := .call (.ref 152) ⟨[(R b 0), (iv 1 (v 1))], []⟩, pre := a6p P, res b v t := .ok (.ret (R b 1)), post b v t := [⟨(.ref 200), some (v 3), .seq #[(.ref (v 5))] (v 4 + 1), #[]⟩], new b v t := [(lis [(.ref (v 6))] 0)], keep := [] }
noncomputable def a7p (f0 : Tok → Value) (f1 : Tok → Value) (P : Params) (b v : Nat → Nat) : List Own := [(b 0 + 259, ⟨(.ref 200), some (v 1), .seq #[(R b 2)] (v 2), #[]⟩), (169, ⟨.none, none, .fields #[], #[]⟩), (b 2 + 259, (tup [(s0 (v 5)), (f0 (v 6))] (v 4)))]
noncomputable def a7 (f0 : Tok → Value) (f1 : Tok → Value) (P : Params) : Con := { n := 3, na := 3, nt := 6, need := 20, sel := [3, 4, 5], code b v := .call (.ref 174) ⟨[(R b 0)], []⟩, pre := a7p f0 f1 P, res b v t := .ok (.ret (f1 (t 0))), post b v t := [ko (a7p f0 f1 P b v) 0, ⟨.none, none, .fields #[(iv 151 0), (iv 32 0), (R b 3)], #[]⟩, ko (a7p f0 f1 P b v) 2], new b v t := [⟨(.type "code"), none, .fields #[(s2 (t 1)), (s5 (t 2)), (s4 (t 3)), (iv 151 0), (iv 1 0), (iv 0 0), (iv 0 0), (iv 51 0), (R b 4), (.bool true), (iv 181 0), (R b 5), .none, .none, .none, .none, (.int (Int.ofNat (t 4)) 0), (iv 151 0), (s4 (t 5))], #[]⟩, (tup [] 0), ⟨.none, none, .fields #[], #[]⟩], keep := [0, 2] }
noncomputable def a8p (P : Params) (b v : Nat → Nat) : List Own := [(b 0 + 259, ⟨(.ref 200), some (b 2 + 259), .seq #[(.ref (v 4))] (v 3), #[]⟩), (b 1 + 259, (lis [(.ref (v 6))] (v 5))), (b 2 + 259, (dic [(e0 P (v 8) (iv 0 (v 9)))] (v 7)))]
noncomputable def a8 (P : Params) : Con := { n := 3, na := 0, nt := 1, need := 5, sel := [], code b v := .call (.ref 182) ⟨[(R b 0), (R b 1)], []⟩, pre := a8p P, res b v t := .ok (.ret .none), post b v t := [⟨(.ref 200), some (b 2 + 259), .seq #[(.ref (v 6))] (v 3), #[]⟩, ko (a8p P b v) 1, (dic [(e0 P (v 8) (iv 0 (t 0)))] (v 7))], new b v t := [], keep := [1] }
noncomputable def a9p (f0 : Tok → Value) (f1 : Tok → Value) (P : Params) (b v : Nat → Nat) : List Own := [(b 0 + 259, ⟨(.ref 200), some (v 1), .seq #[(R b 2)] (v 2), #[]⟩), (169, ⟨.none, none, .fields #[(iv 151 0), (iv 32 0), (.ref (v 8))], #[]⟩), (b 2 + 259, (tup [(s0 (v 10)), (f0 (v 11))] (v 9)))]
noncomputable def a9 (f0 : Tok → Value) (f1 : Tok → Value) (P : Params) : Con := { n := 3, na := 0, nt := 1, need := 20, sel := [], code b v := .call (.ref 174) ⟨[(R b 0)], []⟩, pre := a9p f0 f1 P, res b v t := .ok (.ret (f1 (t 0))), post b v t := [ko (a9p f0 f1 P b v) 0, ko (a9p f0 f1 P b v) 1, ko (a9p f0 f1 P b v) 2], new b v t := [], keep := [0, 1, 2] }
noncomputable def a10p (P : Params) (b v : Nat → Nat) : List Own := [(b 0 + 259, ⟨(.ref 200), some (v 1), .seq #[(.ref (v 3))] (v 2), #[]⟩)]
noncomputable def a10 (P : Params) : Con := { n := 1, na := 0, nt := 1, need := 5, sel := [], code b v := .call (.ref 197) ⟨[(R b 0)], []⟩, pre := a10p P, res b v t := .ok (.ret (iv 1 (t 0))), post b v t := [ko (a10p P b v) 0], new b v t := [], keep := [0] }
noncomputable def a11p (f0 : Tok → Value) (x1 : Nat) (P : Params) (b v : Nat → Nat) : List Own := [(b 0 + 259, ⟨(.ref 200), some (b 2 + 259), .seq #[(R b 3)] (v 2), #[]⟩), (162, ⟨.none, none, .fields #[(iv 148 0), (iv 19 0), (.ref (v 8))], #[]⟩), (b 2 + 259, (dic [(e0 P (v 10) (iv 0 (v 11)))] (v 9))), (b 3 + 259, (tup [(s0 (v 14)), (f0 (v 15))] (v 13)))]
noncomputable def a11 (f0 : Tok → Value) (x1 : Nat) (P : Params) : Con := { n := 4, na := 0, nt := 1, need := 15, sel := [], code b v := .call (.ref 167) ⟨[(R b 0)], []⟩, pre := a11p f0 x1 P, res b v t := .ok (.ret (iv x1 (t 0))), post b v t := [ko (a11p f0 x1 P b v) 0, ko (a11p f0 x1 P b v) 1, ko (a11p f0 x1 P b v) 2, ko (a11p f0 x1 P b v) 3], new b v t := [], keep := [0, 1, 2, 3] }
noncomputable def a12p (P : Params) (b v : Nat → Nat) : List Own := [(b 0 + 259, ⟨(.ref 200), some (b 1 + 259), .seq #[(.ref (v 3))] (v 2), #[]⟩), (b 1 + 259, (dic [(e0 P (v 5) (iv 0 (v 6)))] (v 4)))]
noncomputable def a12 (P : Params) : Con := { n := 2, na := 0, nt := 1, need := 5, sel := [], code b v := .call (.ref 182) ⟨[(R b 0)], []⟩, pre := a12p P, res b v t := .ok (.ret .none), post b v t := [⟨(.ref 200), some (b 1 + 259), .seq #[] (v 2 + 1), #[]⟩, (dic [(e0 P (v 5) (iv 0 (t 0)))] (v 4))], new b v t := [], keep := [] }
noncomputable def a13p (f0 : Tok → Value) (P : Params) (b v : Nat → Nat) : List Own := [(b 0 + 259, ⟨(.ref 200), some (b 1 + 259), .seq #[(.ref (v 5)), (.ref (v 6))] (v 4), #[]⟩), (b 1 + 259, (dic [(e0 P (v 8) (iv 0 (v 9)))] (v 7)))]
noncomputable def a13 (f0 : Tok → Value) (P : Params) : Con := { n := 2, na := 1, nt := 0, need := 5, sel := [2], code b v := .call (.ref 144) ⟨[(R b 0), (s0 (v 1)), (f0 (v 2))], []⟩, pre := a13p f0 P, res b v t := .ok (.ret .none), post b v t := [⟨(.ref 200), some (b 1 + 259), .seq #[(.ref (v 5)), (.ref (v 6)), (R b 2)] (v 4 + 1), #[]⟩, ko (a13p f0 P b v) 1], new b v t := [(tup [(s0 (v 1)), (f0 (v 2))] 0)], keep := [1] }
noncomputable def a14p (f0 : Tok → Value) (x1 : Nat) (P : Params) (b v : Nat → Nat) : List Own := [(b 0 + 259, ⟨(.ref 200), some (b 2 + 259), .seq #[(R b 3), (R b 4), (R b 5)] (v 2), #[]⟩), (162, ⟨.none, none, .fields #[(iv 148 0), (iv 19 0), (.ref (v 10))], #[]⟩), (b 2 + 259, (dic [(e0 P (v 12) (iv 0 (v 13)))] (v 11))), (b 3 + 259, (tup [(s0 (v 16)), (s7 (v 17))] (v 15))), (b 4 + 259, (tup [(s0 (v 19)), (s7 (v 20))] (v 18))), (b 5 + 259, (tup [(s0 (v 22)), (f0 (v 23))] (v 21)))]
noncomputable def a14 (f0 : Tok → Value) (x1 : Nat) (P : Params) : Con := { n := 6, na := 0, nt := 1, need := 15, sel := [], code b v := .call (.ref 167) ⟨[(R b 0)], []⟩, pre := a14p f0 x1 P, res b v t := .ok (.ret (iv x1 (t 0))), post b v t := [ko (a14p f0 x1 P b v) 0, ko (a14p f0 x1 P b v) 1, ko (a14p f0 x1 P b v) 2, ko (a14p f0 x1 P b v) 3, ko (a14p f0 x1 P b v) 4, ko (a14p f0 x1 P b v) 5], new b v t := [], keep := [0, 1, 2, 3, 4, 5] }
noncomputable def a15p (P : Params) (b v : Nat → Nat) : List Own := [(b 0 + 259, ⟨(.ref 200), some (v 1), .seq #[(.ref (v 3)), (.ref (v 4)), (.ref (v 5))] (v 2), #[]⟩)]
noncomputable def a15 (P : Params) : Con := { n := 1, na := 0, nt := 1, need := 5, sel := [], code b v := .call (.ref 197) ⟨[(R b 0)], []⟩, pre := a15p P, res b v t := .ok (.ret (iv 3 (t 0))), post b v t := [ko (a15p P b v) 0], new b v t := [], keep := [0] }
noncomputable def a16p (P : Params) (b v : Nat → Nat) : List Own := [(b 0 + 259, ⟨(.ref 200), some (v 3), .seq #[(.ref (v 5)), (.ref (v 6)), (.ref (v 7))] (v 4), #[]⟩)]
noncomputable def a16 (P : Params) : Con := { n := 1, na := 1, nt := 0, need := 5, sel := [1], code b v := .call (.ref 152) ⟨[(R b 0), (iv 2 (v 1))], []⟩, pre := a16p P, res b v t := .ok (.ret (R b 1)), post b v t := [⟨(.ref 200), some (v 3), .seq #[(.ref (v 5)), (.ref (v 6))] (v 4 + 1), #[]⟩], new b v t := [(lis [(.ref (v 7))] 0)], keep := [] }
noncomputable def a17p (P : Params) (b v : Nat → Nat) : List Own := [(b 0 + 259, ⟨(.ref 200), some (v 1), .seq #[(R b 2), (R b 3)] (v 2), #[]⟩), (169, ⟨.none, none, .fields #[], #[]⟩), (b 2 + 259, (tup [(s0 (v 6)), (s7 (v 7))] (v 5))), (b 3 + 259, (tup [(s0 (v 9)), (s7 (v 10))] (v 8)))]
noncomputable def a17 (P : Params) : Con := { n := 4, na := 3, nt := 6, need := 20, sel := [4, 5, 6], code b v := .call (.ref 174) ⟨[(R b 0)], []⟩, pre := a17p P, res b v t := .ok (.ret (s9 (t 0))), post b v t := [ko (a17p P b v) 0, ⟨.none, none, .fields #[(iv 151 0), (iv 32 0), (R b 4)], #[]⟩, ko (a17p P b v) 2, ko (a17p P b v) 3], new b v t := [⟨(.type "code"), none, .fields #[(s2 (t 1)), (s5 (t 2)), (s4 (t 3)), (iv 151 0), (iv 1 0), (iv 0 0), (iv 0 0), (iv 51 0), (R b 5), (.bool true), (iv 181 0), (R b 6), .none, .none, .none, .none, (.int (Int.ofNat (t 4)) 0), (iv 151 0), (s4 (t 5))], #[]⟩, (tup [] 0), ⟨.none, none, .fields #[], #[]⟩], keep := [0, 2, 3] }
noncomputable def a18p (P : Params) (b v : Nat → Nat) : List Own := [(b 0 + 259, ⟨(.ref 200), some (b 2 + 259), .seq #[(.ref (v 4)), (.ref (v 5))] (v 3), #[]⟩), (b 1 + 259, (lis [(.ref (v 7))] (v 6))), (b 2 + 259, (dic [(e0 P (v 9) (iv 0 (v 10)))] (v 8)))]
noncomputable def a18 (P : Params) : Con := { n := 3, na := 0, nt := 1, need := 5, sel := [], code b v := .call (.ref 182) ⟨[(R b 0), (R b 1)], []⟩, pre := a18p P, res b v t := .ok (.ret .none), post b v t := [⟨(.ref 200), some (b 2 + 259), .seq #[(.ref (v 7))] (v 3 + 1), #[]⟩, ko (a18p P b v) 1, (dic [(e0 P (v 9) (iv 0 (t 0)))] (v 8))], new b v t := [], keep := [1] }
noncomputable def a19p (P : Params) (b v : Nat → Nat) : List Own := [(b 0 + 259, ⟨(.ref 200), some (v 1), .seq #[(R b 2), (R b 3)] (v 2), #[]⟩), (169, ⟨.none, none, .fields #[(iv 151 0), (iv 32 0), (.ref (v 9))], #[]⟩), (b 2 + 259, (tup [(s0 (v 11)), (s7 (v 12))] (v 10))), (b 3 + 259, (tup [(s0 (v 14)), (s7 (v 15))] (v 13)))]
noncomputable def a19 (P : Params) : Con := { n := 4, na := 0, nt := 1, need := 20, sel := [], code b v := .call (.ref 174) ⟨[(R b 0)], []⟩, pre := a19p P, res b v t := .ok (.ret (s9 (t 0))), post b v t := [ko (a19p P b v) 0, ko (a19p P b v) 1, ko (a19p P b v) 2, ko (a19p P b v) 3], new b v t := [], keep := [0, 1, 2, 3] }
noncomputable def a20p (P : Params) (b v : Nat → Nat) : List Own := [(b 0 + 259, ⟨(.ref 200), some (b 1 + 259), .seq #[(.ref (v 3)), (.ref (v 4))] (v 2), #[]⟩), (b 1 + 259, (dic [(e0 P (v 6) (iv 0 (v 7)))] (v 5)))]
noncomputable def a20 (P : Params) : Con := { n := 2, na := 0, nt := 1, need := 5, sel := [], code b v := .call (.ref 182) ⟨[(R b 0)], []⟩, pre := a20p P, res b v t := .ok (.ret .none), post b v t := [⟨(.ref 200), some (b 1 + 259), .seq #[] (v 2 + 1), #[]⟩, (dic [(e0 P (v 6) (iv 0 (t 0)))] (v 5))], new b v t := [], keep := [] }
noncomputable def a21p (P : Params) (b v : Nat → Nat) : List Own := [(b 0 + 259, ⟨(.ref 116), some (b 1 + 259), .plain, #[]⟩), (b 1 + 259, (dic [] (v 8)))]
noncomputable def a21 (P : Params) : Con := { n := 2, na := 3, nt := 8, need := 15, sel := [2, 3, 4], code b v := .call (.ref 57) ⟨[(R b 0), (iv 0 (v 1)), (iv 4 (v 3)), (s0 (v 5)), (s0 (v 6))], []⟩, pre := a21p P, res b v t := .ok (.ret .none), post b v t := [ko (a21p P b v) 0, (dic [(e1 P (t 0) (iv 4 (v 3))), (e2 P (t 1) (s0 (v 5))), (e3 P (t 2) (iv 1 (t 3))), (e4 P (t 4) (s0 (v 6))), (e5 P (t 5) (R b 2)), (e6 P (t 6) (R b 3))] (v 8 + 6))], new b v t := [(lis [] 0), ⟨(.ref 200), some (b 4 + 259), .seq #[] 0, #[]⟩, (dic [(e0 P (t 7) (iv 0 (v 1)))] 1)], keep := [0] }
noncomputable def a22p (f0 : Tok → Value) (P : Params) (b v : Nat → Nat) : List Own := [(b 0 + 259, ⟨(.ref 116), some (b 1 + 259), .plain, #[]⟩), (b 1 + 259, (dic [(e1 P (v 5) (iv 4 (v 6))), (e2 P (v 8) (s0 (v 9))), (e3 P (v 10) (iv 1 (v 11))), (e4 P (v 13) (s0 (v 14))), (e5 P (v 15) (.ref (v 16))), (e6 P (v 17) (R b 2))] (v 4))), (b 2 + 259, ⟨(.ref 200), some (b 3 + 259), .seq #[] (v 20), #[]⟩), (b 3 + 259, (dic [(e0 P (v 22) (iv 0 (v 23)))] (v 21))), (162, ⟨.none, none, .fields #[], #[]⟩)]
noncomputable def a22 (f0 : Tok → Value) (P : Params) : Con := { n := 5, na := 4, nt := 5, need := 25, sel := [5, 6, 7, 8], code b v := .call (.ref 113) ⟨[(R b 0), (s0 (v 1)), (f0 (v 2))], []⟩, pre := a22p f0 P, res b v t := .ok (.ret .none), post b v t := [ko (a22p f0 P b v) 0, ko (a22p f0 P b v) 1, ⟨(.ref 200), some (b 3 + 259), .seq #[(R b 5)] (v 20 + 1), #[]⟩, ko (a22p f0 P b v) 3, ⟨.none, none, .fields #[(iv 148 0), (iv 19 0), (R b 6)], #[]⟩], new b v t := [(tup [(s0 (v 1)), (f0 (v 2))] 0), ⟨(.type "code"), none, .fields #[(s2 (t 0)), (s3 (t 1)), (s4 (t 2)), (iv 148 0), (iv 1 0), (iv 0 0), (iv 0 0), (iv 51 0), (R b 7), (.bool true), (iv 181 0), (R b 8), .none, .none, .none, .none, (.int (Int.ofNat (t 3)) 0), (iv 148 0), (s4 (t 4))], #[]⟩, (tup [] 0), ⟨.none, none, .fields #[], #[]⟩], keep := [0, 1, 3] }
noncomputable def a23p (f0 : Tok → Value) (f1 : Tok → Value) (f2 : Tok → Value) (P : Params) (b v : Nat → Nat) : List Own := [(b 0 + 259, ⟨(.ref 116), some (b 1 + 259), .plain, #[]⟩), (b 1 + 259, (dic [(e1 P (v 5) (iv 4 (v 6))), (e2 P (v 8) (s0 (v 9))), (e3 P (v 10) (iv 1 (v 11))), (e4 P (v 13) (s0 (v 14))), (e5 P (v 15) (R b 6)), (e6 P (v 17) (R b 2))] (v 4))), (b 2 + 259, ⟨(.ref 200), some (b 3 + 259), .seq #[(R b 5)] (v 20), #[]⟩), (b 3 + 259, (dic [(e0 P (v 23) (iv 0 (v 24)))] (v 22))), (162, ⟨.none, none, .fields #[(iv 148 0), (iv 19 0), (.ref (v 30))], #[]⟩), (b 5 + 259, (tup [(s0 (v 32)), (f0 (v 33))] (v 31))), (b 6 + 259, (lis [] (v 34))), (169, ⟨.none, none, .fields #[], #[]⟩)]
noncomputable def a23 (f0 : Tok → Value) (f1 : Tok → Value) (f2 : Tok → Value) (P : Params) : Con := { n := 8, na := 4, nt := 7, need := 35, sel := [8, 9, 10, 11], code b v := .call (.ref 113) ⟨[(R b 0), (s0 (v 1)), (f1 (v 2))], []⟩, pre := a23p f0 f1 f2 P, res b v t := .ok (.ret .none), post b v t := [ko (a23p f0 f1 f2 P b v) 0, ko (a23p f0 f1 f2 P b v) 1, ⟨(.ref 200), some (b 3 + 259), .seq #[(R b 8)] (v 20 + 2), #[]⟩, (dic [(e0 P (v 23) (iv 0 (t 0)))] (v 22)), ko (a23p f0 f1 f2 P b v) 4, ko (a23p f0 f1 f2 P b v) 5, (lis [(f2 (t 1))] (v 34 + 1)), ⟨.none, none, .fields #[(iv 151 0), (iv 32 0), (R b 9)], #[]⟩], new b v t := [(tup [(s0 (v 1)), (f1 (v 2))] 0), ⟨(.type "code"), none, .fields #[(s2 (t 2)), (s5 (t 3)), (s4 (t 4)), (iv 151 0), (iv 1 0), (iv 0 0), (iv 0 0), (iv 51 0), (R b 10), (.bool true), (iv 181 0), (R b 11), .none, .none, .none, .none, (.int (Int.ofNat (t 5)) 0), (iv 151 0), (s4 (t 6))], #[]⟩, (tup [] 0), ⟨.none, none, .fields #[], #[]⟩], keep := [0, 1, 4, 5] }
noncomputable def a24p (f0 : Tok → Value) (f1 : Tok → Value) (f2 : Tok → Value) (f3 : Tok → Value) (P : Params) (b v : Nat → Nat) : List Own := [(b 0 + 259, ⟨(.ref 116), some (b 1 + 259), .plain, #[]⟩), (b 1 + 259, (dic [(e1 P (v 5) (iv 4 (v 6))), (e2 P (v 8) (s0 (v 9))), (e3 P (v 10) (iv 1 (v 11))), (e4 P (v 13) (s0 (v 14))), (e5 P (v 15) (R b 6)), (e6 P (v 17) (R b 2))] (v 4))), (b 2 + 259, ⟨(.ref 200), some (b 3 + 259), .seq #[(R b 5)] (v 20), #[]⟩), (b 3 + 259, (dic [(e0 P (v 23) (iv 0 (v 24)))] (v 22))), (162, ⟨.none, none, .fields #[(iv 148 0), (iv 19 0), (.ref (v 30))], #[]⟩), (b 5 + 259, (tup [(s0 (v 32)), (f0 (v 33))] (v 31))), (b 6 + 259, (lis [(f1 (v 35))] (v 34))), (169, ⟨.none, none, .fields #[(iv 151 0), (iv 32 0), (.ref (v 40))], #[]⟩)]
noncomputable def a24 (f0 : Tok → Value) (f1 : Tok → Value) (f2 : Tok → Value) (f3 : Tok → Value) (P : Params) : Con := { n := 8, na := 1, nt := 2, need := 35, sel := [8], code b v := .call (.ref 113) ⟨[(R b 0), (s0 (v 1)), (f2 (v 2))], []⟩, pre := a24p f0 f1 f2 f3 P, res b v t := .ok (.ret .none), post b v t := [ko (a24p f0 f1 f2 f3 P b v) 0, ko (a24p f0 f1 f2 f3 P b v) 1, ⟨(.ref 200), some (b 3 + 259), .seq #[(R b 8)] (v 20 + 2), #[]⟩, (dic [(e0 P (v 23) (iv 0 (t 0)))] (v 22)), ko (a24p f0 f1 f2 f3 P b v) 4, ko (a24p f0 f1 f2 f3 P b v) 5, (lis [(f1 (v 35)), (f3 (t 1))] (v 34 + 1)), ko (a24p f0 f1 f2 f3 P b v) 7], new b v t := [(tup [(s0 (v 1)), (f2 (v 2))] 0)], keep := [0, 1, 4, 5, 7] }
noncomputable def a25p (f0 : Tok → Value) (f1 : Tok → Value) (f2 : Tok → Value) (f3 : Tok → Value) (f4 : Tok → Value) (P : Params) (b v : Nat → Nat) : List Own := [(b 0 + 259, ⟨(.ref 116), some (b 1 + 259), .plain, #[]⟩), (b 1 + 259, (dic [(e1 P (v 5) (iv 4 (v 6))), (e2 P (v 8) (s0 (v 9))), (e3 P (v 10) (iv 1 (v 11))), (e4 P (v 13) (s0 (v 14))), (e5 P (v 15) (R b 6)), (e6 P (v 17) (R b 2))] (v 4))), (b 2 + 259, ⟨(.ref 200), some (b 3 + 259), .seq #[(R b 5)] (v 20), #[]⟩), (b 3 + 259, (dic [(e0 P (v 23) (iv 0 (v 24)))] (v 22))), (162, ⟨.none, none, .fields #[(iv 148 0), (iv 19 0), (.ref (v 30))], #[]⟩), (b 5 + 259, (tup [(s0 (v 32)), (f0 (v 33))] (v 31))), (b 6 + 259, (lis [(f1 (v 35)), (f2 (v 36))] (v 34))), (169, ⟨.none, none, .fields #[(iv 151 0), (iv 32 0), (.ref (v 41))], #[]⟩)]
noncomputable def a25 (f0 : Tok → Value) (f1 : Tok → Value) (f2 : Tok → Value) (f3 : Tok → Value) (f4 : Tok → Value) (P : Params) : Con := { n := 8, na := 1, nt := 2, need := 35, sel := [8], code b v := .call (.ref 113) ⟨[(R b 0), (s0 (v 1)), (f3 (v 2))], []⟩, pre := a25p f0 f1 f2 f3 f4 P, res b v t := .ok (.ret .none), post b v t := [ko (a25p f0 f1 f2 f3 f4 P b v) 0, ko (a25p f0 f1 f2 f3 f4 P b v) 1, ⟨(.ref 200), some (b 3 + 259), .seq #[(R b 8)] (v 20 + 2), #[]⟩, (dic [(e0 P (v 23) (iv 0 (t 0)))] (v 22)), ko (a25p f0 f1 f2 f3 f4 P b v) 4, ko (a25p f0 f1 f2 f3 f4 P b v) 5, (lis [(f1 (v 35)), (f2 (v 36)), (f4 (t 1))] (v 34 + 1)), ko (a25p f0 f1 f2 f3 f4 P b v) 7], new b v t := [(tup [(s0 (v 1)), (f3 (v 2))] 0)], keep := [0, 1, 4, 5, 7] }
noncomputable def a26p (f0 : Tok → Value) (f1 : Tok → Value) (f2 : Tok → Value) (f3 : Tok → Value) (f4 : Tok → Value) (f5 : Tok → Value) (P : Params) (b v : Nat → Nat) : List Own := [(b 0 + 259, ⟨(.ref 116), some (b 1 + 259), .plain, #[]⟩), (b 1 + 259, (dic [(e1 P (v 5) (iv 4 (v 6))), (e2 P (v 8) (s0 (v 9))), (e3 P (v 10) (iv 1 (v 11))), (e4 P (v 13) (s0 (v 14))), (e5 P (v 15) (R b 6)), (e6 P (v 17) (R b 2))] (v 4))), (b 2 + 259, ⟨(.ref 200), some (b 3 + 259), .seq #[(R b 5)] (v 20), #[]⟩), (b 3 + 259, (dic [(e0 P (v 23) (iv 0 (v 24)))] (v 22))), (162, ⟨.none, none, .fields #[(iv 148 0), (iv 19 0), (.ref (v 30))], #[]⟩), (b 5 + 259, (tup [(s0 (v 32)), (f0 (v 33))] (v 31))), (b 6 + 259, (lis [(f1 (v 35)), (f2 (v 36)), (f3 (v 37))] (v 34))), (169, ⟨.none, none, .fields #[(iv 151 0), (iv 32 0), (.ref (v 42))], #[]⟩)]
noncomputable def a26 (f0 : Tok → Value) (f1 : Tok → Value) (f2 : Tok → Value) (f3 : Tok → Value) (f4 : Tok → Value) (f5 : Tok → Value) (P : Params) : Con := { n := 8, na := 1, nt := 2, need := 35, sel := [8], code b v := .call (.ref 113) ⟨[(R b 0), (s0 (v 1)), (f4 (v 2))], []⟩, pre := a26p f0 f1 f2 f3 f4 f5 P, res b v t := .ok (.ret .none), post b v t := [ko (a26p f0 f1 f2 f3 f4 f5 P b v) 0, ko (a26p f0 f1 f2 f3 f4 f5 P b v) 1, ⟨(.ref 200), some (b 3 + 259), .seq #[(R b 8)] (v 20 + 2), #[]⟩, (dic [(e0 P (v 23) (iv 0 (t 0)))] (v 22)), ko (a26p f0 f1 f2 f3 f4 f5 P b v) 4, ko (a26p f0 f1 f2 f3 f4 f5 P b v) 5, (lis [(f1 (v 35)), (f2 (v 36)), (f3 (v 37)), (f5 (t 1))] (v 34 + 1)), ko (a26p f0 f1 f2 f3 f4 f5 P b v) 7], new b v t := [(tup [(s0 (v 1)), (f4 (v 2))] 0)], keep := [0, 1, 4, 5, 7] }
noncomputable def a27p (P : Params) (b v : Nat → Nat) : List Own := [(b 0 + 259, ⟨(.ref 200), some (b 1 + 259), .seq #[(.ref (v 3))] (v 2), #[]⟩), (b 1 + 259, (dic [(e0 P (v 5) (iv 0 (v 6)))] (v 4)))]
noncomputable def a27 (P : Params) : Con := { n := 2, na := 0, nt := 0, need := 10, sel := [], code b v := .call (.ref 160) ⟨[(R b 0)], []⟩, pre := a27p P, res b v t := .ok (.ret (.ref (v 3))), post b v t := [⟨(.ref 200), some (b 1 + 259), .seq #[] (v 2 + 1), #[]⟩, ko (a27p P b v) 1], new b v t := [], keep := [1] }
noncomputable def a28p (f0 : Tok → Value) (P : Params) (b v : Nat → Nat) : List Own := [(b 0 + 259, ⟨(.ref 200), some (b 1 + 259), .seq #[(R b 3)] (v 2), #[]⟩), (b 1 + 259, (dic [(e0 P (v 5) (iv 0 (v 6)))] (v 4))), (162, ⟨.none, none, .fields #[(iv 148 0), (iv 19 0), (.ref (v 12))], #[]⟩), (b 3 + 259, (tup [(s0 (v 14)), (f0 (v 15))] (v 13))), (169, ⟨.none, none, .fields #[(iv 151 0), (iv 32 0), (.ref (v 20))], #[]⟩)]
noncomputable def a28 (f0 : Tok → Value) (P : Params) : Con := { n := 5, na := 0, nt := 0, need := 35, sel := [], code b v := .call (.ref 189) ⟨[(R b 0)], []⟩, pre := a28p f0 P, res b v t := .ok (.ret (.bool false)), post b v t := [ko (a28p f0 P b v) 0, ko (a28p f0 P b v) 1, ko (a28p f0 P b v) 2, ko (a28p f0 P b v) 3, ko (a28p f0 P b v) 4], new b v t := [], keep := [0, 1, 2, 3, 4] }
noncomputable def a29p (P : Params) (b v : Nat → Nat) : List Own := [(b 0 + 259, ⟨(.ref 116), some (b 1 + 259), .plain, #[]⟩), (b 1 + 259, (dic [(e1 P (v 5) (iv 4 (v 6))), (e2 P (v 8) (s0 (v 9))), (e3 P (v 10) (iv 1 (v 11))), (e4 P (v 13) (s0 (v 14))), (e5 P (v 15) (.ref (v 16))), (e6 P (v 17) (R b 2))] (v 4))), (b 2 + 259, ⟨(.ref 200), some (b 3 + 259), .seq #[(R b 5)] (v 20), #[]⟩), (b 3 + 259, (dic [(e0 P (v 23) (iv 0 (v 24)))] (v 22))), (162, ⟨.none, none, .fields #[(iv 148 0), (iv 19 0), (.ref (v 30))], #[]⟩), (b 5 + 259, (tup [(s0 (v 32)), (s7 (v 33))] (v 31)))]
noncomputable def a29 (P : Params) : Con := { n := 6, na := 1, nt := 0, need := 25, sel := [6], code b v := .call (.ref 113) ⟨[(R b 0), (s0 (v 1)), (s7 (v 2))], []⟩, pre := a29p P, res b v t := .ok (.ret .none), post b v t := [ko (a29p P b v) 0, ko (a29p P b v) 1, ⟨(.ref 200), some (b 3 + 259), .seq #[(R b 5), (R b 6)] (v 20 + 1), #[]⟩, ko (a29p P b v) 3, ko (a29p P b v) 4, ko (a29p P b v) 5], new b v t := [(tup [(s0 (v 1)), (s7 (v 2))] 0)], keep := [0, 1, 3, 4, 5] }
noncomputable def a30p (f0 : Tok → Value) (P : Params) (b v : Nat → Nat) : List Own := [(b 0 + 259, ⟨(.ref 116), some (b 1 + 259), .plain, #[]⟩), (b 1 + 259, (dic [(e1 P (v 5) (iv 4 (v 6))), (e2 P (v 8) (s0 (v 9))), (e3 P (v 10) (iv 1 (v 11))), (e4 P (v 13) (s0 (v 14))), (e5 P (v 15) (R b 7)), (e6 P (v 17) (R b 2))] (v 4))), (b 2 + 259, ⟨(.ref 200), some (b 3 + 259), .seq #[(R b 5), (R b 6)] (v 20), #[]⟩), (b 3 + 259, (dic [(e0 P (v 24) (iv 0 (v 25)))] (v 23))), (162, ⟨.none, none, .fields #[(iv 148 0), (iv 19 0), (.ref (v 31))], #[]⟩), (b 5 + 259, (tup [(s0 (v 33)), (s7 (v 34))] (v 32))), (b 6 + 259, (tup [(s0 (v 36)), (s7 (v 37))] (v 35))), (b 7 + 259, (lis [] (v 38))), (169, ⟨.none, none, .fields #[], #[]⟩)]
noncomputable def a30 (f0 : Tok → Value) (P : Params) : Con := { n := 9, na := 4, nt := 7, need := 35, sel := [9, 10, 11, 12], code b v := .call (.ref 113) ⟨[(R b 0), (s0 (v 1)), (f0 (v 2))], []⟩, pre := a30p f0 P, res b v t := .ok (.ret .none), post b v t := [ko (a30p f0 P b v) 0, ko (a30p f0 P b v) 1, ⟨(.ref 200), some (b 3 + 259), .seq #[(R b 9)] (v 20 + 3), #[]⟩, (dic [(e0 P (v 24) (iv 0 (t 0)))] (v 23)), ko (a30p f0 P b v) 4, ko (a30p f0 P b v) 5, ko (a30p f0 P b v) 6, (lis [(s9 (t 1))] (v 38 + 1)), ⟨.none, none, .fields #[(iv 151 0), (iv 32 0), (R b 10)], #[]⟩], new b v t := [(tup [(s0 (v 1)), (f0 (v 2))] 0), ⟨(.type "code"), none, .fields #[(s2 (t 2)), (s5 (t 3)), (s4 (t 4)), (iv 151 0), (iv 1 0), (iv 0 0), (iv 0 0), (iv 51 0), (R b 11), (.bool true), (iv 181 0), (R b 12), .none, .none, .none, .none, (.int (Int.ofNat (t 5)) 0), (iv 151 0), (s4 (t 6))], #[]⟩, (tup [] 0), ⟨.none, none, .fields #[], #[]⟩], keep := [0, 1, 4, 5, 6] }
noncomputable def a31p (f0 : Tok → Value) (f1 : Tok → Value) (P : Params) (b v : Nat → Nat) : List Own := [(b 0 + 259, ⟨(.ref 116), some (b 1 + 259), .plain, #[]⟩), (b 1 + 259, (dic [(e1 P (v 5) (iv 4 (v 6))), (e2 P (v 8) (s0 (v 9))), (e3 P (v 10) (iv 1 (v 11))), (e4 P (v 13) (s0 (v 14))), (e5 P (v 15) (R b 7)), (e6 P (v 17) (R b 2))] (v 4))), (b 2 + 259, ⟨(.ref 200), some (b 3 + 259), .seq #[(R b 5), (R b 6)] (v 20), #[]⟩), (b 3 + 259, (dic [(e0 P (v 24) (iv 0 (v 25)))] (v 23))), (162, ⟨.none, none, .fields #[(iv 148 0), (iv 19 0), (.ref (v 31))], #[]⟩), (b 5 + 259, (tup [(s0 (v 33)), (s7 (v 34))] (v 32))), (b 6 + 259, (tup [(s0 (v 36)), (s7 (v 37))] (v 35))), (b 7 + 259, (lis [(f0 (v 39))] (v 38))), (169, ⟨.none, none, .fields #[(iv 151 0), (iv 32 0), (.ref (v 44))], #[]⟩)]
noncomputable def a31 (f0 : Tok → Value) (f1 : Tok → Value) (P : Params) : Con := { n := 9, na := 1, nt := 2, need := 35, sel := [9], code b v := .call (.ref 113) ⟨[(R b 0), (s0 (v 1)), (f1 (v 2))], []⟩, pre := a31p f0 f1 P, res b v t := .ok (.ret .none), post b v t := [ko (a31p f0 f1 P b v) 0, ko (a31p f0 f1 P b v) 1, ⟨(.ref 200), some (b 3 + 259), .seq #[(R b 9)] (v 20 + 3), #[]⟩, (dic [(e0 P (v 24) (iv 0 (t 0)))] (v 23)), ko (a31p f0 f1 P b v) 4, ko (a31p f0 f1 P b v) 5, ko (a31p f0 f1 P b v) 6, (lis [(f0 (v 39)), (s9 (t 1))] (v 38 + 1)), ko (a31p f0 f1 P b v) 8], new b v t := [(tup [(s0 (v 1)), (f1 (v 2))] 0)], keep := [0, 1, 4, 5, 6, 8] }
noncomputable def a32p (f0 : Tok → Value) (f1 : Tok → Value) (P : Params) (b v : Nat → Nat) : List Own := [(b 0 + 259, ⟨(.ref 116), some (b 1 + 259), .plain, #[]⟩), (b 1 + 259, (dic [(e1 P (v 5) (iv 4 (v 6))), (e2 P (v 8) (s0 (v 9))), (e3 P (v 10) (iv 1 (v 11))), (e4 P (v 13) (s0 (v 14))), (e5 P (v 15) (R b 7)), (e6 P (v 17) (R b 2))] (v 4))), (b 2 + 259, ⟨(.ref 200), some (b 3 + 259), .seq #[(R b 5), (R b 6)] (v 20), #[]⟩), (b 3 + 259, (dic [(e0 P (v 24) (iv 0 (v 25)))] (v 23))), (162, ⟨.none, none, .fields #[(iv 148 0), (iv 19 0), (.ref (v 31))], #[]⟩), (b 5 + 259, (tup [(s0 (v 33)), (s7 (v 34))] (v 32))), (b 6 + 259, (tup [(s0 (v 36)), (s7 (v 37))] (v 35))), (b 7 + 259, (lis [(f0 (v 39)), (s6 (v 40))] (v 38))), (169, ⟨.none, none, .fields #[(iv 151 0), (iv 32 0), (.ref (v 45))], #[]⟩)]
noncomputable def a32 (f0 : Tok → Value) (f1 : Tok → Value) (P : Params) : Con := { n := 9, na := 1, nt := 2, need := 35, sel := [9], code b v := .call (.ref 113) ⟨[(R b 0), (s0 (v 1)), (f1 (v 2))], []⟩, pre := a32p f0 f1 P, res b v t := .ok (.ret .none), post b v t := [ko (a32p f0 f1 P b v) 0, ko (a32p f0 f1 P b v) 1, ⟨(.ref 200), some (b 3 + 259), .seq #[(R b 9)] (v 20 + 3), #[]⟩, (dic [(e0 P (v 24) (iv 0 (t 0)))] (v 23)), ko (a32p f0 f1 P b v) 4, ko (a32p f0 f1 P b v) 5, ko (a32p f0 f1 P b v) 6, (lis [(f0 (v 39)), (s6 (v 40)), (s9 (t 1))] (v 38 + 1)), ko (a32p f0 f1 P b v) 8], new b v t := [(tup [(s0 (v 1)), (f1 (v 2))] 0)], keep := [0, 1, 4, 5, 6, 8] }
noncomputable def a33p (P : Params) (b v : Nat → Nat) : List Own := [(b 0 + 259, ⟨(.ref 200), some (b 1 + 259), .seq #[(.ref (v 3)), (.ref (v 4))] (v 2), #[]⟩), (b 1 + 259, (dic [(e0 P (v 6) (iv 0 (v 7)))] (v 5)))]
noncomputable def a33 (P : Params) : Con := { n := 2, na := 0, nt := 0, need := 10, sel := [], code b v := .call (.ref 160) ⟨[(R b 0)], []⟩, pre := a33p P, res b v t := .ok (.ret (.ref (v 4))), post b v t := [⟨(.ref 200), some (b 1 + 259), .seq #[(.ref (v 3))] (v 2 + 1), #[]⟩, ko (a33p P b v) 1], new b v t := [], keep := [1] }
noncomputable def a34p (P : Params) (b v : Nat → Nat) : List Own := [(b 0 + 259, ⟨(.ref 200), some (b 1 + 259), .seq #[(R b 3), (R b 4)] (v 2), #[]⟩), (b 1 + 259, (dic [(e0 P (v 6) (iv 0 (v 7)))] (v 5))), (162, ⟨.none, none, .fields #[(iv 148 0), (iv 19 0), (.ref (v 13))], #[]⟩), (b 3 + 259, (tup [(s0 (v 15)), (s7 (v 16))] (v 14))), (b 4 + 259, (tup [(s0 (v 18)), (s7 (v 19))] (v 17))), (169, ⟨.none, none, .fields #[(iv 151 0), (iv 32 0), (.ref (v 24))], #[]⟩)]
noncomputable def a34 (P : Params) : Con := { n := 6, na := 0, nt := 0, need := 35, sel := [], code b v := .call (.ref 189) ⟨[(R b 0)], []⟩, pre := a34p P, res b v t := .ok (.ret (.bool false)), post b v t := [ko (a34p P b v) 0, ko (a34p P b v) 1, ko (a34p P b v) 2, ko (a34p P b v) 3, ko (a34p P b v) 4, ko (a34p P b v) 5], new b v t := [], keep := [0, 1, 2, 3, 4, 5] }
noncomputable def a35p (f0 : Tok → Value) (P : Params) (b v : Nat → Nat) : List Own := [(b 0 + 259, ⟨(.ref 116), some (b 1 + 259), .plain, #[]⟩), (b 1 + 259, (dic [(e1 P (v 5) (iv 4 (v 6))), (e2 P (v 8) (s0 (v 9))), (e3 P (v 10) (iv 1 (v 11))), (e4 P (v 13) (s0 (v 14))), (e5 P (v 15) (.ref (v 16))), (e6 P (v 17) (R b 2))] (v 4))), (b 2 + 259, ⟨(.ref 200), some (b 3 + 259), .seq #[] (v 20), #[]⟩), (b 3 + 259, (dic [(e0 P (v 22) (iv 0 (v 23)))] (v 21))), (162, ⟨.none, none, .fields #[(iv 148 0), (iv 19 0), (.ref (v 29))], #[]⟩)]
noncomputable def a35 (f0 : Tok → Value) (P : Params) : Con := { n := 5, na := 1, nt := 0, need := 25, sel := [5], code b v := .call (.ref 113) ⟨[(R b 0), (s0 (v 1)), (f0 (v 2))], []⟩, pre := a35p f0 P, res b v t := .ok (.ret .none), post b v t := [ko (a35p f0 P b v) 0, ko (a35p f0 P b v) 1, ⟨(.ref 200), some (b 3 + 259), .seq #[(R b 5)] (v 20 + 1), #[]⟩, ko (a35p f0 P b v) 3, ko (a35p f0 P b v) 4], new b v t := [(tup [(s0 (v 1)), (f0 (v 2))] 0)], keep := [0, 1, 3, 4] }
noncomputable def a36p (f0 : Tok → Value) (f1 : Tok → Value) (f2 : Tok → Value) (P : Params) (b v : Nat → Nat) : List Own := [(b 0 + 259, ⟨(.ref 116), some (b 1 + 259), .plain, #[]⟩), (b 1 + 259, (dic [(e1 P (v 5) (iv 4 (v 6))), (e2 P (v 8) (s0 (v 9))), (e3 P (v 10) (iv 1 (v 11))), (e4 P (v 13) (s0 (v 14))), (e5 P (v 15) (R b 6)), (e6 P (v 17) (R b 2))] (v 4))), (b 2 + 259, ⟨(.ref 200), some (b 3 + 259), .seq #[(R b 5)] (v 20), #[]⟩), (b 3 + 259, (dic [(e0 P (v 23) (iv 0 (v 24)))] (v 22))), (162, ⟨.none, none, .fields #[(iv 148 0), (iv 19 0), (.ref (v 30))], #[]⟩), (b 5 + 259, (tup [(s0 (v 32)), (f0 (v 33))] (v 31))), (b 6 + 259, (lis [] (v 34))), (169, ⟨.none, none, .fields #[(iv 151 0), (iv 32 0), (.ref (v 39))], #[]⟩)]
noncomputable def a36 (f0 : Tok → Value) (f1 : Tok → Value) (f2 : Tok → Value) (P : Params) : Con := { n := 8, na := 1, nt := 2, need := 35, sel := [8], code b v := .call (.ref 113) ⟨[(R b 0), (s0 (v 1)), (f1 (v 2))], []⟩, pre := a36p f0 f1 f2 P, res b v t := .ok (.ret .none), post b v t := [ko (a36p f0 f1 f2 P b v) 0, ko (a36p f0 f1 f2 P b v) 1, ⟨(.ref 200), some (b 3 + 259), .seq #[(R b 8)] (v 20 + 2), #[]⟩, (dic [(e0 P (v 23) (iv 0 (t 0)))] (v 22)), ko (a36p f0 f1 f2 P b v) 4, ko (a36p f0 f1 f2 P b v) 5, (lis [(f2 (t 1))] (v 34 + 1)), ko (a36p f0 f1 f2 P b v) 7], new b v t := [(tup [(s0 (v 1)), (f1 (v 2))] 0)], keep := [0, 1, 4, 5, 7] }
noncomputable def a37p (f0 : Tok → Value) (P : Params) (b v : Nat → Nat) : List Own := [(b 0 + 259, ⟨(.ref 116), some (b 1 + 259), .plain, #[]⟩), (b 1 + 259, (dic [(e1 P (v 5) (iv 4 (v 6))), (e2 P (v 8) (s0 (v 9))), (e3 P (v 10) (iv 1 (v 11))), (e4 P (v 13) (s0 (v 14))), (e5 P (v 15) (R b 7)), (e6 P (v 17) (R b 2))] (v 4))), (b 2 + 259, ⟨(.ref 200), some (b 3 + 259), .seq #[(R b 5), (R b 6)] (v 20), #[]⟩), (b 3 + 259, (dic [(e0 P (v 24) (iv 0 (v 25)))] (v 23))), (162, ⟨.none, none, .fields #[(iv 148 0), (iv 19 0), (.ref (v 31))], #[]⟩), (b 5 + 259, (tup [(s0 (v 33)), (s7 (v 34))] (v 32))), (b 6 + 259, (tup [(s0 (v 36)), (s7 (v 37))] (v 35))), (b 7 + 259, (lis [] (v 38))), (169, ⟨.none, none, .fields #[(iv 151 0), (iv 32 0), (.ref (v 43))], #[]⟩)]
noncomputable def a37 (f0 : Tok → Value) (P : Params) : Con := { n := 9, na := 1, nt := 2, need := 35, sel := [9], code b v := .call (.ref 113) ⟨[(R b 0), (s0 (v 1)), (f0 (v 2))], []⟩, pre := a37p f0 P, res b v t := .ok (.ret .none), post b v t := [ko (a37p f0 P b v) 0, ko (a37p f0 P b v) 1, ⟨(.ref 200), some (b 3 + 259), .seq #[(R b 9)] (v 20 + 3), #[]⟩, (dic [(e0 P (v 24) (iv 0 (t 0)))] (v 23)), ko (a37p f0 P b v) 4, ko (a37p f0 P b v) 5, ko (a37p f0 P b v) 6, (lis [(s9 (t 1))] (v 38 + 1)), ko (a37p f0 P b v) 8], new b v t := [(tup [(s0 (v 1)), (f0 (v 2))] 0)], keep := [0, 1, 4, 5, 6, 8] }
noncomputable def a38p (f0 : Tok → Value) (f1 : Tok → Value) (f2 : Tok → Value) (f3 : Tok → Value) (f4 : Tok → Value) (f5 : Tok → Value) (P : Params) (b v : Nat → Nat) : List Own := [(b 0 + 259, ⟨(.ref 116), some (b 1 + 259), .plain, #[]⟩), (b 1 + 259, (dic [(e1 P (v 3) (iv 4 (v 4))), (e2 P (v 6) (s0 (v 7))), (e3 P (v 8) (iv 1 (v 9))), (e4 P (v 11) (s0 (v 12))), (e5 P (v 13) (R b 7)), (e6 P (v 15) (R b 2))] (v 2))), (b 2 + 259, ⟨(.ref 200), some (b 3 + 259), .seq #[(R b 4)] (v 18), #[]⟩), (b 3 + 259, (dic [(e0 P (v 21) (iv 0 (v 22)))] (v 20))), (b 4 + 259, (tup [(s0 (v 25)), (f0 (v 26))] (v 24))), (162, ⟨.none, none, .fields #[(iv 148 0), (iv 19 0), (.ref (v 31))], #[]⟩), (169, ⟨.none, none, .fields #[(iv 151 0), (iv 32 0), (.ref (v 36))], #[]⟩), (b 7 + 259, (lis [(f1 (v 38)), (f2 (v 39)), (f3 (v 40)), (f4 (v 41))] (v 37)))]
noncomputable def a38 (f0 : Tok → Value) (f1 : Tok → Value) (f2 : Tok → Value) (f3 : Tok → Value) (f4 : Tok → Value) (f5 : Tok → Value) (P : Params) : Con := { n := 8, na := 0, nt := 2, need := 40, sel := [], code b v := .call (.ref 78) ⟨[(R b 0)], []⟩, pre := a38p f0 f1 f2 f3 f4 f5 P, res b v t := .ok (.ret .none), post b v t := [ko (a38p f0 f1 f2 f3 f4 f5 P b v) 0, ko (a38p f0 f1 f2 f3 f4 f5 P b v) 1, ⟨(.ref 200), some (b 3 + 259), .seq #[] (v 18 + 3), #[]⟩, (dic [(e0 P (v 21) (iv 0 (t 0)))] (v 20)), ko (a38p f0 f1 f2 f3 f4 f5 P b v) 4, ko (a38p f0 f1 f2 f3 f4 f5 P b v) 5, ko (a38p f0 f1 f2 f3 f4 f5 P b v) 6, (lis [(f1 (v 38)), (f2 (v 39)), (f3 (v 40)), (f4 (v 41)), (f5 (t 1))] (v 37 + 1))], new b v t := [], keep := [0, 1, 4, 5, 6] }
noncomputable def a39p (f0 : Tok → Value) (f1 : Tok → Value) (f2 : Tok → Value) (f3 : Tok → Value) (f4 : Tok → Value) (P : Params) (b v : Nat → Nat) : List Own := [(b 0 + 259, ⟨(.ref 116), some (b 1 + 259), .plain, #[]⟩), (b 1 + 259, (dic [(e1 P (v 3) (iv 4 (v 4))), (e2 P (v 6) (s0 (v 7))), (e3 P (v 8) (iv 1 (v 9))), (e4 P (v 11) (s0 (v 12))), (e5 P (v 13) (R b 7)), (e6 P (v 15) (R b 2))] (v 2))), (b 2 + 259, ⟨(.ref 200), some (b 3 + 259), .seq #[(R b 4)] (v 18), #[]⟩), (b 3 + 259, (dic [(e0 P (v 21) (iv 0 (v 22)))] (v 20))), (b 4 + 259, (tup [(s0 (v 25)), (f0 (v 26))] (v 24))), (162, ⟨.none, none, .fields #[(iv 148 0), (iv 19 0), (.ref (v 31))], #[]⟩), (169, ⟨.none, none, .fields #[(iv 151 0), (iv 32 0), (.ref (v 36))], #[]⟩), (b 7 + 259, (lis [(f1 (v 38)), (f2 (v 39)), (f3 (v 40))] (v 37)))]
noncomputable def a39 (f0 : Tok → Value) (f1 : Tok → Value) (f2 : Tok → Value) (f3 : Tok → Value) (f4 : Tok → Value) (P : Params) : Con := { n := 8, na := 0, nt := 2, need := 40, sel := [], code b v := .call (.ref 78) ⟨[(R b 0)], []⟩, pre := a39p f0 f1 f2 f3 f4 P, res b v t := .ok (.ret .none), post b v t := [ko (a39p f0 f1 f2 f3 f4 P b v) 0, ko (a39p f0 f1 f2 f3 f4 P b v) 1, ⟨(.ref 200), some (b 3 + 259), .seq #[] (v 18 + 3), #[]⟩, (dic [(e0 P (v 21) (iv 0 (t 0)))] (v 20)), ko (a39p f0 f1 f2 f3 f4 P b v) 4, ko (a39p f0 f1 f2 f3 f4 P b v) 5, ko (a39p f0 f1 f2 f3 f4 P b v) 6, (lis [(f1 (v 38)), (f2 (v 39)), (f3 (v 40)), (f4 (t 1))] (v 37 + 1))], new b v t := [], keep := [0, 1, 4, 5, 6] }
noncomputable def a40p (f0 : Tok → Value) (f1 : Tok → Value) (f2 : Tok → Value) (f3 : Tok → Value) (P : Params) (b v : Nat → Nat) : List Own := [(b 0 + 259, ⟨(.ref 116), some (b 1 + 259), .plain, #[]⟩), (b 1 + 259, (dic [(e1 P (v 3) (iv 4 (v 4))), (e2 P (v 6) (s0 (v 7))), (e3 P (v 8) (iv 1 (v 9))), (e4 P (v 11) (s0 (v 12))), (e5 P (v 13) (R b 7)), (e6 P (v 15) (R b 2))] (v 2))), (b 2 + 259, ⟨(.ref 200), some (b 3 + 259), .seq #[(R b 4)] (v 18), #[]⟩), (b 3 + 259, (dic [(e0 P (v 21) (iv 0 (v 22)))] (v 20))), (b 4 + 259, (tup [(s0 (v 25)), (f0 (v 26))] (v 24))), (162, ⟨.none, none, .fields #[(iv 148 0), (iv 19 0), (.ref (v 31))], #[]⟩), (169, ⟨.none, none, .fields #[(iv 151 0), (iv 32 0), (.ref (v 36))], #[]⟩), (b 7 + 259, (lis [(f1 (v 38)), (f2 (v 39))] (v 37)))]
noncomputable def a40 (f0 : Tok → Value) (f1 : Tok → Value) (f2 : Tok → Value) (f3 : Tok → Value) (P : Params) : Con := { n := 8, na := 0, nt := 2, need := 40, sel := [], code b v := .call (.ref 78) ⟨[(R b 0)], []⟩, pre := a40p f0 f1 f2 f3 P, res b v t := .ok (.ret .none), post b v t := [ko (a40p f0 f1 f2 f3 P b v) 0, ko (a40p f0 f1 f2 f3 P b v) 1, ⟨(.ref 200), some (b 3 + 259), .seq #[] (v 18 + 3), #[]⟩, (dic [(e0 P (v 21) (iv 0 (t 0)))] (v 20)), ko (a40p f0 f1 f2 f3 P b v) 4, ko (a40p f0 f1 f2 f3 P b v) 5, ko (a40p f0 f1 f2 f3 P b v) 6, (lis [(f1 (v 38)), (f2 (v 39)), (f3 (t 1))] (v 37 + 1))], new b v t := [], keep := [0, 1, 4, 5, 6] }
noncomputable def a41p (f0 : Tok → Value) (f1 : Tok → Value) (P : Params) (b v : Nat → Nat) : List Own := [(b 0 + 259, ⟨(.ref 116), some (b 1 + 259), .plain, #[]⟩), (b 1 + 259, (dic [(e1 P (v 3) (iv 4 (v 4))), (e2 P (v 6) (s0 (v 7))), (e3 P (v 8) (iv 1 (v 9))), (e4 P (v 11) (s0 (v 12))), (e5 P (v 13) (R b 8)), (e6 P (v 15) (R b 2))] (v 2))), (b 2 + 259, ⟨(.ref 200), some (b 3 + 259), .seq #[(R b 6), (R b 4)] (v 18), #[]⟩), (b 3 + 259, (dic [(e0 P (v 22) (iv 0 (v 23)))] (v 21))), (b 4 + 259, (tup [(s0 (v 26)), (s7 (v 27))] (v 25))), (162, ⟨.none, none, .fields #[(iv 148 0), (iv 19 0), (.ref (v 32))], #[]⟩), (b 6 + 259, (tup [(s0 (v 34)), (s7 (v 35))] (v 33))), (169, ⟨.none, none, .fields #[(iv 151 0), (iv 32 0), (.ref (v 40))], #[]⟩), (b 8 + 259, (lis [(f0 (v 42)), (f1 (v 43)), (s6 (v 44))] (v 41)))]
noncomputable def a41 (f0 : Tok → Value) (f1 : Tok → Value) (P : Params) : Con := { n := 9, na := 0, nt := 2, need := 40, sel := [], code b v := .call (.ref 78) ⟨[(R b 0)], []⟩, pre := a41p f0 f1 P, res b v t := .ok (.ret .none), post b v t := [ko (a41p f0 f1 P b v) 0, ko (a41p f0 f1 P b v) 1, ⟨(.ref 200), some (b 3 + 259), .seq #[] (v 18 + 3), #[]⟩, (dic [(e0 P (v 22) (iv 0 (t 0)))] (v 21)), ko (a41p f0 f1 P b v) 4, ko (a41p f0 f1 P b v) 5, ko (a41p f0 f1 P b v) 6, ko (a41p f0 f1 P b v) 7, (lis [(f0 (v 42)), (f1 (v 43)), (s6 (v 44)), (s9 (t 1))] (v 41 + 1))], new b v t := [], keep := [0, 1, 4, 5, 6, 7] }
noncomputable def a42p (f0 : Tok → Value) (f1 : Tok → Value) (P : Params) (b v : Nat → Nat) : List Own := [(b 0 + 259, ⟨(.ref 116), some (b 1 + 259), .plain, #[]⟩), (b 1 + 259, (dic [(e1 P (v 3) (iv 4 (v 4))), (e2 P (v 6) (s0 (v 7))), (e3 P (v 8) (iv 1 (v 9))), (e4 P (v 11) (s0 (v 12))), (e5 P (v 13) (R b 8)), (e6 P (v 15) (R b 2))] (v 2))), (b 2 + 259, ⟨(.ref 200), some (b 3 + 259), .seq #[(R b 6), (R b 4)] (v 18), #[]⟩), (b 3 + 259, (dic [(e0 P (v 22) (iv 0 (v 23)))] (v 21))), (b 4 + 259, (tup [(s0 (v 26)), (s7 (v 27))] (v 25))), (162, ⟨.none, none, .fields #[(iv 148 0), (iv 19 0), (.ref (v 32))], #[]⟩), (b 6 + 259, (tup [(s0 (v 34)), (s7 (v 35))] (v 33))), (169, ⟨.none, none, .fields #[(iv 151 0), (iv 32 0), (.ref (v 40))], #[]⟩), (b 8 + 259, (lis [(f0 (v 42)), (f1 (v 43))] (v 41)))]
noncomputable def a42 (f0 : Tok → Value) (f1 : Tok → Value) (P : Params) : Con := { n := 9, na := 0, nt := 2, need := 40, sel := [], code b v := .call (.ref 78) ⟨[(R b 0)], []⟩, pre := a42p f0 f1 P, res b v t := .ok (.ret .none), post b v t := [ko (a42p f0 f1 P b v) 0, ko (a42p f0 f1 P b v) 1, ⟨(.ref 200), some (b 3 + 259), .seq #[] (v 18 + 3), #[]⟩, (dic [(e0 P (v 22) (iv 0 (t 0)))] (v 21)), ko (a42p f0 f1 P b v) 4, ko (a42p f0 f1 P b v) 5, ko (a42p f0 f1 P b v) 6, ko (a42p f0 f1 P b v) 7, (lis [(f0 (v 42)), (f1 (v 43)), (s9 (t 1))] (v 41 + 1))], new b v t := [], keep := [0, 1, 4, 5, 6, 7] }
noncomputable def a43p (f0 : Tok → Value) (P : Params) (b v : Nat → Nat) : List Own := [(b 0 + 259, ⟨(.ref 116), some (b 1 + 259), .plain, #[]⟩), (b 1 + 259, (dic [(e1 P (v 3) (iv 4 (v 4))), (e2 P (v 6) (s0 (v 7))), (e3 P (v 8) (iv 1 (v 9))), (e4 P (v 11) (s0 (v 12))), (e5 P (v 13) (R b 8)), (e6 P (v 15) (R b 2))] (v 2))), (b 2 + 259, ⟨(.ref 200), some (b 3 + 259), .seq #[(R b 6), (R b 4)] (v 18), #[]⟩), (b 3 + 259, (dic [(e0 P (v 22) (iv 0 (v 23)))] (v 21))), (b 4 + 259, (tup [(s0 (v 26)), (s7 (v 27))] (v 25))), (162, ⟨.none, none, .fields #[(iv 148 0), (iv 19 0), (.ref (v 32))], #[]⟩), (b 6 + 259, (tup [(s0 (v 34)), (s7 (v 35))] (v 33))), (169, ⟨.none, none, .fields #[(iv 151 0), (iv 32 0), (.ref (v 40))], #[]⟩), (b 8 + 259, (lis [(f0 (v 42))] (v 41)))]
noncomputable def a43 (f0 : Tok → Value) (P : Params) : Con := { n := 9, na := 0, nt := 2, need := 40, sel := [], code b v := .call (.ref 78) ⟨[(R b 0)], []⟩, pre := a43p f0 P, res b v t := .ok (.ret .none), post b v t := [ko (a43p f0 P b v) 0, ko (a43p f0 P b v) 1, ⟨(.ref 200), some (b 3 + 259), .seq #[] (v 18 + 3), #[]⟩, (dic [(e0 P (v 22) (iv 0 (t 0)))] (v 21)), ko (a43p f0 P b v) 4, ko (a43p f0 P b v) 5, ko (a43p f0 P b v) 6, ko (a43p f0 P b v) 7, (lis [(f0 (v 42)), (s9 (t 1))] (v 41 + 1))], new b v t := [], keep := [0, 1, 4, 5, 6, 7] }
noncomputable def a44p (f0 : Tok → Value) (f1 : Tok → Value) (f2 : Tok → Value) (P : Params) (b v : Nat → Nat) : List Own := [(b 0 + 259, ⟨(.ref 116), some (b 1 + 259), .plain, #[]⟩), (b 1 + 259, (dic [(e1 P (v 3) (iv 4 (v 4))), (e2 P (v 6) (s0 (v 7))), (e3 P (v 8) (iv 1 (v 9))), (e4 P (v 11) (s0 (v 12))), (e5 P (v 13) (R b 7)), (e6 P (v 15) (R b 2))] (v 2))), (b 2 + 259, ⟨(.ref 200), some (b 3 + 259), .seq #[(R b 4)] (v 18), #[]⟩), (b 3 + 259, (dic [(e0 P (v 21) (iv 0 (v 22)))] (v 20))), (b 4 + 259, (tup [(s0 (v 25)), (f0 (v 26))] (v 24))), (162, ⟨.none, none, .fields #[(iv 148 0), (iv 19 0), (.ref (v 31))], #[]⟩), (169, ⟨.none, none, .fields #[(iv 151 0), (iv 32 0), (.ref (v 36))], #[]⟩), (b 7 + 259, (lis [(f1 (v 38))] (v 37)))]
noncomputable def a44 (f0 : Tok → Value) (f1 : Tok → Value) (f2 : Tok → Value) (P : Params) : Con := { n := 8, na := 0, nt := 2, need := 40, sel := [], code b v := .call (.ref 78) ⟨[(R b 0)], []⟩, pre := a44p f0 f1 f2 P, res b v t := .ok (.ret .none), post b v t := [ko (a44p f0 f1 f2 P b v) 0, ko (a44p f0 f1 f2 P b v) 1, ⟨(.ref 200), some (b 3 + 259), .seq #[] (v 18 + 3), #[]⟩, (dic [(e0 P (v 21) (iv 0 (t 0)))] (v 20)), ko (a44p f0 f1 f2 P b v) 4, ko (a44p f0 f1 f2 P b v) 5, ko (a44p f0 f1 f2 P b v) 6, (lis [(f1 (v 38)), (f2 (t 1))] (v 37 + 1))], new b v t := [], keep := [0, 1, 4, 5, 6] }
noncomputable def a45p (P : Params) (b v : Nat → Nat) : List Own := [(b 0 + 259, ⟨(.ref 116), some (b 1 + 259), .plain, #[]⟩), (b 1 + 259, (dic [(e1 P (v 3) (iv 4 (v 4))), (e2 P (v 6) (s0 (v 7))), (e3 P (v 8) (iv 1 (v 9))), (e4 P (v 11) (s0 (v 12))), (e5 P (v 13) (R b 8)), (e6 P (v 15) (R b 2))] (v 2))), (b 2 + 259, ⟨(.ref 200), some (b 3 + 259), .seq #[(R b 6), (R b 4)] (v 18), #[]⟩), (b 3 + 259, (dic [(e0 P (v 22) (iv 0 (v 23)))] (v 21))), (b 4 + 259, (tup [(s0 (v 26)), (s7 (v 27))] (v 25))), (162, ⟨.none, none, .fields #[(iv 148 0), (iv 19 0), (.ref (v 32))], #[]⟩), (b 6 + 259, (tup [(s0 (v 34)), (s7 (v 35))] (v 33))), (169, ⟨.none, none, .fields #[(iv 151 0), (iv 32 0), (.ref (v 40))], #[]⟩), (b 8 + 259, (lis [] (v 41)))]
noncomputable def a45 (P : Params) : Con := { n := 9, na := 0, nt := 2, need := 40, sel := [], code b v := .call (.ref 78) ⟨[(R b 0)], []⟩, pre := a45p P, res b v t := .ok (.ret .none), post b v t := [ko (a45p P b v) 0, ko (a45p P b v) 1, ⟨(.ref 200), some (b 3 + 259), .seq #[] (v 18 + 3), #[]⟩, (dic [(e0 P (v 22) (iv 0 (t 0)))] (v 21)), ko (a45p P b v) 4, ko (a45p P b v) 5, ko (a45p P b v) 6, ko (a45p P b v) 7, (lis [(s9 (t 1))] (v 41 + 1))], new b v t := [], keep := [0, 1, 4, 5, 6, 7] }
noncomputable def a46p (f0 : Tok → Value) (f1 : Tok → Value) (f2 : Tok → Value) (f3 : Tok → Value) (f4 : Tok → Value) (f5 : Tok → Value) (f6 : Tok → Value) (P : Params) (b v : Nat → Nat) : List Own := [(b 0 + 259, ⟨(.ref 116), some (b 1 + 259), .plain, #[]⟩), (b 1 + 259, (dic [(e1 P (v 4) (iv 4 (v 5))), (e2 P (v 7) (s0 (v 8))), (e3 P (v 9) (iv 1 (v 10))), (e4 P (v 12) (s0 (v 13))), (e5 P (v 14) (R b 7)), (e6 P (v 16) (R b 2))] (v 3))), (b 2 + 259, ⟨(.ref 200), some (b 3 + 259), .seq #[(R b 4)] (v 19), #[]⟩), (b 3 + 259, (dic [(e0 P (v 22) (iv 0 (v 23)))] (v 21))), (b 4 + 259, (tup [(s0 (v 26)), (f0 (v 27))] (v 25))), (162, ⟨.none, none, .fields #[(iv 148 0), (iv 19 0), (.ref (v 32))], #[]⟩), (169, ⟨.none, none, .fields #[(iv 151 0), (iv 32 0), (.ref (v 37))], #[]⟩), (b 7 + 259, (lis [(f1 (v 39)), (f2 (v 40)), (f3 (v 41)), (f4 (v 42))] (v 38)))]
noncomputable def a46 (f0 : Tok → Value) (f1 : Tok → Value) (f2 : Tok → Value) (f3 : Tok → Value) (f4 : Tok → Value) (f5 : Tok → Value) (f6 : Tok → Value) (P : Params) : Con := { n := 8, na := 0, nt := 3, need := 45, sel := [], code b v := .call (.ref 64) ⟨[(R b 0), (s10 (v 1))], []⟩, pre := a46p f0 f1 f2 f3 f4 f5 f6 P, res b v t := .ok (.ret (f5 (t 0))), post b v t := [ko (a46p f0 f1 f2 f3 f4 f5 f6 P b v) 0, ko (a46p f0 f1 f2 f3 f4 f5 f6 P b v) 1, ⟨(.ref 200), some (b 3 + 259), .seq #[] (v 19 + 3), #[]⟩, (dic [(e0 P (v 22) (iv 0 (t 1)))] (v 21)), ko (a46p f0 f1 f2 f3 f4 f5 f6 P b v) 4, ko (a46p f0 f1 f2 f3 f4 f5 f6 P b v) 5, ko (a46p f0 f1 f2 f3 f4 f5 f6 P b v) 6, (lis [(f1 (v 39)), (f2 (v 40)), (f3 (v 41)), (f4 (v 42)), (f6 (t 2))] (v 38 + 1))], new b v t := [], keep := [0, 1, 4, 5, 6] }
noncomputable def a47p (f0 : Tok → Value) (f1 : Tok → Value) (f2 : Tok → Value) (f3 : Tok → Value) (f4 : Tok → Value) (f5 : Tok → Value) (P : Params) (b v : Nat → Nat) : List Own := [(b 0 + 259, ⟨(.ref 116), some (b 1 + 259), .plain, #[]⟩), (b 1 + 259, (dic [(e1 P (v 4) (iv 4 (v 5))), (e2 P (v 7) (s0 (v 8))), (e3 P (v 9) (iv 1 (v 10))), (e4 P (v 12) (s0 (v 13))), (e5 P (v 14) (R b 7)), (e6 P (v 16) (R b 2))] (v 3))), (b 2 + 259, ⟨(.ref 200), some (b 3 + 259), .seq #[(R b 4)] (v 19), #[]⟩), (b 3 + 259, (dic [(e0 P (v 22) (iv 0 (v 23)))] (v 21))), (b 4 + 259, (tup [(s0 (v 26)), (f0 (v 27))] (v 25))), (162, ⟨.none, none, .fields #[(iv 148 0), (iv 19 0), (.ref (v 32))], #[]⟩), (169, ⟨.none, none, .fields #[(iv 151 0), (iv 32 0), (.ref (v 37))], #[]⟩), (b 7 + 259, (lis [(f1 (v 39)), (f2 (v 40)), (f3 (v 41))] (v 38)))]
noncomputable def a47 (f0 : Tok → Value) (f1 : Tok → Value) (f2 : Tok → Value) (f3 : Tok → Value) (f4 : Tok → Value) (f5 : Tok → Value) (P : Params) : Con := { n := 8, na := 0, nt := 3, need := 45, sel := [], code b v := .call (.ref 64) ⟨[(R b 0), (s10 (v 1))], []⟩, pre := a47p f0 f1 f2 f3 f4 f5 P, res b v t := .ok (.ret (f4 (t 0))), post b v t := [ko (a47p f0 f1 f2 f3 f4 f5 P b v) 0, ko (a47p f0 f1 f2 f3 f4 f5 P b v) 1, ⟨(.ref 200), some (b 3 + 259), .seq #[] (v 19 + 3), #[]⟩, (dic [(e0 P (v 22) (iv 0 (t 1)))] (v 21)), ko (a47p f0 f1 f2 f3 f4 f5 P b v) 4, ko (a47p f0 f1 f2 f3 f4 f5 P b v) 5, ko (a47p f0 f1 f2 f3 f4 f5 P b v) 6, (lis [(f1 (v 39)), (f2 (v 40)), (f3 (v 41)), (f5 (t 2))] (v 38 + 1))], new b v t := [], keep := [0, 1, 4, 5, 6] }
noncomputable def a48p (f0 : Tok → Value) (f1 : Tok → Value) (f2 : Tok → Value) (f3 : Tok → Value) (f4 : Tok → Value) (P : Params) (b v : Nat → Nat) : List Own := [(b 0 + 259, ⟨(.ref 116), some (b 1 + 259), .plain, #[]⟩), (b 1 + 259, (dic [(e1 P (v 4) (iv 4 (v 5))), (e2 P (v 7) (s0 (v 8))), (e3 P (v 9) (iv 1 (v 10))), (e4 P (v 12) (s0 (v 13))), (e5 P (v 14) (R b 7)), (e6 P (v 16) (R b 2))] (v 3))), (b 2 + 259, ⟨(.ref 200), some (b 3 + 259), .seq #[(R b 4)] (v 19), #[]⟩), (b 3 + 259, (dic [(e0 P (v 22) (iv 0 (v 23)))] (v 21))), (b 4 + 259, (tup [(s0 (v 26)), (f0 (v 27))] (v 25))), (162, ⟨.none, none, .fields #[(iv 148 0), (iv 19 0), (.ref (v 32))], #[]⟩), (169, ⟨.none, none, .fields #[(iv 151 0), (iv 32 0), (.ref (v 37))], #[]⟩), (b 7 + 259, (lis [(f1 (v 39)), (f2 (v 40))] (v 38)))]
noncomputable def a48 (f0 : Tok → Value) (f1 : Tok → Value) (f2 : Tok → Value) (f3 : Tok → Value) (f4 : Tok → Value) (P : Params) : Con := { n := 8, na := 0, nt := 3, need := 45, sel := [], code b v := .call (.ref 64) ⟨[(R b 0), (s10 (v 1))], []⟩, pre := a48p f0 f1 f2 f3 f4 P, res b v t := .ok (.ret (f3 (t 0))), post b v t := [ko (a48p f0 f1 f2 f3 f4 P b v) 0, ko (a48p f0 f1 f2 f3 f4 P b v) 1, ⟨(.ref 200), some (b 3 + 259), .seq #[] (v 19 + 3), #[]⟩, (dic [(e0 P (v 22) (iv 0 (t 1)))] (v 21)), ko (a48p f0 f1 f2 f3 f4 P b v) 4, ko (a48p f0 f1 f2 f3 f4 P b v) 5, ko (a48p f0 f1 f2 f3 f4 P b v) 6, (lis [(f1 (v 39)), (f2 (v 40)), (f4 (t 2))] (v 38 + 1))], new b v t := [], keep := [0, 1, 4, 5, 6] }
noncomputable def a49p (f0 : Tok → Value) (f1 : Tok → Value) (f2 : Tok → Value) (P : Params) (b v : Nat → Nat) : List Own := [(b 0 + 259, ⟨(.ref 116), some (b 1 + 259), .plain, #[]⟩), (b 1 + 259, (dic [(e1 P (v 4) (iv 4 (v 5))), (e2 P (v 7) (s0 (v 8))), (e3 P (v 9) (iv 1 (v 10))), (e4 P (v 12) (s0 (v 13))), (e5 P (v 14) (R b 8)), (e6 P (v 16) (R b 2))] (v 3))), (b 2 + 259, ⟨(.ref 200), some (b 3 + 259), .seq #[(R b 6), (R b 4)] (v 19), #[]⟩), (b 3 + 259, (dic [(e0 P (v 23) (iv 0 (v 24)))] (v 22))), (b 4 + 259, (tup [(s0 (v 27)), (s7 (v 28))] (v 26))), (162, ⟨.none, none, .fields #[(iv 148 0), (iv 19 0), (.ref (v 33))], #[]⟩), (b 6 + 259, (tup [(s0 (v 35)), (s7 (v 36))] (v 34))), (169, ⟨.none, none, .fields #[(iv 151 0), (iv 32 0), (.ref (v 41))], #[]⟩), (b 8 + 259, (lis [(f0 (v 43)), (f1 (v 44)), (s6 (v 45))] (v 42)))]
noncomputable def a49 (f0 : Tok → Value) (f1 : Tok → Value) (f2 : Tok → Value) (P : Params) : Con := { n := 9, na := 0, nt := 3, need := 45, sel := [], code b v := .call (.ref 64) ⟨[(R b 0), (s10 (v 1))], []⟩, pre := a49p f0 f1 f2 P, res b v t := .ok (.ret (f2 (t 0))), post b v t := [ko (a49p f0 f1 f2 P b v) 0, ko (a49p f0 f1 f2 P b v) 1, ⟨(.ref 200), some (b 3 + 259), .seq #[] (v 19 + 3), #[]⟩, (dic [(e0 P (v 23) (iv 0 (t 1)))] (v 22)), ko (a49p f0 f1 f2 P b v) 4, ko (a49p f0 f1 f2 P b v) 5, ko (a49p f0 f1 f2 P b v) 6, ko (a49p f0 f1 f2 P b v) 7, (lis [(f0 (v 43)), (f1 (v 44)), (s6 (v 45)), (s9 (t 2))] (v 42 + 1))], new b v t := [], keep := [0, 1, 4, 5, 6, 7] }
noncomputable def a50p (f0 : Tok → Value) (f1 : Tok → Value) (f2 : Tok → Value) (P : Params) (b v : Nat → Nat) : List Own := [(b 0 + 259, ⟨(.ref 116), some (b 1 + 259), .plain, #[]⟩), (b 1 + 259, (dic [(e1 P (v 4) (iv 4 (v 5))), (e2 P (v 7) (s0 (v 8))), (e3 P (v 9) (iv 1 (v 10))), (e4 P (v 12) (s0 (v 13))), (e5 P (v 14) (R b 8)), (e6 P (v 16) (R b 2))] (v 3))), (b 2 + 259, ⟨(.ref 200), some (b 3 + 259), .seq #[(R b 6), (R b 4)] (v 19), #[]⟩), (b 3 + 259, (dic [(e0 P (v 23) (iv 0 (v 24)))] (v 22))), (b 4 + 259, (tup [(s0 (v 27)), (s7 (v 28))] (v 26))), (162, ⟨.none, none, .fields #[(iv 148 0), (iv 19 0), (.ref (v 33))], #[]⟩), (b 6 + 259, (tup [(s0 (v 35)), (s7 (v 36))] (v 34))), (169, ⟨.none, none, .fields #[(iv 151 0), (iv 32 0), (.ref (v 41))], #[]⟩), (b 8 + 259, (lis [(f0 (v 43)), (f1 (v 44))] (v 42)))]
noncomputable def a50 (f0 : Tok → Value) (f1 : Tok → Value) (f2 : Tok → Value) (P : Params) : Con := { n := 9, na := 0, nt := 3, need := 45, sel := [], code b v := .call (.ref 64) ⟨[(R b 0), (s10 (v 1))], []⟩, pre := a50p f0 f1 f2 P, res b v t := .ok (.ret (f2 (t 0))), post b v t := [ko (a50p f0 f1 f2 P b v) 0, ko (a50p f0 f1 f2 P b v) 1, ⟨(.ref 200), some (b 3 + 259), .seq #[] (v 19 + 3), #[]⟩, (dic [(e0 P (v 23) (iv 0 (t 1)))] (v 22)), ko (a50p f0 f1 f2 P b v) 4, ko (a50p f0 f1 f2 P b v) 5, ko (a50p f0 f1 f2 P b v) 6, ko (a50p f0 f1 f2 P b v) 7, (lis [(f0 (v 43)), (f1 (v 44)), (s9 (t 2))] (v 42 + 1))], new b v t := [], keep := [0, 1, 4, 5, 6, 7] }
noncomputable def a51p (f0 : Tok → Value) (f1 : Tok → Value) (P : Params) (b v : Nat → Nat) : List Own := [(b 0 + 259, ⟨(.ref 116), some (b 1 + 259), .plain, #[]⟩), (b 1 + 259, (dic [(e1 P (v 4) (iv 4 (v 5))), (e2 P (v 7) (s0 (v 8))), (e3 P (v 9) (iv 1 (v 10))), (e4 P (v 12) (s0 (v 13))), (e5 P (v 14) (R b 8)), (e6 P (v 16) (R b 2))] (v 3))), (b 2 + 259, ⟨(.ref 200), some (b 3 + 259), .seq #[(R b 6), (R b 4)] (v 19), #[]⟩), (b 3 + 259, (dic [(e0 P (v 23) (iv 0 (v 24)))] (v 22))), (b 4 + 259, (tup [(s0 (v 27)), (s7 (v 28))] (v 26))), (162, ⟨.none, none, .fields #[(iv 148 0), (iv 19 0), (.ref (v 33))], #[]⟩), (b 6 + 259, (tup [(s0 (v 35)), (s7 (v 36))] (v 34))), (169, ⟨.none, none, .fields #[(iv 151 0), (iv 32 0), (.ref (v 41))], #[]⟩), (b 8 + 259, (lis [(f0 (v 43))] (v 42)))]
noncomputable def a51 (f0 : Tok → Value) (f1 : Tok → Value) (P : Params) : Con := { n := 9, na := 0, nt := 3, need := 45, sel := [], code b v := .call (.ref 64) ⟨[(R b 0), (s10 (v 1))], []⟩, pre := a51p f0 f1 P, res b v t := .ok (.ret (f1 (t 0))), post b v t := [ko (a51p f0 f1 P b v) 0, ko (a51p f0 f1 P b v) 1, ⟨(.ref 200), some (b 3 + 259), .seq #[] (v 19 + 3), #[]⟩, (dic [(e0 P (v 23) (iv 0 (t 1)))] (v 22)), ko (a51p f0 f1 P b v) 4, ko (a51p f0 f1 P b v) 5, ko (a51p f0 f1 P b v) 6, ko (a51p f0 f1 P b v) 7, (lis [(f0 (v 43)), (s9 (t 2))] (v 42 + 1))], new b v t := [], keep := [0, 1, 4, 5, 6, 7] }
noncomputable def a52p (f0 : Tok → Value) (f1 : Tok → Value) (f2 : Tok → Value) (f3 : Tok → Value) (P : Params) (b v : Nat → Nat) : List Own := [(b 0 + 259, ⟨(.ref 116), some (b 1 + 259), .plain, #[]⟩), (b 1 + 259, (dic [(e1 P (v 4) (iv 4 (v 5))), (e2 P (v 7) (s0 (v 8))), (e3 P (v 9) (iv 1 (v 10))), (e4 P (v 12) (s0 (v 13))), (e5 P (v 14) (R b 7)), (e6 P (v 16) (R b 2))] (v 3))), (b 2 + 259, ⟨(.ref 200), some (b 3 + 259), .seq #[(R b 4)] (v 19), #[]⟩), (b 3 + 259, (dic [(e0 P (v 22) (iv 0 (v 23)))] (v 21))), (b 4 + 259, (tup [(s0 (v 26)), (f0 (v 27))] (v 25))), (162, ⟨.none, none, .fields #[(iv 148 0), (iv 19 0), (.ref (v 32))], #[]⟩), (169, ⟨.none, none, .fields #[(iv 151 0), (iv 32 0), (.ref (v 37))], #[]⟩), (b 7 + 259, (lis [(f1 (v 39))] (v 38)))]
noncomputable def a52 (f0 : Tok → Value) (f1 : Tok → Value) (f2 : Tok → Value) (f3 : Tok → Value) (P : Params) : Con := { n := 8, na := 0, nt := 3, need := 45, sel := [], code b v := .call (.ref 64) ⟨[(R b 0), (s10 (v 1))], []⟩, pre := a52p f0 f1 f2 f3 P, res b v t := .ok (.ret (f2 (t 0))), post b v t := [ko (a52p f0 f1 f2 f3 P b v) 0, ko (a52p f0 f1 f2 f3 P b v) 1, ⟨(.ref 200), some (b 3 + 259), .seq #[] (v 19 + 3), #[]⟩, (dic [(e0 P (v 22) (iv 0 (t 1)))] (v 21)), ko (a52p f0 f1 f2 f3 P b v) 4, ko (a52p f0 f1 f2 f3 P b v) 5, ko (a52p f0 f1 f2 f3 P b v) 6, (lis [(f1 (v 39)), (f3 (t 2))] (v 38 + 1))], new b v t := [], keep := [0, 1, 4, 5, 6] }
noncomputable def a53p (P : Params) (b v : Nat → Nat) : List Own := [(b 0 + 259, ⟨(.ref 116), some (b 1 + 259), .plain, #[]⟩), (b 1 + 259, (dic [(e1 P (v 4) (iv 4 (v 5))), (e2 P (v 7) (s0 (v 8))), (e3 P (v 9) (iv 1 (v 10))), (e4 P (v 12) (s0 (v 13))), (e5 P (v 14) (R b 8)), (e6 P (v 16) (R b 2))] (v 3))), (b 2 + 259, ⟨(.ref 200), some (b 3 + 259), .seq #[(R b 6), (R b 4)] (v 19), #[]⟩), (b 3 + 259, (dic [(e0 P (v 23) (iv 0 (v 24)))] (v 22))), (b 4 + 259, (tup [(s0 (v 27)), (s7 (v 28))] (v 26))), (162, ⟨.none, none, .fields #[(iv 148 0), (iv 19 0), (.ref (v 33))], #[]⟩), (b 6 + 259, (tup [(s0 (v 35)), (s7 (v 36))] (v 34))), (169, ⟨.none, none, .fields #[(iv 151 0), (iv 32 0), (.ref (v 41))], #[]⟩), (b 8 + 259, (lis [] (v 42)))]
noncomputable def a53 (P : Params) : Con := { n := 9, na := 0, nt := 2, need := 45, sel := [], code b v := .call (.ref 64) ⟨[(R b 0), (s10 (v 1))], []⟩, pre := a53p P, res b v t := .ok (.ret (s9 (t 0))), post b v t := [ko (a53p P b v) 0, ko (a53p P b v) 1, ⟨(.ref 200), some (b 3 + 259), .seq #[] (v 19 + 3), #[]⟩, (dic [(e0 P (v 23) (iv 0 (t 1)))] (v 22)), ko (a53p P b v) 4, ko (a53p P b v) 5, ko (a53p P b v) 6, ko (a53p P b v) 7, (lis [(s9 (t 0))] (v 42 + 1))], new b v t := [], keep := [0, 1, 4, 5, 6, 7] }
noncomputable abbrev k0 : Params → Con := a0
noncomputable abbrev k2 : Params → Con := a1 s1
noncomputable abbrev k23 : Params → Con := a1 s7
noncomputable abbrev k3 : Params → Con := a2 s1 4
noncomputable abbrev k24 : Params → Con := a2 s7 2
noncomputable abbrev k5 : Params → Con := a3 s1
noncomputable abbrev k34 : Params → Con := a3 s7
noncomputable abbrev k6 : Params → Con := a4 s1 s1 8
noncomputable abbrev k26 : Params → Con := a4 s7 s1 6
noncomputable abbrev k35 : Params → Con := a4 s1 s7 6
noncomputable abbrev k43 : Params → Con := a4 s7 s7 4
noncomputable abbrev k7 : Params → Con := a5
noncomputable abbrev k8 : Params → Con := a6
noncomputable abbrev k9 : Params → Con := a7 s1 s6
noncomputable abbrev k27 : Params → Con := a7 s7 s8
noncomputable abbrev k10 : Params → Con := a8
noncomputable abbrev k12 : Params → Con := a9 s1 s6
noncomputable abbrev k37 : Params → Con := a9 s7 s8
noncomputable abbrev k16 : Params → Con := a10
noncomputable abbrev k18 : Params → Con := a11 s1 4
noncomputable abbrev k108 : Params → Con := a11 s7 2
noncomputable abbrev k20 : Params → Con := a12
noncomputable abbrev k45 : Params → Con := a13 s1
noncomputable abbrev k71 : Params → Con := a13 s7
noncomputable abbrev k46 : Params → Con := a14 s1 8
noncomputable abbrev k72 : Params → Con := a14 s7 6
noncomputable abbrev k47 : Params → Con := a15
noncomputable abbrev k48 : Params → Con := a16
noncomputable abbrev k49 : Params → Con := a17
noncomputable abbrev k50 : Params → Con := a18
noncomputable abbrev k66 : Params → Con := a19
noncomputable abbrev k135 : Params → Con := a20
noncomputable abbrev k1 : Params → Con := a21
noncomputable abbrev k4 : Params → Con := a22 s1
noncomputable abbrev k25 : Params → Con := a22 s7
noncomputable abbrev k11 : Params → Con := a23 s1 s1 s6
noncomputable abbrev k28 : Params → Con := a23 s7 s1 s8
noncomputable abbrev k36 : Params → Con := a23 s1 s7 s6
noncomputable abbrev k13 : Params → Con := a24 s1 s6 s1 s6
noncomputable abbrev k29 : Params → Con := a24 s1 s8 s1 s6
noncomputable abbrev k38 : Params → Con := a24 s7 s6 s1 s8
noncomputable abbrev k52 : Params → Con := a24 s1 s9 s1 s6
noncomputable abbrev k56 : Params → Con := a24 s1 s6 s7 s6
noncomputable abbrev k61 : Params → Con := a24 s1 s8 s7 s6
noncomputable abbrev k74 : Params → Con := a24 s7 s9 s1 s8
noncomputable abbrev k90 : Params → Con := a24 s1 s9 s7 s6
noncomputable abbrev k14 : Params → Con := a25 s1 s6 s6 s1 s6
noncomputable abbrev k30 : Params → Con := a25 s1 s8 s6 s1 s6
noncomputable abbrev k39 : Params → Con := a25 s1 s6 s8 s1 s6
noncomputable abbrev k53 : Params → Con := a25 s1 s9 s6 s1 s6
noncomputable abbrev k57 : Params → Con := a25 s7 s6 s6 s1 s8
noncomputable abbrev k62 : Params → Con := a25 s7 s8 s6 s1 s8
noncomputable abbrev k68 : Params → Con := a25 s1 s6 s9 s1 s6
noncomputable abbrev k75 : Params → Con := a25 s1 s9 s8 s1 s6
noncomputable abbrev k78 : Params → Con := a25 s1 s6 s6 s7 s6
noncomputable abbrev k82 : Params → Con := a25 s1 s8 s6 s7 s6
noncomputable abbrev k86 : Params → Con := a25 s1 s6 s8 s7 s6
noncomputable abbrev k91 : Params → Con := a25 s7 s9 s6 s1 s8
noncomputable abbrev k101 : Params → Con := a25 s7 s6 s9 s1 s8
noncomputable abbrev k118 : Params → Con := a25 s1 s9 s6 s7 s6
noncomputable abbrev k127 : Params → Con := a25 s1 s6 s9 s7 s6
noncomputable abbrev k130 : Params → Con := a25 s1 s9 s8 s7 s6
noncomputable abbrev k15 : Params → Con := a26 s1 s6 s6 s6 s1 s6
noncomputable abbrev k31 : Params → Con := a26 s1 s8 s6 s6 s1 s6
noncomputable abbrev k40 : Params → Con := a26 s1 s6 s8 s6 s1 s6
noncomputable abbrev k58 : Params → Con := a26 s1 s6 s6 s8 s1 s6
noncomputable abbrev k63 : Params → Con := a26 s1 s8 s6 s8 s1 s6
noncomputable abbrev k79 : Params → Con := a26 s7 s6 s6 s6 s1 s8
noncomputable abbrev k83 : Params → Con := a26 s7 s8 s6 s6 s1 s8
noncomputable abbrev k87 : Params → Con := a26 s7 s6 s8 s6 s1 s8
noncomputable abbrev k107 : Params → Con := a26 s1 s6 s6 s6 s7 s6
noncomputable abbrev k112 : Params → Con := a26 s1 s8 s6 s6 s7 s6
noncomputable abbrev k115 : Params → Con := a26 s1 s6 s8 s6 s7 s6
noncomputable abbrev k121 : Params → Con := a26 s1 s6 s6 s8 s7 s6
noncomputable abbrev k124 : Params → Con := a26 s1 s8 s6 s8 s7 s6
noncomputable abbrev k17 : Params → Con := a27
noncomputable abbrev k19 : Params → Con := a28 s1
noncomputable abbrev k109 : Params → Con := a28 s7
noncomputable abbrev k44 : Params → Con := a29
noncomputable abbrev k51 : Params → Con := a30 s1
noncomputable abbrev k73 : Params → Con := a30 s7
noncomputable abbrev k67 : Params → Con := a31 s6 s1
noncomputable abbrev k100 : Params → Con := a31 s6 s7
noncomputable abbrev k104 : Params → Con := a31 s9 s1
noncomputable abbrev k152 : Params → Con := a31 s9 s7
noncomputable abbrev k94 : Params → Con := a32 s6 s1
noncomputable abbrev k97 : Params → Con := a32 s8 s1
noncomputable abbrev k144 : Params → Con := a32 s6 s7
noncomputable abbrev k147 : Params → Con := a32 s8 s7
noncomputable abbrev k133 : Params → Con := a33
noncomputable abbrev k134 : Params → Con := a34
noncomputable abbrev k155 : Params → Con := a35 s1
noncomputable abbrev k157 : Params → Con := a35 s7
noncomputable abbrev k156 : Params → Con := a36 s1 s1 s6
noncomputable abbrev k158 : Params → Con := a36 s7 s1 s8
noncomputable abbrev k159 : Params → Con := a36 s1 s7 s6
noncomputable abbrev k160 : Params → Con := a37 s1
noncomputable abbrev k161 : Params → Con := a37 s7
noncomputable abbrev k21 : Params → Con := a38 s1 s6 s6 s6 s6 s6
noncomputable abbrev k32 : Params → Con := a38 s1 s8 s6 s6 s6 s6
noncomputable abbrev k41 : Params → Con := a38 s1 s6 s8 s6 s6 s6
noncomputable abbrev k59 : Params → Con := a38 s1 s6 s6 s8 s6 s6
noncomputable abbrev k64 : Params → Con := a38 s1 s8 s6 s8 s6 s6
noncomputable abbrev k80 : Params → Con := a38 s1 s6 s6 s6 s8 s6
noncomputable abbrev k84 : Params → Con := a38 s1 s8 s6 s6 s8 s6
noncomputable abbrev k88 : Params → Con := a38 s1 s6 s8 s6 s8 s6
noncomputable abbrev k110 : Params → Con := a38 s7 s6 s6 s6 s6 s8
noncomputable abbrev k113 : Params → Con := a38 s7 s8 s6 s6 s6 s8
noncomputable abbrev k116 : Params → Con := a38 s7 s6 s8 s6 s6 s8
noncomputable abbrev k122 : Params → Con := a38 s7 s6 s6 s8 s6 s8
noncomputable abbrev k125 : Params → Con := a38 s7 s8 s6 s8 s6 s8
noncomputable abbrev k54 : Params → Con := a39 s1 s9 s6 s6 s6
noncomputable abbrev k69 : Params → Con := a39 s1 s6 s9 s6 s6
noncomputable abbrev k76 : Params → Con := a39 s1 s9 s8 s6 s6
noncomputable abbrev k92 : Params → Con := a39 s1 s9 s6 s8 s6
noncomputable abbrev k95 : Params → Con := a39 s1 s6 s6 s9 s6
noncomputable abbrev k98 : Params → Con := a39 s1 s8 s6 s9 s6
noncomputable abbrev k102 : Params → Con := a39 s1 s6 s9 s8 s6
noncomputable abbrev k119 : Params → Con := a39 s7 s9 s6 s6 s8
noncomputable abbrev k128 : Params → Con := a39 s7 s6 s9 s6 s8
noncomputable abbrev k131 : Params → Con := a39 s7 s9 s8 s6 s8
noncomputable abbrev k145 : Params → Con := a39 s7 s6 s6 s9 s8
noncomputable abbrev k148 : Params → Con := a39 s7 s8 s6 s9 s8
noncomputable abbrev k162 : Params → Con := a39 s1 s8 s6 s6 s6
noncomputable abbrev k166 : Params → Con := a39 s1 s8 s6 s8 s6
noncomputable abbrev k170 : Params → Con := a39 s7 s8 s6 s6 s8
noncomputable abbrev k178 : Params → Con := a39 s1 s6 s8 s6 s6
noncomputable abbrev k182 : Params → Con := a39 s7 s6 s8 s6 s8
noncomputable abbrev k186 : Params → Con := a39 s1 s6 s6 s8 s6
noncomputable abbrev k194 : Params → Con := a39 s7 s6 s6 s6 s8
noncomputable abbrev k105 : Params → Con := a40 s1 s9 s9 s6
noncomputable abbrev k153 : Params → Con := a40 s7 s9 s9 s8
noncomputable abbrev k164 : Params → Con := a40 s1 s9 s6 s6
noncomputable abbrev k168 : Params → Con := a40 s1 s9 s8 s6
noncomputable abbrev k172 : Params → Con := a40 s7 s9 s6 s8
noncomputable abbrev k180 : Params → Con := a40 s1 s6 s9 s6
noncomputable abbrev k184 : Params → Con := a40 s7 s6 s9 s8
noncomputable abbrev k196 : Params → Con := a40 s7 s8 s6 s8
noncomputable abbrev k200 : Params → Con := a40 s1 s8 s6 s6
noncomputable abbrev k204 : Params → Con := a40 s1 s6 s8 s6
noncomputable abbrev k206 : Params → Con := a40 s7 s6 s6 s8
noncomputable abbrev k136 : Params → Con := a41 s6 s6
noncomputable abbrev k138 : Params → Con := a41 s8 s6
noncomputable abbrev k140 : Params → Con := a41 s6 s8
noncomputable abbrev k142 : Params → Con := a42 s9 s6
noncomputable abbrev k150 : Params → Con := a42 s6 s9
noncomputable abbrev k174 : Params → Con := a42 s8 s6
noncomputable abbrev k188 : Params → Con := a42 s6 s6
noncomputable abbrev k176 : Params → Con := a43 s9
noncomputable abbrev k198 : Params → Con := a43 s6
noncomputable abbrev k190 : Params → Con := a44 s1 s9 s6
noncomputable abbrev k192 : Params → Con := a44 s7 s9 s8
noncomputable abbrev k208 : Params → Con := a44 s1 s8 s6
noncomputable abbrev k210 : Params → Con := a44 s7 s6 s8
noncomputable abbrev k202 : Params → Con := a45
noncomputable abbrev k22 : Params → Con := a46 s1 s6 s6 s6 s6 s11 s6
noncomputable abbrev k33 : Params → Con := a46 s1 s8 s6 s6 s6 s12 s6
noncomputable abbrev k42 : Params → Con := a46 s1 s6 s8 s6 s6 s13 s6
noncomputable abbrev k60 : Params → Con := a46 s1 s6 s6 s8 s6 s15 s6
noncomputable abbrev k65 : Params → Con := a46 s1 s8 s6 s8 s6 s16 s6
noncomputable abbrev k81 : Params → Con := a46 s1 s6 s6 s6 s8 s19 s6
noncomputable abbrev k85 : Params → Con := a46 s1 s8 s6 s6 s8 s20 s6
noncomputable abbrev k89 : Params → Con := a46 s1 s6 s8 s6 s8 s21 s6
noncomputable abbrev k111 : Params → Con := a46 s7 s6 s6 s6 s6 s27 s8
noncomputable abbrev k114 : Params → Con := a46 s7 s8 s6 s6 s6 s28 s8
noncomputable abbrev k117 : Params → Con := a46 s7 s6 s8 s6 s6 s29 s8
noncomputable abbrev k123 : Params → Con := a46 s7 s6 s6 s8 s6 s31 s8
noncomputable abbrev k126 : Params → Con := a46 s7 s8 s6 s8 s6 s32 s8
noncomputable abbrev k55 : Params → Con := a47 s1 s9 s6 s6 s14 s6
noncomputable abbrev k70 : Params → Con := a47 s1 s6 s9 s6 s17 s6
noncomputable abbrev k77 : Params → Con := a47 s1 s9 s8 s6 s18 s6
noncomputable abbrev k93 : Params → Con := a47 s1 s9 s6 s8 s22 s6
noncomputable abbrev k96 : Params → Con := a47 s1 s6 s6 s9 s23 s6
noncomputable abbrev k99 : Params → Con := a47 s1 s8 s6 s9 s24 s6
noncomputable abbrev k103 : Params → Con := a47 s1 s6 s9 s8 s25 s6
noncomputable abbrev k120 : Params → Con := a47 s7 s9 s6 s6 s30 s8
noncomputable abbrev k129 : Params → Con := a47 s7 s6 s9 s6 s33 s8
noncomputable abbrev k132 : Params → Con := a47 s7 s9 s8 s6 s34 s8
noncomputable abbrev k146 : Params → Con := a47 s7 s6 s6 s9 s39 s8
noncomputable abbrev k149 : Params → Con := a47 s7 s8 s6 s9 s40 s8
noncomputable abbrev k163 : Params → Con := a47 s1 s8 s6 s6 s43 s6
noncomputable abbrev k167 : Params → Con := a47 s1 s8 s6 s8 s45 s6
noncomputable abbrev k171 : Params → Con := a47 s7 s8 s6 s6 s47 s8
noncomputable abbrev k179 : Params → Con := a47 s1 s6 s8 s6 s51 s6
noncomputable abbrev k183 : Params → Con := a47 s7 s6 s8 s6 s53 s8
noncomputable abbrev k187 : Params → Con := a47 s1 s6 s6 s8 s55 s6
noncomputable abbrev k195 : Params → Con := a47 s7 s6 s6 s6 s59 s8
noncomputable abbrev k106 : Params → Con := a48 s1 s9 s9 s26 s6
noncomputable abbrev k154 : Params → Con := a48 s7 s9 s9 s42 s8
noncomputable abbrev k165 : Params → Con := a48 s1 s9 s6 s44 s6
noncomputable abbrev k169 : Params → Con := a48 s1 s9 s8 s46 s6
noncomputable abbrev k173 : Params → Con := a48 s7 s9 s6 s48 s8
noncomputable abbrev k181 : Params → Con := a48 s1 s6 s9 s52 s6
noncomputable abbrev k185 : Params → Con := a48 s7 s6 s9 s54 s8
noncomputable abbrev k197 : Params → Con := a48 s7 s8 s6 s60 s8
noncomputable abbrev k201 : Params → Con := a48 s1 s8 s6 s62 s6
noncomputable abbrev k205 : Params → Con := a48 s1 s6 s8 s63 s6
noncomputable abbrev k207 : Params → Con := a48 s7 s6 s6 s64 s8
noncomputable abbrev k137 : Params → Con := a49 s6 s6 s35
noncomputable abbrev k139 : Params → Con := a49 s8 s6 s36
noncomputable abbrev k141 : Params → Con := a49 s6 s8 s37
noncomputable abbrev k143 : Params → Con := a50 s9 s6 s38
noncomputable abbrev k151 : Params → Con := a50 s6 s9 s41
noncomputable abbrev k175 : Params → Con := a50 s8 s6 s49
noncomputable abbrev k189 : Params → Con := a50 s6 s6 s56
noncomputable abbrev k177 : Params → Con := a51 s9 s50
noncomputable abbrev k199 : Params → Con := a51 s6 s61
noncomputable abbrev k191 : Params → Con := a52 s1 s9 s57 s6
noncomputable abbrev k193 : Params → Con := a52 s7 s9 s58 s8
noncomputable abbrev k209 : Params → Con := a52 s1 s8 s65 s6
noncomputable abbrev k211 : Params → Con := a52 s7 s6 s66 s8
noncomputable abbrev k203 : Params → Con := a53
theorem ka0 : EN (fun P => []) k0 d0 d1 [] nN n0 ∧ EN (fun P => []) k2 d2 d3 [3] n1 nN ∧ EN (fun P => []) k3 d4 d5 [8, 6, 7] n2 n3 ∧ EN (fun P => []) k5 d2 d3 [3] n1 nN ∧ EN (fun P => []) k6 d6 d7 [] nN n4 ∧ EN (fun P => []) k7 d8 d9 [] nN n5 ∧ EN (fun P => []) k8 d10 d11 [3] n1 nN ∧ EN (fun P => []) k9 d12 d13 [7, 5, 6] n6 n7 ∧ EN (fun P => []) k10 d14 d15 [] nN n5 ∧ EN (fun P => []) k12 d16 d13 [] nN n8 ∧ EN (fun P => []) k16 d8 d9 [] nN n5 ∧ EN (fun P => []) k18 d17 d5 [] nN n9 ∧ EN (fun P => []) k20 d18 d19 [] nN n0 ∧ EN (fun P => []) k23 d2 d3 [3] n1 nN ∧ EN (fun P => []) k24 d4 d5 [8, 6, 7] n2 n3 ∧ EN (fun P => []) k26 d6 d7 [] nN n4 ∧ EN (fun P => []) k27 d12 d13 [7, 5, 6] n6 n7 ∧ EN (fun P => []) k34 d2 d3 [3] n1 nN ∧ EN (fun P => []) k35 d6 d7 [] nN n4 ∧ EN (fun P => []) k37 d16 d13 [] nN n8 ∧ EN (fun P => []) k43 d6 d7 [] nN n4 ∧ EN (fun P => []) k45 d2 d3 [3] n1 nN ∧ EN (fun P => []) k46 d20 d21 [] nN n10 ∧ EN (fun P => []) k47 d8 d9 [] nN n5 := ⟨fun _ _ _ _ _ _ => by kernel_rfl, fun _ _ _ _ _ _ => by kernel_rfl, fun _ _ _ _ _ _ => by kernel_rfl, fun _ _ _ _ _ _ => by kernel_rfl, fun _ _ _ _ _ _ => by kernel_rfl, fun _ _ _ _ _ _ => by kernel_rfl, fun _ _ _ _ _ _ => by kernel_rfl, fun _ _ _ _ _ _ => by kernel_rfl, fun _ _ _ _ _ _ => by kernel_rfl, fun _ _ _ _ _ _ => by kernel_rfl, fun _ _ _ _ _ _ => by kernel_rfl, fun _ _ _ _ _ _ => by kernel_rfl, fun _ _ _ _ _ _ => by kernel_rfl, fun _ _ _ _ _ _ => by kernel_rfl, fun _ _ _ _ _ _ => by kernel_rfl, fun _ _ _ _ _ _ => by kernel_rfl, fun _ _ _ _ _ _ => by kernel_rfl, fun _ _ _ _ _ _ => by kernel_rfl, fun _ _ _ _ _ _ => by kernel_rfl, fun _ _ _ _ _ _ => by kernel_rfl, fun _ _ _ _ _ _ => by kernel_rfl, fun _ _ _ _ _ _ => by kernel_rfl, fun _ _ _ _ _ _ => by kernel_rfl, fun _ _ _ _ _ _ => by kernel_rfl⟩
noncomputable def B0 : BK := mkB [] (ka0.1)
noncomputable def B2 : BK := mkB [] (ka0.2.1)
noncomputable def B3 : BK := mkB [] (ka0.2.2.1)
noncomputable def B5 : BK := mkB [] (ka0.2.2.2.1)
noncomputable def B6 : BK := mkB [] (ka0.2.2.2.2.1)
noncomputable def B7 : BK := mkB [] (ka0.2.2.2.2.2.1)
noncomputable def B8 : BK := mkB [] (ka0.2.2.2.2.2.2.1)
noncomputable def B9 : BK := mkB [] (ka0.2.2.2.2.2.2.2.1)
noncomputable def B10 : BK := mkB [] (ka0.2.2.2.2.2.2.2.2.1)
noncomputable def B12 : BK := mkB [] (ka0.2.2.2.2.2.2.2.2.2.1)
noncomputable def B16 : BK := mkB [] (ka0.2.2.2.2.2.2.2.2.2.2.1)
noncomputable def B18 : BK := mkB [] (ka0.2.2.2.2.2.2.2.2.2.2.2.1)
noncomputable def B20 : BK := mkB [] (ka0.2.2.2.2.2.2.2.2.2.2.2.2.1)
noncomputable def B23 : BK := mkB [] (ka0.2.2.2.2.2.2.2.2.2.2.2.2.2.1)
noncomputable def B24 : BK := mkB [] (ka0.2.2.2.2.2.2.2.2.2.2.2.2.2.2.1)
noncomputable def B26 : BK := mkB [] (ka0.2.2.2.2.2.2.2.2.2.2.2.2.2.2.2.1)
noncomputable def B27 : BK := mkB [] (ka0.2.2.2.2.2.2.2.2.2.2.2.2.2.2.2.2.1)
noncomputable def B34 : BK := mkB [] (ka0.2.2.2.2.2.2.2.2.2.2.2.2.2.2.2.2.2.1)
noncomputable def B35 : BK := mkB [] (ka0.2.2.2.2.2.2.2.2.2.2.2.2.2.2.2.2.2.2.1)
noncomputable def B37 : BK := mkB [] (ka0.2.2.2.2.2.2.2.2.2.2.2.2.2.2.2.2.2.2.2.1)
noncomputable def B43 : BK := mkB [] (ka0.2.2.2.2.2.2.2.2.2.2.2.2.2.2.2.2.2.2.2.2.1)
noncomputable def B45 : BK := mkB [] (ka0.2.2.2.2.2.2.2.2.2.2.2.2.2.2.2.2.2.2.2.2.2.1)
noncomputable def B46 : BK := mkB [] (ka0.2.2.2.2.2.2.2.2.2.2.2.2.2.2.2.2.2.2.2.2.2.2.1)
noncomputable def B47 : BK := mkB [] (ka0.2.2.2.2.2.2.2.2.2.2.2.2.2.2.2.2.2.2.2.2.2.2.2)
theorem ka1 : EN (fun P => []) k48 d10 d11 [3] n1 nN ∧ EN (fun P => []) k49 d22 d23 [8, 6, 7] n2 n11 ∧ EN (fun P => []) k50 d14 d15 [] nN n5 ∧ EN (fun P => []) k66 d24 d23 [] nN n12 ∧ EN (fun P => []) k71 d2 d3 [3] n1 nN ∧ EN (fun P => []) k72 d20 d21 [] nN n10 ∧ EN (fun P => []) k108 d17 d5 [] nN n9 ∧ EN (fun P => []) k135 d18 d19 [] nN n0 ∧ EN (fun P => [k0 P]) k1 d25 d26 [3, 5, 4] n13 n14 ∧ EN (fun P => [k2 P, k3 P]) k4 d27 d28 [6, 7, 8, 9] n15 n16 ∧ EN (fun P => [k5 P, k6 P, k7 P, k8 P, k9 P, k10 P]) k11 d29 d30 [9, 14, 15, 16] n17 n18 ∧ EN (fun P => [k5 P, k6 P, k7 P, k8 P, k12 P, k10 P]) k13 d29 d30 [9] n19 n20 ∧ EN (fun P => [k5 P, k6 P, k7 P, k8 P, k12 P, k10 P]) k14 d29 d30 [9] n19 n20 ∧ EN (fun P => [k5 P, k6 P, k7 P, k8 P, k12 P, k10 P]) k15 d29 d30 [9] n19 n20 ∧ EN (fun P => [k16 P]) k17 d31 d32 [] nN nN ∧ EN (fun P => [k18 P, k12 P]) k19 d33 d34 [] nN nN := ⟨fun _ _ _ _ _ _ => by kernel_rfl, fun _ _ _ _ _ _ => by kernel_rfl, fun _ _ _ _ _ _ => by kernel_rfl, fun _ _ _ _ _ _ => by kernel_rfl, fun _ _ _ _ _ _ => by kernel_rfl, fun _ _ _ _ _ _ => by kernel_rfl, fun _ _ _ _ _ _ => by kernel_rfl, fun _ _ _ _ _ _ => by kernel_rfl, fun _ _ _ _ _ _ => by kernel_rfl, fun _ _ _ _ _ _ => by kernel_rfl, fun _ _ _ _ _ _ => by kernel_rfl, fun _ _ _ _ _ _ => by kernel_rfl, fun _ _ _ _ _ _ => by kernel_rfl, fun _ _ _ _ _ _ => by kernel_rfl, fun _ _ _ _ _ _ => by kernel_rfl, fun _ _ _ _ _ _ => by kernel_rfl⟩
noncomputable def B48 : BK := mkB [] (ka1.1)
noncomputable def B49 : BK := mkB [] (ka1.2.1)
noncomputable def B50 : BK := mkB [] (ka1.2.2.1)
noncomputable def B66 : BK := mkB [] (ka1.2.2.2.1)
noncomputable def B71 : BK := mkB [] (ka1.2.2.2.2.1)
noncomputable def B72 : BK := mkB [] (ka1.2.2.2.2.2.1)
noncomputable def B108 : BK := mkB [] (ka1.2.2.2.2.2.2.1)
noncomputable def B135 : BK := mkB [] (ka1.2.2.2.2.2.2.2.1)
noncomputable def B1 : BK := mkB [B0] (ka1.2.2.2.2.2.2.2.2.1)
noncomputable def B4 : BK := mkB [B2, B3] (ka1.2.2.2.2.2.2.2.2.2.1)
noncomputable def B11 : BK := mkB [B5, B6, B7, B8, B9, B10] (ka1.2.2.2.2.2.2.2.2.2.2.1)
noncomputable def B13 : BK := mkB [B5, B6, B7, B8, B12, B10] (ka1.2.2.2.2.2.2.2.2.2.2.2.1)
noncomputable def B14 : BK := mkB [B5, B6, B7, B8, B12, B10] (ka1.2.2.2.2.2.2.2.2.2.2.2.2.1)
noncomputable def B15 : BK := mkB [B5, B6, B7, B8, B12, B10] (ka1.2.2.2.2.2.2.2.2.2.2.2.2.2.1)
noncomputable def B17 : BK := mkB [B16] (ka1.2.2.2.2.2.2.2.2.2.2.2.2.2.2.1)
noncomputable def B19 : BK := mkB [B18, B12] (ka1.2.2.2.2.2.2.2.2.2.2.2.2.2.2.2)
theorem ka2 : EN (fun P => [k23 P, k24 P]) k25 d27 d28 [6, 7, 8, 9] n15 n16 ∧ EN (fun P => [k5 P, k26 P, k7 P, k8 P, k27 P, k10 P]) k28 d29 d30 [9, 14, 15, 16] n17 n18 ∧ EN (fun P => [k5 P, k6 P, k7 P, k8 P, k12 P, k10 P]) k29 d29 d30 [9] n19 n20 ∧ EN (fun P => [k5 P, k6 P, k7 P, k8 P, k12 P, k10 P]) k30 d29 d30 [9] n19 n20 ∧ EN (fun P => [k5 P, k6 P, k7 P, k8 P, k12 P, k10 P]) k31 d29 d30 [9] n19 n20 ∧ EN (fun P => [k34 P, k35 P, k7 P, k8 P, k9 P, k10 P]) k36 d29 d30 [9, 14, 15, 16] n17 n18 ∧ EN (fun P => [k5 P, k26 P, k7 P, k8 P, k37 P, k10 P]) k38 d29 d30 [9] n19 n20 ∧ EN (fun P => [k5 P, k6 P, k7 P, k8 P, k12 P, k10 P]) k39 d29 d30 [9] n19 n20 := ⟨fun _ _ _ _ _ _ => by kernel_rfl, fun _ _ _ _ _ _ => by kernel_rfl, fun _ _ _ _ _ _ => by kernel_rfl, fun _ _ _ _ _ _ => by kernel_rfl, fun _ _ _ _ _ _ => by kernel_rfl, fun _ _ _ _ _ _ => by kernel_rfl, fun _ _ _ _ _ _ => by kernel_rfl, fun _ _ _ _ _ _ => by kernel_rfl⟩
noncomputable def B25 : BK := mkB [B23, B24] (ka2.1)
noncomputable def B28 : BK := mkB [B5, B26, B7, B8, B27, B10] (ka2.2.1)
noncomputable def B29 : BK := mkB [B5, B6, B7, B8, B12, B10] (ka2.2.2.1)
noncomputable def B30 : BK := mkB [B5, B6, B7, B8, B12, B10] (ka2.2.2.2.1)
noncomputable def B31 : BK := mkB [B5, B6, B7, B8, B12, B10] (ka2.2.2.2.2.1)
noncomputable def B36 : BK := mkB [B34, B35, B7, B8, B9, B10] (ka2.2.2.2.2.2.1)
noncomputable def B38 : BK := mkB [B5, B26, B7, B8, B37, B10] (ka2.2.2.2.2.2.2.1)
noncomputable def B39 : BK := mkB [B5, B6, B7, B8, B12, B10] (ka2.2.2.2.2.2.2.2)
theorem ka3 : EN (fun P => [k5 P, k6 P, k7 P, k8 P, k12 P, k10 P]) k40 d29 d30 [9] n19 n20 ∧ EN (fun P => [k34 P, k43 P]) k44 d35 d28 [7] n21 nN ∧ EN (fun P => [k45 P, k46 P, k47 P, k48 P, k49 P, k50 P]) k51 d36 d30 [10, 15, 16, 17] n22 n18 ∧ EN (fun P => [k5 P, k6 P, k7 P, k8 P, k12 P, k10 P]) k52 d29 d30 [9] n19 n20 ∧ EN (fun P => [k5 P, k6 P, k7 P, k8 P, k12 P, k10 P]) k53 d29 d30 [9] n19 n20 ∧ EN (fun P => [k34 P, k35 P, k7 P, k8 P, k12 P, k10 P]) k56 d29 d30 [9] n19 n20 ∧ EN (fun P => [k5 P, k26 P, k7 P, k8 P, k37 P, k10 P]) k57 d29 d30 [9] n19 n20 ∧ EN (fun P => [k5 P, k6 P, k7 P, k8 P, k12 P, k10 P]) k58 d29 d30 [9] n19 n20 := ⟨fun _ _ _ _ _ _ => by kernel_rfl, fun _ _ _ _ _ _ => by kernel_rfl, fun _ _ _ _ _ _ => by kernel_rfl, fun _ _ _ _ _ _ => by kernel_rfl, fun _ _ _ _ _ _ => by kernel_rfl, fun _ _ _ _ _ _ => by kernel_rfl, fun _ _ _ _ _ _ => by kernel_rfl, fun _ _ _ _ _ _ => by kernel_rfl⟩
noncomputable def B40 : BK := mkB [B5, B6, B7, B8, B12, B10] (ka3.1)
noncomputable def B44 : BK := mkB [B34, B43] (ka3.2.1)
noncomputable def B51 : BK := mkB [B45, B46, B47, B48, B49, B50] (ka3.2.2.1)
noncomputable def B52 : BK := mkB [B5, B6, B7, B8, B12, B10] (ka3.2.2.2.1)
noncomputable def B53 : BK := mkB [B5, B6, B7, B8, B12, B10] (ka3.2.2.2.2.1)
noncomputable def B56 : BK := mkB [B34, B35, B7, B8, B12, B10] (ka3.2.2.2.2.2.1)
noncomputable def B57 : BK := mkB [B5, B26, B7, B8, B37, B10] (ka3.2.2.2.2.2.2.1)
noncomputable def B58 : BK := mkB [B5, B6, B7, B8, B12, B10] (ka3.2.2.2.2.2.2.2)
theorem ka4 : EN (fun P => [k34 P, k35 P, k7 P, k8 P, k12 P, k10 P]) k61 d29 d30 [9] n19 n20 ∧ EN (fun P => [k5 P, k26 P, k7 P, k8 P, k37 P, k10 P]) k62 d29 d30 [9] n19 n20 ∧ EN (fun P => [k5 P, k6 P, k7 P, k8 P, k12 P, k10 P]) k63 d29 d30 [9] n19 n20 ∧ EN (fun P => [k45 P, k46 P, k47 P, k48 P, k66 P, k50 P]) k67 d36 d30 [10] n23 n20 ∧ EN (fun P => [k5 P, k6 P, k7 P, k8 P, k12 P, k10 P]) k68 d29 d30 [9] n19 n20 ∧ EN (fun P => [k71 P, k72 P, k47 P, k48 P, k49 P, k50 P]) k73 d36 d30 [10, 15, 16, 17] n22 n18 ∧ EN (fun P => [k5 P, k26 P, k7 P, k8 P, k37 P, k10 P]) k74 d29 d30 [9] n19 n20 ∧ EN (fun P => [k5 P, k6 P, k7 P, k8 P, k12 P, k10 P]) k75 d29 d30 [9] n19 n20 := ⟨fun _ _ _ _ _ _ => by kernel_rfl, fun _ _ _ _ _ _ => by kernel_rfl, fun _ _ _ _ _ _ => by kernel_rfl, fun _ _ _ _ _ _ => by kernel_rfl, fun _ _ _ _ _ _ => by kernel_rfl, fun _ _ _ _ _ _ => by kernel_rfl, fun _ _ _ _ _ _ => by kernel_rfl, fun _ _ _ _ _ _ => by kernel_rfl⟩
noncomputable def B61 : BK := mkB [B34, B35, B7, B8, B12, B10] (ka4.1)
noncomputable def B62 : BK := mkB [B5, B26, B7, B8, B37, B10] (ka4.2.1)
noncomputable def B63 : BK := mkB [B5, B6, B7, B8, B12, B10] (ka4.2.2.1)
noncomputable def B67 : BK := mkB [B45, B46, B47, B48, B66, B50] (ka4.2.2.2.1)
noncomputable def B68 : BK := mkB [B5, B6, B7, B8, B12, B10] (ka4.2.2.2.2.1)
noncomputable def B73 : BK := mkB [B71, B72, B47, B48, B49, B50] (ka4.2.2.2.2.2.1)
noncomputable def B74 : BK := mkB [B5, B26, B7, B8, B37, B10] (ka4.2.2.2.2.2.2.1)
noncomputable def B75 : BK := mkB [B5, B6, B7, B8, B12, B10] (ka4.2.2.2.2.2.2.2)
theorem ka5 : EN (fun P => [k34 P, k35 P, k7 P, k8 P, k12 P, k10 P]) k78 d29 d30 [9] n19 n20 ∧ EN (fun P => [k5 P, k26 P, k7 P, k8 P, k37 P, k10 P]) k79 d29 d30 [9] n19 n20 ∧ EN (fun P => [k34 P, k35 P, k7 P, k8 P, k12 P, k10 P]) k82 d29 d30 [9] n19 n20 ∧ EN (fun P => [k5 P, k26 P, k7 P, k8 P, k37 P, k10 P]) k83 d29 d30 [9] n19 n20 ∧ EN (fun P => [k34 P, k35 P, k7 P, k8 P, k12 P, k10 P]) k86 d29 d30 [9] n19 n20 ∧ EN (fun P => [k5 P, k26 P, k7 P, k8 P, k37 P, k10 P]) k87 d29 d30 [9] n19 n20 ∧ EN (fun P => [k34 P, k35 P, k7 P, k8 P, k12 P, k10 P]) k90 d29 d30 [9] n19 n20 ∧ EN (fun P => [k5 P, k26 P, k7 P, k8 P, k37 P, k10 P]) k91 d29 d30 [9] n19 n20 := ⟨fun _ _ _ _ _ _ => by kernel_rfl, fun _ _ _ _ _ _ => by kernel_rfl, fun _ _ _ _ _ _ => by kernel_rfl, fun _ _ _ _ _ _ => by kernel_rfl, fun _ _ _ _ _ _ => by kernel_rfl, fun _ _ _ _ _ _ => by kernel_rfl, fun _ _ _ _ _ _ => by kernel_rfl, fun _ _ _ _ _ _ => by kernel_rfl⟩
noncomputable def B78 : BK := mkB [B34, B35, B7, B8, B12, B10] (ka5.1)
noncomputable def B79 : BK := mkB [B5, B26, B7, B8, B37, B10] (ka5.2.1)
noncomputable def B82 : BK := mkB [B34, B35, B7, B8, B12, B10] (ka5.2.2.1)
noncomputable def B83 : BK := mkB [B5, B26, B7, B8, B37, B10] (ka5.2.2.2.1)
noncomputable def B86 : BK := mkB [B34, B35, B7, B8, B12, B10] (ka5.2.2.2.2.1)
noncomputable def B87 : BK := mkB [B5, B26, B7, B8, B37, B10] (ka5.2.2.2.2.2.1)
noncomputable def B90 : BK := mkB [B34, B35, B7, B8, B12, B10] (ka5.2.2.2.2.2.2.1)
noncomputable def B91 : BK := mkB [B5, B26, B7, B8, B37, B10] (ka5.2.2.2.2.2.2.2)
theorem ka6 : EN (fun P => [k45 P, k46 P, k47 P, k48 P, k66 P, k50 P]) k94 d36 d30 [10] n23 n20 ∧ EN (fun P => [k45 P, k46 P, k47 P, k48 P, k66 P, k50 P]) k97 d36 d30 [10] n23 n20 ∧ EN (fun P => [k71 P, k72 P, k47 P, k48 P, k66 P, k50 P]) k100 d36 d30 [10] n23 n20 ∧ EN (fun P => [k5 P, k26 P, k7 P, k8 P, k37 P, k10 P]) k101 d29 d30 [9] n19 n20 ∧ EN (fun P => [k45 P, k46 P, k47 P, k48 P, k66 P, k50 P]) k104 d36 d30 [10] n23 n20 ∧ EN (fun P => [k34 P, k35 P, k7 P, k8 P, k12 P, k10 P]) k107 d29 d30 [9] n19 n20 ∧ EN (fun P => [k108 P, k37 P]) k109 d33 d34 [] nN nN ∧ EN (fun P => [k34 P, k35 P, k7 P, k8 P, k12 P, k10 P]) k112 d29 d30 [9] n19 n20 ∧ EN (fun P => [k34 P, k35 P, k7 P, k8 P, k12 P, k10 P]) k115 d29 d30 [9] n19 n20 := ⟨fun _ _ _ _ _ _ => by kernel_rfl, fun _ _ _ _ _ _ => by kernel_rfl, fun _ _ _ _ _ _ => by kernel_rfl, fun _ _ _ _ _ _ => by kernel_rfl, fun _ _ _ _ _ _ => by kernel_rfl, fun _ _ _ _ _ _ => by kernel_rfl, fun _ _ _ _ _ _ => by kernel_rfl, fun _ _ _ _ _ _ => by kernel_rfl, fun _ _ _ _ _ _ => by kernel_rfl⟩
noncomputable def B94 : BK := mkB [B45, B46, B47, B48, B66, B50] (ka6.1)
noncomputable def B97 : BK := mkB [B45, B46, B47, B48, B66, B50] (ka6.2.1)
noncomputable def B100 : BK := mkB [B71, B72, B47, B48, B66, B50] (ka6.2.2.1)
noncomputable def B101 : BK := mkB [B5, B26, B7, B8, B37, B10] (ka6.2.2.2.1)
noncomputable def B104 : BK := mkB [B45, B46, B47, B48, B66, B50] (ka6.2.2.2.2.1)
noncomputable def B107 : BK := mkB [B34, B35, B7, B8, B12, B10] (ka6.2.2.2.2.2.1)
noncomputable def B109 : BK := mkB [B108, B37] (ka6.2.2.2.2.2.2.1)
noncomputable def B112 : BK := mkB [B34, B35, B7, B8, B12, B10] (ka6.2.2.2.2.2.2.2.1)
noncomputable def B115 : BK := mkB [B34, B35, B7, B8, B12, B10] (ka6.2.2.2.2.2.2.2.2)
theorem ka7 : EN (fun P => [k34 P, k35 P, k7 P, k8 P, k12 P, k10 P]) k118 d29 d30 [9] n19 n20 ∧ EN (fun P => [k34 P, k35 P, k7 P, k8 P, k12 P, k10 P]) k121 d29 d30 [9] n19 n20 ∧ EN (fun P => [k34 P, k35 P, k7 P, k8 P, k12 P, k10 P]) k124 d29 d30 [9] n19 n20 ∧ EN (fun P => [k34 P, k35 P, k7 P, k8 P, k12 P, k10 P]) k127 d29 d30 [9] n19 n20 ∧ EN (fun P => [k34 P, k35 P, k7 P, k8 P, k12 P, k10 P]) k130 d29 d30 [9] n19 n20 ∧ EN (fun P => [k7 P]) k133 d31 d32 [] nN nN ∧ EN (fun P => [k43 P, k66 P]) k134 d37 d34 [] nN nN ∧ EN (fun P => [k71 P, k72 P, k47 P, k48 P, k66 P, k50 P]) k144 d36 d30 [10] n23 n20 ∧ EN (fun P => [k71 P, k72 P, k47 P, k48 P, k66 P, k50 P]) k147 d36 d30 [10] n23 n20 := ⟨fun _ _ _ _ _ _ => by kernel_rfl, fun _ _ _ _ _ _ => by kernel_rfl, fun _ _ _ _ _ _ => by kernel_rfl, fun _ _ _ _ _ _ => by kernel_rfl, fun _ _ _ _ _ _ => by kernel_rfl, fun _ _ _ _ _ _ => by kernel_rfl, fun _ _ _ _ _ _ => by kernel_rfl, fun _ _ _ _ _ _ => by kernel_rfl, fun _ _ _ _ _ _ => by kernel_rfl⟩
noncomputable def B118 : BK := mkB [B34, B35, B7, B8, B12, B10] (ka7.1)
noncomputable def B121 : BK := mkB [B34, B35, B7, B8, B12, B10] (ka7.2.1)
noncomputable def B124 : BK := mkB [B34, B35, B7, B8, B12, B10] (ka7.2.2.1)
noncomputable def B127 : BK := mkB [B34, B35, B7, B8, B12, B10] (ka7.2.2.2.1)
noncomputable def B130 : BK := mkB [B34, B35, B7, B8, B12, B10] (ka7.2.2.2.2.1)
noncomputable def B133 : BK := mkB [B7] (ka7.2.2.2.2.2.1)
noncomputable def B134 : BK := mkB [B43, B66] (ka7.2.2.2.2.2.2.1)
noncomputable def B144 : BK := mkB [B71, B72, B47, B48, B66, B50] (ka7.2.2.2.2.2.2.2.1)
noncomputable def B147 : BK := mkB [B71, B72, B47, B48, B66, B50] (ka7.2.2.2.2.2.2.2.2)
theorem ka8 : EN (fun P => [k71 P, k72 P, k47 P, k48 P, k66 P, k50 P]) k152 d36 d30 [10] n23 n20 ∧ EN (fun P => [k2 P, k18 P]) k155 d27 d28 [6] n24 nN ∧ EN (fun P => [k5 P, k6 P, k7 P, k8 P, k12 P, k10 P]) k156 d29 d30 [9] n19 n20 ∧ EN (fun P => [k23 P, k108 P]) k157 d27 d28 [6] n24 nN ∧ EN (fun P => [k5 P, k26 P, k7 P, k8 P, k37 P, k10 P]) k158 d29 d30 [9] n19 n20 ∧ EN (fun P => [k34 P, k35 P, k7 P, k8 P, k12 P, k10 P]) k159 d29 d30 [9] n19 n20 ∧ EN (fun P => [k45 P, k46 P, k47 P, k48 P, k66 P, k50 P]) k160 d36 d30 [10] n23 n20 ∧ EN (fun P => [k71 P, k72 P, k47 P, k48 P, k66 P, k50 P]) k161 d36 d30 [10] n23 n20 ∧ EN (fun P => [k17 P, k2 P, k18 P, k19 P, k12 P, k20 P]) k21 d38 d39 [] nN n25 ∧ EN (fun P => [k17 P, k2 P, k18 P, k19 P, k12 P, k20 P]) k32 d38 d39 [] nN n25 := ⟨fun _ _ _ _ _ _ => by kernel_rfl, fun _ _ _ _ _ _ => by kernel_rfl, fun _ _ _ _ _ _ => by kernel_rfl, fun _ _ _ _ _ _ => by kernel_rfl, fun _ _ _ _ _ _ => by kernel_rfl, fun _ _ _ _ _ _ => by kernel_rfl, fun _ _ _ _ _ _ => by kernel_rfl, fun _ _ _ _ _ _ => by kernel_rfl, fun _ _ _ _ _ _ => by kernel_rfl, fun _ _ _ _ _ _ => by kernel_rfl⟩
noncomputable def B152 : BK := mkB [B71, B72, B47, B48, B66, B50] (ka8.1)
noncomputable def B155 : BK := mkB [B2, B18] (ka8.2.1)
noncomputable def B156 : BK := mkB [B5, B6, B7, B8, B12, B10] (ka8.2.2.1)
noncomputable def B157 : BK := mkB [B23, B108] (ka8.2.2.2.1)
noncomputable def B158 : BK := mkB [B5, B26, B7, B8, B37, B10] (ka8.2.2.2.2.1)
noncomputable def B159 : BK := mkB [B34, B35, B7, B8, B12, B10] (ka8.2.2.2.2.2.1)
noncomputable def B160 : BK := mkB [B45, B46, B47, B48, B66, B50] (ka8.2.2.2.2.2.2.1)
noncomputable def B161 : BK := mkB [B71, B72, B47, B48, B66, B50] (ka8.2.2.2.2.2.2.2.1)
noncomputable def B21 : BK := mkB [B17, B2, B18, B19, B12, B20] (ka8.2.2.2.2.2.2.2.2.1)
noncomputable def B32 : BK := mkB [B17, B2, B18, B19, B12, B20] (ka8.2.2.2.2.2.2.2.2.2)
theorem ka9 : EN (fun P => [k17 P, k2 P, k18 P, k19 P, k12 P, k20 P]) k41 d38 d39 [] nN n25 ∧ EN (fun P => [k17 P, k2 P, k18 P, k19 P, k12 P, k20 P]) k54 d38 d39 [] nN n25 ∧ EN (fun P => [k17 P, k2 P, k18 P, k19 P, k12 P, k20 P]) k59 d38 d39 [] nN n25 ∧ EN (fun P => [k17 P, k2 P, k18 P, k19 P, k12 P, k20 P]) k64 d38 d39 [] nN n25 ∧ EN (fun P => [k17 P, k2 P, k18 P, k19 P, k12 P, k20 P]) k69 d38 d39 [] nN n25 ∧ EN (fun P => [k17 P, k2 P, k18 P, k19 P, k12 P, k20 P]) k76 d38 d39 [] nN n25 ∧ EN (fun P => [k17 P, k2 P, k18 P, k19 P, k12 P, k20 P]) k80 d38 d39 [] nN n25 ∧ EN (fun P => [k17 P, k2 P, k18 P, k19 P, k12 P, k20 P]) k84 d38 d39 [] nN n25 ∧ EN (fun P => [k17 P, k2 P, k18 P, k19 P, k12 P, k20 P]) k88 d38 d39 [] nN n25 ∧ EN (fun P => [k17 P, k2 P, k18 P, k19 P, k12 P, k20 P]) k92 d38 d39 [] nN n25 ∧ EN (fun P => [k17 P, k2 P, k18 P, k19 P, k12 P, k20 P]) k95 d38 d39 [] nN n25 := ⟨fun _ _ _ _ _ _ => by kernel_rfl, fun _ _ _ _ _ _ => by kernel_rfl, fun _ _ _ _ _ _ => by kernel_rfl, fun _ _ _ _ _ _ => by kernel_rfl, fun _ _ _ _ _ _ => by kernel_rfl, fun _ _ _ _ _ _ => by kernel_rfl, fun _ _ _ _ _ _ => by kernel_rfl, fun _ _ _ _ _ _ => by kernel_rfl, fun _ _ _ _ _ _ => by kernel_rfl, fun _ _ _ _ _ _ => by kernel_rfl, fun _ _ _ _ _ _ => by kernel_rfl⟩
noncomputable def B41 : BK := mkB [B17, B2, B18, B19, B12, B20] (ka9.1)
noncomputable def B54 : BK := mkB [B17, B2, B18, B19, B12, B20] (ka9.2.1)
noncomputable def B59 : BK := mkB [B17, B2, B18, B19, B12, B20] (ka9.2.2.1)
noncomputable def B64 : BK := mkB [B17, B2, B18, B19, B12, B20] (ka9.2.2.2.1)
noncomputable def B69 : BK := mkB [B17, B2, B18, B19, B12, B20] (ka9.2.2.2.2.1)
noncomputable def B76 : BK := mkB [B17, B2, B18, B19, B12, B20] (ka9.2.2.2.2.2.1)
noncomputable def B80 : BK := mkB [B17, B2, B18, B19, B12, B20] (ka9.2.2.2.2.2.2.1)
noncomputable def B84 : BK := mkB [B17, B2, B18, B19, B12, B20] (ka9.2.2.2.2.2.2.2.1)
noncomputable def B88 : BK := mkB [B17, B2, B18, B19, B12, B20] (ka9.2.2.2.2.2.2.2.2.1)
noncomputable def B92 : BK := mkB [B17, B2, B18, B19, B12, B20] (ka9.2.2.2.2.2.2.2.2.2.1)
noncomputable def B95 : BK := mkB [B17, B2, B18, B19, B12, B20] (ka9.2.2.2.2.2.2.2.2.2.2)
theorem ka10 : EN (fun P => [k17 P, k2 P, k18 P, k19 P, k12 P, k20 P]) k98 d38 d39 [] nN n25 ∧ EN (fun P => [k17 P, k2 P, k18 P, k19 P, k12 P, k20 P]) k102 d38 d39 [] nN n25 ∧ EN (fun P => [k17 P, k2 P, k18 P, k19 P, k12 P, k20 P]) k105 d38 d39 [] nN n25 ∧ EN (fun P => [k17 P, k23 P, k108 P, k109 P, k37 P, k20 P]) k110 d38 d39 [] nN n25 ∧ EN (fun P => [k17 P, k23 P, k108 P, k109 P, k37 P, k20 P]) k113 d38 d39 [] nN n25 ∧ EN (fun P => [k17 P, k23 P, k108 P, k109 P, k37 P, k20 P]) k116 d38 d39 [] nN n25 ∧ EN (fun P => [k17 P, k23 P, k108 P, k109 P, k37 P, k20 P]) k119 d38 d39 [] nN n25 ∧ EN (fun P => [k17 P, k23 P, k108 P, k109 P, k37 P, k20 P]) k122 d38 d39 [] nN n25 ∧ EN (fun P => [k17 P, k23 P, k108 P, k109 P, k37 P, k20 P]) k125 d38 d39 [] nN n25 ∧ EN (fun P => [k17 P, k23 P, k108 P, k109 P, k37 P, k20 P]) k128 d38 d39 [] nN n25 ∧ EN (fun P => [k17 P, k23 P, k108 P, k109 P, k37 P, k20 P]) k131 d38 d39 [] nN n25 := ⟨fun _ _ _ _ _ _ => by kernel_rfl, fun _ _ _ _ _ _ => by kernel_rfl, fun _ _ _ _ _ _ => by kernel_rfl, fun _ _ _ _ _ _ => by kernel_rfl, fun _ _ _ _ _ _ => by kernel_rfl, fun _ _ _ _ _ _ => by kernel_rfl, fun _ _ _ _ _ _ => by kernel_rfl, fun _ _ _ _ _ _ => by kernel_rfl, fun _ _ _ _ _ _ => by kernel_rfl, fun _ _ _ _ _ _ => by kernel_rfl, fun _ _ _ _ _ _ => by kernel_rfl⟩
noncomputable def B98 : BK := mkB [B17, B2, B18, B19, B12, B20] (ka10.1)
noncomputable def B102 : BK := mkB [B17, B2, B18, B19, B12, B20] (ka10.2.1)
noncomputable def B105 : BK := mkB [B17, B2, B18, B19, B12, B20] (ka10.2.2.1)
noncomputable def B110 : BK := mkB [B17, B23, B108, B109, B37, B20] (ka10.2.2.2.1)
noncomputable def B113 : BK := mkB [B17, B23, B108, B109, B37, B20] (ka10.2.2.2.2.1)
noncomputable def B116 : BK := mkB [B17, B23, B108, B109, B37, B20] (ka10.2.2.2.2.2.1)
noncomputable def B119 : BK := mkB [B17, B23, B108, B109, B37, B20] (ka10.2.2.2.2.2.2.1)
noncomputable def B122 : BK := mkB [B17, B23, B108, B109, B37, B20] (ka10.2.2.2.2.2.2.2.1)
noncomputable def B125 : BK := mkB [B17, B23, B108, B109, B37, B20] (ka10.2.2.2.2.2.2.2.2.1)
noncomputable def B128 : BK := mkB [B17, B23, B108, B109, B37, B20] (ka10.2.2.2.2.2.2.2.2.2.1)
noncomputable def B131 : BK := mkB [B17, B23, B108, B109, B37, B20] (ka10.2.2.2.2.2.2.2.2.2.2)
theorem ka11 : EN (fun P => [k133 P, k34 P, k43 P, k134 P, k66 P, k135 P]) k136 d40 d39 [] nN n25 ∧ EN (fun P => [k133 P, k34 P, k43 P, k134 P, k66 P, k135 P]) k138 d40 d39 [] nN n25 ∧ EN (fun P => [k133 P, k34 P, k43 P, k134 P, k66 P, k135 P]) k140 d40 d39 [] nN n25 ∧ EN (fun P => [k133 P, k34 P, k43 P, k134 P, k66 P, k135 P]) k142 d40 d39 [] nN n25 ∧ EN (fun P => [k17 P, k23 P, k108 P, k109 P, k37 P, k20 P]) k145 d38 d39 [] nN n25 ∧ EN (fun P => [k17 P, k23 P, k108 P, k109 P, k37 P, k20 P]) k148 d38 d39 [] nN n25 ∧ EN (fun P => [k133 P, k34 P, k43 P, k134 P, k66 P, k135 P]) k150 d40 d39 [] nN n25 ∧ EN (fun P => [k17 P, k23 P, k108 P, k109 P, k37 P, k20 P]) k153 d38 d39 [] nN n25 ∧ EN (fun P => [k17 P, k2 P, k18 P, k19 P, k12 P, k20 P]) k162 d38 d39 [] nN n25 ∧ EN (fun P => [k17 P, k2 P, k18 P, k19 P, k12 P, k20 P]) k164 d38 d39 [] nN n25 := ⟨fun _ _ _ _ _ _ => by kernel_rfl, fun _ _ _ _ _ _ => by kernel_rfl, fun _ _ _ _ _ _ => by kernel_rfl, fun _ _ _ _ _ _ => by kernel_rfl, fun _ _ _ _ _ _ => by kernel_rfl, fun _ _ _ _ _ _ => by kernel_rfl, fun _ _ _ _ _ _ => by kernel_rfl, fun _ _ _ _ _ _ => by kernel_rfl, fun _ _ _ _ _ _ => by kernel_rfl, fun _ _ _ _ _ _ => by kernel_rfl⟩
noncomputable def B136 : BK := mkB [B133, B34, B43, B134, B66, B135] (ka11.1)
noncomputable def B138 : BK := mkB [B133, B34, B43, B134, B66, B135] (ka11.2.1)
noncomputable def B140 : BK := mkB [B133, B34, B43, B134, B66, B135] (ka11.2.2.1)
noncomputable def B142 : BK := mkB [B133, B34, B43, B134, B66, B135] (ka11.2.2.2.1)
noncomputable def B145 : BK := mkB [B17, B23, B108, B109, B37, B20] (ka11.2.2.2.2.1)
noncomputable def B148 : BK := mkB [B17, B23, B108, B109, B37, B20] (ka11.2.2.2.2.2.1)
noncomputable def B150 : BK := mkB [B133, B34, B43, B134, B66, B135] (ka11.2.2.2.2.2.2.1)
noncomputable def B153 : BK := mkB [B17, B23, B108, B109, B37, B20] (ka11.2.2.2.2.2.2.2.1)
noncomputable def B162 : BK := mkB [B17, B2, B18, B19, B12, B20] (ka11.2.2.2.2.2.2.2.2.1)
noncomputable def B164 : BK := mkB [B17, B2, B18, B19, B12, B20] (ka11.2.2.2.2.2.2.2.2.2)
theorem ka12 : EN (fun P => [k17 P, k2 P, k18 P, k19 P, k12 P, k20 P]) k166 d38 d39 [] nN n25 ∧ EN (fun P => [k17 P, k2 P, k18 P, k19 P, k12 P, k20 P]) k168 d38 d39 [] nN n25 ∧ EN (fun P => [k17 P, k23 P, k108 P, k109 P, k37 P, k20 P]) k170 d38 d39 [] nN n25 ∧ EN (fun P => [k17 P, k23 P, k108 P, k109 P, k37 P, k20 P]) k172 d38 d39 [] nN n25 ∧ EN (fun P => [k133 P, k34 P, k43 P, k134 P, k66 P, k135 P]) k174 d40 d39 [] nN n25 ∧ EN (fun P => [k133 P, k34 P, k43 P, k134 P, k66 P, k135 P]) k176 d40 d39 [] nN n25 ∧ EN (fun P => [k17 P, k2 P, k18 P, k19 P, k12 P, k20 P]) k178 d38 d39 [] nN n25 ∧ EN (fun P => [k17 P, k2 P, k18 P, k19 P, k12 P, k20 P]) k180 d38 d39 [] nN n25 ∧ EN (fun P => [k17 P, k23 P, k108 P, k109 P, k37 P, k20 P]) k182 d38 d39 [] nN n25 ∧ EN (fun P => [k17 P, k23 P, k108 P, k109 P, k37 P, k20 P]) k184 d38 d39 [] nN n25 := ⟨fun _ _ _ _ _ _ => by kernel_rfl, fun _ _ _ _ _ _ => by kernel_rfl, fun _ _ _ _ _ _ => by kernel_rfl, fun _ _ _ _ _ _ => by kernel_rfl, fun _ _ _ _ _ _ => by kernel_rfl, fun _ _ _ _ _ _ => by kernel_rfl, fun _ _ _ _ _ _ => by kernel_rfl, fun _ _ _ _ _ _ => by kernel_rfl, fun _ _ _ _ _ _ => by kernel_rfl, fun _ _ _ _ _ _ => by kernel_rfl⟩
noncomputable def B166 : BK := mkB [B17, B2, B18, B19, B12, B20] (ka12.1)
noncomputable def B168 : BK := mkB [B17, B2, B18, B19, B12, B20] (ka12.2.1)
noncomputable def B170 : BK := mkB [B17, B23, B108, B109, B37, B20] (ka12.2.2.1)
noncomputable def B172 : BK := mkB [B17, B23, B108, B109, B37, B20] (ka12.2.2.2.1)
noncomputable def B174 : BK := mkB [B133, B34, B43, B134, B66, B135] (ka12.2.2.2.2.1)
noncomputable def B176 : BK := mkB [B133, B34, B43, B134, B66, B135] (ka12.2.2.2.2.2.1)
noncomputable def B178 : BK := mkB [B17, B2, B18, B19, B12, B20] (ka12.2.2.2.2.2.2.1)
noncomputable def B180 : BK := mkB [B17, B2, B18, B19, B12, B20] (ka12.2.2.2.2.2.2.2.1)
noncomputable def B182 : BK := mkB [B17, B23, B108, B109, B37, B20] (ka12.2.2.2.2.2.2.2.2.1)
noncomputable def B184 : BK := mkB [B17, B23, B108, B109, B37, B20] (ka12.2.2.2.2.2.2.2.2.2)
theorem ka13 : EN (fun P => [k17 P, k2 P, k18 P, k19 P, k12 P, k20 P]) k186 d38 d39 [] nN n25 ∧ EN (fun P => [k133 P, k34 P, k43 P, k134 P, k66 P, k135 P]) k188 d40 d39 [] nN n25 ∧ EN (fun P => [k17 P, k2 P, k18 P, k19 P, k12 P, k20 P]) k190 d38 d39 [] nN n25 ∧ EN (fun P => [k17 P, k23 P, k108 P, k109 P, k37 P, k20 P]) k192 d38 d39 [] nN n25 ∧ EN (fun P => [k17 P, k23 P, k108 P, k109 P, k37 P, k20 P]) k194 d38 d39 [] nN n25 ∧ EN (fun P => [k17 P, k23 P, k108 P, k109 P, k37 P, k20 P]) k196 d38 d39 [] nN n25 ∧ EN (fun P => [k133 P, k34 P, k43 P, k134 P, k66 P, k135 P]) k198 d40 d39 [] nN n25 ∧ EN (fun P => [k17 P, k2 P, k18 P, k19 P, k12 P, k20 P]) k200 d38 d39 [] nN n25 ∧ EN (fun P => [k133 P, k34 P, k43 P, k134 P, k66 P, k135 P]) k202 d40 d39 [] nN n25 ∧ EN (fun P => [k17 P, k2 P, k18 P, k19 P, k12 P, k20 P]) k204 d38 d39 [] nN n25 := ⟨fun _ _ _ _ _ _ => by kernel_rfl, fun _ _ _ _ _ _ => by kernel_rfl, fun _ _ _ _ _ _ => by kernel_rfl, fun _ _ _ _ _ _ => by kernel_rfl, fun _ _ _ _ _ _ => by kernel_rfl, fun _ _ _ _ _ _ => by kernel_rfl, fun _ _ _ _ _ _ => by kernel_rfl, fun _ _ _ _ _ _ => by kernel_rfl, fun _ _ _ _ _ _ => by kernel_rfl, fun _ _ _ _ _ _ => by kernel_rfl⟩
noncomputable def B186 : BK := mkB [B17, B2, B18, B19, B12, B20] (ka13.1)
noncomputable def B188 : BK := mkB [B133, B34, B43, B134, B66, B135] (ka13.2.1)
noncomputable def B190 : BK := mkB [B17, B2, B18, B19, B12, B20] (ka13.2.2.1)
noncomputable def B192 : BK := mkB [B17, B23, B108, B109, B37, B20] (ka13.2.2.2.1)
noncomputable def B194 : BK := mkB [B17, B23, B108, B109, B37, B20] (ka13.2.2.2.2.1)
noncomputable def B196 : BK := mkB [B17, B23, B108, B109, B37, B20] (ka13.2.2.2.2.2.1)
noncomputable def B198 : BK := mkB [B133, B34, B43, B134, B66, B135] (ka13.2.2.2.2.2.2.1)
noncomputable def B200 : BK := mkB [B17, B2, B18, B19, B12, B20] (ka13.2.2.2.2.2.2.2.1)
noncomputable def B202 : BK := mkB [B133, B34, B43, B134, B66, B135] (ka13.2.2.2.2.2.2.2.2.1)
noncomputable def B204 : BK := mkB [B17, B2, B18, B19, B12, B20] (ka13.2.2.2.2.2.2.2.2.2)
theorem ka14 : EN (fun P => [k17 P, k23 P, k108 P, k109 P, k37 P, k20 P]) k206 d38 d39 [] nN n25 ∧ EN (fun P => [k17 P, k2 P, k18 P, k19 P, k12 P, k20 P]) k208 d38 d39 [] nN n25 ∧ EN (fun P => [k17 P, k23 P, k108 P, k109 P, k37 P, k20 P]) k210 d38 d39 [] nN n25 ∧ EN (fun P => [k21 P]) k22 d41 d42 [] nN n26 ∧ EN (fun P => [k32 P]) k33 d41 d42 [] nN n26 ∧ EN (fun P => [k41 P]) k42 d41 d42 [] nN n26 ∧ EN (fun P => [k54 P]) k55 d41 d42 [] nN n26 ∧ EN (fun P => [k59 P]) k60 d41 d42 [] nN n26 ∧ EN (fun P => [k64 P]) k65 d41 d42 [] nN n26 ∧ EN (fun P => [k69 P]) k70 d41 d42 [] nN n26 ∧ EN (fun P => [k76 P]) k77 d41 d42 [] nN n26 ∧ EN (fun P => [k80 P]) k81 d41 d42 [] nN n26 ∧ EN (fun P => [k84 P]) k85 d41 d42 [] nN n26 ∧ EN (fun P => [k88 P]) k89 d41 d42 [] nN n26 ∧ EN (fun P => [k92 P]) k93 d41 d42 [] nN n26 ∧ EN (fun P => [k95 P]) k96 d41 d42 [] nN n26 ∧ EN (fun P => [k98 P]) k99 d41 d42 [] nN n26 ∧ EN (fun P => [k102 P]) k103 d41 d42 [] nN n26 ∧ EN (fun P => [k105 P]) k106 d41 d42 [] nN n26 ∧ EN (fun P => [k110 P]) k111 d41 d42 [] nN n26 ∧ EN (fun P => [k113 P]) k114 d41 d42 [] nN n26 ∧ EN (fun P => [k116 P]) k117 d41 d42 [] nN n26 ∧ EN (fun P => [k119 P]) k120 d41 d42 [] nN n26 ∧ EN (fun P => [k122 P]) k123 d41 d42 [] nN n26 := ⟨fun _ _ _ _ _ _ => by kernel_rfl, fun _ _ _ _ _ _ => by kernel_rfl, fun _ _ _ _ _ _ => by kernel_rfl, fun _ _ _ _ _ _ => by kernel_rfl, fun _ _ _ _ _ _ => by kernel_rfl, fun _ _ _ _ _ _ => by kernel_rfl, fun _ _ _ _ _ _ => by kernel_rfl, fun _ _ _ _ _ _ => by kernel_rfl, fun _ _ _ _ _ _ => by kernel_rfl, fun _ _ _ _ _ _ => by kernel_rfl, fun _ _ _ _ _ _ => by kernel_rfl, fun _ _ _ _ _ _ => by kernel_rfl, fun _ _ _ _ _ _ => by kernel_rfl, fun _ _ _ _ _ _ => by kernel_rfl, fun _ _ _ _ _ _ => by kernel_rfl, fun _ _ _ _ _ _ => by kernel_rfl, fun _ _ _ _ _ _ => by kernel_rfl, fun _ _ _ _ _ _ => by kernel_rfl, fun _ _ _ _ _ _ => by kernel_rfl, fun _ _ _ _ _ _ => by kernel_rfl, fun _ _ _ _ _ _ => by kernel_rfl, fun _ _ _ _ _ _ => by kernel_rfl, fun _ _ _ _ _ _ => by kernel_rfl, fun _ _ _ _ _ _ => by kernel_rfl⟩
noncomputable def B206 : BK := mkB [B17, B23, B108, B109, B37, B20] (ka14.1)
noncomputable def B208 : BK := mkB [B17, B2, B18, B19, B12, B20] (ka14.2.1)
noncomputable def B210 : BK := mkB [B17, B23, B108, B109, B37, B20] (ka14.2.2.1)
noncomputable def B22 : BK := mkB [B21] (ka14.2.2.2.1)
noncomputable def B33 : BK := mkB [B32] (ka14.2.2.2.2.1)
noncomputable def B42 : BK := mkB [B41] (ka14.2.2.2.2.2.1)
noncomputable def B55 : BK := mkB [B54] (ka14.2.2.2.2.2.2.1)
noncomputable def B60 : BK := mkB [B59] (ka14.2.2.2.2.2.2.2.1)
noncomputable def B65 : BK := mkB [B64] (ka14.2.2.2.2.2.2.2.2.1)
noncomputable def B70 : BK := mkB [B69] (ka14.2.2.2.2.2.2.2.2.2.1)
noncomputable def B77 : BK := mkB [B76] (ka14.2.2.2.2.2.2.2.2.2.2.1)
noncomputable def B81 : BK := mkB [B80] (ka14.2.2.2.2.2.2.2.2.2.2.2.1)
noncomputable def B85 : BK := mkB [B84] (ka14.2.2.2.2.2.2.2.2.2.2.2.2.1)
noncomputable def B89 : BK := mkB [B88] (ka14.2.2.2.2.2.2.2.2.2.2.2.2.2.1)
noncomputable def B93 : BK := mkB [B92] (ka14.2.2.2.2.2.2.2.2.2.2.2.2.2.2.1)
noncomputable def B96 : BK := mkB [B95] (ka14.2.2.2.2.2.2.2.2.2.2.2.2.2.2.2.1)
noncomputable def B99 : BK := mkB [B98] (ka14.2.2.2.2.2.2.2.2.2.2.2.2.2.2.2.2.1)
noncomputable def B103 : BK := mkB [B102] (ka14.2.2.2.2.2.2.2.2.2.2.2.2.2.2.2.2.2.1)
noncomputable def B106 : BK := mkB [B105] (ka14.2.2.2.2.2.2.2.2.2.2.2.2.2.2.2.2.2.2.1)
noncomputable def B111 : BK := mkB [B110] (ka14.2.2.2.2.2.2.2.2.2.2.2.2.2.2.2.2.2.2.2.1)
noncomputable def B114 : BK := mkB [B113] (ka14.2.2.2.2.2.2.2.2.2.2.2.2.2.2.2.2.2.2.2.2.1)
noncomputable def B117 : BK := mkB [B116] (ka14.2.2.2.2.2.2.2.2.2.2.2.2.2.2.2.2.2.2.2.2.2.1)
noncomputable def B120 : BK := mkB [B119] (ka14.2.2.2.2.2.2.2.2.2.2.2.2.2.2.2.2.2.2.2.2.2.2.1)
noncomputable def B123 : BK := mkB [B122] (ka14.2.2.2.2.2.2.2.2.2.2.2.2.2.2.2.2.2.2.2.2.2.2.2)
theorem ka15 : EN (fun P => [k125 P]) k126 d41 d42 [] nN n26 ∧ EN (fun P => [k128 P]) k129 d41 d42 [] nN n26 ∧ EN (fun P => [k131 P]) k132 d41 d42 [] nN n26 ∧ EN (fun P => [k136 P]) k137 d43 d42 [] nN n26 ∧ EN (fun P => [k138 P]) k139 d43 d42 [] nN n26 ∧ EN (fun P => [k140 P]) k141 d43 d42 [] nN n26 ∧ EN (fun P => [k142 P]) k143 d43 d42 [] nN n26 ∧ EN (fun P => [k145 P]) k146 d41 d42 [] nN n26 ∧ EN (fun P => [k148 P]) k149 d41 d42 [] nN n26 ∧ EN (fun P => [k150 P]) k151 d43 d42 [] nN n26 ∧ EN (fun P => [k153 P]) k154 d41 d42 [] nN n26 ∧ EN (fun P => [k162 P]) k163 d41 d42 [] nN n26 ∧ EN (fun P => [k164 P]) k165 d41 d42 [] nN n26 ∧ EN (fun P => [k166 P]) k167 d41 d42 [] nN n26 ∧ EN (fun P => [k168 P]) k169 d41 d42 [] nN n26 ∧ EN (fun P => [k170 P]) k171 d41 d42 [] nN n26 ∧ EN (fun P => [k172 P]) k173 d41 d42 [] nN n26 ∧ EN (fun P => [k174 P]) k175 d43 d42 [] nN n26 ∧ EN (fun P => [k176 P]) k177 d43 d42 [] nN n26 ∧ EN (fun P => [k178 P]) k179 d41 d42 [] nN n26 ∧ EN (fun P => [k180 P]) k181 d41 d42 [] nN n26 ∧ EN (fun P => [k182 P]) k183 d41 d42 [] nN n26 ∧ EN (fun P => [k184 P]) k185 d41 d42 [] nN n26 ∧ EN (fun P => [k186 P]) k187 d41 d42 [] nN n26 := ⟨fun _ _ _ _ _ _ => by kernel_rfl, fun _ _ _ _ _ _ => by kernel_rfl, fun _ _ _ _ _ _ => by kernel_rfl, fun _ _ _ _ _ _ => by kernel_rfl, fun _ _ _ _ _ _ => by kernel_rfl, fun _ _ _ _ _ _ => by kernel_rfl, fun _ _ _ _ _ _ => by kernel_rfl, fun _ _ _ _ _ _ => by kernel_rfl, fun _ _ _ _ _ _ => by kernel_rfl, fun _ _ _ _ _ _ => by kernel_rfl, fun _ _ _ _ _ _ => by kernel_rfl, fun _ _ _ _ _ _ => by kernel_rfl, fun _ _ _ _ _ _ => by kernel_rfl, fun _ _ _ _ _ _ => by kernel_rfl, fun _ _ _ _ _ _ => by kernel_rfl, fun _ _ _ _ _ _ => by kernel_rfl, fun _ _ _ _ _ _ => by kernel_rfl, fun _ _ _ _ _ _ => by kernel_rfl, fun _ _ _ _ _ _ => by kernel_rfl, fun _ _ _ _ _ _ => by kernel_rfl, fun _ _ _ _ _ _ => by kernel_rfl, fun _ _ _ _ _ _ => by kernel_rfl, fun _ _ _ _ _ _ => by kernel_rfl, fun _ _ _ _ _ _ => by kernel_rfl⟩
noncomputable def B126 : BK := mkB [B125] (ka15.1)
noncomputable def B129 : BK := mkB [B128] (ka15.2.1)
noncomputable def B132 : BK := mkB [B131] (ka15.2.2.1)
noncomputable def B137 : BK := mkB [B136] (ka15.2.2.2.1)
noncomputable def B139 : BK := mkB [B138] (ka15.2.2.2.2.1)
noncomputable def B141 : BK := mkB [B140] (ka15.2.2.2.2.2.1)
noncomputable def B143 : BK := mkB [B142] (ka15.2.2.2.2.2.2.1)
noncomputable def B146 : BK := mkB [B145] (ka15.2.2.2.2.2.2.2.1)
noncomputable def B149 : BK := mkB [B148] (ka15.2.2.2.2.2.2.2.2.1)
noncomputable def B151 : BK := mkB [B150] (ka15.2.2.2.2.2.2.2.2.2.1)
noncomputable def B154 : BK := mkB [B153] (ka15.2.2.2.2.2.2.2.2.2.2.1)
noncomputable def B163 : BK := mkB [B162] (ka15.2.2.2.2.2.2.2.2.2.2.2.1)
noncomputable def B165 : BK := mkB [B164] (ka15.2.2.2.2.2.2.2.2.2.2.2.2.1)
noncomputable def B167 : BK := mkB [B166] (ka15.2.2.2.2.2.2.2.2.2.2.2.2.2.1)
noncomputable def B169 : BK := mkB [B168] (ka15.2.2.2.2.2.2.2.2.2.2.2.2.2.2.1)
noncomputable def B171 : BK := mkB [B170] (ka15.2.2.2.2.2.2.2.2.2.2.2.2.2.2.2.1)
noncomputable def B173 : BK := mkB [B172] (ka15.2.2.2.2.2.2.2.2.2.2.2.2.2.2.2.2.1)
noncomputable def B175 : BK := mkB [B174] (ka15.2.2.2.2.2.2.2.2.2.2.2.2.2.2.2.2.2.1)
noncomputable def B177 : BK := mkB [B176] (ka15.2.2.2.2.2.2.2.2.2.2.2.2.2.2.2.2.2.2.1)
noncomputable def B179 : BK := mkB [B178] (ka15.2.2.2.2.2.2.2.2.2.2.2.2.2.2.2.2.2.2.2.1)
noncomputable def B181 : BK := mkB [B180] (ka15.2.2.2.2.2.2.2.2.2.2.2.2.2.2.2.2.2.2.2.2.1)
noncomputable def B183 : BK := mkB [B182] (ka15.2.2.2.2.2.2.2.2.2.2.2.2.2.2.2.2.2.2.2.2.2.1)
noncomputable def B185 : BK := mkB [B184] (ka15.2.2.2.2.2.2.2.2.2.2.2.2.2.2.2.2.2.2.2.2.2.2.1)
noncomputable def B187 : BK := mkB [B186] (ka15.2.2.2.2.2.2.2.2.2.2.2.2.2.2.2.2.2.2.2.2.2.2.2)
theorem ka16 : EN (fun P => [k188 P]) k189 d43 d42 [] nN n26 ∧ EN (fun P => [k190 P]) k191 d41 d42 [] nN n26 ∧ EN (fun P => [k192 P]) k193 d41 d42 [] nN n26 ∧ EN (fun P => [k194 P]) k195 d41 d42 [] nN n26 ∧ EN (fun P => [k196 P]) k197 d41 d42 [] nN n26 ∧ EN (fun P => [k198 P]) k199 d43 d42 [] nN n26 ∧ EN (fun P => [k200 P]) k201 d41 d42 [] nN n26 ∧ EN (fun P => [k202 P]) k203 d43 d42 [] nN n27 ∧ EN (fun P => [k204 P]) k205 d41 d42 [] nN n26 ∧ EN (fun P => [k206 P]) k207 d41 d42 [] nN n26 ∧ EN (fun P => [k208 P]) k209 d41 d42 [] nN n26 ∧ EN (fun P => [k210 P]) k211 d41 d42 [] nN n26 := ⟨fun _ _ _ _ _ _ => by kernel_rfl, fun _ _ _ _ _ _ => by kernel_rfl, fun _ _ _ _ _ _ => by kernel_rfl, fun _ _ _ _ _ _ => by kernel_rfl, fun _ _ _ _ _ _ => by kernel_rfl, fun _ _ _ _ _ _ => by kernel_rfl, fun _ _ _ _ _ _ => by kernel_rfl, fun _ _ _ _ _ _ => by kernel_rfl, fun _ _ _ _ _ _ => by kernel_rfl, fun _ _ _ _ _ _ => by kernel_rfl, fun _ _ _ _ _ _ => by kernel_rfl, fun _ _ _ _ _ _ => by kernel_rfl⟩
noncomputable def B189 : BK := mkB [B188] (ka16.1)
noncomputable def B191 : BK := mkB [B190] (ka16.2.1)
noncomputable def B193 : BK := mkB [B192] (ka16.2.2.1)
noncomputable def B195 : BK := mkB [B194] (ka16.2.2.2.1)
noncomputable def B197 : BK := mkB [B196] (ka16.2.2.2.2.1)
noncomputable def B199 : BK := mkB [B198] (ka16.2.2.2.2.2.1)
noncomputable def B201 : BK := mkB [B200] (ka16.2.2.2.2.2.2.1)
noncomputable def B203 : BK := mkB [B202] (ka16.2.2.2.2.2.2.2.1)
noncomputable def B205 : BK := mkB [B204] (ka16.2.2.2.2.2.2.2.2.1)
noncomputable def B207 : BK := mkB [B206] (ka16.2.2.2.2.2.2.2.2.2.1)
noncomputable def B209 : BK := mkB [B208] (ka16.2.2.2.2.2.2.2.2.2.2.1)
noncomputable def B211 : BK := mkB [B210] (ka16.2.2.2.2.2.2.2.2.2.2.2)
noncomputable def az0p (x0 : Nat) (f1 : Tok → Value) (x2 : Nat) (P : Params) (b v : Nat → Nat) : List Own := []
noncomputable def az0 (x0 : Nat) (f1 : Tok → Value) (x2 : Nat) (P : Params) : Con := { n := 0, na := 0, nt := 0, need := 5, sel := [], code b v := .call (.ref 43) ⟨[(iv x0 (v 0))], []⟩, pre := az0p x0 f1 x2 P, res b v t := .ok (.ret (f1 x2)), post b v t := [], new b v t := [], keep := [] }
noncomputable def az1p (x0 : Nat) (f1 : Tok → Value) (P : Params) (b v : Nat → Nat) : List Own := []
noncomputable def az1 (x0 : Nat) (f1 : Tok → Value) (P : Params) : Con := { n := 0, na := 0, nt := 1, need := 5, sel := [], code b v := .call (.ref 43) ⟨[(iv x0 (v 0))], []⟩, pre := az1p x0 f1 P, res b v t := .ok (.ret (f1 (t 0))), post b v t := [], new b v t := [], keep := [] }
noncomputable abbrev k1000 : Params → Con := az0 4 s67 235
noncomputable abbrev k1006 : Params → Con := az0 8 s73 237
noncomputable abbrev k1029 : Params → Con := az0 16 s96 239
noncomputable abbrev k1037 : Params → Con := az0 32 s104 241
noncomputable abbrev k1043 : Params → Con := az0 64 s110 243
noncomputable abbrev k1001 : Params → Con := az1 5 s68
noncomputable abbrev k1002 : Params → Con := az1 7 s69
noncomputable abbrev k1003 : Params → Con := az1 11 s70
noncomputable abbrev k1004 : Params → Con := az1 19 s71
noncomputable abbrev k1005 : Params → Con := az1 6 s72
noncomputable abbrev k1007 : Params → Con := az1 12 s74
noncomputable abbrev k1008 : Params → Con := az1 20 s75
noncomputable abbrev k1009 : Params → Con := az1 10 s76
noncomputable abbrev k1010 : Params → Con := az1 14 s77
noncomputable abbrev k1011 : Params → Con := az1 22 s78
noncomputable abbrev k1012 : Params → Con := az1 18 s79
noncomputable abbrev k1013 : Params → Con := az1 26 s80
noncomputable abbrev k1014 : Params → Con := az1 34 s81
noncomputable abbrev k1015 : Params → Con := az1 9 s82
noncomputable abbrev k1016 : Params → Con := az1 13 s83
noncomputable abbrev k1017 : Params → Con := az1 21 s84
noncomputable abbrev k1018 : Params → Con := az1 15 s85
noncomputable abbrev k1019 : Params → Con := az1 23 s86
noncomputable abbrev k1020 : Params → Con := az1 27 s87
noncomputable abbrev k1021 : Params → Con := az1 35 s88
noncomputable abbrev k1022 : Params → Con := az1 17 s89
noncomputable abbrev k1023 : Params → Con := az1 25 s90
noncomputable abbrev k1024 : Params → Con := az1 29 s91
noncomputable abbrev k1025 : Params → Con := az1 37 s92
noncomputable abbrev k1026 : Params → Con := az1 33 s93
noncomputable abbrev k1027 : Params → Con := az1 41 s94
noncomputable abbrev k1028 : Params → Con := az1 49 s95
noncomputable abbrev k1030 : Params → Con := az1 24 s97
noncomputable abbrev k1031 : Params → Con := az1 28 s98
noncomputable abbrev k1032 : Params → Con := az1 36 s99
noncomputable abbrev k1033 : Params → Con := az1 30 s100
noncomputable abbrev k1034 : Params → Con := az1 38 s101
noncomputable abbrev k1035 : Params → Con := az1 42 s102
noncomputable abbrev k1036 : Params → Con := az1 50 s103
noncomputable abbrev k1038 : Params → Con := az1 40 s105
noncomputable abbrev k1039 : Params → Con := az1 44 s106
noncomputable abbrev k1040 : Params → Con := az1 52 s107
noncomputable abbrev k1041 : Params → Con := az1 48 s108
noncomputable abbrev k1042 : Params → Con := az1 56 s109
noncomputable abbrev k1044 : Params → Con := az1 31 s111
noncomputable abbrev k1045 : Params → Con := az1 39 s112
noncomputable abbrev k1046 : Params → Con := az1 43 s113
noncomputable abbrev k1047 : Params → Con := az1 51 s114
noncomputable abbrev k1048 : Params → Con := az1 45 s115
noncomputable abbrev k1049 : Params → Con := az1 53 s116
noncomputable abbrev k1050 : Params → Con := az1 57 s117
noncomputable abbrev k1051 : Params → Con := az1 65 s118
noncomputable abbrev k1052 : Params → Con := az1 47 s119
noncomputable abbrev k1053 : Params → Con := az1 55 s120
noncomputable abbrev k1054 : Params → Con := az1 59 s121
noncomputable abbrev k1055 : Params → Con := az1 67 s122
noncomputable abbrev k1056 : Params → Con := az1 63 s123
noncomputable abbrev k1057 : Params → Con := az1 71 s124
noncomputable abbrev k1058 : Params → Con := az1 79 s125
theorem kz0 : EN (fun P => []) k1000 d44 d45 [] nN nN ∧ EN (fun P => []) k1001 d46 d47 [] nN n28 ∧ EN (fun P => []) k1002 d48 d49 [] nN n29 ∧ EN (fun P => []) k1003 d50 d51 [] nN n30 ∧ EN (fun P => []) k1004 d52 d53 [] nN n31 ∧ EN (fun P => []) k1005 d54 d55 [] nN n28 ∧ EN (fun P => []) k1006 d56 d57 [] nN nN ∧ EN (fun P => []) k1007 d58 d59 [] nN n32 ∧ EN (fun P => []) k1008 d60 d61 [] nN n33 ∧ EN (fun P => []) k1009 d62 d63 [] nN n32 ∧ EN (fun P => []) k1010 d64 d65 [] nN n30 ∧ EN (fun P => []) k1011 d66 d67 [] nN n31 ∧ EN (fun P => []) k1012 d68 d69 [] nN n33 ∧ EN (fun P => []) k1013 d70 d71 [] nN n31 ∧ EN (fun P => []) k1014 d72 d73 [] nN n34 ∧ EN (fun P => []) k1015 d74 d75 [] nN n32 := ⟨fun _ _ _ _ _ _ => by kernel_rfl, fun _ _ _ _ _ _ => by kernel_rfl, fun _ _ _ _ _ _ => by kernel_rfl, fun _ _ _ _ _ _ => by kernel_rfl, fun _ _ _ _ _ _ => by kernel_rfl, fun _ _ _ _ _ _ => by kernel_rfl, fun _ _ _ _ _ _ => by kernel_rfl, fun _ _ _ _ _ _ => by kernel_rfl, fun _ _ _ _ _ _ => by kernel_rfl, fun _ _ _ _ _ _ => by kernel_rfl, fun _ _ _ _ _ _ => by kernel_rfl, fun _ _ _ _ _ _ => by kernel_rfl, fun _ _ _ _ _ _ => by kernel_rfl, fun _ _ _ _ _ _ => by kernel_rfl, fun _ _ _ _ _ _ => by kernel_rfl, fun _ _ _ _ _ _ => by kernel_rfl⟩
noncomputable def B1000 : BK := mkB [] (kz0.1)
noncomputable def B1001 : BK := mkB [] (kz0.2.1)
noncomputable def B1002 : BK := mkB [] (kz0.2.2.1)
noncomputable def B1003 : BK := mkB [] (kz0.2.2.2.1)
noncomputable def B1004 : BK := mkB [] (kz0.2.2.2.2.1)
noncomputable def B1005 : BK := mkB [] (kz0.2.2.2.2.2.1)
noncomputable def B1006 : BK := mkB [] (kz0.2.2.2.2.2.2.1)
noncomputable def B1007 : BK := mkB [] (kz0.2.2.2.2.2.2.2.1)
noncomputable def B1008 : BK := mkB [] (kz0.2.2.2.2.2.2.2.2.1)
noncomputable def B1009 : BK := mkB [] (kz0.2.2.2.2.2.2.2.2.2.1)
noncomputable def B1010 : BK := mkB [] (kz0.2.2.2.2.2.2.2.2.2.2.1)
noncomputable def B1011 : BK := mkB [] (kz0.2.2.2.2.2.2.2.2.2.2.2.1)
noncomputable def B1012 : BK := mkB [] (kz0.2.2.2.2.2.2.2.2.2.2.2.2.1)
noncomputable def B1013 : BK := mkB [] (kz0.2.2.2.2.2.2.2.2.2.2.2.2.2.1)
noncomputable def B1014 : BK := mkB [] (kz0.2.2.2.2.2.2.2.2.2.2.2.2.2.2.1)
noncomputable def B1015 : BK := mkB [] (kz0.2.2.2.2.2.2.2.2.2.2.2.2.2.2.2)
theorem kz1 : EN (fun P => []) k1016 d76 d77 [] nN n30 ∧ EN (fun P => []) k1017 d78 d79 [] nN n31 ∧ EN (fun P => []) k1018 d80 d81 [] nN n35 ∧ EN (fun P => []) k1019 d82 d83 [] nN n36 ∧ EN (fun P => []) k1020 d84 d85 [] nN n36 ∧ EN (fun P => []) k1021 d86 d87 [] nN n37 ∧ EN (fun P => []) k1022 d88 d89 [] nN n33 ∧ EN (fun P => []) k1023 d90 d91 [] nN n31 ∧ EN (fun P => []) k1024 d92 d93 [] nN n36 ∧ EN (fun P => []) k1025 d94 d95 [] nN n37 ∧ EN (fun P => []) k1026 d96 d97 [] nN n34 ∧ EN (fun P => []) k1027 d98 d99 [] nN n37 := ⟨fun _ _ _ _ _ _ => by kernel_rfl, fun _ _ _ _ _ _ => by kernel_rfl, fun _ _ _ _ _ _ => by kernel_rfl, fun _ _ _ _ _ _ => by kernel_rfl, fun _ _ _ _ _ _ => by kernel_rfl, fun _ _ _ _ _ _ => by kernel_rfl, fun _ _ _ _ _ _ => by kernel_rfl, fun _ _ _ _ _ _ => by kernel_rfl, fun _ _ _ _ _ _ => by kernel_rfl, fun _ _ _ _ _ _ => by kernel_rfl, fun _ _ _ _ _ _ => by kernel_rfl, fun _ _ _ _ _ _ => by kernel_rfl⟩
noncomputable def B1016 : BK := mkB [] (kz1.1)
noncomputable def B1017 : BK := mkB [] (kz1.2.1)
noncomputable def B1018 : BK := mkB [] (kz1.2.2.1)
noncomputable def B1019 : BK := mkB [] (kz1.2.2.2.1)
noncomputable def B1020 : BK := mkB [] (kz1.2.2.2.2.1)
noncomputable def B1021 : BK := mkB [] (kz1.2.2.2.2.2.1)
noncomputable def B1022 : BK := mkB [] (kz1.2.2.2.2.2.2.1)
noncomputable def B1023 : BK := mkB [] (kz1.2.2.2.2.2.2.2.1)
noncomputable def B1024 : BK := mkB [] (kz1.2.2.2.2.2.2.2.2.1)
noncomputable def B1025 : BK := mkB [] (kz1.2.2.2.2.2.2.2.2.2.1)
noncomputable def B1026 : BK := mkB [] (kz1.2.2.2.2.2.2.2.2.2.2.1)
noncomputable def B1027 : BK := mkB [] (kz1.2.2.2.2.2.2.2.2.2.2.2)
theorem kz2 : EN (fun P => []) k1028 d100 d101 [] nN n37 ∧ EN (fun P => []) k1029 d102 d103 [] nN nN ∧ EN (fun P => []) k1030 d104 d105 [] nN n33 ∧ EN (fun P => []) k1031 d106 d107 [] nN n31 ∧ EN (fun P => []) k1032 d108 d109 [] nN n34 ∧ EN (fun P => []) k1033 d110 d111 [] nN n36 ∧ EN (fun P => []) k1034 d112 d113 [] nN n37 ∧ EN (fun P => []) k1035 d114 d115 [] nN n37 ∧ EN (fun P => []) k1036 d116 d117 [] nN n37 ∧ EN (fun P => []) k1037 d118 d119 [] nN nN ∧ EN (fun P => []) k1038 d120 d121 [] nN n34 ∧ EN (fun P => []) k1039 d122 d123 [] nN n37 ∧ EN (fun P => []) k1040 d124 d125 [] nN n37 := ⟨fun _ _ _ _ _ _ => by kernel_rfl, fun _ _ _ _ _ _ => by kernel_rfl, fun _ _ _ _ _ _ => by kernel_rfl, fun _ _ _ _ _ _ => by kernel_rfl, fun _ _ _ _ _ _ => by kernel_rfl, fun _ _ _ _ _ _ => by kernel_rfl, fun _ _ _ _ _ _ => by kernel_rfl, fun _ _ _ _ _ _ => by kernel_rfl, fun _ _ _ _ _ _ => by kernel_rfl, fun _ _ _ _ _ _ => by kernel_rfl, fun _ _ _ _ _ _ => by kernel_rfl, fun _ _ _ _ _ _ => by kernel_rfl, fun _ _ _ _ _ _ => by kernel_rfl⟩
noncomputable def B1028 : BK := mkB [] (kz2.1)
noncomputable def B1029 : BK := mkB [] (kz2.2.1)
noncomputable def B1030 : BK := mkB [] (kz2.2.2.1)
noncomputable def B1031 : BK := mkB [] (kz2.2.2.2.1)
noncomputable def B1032 : BK := mkB [] (kz2.2.2.2.2.1)
noncomputable def B1033 : BK := mkB [] (kz2.2.2.2.2.2.1)
noncomputable def B1034 : BK := mkB [] (kz2.2.2.2.2.2.2.1)
noncomputable def B1035 : BK := mkB [] (kz2.2.2.2.2.2.2.2.1)
noncomputable def B1036 : BK := mkB [] (kz2.2.2.2.2.2.2.2.2.1)
noncomputable def B1037 : BK := mkB [] (kz2.2.2.2.2.2.2.2.2.2.1)
noncomputable def B1038 : BK := mkB [] (kz2.2.2.2.2.2.2.2.2.2.2.1)
noncomputable def B1039 : BK := mkB [] (kz2.2.2.2.2.2.2.2.2.2.2.2.1)
noncomputable def B1040 : BK := mkB [] (kz2.2.2.2.2.2.2.2.2.2.2.2.2)
theorem kz3 : EN (fun P => []) k1041 d126 d127 [] nN n34 ∧ EN (fun P => []) k1042 d128 d129 [] nN n37 ∧ EN (fun P => []) k1043 d130 d131 [] nN nN ∧ EN (fun P => []) k1044 d132 d133 [] nN n38 ∧ EN (fun P => []) k1045 d134 d135 [] nN n39 ∧ EN (fun P => []) k1046 d136 d137 [] nN n39 ∧ EN (fun P => []) k1047 d138 d139 [] nN n39 ∧ EN (fun P => []) k1048 d140 d141 [] nN n39 ∧ EN (fun P => []) k1049 d142 d143 [] nN n39 ∧ EN (fun P => []) k1050 d144 d145 [] nN n39 ∧ EN (fun P => []) k1051 d146 d147 [] nN n38 := ⟨fun _ _ _ _ _ _ => by kernel_rfl, fun _ _ _ _ _ _ => by kernel_rfl, fun _ _ _ _ _ _ => by kernel_rfl, fun _ _ _ _ _ _ => by kernel_rfl, fun _ _ _ _ _ _ => by kernel_rfl, fun _ _ _ _ _ _ => by kernel_rfl, fun _ _ _ _ _ _ => by kernel_rfl, fun _ _ _ _ _ _ => by kernel_rfl, fun _ _ _ _ _ _ => by kernel_rfl, fun _ _ _ _ _ _ => by kernel_rfl, fun _ _ _ _ _ _ => by kernel_rfl⟩
noncomputable def B1041 : BK := mkB [] (kz3.1)
noncomputable def B1042 : BK := mkB [] (kz3.2.1)
noncomputable def B1043 : BK := mkB [] (kz3.2.2.1)
noncomputable def B1044 : BK := mkB [] (kz3.2.2.2.1)
noncomputable def B1045 : BK := mkB [] (kz3.2.2.2.2.1)
noncomputable def B1046 : BK := mkB [] (kz3.2.2.2.2.2.1)
noncomputable def B1047 : BK := mkB [] (kz3.2.2.2.2.2.2.1)
noncomputable def B1048 : BK := mkB [] (kz3.2.2.2.2.2.2.2.1)
noncomputable def B1049 : BK := mkB [] (kz3.2.2.2.2.2.2.2.2.1)
noncomputable def B1050 : BK := mkB [] (kz3.2.2.2.2.2.2.2.2.2.1)
noncomputable def B1051 : BK := mkB [] (kz3.2.2.2.2.2.2.2.2.2.2)
theorem kz4 : EN (fun P => []) k1052 d148 d149 [] nN n40 ∧ EN (fun P => []) k1053 d150 d151 [] nN n40 ∧ EN (fun P => []) k1054 d152 d153 [] nN n40 ∧ EN (fun P => []) k1055 d154 d155 [] nN n41 ∧ EN (fun P => []) k1056 d156 d157 [] nN n42 ∧ EN (fun P => []) k1057 d158 d159 [] nN n43 ∧ EN (fun P => []) k1058 d160 d161 [] nN n44 ∧ EN (fun P => [k1000 P]) (fun _ => douK 5 3) d162 d163 [] n45 nN ∧ EN (fun P => [k1001 P]) (fun _ => douK 6 3) d164 d165 [] n46 nN ∧ EN (fun P => [k1002 P]) (fun _ => douK 8 3) d166 d167 [] n47 nN ∧ EN (fun P => [k1003 P]) (fun _ => douK 12 4) d168 d169 [] n47 nN := ⟨fun _ _ _ _ _ _ => by kernel_rfl, fun _ _ _ _ _ _ => by kernel_rfl, fun _ _ _ _ _ _ => by kernel_rfl, fun _ _ _ _ _ _ => by kernel_rfl, fun _ _ _ _ _ _ => by kernel_rfl, fun _ _ _ _ _ _ => by kernel_rfl, fun _ _ _ _ _ _ => by kernel_rfl, fun _ _ _ _ _ _ => by kernel_rfl, fun _ _ _ _ _ _ => by kernel_rfl, fun _ _ _ _ _ _ => by kernel_rfl, fun _ _ _ _ _ _ => by kernel_rfl⟩
noncomputable def B1052 : BK := mkB [] (kz4.1)
noncomputable def B1053 : BK := mkB [] (kz4.2.1)
noncomputable def B1054 : BK := mkB [] (kz4.2.2.1)
noncomputable def B1055 : BK := mkB [] (kz4.2.2.2.1)
noncomputable def B1056 : BK := mkB [] (kz4.2.2.2.2.1)
noncomputable def B1057 : BK := mkB [] (kz4.2.2.2.2.2.1)
noncomputable def B1058 : BK := mkB [] (kz4.2.2.2.2.2.2.1)
noncomputable def dou5 : BK := mkB [B1000] (kz4.2.2.2.2.2.2.2.1)
noncomputable def dou6 : BK := mkB [B1001] (kz4.2.2.2.2.2.2.2.2.1)
noncomputable def dou8 : BK := mkB [B1002] (kz4.2.2.2.2.2.2.2.2.2.1)
noncomputable def dou12 : BK := mkB [B1003] (kz4.2.2.2.2.2.2.2.2.2.2)
theorem kz5 : EN (fun P => [k1004 P]) (fun _ => douK 20 5) d170 d171 [] n47 nN ∧ EN (fun P => [k1005 P]) (fun _ => douK 7 3) d172 d173 [] n46 nN ∧ EN (fun P => [k1006 P]) (fun _ => douK 9 4) d174 d175 [] n45 nN ∧ EN (fun P => [k1007 P]) (fun _ => douK 13 4) d176 d177 [] n46 nN ∧ EN (fun P => [k1008 P]) (fun _ => douK 21 5) d178 d179 [] n46 nN ∧ EN (fun P => [k1009 P]) (fun _ => douK 11 4) d180 d181 [] n46 nN ∧ EN (fun P => [k1010 P]) (fun _ => douK 15 4) d182 d183 [] n47 nN ∧ EN (fun P => [k1011 P]) (fun _ => douK 23 5) d184 d185 [] n47 nN ∧ EN (fun P => [k1012 P]) (fun _ => douK 19 5) d186 d187 [] n46 nN ∧ EN (fun P => [k1013 P]) (fun _ => douK 27 5) d188 d189 [] n47 nN ∧ EN (fun P => [k1014 P]) (fun _ => douK 35 6) d190 d191 [] n46 nN ∧ EN (fun P => [k1015 P]) (fun _ => douK 10 4) d192 d193 [] n46 nN ∧ EN (fun P => [k1016 P]) (fun _ => douK 14 4) d194 d195 [] n47 nN ∧ EN (fun P => [k1017 P]) (fun _ => douK 22 5) d196 d197 [] n47 nN := ⟨fun _ _ _ _ _ _ => by kernel_rfl, fun _ _ _ _ _ _ => by kernel_rfl, fun _ _ _ _ _ _ => by kernel_rfl, fun _ _ _ _ _ _ => by kernel_rfl, fun _ _ _ _ _ _ => by kernel_rfl, fun _ _ _ _ _ _ => by kernel_rfl, fun _ _ _ _ _ _ => by kernel_rfl, fun _ _ _ _ _ _ => by kernel_rfl, fun _ _ _ _ _ _ => by kernel_rfl, fun _ _ _ _ _ _ => by kernel_rfl, fun _ _ _ _ _ _ => by kernel_rfl, fun _ _ _ _ _ _ => by kernel_rfl, fun _ _ _ _ _ _ => by kernel_rfl, fun _ _ _ _ _ _ => by kernel_rfl⟩
noncomputable def dou20 : BK := mkB [B1004] (kz5.1)
noncomputable def dou7 : BK := mkB [B1005] (kz5.2.1)
noncomputable def dou9 : BK := mkB [B1006] (kz5.2.2.1)
noncomputable def dou13 : BK := mkB [B1007] (kz5.2.2.2.1)
noncomputable def dou21 : BK := mkB [B1008] (kz5.2.2.2.2.1)
noncomputable def dou11 : BK := mkB [B1009] (kz5.2.2.2.2.2.1)
noncomputable def dou15 : BK := mkB [B1010] (kz5.2.2.2.2.2.2.1)
noncomputable def dou23 : BK := mkB [B1011] (kz5.2.2.2.2.2.2.2.1)
noncomputable def dou19 : BK := mkB [B1012] (kz5.2.2.2.2.2.2.2.2.1)
noncomputable def dou27 : BK := mkB [B1013] (kz5.2.2.2.2.2.2.2.2.2.1)
noncomputable def dou35 : BK := mkB [B1014] (kz5.2.2.2.2.2.2.2.2.2.2.1)
noncomputable def dou10 : BK := mkB [B1015] (kz5.2.2.2.2.2.2.2.2.2.2.2.1)
noncomputable def dou14 : BK := mkB [B1016] (kz5.2.2.2.2.2.2.2.2.2.2.2.2.1)
noncomputable def dou22 : BK := mkB [B1017] (kz5.2.2.2.2.2.2.2.2.2.2.2.2.2)
theorem kz6 : EN (fun P => [k1018 P]) (fun _ => douK 16 4) d198 d199 [] n48 nN ∧ EN (fun P => [k1019 P]) (fun _ => douK 24 5) d200 d201 [] n48 nN ∧ EN (fun P => [k1020 P]) (fun _ => douK 28 5) d202 d203 [] n48 nN ∧ EN (fun P => [k1021 P]) (fun _ => douK 36 6) d204 d205 [] n47 nN ∧ EN (fun P => [k1022 P]) (fun _ => douK 18 5) d206 d207 [] n46 nN ∧ EN (fun P => [k1023 P]) (fun _ => douK 26 5) d208 d209 [] n47 nN ∧ EN (fun P => [k1024 P]) (fun _ => douK 30 5) d210 d211 [] n48 nN ∧ EN (fun P => [k1025 P]) (fun _ => douK 38 6) d212 d213 [] n47 nN ∧ EN (fun P => [k1026 P]) (fun _ => douK 34 6) d214 d215 [] n46 nN ∧ EN (fun P => [k1027 P]) (fun _ => douK 42 6) d216 d217 [] n47 nN ∧ EN (fun P => [k1028 P]) (fun _ => douK 50 6) d218 d219 [] n47 nN ∧ EN (fun P => [k1029 P]) (fun _ => douK 17 5) d220 d221 [] n45 nN ∧ EN (fun P => [k1030 P]) (fun _ => douK 25 5) d222 d223 [] n46 nN ∧ EN (fun P => [k1031 P]) (fun _ => douK 29 5) d224 d225 [] n47 nN := ⟨fun _ _ _ _ _ _ => by kernel_rfl, fun _ _ _ _ _ _ => by kernel_rfl, fun _ _ _ _ _ _ => by kernel_rfl, fun _ _ _ _ _ _ => by kernel_rfl, fun _ _ _ _ _ _ => by kernel_rfl, fun _ _ _ _ _ _ => by kernel_rfl, fun _ _ _ _ _ _ => by kernel_rfl, fun _ _ _ _ _ _ => by kernel_rfl, fun _ _ _ _ _ _ => by kernel_rfl, fun _ _ _ _ _ _ => by kernel_rfl, fun _ _ _ _ _ _ => by kernel_rfl, fun _ _ _ _ _ _ => by kernel_rfl, fun _ _ _ _ _ _ => by kernel_rfl, fun _ _ _ _ _ _ => by kernel_rfl⟩
noncomputable def dou16 : BK := mkB [B1018] (kz6.1)
noncomputable def dou24 : BK := mkB [B1019] (kz6.2.1)
noncomputable def dou28 : BK := mkB [B1020] (kz6.2.2.1)
noncomputable def dou36 : BK := mkB [B1021] (kz6.2.2.2.1)
noncomputable def dou18 : BK := mkB [B1022] (kz6.2.2.2.2.1)
noncomputable def dou26 : BK := mkB [B1023] (kz6.2.2.2.2.2.1)
noncomputable def dou30 : BK := mkB [B1024] (kz6.2.2.2.2.2.2.1)
noncomputable def dou38 : BK := mkB [B1025] (kz6.2.2.2.2.2.2.2.1)
noncomputable def dou34 : BK := mkB [B1026] (kz6.2.2.2.2.2.2.2.2.1)
noncomputable def dou42 : BK := mkB [B1027] (kz6.2.2.2.2.2.2.2.2.2.1)
noncomputable def dou50 : BK := mkB [B1028] (kz6.2.2.2.2.2.2.2.2.2.2.1)
noncomputable def dou17 : BK := mkB [B1029] (kz6.2.2.2.2.2.2.2.2.2.2.2.1)
noncomputable def dou25 : BK := mkB [B1030] (kz6.2.2.2.2.2.2.2.2.2.2.2.2.1)
noncomputable def dou29 : BK := mkB [B1031] (kz6.2.2.2.2.2.2.2.2.2.2.2.2.2)
theorem kz7 : EN (fun P => [k1032 P]) (fun _ => douK 37 6) d226 d227 [] n46 nN ∧ EN (fun P => [k1033 P]) (fun _ => douK 31 5) d228 d229 [] n48 nN ∧ EN (fun P => [k1034 P]) (fun _ => douK 39 6) d230 d231 [] n47 nN ∧ EN (fun P => [k1035 P]) (fun _ => douK 43 6) d232 d233 [] n47 nN ∧ EN (fun P => [k1036 P]) (fun _ => douK 51 6) d234 d235 [] n47 nN ∧ EN (fun P => [k1037 P]) (fun _ => douK 33 6) d236 d237 [] n45 nN ∧ EN (fun P => [k1038 P]) (fun _ => douK 41 6) d238 d239 [] n46 nN ∧ EN (fun P => [k1039 P]) (fun _ => douK 45 6) d240 d241 [] n47 nN ∧ EN (fun P => [k1040 P]) (fun _ => douK 53 6) d242 d243 [] n47 nN ∧ EN (fun P => [k1041 P]) (fun _ => douK 49 6) d244 d245 [] n46 nN ∧ EN (fun P => [k1042 P]) (fun _ => douK 57 6) d246 d247 [] n47 nN ∧ EN (fun P => [k1043 P]) (fun _ => douK 65 7) d248 d249 [] n45 nN ∧ EN (fun P => [k1044 P]) (fun _ => douK 32 5) d250 d251 [] n49 nN ∧ EN (fun P => [k1045 P]) (fun _ => douK 40 6) d252 d253 [] n48 nN := ⟨fun _ _ _ _ _ _ => by kernel_rfl, fun _ _ _ _ _ _ => by kernel_rfl, fun _ _ _ _ _ _ => by kernel_rfl, fun _ _ _ _ _ _ => by kernel_rfl, fun _ _ _ _ _ _ => by kernel_rfl, fun _ _ _ _ _ _ => by kernel_rfl, fun _ _ _ _ _ _ => by kernel_rfl, fun _ _ _ _ _ _ => by kernel_rfl, fun _ _ _ _ _ _ => by kernel_rfl, fun _ _ _ _ _ _ => by kernel_rfl, fun _ _ _ _ _ _ => by kernel_rfl, fun _ _ _ _ _ _ => by kernel_rfl, fun _ _ _ _ _ _ => by kernel_rfl, fun _ _ _ _ _ _ => by kernel_rfl⟩
noncomputable def dou37 : BK := mkB [B1032] (kz7.1)
noncomputable def dou31 : BK := mkB [B1033] (kz7.2.1)
noncomputable def dou39 : BK := mkB [B1034] (kz7.2.2.1)
noncomputable def dou43 : BK := mkB [B1035] (kz7.2.2.2.1)
noncomputable def dou51 : BK := mkB [B1036] (kz7.2.2.2.2.1)
noncomputable def dou33 : BK := mkB [B1037] (kz7.2.2.2.2.2.1)
noncomputable def dou41 : BK := mkB [B1038] (kz7.2.2.2.2.2.2.1)
noncomputable def dou45 : BK := mkB [B1039] (kz7.2.2.2.2.2.2.2.1)
noncomputable def dou53 : BK := mkB [B1040] (kz7.2.2.2.2.2.2.2.2.1)
noncomputable def dou49 : BK := mkB [B1041] (kz7.2.2.2.2.2.2.2.2.2.1)
noncomputable def dou57 : BK := mkB [B1042] (kz7.2.2.2.2.2.2.2.2.2.2.1)
noncomputable def dou65 : BK := mkB [B1043] (kz7.2.2.2.2.2.2.2.2.2.2.2.1)
noncomputable def dou32 : BK := mkB [B1044] (kz7.2.2.2.2.2.2.2.2.2.2.2.2.1)
noncomputable def dou40 : BK := mkB [B1045] (kz7.2.2.2.2.2.2.2.2.2.2.2.2.2)
theorem kz8 : EN (fun P => [k1046 P]) (fun _ => douK 44 6) d254 d255 [] n48 nN ∧ EN (fun P => [k1047 P]) (fun _ => douK 52 6) d256 d257 [] n48 nN ∧ EN (fun P => [k1048 P]) (fun _ => douK 46 6) d258 d259 [] n48 nN ∧ EN (fun P => [k1049 P]) (fun _ => douK 54 6) d260 d261 [] n48 nN ∧ EN (fun P => [k1050 P]) (fun _ => douK 58 6) d262 d263 [] n48 nN ∧ EN (fun P => [k1051 P]) (fun _ => douK 66 7) d264 d265 [] n46 nN ∧ EN (fun P => [k1052 P]) (fun _ => douK 48 6) d266 d267 [] n49 nN ∧ EN (fun P => [k1053 P]) (fun _ => douK 56 6) d268 d269 [] n49 nN ∧ EN (fun P => [k1054 P]) (fun _ => douK 60 6) d270 d271 [] n49 nN ∧ EN (fun P => [k1055 P]) (fun _ => douK 68 7) d272 d273 [] n47 nN ∧ EN (fun P => [k1056 P]) (fun _ => douK 64 6) d274 d275 [] n50 nN ∧ EN (fun P => [k1057 P]) (fun _ => douK 72 7) d276 d277 [] n48 nN ∧ EN (fun P => [k1058 P]) (fun _ => douK 80 7) d278 d279 [] n49 nN := ⟨fun _ _ _ _ _ _ => by kernel_rfl, fun _ _ _ _ _ _ => by kernel_rfl, fun _ _ _ _ _ _ => by kernel_rfl, fun _ _ _ _ _ _ => by kernel_rfl, fun _ _ _ _ _ _ => by kernel_rfl, fun _ _ _ _ _ _ => by kernel_rfl, fun _ _ _ _ _ _ => by kernel_rfl, fun _ _ _ _ _ _ => by kernel_rfl, fun _ _ _ _ _ _ => by kernel_rfl, fun _ _ _ _ _ _ => by kernel_rfl, fun _ _ _ _ _ _ => by kernel_rfl, fun _ _ _ _ _ _ => by kernel_rfl, fun _ _ _ _ _ _ => by kernel_rfl⟩
noncomputable def dou44 : BK := mkB [B1046] (kz8.1)
noncomputable def dou52 : BK := mkB [B1047] (kz8.2.1)
noncomputable def dou46 : BK := mkB [B1048] (kz8.2.2.1)
noncomputable def dou54 : BK := mkB [B1049] (kz8.2.2.2.1)
noncomputable def dou58 : BK := mkB [B1050] (kz8.2.2.2.2.1)
noncomputable def dou66 : BK := mkB [B1051] (kz8.2.2.2.2.2.1)
noncomputable def dou48 : BK := mkB [B1052] (kz8.2.2.2.2.2.2.1)
noncomputable def dou56 : BK := mkB [B1053] (kz8.2.2.2.2.2.2.2.1)
noncomputable def dou60 : BK := mkB [B1054] (kz8.2.2.2.2.2.2.2.2.1)
noncomputable def dou68 : BK := mkB [B1055] (kz8.2.2.2.2.2.2.2.2.2.1)
noncomputable def dou64 : BK := mkB [B1056] (kz8.2.2.2.2.2.2.2.2.2.2.1)
noncomputable def dou72 : BK := mkB [B1057] (kz8.2.2.2.2.2.2.2.2.2.2.2.1)
noncomputable def dou80 : BK := mkB [B1058] (kz8.2.2.2.2.2.2.2.2.2.2.2.2)
theorem kz9 : EN (fun P => []) (fun _ => hsvK 0 4607182418800017408 0 0) d280 d281 [1] n51 nN ∧ EN (fun P => []) (fun _ => rgbK 4607182418800017408 0 0 0 4607182418800017408 4607182418800017408) d282 d283 [11] n52 nN ∧ EN (fun P => []) (fun _ => hsvK 4593671619917905920 4607182418800017408 4604930618986332160 0) d280 d281 [1] n51 nN ∧ EN (fun P => []) (fun _ => rgbK 4607182418800017408 4604930618986332160 0 4593671619917905920 4607182418800017408 4607182418800017408) d284 d283 [11] n52 nN ∧ EN (fun P => []) (fun _ => hsvK 4598175219545276416 4602678819172646912 4607182418800017408 0) d285 d286 [1] n53 nN ∧ EN (fun P => []) (fun _ => rgbK 4602678819172646912 4607182418800017408 0 4598175219545276416 4607182418800017408 4607182418800017408) d287 d288 [11] n54 nN ∧ EN (fun P => []) (fun _ => hsvK 4600427019358961664 0 4607182418800017408 4598175219545276416) d289 d290 [1] n55 nN ∧ EN (fun P => []) (fun _ => rgbK 0 4607182418800017408 4598175219545276416 4600427019358961664 4607182418800017408 4607182418800017408) d291 d288 [11] n54 nN ∧ EN (fun P => []) (fun _ => hsvK 4602678819172646912 0 4607182418800017408 4607182418800017408) d292 d293 [1] n56 nN ∧ EN (fun P => []) (fun _ => rgbK 0 4607182418800017408 4607182418800017408 4602678819172646912 4607182418800017408 4607182418800017408) d291 d288 [11] n54 nN ∧ EN (fun P => []) (fun _ => hsvK 4603804719079489536 0 4598175219545276416 4607182418800017408) d292 d293 [1] n56 nN ∧ EN (fun P => []) (fun _ => rgbK 0 4598175219545276416 4607182418800017408 4603804719079489536 4607182418800017408 4607182418800017408) d294 d288 [11] n57 nN ∧ EN (fun P => []) (fun _ => hsvK 4604930618986332160 4602678819172646912 0 4607182418800017408) d295 d296 [1] n58 nN ∧ EN (fun P => []) (fun _ => rgbK 4602678819172646912 0 4607182418800017408 4604930618986332160 4607182418800017408 4607182418800017408) d297 d288 [11] n57 nN ∧ EN (fun P => []) (fun _ => hsvK 4606056518893174784 4607182418800017408 0 4604930618986332160) d298 d299 [1] n59 nN ∧ EN (fun P => []) (fun _ => rgbK 4607182418800017408 0 4604930618986332160 4606056518893174784 4607182418800017408 4607182418800017408) d282 d283 [11] n52 nN ∧ EN (fun P => []) (fun _ => hsvK 4603241769126068224 0 4603804719079489536 4607182418800017408) d292 d293 [1] n56 nN ∧ EN (fun P => []) (fun _ => rgbK 0 4603804719079489536 4607182418800017408 4603241769126068224 4607182418800017408 4607182418800017408) d294 d288 [11] n57 nN ∧ EN (fun P => []) (fun _ => hsvK 4604367669032910848 4593671619917905920 0 4607182418800017408) d295 d296 [1] n58 nN ∧ EN (fun P => []) (fun _ => rgbK 4593671619917905920 0 4607182418800017408 4604367669032910848 4607182418800017408 4607182418800017408) d297 d288 [11] n57 nN ∧ EN (fun P => []) (fun _ => hsvK 4602960294149357568 0 4605493568939753472 4607182418800017408) d292 d293 [1] n56 nN ∧ EN (fun P => []) (fun _ => rgbK 0 4605493568939753472 4607182418800017408 4602960294149357568 4607182418800017408 4607182418800017408) d294 d288 [11] n57 nN ∧ EN (fun P => []) (fun _ => hsvK 4603523244102778880 0 4601552919265804288 4607182418800017408) d292 d293 [1] n56 nN ∧ EN (fun P => []) (fun _ => rgbK 0 4601552919265804288 4607182418800017408 4603523244102778880 4607182418800017408 4607182418800017408) d294 d288 [11] n57 nN := ⟨fun _ _ _ _ _ _ => by kernel_rfl, fun _ _ _ _ _ _ => by kernel_rfl, fun _ _ _ _ _ _ => by kernel_rfl, fun _ _ _ _ _ _ => by kernel_rfl, fun _ _ _ _ _ _ => by kernel_rfl, fun _ _ _ _ _ _ => by kernel_rfl, fun _ _ _ _ _ _ => by kernel_rfl, fun _ _ _ _ _ _ => by kernel_rfl, fun _ _ _ _ _ _ => by kernel_rfl, fun _ _ _ _ _ _ => by kernel_rfl, fun _ _ _ _ _ _ => by kernel_rfl, fun _ _ _ _ _ _ => by kernel_rfl, fun _ _ _ _ _ _ => by kernel_rfl, fun _ _ _ _ _ _ => by kernel_rfl, fun _ _ _ _ _ _ => by kernel_rfl, fun _ _ _ _ _ _ => by kernel_rfl, fun _ _ _ _ _ _ => by kernel_rfl, fun _ _ _ _ _ _ => by kernel_rfl, fun _ _ _ _ _ _ => by kernel_rfl, fun _ _ _ _ _ _ => by kernel_rfl, fun _ _ _ _ _ _ => by kernel_rfl, fun _ _ _ _ _ _ => by kernel_rfl, fun _ _ _ _ _ _ => by kernel_rfl, fun _ _ _ _ _ _ => by kernel_rfl⟩
noncomputable def hsv_z : BK := mkB [] (kz9.1)
noncomputable def rgb1 : BK := mkB [] (kz9.2.1)
noncomputable def hsv_1 : BK := mkB [] (kz9.2.2.1)
noncomputable def rgb2 : BK := mkB [] (kz9.2.2.2.1)
noncomputable def hsv_2 : BK := mkB [] (kz9.2.2.2.2.1)
noncomputable def rgb3 : BK := mkB [] (kz9.2.2.2.2.2.1)
noncomputable def hsv_3 : BK := mkB [] (kz9.2.2.2.2.2.2.1)
noncomputable def rgb4 : BK := mkB [] (kz9.2.2.2.2.2.2.2.1)
noncomputable def hsv_4 : BK := mkB [] (kz9.2.2.2.2.2.2.2.2.1)
noncomputable def rgb5 : BK := mkB [] (kz9.2.2.2.2.2.2.2.2.2.1)
noncomputable def hsv_5 : BK := mkB [] (kz9.2.2.2.2.2.2.2.2.2.2.1)
noncomputable def rgb6 : BK := mkB [] (kz9.2.2.2.2.2.2.2.2.2.2.2.1)
noncomputable def hsv_6 : BK := mkB [] (kz9.2.2.2.2.2.2.2.2.2.2.2.2.1)
noncomputable def rgb7 : BK := mkB [] (kz9.2.2.2.2.2.2.2.2.2.2.2.2.2.1)
noncomputable def hsv_7 : BK := mkB [] (kz9.2.2.2.2.2.2.2.2.2.2.2.2.2.2.1)
noncomputable def rgb8 : BK := mkB [] (kz9.2.2.2.2.2.2.2.2.2.2.2.2.2.2.2.1)
noncomputable def hsv_8 : BK := mkB [] (kz9.2.2.2.2.2.2.2.2.2.2.2.2.2.2.2.2.1)
noncomputable def rgb9 : BK := mkB [] (kz9.2.2.2.2.2.2.2.2.2.2.2.2.2.2.2.2.2.1)
noncomputable def hsv_9 : BK := mkB [] (kz9.2.2.2.2.2.2.2.2.2.2.2.2.2.2.2.2.2.2.1)
noncomputable def rgb10 : BK := mkB [] (kz9.2.2.2.2.2.2.2.2.2.2.2.2.2.2.2.2.2.2.2.1)
noncomputable def hsv_10 : BK := mkB [] (kz9.2.2.2.2.2.2.2.2.2.2.2.2.2.2.2.2.2.2.2.2.1)
noncomputable def rgb11 : BK := mkB [] (kz9.2.2.2.2.2.2.2.2.2.2.2.2.2.2.2.2.2.2.2.2.2.1)
noncomputable def hsv_11 : BK := mkB [] (kz9.2.2.2.2.2.2.2.2.2.2.2.2.2.2.2.2.2.2.2.2.2.2.1)
noncomputable def rgb12 : BK := mkB [] (kz9.2.2.2.2.2.2.2.2.2.2.2.2.2.2.2.2.2.2.2.2.2.2.2)
theorem kz10 : EN (fun P => []) (fun _ => hsvK 4601552919265804288 0 4607182418800017408 4603804719079489536) d289 d290 [1] n55 nN ∧ EN (fun P => []) (fun _ => rgbK 0 4607182418800017408 4603804719079489536 4601552919265804288 4607182418800017408 4607182418800017408) d291 d288 [11] n54 nN ∧ EN (fun P => []) (fun _ => hsvK 4605493568939753472 4606056518893174784 0 4607182418800017408) d295 d296 [1] n58 nN ∧ EN (fun P => []) (fun _ => rgbK 4606056518893174784 0 4607182418800017408 4605493568939753472 4607182418800017408 4607182418800017408) d297 d288 [11] n57 nN ∧ EN (fun P => []) (fun _ => hsvK 4604086194056200192 0 4589168020290535424 4607182418800017408) d292 d293 [1] n56 nN ∧ EN (fun P => []) (fun _ => rgbK 0 4589168020290535424 4607182418800017408 4604086194056200192 4607182418800017408 4607182418800017408) d294 d288 [11] n57 nN ∧ EN (fun P => []) (fun _ => hsvK 4605212093963042816 4604367669032910848 0 4607182418800017408) d295 d296 [1] n58 nN ∧ EN (fun P => []) (fun _ => rgbK 4604367669032910848 0 4607182418800017408 4605212093963042816 4607182418800017408 4607182418800017408) d297 d288 [11] n57 nN ∧ EN (fun P => []) (fun _ => hsvK 4602819556661002240 0 4606337993869885440 4607182418800017408) d292 d293 [1] n56 nN ∧ EN (fun P => []) (fun _ => rgbK 0 4606337993869885440 4607182418800017408 4602819556661002240 4607182418800017408 4607182418800017408) d294 d288 [11] n57 nN ∧ EN (fun P => []) (fun _ => hsvK 4606619468846596096 4607182418800017408 0 4600427019358961664) d298 d299 [1] n59 nN ∧ EN (fun P => []) (fun _ => rgbK 4607182418800017408 0 4600427019358961664 4606619468846596096 4607182418800017408 4607182418800017408) d282 d283 [11] n52 nN ∧ EN (fun P => []) (fun _ => hsvK 4604649144009621504 4599301119452119040 0 4607182418800017408) d295 d296 [1] n58 nN ∧ EN (fun P => []) (fun _ => rgbK 4599301119452119040 0 4607182418800017408 4604649144009621504 4607182418800017408 4607182418800017408) d297 d288 [11] n57 nN ∧ EN (fun P => []) (fun _ => hsvK 4605775043916464128 4607182418800017408 0 4606619468846596096) d298 d299 [1] n59 nN ∧ EN (fun P => []) (fun _ => rgbK 4607182418800017408 0 4606619468846596096 4605775043916464128 4607182418800017408 4607182418800017408) d282 d283 [11] n52 nN ∧ EN (fun P => []) (fun _ => hsvK 4603101031637712896 0 4604649144009621504 4607182418800017408) d292 d293 [1] n56 nN ∧ EN (fun P => []) (fun _ => rgbK 0 4604649144009621504 4607182418800017408 4603101031637712896 4607182418800017408 4607182418800017408) d294 d288 [11] n57 nN ∧ EN (fun P => []) (fun _ => hsvK 4589168020290535424 4607182418800017408 4600427019358961664 0) d280 d281 [1] n51 nN ∧ EN (fun P => []) (fun _ => rgbK 4607182418800017408 4600427019358961664 0 4589168020290535424 4607182418800017408 4607182418800017408) d284 d283 [11] n52 nN ∧ EN (fun P => []) (fun _ => hsvK 4606337993869885440 4607182418800017408 0 4603241769126068224) d298 d299 [1] n59 nN ∧ EN (fun P => []) (fun _ => rgbK 4607182418800017408 0 4603241769126068224 4606337993869885440 4607182418800017408 4607182418800017408) d282 d283 [11] n52 nN ∧ EN (fun P => []) (fun _ => hsvK 4603382506614423552 0 4602960294149357568 4607182418800017408) d292 d293 [1] n56 nN ∧ EN (fun P => []) (fun _ => rgbK 0 4602960294149357568 4607182418800017408 4603382506614423552 4607182418800017408 4607182418800017408) d294 d288 [11] n57 nN := ⟨fun _ _ _ _ _ _ => by kernel_rfl, fun _ _ _ _ _ _ => by kernel_rfl, fun _ _ _ _ _ _ => by kernel_rfl, fun _ _ _ _ _ _ => by kernel_rfl, fun _ _ _ _ _ _ => by kernel_rfl, fun _ _ _ _ _ _ => by kernel_rfl, fun _ _ _ _ _ _ => by kernel_rfl, fun _ _ _ _ _ _ => by kernel_rfl, fun _ _ _ _ _ _ => by kernel_rfl, fun _ _ _ _ _ _ => by kernel_rfl, fun _ _ _ _ _ _ => by kernel_rfl, fun _ _ _ _ _ _ => by kernel_rfl, fun _ _ _ _ _ _ => by kernel_rfl, fun _ _ _ _ _ _ => by kernel_rfl, fun _ _ _ _ _ _ => by kernel_rfl, fun _ _ _ _ _ _ => by kernel_rfl, fun _ _ _ _ _ _ => by kernel_rfl, fun _ _ _ _ _ _ => by kernel_rfl, fun _ _ _ _ _ _ => by kernel_rfl, fun _ _ _ _ _ _ => by kernel_rfl, fun _ _ _ _ _ _ => by kernel_rfl, fun _ _ _ _ _ _ => by kernel_rfl, fun _ _ _ _ _ _ => by kernel_rfl, fun _ _ _ _ _ _ => by kernel_rfl⟩
noncomputable def hsv_12 : BK := mkB [] (kz10.1)
noncomputable def rgb13 : BK := mkB [] (kz10.2.1)
noncomputable def hsv_13 : BK := mkB [] (kz10.2.2.1)
noncomputable def rgb14 : BK := mkB [] (kz10.2.2.2.1)
noncomputable def hsv_14 : BK := mkB [] (kz10.2.2.2.2.1)
noncomputable def rgb15 : BK := mkB [] (kz10.2.2.2.2.2.1)
noncomputable def hsv_15 : BK := mkB [] (kz10.2.2.2.2.2.2.1)
noncomputable def rgb16 : BK := mkB [] (kz10.2.2.2.2.2.2.2.1)
noncomputable def hsv_16 : BK := mkB [] (kz10.2.2.2.2.2.2.2.2.1)
noncomputable def rgb17 : BK := mkB [] (kz10.2.2.2.2.2.2.2.2.2.1)
noncomputable def hsv_17 : BK := mkB [] (kz10.2.2.2.2.2.2.2.2.2.2.1)
noncomputable def rgb18 : BK := mkB [] (kz10.2.2.2.2.2.2.2.2.2.2.2.1)
noncomputable def hsv_18 : BK := mkB [] (kz10.2.2.2.2.2.2.2.2.2.2.2.2.1)
noncomputable def rgb19 : BK := mkB [] (kz10.2.2.2.2.2.2.2.2.2.2.2.2.2.1)
noncomputable def hsv_19 : BK := mkB [] (kz10.2.2.2.2.2.2.2.2.2.2.2.2.2.2.1)
noncomputable def rgb20 : BK := mkB [] (kz10.2.2.2.2.2.2.2.2.2.2.2.2.2.2.2.1)
noncomputable def hsv_20 : BK := mkB [] (kz10.2.2.2.2.2.2.2.2.2.2.2.2.2.2.2.2.1)
noncomputable def rgb21 : BK := mkB [] (kz10.2.2.2.2.2.2.2.2.2.2.2.2.2.2.2.2.2.1)
noncomputable def hsv_21 : BK := mkB [] (kz10.2.2.2.2.2.2.2.2.2.2.2.2.2.2.2.2.2.2.1)
noncomputable def rgb22 : BK := mkB [] (kz10.2.2.2.2.2.2.2.2.2.2.2.2.2.2.2.2.2.2.2.1)
noncomputable def hsv_22 : BK := mkB [] (kz10.2.2.2.2.2.2.2.2.2.2.2.2.2.2.2.2.2.2.2.2.1)
noncomputable def rgb23 : BK := mkB [] (kz10.2.2.2.2.2.2.2.2.2.2.2.2.2.2.2.2.2.2.2.2.2.1)
noncomputable def hsv_23 : BK := mkB [] (kz10.2.2.2.2.2.2.2.2.2.2.2.2.2.2.2.2.2.2.2.2.2.2.1)
noncomputable def rgb24 : BK := mkB [] (kz10.2.2.2.2.2.2.2.2.2.2.2.2.2.2.2.2.2.2.2.2.2.2.2)
theorem kz11 : EN (fun P => []) (fun _ => hsvK 4584664420663164928 4607182418800017408 4595923419731591168 0) d280 d281 [1] n51 nN ∧ EN (fun P => []) (fun _ => rgbK 4607182418800017408 4595923419731591168 0 4584664420663164928 4607182418800017408 4607182418800017408) d284 d283 [11] n52 nN ∧ EN (fun P => []) (fun _ => hsvK 4603945456567844864 0 4594797519824748544 4607182418800017408) d292 d293 [1] n56 nN ∧ EN (fun P => []) (fun _ => rgbK 0 4594797519824748544 4607182418800017408 4603945456567844864 4607182418800017408 4607182418800017408) d294 d288 [11] n57 nN ∧ EN (fun P => []) (fun _ => hsvK 4580160821035794432 4607182418800017408 4591419820104220672 0) d280 d281 [1] n51 nN ∧ EN (fun P => []) (fun _ => rgbK 4607182418800017408 4591419820104220672 0 4580160821035794432 4607182418800017408 4607182418800017408) d284 d283 [11] n52 nN ∧ EN (fun P => []) (fun _ => hsvK 4605071356474687488 4603523244102778880 0 4607182418800017408) d295 d296 [1] n58 nN ∧ EN (fun P => []) (fun _ => rgbK 4603523244102778880 0 4607182418800017408 4605071356474687488 4607182418800017408 4607182418800017408) d297 d288 [11] n57 nN ∧ EN (fun P => []) (fun _ => hsvK 4599301119452119040 4593671619917905920 4607182418800017408 0) d285 d286 [1] n53 nN ∧ EN (fun P => []) (fun _ => rgbK 4593671619917905920 4607182418800017408 0 4599301119452119040 4607182418800017408 4607182418800017408) d287 d288 [11] n54 nN ∧ EN (fun P => []) (fun _ => hsvK 4595923419731591168 4606056518893174784 4607182418800017408 0) d285 d286 [1] n53 nN ∧ EN (fun P => []) (fun _ => rgbK 4606056518893174784 4607182418800017408 0 4595923419731591168 4607182418800017408 4607182418800017408) d287 d288 [11] n54 nN ∧ EN (fun P => []) (fun _ => hsvK 4598738169498697728 4599301119452119040 4607182418800017408 0) d285 d286 [1] n53 nN ∧ EN (fun P => []) (fun _ => rgbK 4599301119452119040 4607182418800017408 0 4598738169498697728 4607182418800017408 4607182418800017408) d287 d288 [11] n54 nN ∧ EN (fun P => []) (fun _ => hsvK 4591419820104220672 4607182418800017408 4603241769126068224 0) d280 d281 [1] n51 nN ∧ EN (fun P => []) (fun _ => rgbK 4607182418800017408 4603241769126068224 0 4591419820104220672 4607182418800017408 4607182418800017408) d284 d283 [11] n52 nN ∧ EN (fun P => []) (fun _ => hsvK 4594797519824748544 4607182418800017408 4606619468846596096 0) d280 d281 [1] n51 nN ∧ EN (fun P => []) (fun _ => rgbK 4607182418800017408 4606619468846596096 0 4594797519824748544 4607182418800017408 4607182418800017408) d284 d283 [11] n52 nN ∧ EN (fun P => []) (fun _ => hsvK 4598456694521987072 4600989969312382976 4607182418800017408 0) d285 d286 [1] n53 nN ∧ EN (fun P => []) (fun _ => rgbK 4600989969312382976 4607182418800017408 0 4598456694521987072 4607182418800017408 4607182418800017408) d287 d288 [11] n54 nN ∧ EN (fun P => []) (fun _ => hsvK 4586916220476850176 4607182418800017408 4598738169498697728 0) d280 d281 [1] n51 nN ∧ EN (fun P => []) (fun _ => rgbK 4607182418800017408 4598738169498697728 0 4586916220476850176 4607182418800017408 4607182418800017408) d284 d283 [11] n52 nN ∧ EN (fun P => []) (fun _ => hsvK 4590293920197378048 4607182418800017408 4602115869219225600 0) d280 d281 [1] n51 nN ∧ EN (fun P => []) (fun _ => rgbK 4607182418800017408 4602115869219225600 0 4590293920197378048 4607182418800017408 4607182418800017408) d284 d283 [11] n52 nN := ⟨fun _ _ _ _ _ _ => by kernel_rfl, fun _ _ _ _ _ _ => by kernel_rfl, fun _ _ _ _ _ _ => by kernel_rfl, fun _ _ _ _ _ _ => by kernel_rfl, fun _ _ _ _ _ _ => by kernel_rfl, fun _ _ _ _ _ _ => by kernel_rfl, fun _ _ _ _ _ _ => by kernel_rfl, fun _ _ _ _ _ _ => by kernel_rfl, fun _ _ _ _ _ _ => by kernel_rfl, fun _ _ _ _ _ _ => by kernel_rfl, fun _ _ _ _ _ _ => by kernel_rfl, fun _ _ _ _ _ _ => by kernel_rfl, fun _ _ _ _ _ _ => by kernel_rfl, fun _ _ _ _ _ _ => by kernel_rfl, fun _ _ _ _ _ _ => by kernel_rfl, fun _ _ _ _ _ _ => by kernel_rfl, fun _ _ _ _ _ _ => by kernel_rfl, fun _ _ _ _ _ _ => by kernel_rfl, fun _ _ _ _ _ _ => by kernel_rfl, fun _ _ _ _ _ _ => by kernel_rfl, fun _ _ _ _ _ _ => by kernel_rfl, fun _ _ _ _ _ _ => by kernel_rfl, fun _ _ _ _ _ _ => by kernel_rfl, fun _ _ _ _ _ _ => by kernel_rfl⟩
noncomputable def hsv_24 : BK := mkB [] (kz11.1)
noncomputable def rgb25 : BK := mkB [] (kz11.2.1)
noncomputable def hsv_25 : BK := mkB [] (kz11.2.2.1)
noncomputable def rgb26 : BK := mkB [] (kz11.2.2.2.1)
noncomputable def hsv_26 : BK := mkB [] (kz11.2.2.2.2.1)
noncomputable def rgb27 : BK := mkB [] (kz11.2.2.2.2.2.1)
noncomputable def hsv_27 : BK := mkB [] (kz11.2.2.2.2.2.2.1)
noncomputable def rgb28 : BK := mkB [] (kz11.2.2.2.2.2.2.2.1)
noncomputable def hsv_28 : BK := mkB [] (kz11.2.2.2.2.2.2.2.2.1)
noncomputable def rgb29 : BK := mkB [] (kz11.2.2.2.2.2.2.2.2.2.1)
noncomputable def hsv_29 : BK := mkB [] (kz11.2.2.2.2.2.2.2.2.2.2.1)
noncomputable def rgb30 : BK := mkB [] (kz11.2.2.2.2.2.2.2.2.2.2.2.1)
noncomputable def hsv_30 : BK := mkB [] (kz11.2.2.2.2.2.2.2.2.2.2.2.2.1)
noncomputable def rgb31 : BK := mkB [] (kz11.2.2.2.2.2.2.2.2.2.2.2.2.2.1)
noncomputable def hsv_31 : BK := mkB [] (kz11.2.2.2.2.2.2.2.2.2.2.2.2.2.2.1)
noncomputable def rgb32 : BK := mkB [] (kz11.2.2.2.2.2.2.2.2.2.2.2.2.2.2.2.1)
noncomputable def hsv_32 : BK := mkB [] (kz11.2.2.2.2.2.2.2.2.2.2.2.2.2.2.2.2.1)
noncomputable def rgb33 : BK := mkB [] (kz11.2.2.2.2.2.2.2.2.2.2.2.2.2.2.2.2.2.1)
noncomputable def hsv_33 : BK := mkB [] (kz11.2.2.2.2.2.2.2.2.2.2.2.2.2.2.2.2.2.2.1)
noncomputable def rgb34 : BK := mkB [] (kz11.2.2.2.2.2.2.2.2.2.2.2.2.2.2.2.2.2.2.2.1)
noncomputable def hsv_34 : BK := mkB [] (kz11.2.2.2.2.2.2.2.2.2.2.2.2.2.2.2.2.2.2.2.2.1)
noncomputable def rgb35 : BK := mkB [] (kz11.2.2.2.2.2.2.2.2.2.2.2.2.2.2.2.2.2.2.2.2.2.1)
noncomputable def hsv_35 : BK := mkB [] (kz11.2.2.2.2.2.2.2.2.2.2.2.2.2.2.2.2.2.2.2.2.2.2.1)
noncomputable def rgb36 : BK := mkB [] (kz11.2.2.2.2.2.2.2.2.2.2.2.2.2.2.2.2.2.2.2.2.2.2.2)
theorem kz12 : EN (fun P => []) (fun _ => hsvK 4594234569871327232 4607182418800017408 4605775043916464128 0) d280 d281 [1] n51 nN ∧ EN (fun P => []) (fun _ => rgbK 4607182418800017408 4605775043916464128 0 4594234569871327232 4607182418800017408 4607182418800017408) d284 d283 [11] n52 nN ∧ EN (fun P => []) (fun _ => hsvK 4600989969312382976 0 4607182418800017408 4601552919265804288) d289 d290 [1] n55 nN ∧ EN (fun P => []) (fun _ => rgbK 0 4607182418800017408 4601552919265804288 4600989969312382976 4607182418800017408 4607182418800017408) d291 d288 [11] n54 nN ∧ EN (fun P => []) (fun _ => hsvK 4599864069405540352 0 4607182418800017408 4589168020290535424) d289 d290 [1] n55 nN ∧ EN (fun P => []) (fun _ => rgbK 0 4607182418800017408 4589168020290535424 4599864069405540352 4607182418800017408 4607182418800017408) d291 d288 [11] n54 nN ∧ EN (fun P => []) (fun _ => hsvK 4600708494335672320 0 4607182418800017408 4599864069405540352) d289 d290 [1] n55 nN ∧ EN (fun P => []) (fun _ => rgbK 0 4607182418800017408 4599864069405540352 4600708494335672320 4607182418800017408 4607182418800017408) d291 d288 [11] n54 nN ∧ EN (fun P => []) (fun _ => hsvK 4597049319638433792 4604367669032910848 4607182418800017408 0) d285 d286 [1] n53 nN ∧ EN (fun P => []) (fun _ => rgbK 4604367669032910848 4607182418800017408 0 4597049319638433792 4607182418800017408 4607182418800017408) d287 d288 [11] n54 nN ∧ EN (fun P => []) (fun _ => hsvK 4599019644475408384 4597049319638433792 4607182418800017408 0) d285 d286 [1] n53 nN ∧ EN (fun P => []) (fun _ => rgbK 4597049319638433792 4607182418800017408 0 4599019644475408384 4607182418800017408 4607182418800017408) d287 d288 [11] n54 nN ∧ EN (fun P => []) (fun _ => hsvK 4599582594428829696 4584664420663164928 4607182418800017408 0) d285 d286 [1] n53 nN ∧ EN (fun P => []) (fun _ => rgbK 4584664420663164928 4607182418800017408 0 4599582594428829696 4607182418800017408 4607182418800017408) d287 d288 [11] n54 nN ∧ EN (fun P => []) (fun _ => rgbK 0 0 0 0 0 0) d300 d301 [11] n60 nN ∧ EN (fun P => []) (fun _ => intK 0 0) 0x0 d302 [] n61 nN ∧ EN (fun P => []) (fun _ => rgbK 0 4593671619917905920 0 4599676419421066581 4607182418800017408 4593671619917905920) d291 d288 [11] n54 nN ∧ EN (fun P => []) (fun _ => intK 4607182418800017408 1) 0x0 d302 [] n61 nN ∧ EN (fun P => []) (fun _ => rgbK 4593671619917905920 4598175219545276416 4593671619917905920 4599676419421066581 4602678819172646912 4598175219545276416) d291 d288 [11] n54 nN ∧ EN (fun P => []) (fun _ => intK 4611686018427387904 2) 0x0 d302 [] n61 nN ∧ EN (fun P => []) (fun _ => rgbK 4593671619917905920 4593671619917905920 4593671619917905920 0 0 4593671619917905920) d300 d301 [11] n60 nN ∧ EN (fun P => []) (fun _ => rgbK 4598175219545276416 4598175219545276416 4598175219545276416 0 0 4598175219545276416) d300 d301 [11] n60 nN ∧ EN (fun P => []) (fun _ => rgbK 4598175219545276416 4600427019358961664 4598175219545276416 4599676419421066581 4599676419421066581 4600427019358961664) d291 d288 [11] n54 nN ∧ EN (fun P => []) (fun _ => intK 4613937818241073152 3) 0x0 d302 [] n61 nN := ⟨fun _ _ _ _ _ _ => by kernel_rfl, fun _ _ _ _ _ _ => by kernel_rfl, fun _ _ _ _ _ _ => by kernel_rfl, fun _ _ _ _ _ _ => by kernel_rfl, fun _ _ _ _ _ _ => by kernel_rfl, fun _ _ _ _ _ _ => by kernel_rfl, fun _ _ _ _ _ _ => by kernel_rfl, fun _ _ _ _ _ _ => by kernel_rfl, fun _ _ _ _ _ _ => by kernel_rfl, fun _ _ _ _ _ _ => by kernel_rfl, fun _ _ _ _ _ _ => by kernel_rfl, fun _ _ _ _ _ _ => by kernel_rfl, fun _ _ _ _ _ _ => by kernel_rfl, fun _ _ _ _ _ _ => by kernel_rfl, fun _ _ _ _ _ _ => by kernel_rfl, fun _ _ _ _ _ _ => by kernel_rfl, fun _ _ _ _ _ _ => by kernel_rfl, fun _ _ _ _ _ _ => by kernel_rfl, fun _ _ _ _ _ _ => by kernel_rfl, fun _ _ _ _ _ _ => by kernel_rfl, fun _ _ _ _ _ _ => by kernel_rfl, fun _ _ _ _ _ _ => by kernel_rfl, fun _ _ _ _ _ _ => by kernel_rfl, fun _ _ _ _ _ _ => by kernel_rfl⟩
noncomputable def hsv_36 : BK := mkB [] (kz12.1)
noncomputable def rgb37 : BK := mkB [] (kz12.2.1)
noncomputable def hsv_37 : BK := mkB [] (kz12.2.2.1)
noncomputable def rgb38 : BK := mkB [] (kz12.2.2.2.1)
noncomputable def hsv_38 : BK := mkB [] (kz12.2.2.2.2.1)
noncomputable def rgb39 : BK := mkB [] (kz12.2.2.2.2.2.1)
noncomputable def hsv_39 : BK := mkB [] (kz12.2.2.2.2.2.2.1)
noncomputable def rgb40 : BK := mkB [] (kz12.2.2.2.2.2.2.2.1)
noncomputable def hsv_40 : BK := mkB [] (kz12.2.2.2.2.2.2.2.2.1)
noncomputable def rgb41 : BK := mkB [] (kz12.2.2.2.2.2.2.2.2.2.1)
noncomputable def hsv_41 : BK := mkB [] (kz12.2.2.2.2.2.2.2.2.2.2.1)
noncomputable def rgb42 : BK := mkB [] (kz12.2.2.2.2.2.2.2.2.2.2.2.1)
noncomputable def hsv_42 : BK := mkB [] (kz12.2.2.2.2.2.2.2.2.2.2.2.2.1)
noncomputable def rgb43 : BK := mkB [] (kz12.2.2.2.2.2.2.2.2.2.2.2.2.2.1)
noncomputable def rgb44 : BK := mkB [] (kz12.2.2.2.2.2.2.2.2.2.2.2.2.2.2.1)
noncomputable def int0 : BK := mkB [] (kz12.2.2.2.2.2.2.2.2.2.2.2.2.2.2.2.1)
noncomputable def rgb45 : BK := mkB [] (kz12.2.2.2.2.2.2.2.2.2.2.2.2.2.2.2.2.1)
noncomputable def int1 : BK := mkB [] (kz12.2.2.2.2.2.2.2.2.2.2.2.2.2.2.2.2.2.1)
noncomputable def rgb46 : BK := mkB [] (kz12.2.2.2.2.2.2.2.2.2.2.2.2.2.2.2.2.2.2.1)
noncomputable def int2 : BK := mkB [] (kz12.2.2.2.2.2.2.2.2.2.2.2.2.2.2.2.2.2.2.2.1)
noncomputable def rgb47 : BK := mkB [] (kz12.2.2.2.2.2.2.2.2.2.2.2.2.2.2.2.2.2.2.2.2.1)
noncomputable def rgb48 : BK := mkB [] (kz12.2.2.2.2.2.2.2.2.2.2.2.2.2.2.2.2.2.2.2.2.2.1)
noncomputable def rgb49 : BK := mkB [] (kz12.2.2.2.2.2.2.2.2.2.2.2.2.2.2.2.2.2.2.2.2.2.2.1)
noncomputable def int3 : BK := mkB [] (kz12.2.2.2.2.2.2.2.2.2.2.2.2.2.2.2.2.2.2.2.2.2.2.2)
theorem kz13 : EN (fun P => []) (fun _ => rgbK 4598175219545276416 4602678819172646912 4598175219545276416 4599676419421066581 4602678819172646912 4602678819172646912) d291 d288 [11] n54 nN ∧ EN (fun P => []) (fun _ => intK 4616189618054758400 4) 0x0 d302 [] n61 nN ∧ EN (fun P => []) (fun _ => rgbK 4600427019358961664 4600427019358961664 4600427019358961664 0 0 4600427019358961664) d300 d301 [11] n60 nN ∧ EN (fun P => []) (fun _ => rgbK 4600427019358961664 4602678819172646912 4600427019358961664 4599676419421066581 4598175219545276416 4602678819172646912) d291 d288 [11] n54 nN ∧ EN (fun P => []) (fun _ => rgbK 4602678819172646912 4602678819172646912 4602678819172646912 0 0 4602678819172646912) d300 d301 [11] n60 nN ∧ EN (fun P => []) (fun _ => rgbK 4602678819172646912 4603804719079489536 4602678819172646912 4599676419421066581 4596373779694328218 4603804719079489536) d291 d288 [11] n54 nN ∧ EN (fun P => []) (fun _ => intK 4617315517961601024 5) 0x0 d302 [] n61 nN ∧ EN (fun P => []) (fun _ => rgbK 4593671619917905920 4600427019358961664 4593671619917905920 4599676419421066581 4604180019048437077 4600427019358961664) d291 d288 [11] n54 nN ∧ EN (fun P => []) (fun _ => rgbK 4593671619917905920 4602678819172646912 4593671619917905920 4599676419421066581 4604930618986332160 4602678819172646912) d291 d288 [11] n54 nN ∧ EN (fun P => []) (fun _ => rgbK 4603804719079489536 4603804719079489536 4603804719079489536 0 0 4603804719079489536) d300 d301 [11] n60 nN ∧ EN (fun P => []) (fun _ => rgbK 0 4598175219545276416 0 4599676419421066581 4607182418800017408 4598175219545276416) d291 d288 [11] n54 nN ∧ EN (fun P => []) (fun _ => rgbK 0 4600427019358961664 0 4599676419421066581 4607182418800017408 4600427019358961664) d291 d288 [11] n54 nN ∧ EN (fun P => []) (fun _ => rgbK 0 4602678819172646912 0 4599676419421066581 4607182418800017408 4602678819172646912) d291 d288 [11] n54 nN ∧ EN (fun P => []) (fun _ => rgbK 4603804719079489536 4604930618986332160 4603804719079489536 4599676419421066581 4595172819793696085 4604930618986332160) d291 d288 [11] n54 nN ∧ EN (fun P => []) (fun _ => intK 4618441417868443648 6) 0x0 d302 [] n61 nN := ⟨fun _ _ _ _ _ _ => by kernel_rfl, fun _ _ _ _ _ _ => by kernel_rfl, fun _ _ _ _ _ _ => by kernel_rfl, fun _ _ _ _ _ _ => by kernel_rfl, fun _ _ _ _ _ _ => by kernel_rfl, fun _ _ _ _ _ _ => by kernel_rfl, fun _ _ _ _ _ _ => by kernel_rfl, fun _ _ _ _ _ _ => by kernel_rfl, fun _ _ _ _ _ _ => by kernel_rfl, fun _ _ _ _ _ _ => by kernel_rfl, fun _ _ _ _ _ _ => by kernel_rfl, fun _ _ _ _ _ _ => by kernel_rfl, fun _ _ _ _ _ _ => by kernel_rfl, fun _ _ _ _ _ _ => by kernel_rfl, fun _ _ _ _ _ _ => by kernel_rfl⟩
noncomputable def rgb50 : BK := mkB [] (kz13.1)
noncomputable def int4 : BK := mkB [] (kz13.2.1)
noncomputable def rgb51 : BK := mkB [] (kz13.2.2.1)
noncomputable def rgb52 : BK := mkB [] (kz13.2.2.2.1)
noncomputable def rgb53 : BK := mkB [] (kz13.2.2.2.2.1)
noncomputable def rgb54 : BK := mkB [] (kz13.2.2.2.2.2.1)
noncomputable def int5 : BK := mkB [] (kz13.2.2.2.2.2.2.1)
noncomputable def rgb55 : BK := mkB [] (kz13.2.2.2.2.2.2.2.1)
noncomputable def rgb56 : BK := mkB [] (kz13.2.2.2.2.2.2.2.2.1)
noncomputable def rgb57 : BK := mkB [] (kz13.2.2.2.2.2.2.2.2.2.1)
noncomputable def rgb58 : BK := mkB [] (kz13.2.2.2.2.2.2.2.2.2.2.1)
noncomputable def rgb59 : BK := mkB [] (kz13.2.2.2.2.2.2.2.2.2.2.2.1)
noncomputable def rgb60 : BK := mkB [] (kz13.2.2.2.2.2.2.2.2.2.2.2.2.1)
noncomputable def rgb61 : BK := mkB [] (kz13.2.2.2.2.2.2.2.2.2.2.2.2.2.1)
noncomputable def int6 : BK := mkB [] (kz13.2.2.2.2.2.2.2.2.2.2.2.2.2.2)
theorem rw0 : RowE ff [ff, ff, ff, ff, ff] [.k B1, .f 0, .k B4, .f 1, .k B11, .f 2, .k B13, .f 3, .k B14, .f 4, .k B15, .k B22] d303 d304 [45, 47, 48, 49, 50, 51] n62 ∧ RowE ff [tt, ff, ff, ff, ff] [.k B1, .t, .k B25, .f 1, .k B28, .f 2, .k B29, .f 3, .k B30, .f 4, .k B31, .k B33] d303 d304 [45, 47, 48, 49, 50, 51] n62 ∧ RowE ff [ff, tt, ff, ff, ff] [.k B1, .f 0, .k B4, .t, .k B36, .f 2, .k B38, .f 3, .k B39, .f 4, .k B40, .k B42] d303 d304 [45, 47, 48, 49, 50, 51] n62 ∧ RowE ff [tt, tt, ff, ff, ff] [.k B1, .t, .k B25, .k B44, .f 2, .k B51, .f 3, .k B52, .f 4, .k B53, .k B55] d305 d306 [45, 47, 48, 49, 50] n63 := ⟨fun _ _ _ _ _ _ _ _ => by kernel_rfl, fun _ _ _ _ _ _ _ _ => by kernel_rfl, fun _ _ _ _ _ _ _ _ => by kernel_rfl, fun _ _ _ _ _ _ _ _ => by kernel_rfl⟩
noncomputable def r0 := row_ok rw0.1
noncomputable def r1 := row_ok rw0.2.1
noncomputable def r2 := row_ok rw0.2.2.1
noncomputable def r3 := row_ok rw0.2.2.2
theorem rw1 : RowE ff [ff, ff, tt, ff, ff] [.k B1, .f 0, .k B4, .f 1, .k B11, .t, .k B56, .f 3, .k B57, .f 4, .k B58, .k B60] d303 d304 [45, 47, 48, 49, 50, 51] n62 ∧ RowE ff [tt, ff, tt, ff, ff] [.k B1, .t, .k B25, .f 1, .k B28, .k B61, .f 3, .k B62, .f 4, .k B63, .k B65] d303 d307 [45, 47, 48, 49, 50, 51] n62 ∧ RowE ff [ff, tt, tt, ff, ff] [.k B1, .f 0, .k B4, .t, .k B36, .k B44, .f 3, .k B67, .f 4, .k B68, .k B70] d308 d309 [45, 47, 48, 49, 50] n64 ∧ RowE ff [tt, tt, tt, ff, ff] [.k B1, .t, .k B25, .k B44, .k B73, .f 3, .k B74, .f 4, .k B75, .k B77] d305 d310 [45, 47, 48, 49, 50] n63 := ⟨fun _ _ _ _ _ _ _ _ => by kernel_rfl, fun _ _ _ _ _ _ _ _ => by kernel_rfl, fun _ _ _ _ _ _ _ _ => by kernel_rfl, fun _ _ _ _ _ _ _ _ => by kernel_rfl⟩
noncomputable def r4 := row_ok rw1.1
noncomputable def r5 := row_ok rw1.2.1
noncomputable def r6 := row_ok rw1.2.2.1
noncomputable def r7 := row_ok rw1.2.2.2
theorem rw2 : RowE ff [ff, ff, ff, tt, ff] [.k B1, .f 0, .k B4, .f 1, .k B11, .f 2, .k B13, .t, .k B78, .f 4, .k B79, .k B81] d303 d304 [45, 47, 48, 49, 50, 51] n62 ∧ RowE ff [tt, ff, ff, tt, ff] [.k B1, .t, .k B25, .f 1, .k B28, .f 2, .k B29, .k B82, .f 4, .k B83, .k B85] d303 d311 [45, 47, 48, 49, 50, 51] n62 ∧ RowE ff [ff, tt, ff, tt, ff] [.k B1, .f 0, .k B4, .t, .k B36, .f 2, .k B38, .k B86, .f 4, .k B87, .k B89] d303 d312 [45, 47, 48, 49, 50, 51] n62 ∧ RowE ff [tt, tt, ff, tt, ff] [.k B1, .t, .k B25, .k B44, .f 2, .k B51, .k B90, .f 4, .k B91, .k B93] d305 d313 [45, 47, 48, 49, 50] n63 := ⟨fun _ _ _ _ _ _ _ _ => by kernel_rfl, fun _ _ _ _ _ _ _ _ => by kernel_rfl, fun _ _ _ _ _ _ _ _ => by kernel_rfl, fun _ _ _ _ _ _ _ _ => by kernel_rfl⟩
noncomputable def r8 := row_ok rw2.1
noncomputable def r9 := row_ok rw2.2.1
noncomputable def r10 := row_ok rw2.2.2.1
noncomputable def r11 := row_ok rw2.2.2.2
theorem rw3 : RowE ff [ff, ff, tt, tt, ff] [.k B1, .f 0, .k B4, .f 1, .k B11, .t, .k B56, .k B44, .f 4, .k B94, .k B96] d314 d315 [45, 47, 48, 49, 50] n65 ∧ RowE ff [tt, ff, tt, tt, ff] [.k B1, .t, .k B25, .f 1, .k B28, .k B61, .k B44, .f 4, .k B97, .k B99] d314 d316 [45, 47, 48, 49, 50] n65 ∧ RowE ff [ff, tt, tt, tt, ff] [.k B1, .f 0, .k B4, .t, .k B36, .k B44, .k B100, .f 4, .k B101, .k B103] d308 d317 [45, 47, 48, 49, 50] n64 ∧ RowE ff [tt, tt, tt, tt, ff] [.k B1, .t, .k B25, .k B44, .k B73, .f 4, .k B104, .k B106] d318 d319 [45, 47, 48, 49] n66 := ⟨fun _ _ _ _ _ _ _ _ => by kernel_rfl, fun _ _ _ _ _ _ _ _ => by kernel_rfl, fun _ _ _ _ _ _ _ _ => by kernel_rfl, fun _ _ _ _ _ _ _ _ => by kernel_rfl⟩
noncomputable def r12 := row_ok rw3.1
noncomputable def r13 := row_ok rw3.2.1
noncomputable def r14 := row_ok rw3.2.2.1
noncomputable def r15 := row_ok rw3.2.2.2
theorem rw4 : RowE ff [ff, ff, ff, ff, tt] [.k B1, .f 0, .k B4, .f 1, .k B11, .f 2, .k B13, .f 3, .k B14, .t, .k B107, .k B111] d303 d304 [45, 47, 48, 49, 50, 51] n62 ∧ RowE ff [tt, ff, ff, ff, tt] [.k B1, .t, .k B25, .f 1, .k B28, .f 2, .k B29, .f 3, .k B30, .k B112, .k B114] d303 d320 [45, 47, 48, 49, 50, 51] n62 ∧ RowE ff [ff, tt, ff, ff, tt] [.k B1, .f 0, .k B4, .t, .k B36, .f 2, .k B38, .f 3, .k B39, .k B115, .k B117] d303 d321 [45, 47, 48, 49, 50, 51] n62 ∧ RowE ff [tt, tt, ff, ff, tt] [.k B1, .t, .k B25, .k B44, .f 2, .k B51, .f 3, .k B52, .k B118, .k B120] d305 d322 [45, 47, 48, 49, 50] n63 := ⟨fun _ _ _ _ _ _ _ _ => by kernel_rfl, fun _ _ _ _ _ _ _ _ => by kernel_rfl, fun _ _ _ _ _ _ _ _ => by kernel_rfl, fun _ _ _ _ _ _ _ _ => by kernel_rfl⟩
noncomputable def r16 := row_ok rw4.1
noncomputable def r17 := row_ok rw4.2.1
noncomputable def r18 := row_ok rw4.2.2.1
noncomputable def r19 := row_ok rw4.2.2.2
theorem rw5 : RowE ff [ff, ff, tt, ff, tt] [.k B1, .f 0, .k B4, .f 1, .k B11, .t, .k B56, .f 3, .k B57, .k B121, .k B123] d303 d323 [45, 47, 48, 49, 50, 51] n62 ∧ RowE ff [tt, ff, tt, ff, tt] [.k B1, .t, .k B25, .f 1, .k B28, .k B61, .f 3, .k B62, .k B124, .k B126] d303 d324 [45, 47, 48, 49, 50, 51] n62 ∧ RowE ff [ff, tt, tt, ff, tt] [.k B1, .f 0, .k B4, .t, .k B36, .k B44, .f 3, .k B67, .k B127, .k B129] d308 d325 [45, 47, 48, 49, 50] n64 ∧ RowE ff [tt, tt, tt, ff, tt] [.k B1, .t, .k B25, .k B44, .k B73, .f 3, .k B74, .k B130, .k B132] d305 d326 [45, 47, 48, 49, 50] n63 := ⟨fun _ _ _ _ _ _ _ _ => by kernel_rfl, fun _ _ _ _ _ _ _ _ => by kernel_rfl, fun _ _ _ _ _ _ _ _ => by kernel_rfl, fun _ _ _ _ _ _ _ _ => by kernel_rfl⟩
noncomputable def r20 := row_ok rw5.1
noncomputable def r21 := row_ok rw5.2.1
noncomputable def r22 := row_ok rw5.2.2.1
noncomputable def r23 := row_ok rw5.2.2.2
theorem rw6 : RowE ff [ff, ff, ff, tt, tt] [.k B1, .f 0, .k B4, .f 1, .k B11, .f 2, .k B13, .t, .k B78, .k B44, .k B137] d327 d328 [45, 47, 48, 49, 50] n67 ∧ RowE ff [tt, ff, ff, tt, tt] [.k B1, .t, .k B25, .f 1, .k B28, .f 2, .k B29, .k B82, .k B44, .k B139] d327 d329 [45, 47, 48, 49, 50] n67 ∧ RowE ff [ff, tt, ff, tt, tt] [.k B1, .f 0, .k B4, .t, .k B36, .f 2, .k B38, .k B86, .k B44, .k B141] d327 d330 [45, 47, 48, 49, 50] n67 ∧ RowE ff [tt, tt, ff, tt, tt] [.k B1, .t, .k B25, .k B44, .f 2, .k B51, .k B90, .k B143] d331 d332 [45, 47, 48, 49] n68 := ⟨fun _ _ _ _ _ _ _ _ => by kernel_rfl, fun _ _ _ _ _ _ _ _ => by kernel_rfl, fun _ _ _ _ _ _ _ _ => by kernel_rfl, fun _ _ _ _ _ _ _ _ => by kernel_rfl⟩
noncomputable def r24 := row_ok rw6.1
noncomputable def r25 := row_ok rw6.2.1
noncomputable def r26 := row_ok rw6.2.2.1
noncomputable def r27 := row_ok rw6.2.2.2
theorem rw7 : RowE ff [ff, ff, tt, tt, tt] [.k B1, .f 0, .k B4, .f 1, .k B11, .t, .k B56, .k B44, .k B144, .k B146] d314 d333 [45, 47, 48, 49, 50] n65 ∧ RowE ff [tt, ff, tt, tt, tt] [.k B1, .t, .k B25, .f 1, .k B28, .k B61, .k B44, .k B147, .k B149] d314 d334 [45, 47, 48, 49, 50] n65 ∧ RowE ff [ff, tt, tt, tt, tt] [.k B1, .f 0, .k B4, .t, .k B36, .k B44, .k B100, .k B151] d335 d336 [45, 47, 48, 49] n69 ∧ RowE ff [tt, tt, tt, tt, tt] [.k B1, .t, .k B25, .k B44, .k B73, .k B152, .k B154] d318 d337 [45, 47, 48, 49] n66 := ⟨fun _ _ _ _ _ _ _ _ => by kernel_rfl, fun _ _ _ _ _ _ _ _ => by kernel_rfl, fun _ _ _ _ _ _ _ _ => by kernel_rfl, fun _ _ _ _ _ _ _ _ => by kernel_rfl⟩
noncomputable def r28 := row_ok rw7.1
noncomputable def r29 := row_ok rw7.2.1
noncomputable def r30 := row_ok rw7.2.2.1
noncomputable def r31 := row_ok rw7.2.2.2
theorem rw8 : RowE tt [ff, ff, ff, ff, ff] [.k B1, .f 0, .k B155, .f 1, .k B156, .f 2, .k B13, .f 3, .k B14, .f 4, .k B15, .k B22] d338 d304 [39, 41, 42, 43, 44, 45] n70 ∧ RowE tt [tt, ff, ff, ff, ff] [.k B1, .t, .k B157, .f 1, .k B158, .f 2, .k B29, .f 3, .k B30, .f 4, .k B31, .k B33] d338 d304 [39, 41, 42, 43, 44, 45] n70 ∧ RowE tt [ff, tt, ff, ff, ff] [.k B1, .f 0, .k B155, .t, .k B159, .f 2, .k B38, .f 3, .k B39, .f 4, .k B40, .k B42] d338 d304 [39, 41, 42, 43, 44, 45] n70 ∧ RowE tt [tt, tt, ff, ff, ff] [.k B1, .t, .k B157, .k B44, .f 2, .k B160, .f 3, .k B52, .f 4, .k B53, .k B55] d339 d306 [39, 41, 42, 43, 44] n71 := ⟨fun _ _ _ _ _ _ _ _ => by kernel_rfl, fun _ _ _ _ _ _ _ _ => by kernel_rfl, fun _ _ _ _ _ _ _ _ => by kernel_rfl, fun _ _ _ _ _ _ _ _ => by kernel_rfl⟩
noncomputable def r32 := row_ok rw8.1
noncomputable def r33 := row_ok rw8.2.1
noncomputable def r34 := row_ok rw8.2.2.1
noncomputable def r35 := row_ok rw8.2.2.2
theorem rw9 : RowE tt [ff, ff, tt, ff, ff] [.k B1, .f 0, .k B155, .f 1, .k B156, .t, .k B56, .f 3, .k B57, .f 4, .k B58, .k B60] d338 d304 [39, 41, 42, 43, 44, 45] n70 ∧ RowE tt [tt, ff, tt, ff, ff] [.k B1, .t, .k B157, .f 1, .k B158, .k B61, .f 3, .k B62, .f 4, .k B63, .k B65] d338 d307 [39, 41, 42, 43, 44, 45] n70 ∧ RowE tt [ff, tt, tt, ff, ff] [.k B1, .f 0, .k B155, .t, .k B159, .k B44, .f 3, .k B67, .f 4, .k B68, .k B70] d340 d309 [39, 41, 42, 43, 44] n72 ∧ RowE tt [tt, tt, tt, ff, ff] [.k B1, .t, .k B157, .k B44, .k B161, .f 3, .k B74, .f 4, .k B75, .k B77] d339 d310 [39, 41, 42, 43, 44] n71 := ⟨fun _ _ _ _ _ _ _ _ => by kernel_rfl, fun _ _ _ _ _ _ _ _ => by kernel_rfl, fun _ _ _ _ _ _ _ _ => by kernel_rfl, fun _ _ _ _ _ _ _ _ => by kernel_rfl⟩
noncomputable def r36 := row_ok rw9.1
noncomputable def r37 := row_ok rw9.2.1
noncomputable def r38 := row_ok rw9.2.2.1
noncomputable def r39 := row_ok rw9.2.2.2
theorem rw10 : RowE tt [ff, ff, ff, tt, ff] [.k B1, .f 0, .k B155, .f 1, .k B156, .f 2, .k B13, .t, .k B78, .f 4, .k B79, .k B81] d338 d304 [39, 41, 42, 43, 44, 45] n70 ∧ RowE tt [tt, ff, ff, tt, ff] [.k B1, .t, .k B157, .f 1, .k B158, .f 2, .k B29, .k B82, .f 4, .k B83, .k B85] d338 d311 [39, 41, 42, 43, 44, 45] n70 ∧ RowE tt [ff, tt, ff, tt, ff] [.k B1, .f 0, .k B155, .t, .k B159, .f 2, .k B38, .k B86, .f 4, .k B87, .k B89] d338 d312 [39, 41, 42, 43, 44, 45] n70 ∧ RowE tt [tt, tt, ff, tt, ff] [.k B1, .t, .k B157, .k B44, .f 2, .k B160, .k B90, .f 4, .k B91, .k B93] d339 d313 [39, 41, 42, 43, 44] n71 := ⟨fun _ _ _ _ _ _ _ _ => by kernel_rfl, fun _ _ _ _ _ _ _ _ => by kernel_rfl, fun _ _ _ _ _ _ _ _ => by kernel_rfl, fun _ _ _ _ _ _ _ _ => by kernel_rfl⟩
noncomputable def r40 := row_ok rw10.1
noncomputable def r41 := row_ok rw10.2.1
noncomputable def r42 := row_ok rw10.2.2.1
noncomputable def r43 := row_ok rw10.2.2.2
theorem rw11 : RowE tt [ff, ff, tt, tt, ff] [.k B1, .f 0, .k B155, .f 1, .k B156, .t, .k B56, .k B44, .f 4, .k B94, .k B96] d341 d315 [39, 41, 42, 43, 44] n73 ∧ RowE tt [tt, ff, tt, tt, ff] [.k B1, .t, .k B157, .f 1, .k B158, .k B61, .k B44, .f 4, .k B97, .k B99] d341 d316 [39, 41, 42, 43, 44] n73 ∧ RowE tt [ff, tt, tt, tt, ff] [.k B1, .f 0, .k B155, .t, .k B159, .k B44, .k B100, .f 4, .k B101, .k B103] d340 d317 [39, 41, 42, 43, 44] n72 ∧ RowE tt [tt, tt, tt, tt, ff] [.k B1, .t, .k B157, .k B44, .k B161, .f 4, .k B104, .k B106] d342 d319 [39, 41, 42, 43] n74 := ⟨fun _ _ _ _ _ _ _ _ => by kernel_rfl, fun _ _ _ _ _ _ _ _ => by kernel_rfl, fun _ _ _ _ _ _ _ _ => by kernel_rfl, fun _ _ _ _ _ _ _ _ => by kernel_rfl⟩
noncomputable def r44 := row_ok rw11.1
noncomputable def r45 := row_ok rw11.2.1
noncomputable def r46 := row_ok rw11.2.2.1
noncomputable def r47 := row_ok rw11.2.2.2
theorem rw12 : RowE tt [ff, ff, ff, ff, tt] [.k B1, .f 0, .k B155, .f 1, .k B156, .f 2, .k B13, .f 3, .k B14, .t, .k B107, .k B111] d338 d304 [39, 41, 42, 43, 44, 45] n70 ∧ RowE tt [tt, ff, ff, ff, tt] [.k B1, .t, .k B157, .f 1, .k B158, .f 2, .k B29, .f 3, .k B30, .k B112, .k B114] d338 d320 [39, 41, 42, 43, 44, 45] n70 ∧ RowE tt [ff, tt, ff, ff, tt] [.k B1, .f 0, .k B155, .t, .k B159, .f 2, .k B38, .f 3, .k B39, .k B115, .k B117] d338 d321 [39, 41, 42, 43, 44, 45] n70 ∧ RowE tt [tt, tt, ff, ff, tt] [.k B1, .t, .k B157, .k B44, .f 2, .k B160, .f 3, .k B52, .k B118, .k B120] d339 d322 [39, 41, 42, 43, 44] n71 := ⟨fun _ _ _ _ _ _ _ _ => by kernel_rfl, fun _ _ _ _ _ _ _ _ => by kernel_rfl, fun _ _ _ _ _ _ _ _ => by kernel_rfl, fun _ _ _ _ _ _ _ _ => by kernel_rfl⟩
noncomputable def r48 := row_ok rw12.1
noncomputable def r49 := row_ok rw12.2.1
noncomputable def r50 := row_ok rw12.2.2.1
noncomputable def r51 := row_ok rw12.2.2.2
theorem rw13 : RowE tt [ff, ff, tt, ff, tt] [.k B1, .f 0, .k B155, .f 1, .k B156, .t, .k B56, .f 3, .k B57, .k B121, .k B123] d338 d323 [39, 41, 42, 43, 44, 45] n70 ∧ RowE tt [tt, ff, tt, ff, tt] [.k B1, .t, .k B157, .f 1, .k B158, .k B61, .f 3, .k B62, .k B124, .k B126] d338 d324 [39, 41, 42, 43, 44, 45] n70 ∧ RowE tt [ff, tt, tt, ff, tt] [.k B1, .f 0, .k B155, .t, .k B159, .k B44, .f 3, .k B67, .k B127, .k B129] d340 d325 [39, 41, 42, 43, 44] n72 ∧ RowE tt [tt, tt, tt, ff, tt] [.k B1, .t, .k B157, .k B44, .k B161, .f 3, .k B74, .k B130, .k B132] d339 d326 [39, 41, 42, 43, 44] n71 := ⟨fun _ _ _ _ _ _ _ _ => by kernel_rfl, fun _ _ _ _ _ _ _ _ => by kernel_rfl, fun _ _ _ _ _ _ _ _ => by kernel_rfl, fun _ _ _ _ _ _ _ _ => by kernel_rfl⟩
noncomputable def r52 := row_ok rw13.1
noncomputable def r53 := row_ok rw13.2.1
noncomputable def r54 := row_ok rw13.2.2.1
noncomputable def r55 := row_ok rw13.2.2.2
theorem rw14 : RowE tt [ff, ff, ff, tt, tt] [.k B1, .f 0, .k B155, .f 1, .k B156, .f 2, .k B13, .t, .k B78, .k B44, .k B137] d343 d328 [39, 41, 42, 43, 44] n75 ∧ RowE tt [tt, ff, ff, tt, tt] [.k B1, .t, .k B157, .f 1, .k B158, .f 2, .k B29, .k B82, .k B44, .k B139] d343 d329 [39, 41, 42, 43, 44] n75 ∧ RowE tt [ff, tt, ff, tt, tt] [.k B1, .f 0, .k B155, .t, .k B159, .f 2, .k B38, .k B86, .k B44, .k B141] d343 d330 [39, 41, 42, 43, 44] n75 ∧ RowE tt [tt, tt, ff, tt, tt] [.k B1, .t, .k B157, .k B44, .f 2, .k B160, .k B90, .k B143] d344 d332 [39, 41, 42, 43] n76 := ⟨fun _ _ _ _ _ _ _ _ => by kernel_rfl, fun _ _ _ _ _ _ _ _ => by kernel_rfl, fun _ _ _ _ _ _ _ _ => by kernel_rfl, fun _ _ _ _ _ _ _ _ => by kernel_rfl⟩
noncomputable def r56 := row_ok rw14.1
noncomputable def r57 := row_ok rw14.2.1
noncomputable def r58 := row_ok rw14.2.2.1
noncomputable def r59 := row_ok rw14.2.2.2
theorem rw15 : RowE tt [ff, ff, tt, tt, tt] [.k B1, .f 0, .k B155, .f 1, .k B156, .t, .k B56, .k B44, .k B144, .k B146] d341 d333 [39, 41, 42, 43, 44] n73 ∧ RowE tt [tt, ff, tt, tt, tt] [.k B1, .t, .k B157, .f 1, .k B158, .k B61, .k B44, .k B147, .k B149] d341 d334 [39, 41, 42, 43, 44] n73 ∧ RowE tt [ff, tt, tt, tt, tt] [.k B1, .f 0, .k B155, .t, .k B159, .k B44, .k B100, .k B151] d345 d336 [39, 41, 42, 43] n77 ∧ RowE tt [tt, tt, tt, tt, tt] [.k B1, .t, .k B157, .k B44, .k B161, .k B152, .k B154] d342 d337 [39, 41, 42, 43] n74 := ⟨fun _ _ _ _ _ _ _ _ => by kernel_rfl, fun _ _ _ _ _ _ _ _ => by kernel_rfl, fun _ _ _ _ _ _ _ _ => by kernel_rfl, fun _ _ _ _ _ _ _ _ => by kernel_rfl⟩
noncomputable def r60 := row_ok rw15.1
noncomputable def r61 := row_ok rw15.2.1
noncomputable def r62 := row_ok rw15.2.2.1
noncomputable def r63 := row_ok rw15.2.2.2
theorem rw16 : RowE tt [tt, ff, ff, ff] [.k B1, .t, .k B157, .f 1, .k B158, .f 2, .k B29, .f 3, .k B30, .k B163] d346 d347 [34, 36, 37, 38, 39] n78 ∧ RowE tt [tt, tt, ff, ff] [.k B1, .t, .k B157, .k B44, .f 2, .k B160, .f 3, .k B52, .k B165] d348 d349 [34, 36, 37, 38] n79 ∧ RowE tt [tt, ff, tt, ff] [.k B1, .t, .k B157, .f 1, .k B158, .k B61, .f 3, .k B62, .k B167] d346 d350 [34, 36, 37, 38, 39] n78 ∧ RowE tt [tt, tt, tt, ff] [.k B1, .t, .k B157, .k B44, .k B161, .f 3, .k B74, .k B169] d348 d351 [34, 36, 37, 38] n79 ∧ RowE tt [tt, ff, ff, tt] [.k B1, .t, .k B157, .f 1, .k B158, .f 2, .k B29, .k B82, .k B171] d346 d352 [34, 36, 37, 38, 39] n78 := ⟨fun _ _ _ _ _ _ _ _ => by kernel_rfl, fun _ _ _ _ _ _ _ _ => by kernel_rfl, fun _ _ _ _ _ _ _ _ => by kernel_rfl, fun _ _ _ _ _ _ _ _ => by kernel_rfl, fun _ _ _ _ _ _ _ _ => by kernel_rfl⟩
noncomputable def r64 := row_ok rw16.1
noncomputable def r65 := row_ok rw16.2.1
noncomputable def r66 := row_ok rw16.2.2.1
noncomputable def r67 := row_ok rw16.2.2.2.1
noncomputable def r68 := row_ok rw16.2.2.2.2
theorem rw17 : RowE tt [tt, tt, ff, tt] [.k B1, .t, .k B157, .k B44, .f 2, .k B160, .k B90, .k B173] d348 d353 [34, 36, 37, 38] n79 ∧ RowE tt [tt, ff, tt, tt] [.k B1, .t, .k B157, .f 1, .k B158, .k B61, .k B44, .k B175] d354 d355 [34, 36, 37, 38] n80 ∧ RowE tt [tt, tt, tt, tt] [.k B1, .t, .k B157, .k B44, .k B161, .k B177] d356 d357 [34, 36, 37] n81 ∧ RowE tt [ff, tt, ff, ff] [.k B1, .f 0, .k B155, .t, .k B159, .f 2, .k B38, .f 3, .k B39, .k B179] d346 d347 [34, 36, 37, 38, 39] n78 ∧ RowE tt [ff, tt, tt, ff] [.k B1, .f 0, .k B155, .t, .k B159, .k B44, .f 3, .k B67, .k B181] d358 d359 [34, 36, 37, 38] n82 := ⟨fun _ _ _ _ _ _ _ _ => by kernel_rfl, fun _ _ _ _ _ _ _ _ => by kernel_rfl, fun _ _ _ _ _ _ _ _ => by kernel_rfl, fun _ _ _ _ _ _ _ _ => by kernel_rfl, fun _ _ _ _ _ _ _ _ => by kernel_rfl⟩
noncomputable def r69 := row_ok rw17.1
noncomputable def r70 := row_ok rw17.2.1
noncomputable def r71 := row_ok rw17.2.2.1
noncomputable def r72 := row_ok rw17.2.2.2.1
noncomputable def r73 := row_ok rw17.2.2.2.2
theorem rw18 : RowE tt [ff, tt, ff, tt] [.k B1, .f 0, .k B155, .t, .k B159, .f 2, .k B38, .k B86, .k B183] d346 d360 [34, 36, 37, 38, 39] n78 ∧ RowE tt [ff, tt, tt, tt] [.k B1, .f 0, .k B155, .t, .k B159, .k B44, .k B100, .k B185] d358 d361 [34, 36, 37, 38] n82 ∧ RowE tt [ff, ff, tt, ff] [.k B1, .f 0, .k B155, .f 1, .k B156, .t, .k B56, .f 3, .k B57, .k B187] d346 d347 [34, 36, 37, 38, 39] n78 ∧ RowE tt [ff, ff, tt, tt] [.k B1, .f 0, .k B155, .f 1, .k B156, .t, .k B56, .k B44, .k B189] d354 d362 [34, 36, 37, 38] n80 ∧ RowE tt [tt, tt, ff] [.k B1, .t, .k B157, .k B44, .f 2, .k B160, .k B191] d363 d364 [29, 31, 32] n83 ∧ RowE tt [tt, tt, tt] [.k B1, .t, .k B157, .k B44, .k B161, .k B193] d363 d365 [29, 31, 32] n83 := ⟨fun _ _ _ _ _ _ _ _ => by kernel_rfl, fun _ _ _ _ _ _ _ _ => by kernel_rfl, fun _ _ _ _ _ _ _ _ => by kernel_rfl, fun _ _ _ _ _ _ _ _ => by kernel_rfl, fun _ _ _ _ _ _ _ _ => by kernel_rfl, fun _ _ _ _ _ _ _ _ => by kernel_rfl⟩
noncomputable def r74 := row_ok rw18.1
noncomputable def r75 := row_ok rw18.2.1
noncomputable def r76 := row_ok rw18.2.2.1
noncomputable def r77 := row_ok rw18.2.2.2.1
noncomputable def r78 := row_ok rw18.2.2.2.2.1
noncomputable def r79 := row_ok rw18.2.2.2.2.2
theorem rw19 : RowE tt [ff, ff, ff, tt] [.k B1, .f 0, .k B155, .f 1, .k B156, .f 2, .k B13, .t, .k B78, .k B195] d346 d347 [34, 36, 37, 38, 39] n78 ∧ RowE tt [tt, ff, tt] [.k B1, .t, .k B157, .f 1, .k B158, .k B61, .k B197] d366 d367 [29, 31, 32, 33] n84 ∧ RowE tt [ff, tt, tt] [.k B1, .f 0, .k B155, .t, .k B159, .k B44, .k B199] d368 d369 [29, 31, 32] n85 ∧ RowE tt [tt, ff, ff] [.k B1, .t, .k B157, .f 1, .k B158, .f 2, .k B29, .k B201] d366 d370 [29, 31, 32, 33] n84 ∧ RowE tt [tt, tt] [.k B1, .t, .k B157, .k B44, .k B203] d371 d372 [24, 26] n86 ∧ RowE tt [ff, tt, ff] [.k B1, .f 0, .k B155, .t, .k B159, .f 2, .k B38, .k B205] d366 d370 [29, 31, 32, 33] n84 := ⟨fun _ _ _ _ _ _ _ _ => by kernel_rfl, fun _ _ _ _ _ _ _ _ => by kernel_rfl, fun _ _ _ _ _ _ _ _ => by kernel_rfl, fun _ _ _ _ _ _ _ _ => by kernel_rfl, fun _ _ _ _ _ _ _ _ => by kernel_rfl, fun _ _ _ _ _ _ _ _ => by kernel_rfl⟩
noncomputable def r80 := row_ok rw19.1
noncomputable def r81 := row_ok rw19.2.1
noncomputable def r82 := row_ok rw19.2.2.1
noncomputable def r83 := row_ok rw19.2.2.2.1
noncomputable def r84 := row_ok rw19.2.2.2.2.1
noncomputable def r85 := row_ok rw19.2.2.2.2.2
theorem rw20 : RowE tt [ff, ff, tt] [.k B1, .f 0, .k B155, .f 1, .k B156, .t, .k B56, .k B207] d366 d370 [29, 31, 32, 33] n84 ∧ RowE tt [tt, ff] [.k B1, .t, .k B157, .f 1, .k B158, .k B209] d373 d374 [24, 26, 27] n87 ∧ RowE tt [ff, tt] [.k B1, .f 0, .k B155, .t, .k B159, .k B211] d373 d374 [24, 26, 27] n87 := ⟨fun _ _ _ _ _ _ _ _ => by kernel_rfl, fun _ _ _ _ _ _ _ _ => by kernel_rfl, fun _ _ _ _ _ _ _ _ => by kernel_rfl⟩
noncomputable def r86 := row_ok rw20.1
noncomputable def r87 := row_ok rw20.2.1
noncomputable def r88 := row_ok rw20.2.2
noncomputable abbrev sAd : Nat := d631
/-- one way through list.sort: which comparisons are asked, with what answer, and the order that comes of it -/
structure SP where
  rev : Bool
  n : Nat
  cs : List (Nat × Nat × Bool)
  pm : List Nat
  cd : Nat
noncomputable def SP.Ks (p : SP) (x : Nat → Nat) : List Con := p.cs.map fun c => ltC (Int.ofNat (x c.1)) (Int.ofNat (x c.2.1)) c.2.2
noncomputable def SP.K (p : SP) (x : Nat → Nat) : Con := sorK p.rev (p.n + 2) ((List.range' 0 p.n).map x) (p.pm.map x)
noncomputable def SP.E (p : SP) : Prop := ∀ x : Nat → Nat, EN (fun _ => p.Ks x) (fun _ => p.K x) sAd p.cd [2] (fun β v _ => β 2 :: 2 :: p.pm.map fun i => v (2 + 2 * i)) nN
/-- the comparisons of list.sort as a tree; lf: the way, dd: no such order -/
inductive WT where
  | lf (pm : List Nat) (cd : Nat)
  | dd
  | nd (i j : Nat) (t f : WT)
noncomputable abbrev Cp := Nat × Nat × Bool
noncomputable def WT.E (rev : Bool) (n : Nat) : WT → List Cp → Prop
  | .lf pm cd, path => SP.E ⟨rev, n, path.reverse, pm, cd⟩
  | .dd, _ => True
  | .nd i j t f, path => WT.E rev n t ((i, j, true) :: path) ∧ WT.E rev n f ((i, j, false) :: path)
open WT
noncomputable def u0 : WT := (nd 1 0 (nd 2 1 (lf [2,1,0] d591) (nd 1 2 (nd 2 0 (lf [1,2,0] d592) (lf [1,0,2] d593)) (lf [1,2,0] d594))) (nd 2 1 (nd 0 1 (nd 2 0 (lf [2,0,1] d595) (lf [0,2,1] d595)) (lf [2,0,1] d594)) (lf [0,1,2] d591)))
noncomputable def u1 : WT := (nd 2 1 (nd 3 2 (lf [3,2,1,0] d594) (nd 2 3 (nd 3 0 (nd 3 1 (lf [2,3,1,0] d596) (lf [2,1,3,0] d597)) (lf [2,1,0,3] d598)) (lf [2,3,1,0] d593))) (nd 1 2 (nd 2 0 (nd 3 2 (nd 3 1 (lf [3,1,2,0] d599) (lf [1,3,2,0] d599)) (nd 3 0 (lf [1,2,3,0] d599) (lf [1,2,0,3] d599))) (nd 3 2 (nd 3 0 (nd 3 1 (lf [3,1,0,2] d600) (lf [1,3,0,2] d600)) (lf [1,0,3,2] d597)) (lf [1,0,2,3] d598))) (nd 3 2 (lf [3,1,2,0] d593) (nd 2 3 (nd 3 0 (lf [1,2,3,0] d601) (lf [1,2,0,3] d602)) (lf [1,2,3,0] d598)))))
noncomputable def u2 : WT := (nd 2 1 (nd 0 1 (nd 2 0 (nd 3 0 (nd 3 2 (lf [3,2,0,1] d603) (lf [2,3,0,1] d603)) (nd 3 1 (lf [2,0,3,1] d603) (lf [2,0,1,3] d603))) (nd 3 2 (nd 3 0 (lf [3,0,2,1] d603) (lf [0,3,2,1] d603)) (nd 3 1 (lf [0,2,3,1] d603) (lf [0,2,1,3] d603)))) (nd 3 2 (lf [3,2,0,1] d593) (nd 2 3 (nd 3 1 (nd 3 0 (lf [2,3,0,1] d604) dd) (lf [2,0,1,3] d602)) (lf [2,3,0,1] d598)))) (nd 3 2 (nd 0 2 (nd 3 1 (nd 3 0 (lf [3,0,1,2] d602) (lf [0,3,1,2] d602)) (lf [0,1,3,2] d605)) (lf [3,0,1,2] d593)) (lf [0,1,2,3] d594)))
noncomputable def u3 : WT := (nd 3 2 (nd 4 3 (lf [4,3,2,1,0] d593) (nd 3 4 (nd 4 0 (nd 4 1 (nd 4 2 (lf [3,4,2,1,0] d606) (lf [3,2,4,1,0] d607)) (lf [3,2,1,4,0] d608)) (lf [3,2,1,0,4] d602)) (lf [3,4,2,1,0] d598))) (nd 2 3 (nd 3 0 (nd 3 1 (nd 4 1 (nd 4 3 (nd 4 2 (lf [4,2,3,1,0] d609) (lf [2,4,3,1,0] d609)) (lf [2,3,4,1,0] d610)) (nd 4 0 (lf [2,3,1,4,0] d610) (lf [2,3,1,0,4] d610))) (nd 4 3 (nd 4 1 (nd 4 2 (lf [4,2,1,3,0] d611) (lf [2,4,1,3,0] d611)) (lf [2,1,4,3,0] d612)) (nd 4 0 (lf [2,1,3,4,0] d612) (lf [2,1,3,0,4] d612)))) (nd 4 3 (nd 4 0 (nd 4 1 (nd 4 2 (lf [4,2,1,0,3] d613) (lf [2,4,1,0,3] d613)) (lf [2,1,4,0,3] d607)) (lf [2,1,0,4,3] d608)) (lf [2,1,0,3,4] d602))) (nd 4 3 (lf [4,2,3,1,0] d598) (nd 3 4 (nd 4 0 (nd 4 1 (lf [2,3,4,1,0] d614) (lf [2,3,1,4,0] d615)) (lf [2,3,1,0,4] d600)) (lf [2,3,4,1,0] d602)))))
noncomputable def u4 : WT := (nd 3 2 (nd 3 1 (nd 4 2 (nd 4 1 (nd 4 3 (lf [4,3,1,2,0] d616) (lf [3,4,1,2,0] d616)) (lf [3,1,4,2,0] d617)) (nd 4 0 (lf [3,1,2,4,0] d617) (lf [3,1,2,0,4] d617))) (nd 4 2 (nd 4 3 (nd 4 1 (lf [4,1,3,2,0] d616) (lf [1,4,3,2,0] d616)) (lf [1,3,4,2,0] d617)) (nd 4 0 (lf [1,3,2,4,0] d617) (lf [1,3,2,0,4] d617)))) (nd 3 0 (nd 4 3 (nd 4 2 (nd 4 1 (lf [4,1,2,3,0] d616) (lf [1,4,2,3,0] d616)) (lf [1,2,4,3,0] d617)) (nd 4 0 (lf [1,2,3,4,0] d617) (lf [1,2,3,0,4] d617))) (nd 4 0 (nd 4 2 (nd 4 1 (lf [4,1,2,0,3] d616) (lf [1,4,2,0,3] d616)) (lf [1,2,4,0,3] d617)) (nd 4 3 (lf [1,2,0,4,3] d617) (lf [1,2,0,3,4] d617)))))
noncomputable def u5 : WT := (nd 3 2 (nd 3 0 (nd 3 1 (nd 4 0 (nd 4 1 (nd 4 3 (lf [4,3,1,0,2] d618) (lf [3,4,1,0,2] d618)) (lf [3,1,4,0,2] d613)) (nd 4 2 (lf [3,1,0,4,2] d613) (lf [3,1,0,2,4] d613))) (nd 4 0 (nd 4 3 (nd 4 1 (lf [4,1,3,0,2] d618) (lf [1,4,3,0,2] d618)) (lf [1,3,4,0,2] d613)) (nd 4 2 (lf [1,3,0,4,2] d613) (lf [1,3,0,2,4] d613)))) (nd 4 3 (nd 4 0 (nd 4 1 (lf [4,1,0,3,2] d611) (lf [1,4,0,3,2] d611)) (lf [1,0,4,3,2] d612)) (nd 4 2 (lf [1,0,3,4,2] d612) (lf [1,0,3,2,4] d612)))) (nd 4 3 (nd 4 2 (nd 4 0 (nd 4 1 (lf [4,1,0,2,3] d613) (lf [1,4,0,2,3] d613)) (lf [1,0,4,2,3] d607)) (lf [1,0,2,4,3] d608)) (lf [1,0,2,3,4] d602)))
noncomputable def u6 : WT := (nd 3 2 (nd 4 3 (lf [4,3,1,2,0] d598) (nd 3 4 (nd 4 0 (nd 4 2 (nd 4 1 (lf [3,4,1,2,0] d619) dd) (lf [3,1,2,4,0] d615)) (lf [3,1,2,0,4] d600)) (lf [3,4,1,2,0] d602))) (nd 2 3 (nd 3 0 (nd 4 3 (nd 4 2 (nd 4 1 (lf [4,1,2,3,0] d620) dd) (lf [1,2,4,3,0] d621)) (nd 4 0 (lf [1,2,3,4,0] d621) (lf [1,2,3,0,4] d621))) (nd 4 3 (nd 4 0 (nd 4 2 (nd 4 1 (lf [4,1,2,0,3] d618) dd) (lf [1,2,4,0,3] d613)) (lf [1,2,0,4,3] d615)) (lf [1,2,0,3,4] d600))) (nd 4 3 (lf [4,1,2,3,0] d602) (nd 3 4 (nd 4 0 (lf [1,2,3,4,0] d622) (lf [1,2,3,0,4] d607)) (lf [1,2,3,4,0] d600)))))
noncomputable def u7 : WT := (nd 3 0 (nd 3 2 (nd 4 0 (nd 4 2 (nd 4 3 (lf [4,3,2,0,1] d623) (lf [3,4,2,0,1] d623)) (lf [3,2,4,0,1] d624)) (nd 4 1 (lf [3,2,0,4,1] d624) (lf [3,2,0,1,4] d624))) (nd 4 0 (nd 4 3 (nd 4 2 (lf [4,2,3,0,1] d623) (lf [2,4,3,0,1] d623)) (lf [2,3,4,0,1] d624)) (nd 4 1 (lf [2,3,0,4,1] d624) (lf [2,3,0,1,4] d624)))) (nd 3 1 (nd 4 3 (nd 4 0 (nd 4 2 (lf [4,2,0,3,1] d623) (lf [2,4,0,3,1] d623)) (lf [2,0,4,3,1] d624)) (nd 4 1 (lf [2,0,3,4,1] d624) (lf [2,0,3,1,4] d624))) (nd 4 1 (nd 4 0 (nd 4 2 (lf [4,2,0,1,3] d623) (lf [2,4,0,1,3] d623)) (lf [2,0,4,1,3] d624)) (nd 4 3 (lf [2,0,1,4,3] d624) (lf [2,0,1,3,4] d624)))))
noncomputable def u8 : WT := (nd 3 2 (nd 3 0 (nd 4 2 (nd 4 0 (nd 4 3 (lf [4,3,0,2,1] d623) (lf [3,4,0,2,1] d623)) (lf [3,0,4,2,1] d624)) (nd 4 1 (lf [3,0,2,4,1] d624) (lf [3,0,2,1,4] d624))) (nd 4 2 (nd 4 3 (nd 4 0 (lf [4,0,3,2,1] d623) (lf [0,4,3,2,1] d623)) (lf [0,3,4,2,1] d624)) (nd 4 1 (lf [0,3,2,4,1] d624) (lf [0,3,2,1,4] d624)))) (nd 3 1 (nd 4 3 (nd 4 2 (nd 4 0 (lf [4,0,2,3,1] d623) (lf [0,4,2,3,1] d623)) (lf [0,2,4,3,1] d624)) (nd 4 1 (lf [0,2,3,4,1] d624) (lf [0,2,3,1,4] d624))) (nd 4 1 (nd 4 2 (nd 4 0 (lf [4,0,2,1,3] d623) (lf [0,4,2,1,3] d623)) (lf [0,2,4,1,3] d624)) (nd 4 3 (lf [0,2,1,4,3] d624) (lf [0,2,1,3,4] d624)))))
noncomputable def u9 : WT := (nd 3 2 (nd 4 3 (lf [4,3,2,0,1] d598) (nd 3 4 (nd 4 1 (nd 4 0 (nd 4 2 (lf [3,4,2,0,1] d619) (lf [3,2,4,0,1] d613)) dd) (lf [3,2,0,1,4] d600)) (lf [3,4,2,0,1] d602))) (nd 2 3 (nd 3 1 (nd 3 0 (nd 4 0 (nd 4 3 (nd 4 2 (lf [4,2,3,0,1] d625) (lf [2,4,3,0,1] d625)) (lf [2,3,4,0,1] d626)) (nd 4 1 dd (lf [2,3,0,1,4] d626))) dd) (nd 4 3 (nd 4 1 (nd 4 0 (nd 4 2 (lf [4,2,0,1,3] d618) (lf [2,4,0,1,3] d618)) dd) (lf [2,0,1,4,3] d615)) (lf [2,0,1,3,4] d600))) (nd 4 3 (lf [4,2,3,0,1] d602) (nd 3 4 (nd 4 1 (nd 4 0 (lf [2,3,4,0,1] d627) dd) (lf [2,3,0,1,4] d607)) (lf [2,3,4,0,1] d600)))))
noncomputable def u10 : WT := (nd 3 2 (nd 0 2 (nd 3 1 (nd 3 0 (nd 4 1 (nd 4 0 (nd 4 3 (lf [4,3,0,1,2] d613) (lf [3,4,0,1,2] d613)) (lf [3,0,4,1,2] d607)) (nd 4 2 (lf [3,0,1,4,2] d607) (lf [3,0,1,2,4] d607))) (nd 4 1 (nd 4 3 (nd 4 0 (lf [4,0,3,1,2] d613) (lf [0,4,3,1,2] d613)) (lf [0,3,4,1,2] d607)) (nd 4 2 (lf [0,3,1,4,2] d607) (lf [0,3,1,2,4] d607)))) (nd 4 3 (nd 4 1 (nd 4 0 (lf [4,0,1,3,2] d628) (lf [0,4,1,3,2] d628)) (lf [0,1,4,3,2] d629)) (nd 4 2 (lf [0,1,3,4,2] d629) (lf [0,1,3,2,4] d629)))) (nd 4 3 (lf [4,3,0,1,2] d598) (nd 3 4 (nd 4 2 (nd 4 1 (nd 4 0 (lf [3,4,0,1,2] d619) dd) dd) (lf [3,0,1,2,4] d600)) (lf [3,4,0,1,2] d602)))) (nd 4 3 (nd 0 3 (nd 4 2 (nd 4 1 (nd 4 0 (lf [4,0,1,2,3] d607) (lf [0,4,1,2,3] d607)) (lf [0,1,4,2,3] d600)) (lf [0,1,2,4,3] d630)) (lf [4,0,1,2,3] d598)) (lf [0,1,2,3,4] d593)))
noncomputable def u11 : WT := (nd 1 2 (nd 0 1 (lf [4,3,2,1,0] d593) (nd 1 0 (nd 0 4 (nd 0 3 (nd 0 2 (lf [4,3,2,0,1] d606) (lf [4,3,0,2,1] d607)) (lf [4,0,3,2,1] d608)) (lf [0,4,3,2,1] d602)) (lf [4,3,2,0,1] d598))) (nd 2 1 (nd 1 4 (nd 1 3 (nd 0 3 (nd 0 1 (nd 0 2 (lf [4,3,1,2,0] d609) (lf [4,3,1,0,2] d609)) (lf [4,3,0,1,2] d610)) (nd 0 4 (lf [4,0,3,1,2] d610) (lf [0,4,3,1,2] d610))) (nd 0 1 (nd 0 3 (nd 0 2 (lf [4,1,3,2,0] d611) (lf [4,1,3,0,2] d611)) (lf [4,1,0,3,2] d612)) (nd 0 4 (lf [4,0,1,3,2] d612) (lf [0,4,1,3,2] d612)))) (nd 0 1 (nd 0 4 (nd 0 3 (nd 0 2 (lf [1,4,3,2,0] d613) (lf [1,4,3,0,2] d613)) (lf [1,4,0,3,2] d607)) (lf [1,0,4,3,2] d608)) (lf [0,1,4,3,2] d602))) (nd 0 1 (lf [4,3,1,2,0] d598) (nd 1 0 (nd 0 4 (nd 0 3 (lf [4,3,0,1,2] d614) (lf [4,0,3,1,2] d615)) (lf [0,4,3,1,2] d600)) (lf [4,3,0,1,2] d602)))))
noncomputable def u12 : WT := (nd 1 2 (nd 1 3 (nd 0 2 (nd 0 3 (nd 0 1 (lf [4,2,3,1,0] d616) (lf [4,2,3,0,1] d616)) (lf [4,2,0,3,1] d617)) (nd 0 4 (lf [4,0,2,3,1] d617) (lf [0,4,2,3,1] d617))) (nd 0 2 (nd 0 1 (nd 0 3 (lf [4,2,1,3,0] d616) (lf [4,2,1,0,3] d616)) (lf [4,2,0,1,3] d617)) (nd 0 4 (lf [4,0,2,1,3] d617) (lf [0,4,2,1,3] d617)))) (nd 1 4 (nd 0 1 (nd 0 2 (nd 0 3 (lf [4,1,2,3,0] d616) (lf [4,1,2,0,3] d616)) (lf [4,1,0,2,3] d617)) (nd 0 4 (lf [4,0,1,2,3] d617) (lf [0,4,1,2,3] d617))) (nd 0 4 (nd 0 2 (nd 0 3 (lf [1,4,2,3,0] d616) (lf [1,4,2,0,3] d616)) (lf [1,4,0,2,3] d617)) (nd 0 1 (lf [1,0,4,2,3] d617) (lf [0,1,4,2,3] d617)))))
noncomputable def u13 : WT := (nd 1 2 (nd 1 4 (nd 1 3 (nd 0 4 (nd 0 3 (nd 0 1 (lf [2,4,3,1,0] d618) (lf [2,4,3,0,1] d618)) (lf [2,4,0,3,1] d613)) (nd 0 2 (lf [2,0,4,3,1] d613) (lf [0,2,4,3,1] d613))) (nd 0 4 (nd 0 1 (nd 0 3 (lf [2,4,1,3,0] d618) (lf [2,4,1,0,3] d618)) (lf [2,4,0,1,3] d613)) (nd 0 2 (lf [2,0,4,1,3] d613) (lf [0,2,4,1,3] d613)))) (nd 0 1 (nd 0 4 (nd 0 3 (lf [2,1,4,3,0] d611) (lf [2,1,4,0,3] d611)) (lf [2,1,0,4,3] d612)) (nd 0 2 (lf [2,0,1,4,3] d612) (lf [0,2,1,4,3] d612)))) (nd 0 1 (nd 0 2 (nd 0 4 (nd 0 3 (lf [1,2,4,3,0] d613) (lf [1,2,4,0,3] d613)) (lf [1,2,0,4,3] d607)) (lf [1,0,2,4,3] d608)) (lf [0,1,2,4,3] d602)))
noncomputable def u14 : WT := (nd 1 2 (nd 0 1 (lf [4,2,3,1,0] d598) (nd 1 0 (nd 0 4 (nd 0 2 (nd 0 3 (lf [4,2,3,0,1] d619) dd) (lf [4,0,2,3,1] d615)) (lf [0,4,2,3,1] d600)) (lf [4,2,3,0,1] d602))) (nd 2 1 (nd 1 4 (nd 0 1 (nd 0 2 (nd 0 3 (lf [4,1,2,3,0] d620) dd) (lf [4,1,0,2,3] d621)) (nd 0 4 (lf [4,0,1,2,3] d621) (lf [0,4,1,2,3] d621))) (nd 0 1 (nd 0 4 (nd 0 2 (nd 0 3 (lf [1,4,2,3,0] d618) dd) (lf [1,4,0,2,3] d613)) (lf [1,0,4,2,3] d615)) (lf [0,1,4,2,3] d600))) (nd 0 1 (lf [4,1,2,3,0] d602) (nd 1 0 (nd 0 4 (lf [4,0,1,2,3] d622) (lf [0,4,1,2,3] d607)) (lf [4,0,1,2,3] d600)))))
noncomputable def u15 : WT := (nd 1 4 (nd 1 2 (nd 0 4 (nd 0 2 (nd 0 1 (lf [3,4,2,1,0] d623) (lf [3,4,2,0,1] d623)) (lf [3,4,0,2,1] d624)) (nd 0 3 (lf [3,0,4,2,1] d624) (lf [0,3,4,2,1] d624))) (nd 0 4 (nd 0 1 (nd 0 2 (lf [3,4,1,2,0] d623) (lf [3,4,1,0,2] d623)) (lf [3,4,0,1,2] d624)) (nd 0 3 (lf [3,0,4,1,2] d624) (lf [0,3,4,1,2] d624)))) (nd 1 3 (nd 0 1 (nd 0 4 (nd 0 2 (lf [3,1,4,2,0] d623) (lf [3,1,4,0,2] d623)) (lf [3,1,0,4,2] d624)) (nd 0 3 (lf [3,0,1,4,2] d624) (lf [0,3,1,4,2] d624))) (nd 0 3 (nd 0 4 (nd 0 2 (lf [1,3,4,2,0] d623) (lf [1,3,4,0,2] d623)) (lf [1,3,0,4,2] d624)) (nd 0 1 (lf [1,0,3,4,2] d624) (lf [0,1,3,4,2] d624)))))
noncomputable def u16 : WT := (nd 1 2 (nd 1 4 (nd 0 2 (nd 0 4 (nd 0 1 (lf [3,2,4,1,0] d623) (lf [3,2,4,0,1] d623)) (lf [3,2,0,4,1] d624)) (nd 0 3 (lf [3,0,2,4,1] d624) (lf [0,3,2,4,1] d624))) (nd 0 2 (nd 0 1 (nd 0 4 (lf [3,2,1,4,0] d623) (lf [3,2,1,0,4] d623)) (lf [3,2,0,1,4] d624)) (nd 0 3 (lf [3,0,2,1,4] d624) (lf [0,3,2,1,4] d624)))) (nd 1 3 (nd 0 1 (nd 0 2 (nd 0 4 (lf [3,1,2,4,0] d623) (lf [3,1,2,0,4] d623)) (lf [3,1,0,2,4] d624)) (nd 0 3 (lf [3,0,1,2,4] d624) (lf [0,3,1,2,4] d624))) (nd 0 3 (nd 0 2 (nd 0 4 (lf [1,3,2,4,0] d623) (lf [1,3,2,0,4] d623)) (lf [1,3,0,2,4] d624)) (nd 0 1 (lf [1,0,3,2,4] d624) (lf [0,1,3,2,4] d624)))))
noncomputable def u17 : WT := (nd 1 2 (nd 0 1 (lf [3,4,2,1,0] d598) (nd 1 0 (nd 0 3 (nd 0 4 (nd 0 2 (lf [3,4,2,0,1] d619) (lf [3,4,0,2,1] d613)) dd) (lf [0,3,4,2,1] d600)) (lf [3,4,2,0,1] d602))) (nd 2 1 (nd 1 3 (nd 1 4 (nd 0 4 (nd 0 1 (nd 0 2 (lf [3,4,1,2,0] d625) (lf [3,4,1,0,2] d625)) (lf [3,4,0,1,2] d626)) (nd 0 3 dd (lf [0,3,4,1,2] d626))) dd) (nd 0 1 (nd 0 3 (nd 0 4 (nd 0 2 (lf [1,3,4,2,0] d618) (lf [1,3,4,0,2] d618)) dd) (lf [1,0,3,4,2] d615)) (lf [0,1,3,4,2] d600))) (nd 0 1 (lf [3,4,1,2,0] d602) (nd 1 0 (nd 0 3 (nd 0 4 (lf [3,4,0,1,2] d627) dd) (lf [0,3,4,1,2] d607)) (lf [3,4,0,1,2] d600)))))
noncomputable def u18 : WT := (nd 1 2 (nd 4 2 (nd 1 3 (nd 1 4 (nd 0 3 (nd 0 4 (nd 0 1 (lf [2,3,4,1,0] d613) (lf [2,3,4,0,1] d613)) (lf [2,3,0,4,1] d607)) (nd 0 2 (lf [2,0,3,4,1] d607) (lf [0,2,3,4,1] d607))) (nd 0 3 (nd 0 1 (nd 0 4 (lf [2,3,1,4,0] d613) (lf [2,3,1,0,4] d613)) (lf [2,3,0,1,4] d607)) (nd 0 2 (lf [2,0,3,1,4] d607) (lf [0,2,3,1,4] d607)))) (nd 0 1 (nd 0 3 (nd 0 4 (lf [2,1,3,4,0] d628) (lf [2,1,3,0,4] d628)) (lf [2,1,0,3,4] d629)) (nd 0 2 (lf [2,0,1,3,4] d629) (lf [0,2,1,3,4] d629)))) (nd 0 1 (lf [2,3,4,1,0] d598) (nd 1 0 (nd 0 2 (nd 0 3 (nd 0 4 (lf [2,3,4,0,1] d619) dd) dd) (lf [0,2,3,4,1] d600)) (lf [2,3,4,0,1] d602)))) (nd 0 1 (nd 4 1 (nd 0 2 (nd 0 3 (nd 0 4 (lf [1,2,3,4,0] d607) (lf [1,2,3,0,4] d607)) (lf [1,2,0,3,4] d600)) (lf [1,0,2,3,4] d630)) (lf [1,2,3,4,0] d598)) (lf [0,1,2,3,4] d593)))
theorem v0 : WT.E false 3 u0 [] := by repeat' (first | exact trivial | exact fun _ _ _ _ _ _ _ => by kernel_rfl | refine And.intro ?_ ?_)
theorem v1 : WT.E false 4 u1 [(1, 0, true)] := by repeat' (first | exact trivial | exact fun _ _ _ _ _ _ _ => by kernel_rfl | refine And.intro ?_ ?_)
theorem v2 : WT.E false 4 u2 [(1, 0, false)] := by repeat' (first | exact trivial | exact fun _ _ _ _ _ _ _ => by kernel_rfl | refine And.intro ?_ ?_)
theorem v3 : WT.E false 5 u3 [(2, 1, true), (1, 0, true)] := by repeat' (first | exact trivial | exact fun _ _ _ _ _ _ _ => by kernel_rfl | refine And.intro ?_ ?_)
theorem v4 : WT.E false 5 u4 [(2, 0, true), (1, 2, true), (2, 1, false), (1, 0, true)] := by repeat' (first | exact trivial | exact fun _ _ _ _ _ _ _ => by kernel_rfl | refine And.intro ?_ ?_)
theorem v5 : WT.E false 5 u5 [(2, 0, false), (1, 2, true), (2, 1, false), (1, 0, true)] := by repeat' (first | exact trivial | exact fun _ _ _ _ _ _ _ => by kernel_rfl | refine And.intro ?_ ?_)
theorem v6 : WT.E false 5 u6 [(1, 2, false), (2, 1, false), (1, 0, true)] := by repeat' (first | exact trivial | exact fun _ _ _ _ _ _ _ => by kernel_rfl | refine And.intro ?_ ?_)
theorem v7 : WT.E false 5 u7 [(2, 0, true), (0, 1, true), (2, 1, true), (1, 0, false)] := by repeat' (first | exact trivial | exact fun _ _ _ _ _ _ _ => by kernel_rfl | refine And.intro ?_ ?_)
theorem v8 : WT.E false 5 u8 [(2, 0, false), (0, 1, true), (2, 1, true), (1, 0, false)] := by repeat' (first | exact trivial | exact fun _ _ _ _ _ _ _ => by kernel_rfl | refine And.intro ?_ ?_)
theorem v9 : WT.E false 5 u9 [(0, 1, false), (2, 1, true), (1, 0, false)] := by repeat' (first | exact trivial | exact fun _ _ _ _ _ _ _ => by kernel_rfl | refine And.intro ?_ ?_)
theorem v10 : WT.E false 5 u10 [(2, 1, false), (1, 0, false)] := by repeat' (first | exact trivial | exact fun _ _ _ _ _ _ _ => by kernel_rfl | refine And.intro ?_ ?_)
theorem v11 : WT.E true 5 u11 [(2, 3, true), (3, 4, true)] := by repeat' (first | exact trivial | exact fun _ _ _ _ _ _ _ => by kernel_rfl | refine And.intro ?_ ?_)
theorem v12 : WT.E true 5 u12 [(2, 4, true), (3, 2, true), (2, 3, false), (3, 4, true)] := by repeat' (first | exact trivial | exact fun _ _ _ _ _ _ _ => by kernel_rfl | refine And.intro ?_ ?_)
theorem v13 : WT.E true 5 u13 [(2, 4, false), (3, 2, true), (2, 3, false), (3, 4, true)] := by repeat' (first | exact trivial | exact fun _ _ _ _ _ _ _ => by kernel_rfl | refine And.intro ?_ ?_)
theorem v14 : WT.E true 5 u14 [(3, 2, false), (2, 3, false), (3, 4, true)] := by repeat' (first | exact trivial | exact fun _ _ _ _ _ _ _ => by kernel_rfl | refine And.intro ?_ ?_)
theorem v15 : WT.E true 5 u15 [(2, 4, true), (4, 3, true), (2, 3, true), (3, 4, false)] := by repeat' (first | exact trivial | exact fun _ _ _ _ _ _ _ => by kernel_rfl | refine And.intro ?_ ?_)
theorem v16 : WT.E true 5 u16 [(2, 4, false), (4, 3, true), (2, 3, true), (3, 4, false)] := by repeat' (first | exact trivial | exact fun _ _ _ _ _ _ _ => by kernel_rfl | refine And.intro ?_ ?_)
theorem v17 : WT.E true 5 u17 [(4, 3, false), (2, 3, true), (3, 4, false)] := by repeat' (first | exact trivial | exact fun _ _ _ _ _ _ _ => by kernel_rfl | refine And.intro ?_ ?_)
theorem v18 : WT.E true 5 u18 [(2, 3, false), (3, 4, false)] := by repeat' (first | exact trivial | exact fun _ _ _ _ _ _ _ => by kernel_rfl | refine And.intro ?_ ?_)
noncomputable def trF1 : WT := (lf [0] d589)
theorem trF1_E : WT.E false 1 trF1 [] := fun _ _ _ _ _ _ _ => by kernel_rfl
noncomputable def trF2 : WT := (nd 1 0 (lf [1,0] d590) (lf [0,1] d590))
theorem trF2_E : WT.E false 2 trF2 [] := ⟨fun _ _ _ _ _ _ _ => by kernel_rfl, fun _ _ _ _ _ _ _ => by kernel_rfl⟩
noncomputable def trF3 : WT := u0
theorem trF3_E : WT.E false 3 trF3 [] := v0
noncomputable def trF4 : WT := (nd 1 0 u1 u2)
theorem trF4_E : WT.E false 4 trF4 [] := ⟨v1, v2⟩
noncomputable def trF5 : WT := (nd 1 0 (nd 2 1 u3 (nd 1 2 (nd 2 0 u4 u5) u6)) (nd 2 1 (nd 0 1 (nd 2 0 u7 u8) u9) u10))
theorem trF5_E : WT.E false 5 trF5 [] := ⟨⟨v3, ⟨⟨v4, v5⟩, v6⟩⟩, ⟨⟨⟨v7, v8⟩, v9⟩, v10⟩⟩
noncomputable def trR5 : WT := (nd 3 4 (nd 2 3 u11 (nd 3 2 (nd 2 4 u12 u13) u14)) (nd 2 3 (nd 4 3 (nd 2 4 u15 u16) u17) u18))
theorem trR5_E : WT.E true 5 trR5 [] := ⟨⟨v11, ⟨⟨v12, v13⟩, v14⟩⟩, ⟨⟨⟨v15, v16⟩, v17⟩, v18⟩⟩
noncomputable def Cp.ok (x : Nat → Nat) (c : Cp) : Prop := decide (x c.1 < x c.2.1) = c.2.2
/-- x a at most x b, by what was compared -/
noncomputable def leq (path : List Cp) : Nat → Nat → Nat → Bool
  | 0, a, b => path.contains (a, b, true) || path.contains (b, a, false)
  | n + 1, a, b => path.contains (a, b, true) || path.contains (b, a, false) || (List.range 5).any fun k => (path.contains (a, k, true) || path.contains (k, a, false)) && leq path n k b
theorem leq1 {path : List Cp} {x : Nat → Nat} (H : ∀ c ∈ path, Cp.ok x c) {a b : Nat} (h : (path.contains (a, b, true) || path.contains (b, a, false)) = true) : x a ≤ x b := by
  rw [Bool.or_eq_true] at h
  rcases h with h | h
  · have := H _ (List.contains_iff_mem.mp h)
    exact Nat.le_of_lt (of_decide_eq_true this)
  · have := H _ (List.contains_iff_mem.mp h)
    exact Nat.not_lt.mp (of_decide_eq_false this)
theorem leq_ok {path : List Cp} {x : Nat → Nat} (H : ∀ c ∈ path, Cp.ok x c) : ∀ (n a b : Nat), leq path n a b = true → x a ≤ x b
  | 0, a, b, h => leq1 H h
  | n + 1, a, b, h => by
    rw [leq, Bool.or_eq_true] at h
    rcases h with h | h
    · exact leq1 H h
    · obtain ⟨k, _, e⟩ := List.any_eq_true.mp h
      rw [Bool.and_eq_true] at e
      exact Nat.le_trans (leq1 H e.1) (leq_ok H n k b e.2)
noncomputable def adj (rev : Bool) (path : List Cp) : List Nat → Bool
  | a :: b :: l => (match rev with | true => leq path 3 b a | false => leq path 3 a b) && adj rev path (b :: l)
  | _ => true
noncomputable def okL (rev : Bool) (n : Nat) (path : List Cp) (pm : List Nat) : Bool := adj rev path pm && pm.isPerm (List.range' 0 n)
noncomputable def WT.okT (rev : Bool) (n : Nat) : WT → List Cp → Bool
  | .lf pm _, path => okL rev n path pm
  | .dd, path => path.any fun c => c.2.2 && leq path 3 c.2.1 c.1
  | .nd i j t f, path => WT.okT rev n t ((i, j, true) :: path) && WT.okT rev n f ((i, j, false) :: path)
theorem WT.walk {rev : Bool} {n : Nat} {x : Nat → Nat} : ∀ (t : WT) (path : List Cp), WT.E rev n t path → WT.okT rev n t path = true → (∀ c ∈ path, Cp.ok x c) → ∃ (pm : List Nat) (cd : Nat) (q : List Cp), SP.E ⟨rev, n, q.reverse, pm, cd⟩ ∧ (∀ c ∈ q, Cp.ok x c) ∧ okL rev n q pm = true
  | .lf pm cd, path, e, h, H => ⟨pm, cd, path, e, H, h⟩
  | .dd, path, _, h, H => by
    obtain ⟨c, hc, e⟩ := List.any_eq_true.mp h
    rw [Bool.and_eq_true] at e
    have h1 := H c hc
    have h2 := leq_ok H 3 _ _ e.2
    have h1' : decide (x c.1 < x c.2.1) = c.2.2 := h1
    rw [e.1] at h1'
    exact absurd (of_decide_eq_true h1') (Nat.not_lt.mpr h2)
  | .nd i j t f, path, e, h, H => by
    rw [WT.okT, Bool.and_eq_true] at h
    cases hb : decide (x i < x j) with
    | true =>
      refine WT.walk t _ e.1 h.1 fun c hc => ?_
      · rcases List.mem_cons.mp hc with rfl | hc
        · exact hb
        · exact H c hc
    | false =>
      refine WT.walk f _ e.2 h.2 fun c hc => ?_
      · rcases List.mem_cons.mp hc with rfl | hc
        · exact hb
        · exact H c hc
noncomputable def LeB (rev : Bool) (a b : Nat) : Prop := match rev with
  | true => b ≤ a
  | false => a ≤ b
theorem adj_pw {rev : Bool} {path : List Cp} {x : Nat → Nat} (H : ∀ c ∈ path, Cp.ok x c) : ∀ pm : List Nat, adj rev path pm = true → List.Pairwise (LeB rev) (pm.map x)
  | [], _ => .nil
  | [a], _ => List.pairwise_singleton ..
  | a :: b :: l, h => by
    simp only [adj, Bool.and_eq_true] at h
    have ih := adj_pw H (b :: l) h.2
    have hab : LeB rev (x a) (x b) := by
      cases rev with
      | true => exact leq_ok H 3 _ _ h.1
      | false => exact leq_ok H 3 _ _ h.1
    rw [List.map_cons]
    refine List.pairwise_cons.mpr ⟨fun y hy => ?_, ih⟩
    rw [List.map_cons] at ih hy
    rcases List.mem_cons.mp hy with rfl | hy
    · exact hab
    · have := (List.pairwise_cons.mp ih).1 y hy
      cases rev with
      | true => exact Nat.le_trans this hab
      | false => exact Nat.le_trans hab this
theorem sor_of {rev : Bool} {n : Nat} {t : WT} (hE : WT.E rev n t []) (ht : WT.okT rev n t [] = true) (xs : List Nat) (hn : xs.length = n) (w : World) : ∃ ys, OK w (sorK rev (n + 2) xs ys) ∧ ys.Perm xs ∧ List.Pairwise (LeB rev) ys := by
  obtain ⟨pm, cd, q, hp, H, h⟩ := WT.walk (x := fun i => xs.getD i 0) t [] hE ht (fun c hc => by cases hc)
  simp only [okL, Bool.and_eq_true] at h
  obtain ⟨h4, h5⟩ := h
  have e : (List.range' 0 xs.length).map (fun i => xs.getD i 0) = xs := by
    apply List.ext_getElem
    · simp
    · intro i h1 h2
      simp at h1
      simp [List.getD, h1]
  refine ⟨pm.map fun i => xs.getD i 0, ?_, ?_, adj_pw H pm h4⟩
  · have := en_ok (hp fun i => xs.getD i 0) w fun k hk => by
      obtain ⟨c, hm, ec⟩ := List.mem_map.mp hk
      rw [← ec]
      refine ltC_ok ?_
      rw [← show decide (xs.getD c.1 0 < xs.getD c.2.1 0) = c.2.2 from H c (List.mem_reverse.mp hm)]
      exact decide_eq_decide.mpr ⟨fun h => Int.ofNat_lt.mp h, fun h => Int.ofNat_lt.mpr h⟩
    unfold SP.K at this
    simp only at this
    rw [← hn, e] at this
    rw [← hn]
    exact this
  · have := (List.isPerm_iff.mp h5).map fun i => xs.getD i 0
    rw [← hn, e] at this
    exact this
theorem trF1_ok : WT.okT false 1 trF1 [] = true := by decide +kernel
theorem trF2_ok : WT.okT false 2 trF2 [] = true := by decide +kernel
theorem trF3_ok : WT.okT false 3 trF3 [] = true := by decide +kernel
theorem trF4_ok : WT.okT false 4 trF4 [] = true := by decide +kernel
theorem trF5_ok : WT.okT false 5 trF5 [] = true := by decide +kernel
theorem trR5_ok : WT.okT true 5 trR5 [] = true := by decide +kernel
/-! ## a plain sort -/
noncomputable def ins (a : Nat) : List Nat → List Nat
  | [] => [a]
  | b :: l => match Nat.ble a b with
    | true => a :: b :: l
    | false => b :: ins a l
noncomputable def srt : List Nat → List Nat
  | [] => []
  | a :: l => ins a (srt l)
theorem ins_perm (a : Nat) : ∀ l, (ins a l).Perm (a :: l)
  | [] => .refl _
  | b :: l => by
    unfold ins
    split
    · exact .refl _
    · exact ((ins_perm a l).cons b).trans (.swap ..)
theorem srt_perm : ∀ l, (srt l).Perm l
  | [] => .refl _
  | a :: l => (ins_perm a (srt l)).trans ((srt_perm l).cons a)
theorem ins_pw (a : Nat) : ∀ l, List.Pairwise (LeB false) l → List.Pairwise (LeB false) (ins a l)
  | [], _ => List.pairwise_singleton ..
  | b :: l, h => by
    unfold ins
    split
    · rename_i hb
      have hb := Nat.le_of_ble_eq_true hb
      refine List.pairwise_cons.mpr ⟨fun y hy => ?_, h⟩
      rcases List.mem_cons.mp hy with rfl | hy
      · exact hb
      · exact Nat.le_trans hb ((List.pairwise_cons.mp h).1 y hy)
    · rename_i hb
      have hb : b ≤ a := by
        rcases Nat.lt_or_ge b a with q | q
        · exact Nat.le_of_lt q
        · rw [Nat.ble_eq_true_of_le q] at hb; cases hb
      obtain ⟨h1, h2⟩ := List.pairwise_cons.mp h
      refine List.pairwise_cons.mpr ⟨fun y hy => ?_, ins_pw a l h2⟩
      rcases List.mem_cons.mp ((ins_perm a l).mem_iff.mp hy) with rfl | hy
      · exact hb
      · exact h1 y hy
theorem srt_pw : ∀ l, List.Pairwise (LeB false) (srt l)
  | [] => .nil
  | a :: l => ins_pw a _ (srt_pw l)
theorem srt_eq {ys xs : List Nat} (h : ys.Perm xs) (p : List.Pairwise (LeB false) ys) : ys = srt xs :=
  (h.trans (srt_perm xs).symm).eq_of_pairwise (fun a b _ _ h1 h2 => Nat.le_antisymm h1 h2) p (srt_pw xs)
theorem srt_rev {ys xs : List Nat} (h : ys.Perm xs) (p : List.Pairwise (LeB true) ys) : ys = (srt xs).reverse := by
  have : ys.reverse = srt xs := srt_eq ((List.reverse_perm ys).trans h) (List.pairwise_reverse.mpr p)
  rw [← this, List.reverse_reverse]
theorem sorF {n : Nat} {t : WT} (hE : WT.E false n t []) (ht : WT.okT false n t [] = true) (xs : List Nat) (hn : xs.length = n) (w : World) : OK w (sorK false (n + 2) xs (srt xs)) := by
  obtain ⟨ys, h1, h2, h3⟩ := sor_of hE ht xs hn w
  rw [srt_eq h2 h3] at h1
  exact h1
theorem sorR (xs : List Nat) (hn : xs.length = 5) (w : World) : OK w (sorK true 7 xs (srt xs).reverse) := by
  obtain ⟨ys, h1, h2, h3⟩ := sor_of trR5_E trR5_ok xs hn w
  rw [srt_rev h2 h3] at h1
  exact h1
theorem sort5 (w : World) (a b c d e : Nat) : OK w (sorK false 7 [a, b, c, d, e] (srt [a, b, c, d, e])) := sorF trF5_E trF5_ok _ rfl w
theorem sort4 (w : World) (a b c d : Nat) : OK w (sorK false 6 [a, b, c, d] (srt [a, b, c, d])) := sorF trF4_E trF4_ok _ rfl w
theorem sort3 (w : World) (a b c : Nat) : OK w (sorK false 5 [a, b, c] (srt [a, b, c])) := sorF trF3_E trF3_ok _ rfl w
theorem sort2 (w : World) (a b : Nat) : OK w (sorK false 4 [a, b] (srt [a, b])) := sorF trF2_E trF2_ok _ rfl w
theorem sort1 (w : World) (a : Nat) : OK w (sorK false 3 [a] [a]) := sorF trF1_E trF1_ok [a] rfl w
/-! ## the script's slice, the heights -/
noncomputable def m15 (n : Nat) : Nat := match Nat.ble n 15 with
  | true => n
  | false => 15
noncomputable def SliE (n : Nat) : Prop := ∀ (z : Nat → Int) (t : Nat → Nat), EN (fun _ => []) (fun _ => sliK (svF z t 0 n []) (svF z t 0 (m15 n) [])) d632 0xe00 [2] n115 nN
noncomputable def SliA : List Nat → Prop
  | [] => True
  | n :: l => SliE n ∧ SliA l
noncomputable def prv (x : Nat → Nat) : Nat → Int
  | 0 => 0
  | 1 => 2
  | 2 => 0
  | 3 => 3
  | 4 => 1
  | i + 5 => Int.ofNat (x i)
noncomputable def hx (n : Nat) (x : Nat → Nat) (i : Nat) : Nat := match Nat.blt i n with
  | true => x (i + 5 * ((n - 1 - i) / 5))
  | false => [0, 2, 0, 3, 1].getD i 0
noncomputable def heiX (n : Nat) (x : Nat → Nat) : List Nat := [hx n x 0, hx n x 1, hx n x 2, hx n x 3, hx n x 4]
noncomputable def HeiE (n : Nat) (zr : List Value) (ad cd : Nat) (Q : List Nat) (ef : Names) : Prop := ∀ (x : Nat → Nat) (z : Nat → Int) (t : Nat → Nat),
  EN (fun _ => sliK (svF z t 0 n zr) (svF z t 0 n []) :: (List.range' 0 n).map fun i => modC (prv x i + z i) 5 (Int.ofNat (x i))) (fun _ => heiK (svF z t 0 n zr) (heiX n x)) ad cd Q ef nN
theorem sl0 : SliA (List.range' 0 16) := by repeat' (first | exact trivial | exact fun _ _ _ _ _ _ _ _ => by kernel_rfl | refine And.intro ?_ ?_)
theorem sl1 : SliA (List.range' 16 16) := by repeat' (first | exact trivial | exact fun _ _ _ _ _ _ _ _ => by kernel_rfl | refine And.intro ?_ ?_)
theorem sl2 : SliA (List.range' 32 16) := by repeat' (first | exact trivial | exact fun _ _ _ _ _ _ _ _ => by kernel_rfl | refine And.intro ?_ ?_)
theorem sl3 : SliA (List.range' 48 16) := by repeat' (first | exact trivial | exact fun _ _ _ _ _ _ _ _ => by kernel_rfl | refine And.intro ?_ ?_)
theorem he0 : HeiE 0 [] d633 d634 [2] n116 := fun _ _ _ _ _ _ _ _ _ => by kernel_rfl
theorem he1 : HeiE 1 [] d635 d636 [2] n117 := fun _ _ _ _ _ _ _ _ _ => by kernel_rfl
theorem he2 : HeiE 2 [] d637 d638 [2] n118 := fun _ _ _ _ _ _ _ _ _ => by kernel_rfl
theorem he3 : HeiE 3 [] d639 d640 [2] n119 := fun _ _ _ _ _ _ _ _ _ => by kernel_rfl
theorem he4 : HeiE 4 [] d641 d642 [2] n120 := fun _ _ _ _ _ _ _ _ _ => by kernel_rfl
theorem he5 : HeiE 5 [] d643 d644 [2] n121 := fun _ _ _ _ _ _ _ _ _ => by kernel_rfl
theorem he6 : HeiE 6 [] d645 d646 [2] n122 := fun _ _ _ _ _ _ _ _ _ => by kernel_rfl
theorem he7 : HeiE 7 [] d647 d648 [2] n123 := fun _ _ _ _ _ _ _ _ _ => by kernel_rfl
theorem he8 : HeiE 8 [] d649 d650 [2] n124 := fun _ _ _ _ _ _ _ _ _ => by kernel_rfl
theorem he9 : HeiE 9 [] d651 d652 [2] n125 := fun _ _ _ _ _ _ _ _ _ => by kernel_rfl
theorem he10 : HeiE 10 [] d653 d654 [2] n126 := fun _ _ _ _ _ _ _ _ _ => by kernel_rfl
theorem he11 : HeiE 11 [] d655 d656 [2] n127 := fun _ _ _ _ _ _ _ _ _ => by kernel_rfl
theorem he12 : HeiE 12 [] d657 d658 [2] n128 := fun _ _ _ _ _ _ _ _ _ => by kernel_rfl
theorem he13 : HeiE 13 [] d659 d660 [2] n129 := fun _ _ _ _ _ _ _ _ _ => by kernel_rfl
theorem he14 : HeiE 14 [] d661 d662 [2] n130 := fun _ _ _ _ _ _ _ _ _ => by kernel_rfl
theorem he15 (zr : List Value) : HeiE 15 zr d663 d664 [2] n131 := fun _ _ _ _ _ _ _ _ _ => by kernel_rfl
theorem hei_n : ∀ n, n < 15 → ∃ ad cd Q ef, HeiE n [] ad cd Q ef
  | 0, _ => ⟨_, _, _, _, he0⟩
  | 1, _ => ⟨_, _, _, _, he1⟩
  | 2, _ => ⟨_, _, _, _, he2⟩
  | 3, _ => ⟨_, _, _, _, he3⟩
  | 4, _ => ⟨_, _, _, _, he4⟩
  | 5, _ => ⟨_, _, _, _, he5⟩
  | 6, _ => ⟨_, _, _, _, he6⟩
  | 7, _ => ⟨_, _, _, _, he7⟩
  | 8, _ => ⟨_, _, _, _, he8⟩
  | 9, _ => ⟨_, _, _, _, he9⟩
  | 10, _ => ⟨_, _, _, _, he10⟩
  | 11, _ => ⟨_, _, _, _, he11⟩
  | 12, _ => ⟨_, _, _, _, he12⟩
  | 13, _ => ⟨_, _, _, _, he13⟩
  | 14, _ => ⟨_, _, _, _, he14⟩
  | n + 15, h => absurd h (by omega)
theorem svF_app (z : Nat → Int) (t : Nat → Nat) : ∀ (a i b : Nat) (tl : List Value), svF z t i (a + b) tl = svF z t i a (svF z t (i + a) b tl)
  | 0, i, b, tl => by rw [Nat.zero_add]; rfl
  | a + 1, i, b, tl => by
    rw [show a + 1 + b = (a + b) + 1 from by omega]
    show Value.int (z i) (t i) :: svF z t (i + 1) (a + b) tl = Value.int (z i) (t i) :: svF z t (i + 1) a (svF z t (i + (a + 1)) b tl)
    rw [svF_app z t a (i + 1) b tl, show i + 1 + a = i + (a + 1) from by omega]
theorem SliA_mem : ∀ {l : List Nat}, SliA l → ∀ n ∈ l, SliE n
  | q :: l, h, n, hn => by
    rcases List.mem_cons.mp hn with e | e
    · rw [e]; exact h.1
    · exact SliA_mem h.2 n e
theorem sli_ok (w : World) (z : Nat → Int) (t : Nat → Nat) (n : Nat) (h : n < 64) : OK w (sliK (svF z t 0 n []) (svF z t 0 (m15 n) [])) := by
  have e : SliE n := by
    rcases Nat.lt_or_ge n 16 with q | q
    · exact SliA_mem sl0 n (List.mem_range'.mpr ⟨n, by omega, by omega⟩)
    · rcases Nat.lt_or_ge n 32 with q' | q'
      · exact SliA_mem sl1 n (List.mem_range'.mpr ⟨n - 16, by omega, by omega⟩)
      · rcases Nat.lt_or_ge n 48 with q2 | q2
        · exact SliA_mem sl2 n (List.mem_range'.mpr ⟨n - 32, by omega, by omega⟩)
        · exact SliA_mem sl3 n (List.mem_range'.mpr ⟨n - 48, by omega, by omega⟩)
  exact en_ok (e z t) w hk_nil
noncomputable def fm (a z : Int) : Nat := ((a + z).fmod 5).toNat
theorem fm_ok (w : World) (a z : Int) : OK w (modC (a + z) 5 (Int.ofNat (fm a z))) := modC_ok (by decide) (by
  unfold fm
  have := Int.fmod_nonneg_of_pos (a + z) (show (0 : Int) < 5 by decide)
  exact (Int.toNat_of_nonneg this).symm)
theorem fm_lt (a z : Int) : fm a z < 5 := by
  unfold fm
  have h1 := Int.fmod_nonneg_of_pos (a + z) (show (0 : Int) < 5 by decide)
  have h2 := Int.fmod_lt_of_pos (a + z) (show (0 : Int) < 5 by decide)
  omega
/-- the heights, one by one -/
noncomputable def hF (z : Nat → Int) : Nat → Nat
  | 0 => fm 0 (z 0)
  | 1 => fm 2 (z 1)
  | 2 => fm 0 (z 2)
  | 3 => fm 3 (z 3)
  | 4 => fm 1 (z 4)
  | i + 5 => fm (Int.ofNat (hF z i)) (z (i + 5))
theorem hF_eq (z : Nat → Int) : ∀ i, hF z i = fm (prv (hF z) i) (z i)
  | 0 => rfl
  | 1 => rfl
  | 2 => rfl
  | 3 => rfl
  | 4 => rfl
  | i + 5 => rfl
theorem hF_lt (z : Nat → Int) (i : Nat) : hF z i < 5 := by
  rw [hF_eq]
  exact fm_lt _ _
theorem hx_lt (n : Nat) (z : Nat → Int) (i : Nat) : hx n (hF z) i < 5 := by
  unfold hx
  split
  · exact hF_lt z _
  · match i with
    | 0 => decide
    | 1 => decide
    | 2 => decide
    | 3 => decide
    | 4 => decide
    | i + 5 => exact Nat.zero_lt_succ _
theorem hei_ok (w : World) (z : Nat → Int) (t : Nat → Nat) {n : Nat} {zr : List Value} (h : ∃ ad cd Q ef, HeiE n zr ad cd Q ef) (hs : OK w (sliK (svF z t 0 n zr) (svF z t 0 n []))) : OK w (heiK (svF z t 0 n zr) (heiX n (hF z))) := by
  obtain ⟨ad, cd, Q, ef, e⟩ := h
  refine en_ok (e (hF z) z t) w fun k hk => ?_
  rcases List.mem_cons.mp hk with rfl | hk
  · exact hs
  · obtain ⟨i, _, rfl⟩ := List.mem_map.mp hk
    rw [show Int.ofNat (hF z i) = Int.ofNat (fm (prv (hF z) i) (z i)) from congrArg _ (hF_eq z i)]
    exact fm_ok w _ _
theorem hei_all (w : World) (z : Nat → Int) (t : Nat → Nat) (n : Nat) (h : n ≤ 63) : ∃ m, OK w (heiK (svF z t 0 n []) (heiX m (hF z))) := by
  have s := sli_ok w z t n (by omega)
  rcases Nat.lt_or_ge n 15 with q | q
  · refine ⟨n, hei_ok w z t (hei_n n q) ?_⟩
    unfold m15 at s
    rw [show Nat.ble n 15 = true from Nat.ble_eq_true_of_le (by omega)] at s
    exact s
  · refine ⟨15, ?_⟩
    have e : svF z t 0 n [] = svF z t 0 15 (svF z t 15 (n - 15) []) := by
      have := svF_app z t 15 0 (n - 15) []
      rw [show 15 + (n - 15) = n from by omega, Nat.zero_add] at this
      exact this
    have m : m15 n = 15 := by
      unfold m15
      split
      · rename_i hb
        have := Nat.le_of_ble_eq_true hb
        omega
      · rfl
    rw [e]
    refine hei_ok w z t ⟨_, _, _, _, he15 _⟩ ?_
    rw [e, m] at s
    exact s
/-- five numbers, x at place k -/
noncomputable def xsU (k x : Nat) (y : Nat → Nat) : List Nat := match k with
  | 0 => [x, y 1, y 2, y 3, y 4]
  | 1 => [y 0, x, y 2, y 3, y 4]
  | 2 => [y 0, y 1, x, y 3, y 4]
  | 3 => [y 0, y 1, y 2, x, y 4]
  | _ => [y 0, y 1, y 2, y 3, x]
noncomputable def SuE (t : Nat × Nat × Nat) : Prop := match t with
  | (k, a, x) => ∀ (y : Nat → Nat) (s : Nat), EQ (fun _ => [sumL (k + 1) (a + x) s (xsU k x y)]) (fun _ => sumL k a s (xsU k x y)) 0x2001000002002002001001003001001001001002 0xc808005c [] (fun β _ _ => [β 3, β 4, β 5, β 6]) (fun _ _ _ => [])
noncomputable def SuS : List (Nat × Nat × Nat) → Prop
  | [] => True
  | t :: l => SuE t ∧ SuS l
theorem SuS_mem : ∀ {l : List (Nat × Nat × Nat)}, SuS l → ∀ t ∈ l, SuE t
  | q :: l, h, t, ht => by
    rcases List.mem_cons.mp ht with e | e
    · rw [e]; exact h.1
    · exact SuS_mem h.2 t e
noncomputable def two5 : List Nat := [1, 2, 4, 8, 16]
noncomputable def suA (k : Nat) : List Nat := match k with
  | 0 => [0]
  | 1 => [1, 2, 4, 8, 16]
  | 2 => [2, 3, 5, 9, 17, 4, 6, 10, 18, 8, 12, 20, 16, 24, 32]
  | 3 => [3, 4, 6, 10, 18, 5, 7, 11, 19, 9, 13, 21, 17, 25, 33, 8, 12, 20, 14, 22, 26, 34, 16, 24, 28, 36, 32, 40, 48]
  | _ => [4, 5, 7, 11, 19, 6, 8, 12, 20, 10, 14, 22, 18, 26, 34, 9, 13, 21, 15, 23, 27, 35, 17, 25, 29, 37, 33, 41, 49, 16, 24, 28, 36, 30, 38, 42, 50, 32, 40, 44, 52, 48, 56, 64]
theorem SuS_app : ∀ {l m : List (Nat × Nat × Nat)}, SuS l → SuS m → SuS (l ++ m)
  | [], _, _, h => h
  | _ :: _, _, h, g => ⟨h.1, SuS_app h.2 g⟩
noncomputable def suG (k : Nat) (as : List Nat) : List (Nat × Nat × Nat) := as.flatMap fun a => two5.map fun x => (k, a, x)
theorem su0 : SuS (suG 0 (((suA 0).drop 0).take 1)) := by repeat' (first | exact trivial | exact fun _ _ _ _ _ _ _ _ => by kernel_rfl | refine And.intro ?_ ?_)
theorem su1 : SuS (suG 1 (((suA 1).drop 0).take 5)) := by repeat' (first | exact trivial | exact fun _ _ _ _ _ _ _ _ => by kernel_rfl | refine And.intro ?_ ?_)
theorem su2 : SuS (suG 2 (((suA 2).drop 0).take 8)) := by repeat' (first | exact trivial | exact fun _ _ _ _ _ _ _ _ => by kernel_rfl | refine And.intro ?_ ?_)
theorem su3 : SuS (suG 2 (((suA 2).drop 8).take 7)) := by repeat' (first | exact trivial | exact fun _ _ _ _ _ _ _ _ => by kernel_rfl | refine And.intro ?_ ?_)
theorem su4 : SuS (suG 3 (((suA 3).drop 0).take 10)) := by repeat' (first | exact trivial | exact fun _ _ _ _ _ _ _ _ => by kernel_rfl | refine And.intro ?_ ?_)
theorem su5 : SuS (suG 3 (((suA 3).drop 10).take 10)) := by repeat' (first | exact trivial | exact fun _ _ _ _ _ _ _ _ => by kernel_rfl | refine And.intro ?_ ?_)
theorem su6 : SuS (suG 3 (((suA 3).drop 20).take 9)) := by repeat' (first | exact trivial | exact fun _ _ _ _ _ _ _ _ => by kernel_rfl | refine And.intro ?_ ?_)
theorem su7 : SuS (suG 4 (((suA 4).drop 0).take 11)) := by repeat' (first | exact trivial | exact fun _ _ _ _ _ _ _ _ => by kernel_rfl | refine And.intro ?_ ?_)
theorem su8 : SuS (suG 4 (((suA 4).drop 11).take 11)) := by repeat' (first | exact trivial | exact fun _ _ _ _ _ _ _ _ => by kernel_rfl | refine And.intro ?_ ?_)
theorem su9 : SuS (suG 4 (((suA 4).drop 22).take 11)) := by repeat' (first | exact trivial | exact fun _ _ _ _ _ _ _ _ => by kernel_rfl | refine And.intro ?_ ?_)
theorem su10 : SuS (suG 4 (((suA 4).drop 33).take 20)) := by repeat' (first | exact trivial | exact fun _ _ _ _ _ _ _ _ => by kernel_rfl | refine And.intro ?_ ?_)
noncomputable def suAll : List (Nat × Nat × Nat) := suG 0 (((suA 0).drop 0).take 1) ++ (suG 1 (((suA 1).drop 0).take 5) ++ (suG 2 (((suA 2).drop 0).take 8) ++ (suG 2 (((suA 2).drop 8).take 7) ++ (suG 3 (((suA 3).drop 0).take 10) ++ (suG 3 (((suA 3).drop 10).take 10) ++ (suG 3 (((suA 3).drop 20).take 9) ++ (suG 4 (((suA 4).drop 0).take 11) ++ (suG 4 (((suA 4).drop 11).take 11) ++ (suG 4 (((suA 4).drop 22).take 11) ++ (suG 4 (((suA 4).drop 33).take 20)
))))))))))
theorem suAll_ok : ∀ t ∈ suAll, SuE t := SuS_mem (SuS_app su0 ( SuS_app su1 ( SuS_app su2 ( SuS_app su3 ( SuS_app su4 ( SuS_app su5 ( SuS_app su6 ( SuS_app su7 ( SuS_app su8 ( SuS_app su9 (su10)))))))))))
theorem suAll_mem : ∀ k < 5, ∀ a ∈ suA k, ∀ x ∈ two5, (k, a, x) ∈ suAll := by decide +kernel
theorem suA_step : ∀ k < 4, ∀ a ∈ suA k, ∀ x ∈ two5, a + x ∈ suA (k + 1) := by decide +kernel
theorem su_NM (k a s : Nat) (xs : List Nat) : NM (fun _ => sumL k a s xs) [] := ⟨fun _ => rfl, fun _ _ _ => rfl, fun _ _ _ _ => rfl, fun _ _ _ => by kernel_rfl, fun _ _ _ _ => rfl⟩
theorem su_step {k a x : Nat} (hk : k < 5) (ha : a ∈ suA k) (hx : x ∈ two5) (y : Nat → Nat) (s : Nat) (w : World) (h : OK w (sumL (k + 1) (a + x) s (xsU k x y))) : OK w (sumL k a s (xsU k x y)) :=
  ok_of (suAll_ok _ (suAll_mem k hk a ha x hx) y s) (su_NM k a s _) w (hk_cons h hk_nil)
theorem suE_q : ∀ (x0 x1 x2 x3 x4 x5 : Nat), EQ (fun P => []) (fun P => sumL 5 x5 x5 [x0, x1, x2, x3, x4]) 0x5001001003001001001001002 0x8005c [] (fun β v τ => [v 10, 5, v 10, v 9]) (fun _ _ _ => []) := fun x0 x1 x2 x3 x4 x5 P β v τ γ σ => by kernel_rfl
theorem suK_q : ∀ (x0 x1 x2 x3 x4 x5 : Nat), EQ (fun P => [sumL 0 0 x5 [x0, x1, x2, x3, x4]]) (fun P => sumK x5 [x0, x1, x2, x3, x4]) 0x2001002001001001 0xc80700015b00 [] (fun β v τ => [β 3]) (fun _ _ _ => []) := fun x0 x1 x2 x3 x4 x5 P β v τ γ σ => by kernel_rfl
theorem su_end (w : World) (x0 x1 x2 x3 x4 s : Nat) : OK w (sumL 5 s s [x0, x1, x2, x3, x4]) := ok_of (suE_q x0 x1 x2 x3 x4 s) (su_NM 5 s s _) w hk_nil
theorem sum_all (w : World) {a b c d e : Nat} (ha : a ∈ two5) (hb : b ∈ two5) (hc : c ∈ two5) (hd : d ∈ two5) (he : e ∈ two5) : OK w (sumK (a + b + c + d + e) [a, b, c, d, e]) := by
  have z0 : 0 ∈ suA 0 := by decide
  have z1 := suA_step 0 (by decide) 0 z0 a ha
  have z2 := suA_step 1 (by decide) _ z1 b hb
  have z3 := suA_step 2 (by decide) _ z2 c hc
  have z4 := suA_step 3 (by decide) _ z3 d hd
  let y : Nat → Nat := fun i => [a, b, c, d, e].getD i 0
  have h5 : OK w (sumL 5 (0 + a + b + c + d + e) (0 + a + b + c + d + e) [a, b, c, d, e]) := su_end w _ _ _ _ _ _
  have h4 : OK w (sumL 4 (0 + a + b + c + d) (0 + a + b + c + d + e) [a, b, c, d, e]) := su_step (k := 4) (by decide) z4 he y _ w h5
  have h3 : OK w (sumL 3 (0 + a + b + c) (0 + a + b + c + d + e) [a, b, c, d, e]) := su_step (k := 3) (by decide) z3 hd y _ w h4
  have h2 : OK w (sumL 2 (0 + a + b) (0 + a + b + c + d + e) [a, b, c, d, e]) := su_step (k := 2) (by decide) z2 hc y _ w h3
  have h1 : OK w (sumL 1 (0 + a) (0 + a + b + c + d + e) [a, b, c, d, e]) := su_step (k := 1) (by decide) z1 hb y _ w h2
  have h0 : OK w (sumL 0 0 (0 + a + b + c + d + e) [a, b, c, d, e]) := su_step (k := 0) (by decide) z0 ha y _ w h1
  rw [Nat.zero_add] at h0
  exact ok_of (suK_q a b c d e (a + b + c + d + e)) ⟨fun _ => rfl, fun _ _ _ => rfl, fun _ _ _ _ => rfl, fun _ _ _ => by kernel_rfl, fun _ _ _ _ => rfl⟩ w (hk_cons h0 hk_nil)
theorem mmq0 : (∀ (x0 x1 : Nat), EQ (fun P => [gtC (Int.ofNat x1) (Int.ofNat x0) true]) (fun P => maxK x0 x1 x1) d665 d666 [] (fun β v τ => [v 2]) (fun _ _ _ => [])) ∧
  (∀ (x0 x1 : Nat), EQ (fun P => [gtC (Int.ofNat x1) (Int.ofNat x0) false]) (fun P => maxK x0 x1 x0) d667 d666 [] (fun β v τ => [v 0]) (fun _ _ _ => [])) ∧
  (∀ (x0 : Nat), EQ (fun P => []) (fun P => minK [x0] x0) d668 d669 [] (fun β v τ => [v 2]) (fun _ _ _ => [])) ∧
  (∀ (x0 x1 : Nat), EQ (fun P => [ltC (Int.ofNat x1) (Int.ofNat x0) false]) (fun P => minK [x0, x1] x0) d667 d670 [] (fun β v τ => [v 2]) (fun _ _ _ => [])) ∧
  (∀ (x0 x1 : Nat), EQ (fun P => [ltC (Int.ofNat x1) (Int.ofNat x0) true]) (fun P => minK [x0, x1] x1) d665 d670 [] (fun β v τ => [v 4]) (fun _ _ _ => [])) ∧
  (∀ (x0 x1 x2 : Nat), EQ (fun P => [ltC (Int.ofNat x1) (Int.ofNat x0) false, ltC (Int.ofNat x2) (Int.ofNat x0) false]) (fun P => minK [x0, x1, x2] x0) d671 d672 [] (fun β v τ => [v 2]) (fun _ _ _ => [])) ∧
  (∀ (x0 x1 x2 : Nat), EQ (fun P => [ltC (Int.ofNat x1) (Int.ofNat x0) true, ltC (Int.ofNat x2) (Int.ofNat x1) false]) (fun P => minK [x0, x1, x2] x1) d673 d672 [] (fun β v τ => [v 4]) (fun _ _ _ => [])) ∧
  (∀ (x0 x1 x2 : Nat), EQ (fun P => [ltC (Int.ofNat x1) (Int.ofNat x0) false, ltC (Int.ofNat x2) (Int.ofNat x0) true]) (fun P => minK [x0, x1, x2] x2) d674 d672 [] (fun β v τ => [v 6]) (fun _ _ _ => [])) ∧
  (∀ (x0 x1 x2 : Nat), EQ (fun P => [ltC (Int.ofNat x1) (Int.ofNat x0) true, ltC (Int.ofNat x2) (Int.ofNat x1) true]) (fun P => minK [x0, x1, x2] x2) d675 d672 [] (fun β v τ => [v 6]) (fun _ _ _ => [])) ∧
  (∀ (x0 x1 x2 x3 : Nat), EQ (fun P => [ltC (Int.ofNat x1) (Int.ofNat x0) false, ltC (Int.ofNat x2) (Int.ofNat x0) false, ltC (Int.ofNat x3) (Int.ofNat x0) false]) (fun P => minK [x0, x1, x2, x3] x0) d676 d677 [] (fun β v τ => [v 2]) (fun _ _ _ => [])) ∧
  (∀ (x0 x1 x2 x3 : Nat), EQ (fun P => [ltC (Int.ofNat x1) (Int.ofNat x0) true, ltC (Int.ofNat x2) (Int.ofNat x1) false, ltC (Int.ofNat x3) (Int.ofNat x1) false]) (fun P => minK [x0, x1, x2, x3] x1) d678 d677 [] (fun β v τ => [v 4]) (fun _ _ _ => [])) ∧
  (∀ (x0 x1 x2 x3 : Nat), EQ (fun P => [ltC (Int.ofNat x1) (Int.ofNat x0) false, ltC (Int.ofNat x2) (Int.ofNat x0) true, ltC (Int.ofNat x3) (Int.ofNat x2) false]) (fun P => minK [x0, x1, x2, x3] x2) d679 d677 [] (fun β v τ => [v 6]) (fun _ _ _ => [])) ∧
  (∀ (x0 x1 x2 x3 : Nat), EQ (fun P => [ltC (Int.ofNat x1) (Int.ofNat x0) true, ltC (Int.ofNat x2) (Int.ofNat x1) true, ltC (Int.ofNat x3) (Int.ofNat x2) false]) (fun P => minK [x0, x1, x2, x3] x2) d680 d677 [] (fun β v τ => [v 6]) (fun _ _ _ => [])) ∧
  (∀ (x0 x1 x2 x3 : Nat), EQ (fun P => [ltC (Int.ofNat x1) (Int.ofNat x0) false, ltC (Int.ofNat x2) (Int.ofNat x0) false, ltC (Int.ofNat x3) (Int.ofNat x0) true]) (fun P => minK [x0, x1, x2, x3] x3) d681 d677 [] (fun β v τ => [v 8]) (fun _ _ _ => [])) ∧
  (∀ (x0 x1 x2 x3 : Nat), EQ (fun P => [ltC (Int.ofNat x1) (Int.ofNat x0) true, ltC (Int.ofNat x2) (Int.ofNat x1) false, ltC (Int.ofNat x3) (Int.ofNat x1) true]) (fun P => minK [x0, x1, x2, x3] x3) d682 d677 [] (fun β v τ => [v 8]) (fun _ _ _ => [])) ∧
  (∀ (x0 x1 x2 x3 : Nat), EQ (fun P => [ltC (Int.ofNat x1) (Int.ofNat x0) false, ltC (Int.ofNat x2) (Int.ofNat x0) true, ltC (Int.ofNat x3) (Int.ofNat x2) true]) (fun P => minK [x0, x1, x2, x3] x3) d683 d677 [] (fun β v τ => [v 8]) (fun _ _ _ => [])) ∧
  (∀ (x0 x1 x2 x3 : Nat), EQ (fun P => [ltC (Int.ofNat x1) (Int.ofNat x0) true, ltC (Int.ofNat x2) (Int.ofNat x1) true, ltC (Int.ofNat x3) (Int.ofNat x2) true]) (fun P => minK [x0, x1, x2, x3] x3) d684 d677 [] (fun β v τ => [v 8]) (fun _ _ _ => [])) :=
  ⟨fun x0 x1 P β v τ γ σ => by kernel_rfl,
  fun x0 x1 P β v τ γ σ => by kernel_rfl,
  fun x0 P β v τ γ σ => by kernel_rfl,
  fun x0 x1 P β v τ γ σ => by kernel_rfl,
  fun x0 x1 P β v τ γ σ => by kernel_rfl,
  fun x0 x1 x2 P β v τ γ σ => by kernel_rfl,
  fun x0 x1 x2 P β v τ γ σ => by kernel_rfl,
  fun x0 x1 x2 P β v τ γ σ => by kernel_rfl,
  fun x0 x1 x2 P β v τ γ σ => by kernel_rfl,
  fun x0 x1 x2 x3 P β v τ γ σ => by kernel_rfl,
  fun x0 x1 x2 x3 P β v τ γ σ => by kernel_rfl,
  fun x0 x1 x2 x3 P β v τ γ σ => by kernel_rfl,
  fun x0 x1 x2 x3 P β v τ γ σ => by kernel_rfl,
  fun x0 x1 x2 x3 P β v τ γ σ => by kernel_rfl,
  fun x0 x1 x2 x3 P β v τ γ σ => by kernel_rfl,
  fun x0 x1 x2 x3 P β v τ γ σ => by kernel_rfl,
  fun x0 x1 x2 x3 P β v τ γ σ => by kernel_rfl⟩
theorem max0_ok (w : World) (x0 x1 : Nat) (h1_0 : decide (Int.ofNat x1 > Int.ofNat x0) = true) : OK w (maxK x0 x1 x1) :=
  ok_of (mmq0.1 x0 x1) ⟨fun P => by kernel_rfl, fun P b v => by kernel_rfl, fun P b v t => by kernel_rfl, fun P b v => by kernel_rfl, fun P b v t => by kernel_rfl⟩ w (hk_cons (gtC_ok (h1_0)) (hk_nil))
theorem max1_ok (w : World) (x0 x1 : Nat) (h1_0 : decide (Int.ofNat x1 > Int.ofNat x0) = false) : OK w (maxK x0 x1 x0) :=
  ok_of (mmq0.2.1 x0 x1) ⟨fun P => by kernel_rfl, fun P b v => by kernel_rfl, fun P b v t => by kernel_rfl, fun P b v => by kernel_rfl, fun P b v t => by kernel_rfl⟩ w (hk_cons (gtC_ok (h1_0)) (hk_nil))
theorem min2_ok (w : World) (x0 : Nat) : OK w (minK [x0] x0) :=
  ok_of (mmq0.2.2.1 x0) ⟨fun P => by kernel_rfl, fun P b v => by kernel_rfl, fun P b v t => by kernel_rfl, fun P b v => by kernel_rfl, fun P b v t => by kernel_rfl⟩ w (hk_nil)
theorem min3_ok (w : World) (x0 x1 : Nat) (h1_0 : decide (Int.ofNat x1 < Int.ofNat x0) = false) : OK w (minK [x0, x1] x0) :=
  ok_of (mmq0.2.2.2.1 x0 x1) ⟨fun P => by kernel_rfl, fun P b v => by kernel_rfl, fun P b v t => by kernel_rfl, fun P b v => by kernel_rfl, fun P b v t => by kernel_rfl⟩ w (hk_cons (ltC_ok (h1_0)) (hk_nil))
theorem min4_ok (w : World) (x0 x1 : Nat) (h1_0 : decide (Int.ofNat x1 < Int.ofNat x0) = true) : OK w (minK [x0, x1] x1) :=
  ok_of (mmq0.2.2.2.2.1 x0 x1) ⟨fun P => by kernel_rfl, fun P b v => by kernel_rfl, fun P b v t => by kernel_rfl, fun P b v => by kernel_rfl, fun P b v t => by kernel_rfl⟩ w (hk_cons (ltC_ok (h1_0)) (hk_nil))
theorem min5_ok (w : World) (x0 x1 x2 : Nat) (h1_0 : decide (Int.ofNat x1 < Int.ofNat x0) = false) (h2_0 : decide (Int.ofNat x2 < Int.ofNat x0) = false) : OK w (minK [x0, x1, x2] x0) :=
  ok_of (mmq0.2.2.2.2.2.1 x0 x1 x2) ⟨fun P => by kernel_rfl, fun P b v => by kernel_rfl, fun P b v t => by kernel_rfl, fun P b v => by kernel_rfl, fun P b v t => by kernel_rfl⟩ w (hk_cons (ltC_ok (h1_0)) (hk_cons (ltC_ok (h2_0)) (hk_nil)))
theorem min6_ok (w : World) (x0 x1 x2 : Nat) (h1_0 : decide (Int.ofNat x1 < Int.ofNat x0) = true) (h2_1 : decide (Int.ofNat x2 < Int.ofNat x1) = false) : OK w (minK [x0, x1, x2] x1) :=
  ok_of (mmq0.2.2.2.2.2.2.1 x0 x1 x2) ⟨fun P => by kernel_rfl, fun P b v => by kernel_rfl, fun P b v t => by kernel_rfl, fun P b v => by kernel_rfl, fun P b v t => by kernel_rfl⟩ w (hk_cons (ltC_ok (h1_0)) (hk_cons (ltC_ok (h2_1)) (hk_nil)))
theorem min7_ok (w : World) (x0 x1 x2 : Nat) (h1_0 : decide (Int.ofNat x1 < Int.ofNat x0) = false) (h2_0 : decide (Int.ofNat x2 < Int.ofNat x0) = true) : OK w (minK [x0, x1, x2] x2) :=
  ok_of (mmq0.2.2.2.2.2.2.2.1 x0 x1 x2) ⟨fun P => by kernel_rfl, fun P b v => by kernel_rfl, fun P b v t => by kernel_rfl, fun P b v => by kernel_rfl, fun P b v t => by kernel_rfl⟩ w (hk_cons (ltC_ok (h1_0)) (hk_cons (ltC_ok (h2_0)) (hk_nil)))
theorem min8_ok (w : World) (x0 x1 x2 : Nat) (h1_0 : decide (Int.ofNat x1 < Int.ofNat x0) = true) (h2_1 : decide (Int.ofNat x2 < Int.ofNat x1) = true) : OK w (minK [x0, x1, x2] x2) :=
  ok_of (mmq0.2.2.2.2.2.2.2.2.1 x0 x1 x2) ⟨fun P => by kernel_rfl, fun P b v => by kernel_rfl, fun P b v t => by kernel_rfl, fun P b v => by kernel_rfl, fun P b v t => by kernel_rfl⟩ w (hk_cons (ltC_ok (h1_0)) (hk_cons (ltC_ok (h2_1)) (hk_nil)))
theorem min9_ok (w : World) (x0 x1 x2 x3 : Nat) (h1_0 : decide (Int.ofNat x1 < Int.ofNat x0) = false) (h2_0 : decide (Int.ofNat x2 < Int.ofNat x0) = false) (h3_0 : decide (Int.ofNat x3 < Int.ofNat x0) = false) : OK w (minK [x0, x1, x2, x3] x0) :=
  ok_of (mmq0.2.2.2.2.2.2.2.2.2.1 x0 x1 x2 x3) ⟨fun P => by kernel_rfl, fun P b v => by kernel_rfl, fun P b v t => by kernel_rfl, fun P b v => by kernel_rfl, fun P b v t => by kernel_rfl⟩ w (hk_cons (ltC_ok (h1_0)) (hk_cons (ltC_ok (h2_0)) (hk_cons (ltC_ok (h3_0)) (hk_nil))))
theorem min10_ok (w : World) (x0 x1 x2 x3 : Nat) (h1_0 : decide (Int.ofNat x1 < Int.ofNat x0) = true) (h2_1 : decide (Int.ofNat x2 < Int.ofNat x1) = false) (h3_1 : decide (Int.ofNat x3 < Int.ofNat x1) = false) : OK w (minK [x0, x1, x2, x3] x1) :=
  ok_of (mmq0.2.2.2.2.2.2.2.2.2.2.1 x0 x1 x2 x3) ⟨fun P => by kernel_rfl, fun P b v => by kernel_rfl, fun P b v t => by kernel_rfl, fun P b v => by kernel_rfl, fun P b v t => by kernel_rfl⟩ w (hk_cons (ltC_ok (h1_0)) (hk_cons (ltC_ok (h2_1)) (hk_cons (ltC_ok (h3_1)) (hk_nil))))
theorem min11_ok (w : World) (x0 x1 x2 x3 : Nat) (h1_0 : decide (Int.ofNat x1 < Int.ofNat x0) = false) (h2_0 : decide (Int.ofNat x2 < Int.ofNat x0) = true) (h3_2 : decide (Int.ofNat x3 < Int.ofNat x2) = false) : OK w (minK [x0, x1, x2, x3] x2) :=
  ok_of (mmq0.2.2.2.2.2.2.2.2.2.2.2.1 x0 x1 x2 x3) ⟨fun P => by kernel_rfl, fun P b v => by kernel_rfl, fun P b v t => by kernel_rfl, fun P b v => by kernel_rfl, fun P b v t => by kernel_rfl⟩ w (hk_cons (ltC_ok (h1_0)) (hk_cons (ltC_ok (h2_0)) (hk_cons (ltC_ok (h3_2)) (hk_nil))))
theorem min12_ok (w : World) (x0 x1 x2 x3 : Nat) (h1_0 : decide (Int.ofNat x1 < Int.ofNat x0) = true) (h2_1 : decide (Int.ofNat x2 < Int.ofNat x1) = true) (h3_2 : decide (Int.ofNat x3 < Int.ofNat x2) = false) : OK w (minK [x0, x1, x2, x3] x2) :=
  ok_of (mmq0.2.2.2.2.2.2.2.2.2.2.2.2.1 x0 x1 x2 x3) ⟨fun P => by kernel_rfl, fun P b v => by kernel_rfl, fun P b v t => by kernel_rfl, fun P b v => by kernel_rfl, fun P b v t => by kernel_rfl⟩ w (hk_cons (ltC_ok (h1_0)) (hk_cons (ltC_ok (h2_1)) (hk_cons (ltC_ok (h3_2)) (hk_nil))))
theorem min13_ok (w : World) (x0 x1 x2 x3 : Nat) (h1_0 : decide (Int.ofNat x1 < Int.ofNat x0) = false) (h2_0 : decide (Int.ofNat x2 < Int.ofNat x0) = false) (h3_0 : decide (Int.ofNat x3 < Int.ofNat x0) = true) : OK w (minK [x0, x1, x2, x3] x3) :=
  ok_of (mmq0.2.2.2.2.2.2.2.2.2.2.2.2.2.1 x0 x1 x2 x3) ⟨fun P => by kernel_rfl, fun P b v => by kernel_rfl, fun P b v t => by kernel_rfl, fun P b v => by kernel_rfl, fun P b v t => by kernel_rfl⟩ w (hk_cons (ltC_ok (h1_0)) (hk_cons (ltC_ok (h2_0)) (hk_cons (ltC_ok (h3_0)) (hk_nil))))
theorem min14_ok (w : World) (x0 x1 x2 x3 : Nat) (h1_0 : decide (Int.ofNat x1 < Int.ofNat x0) = true) (h2_1 : decide (Int.ofNat x2 < Int.ofNat x1) = false) (h3_1 : decide (Int.ofNat x3 < Int.ofNat x1) = true) : OK w (minK [x0, x1, x2, x3] x3) :=
  ok_of (mmq0.2.2.2.2.2.2.2.2.2.2.2.2.2.2.1 x0 x1 x2 x3) ⟨fun P => by kernel_rfl, fun P b v => by kernel_rfl, fun P b v t => by kernel_rfl, fun P b v => by kernel_rfl, fun P b v t => by kernel_rfl⟩ w (hk_cons (ltC_ok (h1_0)) (hk_cons (ltC_ok (h2_1)) (hk_cons (ltC_ok (h3_1)) (hk_nil))))
theorem min15_ok (w : World) (x0 x1 x2 x3 : Nat) (h1_0 : decide (Int.ofNat x1 < Int.ofNat x0) = false) (h2_0 : decide (Int.ofNat x2 < Int.ofNat x0) = true) (h3_2 : decide (Int.ofNat x3 < Int.ofNat x2) = true) : OK w (minK [x0, x1, x2, x3] x3) :=
  ok_of (mmq0.2.2.2.2.2.2.2.2.2.2.2.2.2.2.2.1 x0 x1 x2 x3) ⟨fun P => by kernel_rfl, fun P b v => by kernel_rfl, fun P b v t => by kernel_rfl, fun P b v => by kernel_rfl, fun P b v t => by kernel_rfl⟩ w (hk_cons (ltC_ok (h1_0)) (hk_cons (ltC_ok (h2_0)) (hk_cons (ltC_ok (h3_2)) (hk_nil))))
theorem min16_ok (w : World) (x0 x1 x2 x3 : Nat) (h1_0 : decide (Int.ofNat x1 < Int.ofNat x0) = true) (h2_1 : decide (Int.ofNat x2 < Int.ofNat x1) = true) (h3_2 : decide (Int.ofNat x3 < Int.ofNat x2) = true) : OK w (minK [x0, x1, x2, x3] x3) :=
  ok_of (mmq0.2.2.2.2.2.2.2.2.2.2.2.2.2.2.2.2 x0 x1 x2 x3) ⟨fun P => by kernel_rfl, fun P b v => by kernel_rfl, fun P b v t => by kernel_rfl, fun P b v => by kernel_rfl, fun P b v t => by kernel_rfl⟩ w (hk_cons (ltC_ok (h1_0)) (hk_cons (ltC_ok (h2_1)) (hk_cons (ltC_ok (h3_2)) (hk_nil))))
theorem fnq0 : (∀ (x0 x1 x2 x3 x4 x102 x103 x104 x105 x113 x114 x115 x124 x125 x135 x212 x213 x214 x215 x223 x224 x225 x234 x235 x245 x323 x324 x325 x334 x335 x345 x434 x435 x445 x545 : Nat), EQ (fun P => [maxK x0 x1 x212, minK [(1 + x212)] x102, maxK x1 x2 x323, minK [(1 + x323)] x113, maxK x2 x3 x434, minK [(1 + x434)] x124, maxK x3 x4 x545, minK [(1 + x545)] x135, maxK x0 x113 x213, maxK x102 x2 x223, minK [(1 + x213), (1 + x223)] x103, maxK x1 x124 x324, maxK x113 x3 x334, minK [(1 + x324), (1 + x334)] x114, maxK x2 x135 x435, maxK x124 x4 x445, minK [(1 + x435), (1 + x445)] x125, maxK x0 x114 x214, maxK x102 x124 x224, maxK x103 x3 x234, minK [(1 + x214), (1 + x224), (1 + x234)] x104, maxK x1 x125 x325, maxK x113 x135 x335, maxK x114 x4 x345, minK [(1 + x325), (1 + x335), (1 + x345)] x115, maxK x0 x115 x215, maxK x102 x125 x225, maxK x103 x135 x235, maxK x104 x4 x245, minK [(1 + x215), (1 + x225), (1 + x235), (1 + x245)] x105]) (fun P => lowK x0 x1 x2 x3 x4 x105) d685 d686 [] (fun β v τ => [β 145]) (fun _ _ _ => [])) :=
  fun x0 x1 x2 x3 x4 x102 x103 x104 x105 x113 x114 x115 x124 x125 x135 x212 x213 x214 x215 x223 x224 x225 x234 x235 x245 x323 x324 x325 x334 x335 x345 x434 x435 x445 x545 P β v τ γ σ => by kernel_rfl
theorem low_ok (w : World) (x0 x1 x2 x3 x4 x102 x103 x104 x105 x113 x114 x115 x124 x125 x135 x212 x213 x214 x215 x223 x224 x225 x234 x235 x245 x323 x324 x325 x334 x335 x345 x434 x435 x445 x545 : Nat) (u0 : OK w (maxK x0 x1 x212)) (u1 : OK w (minK [(1 + x212)] x102)) (u2 : OK w (maxK x1 x2 x323)) (u3 : OK w (minK [(1 + x323)] x113)) (u4 : OK w (maxK x2 x3 x434)) (u5 : OK w (minK [(1 + x434)] x124)) (u6 : OK w (maxK x3 x4 x545)) (u7 : OK w (minK [(1 + x545)] x135)) (u8 : OK w (maxK x0 x113 x213)) (u9 : OK w (maxK x102 x2 x223)) (u10 : OK w (minK [(1 + x213), (1 + x223)] x103)) (u11 : OK w (maxK x1 x124 x324)) (u12 : OK w (maxK x113 x3 x334)) (u13 : OK w (minK [(1 + x324), (1 + x334)] x114)) (u14 : OK w (maxK x2 x135 x435)) (u15 : OK w (maxK x124 x4 x445)) (u16 : OK w (minK [(1 + x435), (1 + x445)] x125)) (u17 : OK w (maxK x0 x114 x214)) (u18 : OK w (maxK x102 x124 x224)) (u19 : OK w (maxK x103 x3 x234)) (u20 : OK w (minK [(1 + x214), (1 + x224), (1 + x234)] x104)) (u21 : OK w (maxK x1 x125 x325)) (u22 : OK w (maxK x113 x135 x335)) (u23 : OK w (maxK x114 x4 x345)) (u24 : OK w (minK [(1 + x325), (1 + x335), (1 + x345)] x115)) (u25 : OK w (maxK x0 x115 x215)) (u26 : OK w (maxK x102 x125 x225)) (u27 : OK w (maxK x103 x135 x235)) (u28 : OK w (maxK x104 x4 x245)) (u29 : OK w (minK [(1 + x215), (1 + x225), (1 + x235), (1 + x245)] x105)) : OK w (lowK x0 x1 x2 x3 x4 x105) :=
  ok_of (fnq0 x0 x1 x2 x3 x4 x102 x103 x104 x105 x113 x114 x115 x124 x125 x135 x212 x213 x214 x215 x223 x224 x225 x234 x235 x245 x323 x324 x325 x334 x335 x345 x434 x435 x445 x545) ⟨fun P => by kernel_rfl, fun P b v => by kernel_rfl, fun P b v t => by kernel_rfl, fun P b v => by kernel_rfl, fun P b v t => by kernel_rfl⟩ w (hk_cons u0 (hk_cons u1 (hk_cons u2 (hk_cons u3 (hk_cons u4 (hk_cons u5 (hk_cons u6 (hk_cons u7 (hk_cons u8 (hk_cons u9 (hk_cons u10 (hk_cons u11 (hk_cons u12 (hk_cons u13 (hk_cons u14 (hk_cons u15 (hk_cons u16 (hk_cons u17 (hk_cons u18 (hk_cons u19 (hk_cons u20 (hk_cons u21 (hk_cons u22 (hk_cons u23 (hk_cons u24 (hk_cons u25 (hk_cons u26 (hk_cons u27 (hk_cons u28 (hk_cons u29 (hk_nil)))))))))))))))))))))))))))))))
theorem fnq1 : (∀ (x0 x1 x2 x3 x4 x10 x11 x12 x13 x14 x20 x21 x22 x23 x24 x30 x31 x32 x33 x34 : Nat), EQ (fun P => [powC 2 (Int.ofNat x0) (Int.ofNat x10), divC (Int.neg (0)) (Int.ofNat x10) (Int.neg (Int.ofNat x20)), mulC (Int.neg (Int.neg (Int.ofNat x20))) (Int.ofNat x10) (Int.ofNat x30), powC 2 (Int.ofNat x1) (Int.ofNat x11), divC (Int.neg (Int.ofNat (x30 + x10))) (Int.ofNat x11) (Int.neg (Int.ofNat x21)), mulC (Int.neg (Int.neg (Int.ofNat x21))) (Int.ofNat x11) (Int.ofNat x31), powC 2 (Int.ofNat x2) (Int.ofNat x12), divC (Int.neg (Int.ofNat (x31 + x11))) (Int.ofNat x12) (Int.neg (Int.ofNat x22)), mulC (Int.neg (Int.neg (Int.ofNat x22))) (Int.ofNat x12) (Int.ofNat x32), powC 2 (Int.ofNat x3) (Int.ofNat x13), divC (Int.neg (Int.ofNat (x32 + x12))) (Int.ofNat x13) (Int.neg (Int.ofNat x23)), mulC (Int.neg (Int.neg (Int.ofNat x23))) (Int.ofNat x13) (Int.ofNat x33), powC 2 (Int.ofNat x4) (Int.ofNat x14), divC (Int.neg (Int.ofNat (x33 + x13))) (Int.ofNat x14) (Int.neg (Int.ofNat x24)), mulC (Int.neg (Int.neg (Int.ofNat x24))) (Int.ofNat x14) (Int.ofNat x34)]) (fun P => bloK x0 x1 x2 x3 x4 x30 x31 x32 x33 x34 (x34 + x14)) d687 d688 [10, 2] (fun β v τ => [β 10, β 2, τ 72 + 556, 5, τ 12 + 556, τ 26 + 556, τ 40 + 556, τ 54 + 556, τ 68 + 556]) (fun _ _ _ => [])) :=
  fun x0 x1 x2 x3 x4 x10 x11 x12 x13 x14 x20 x21 x22 x23 x24 x30 x31 x32 x33 x34 P β v τ γ σ => by kernel_rfl
theorem blo_ok (w : World) (x0 x1 x2 x3 x4 x10 x11 x12 x13 x14 x20 x21 x22 x23 x24 x30 x31 x32 x33 x34 : Nat) (u0 : OK w (powC 2 (Int.ofNat x0) (Int.ofNat x10))) (u1 : OK w (divC (Int.neg (0)) (Int.ofNat x10) (Int.neg (Int.ofNat x20)))) (u2 : OK w (mulC (Int.neg (Int.neg (Int.ofNat x20))) (Int.ofNat x10) (Int.ofNat x30))) (u3 : OK w (powC 2 (Int.ofNat x1) (Int.ofNat x11))) (u4 : OK w (divC (Int.neg (Int.ofNat (x30 + x10))) (Int.ofNat x11) (Int.neg (Int.ofNat x21)))) (u5 : OK w (mulC (Int.neg (Int.neg (Int.ofNat x21))) (Int.ofNat x11) (Int.ofNat x31))) (u6 : OK w (powC 2 (Int.ofNat x2) (Int.ofNat x12))) (u7 : OK w (divC (Int.neg (Int.ofNat (x31 + x11))) (Int.ofNat x12) (Int.neg (Int.ofNat x22)))) (u8 : OK w (mulC (Int.neg (Int.neg (Int.ofNat x22))) (Int.ofNat x12) (Int.ofNat x32))) (u9 : OK w (powC 2 (Int.ofNat x3) (Int.ofNat x13))) (u10 : OK w (divC (Int.neg (Int.ofNat (x32 + x12))) (Int.ofNat x13) (Int.neg (Int.ofNat x23)))) (u11 : OK w (mulC (Int.neg (Int.neg (Int.ofNat x23))) (Int.ofNat x13) (Int.ofNat x33))) (u12 : OK w (powC 2 (Int.ofNat x4) (Int.ofNat x14))) (u13 : OK w (divC (Int.neg (Int.ofNat (x33 + x13))) (Int.ofNat x14) (Int.neg (Int.ofNat x24)))) (u14 : OK w (mulC (Int.neg (Int.neg (Int.ofNat x24))) (Int.ofNat x14) (Int.ofNat x34))) : OK w (bloK x0 x1 x2 x3 x4 x30 x31 x32 x33 x34 (x34 + x14)) :=
  ok_of (fnq1 x0 x1 x2 x3 x4 x10 x11 x12 x13 x14 x20 x21 x22 x23 x24 x30 x31 x32 x33 x34) ⟨fun P => by kernel_rfl, fun P b v => by kernel_rfl, fun P b v t => by kernel_rfl, fun P b v => by kernel_rfl, fun P b v t => by kernel_rfl⟩ w (hk_cons u0 (hk_cons u1 (hk_cons u2 (hk_cons u3 (hk_cons u4 (hk_cons u5 (hk_cons u6 (hk_cons u7 (hk_cons u8 (hk_cons u9 (hk_cons u10 (hk_cons u11 (hk_cons u12 (hk_cons u13 (hk_cons u14 (hk_nil))))))))))))))))
theorem fnq2 : (∀ (x0 x1 x2 x3 x4 x5 : Nat) (F : Nat → Nat → Nat), EQ (fun P => [stK P 0 5 14 20 55 55 66 10 11 12 41 [12, 13] [2, 3, 4, 5, 6, 7, 11] [(x0, 0, 1), (x1, 1, 2), (x2, 2, 3), (x3, 3, 4), (x4, 4, 5)] 0 8 x5 F]) (fun P => folK x0 x1 x2 x3 x4 x5 F) d689 d690 [60, 19, 16, 20] (fun β v τ => [β 60, β 19, β 16, β 20, β 48, β 49, β 56, β 55, β 57, β 58, β 59, β 50, β 51, β 52, β 53, β 54]) (fun _ _ _ => [])) :=
  fun x0 x1 x2 x3 x4 x5 F P β v τ γ σ => by kernel_rfl
theorem fol_ok (w : World) (x0 x1 x2 x3 x4 x5 : Nat) (F : Nat → Nat → Nat) (hn : OK w (stK w.params 0 5 14 20 55 55 66 10 11 12 41 [12, 13] [2, 3, 4, 5, 6, 7, 11] [(x0, 0, 1), (x1, 1, 2), (x2, 2, 3), (x3, 3, 4), (x4, 4, 5)] 0 8 x5 F)) : OK w (folK x0 x1 x2 x3 x4 x5 F) :=
  ok_of (fnq2 x0 x1 x2 x3 x4 x5 F) ⟨fun P => by kernel_rfl, fun P b v => by kernel_rfl, fun P b v t => by kernel_rfl, fun P b v => by kernel_rfl, fun P b v t => by kernel_rfl⟩ w (hk_cons hn (hk_nil))
theorem seq0 : (∀ (x0 x1 x2 x3 x4 x5 : Nat) (y10 y11 y12 y13 y14 y15 y16 y17 y20 y21 y22 y23 y24 y25 y26 y27 y30 y31 y32 y33 y34 y35 y36 y37 y40 y41 y42 y43 y44 y45 y46 y47 y50 y51 y52 y53 y54 y55 y56 y57 : UInt64), EQ (fun P => [truC (Int.ofNat x0) (Int.ofNat x5) y10, hsvK y10 y11 y12 y13, rgbK y11 y12 y13 y14 y15 y16, fmuC y14 (Int.ofNat x5) y17, truC (Int.ofNat x1) (Int.ofNat x5) y20, hsvK y20 y21 y22 y23, rgbK y21 y22 y23 y24 y25 y26, fmuC y24 (Int.ofNat x5) y27, truC (Int.ofNat x2) (Int.ofNat x5) y30, hsvK y30 y31 y32 y33, rgbK y31 y32 y33 y34 y35 y36, fmuC y34 (Int.ofNat x5) y37, truC (Int.ofNat x3) (Int.ofNat x5) y40, hsvK y40 y41 y42 y43, rgbK y41 y42 y43 y44 y45 y46, fmuC y44 (Int.ofNat x5) y47, truC (Int.ofNat x4) (Int.ofNat x5) y50, hsvK y50 y51 y52 y53, rgbK y51 y52 y53 y54 y55 y56, fmuC y54 (Int.ofNat x5) y57]) (fun P => seeK x0 x1 x2 x3 x4 x5 y17 y27 y37 y47 y57) d691 d692 [2] (fun β v τ => [β 2, 5, τ 11 + 556, τ 20 + 556, τ 29 + 556, τ 38 + 556, τ 47 + 556]) (fun _ _ _ => [])) :=
  fun x0 x1 x2 x3 x4 x5 y10 y11 y12 y13 y14 y15 y16 y17 y20 y21 y22 y23 y24 y25 y26 y27 y30 y31 y32 y33 y34 y35 y36 y37 y40 y41 y42 y43 y44 y45 y46 y47 y50 y51 y52 y53 y54 y55 y56 y57 P β v τ γ σ => by kernel_rfl
theorem see_ok (w : World) (x0 x1 x2 x3 x4 x5 : Nat) (y10 y11 y12 y13 y14 y15 y16 y17 y20 y21 y22 y23 y24 y25 y26 y27 y30 y31 y32 y33 y34 y35 y36 y37 y40 y41 y42 y43 y44 y45 y46 y47 y50 y51 y52 y53 y54 y55 y56 y57 : UInt64) (u0 : OK w (truC (Int.ofNat x0) (Int.ofNat x5) y10)) (u1 : OK w (hsvK y10 y11 y12 y13)) (u2 : OK w (rgbK y11 y12 y13 y14 y15 y16)) (u3 : OK w (fmuC y14 (Int.ofNat x5) y17)) (u4 : OK w (truC (Int.ofNat x1) (Int.ofNat x5) y20)) (u5 : OK w (hsvK y20 y21 y22 y23)) (u6 : OK w (rgbK y21 y22 y23 y24 y25 y26)) (u7 : OK w (fmuC y24 (Int.ofNat x5) y27)) (u8 : OK w (truC (Int.ofNat x2) (Int.ofNat x5) y30)) (u9 : OK w (hsvK y30 y31 y32 y33)) (u10 : OK w (rgbK y31 y32 y33 y34 y35 y36)) (u11 : OK w (fmuC y34 (Int.ofNat x5) y37)) (u12 : OK w (truC (Int.ofNat x3) (Int.ofNat x5) y40)) (u13 : OK w (hsvK y40 y41 y42 y43)) (u14 : OK w (rgbK y41 y42 y43 y44 y45 y46)) (u15 : OK w (fmuC y44 (Int.ofNat x5) y47)) (u16 : OK w (truC (Int.ofNat x4) (Int.ofNat x5) y50)) (u17 : OK w (hsvK y50 y51 y52 y53)) (u18 : OK w (rgbK y51 y52 y53 y54 y55 y56)) (u19 : OK w (fmuC y54 (Int.ofNat x5) y57)) : OK w (seeK x0 x1 x2 x3 x4 x5 y17 y27 y37 y47 y57) :=
  ok_of (seq0 x0 x1 x2 x3 x4 x5 y10 y11 y12 y13 y14 y15 y16 y17 y20 y21 y22 y23 y24 y25 y26 y27 y30 y31 y32 y33 y34 y35 y36 y37 y40 y41 y42 y43 y44 y45 y46 y47 y50 y51 y52 y53 y54 y55 y56 y57) ⟨fun P => by kernel_rfl, fun P b v => by kernel_rfl, fun P b v t => by kernel_rfl, fun P b v => by kernel_rfl, fun P b v t => by kernel_rfl⟩ w (hk_cons u0 (hk_cons u1 (hk_cons u2 (hk_cons u3 (hk_cons u4 (hk_cons u5 (hk_cons u6 (hk_cons u7 (hk_cons u8 (hk_cons u9 (hk_cons u10 (hk_cons u11 (hk_cons u12 (hk_cons u13 (hk_cons u14 (hk_cons u15 (hk_cons u16 (hk_cons u17 (hk_cons u18 (hk_cons u19 (hk_nil)))))))))))))))))))))
theorem seq1 : (∀ (x0 x1 x2 x3 x4 x5 x6 x7 x8 x9 x10 x11 x12 x13 x14 x20 x21 x22 x23 x30 x31 x32 x40 : Nat) (y10 y11 y12 y13 y14 y15 y20 y21 y22 y23 y24 y25 y30 y31 y32 y33 y34 y35 y40 y41 y42 y43 y44 y45 : UInt64), EQ (fun P => [sorK false 7 [x0, x1, x2, x3, x4] [x5, x6, x7, x8, x9], truC (Int.ofNat x5) 8 y10, truC (Int.ofNat x6) 8 y11, rgbK y10 y11 y10 y12 y13 y14, frmC y14 8 y15, intK y15 x10, sorK false 6 [x7, x8, x9, (x10 + 1)] [x11, x12, x13, x14], truC (Int.ofNat x11) 8 y20, truC (Int.ofNat x12) 8 y21, rgbK y20 y21 y20 y22 y23 y24, frmC y24 8 y25, intK y25 x20, sorK false 5 [x13, x14, (x20 + 1)] [x21, x22, x23], truC (Int.ofNat x21) 8 y30, truC (Int.ofNat x22) 8 y31, rgbK y30 y31 y30 y32 y33 y34, frmC y34 8 y35, intK y35 x30, sorK false 4 [x23, (x30 + 1)] [x31, x32], truC (Int.ofNat x31) 8 y40, truC (Int.ofNat x32) 8 y41, rgbK y40 y41 y40 y42 y43 y44, frmC y44 8 y45, intK y45 x40, sorK false 3 [(x40 + 1)] [(x40 + 1)]]) (fun P => lamK x0 x1 x2 x3 x4 (x40 + 1)) d693 d694 [] (fun β v τ => [β 62]) (fun _ _ _ => [])) :=
  fun x0 x1 x2 x3 x4 x5 x6 x7 x8 x9 x10 x11 x12 x13 x14 x20 x21 x22 x23 x30 x31 x32 x40 y10 y11 y12 y13 y14 y15 y20 y21 y22 y23 y24 y25 y30 y31 y32 y33 y34 y35 y40 y41 y42 y43 y44 y45 P β v τ γ σ => by kernel_rfl
theorem lam_ok (w : World) (x0 x1 x2 x3 x4 x5 x6 x7 x8 x9 x10 x11 x12 x13 x14 x20 x21 x22 x23 x30 x31 x32 x40 : Nat) (y10 y11 y12 y13 y14 y15 y20 y21 y22 y23 y24 y25 y30 y31 y32 y33 y34 y35 y40 y41 y42 y43 y44 y45 : UInt64) (u0 : OK w (sorK false 7 [x0, x1, x2, x3, x4] [x5, x6, x7, x8, x9])) (u1 : OK w (truC (Int.ofNat x5) 8 y10)) (u2 : OK w (truC (Int.ofNat x6) 8 y11)) (u3 : OK w (rgbK y10 y11 y10 y12 y13 y14)) (u4 : OK w (frmC y14 8 y15)) (u5 : OK w (intK y15 x10)) (u6 : OK w (sorK false 6 [x7, x8, x9, (x10 + 1)] [x11, x12, x13, x14])) (u7 : OK w (truC (Int.ofNat x11) 8 y20)) (u8 : OK w (truC (Int.ofNat x12) 8 y21)) (u9 : OK w (rgbK y20 y21 y20 y22 y23 y24)) (u10 : OK w (frmC y24 8 y25)) (u11 : OK w (intK y25 x20)) (u12 : OK w (sorK false 5 [x13, x14, (x20 + 1)] [x21, x22, x23])) (u13 : OK w (truC (Int.ofNat x21) 8 y30)) (u14 : OK w (truC (Int.ofNat x22) 8 y31)) (u15 : OK w (rgbK y30 y31 y30 y32 y33 y34)) (u16 : OK w (frmC y34 8 y35)) (u17 : OK w (intK y35 x30)) (u18 : OK w (sorK false 4 [x23, (x30 + 1)] [x31, x32])) (u19 : OK w (truC (Int.ofNat x31) 8 y40)) (u20 : OK w (truC (Int.ofNat x32) 8 y41)) (u21 : OK w (rgbK y40 y41 y40 y42 y43 y44)) (u22 : OK w (frmC y44 8 y45)) (u23 : OK w (intK y45 x40)) (u24 : OK w (sorK false 3 [(x40 + 1)] [(x40 + 1)])) : OK w (lamK x0 x1 x2 x3 x4 (x40 + 1)) :=
  ok_of (seq1 x0 x1 x2 x3 x4 x5 x6 x7 x8 x9 x10 x11 x12 x13 x14 x20 x21 x22 x23 x30 x31 x32 x40 y10 y11 y12 y13 y14 y15 y20 y21 y22 y23 y24 y25 y30 y31 y32 y33 y34 y35 y40 y41 y42 y43 y44 y45) ⟨fun P => by kernel_rfl, fun P b v => by kernel_rfl, fun P b v t => by kernel_rfl, fun P b v => by kernel_rfl, fun P b v t => by kernel_rfl⟩ w (hk_cons u0 (hk_cons u1 (hk_cons u2 (hk_cons u3 (hk_cons u4 (hk_cons u5 (hk_cons u6 (hk_cons u7 (hk_cons u8 (hk_cons u9 (hk_cons u10 (hk_cons u11 (hk_cons u12 (hk_cons u13 (hk_cons u14 (hk_cons u15 (hk_cons u16 (hk_cons u17 (hk_cons u18 (hk_cons u19 (hk_cons u20 (hk_cons u21 (hk_cons u22 (hk_cons u23 (hk_cons u24 (hk_nil))))))))))))))))))))))))))
theorem laq0 : (∀ (x0 x1 x2 x3 x4 x5 x10 x11 x12 x13 x14 x15 x16 x20 x21 x22 x23 x24 x25 x30 x31 x32 x33 x34 : Nat) (F : Nat → Nat → Nat) (y0 y1 y2 y3 y4 : UInt64) (zr : List Value), EQ (fun P => [heiK zr [x0, x1, x2, x3, x4], folK x0 x1 x2 x3 x4 x5 F, bloK x0 x1 x2 x3 x4 x10 x11 x12 x13 x14 x15, lowK x0 x1 x2 x3 x4 x5, kneK x5 x5 false, douK x15 x5, neC (Int.ofNat x5) (Int.ofNat x5) false, powC 2 (Int.ofNat x5) (Int.ofNat x16), seeK (F 0 0) (F 1 0) (F 2 0) (F 3 0) (F 4 0) x16 y0 y1 y2 y3 y4, fneK y0 y1 y2 y3 y4 x10 x11 x12 x13 x14 false, lamK x0 x1 x2 x3 x4 x5, powC 2 (Int.ofNat x0) (Int.ofNat x20), powC 2 (Int.ofNat x1) (Int.ofNat x21), powC 2 (Int.ofNat x2) (Int.ofNat x22), powC 2 (Int.ofNat x3) (Int.ofNat x23), powC 2 (Int.ofNat x4) (Int.ofNat x24), sumK x25 [x20, x21, x22, x23, x24], douK x25 x5, sorK true 7 [x0, x1, x2, x3, x4] [x30, x31, x32, x33, x34], lowK x30 x31 x32 x33 x34 x5, eqC (Int.ofNat x5) (Int.ofNat x5) true]) (fun P => lawK zr) d695 d696 [] (fun β v τ => [β 15, β 16]) (fun _ _ _ => [])) :=
  fun x0 x1 x2 x3 x4 x5 x10 x11 x12 x13 x14 x15 x16 x20 x21 x22 x23 x24 x25 x30 x31 x32 x33 x34 F y0 y1 y2 y3 y4 zr P β v τ γ σ => by kernel_rfl
theorem law0_ok (w : World) (x0 x1 x2 x3 x4 x5 x10 x11 x12 x13 x14 x15 x16 x20 x21 x22 x23 x24 x25 x30 x31 x32 x33 x34 : Nat) (F : Nat → Nat → Nat) (y0 y1 y2 y3 y4 : UInt64) (zr : List Value) (u0 : OK w (heiK zr [x0, x1, x2, x3, x4])) (u1 : OK w (folK x0 x1 x2 x3 x4 x5 F)) (u2 : OK w (bloK x0 x1 x2 x3 x4 x10 x11 x12 x13 x14 x15)) (u3 : OK w (lowK x0 x1 x2 x3 x4 x5)) (u4 : OK w (kneK x5 x5 false)) (u5 : OK w (douK x15 x5)) (u6 : OK w (neC (Int.ofNat x5) (Int.ofNat x5) false)) (u7 : OK w (powC 2 (Int.ofNat x5) (Int.ofNat x16))) (u8 : OK w (seeK (F 0 0) (F 1 0) (F 2 0) (F 3 0) (F 4 0) x16 y0 y1 y2 y3 y4)) (u9 : OK w (fneK y0 y1 y2 y3 y4 x10 x11 x12 x13 x14 false)) (u10 : OK w (lamK x0 x1 x2 x3 x4 x5)) (u11 : OK w (powC 2 (Int.ofNat x0) (Int.ofNat x20))) (u12 : OK w (powC 2 (Int.ofNat x1) (Int.ofNat x21))) (u13 : OK w (powC 2 (Int.ofNat x2) (Int.ofNat x22))) (u14 : OK w (powC 2 (Int.ofNat x3) (Int.ofNat x23))) (u15 : OK w (powC 2 (Int.ofNat x4) (Int.ofNat x24))) (u16 : OK w (sumK x25 [x20, x21, x22, x23, x24])) (u17 : OK w (douK x25 x5)) (u18 : OK w (sorK true 7 [x0, x1, x2, x3, x4] [x30, x31, x32, x33, x34])) (u19 : OK w (lowK x30 x31 x32 x33 x34 x5)) (u20 : OK w (eqC (Int.ofNat x5) (Int.ofNat x5) true)) : OK w (lawK zr) :=
  ok_of (laq0 x0 x1 x2 x3 x4 x5 x10 x11 x12 x13 x14 x15 x16 x20 x21 x22 x23 x24 x25 x30 x31 x32 x33 x34 F y0 y1 y2 y3 y4 zr) ⟨fun P => by kernel_rfl, fun P b v => by kernel_rfl, fun P b v t => by kernel_rfl, fun P b v => by kernel_rfl, fun P b v t => by kernel_rfl⟩ w (hk_cons u0 (hk_cons u1 (hk_cons u2 (hk_cons u3 (hk_cons u4 (hk_cons u5 (hk_cons u6 (hk_cons u7 (hk_cons u8 (hk_cons u9 (hk_cons u10 (hk_cons u11 (hk_cons u12 (hk_cons u13 (hk_cons u14 (hk_cons u15 (hk_cons u16 (hk_cons u17 (hk_cons u18 (hk_cons u19 (hk_cons u20 (hk_nil))))))))))))))))))))))
theorem laq1 : (∀ (x0 x1 x2 x3 x4 x6 x10 x11 x12 x13 x14 x15 x16 x20 x21 x22 x23 x24 x25 x30 x31 x32 x33 x34 : Nat) (F : Nat → Nat → Nat) (y0 y1 y2 y3 y4 : UInt64) (zr : List Value), EQ (fun P => [heiK zr [x0, x1, x2, x3, x4], folK x0 x1 x2 x3 x4 (x6 + 1) F, bloK x0 x1 x2 x3 x4 x10 x11 x12 x13 x14 x15, lowK x0 x1 x2 x3 x4 (x6 + 1), kneK (x6 + 1) (x6 + 1) false, douK x15 (x6 + 1), neC (Int.ofNat (x6 + 1)) (Int.ofNat (x6 + 1)) false, powC 2 (Int.ofNat (x6 + 1)) (Int.ofNat x16), seeK (F 0 0) (F 1 0) (F 2 0) (F 3 0) (F 4 0) x16 y0 y1 y2 y3 y4, fneK y0 y1 y2 y3 y4 x10 x11 x12 x13 x14 false, lamK x0 x1 x2 x3 x4 x6, powC 2 (Int.ofNat x0) (Int.ofNat x20), powC 2 (Int.ofNat x1) (Int.ofNat x21), powC 2 (Int.ofNat x2) (Int.ofNat x22), powC 2 (Int.ofNat x3) (Int.ofNat x23), powC 2 (Int.ofNat x4) (Int.ofNat x24), sumK x25 [x20, x21, x22, x23, x24], douK x25 x6, neC (Int.ofNat x6) (Int.ofNat x6) false, sorK true 7 [x0, x1, x2, x3, x4] [x30, x31, x32, x33, x34], lowK x30 x31 x32 x33 x34 x6, eqC (Int.ofNat (x6 + 1)) (Int.ofNat x6) false, eqC (Int.ofNat (x6 + 1)) (Int.ofNat (x6 + 1)) true]) (fun P => lawK zr) d697 d698 [] (fun β v τ => [β 15, β 16]) (fun _ _ _ => [])) :=
  fun x0 x1 x2 x3 x4 x6 x10 x11 x12 x13 x14 x15 x16 x20 x21 x22 x23 x24 x25 x30 x31 x32 x33 x34 F y0 y1 y2 y3 y4 zr P β v τ γ σ => by kernel_rfl
theorem law1_ok (w : World) (x0 x1 x2 x3 x4 x6 x10 x11 x12 x13 x14 x15 x16 x20 x21 x22 x23 x24 x25 x30 x31 x32 x33 x34 : Nat) (F : Nat → Nat → Nat) (y0 y1 y2 y3 y4 : UInt64) (zr : List Value) (u0 : OK w (heiK zr [x0, x1, x2, x3, x4])) (u1 : OK w (folK x0 x1 x2 x3 x4 (x6 + 1) F)) (u2 : OK w (bloK x0 x1 x2 x3 x4 x10 x11 x12 x13 x14 x15)) (u3 : OK w (lowK x0 x1 x2 x3 x4 (x6 + 1))) (u4 : OK w (kneK (x6 + 1) (x6 + 1) false)) (u5 : OK w (douK x15 (x6 + 1))) (u6 : OK w (neC (Int.ofNat (x6 + 1)) (Int.ofNat (x6 + 1)) false)) (u7 : OK w (powC 2 (Int.ofNat (x6 + 1)) (Int.ofNat x16))) (u8 : OK w (seeK (F 0 0) (F 1 0) (F 2 0) (F 3 0) (F 4 0) x16 y0 y1 y2 y3 y4)) (u9 : OK w (fneK y0 y1 y2 y3 y4 x10 x11 x12 x13 x14 false)) (u10 : OK w (lamK x0 x1 x2 x3 x4 x6)) (u11 : OK w (powC 2 (Int.ofNat x0) (Int.ofNat x20))) (u12 : OK w (powC 2 (Int.ofNat x1) (Int.ofNat x21))) (u13 : OK w (powC 2 (Int.ofNat x2) (Int.ofNat x22))) (u14 : OK w (powC 2 (Int.ofNat x3) (Int.ofNat x23))) (u15 : OK w (powC 2 (Int.ofNat x4) (Int.ofNat x24))) (u16 : OK w (sumK x25 [x20, x21, x22, x23, x24])) (u17 : OK w (douK x25 x6)) (u18 : OK w (neC (Int.ofNat x6) (Int.ofNat x6) false)) (u19 : OK w (sorK true 7 [x0, x1, x2, x3, x4] [x30, x31, x32, x33, x34])) (u20 : OK w (lowK x30 x31 x32 x33 x34 x6)) (u21 : OK w (eqC (Int.ofNat (x6 + 1)) (Int.ofNat x6) false)) (u22 : OK w (eqC (Int.ofNat (x6 + 1)) (Int.ofNat (x6 + 1)) true)) : OK w (lawK zr) :=
  ok_of (laq1 x0 x1 x2 x3 x4 x6 x10 x11 x12 x13 x14 x15 x16 x20 x21 x22 x23 x24 x25 x30 x31 x32 x33 x34 F y0 y1 y2 y3 y4 zr) ⟨fun P => by kernel_rfl, fun P b v => by kernel_rfl, fun P b v t => by kernel_rfl, fun P b v => by kernel_rfl, fun P b v t => by kernel_rfl⟩ w (hk_cons u0 (hk_cons u1 (hk_cons u2 (hk_cons u3 (hk_cons u4 (hk_cons u5 (hk_cons u6 (hk_cons u7 (hk_cons u8 (hk_cons u9 (hk_cons u10 (hk_cons u11 (hk_cons u12 (hk_cons u13 (hk_cons u14 (hk_cons u15 (hk_cons u16 (hk_cons u17 (hk_cons u18 (hk_cons u19 (hk_cons u20 (hk_cons u21 (hk_cons u22 (hk_nil))))))))))))))))))))))))
theorem eeq0 : (∀ (x0 x1 x2 : Nat), EQ (fun P => [rngC x0 x1]) (fun P => endK P 38 40 47 57 68 6 7 8 27 [2, 3, 4, 5, 6, 7] x2 x0 (x1 + 1)) d699 d700 [] (fun β v τ => [v 14, x0, τ 0 + 556, v 17, v 19, v 18, v 20, v 21, v 22, v 23, v 24, v 25, v 26, v 28, v 27, v 29, v 31, v 30, v 32, v 34, v 33, v 35, v 37, v 36, x0 + 1, x1, v 9]) (fun _ _ _ => [])) :=
  fun x0 x1 x2 P β v τ γ σ => by kernel_rfl
theorem ste_ok (w : World) (x0 x1 x2 : Nat) : OK w (endK w.params 38 40 47 57 68 6 7 8 27 [2, 3, 4, 5, 6, 7] x2 x0 (x1 + 1)) :=
  ok_of (eeq0 x0 x1 x2) ⟨fun P => by kernel_rfl, fun P b v => by kernel_rfl, fun P b v t => by kernel_rfl, fun P b v => by kernel_rfl, fun P b v t => by kernel_rfl⟩ w (hk_cons rngC_ok (hk_nil))
theorem lt_t {a b : Nat} (h : a < b) : decide (Int.ofNat a < Int.ofNat b) = true := decide_eq_true (Int.ofNat_lt.mpr h)
theorem lt_f {a b : Nat} (h : ¬ a < b) : decide (Int.ofNat a < Int.ofNat b) = false := decide_eq_false fun q => h (Int.ofNat_lt.mp q)
noncomputable def mx (a b : Nat) : Nat := if a < b then b else a
noncomputable def mn (a b : Nat) : Nat := if b < a then b else a
theorem maxK_ok (w : World) (a b : Nat) : OK w (maxK a b (mx a b)) := by
  unfold mx
  split
  · rename_i h; exact max0_ok w a b (lt_t h)
  · rename_i h; exact max1_ok w a b (lt_f h)
theorem minK1 (w : World) (a : Nat) : OK w (minK [a] a) := min2_ok w a
theorem minK2 (w : World) (a b : Nat) : OK w (minK [a, b] (mn a b)) := by
  unfold mn
  split
  · rename_i h; exact min4_ok w a b (lt_t h)
  · rename_i h; exact min3_ok w a b (lt_f h)
theorem minK3 (w : World) (a b c : Nat) : OK w (minK [a, b, c] (mn (mn a b) c)) := by
  by_cases h : b < a
  · rw [show mn a b = b from if_pos h]
    by_cases h' : c < b
    · rw [show mn b c = c from if_pos h']; exact min8_ok w a b c (lt_t h) (lt_t h')
    · rw [show mn b c = b from if_neg h']; exact min6_ok w a b c (lt_t h) (lt_f h')
  · rw [show mn a b = a from if_neg h]
    by_cases h' : c < a
    · rw [show mn a c = c from if_pos h']; exact min7_ok w a b c (lt_f h) (lt_t h')
    · rw [show mn a c = a from if_neg h']; exact min5_ok w a b c (lt_f h) (lt_f h')
theorem minK4 (w : World) (a b c d : Nat) : OK w (minK [a, b, c, d] (mn (mn (mn a b) c) d)) := by
  by_cases h : b < a
  · rw [show mn a b = b from if_pos h]
    by_cases h' : c < b
    · rw [show mn b c = c from if_pos h']
      by_cases h2 : d < c
      · rw [show mn c d = d from if_pos h2]; exact min16_ok w a b c d (lt_t h) (lt_t h') (lt_t h2)
      · rw [show mn c d = c from if_neg h2]; exact min12_ok w a b c d (lt_t h) (lt_t h') (lt_f h2)
    · rw [show mn b c = b from if_neg h']
      by_cases h2 : d < b
      · rw [show mn b d = d from if_pos h2]; exact min14_ok w a b c d (lt_t h) (lt_f h') (lt_t h2)
      · rw [show mn b d = b from if_neg h2]; exact min10_ok w a b c d (lt_t h) (lt_f h') (lt_f h2)
  · rw [show mn a b = a from if_neg h]
    by_cases h' : c < a
    · rw [show mn a c = c from if_pos h']
      by_cases h2 : d < c
      · rw [show mn c d = d from if_pos h2]; exact min15_ok w a b c d (lt_f h) (lt_t h') (lt_t h2)
      · rw [show mn c d = c from if_neg h2]; exact min11_ok w a b c d (lt_f h) (lt_t h') (lt_f h2)
    · rw [show mn a c = a from if_neg h']
      by_cases h2 : d < a
      · rw [show mn a d = d from if_pos h2]; exact min13_ok w a b c d (lt_f h) (lt_f h') (lt_t h2)
      · rw [show mn a d = a from if_neg h2]; exact min9_ok w a b c d (lt_f h) (lt_f h') (lt_f h2)
noncomputable def lo2 (a b : Nat) : Nat := 1 + mx a b
noncomputable def lo3 (a b c : Nat) : Nat := mn (1 + mx a (lo2 b c)) (1 + mx (lo2 a b) c)
noncomputable def lo4 (a b c d : Nat) : Nat := mn (mn (1 + mx a (lo3 b c d)) (1 + mx (lo2 a b) (lo2 c d))) (1 + mx (lo3 a b c) d)
noncomputable def lo5 (a b c d e : Nat) : Nat := mn (mn (mn (1 + mx a (lo4 b c d e)) (1 + mx (lo2 a b) (lo3 c d e))) (1 + mx (lo3 a b c) (lo2 d e))) (1 + mx (lo4 a b c d) e)
theorem low_all (w : World) (a b c d e : Nat) : OK w (lowK a b c d e (lo5 a b c d e)) := by
  refine low_ok w a b c d e (x102 := lo2 a b) (x113 := lo2 b c) (x124 := lo2 c d) (x135 := lo2 d e) (x103 := lo3 a b c) (x114 := lo3 b c d) (x125 := lo3 c d e) (x104 := lo4 a b c d) (x115 := lo4 b c d e) (x105 := lo5 a b c d e)
    (x212 := mx a b) (x323 := mx b c) (x434 := mx c d) (x545 := mx d e) (x213 := mx a (lo2 b c)) (x223 := mx (lo2 a b) c) (x324 := mx b (lo2 c d)) (x334 := mx (lo2 b c) d) (x435 := mx c (lo2 d e)) (x445 := mx (lo2 c d) e)
    (x214 := mx a (lo3 b c d)) (x224 := mx (lo2 a b) (lo2 c d)) (x234 := mx (lo3 a b c) d) (x325 := mx b (lo3 c d e)) (x335 := mx (lo2 b c) (lo2 d e)) (x345 := mx (lo3 b c d) e)
    (x215 := mx a (lo4 b c d e)) (x225 := mx (lo2 a b) (lo3 c d e)) (x235 := mx (lo3 a b c) (lo2 d e)) (x245 := mx (lo4 a b c d) e) ?_ ?_ ?_ ?_ ?_ ?_ ?_ ?_ ?_ ?_ ?_ ?_ ?_ ?_ ?_ ?_ ?_ ?_ ?_ ?_ ?_ ?_ ?_ ?_ ?_ ?_ ?_ ?_ ?_ ?_
  all_goals first
    | exact maxK_ok w _ _
    | exact minK1 w _
    | exact minK2 w _ _
    | exact minK3 w _ _ _
    | exact minK4 w _ _ _ _
/-- the blocks in order: each from a multiple of its size on -/
noncomputable def ceilD (e p : Nat) : Nat := (e + p - 1) / p
theorem div_all : ∀ e < 100, ∀ h < 5, ¬ ((Int.ofNat (2 ^ h)) == 0) = true ∧ ¬ (Builtin.divisionGoesByPylong (Int.neg (Int.ofNat e)) (Int.ofNat (2 ^ h))) = true ∧ (Int.neg (Int.ofNat e)).fdiv (Int.ofNat (2 ^ h)) = Int.neg (Int.ofNat (ceilD e (2 ^ h))) := by decide +kernel
theorem divG (w : World) {e h : Nat} (he : e < 100) (hh : h < 5) : OK w (divC (Int.neg (Int.ofNat e)) (Int.ofNat (2 ^ h)) (Int.neg (Int.ofNat (ceilD e (2 ^ h))))) :=
  divC_ok (div_all e he h hh).1 (div_all e he h hh).2.1 (div_all e he h hh).2.2
theorem bits_all : ∀ h < 5, Builtin.Int.intBits (Int.ofNat (2 ^ h)) ≤ 64 := by decide +kernel
theorem mulG (w : World) {h : Nat} (q : Nat) (hh : h < 5) : OK w (mulC (Int.neg (Int.neg (Int.ofNat q))) (Int.ofNat (2 ^ h)) (Int.ofNat (q * 2 ^ h))) :=
  mulC_ok (IntMulOk.of_right (bits_all h hh)) (by
    show (- - (q : Int)) * ((2 ^ h : Nat) : Int) = ((q * 2 ^ h : Nat) : Int)
    rw [Int.neg_neg, Int.natCast_mul])
theorem powG (w : World) {h : Nat} (hh : h < 5) : OK w (powC 2 (Int.ofNat h) (Int.ofNat (2 ^ h))) := powC_ok (pow_fits (by omega)) (pow_nat h)
noncomputable def bl (e h : Nat) : Nat := ceilD e (2 ^ h) * 2 ^ h
theorem blo_all (w : World) {a b c d e : Nat} (ha : a < 5) (hb : b < 5) (hc : c < 5) (hd : d < 5) (he : e < 5) {y0 y1 y2 y3 y4 : Nat}
    (h0 : bl 0 a = y0) (h1 : bl (y0 + 2 ^ a) b = y1) (h2 : bl (y1 + 2 ^ b) c = y2) (h3 : bl (y2 + 2 ^ c) d = y3) (h4 : bl (y3 + 2 ^ d) e = y4)
    (l0 : y0 + 2 ^ a < 100) (l1 : y1 + 2 ^ b < 100) (l2 : y2 + 2 ^ c < 100) (l3 : y3 + 2 ^ d < 100) : OK w (bloK a b c d e y0 y1 y2 y3 y4 (y4 + 2 ^ e)) := by
  subst h0 h1 h2 h3 h4
  exact blo_ok w (x0 := a) (x1 := b) (x2 := c) (x3 := d) (x4 := e) (x10 := 2 ^ a) (x11 := 2 ^ b) (x12 := 2 ^ c) (x13 := 2 ^ d) (x14 := 2 ^ e) (u0 := powG w ha) (u1 := divG w (by decide) ha) (u2 := mulG w _ ha) (u3 := powG w hb) (u4 := divG w l0 hb) (u5 := mulG w _ hb)
    (u6 := powG w hc) (u7 := divG w l1 hc) (u8 := mulG w _ hc) (u9 := powG w hd) (u10 := divG w l2 hd) (u11 := mulG w _ hd) (u12 := powG w he) (u13 := divG w l3 he) (u14 := mulG w _ he)
/-- two lamps a, b (a at most b): the mixed value is b -/
noncomputable def LampP (w : World) (a b : Nat) : Prop := ∃ fa fb h s v p, OK w (truC (Int.ofNat a) 8 fa) ∧ OK w (truC (Int.ofNat b) 8 fb) ∧ OK w (rgbK fa fb fa h s v) ∧ OK w (frmC v 8 p) ∧ OK w (intK p b)
/-- what is seen of a begin b out of W: f -/
noncomputable def SeenP (w : World) (b W : Nat) (f : UInt64) : Prop := ∃ q r g b' h s v, OK w (truC (Int.ofNat b) (Int.ofNat W) q) ∧ OK w (hsvK q r g b') ∧ OK w (rgbK r g b' h s v) ∧ OK w (fmuC h (Int.ofNat W) f)
theorem see_all (w : World) {b0 b1 b2 b3 b4 W : Nat} {f0 f1 f2 f3 f4 : UInt64} (p0 : SeenP w b0 W f0) (p1 : SeenP w b1 W f1) (p2 : SeenP w b2 W f2) (p3 : SeenP w b3 W f3) (p4 : SeenP w b4 W f4) :
    OK w (seeK b0 b1 b2 b3 b4 W f0 f1 f2 f3 f4) := by
  obtain ⟨q0, r0, g0, c0, h0, s0, v0, a1, a2, a3, a4⟩ := p0
  obtain ⟨q1, r1, g1, c1, h1, s1, v1, b1', b2', b3', b4'⟩ := p1
  obtain ⟨q2, r2, g2, c2, h2, s2, v2, d1, d2, d3, d4⟩ := p2
  obtain ⟨q3, r3, g3, c3, h3, s3, v3, e1, e2, e3, e4⟩ := p3
  obtain ⟨q4, r4, g4, c4, h4, s4, v4, k1, k2, k3, k4⟩ := p4
  exact see_ok w (u0 := a1) (u1 := a2) (u2 := a3) (u3 := a4) (u4 := b1') (u5 := b2') (u6 := b3') (u7 := b4') (u8 := d1) (u9 := d2) (u10 := d3) (u11 := d4) (u12 := e1) (u13 := e2) (u14 := e3) (u15 := e4) (u16 := k1) (u17 := k2) (u18 := k3) (u19 := k4)
noncomputable def srAll : List SR := [⟨0, [(0, 1), (1, 2), (2, 3), (3, 4), (4, 5)], [false, false, false, false, false]⟩,
  ⟨0, [(0, 1), (1, 2), (2, 3), (3, 4), (4, 5)], [true, false, false, false, false]⟩,
  ⟨0, [(0, 1), (1, 2), (2, 3), (3, 4), (4, 5)], [false, true, false, false, false]⟩,
  ⟨0, [(0, 1), (1, 2), (2, 3), (3, 4), (4, 5)], [true, true, false, false, false]⟩,
  ⟨0, [(0, 1), (1, 2), (2, 3), (3, 4), (4, 5)], [false, false, true, false, false]⟩,
  ⟨0, [(0, 1), (1, 2), (2, 3), (3, 4), (4, 5)], [true, false, true, false, false]⟩,
  ⟨0, [(0, 1), (1, 2), (2, 3), (3, 4), (4, 5)], [false, true, true, false, false]⟩,
  ⟨0, [(0, 1), (1, 2), (2, 3), (3, 4), (4, 5)], [true, true, true, false, false]⟩,
  ⟨0, [(0, 1), (1, 2), (2, 3), (3, 4), (4, 5)], [false, false, false, true, false]⟩,
  ⟨0, [(0, 1), (1, 2), (2, 3), (3, 4), (4, 5)], [true, false, false, true, false]⟩,
  ⟨0, [(0, 1), (1, 2), (2, 3), (3, 4), (4, 5)], [false, true, false, true, false]⟩,
  ⟨0, [(0, 1), (1, 2), (2, 3), (3, 4), (4, 5)], [true, true, false, true, false]⟩,
  ⟨0, [(0, 1), (1, 2), (2, 3), (3, 4), (4, 5)], [false, false, true, true, false]⟩,
  ⟨0, [(0, 1), (1, 2), (2, 3), (3, 4), (4, 5)], [true, false, true, true, false]⟩,
  ⟨0, [(0, 1), (1, 2), (2, 3), (3, 4), (4, 5)], [false, true, true, true, false]⟩,
  ⟨0, [(0, 1), (1, 2), (2, 3), (3, 4), (4, 5)], [true, true, true, true, false]⟩,
  ⟨0, [(0, 1), (1, 2), (2, 3), (3, 4), (4, 5)], [false, false, false, false, true]⟩,
  ⟨0, [(0, 1), (1, 2), (2, 3), (3, 4), (4, 5)], [true, false, false, false, true]⟩,
  ⟨0, [(0, 1), (1, 2), (2, 3), (3, 4), (4, 5)], [false, true, false, false, true]⟩,
  ⟨0, [(0, 1), (1, 2), (2, 3), (3, 4), (4, 5)], [true, true, false, false, true]⟩,
  ⟨0, [(0, 1), (1, 2), (2, 3), (3, 4), (4, 5)], [false, false, true, false, true]⟩,
  ⟨0, [(0, 1), (1, 2), (2, 3), (3, 4), (4, 5)], [true, false, true, false, true]⟩,
  ⟨0, [(0, 1), (1, 2), (2, 3), (3, 4), (4, 5)], [false, true, true, false, true]⟩,
  ⟨0, [(0, 1), (1, 2), (2, 3), (3, 4), (4, 5)], [true, true, true, false, true]⟩,
  ⟨0, [(0, 1), (1, 2), (2, 3), (3, 4), (4, 5)], [false, false, false, true, true]⟩,
  ⟨0, [(0, 1), (1, 2), (2, 3), (3, 4), (4, 5)], [true, false, false, true, true]⟩,
  ⟨0, [(0, 1), (1, 2), (2, 3), (3, 4), (4, 5)], [false, true, false, true, true]⟩,
  ⟨0, [(0, 1), (1, 2), (2, 3), (3, 4), (4, 5)], [true, true, false, true, true]⟩,
  ⟨0, [(0, 1), (1, 2), (2, 3), (3, 4), (4, 5)], [false, false, true, true, true]⟩,
  ⟨0, [(0, 1), (1, 2), (2, 3), (3, 4), (4, 5)], [true, false, true, true, true]⟩,
  ⟨0, [(0, 1), (1, 2), (2, 3), (3, 4), (4, 5)], [false, true, true, true, true]⟩,
  ⟨0, [(0, 1), (1, 2), (2, 3), (3, 4), (4, 5)], [true, true, true, true, true]⟩,
  ⟨1, [(0, 1), (1, 2), (2, 3), (3, 4), (4, 5)], [false, false, false, false, false]⟩,
  ⟨1, [(0, 1), (1, 2), (2, 3), (3, 4), (4, 5)], [true, false, false, false, false]⟩,
  ⟨1, [(0, 1), (1, 2), (2, 3), (3, 4), (4, 5)], [false, true, false, false, false]⟩,
  ⟨1, [(0, 1), (1, 2), (2, 3), (3, 4), (4, 5)], [true, true, false, false, false]⟩,
  ⟨1, [(0, 1), (1, 2), (2, 3), (3, 4), (4, 5)], [false, false, true, false, false]⟩,
  ⟨1, [(0, 1), (1, 2), (2, 3), (3, 4), (4, 5)], [true, false, true, false, false]⟩,
  ⟨1, [(0, 1), (1, 2), (2, 3), (3, 4), (4, 5)], [false, true, true, false, false]⟩,
  ⟨1, [(0, 1), (1, 2), (2, 3), (3, 4), (4, 5)], [true, true, true, false, false]⟩,
  ⟨1, [(0, 1), (1, 2), (2, 3), (3, 4), (4, 5)], [false, false, false, true, false]⟩,
  ⟨1, [(0, 1), (1, 2), (2, 3), (3, 4), (4, 5)], [true, false, false, true, false]⟩,
  ⟨1, [(0, 1), (1, 2), (2, 3), (3, 4), (4, 5)], [false, true, false, true, false]⟩,
  ⟨1, [(0, 1), (1, 2), (2, 3), (3, 4), (4, 5)], [true, true, false, true, false]⟩,
  ⟨1, [(0, 1), (1, 2), (2, 3), (3, 4), (4, 5)], [false, false, true, true, false]⟩,
  ⟨1, [(0, 1), (1, 2), (2, 3), (3, 4), (4, 5)], [true, false, true, true, false]⟩,
  ⟨1, [(0, 1), (1, 2), (2, 3), (3, 4), (4, 5)], [false, true, true, true, false]⟩,
  ⟨1, [(0, 1), (1, 2), (2, 3), (3, 4), (4, 5)], [true, true, true, true, false]⟩,
  ⟨1, [(0, 1), (1, 2), (2, 3), (3, 4), (4, 5)], [false, false, false, false, true]⟩,
  ⟨1, [(0, 1), (1, 2), (2, 3), (3, 4), (4, 5)], [true, false, false, false, true]⟩,
  ⟨1, [(0, 1), (1, 2), (2, 3), (3, 4), (4, 5)], [false, true, false, false, true]⟩,
  ⟨1, [(0, 1), (1, 2), (2, 3), (3, 4), (4, 5)], [true, true, false, false, true]⟩,
  ⟨1, [(0, 1), (1, 2), (2, 3), (3, 4), (4, 5)], [false, false, true, false, true]⟩,
  ⟨1, [(0, 1), (1, 2), (2, 3), (3, 4), (4, 5)], [true, false, true, false, true]⟩,
  ⟨1, [(0, 1), (1, 2), (2, 3), (3, 4), (4, 5)], [false, true, true, false, true]⟩,
  ⟨1, [(0, 1), (1, 2), (2, 3), (3, 4), (4, 5)], [true, true, true, false, true]⟩,
  ⟨1, [(0, 1), (1, 2), (2, 3), (3, 4), (4, 5)], [false, false, false, true, true]⟩,
  ⟨1, [(0, 1), (1, 2), (2, 3), (3, 4), (4, 5)], [true, false, false, true, true]⟩,
  ⟨1, [(0, 1), (1, 2), (2, 3), (3, 4), (4, 5)], [false, true, false, true, true]⟩,
  ⟨1, [(0, 1), (1, 2), (2, 3), (3, 4), (4, 5)], [true, true, false, true, true]⟩,
  ⟨1, [(0, 1), (1, 2), (2, 3), (3, 4), (4, 5)], [false, false, true, true, true]⟩,
  ⟨1, [(0, 1), (1, 2), (2, 3), (3, 4), (4, 5)], [true, false, true, true, true]⟩,
  ⟨1, [(0, 1), (1, 2), (2, 3), (3, 4), (4, 5)], [false, true, true, true, true]⟩,
  ⟨1, [(0, 1), (1, 2), (2, 3), (3, 4), (4, 5)], [true, true, true, true, true]⟩,
  ⟨2, [(0, 2), (2, 3), (3, 4), (4, 5)], [true, false, false, false]⟩,
  ⟨2, [(0, 2), (2, 3), (3, 4), (4, 5)], [true, true, false, false]⟩,
  ⟨2, [(0, 2), (2, 3), (3, 4), (4, 5)], [true, false, true, false]⟩,
  ⟨2, [(0, 2), (2, 3), (3, 4), (4, 5)], [true, true, true, false]⟩,
  ⟨2, [(0, 2), (2, 3), (3, 4), (4, 5)], [true, false, false, true]⟩,
  ⟨2, [(0, 2), (2, 3), (3, 4), (4, 5)], [true, true, false, true]⟩,
  ⟨2, [(0, 2), (2, 3), (3, 4), (4, 5)], [true, false, true, true]⟩,
  ⟨2, [(0, 2), (2, 3), (3, 4), (4, 5)], [true, true, true, true]⟩,
  ⟨2, [(0, 1), (1, 3), (3, 4), (4, 5)], [false, true, false, false]⟩,
  ⟨2, [(0, 1), (1, 3), (3, 4), (4, 5)], [true, true, false, false]⟩,
  ⟨2, [(0, 1), (1, 3), (3, 4), (4, 5)], [false, true, true, false]⟩,
  ⟨2, [(0, 1), (1, 3), (3, 4), (4, 5)], [true, true, true, false]⟩,
  ⟨2, [(0, 1), (1, 3), (3, 4), (4, 5)], [false, true, false, true]⟩,
  ⟨2, [(0, 1), (1, 3), (3, 4), (4, 5)], [true, true, false, true]⟩,
  ⟨2, [(0, 1), (1, 3), (3, 4), (4, 5)], [false, true, true, true]⟩,
  ⟨2, [(0, 1), (1, 3), (3, 4), (4, 5)], [true, true, true, true]⟩,
  ⟨2, [(0, 1), (1, 2), (2, 4), (4, 5)], [false, false, true, false]⟩,
  ⟨2, [(0, 1), (1, 2), (2, 4), (4, 5)], [true, false, true, false]⟩,
  ⟨2, [(0, 1), (1, 2), (2, 4), (4, 5)], [false, true, true, false]⟩,
  ⟨2, [(0, 1), (1, 2), (2, 4), (4, 5)], [true, true, true, false]⟩,
  ⟨2, [(0, 1), (1, 2), (2, 4), (4, 5)], [false, false, true, true]⟩,
  ⟨2, [(0, 1), (1, 2), (2, 4), (4, 5)], [true, false, true, true]⟩,
  ⟨2, [(0, 1), (1, 2), (2, 4), (4, 5)], [false, true, true, true]⟩,
  ⟨2, [(0, 1), (1, 2), (2, 4), (4, 5)], [true, true, true, true]⟩,
  ⟨2, [(0, 2), (2, 4), (4, 5)], [true, true, false]⟩,
  ⟨2, [(0, 2), (2, 4), (4, 5)], [true, true, true]⟩,
  ⟨2, [(0, 1), (1, 2), (2, 3), (3, 5)], [false, false, false, true]⟩,
  ⟨2, [(0, 1), (1, 2), (2, 3), (3, 5)], [true, false, false, true]⟩,
  ⟨2, [(0, 1), (1, 2), (2, 3), (3, 5)], [false, true, false, true]⟩,
  ⟨2, [(0, 1), (1, 2), (2, 3), (3, 5)], [true, true, false, true]⟩,
  ⟨2, [(0, 1), (1, 2), (2, 3), (3, 5)], [false, false, true, true]⟩,
  ⟨2, [(0, 1), (1, 2), (2, 3), (3, 5)], [true, false, true, true]⟩,
  ⟨2, [(0, 1), (1, 2), (2, 3), (3, 5)], [false, true, true, true]⟩,
  ⟨2, [(0, 1), (1, 2), (2, 3), (3, 5)], [true, true, true, true]⟩,
  ⟨2, [(0, 2), (2, 3), (3, 5)], [true, false, true]⟩,
  ⟨2, [(0, 2), (2, 3), (3, 5)], [true, true, true]⟩,
  ⟨2, [(0, 1), (1, 3), (3, 5)], [false, true, true]⟩,
  ⟨2, [(0, 1), (1, 3), (3, 5)], [true, true, true]⟩,
  ⟨2, [(0, 3), (3, 4), (4, 5)], [true, false, false]⟩,
  ⟨2, [(0, 3), (3, 4), (4, 5)], [true, true, false]⟩,
  ⟨2, [(0, 3), (3, 4), (4, 5)], [true, false, true]⟩,
  ⟨2, [(0, 3), (3, 4), (4, 5)], [true, true, true]⟩,
  ⟨2, [(0, 3), (3, 5)], [true, true]⟩,
  ⟨2, [(0, 1), (1, 4), (4, 5)], [false, true, false]⟩,
  ⟨2, [(0, 1), (1, 4), (4, 5)], [true, true, false]⟩,
  ⟨2, [(0, 1), (1, 4), (4, 5)], [false, true, true]⟩,
  ⟨2, [(0, 1), (1, 4), (4, 5)], [true, true, true]⟩,
  ⟨2, [(0, 1), (1, 2), (2, 5)], [false, false, true]⟩,
  ⟨2, [(0, 1), (1, 2), (2, 5)], [true, false, true]⟩,
  ⟨2, [(0, 1), (1, 2), (2, 5)], [false, true, true]⟩,
  ⟨2, [(0, 1), (1, 2), (2, 5)], [true, true, true]⟩,
  ⟨2, [(0, 2), (2, 5)], [true, true]⟩,
  ⟨2, [(0, 4), (4, 5)], [true, false]⟩,
  ⟨2, [(0, 4), (4, 5)], [true, true]⟩,
  ⟨2, [(0, 1), (1, 5)], [false, true]⟩,
  ⟨2, [(0, 1), (1, 5)], [true, true]⟩]
noncomputable def hsOf (L : Nat) (kn : List (Nat × Nat × Nat)) (i : Nat) : Nat := if (kn.getD i (0, 0, 0)).1 = L then L + 1 else (kn.getD i (0, 0, 0)).1
theorem hsOf_ne (L : Nat) (kn : List (Nat × Nat × Nat)) (i : Nat) : hsOf L kn i ≠ L := by
  unfold hsOf
  split
  · omega
  · assumption
theorem knS_eq (L : Nat) (hs : Nat → Nat) : ∀ (kn : List (Nat × Nat × Nat)) (i : Nat), (∀ j, j < kn.length → (kn.getD j (0, 0, 0)).1 ≠ L → hs (i + j) = (kn.getD j (0, 0, 0)).1) → knS L hs i (kn.map fun k => k.2) (patP L kn) = kn
  | [], _, _ => rfl
  | (h, f, l) :: kn, i, H => by
    have ih := knS_eq L hs kn (i + 1) fun j hj hn => by
      have := H (j + 1) (by simpa using hj) (by simpa using hn)
      rw [show i + 1 + j = i + (j + 1) from by omega]
      simpa using this
    show ((match (h == L) with | true => L | false => hs i, f, l) :: knS L hs (i + 1) (kn.map fun k => k.2) (patP L kn)) = _
    rw [ih]
    congr 1
    cases hb : h == L with
    | true => rw [eq_of_beq hb]
    | false =>
      have := H 0 (by simp) (by simpa using hb)
      simp at this
      rw [this]

/-! ## every state whose merged knots are words is a row -/
noncomputable def chn : Nat → List (Nat × Nat) → Bool
  | s, [] => Nat.beq s 5
  | s, (f, l) :: sp => Nat.beq f s && Nat.blt s l && chn l sp
noncomputable def mok : List (Nat × Nat) → List Bool → Bool
  | [], [] => true
  | (f, l) :: sp, b :: pt => (b || Nat.beq l (f + 1)) && mok sp pt
  | _, _ => false
noncomputable def okS (kind : Nat) (sp : List (Nat × Nat)) (pt : List Bool) : Bool := chn 0 sp && mok sp pt && (match Nat.beq sp.length 5 with
  | true => Nat.blt kind 2
  | false => Nat.beq kind 2 && Nat.blt 1 sp.length)
noncomputable def comps : Nat → Nat → List (List (Nat × Nat))
  | 0, s => if s = 5 then [[]] else []
  | n + 1, s => if s = 5 then [[]] else (List.range 6).flatMap fun l => if s < l then (comps n l).map fun c => (s, l) :: c else []
theorem chn_le : ∀ (s : Nat) (sp : List (Nat × Nat)), chn s sp = true → s ≤ 5
  | s, [], h => Nat.le_of_eq (Nat.eq_of_beq_eq_true h)
  | s, (f, l) :: sp, h => by
    simp only [chn, Bool.and_eq_true] at h
    have := chn_le l sp h.2
    have h2 : s < l := Nat.le_of_ble_eq_true h.1.2
    omega
theorem chn_comps : ∀ (n s : Nat) (sp : List (Nat × Nat)), 5 ≤ n + s → chn s sp = true → sp ∈ comps n s
  | n, s, [], hn, h => by
    have : s = 5 := Nat.eq_of_beq_eq_true h
    subst this
    cases n <;> simp [comps]
  | n, s, (f, l) :: sp, hn, h => by
    simp only [chn, Bool.and_eq_true] at h
    obtain ⟨⟨h1, h2⟩, h3⟩ := h
    have h1 : f = s := Nat.eq_of_beq_eq_true h1
    have h2 : s < l := Nat.le_of_ble_eq_true h2
    subst h1
    have l5 := chn_le l sp h3
    cases n with
    | zero => omega
    | succ n =>
      have ih := chn_comps n l sp (by omega) h3
      rw [comps, if_neg (by omega)]
      refine List.mem_flatMap.mpr ⟨l, List.mem_range.mpr (by omega), ?_⟩
      rw [if_pos h2]
      exact List.mem_map.mpr ⟨sp, ih, rfl⟩
noncomputable def bls : Nat → List (List Bool)
  | 0 => [[]]
  | n + 1 => (bls n).flatMap fun l => [false :: l, true :: l]
theorem mem_bls : ∀ (l : List Bool), l ∈ bls l.length
  | [] => List.mem_singleton.mpr rfl
  | b :: l => List.mem_flatMap.mpr ⟨l, mem_bls l, by cases b <;> simp⟩
theorem mok_len : ∀ (sp : List (Nat × Nat)) (pt : List Bool), mok sp pt = true → pt.length = sp.length
  | [], [], _ => rfl
  | [], _ :: _, h => by cases h
  | (_, _) :: _, [], h => by cases h
  | (_, _) :: sp, _ :: pt, h => by
    simp only [mok, Bool.and_eq_true] at h
    rw [List.length_cons, List.length_cons, mok_len sp pt h.2]
theorem rows_all : ((comps 5 0).all fun sp => (bls sp.length).all fun pt => (List.range 3).all fun kind => !okS kind sp pt || srAll.any fun r => r.kind == kind && r.sp == sp && r.pat == pt) = true := by decide +kernel
theorem okS_mem {kind : Nat} {sp : List (Nat × Nat)} {pt : List Bool} (h : okS kind sp pt = true) : ⟨kind, sp, pt⟩ ∈ srAll := by
  have h' := h
  unfold okS at h
  simp only [Bool.and_eq_true] at h
  obtain ⟨⟨h1, h2⟩, h3⟩ := h
  have k3 : kind < 3 := by
    split at h3
    · have : kind < 2 := Nat.le_of_ble_eq_true h3; omega
    · rw [Bool.and_eq_true] at h3
      have := Nat.eq_of_beq_eq_true h3.1; omega
  have a := List.all_eq_true.mp rows_all sp (chn_comps 5 0 sp (by omega) h1)
  have a := List.all_eq_true.mp a pt (mok_len sp pt h2 ▸ mem_bls pt)
  have a := List.all_eq_true.mp a kind (List.mem_range.mpr k3)
  rw [h', Bool.not_true, Bool.false_or] at a
  obtain ⟨r, hr, e⟩ := List.any_eq_true.mp a
  simp only [Bool.and_eq_true] at e
  obtain ⟨⟨e1, e2⟩, e3⟩ := e
  have f1 := eq_of_beq e1
  have f2 := eq_of_beq e2
  have f3 := eq_of_beq e3
  obtain ⟨rk, rs, rp⟩ := r
  simp only at f1 f2 f3
  rw [← f1, ← f2, ← f3]
  exact hr
/-- the fold over the levels -/
noncomputable def goF : Nat → Nat → Nat → List (Nat × Nat × Nat) → Option (Nat × (Nat → Nat → Nat))
  | 0, _, _, _ => none
  | n + 1, kind, L, kn => match Nat.blt L 8 with
    | false => none
    | true => match kn with
      | [(h, f, l)] => match Nat.beq kind 2 && (Nat.beq f 0 && Nat.beq l 5) with
        | true => some (h, fun _ z => z)
        | false => none
      | kn => match okS kind (kn.map fun k => k.2) (patP L kn) with
        | false => none
        | true => match goF n (SR.nkind ⟨kind, kn.map fun k => k.2, patP L kn⟩) (L + 1) (stepP (L + 1) kn (rowsP (patP L kn))).1 with
          | none => none
          | some p => some (p.1, addF (stepP (L + 1) kn (rowsP (patP L kn))).2 (2 ^ L) p.2)
theorem nkind_pos (r : SR) : r.nkind ≠ 0 := by
  unfold SR.nkind
  split <;> decide
noncomputable abbrev p0 : List (Nat × Nat) := [(0, 1), (1, 2), (2, 3), (3, 4), (4, 5)]
theorem sw0 : SR0 ⟨0, p0, [ff, ff, ff, ff, ff]⟩ d375 d376 [49, 50] n88 ∧ SR0 ⟨0, p0, [tt, ff, ff, ff, ff]⟩ d377 d378 [55, 56] n89 ∧ SR0 ⟨0, p0, [ff, tt, ff, ff, ff]⟩ d379 d380 [55, 56] n89 ∧ SR0 ⟨0, p0, [tt, tt, ff, ff, ff]⟩ d381 d382 [57, 58] n90 ∧ SR0 ⟨0, p0, [ff, ff, tt, ff, ff]⟩ d383 d384 [55, 56] n89 := ⟨fun _ _ _ _ _ _ _ _ _ => by kernel_rfl, fun _ _ _ _ _ _ _ _ _ => by kernel_rfl, fun _ _ _ _ _ _ _ _ _ => by kernel_rfl, fun _ _ _ _ _ _ _ _ _ => by kernel_rfl, fun _ _ _ _ _ _ _ _ _ => by kernel_rfl⟩
noncomputable def sq0 := sr0 sw0.1 r0 rfl rfl
noncomputable def sq1 := sr0 sw0.2.1 r1 rfl rfl
noncomputable def sq2 := sr0 sw0.2.2.1 r2 rfl rfl
noncomputable def sq3 := sr0 sw0.2.2.2.1 r3 rfl rfl
noncomputable def sq4 := sr0 sw0.2.2.2.2 r4 rfl rfl
theorem sw1 : SR0 ⟨0, p0, [tt, ff, tt, ff, ff]⟩ d385 d386 [61, 62] n91 ∧ SR0 ⟨0, p0, [ff, tt, tt, ff, ff]⟩ d387 d388 [57, 58] n90 ∧ SR0 ⟨0, p0, [tt, tt, tt, ff, ff]⟩ d389 d390 [63, 64] n92 ∧ SR0 ⟨0, p0, [ff, ff, ff, tt, ff]⟩ d391 d392 [55, 56] n89 ∧ SR0 ⟨0, p0, [tt, ff, ff, tt, ff]⟩ d393 d394 [61, 62] n91 := ⟨fun _ _ _ _ _ _ _ _ _ => by kernel_rfl, fun _ _ _ _ _ _ _ _ _ => by kernel_rfl, fun _ _ _ _ _ _ _ _ _ => by kernel_rfl, fun _ _ _ _ _ _ _ _ _ => by kernel_rfl, fun _ _ _ _ _ _ _ _ _ => by kernel_rfl⟩
noncomputable def sq5 := sr0 sw1.1 r5 rfl rfl
noncomputable def sq6 := sr0 sw1.2.1 r6 rfl rfl
noncomputable def sq7 := sr0 sw1.2.2.1 r7 rfl rfl
noncomputable def sq8 := sr0 sw1.2.2.2.1 r8 rfl rfl
noncomputable def sq9 := sr0 sw1.2.2.2.2 r9 rfl rfl
theorem sw2 : SR0 ⟨0, p0, [ff, tt, ff, tt, ff]⟩ d395 d396 [61, 62] n91 ∧ SR0 ⟨0, p0, [tt, tt, ff, tt, ff]⟩ d397 d398 [63, 64] n92 ∧ SR0 ⟨0, p0, [ff, ff, tt, tt, ff]⟩ d399 d400 [57, 58] n90 ∧ SR0 ⟨0, p0, [tt, ff, tt, tt, ff]⟩ d401 d402 [63, 64] n92 ∧ SR0 ⟨0, p0, [ff, tt, tt, tt, ff]⟩ d403 d404 [63, 64] n92 := ⟨fun _ _ _ _ _ _ _ _ _ => by kernel_rfl, fun _ _ _ _ _ _ _ _ _ => by kernel_rfl, fun _ _ _ _ _ _ _ _ _ => by kernel_rfl, fun _ _ _ _ _ _ _ _ _ => by kernel_rfl, fun _ _ _ _ _ _ _ _ _ => by kernel_rfl⟩
noncomputable def sq10 := sr0 sw2.1 r10 rfl rfl
noncomputable def sq11 := sr0 sw2.2.1 r11 rfl rfl
noncomputable def sq12 := sr0 sw2.2.2.1 r12 rfl rfl
noncomputable def sq13 := sr0 sw2.2.2.2.1 r13 rfl rfl
noncomputable def sq14 := sr0 sw2.2.2.2.2 r14 rfl rfl
theorem sw3 : SR0 ⟨0, p0, [tt, tt, tt, tt, ff]⟩ d405 d406 [65, 66] n93 ∧ SR0 ⟨0, p0, [ff, ff, ff, ff, tt]⟩ d407 d408 [55, 56] n89 ∧ SR0 ⟨0, p0, [tt, ff, ff, ff, tt]⟩ d409 d410 [61, 62] n91 ∧ SR0 ⟨0, p0, [ff, tt, ff, ff, tt]⟩ d411 d412 [61, 62] n91 ∧ SR0 ⟨0, p0, [tt, tt, ff, ff, tt]⟩ d413 d414 [63, 64] n92 := ⟨fun _ _ _ _ _ _ _ _ _ => by kernel_rfl, fun _ _ _ _ _ _ _ _ _ => by kernel_rfl, fun _ _ _ _ _ _ _ _ _ => by kernel_rfl, fun _ _ _ _ _ _ _ _ _ => by kernel_rfl, fun _ _ _ _ _ _ _ _ _ => by kernel_rfl⟩
noncomputable def sq15 := sr0 sw3.1 r15 rfl rfl
noncomputable def sq16 := sr0 sw3.2.1 r16 rfl rfl
noncomputable def sq17 := sr0 sw3.2.2.1 r17 rfl rfl
noncomputable def sq18 := sr0 sw3.2.2.2.1 r18 rfl rfl
noncomputable def sq19 := sr0 sw3.2.2.2.2 r19 rfl rfl
theorem sw4 : SR0 ⟨0, p0, [ff, ff, tt, ff, tt]⟩ d415 d416 [61, 62] n91 ∧ SR0 ⟨0, p0, [tt, ff, tt, ff, tt]⟩ d417 d418 [67, 68] n94 ∧ SR0 ⟨0, p0, [ff, tt, tt, ff, tt]⟩ d419 d420 [63, 64] n92 ∧ SR0 ⟨0, p0, [tt, tt, tt, ff, tt]⟩ d421 d422 [69, 70] n95 ∧ SR0 ⟨0, p0, [ff, ff, ff, tt, tt]⟩ d423 d424 [57, 58] n90 := ⟨fun _ _ _ _ _ _ _ _ _ => by kernel_rfl, fun _ _ _ _ _ _ _ _ _ => by kernel_rfl, fun _ _ _ _ _ _ _ _ _ => by kernel_rfl, fun _ _ _ _ _ _ _ _ _ => by kernel_rfl, fun _ _ _ _ _ _ _ _ _ => by kernel_rfl⟩
noncomputable def sq20 := sr0 sw4.1 r20 rfl rfl
noncomputable def sq21 := sr0 sw4.2.1 r21 rfl rfl
noncomputable def sq22 := sr0 sw4.2.2.1 r22 rfl rfl
noncomputable def sq23 := sr0 sw4.2.2.2.1 r23 rfl rfl
noncomputable def sq24 := sr0 sw4.2.2.2.2 r24 rfl rfl
theorem sw5 : SR0 ⟨0, p0, [tt, ff, ff, tt, tt]⟩ d425 d426 [63, 64] n92 ∧ SR0 ⟨0, p0, [ff, tt, ff, tt, tt]⟩ d427 d428 [63, 64] n92 ∧ SR0 ⟨0, p0, [tt, tt, ff, tt, tt]⟩ d429 d430 [65, 66] n93 ∧ SR0 ⟨0, p0, [ff, ff, tt, tt, tt]⟩ d431 d432 [63, 64] n92 := ⟨fun _ _ _ _ _ _ _ _ _ => by kernel_rfl, fun _ _ _ _ _ _ _ _ _ => by kernel_rfl, fun _ _ _ _ _ _ _ _ _ => by kernel_rfl, fun _ _ _ _ _ _ _ _ _ => by kernel_rfl⟩
noncomputable def sq25 := sr0 sw5.1 r25 rfl rfl
noncomputable def sq26 := sr0 sw5.2.1 r26 rfl rfl
noncomputable def sq27 := sr0 sw5.2.2.1 r27 rfl rfl
noncomputable def sq28 := sr0 sw5.2.2.2 r28 rfl rfl
theorem sw6 : SR0 ⟨0, p0, [tt, ff, tt, tt, tt]⟩ d433 d434 [69, 70] n95 ∧ SR0 ⟨0, p0, [ff, tt, tt, tt, tt]⟩ d435 d436 [65, 66] n93 ∧ SR0 ⟨0, p0, [tt, tt, tt, tt, tt]⟩ d437 d438 [71, 72] n96 ∧ SR1 ⟨1, p0, [ff, ff, ff, ff, ff]⟩ d439 d440 [49, 50] n97 ∧ SR1 ⟨1, p0, [tt, ff, ff, ff, ff]⟩ d441 d442 [55, 56] n98 := ⟨fun _ _ _ _ _ _ _ _ _ => by kernel_rfl, fun _ _ _ _ _ _ _ _ _ => by kernel_rfl, fun _ _ _ _ _ _ _ _ _ => by kernel_rfl, fun _ _ _ _ _ _ _ _ _ _ _ _ => by kernel_rfl, fun _ _ _ _ _ _ _ _ _ _ _ _ => by kernel_rfl⟩
noncomputable def sq29 := sr0 sw6.1 r29 rfl rfl
noncomputable def sq30 := sr0 sw6.2.1 r30 rfl rfl
noncomputable def sq31 := sr0 sw6.2.2.1 r31 rfl rfl
noncomputable def sq32 := sr1 sw6.2.2.2.1 r32 rfl rfl
noncomputable def sq33 := sr1 sw6.2.2.2.2 r33 rfl rfl
theorem sw7 : SR1 ⟨1, p0, [ff, tt, ff, ff, ff]⟩ d443 d444 [55, 56] n98 ∧ SR1 ⟨1, p0, [tt, tt, ff, ff, ff]⟩ d445 d446 [57, 58] n99 ∧ SR1 ⟨1, p0, [ff, ff, tt, ff, ff]⟩ d447 d448 [55, 56] n98 ∧ SR1 ⟨1, p0, [tt, ff, tt, ff, ff]⟩ d449 d450 [61, 62] n100 ∧ SR1 ⟨1, p0, [ff, tt, tt, ff, ff]⟩ d451 d452 [57, 58] n99 := ⟨fun _ _ _ _ _ _ _ _ _ _ _ _ => by kernel_rfl, fun _ _ _ _ _ _ _ _ _ _ _ _ => by kernel_rfl, fun _ _ _ _ _ _ _ _ _ _ _ _ => by kernel_rfl, fun _ _ _ _ _ _ _ _ _ _ _ _ => by kernel_rfl, fun _ _ _ _ _ _ _ _ _ _ _ _ => by kernel_rfl⟩
noncomputable def sq34 := sr1 sw7.1 r34 rfl rfl
noncomputable def sq35 := sr1 sw7.2.1 r35 rfl rfl
noncomputable def sq36 := sr1 sw7.2.2.1 r36 rfl rfl
noncomputable def sq37 := sr1 sw7.2.2.2.1 r37 rfl rfl
noncomputable def sq38 := sr1 sw7.2.2.2.2 r38 rfl rfl
theorem sw8 : SR1 ⟨1, p0, [tt, tt, tt, ff, ff]⟩ d453 d454 [63, 64] n101 ∧ SR1 ⟨1, p0, [ff, ff, ff, tt, ff]⟩ d455 d456 [55, 56] n98 ∧ SR1 ⟨1, p0, [tt, ff, ff, tt, ff]⟩ d457 d458 [61, 62] n100 ∧ SR1 ⟨1, p0, [ff, tt, ff, tt, ff]⟩ d459 d460 [61, 62] n100 ∧ SR1 ⟨1, p0, [tt, tt, ff, tt, ff]⟩ d461 d462 [63, 64] n101 := ⟨fun _ _ _ _ _ _ _ _ _ _ _ _ => by kernel_rfl, fun _ _ _ _ _ _ _ _ _ _ _ _ => by kernel_rfl, fun _ _ _ _ _ _ _ _ _ _ _ _ => by kernel_rfl, fun _ _ _ _ _ _ _ _ _ _ _ _ => by kernel_rfl, fun _ _ _ _ _ _ _ _ _ _ _ _ => by kernel_rfl⟩
noncomputable def sq39 := sr1 sw8.1 r39 rfl rfl
noncomputable def sq40 := sr1 sw8.2.1 r40 rfl rfl
noncomputable def sq41 := sr1 sw8.2.2.1 r41 rfl rfl
noncomputable def sq42 := sr1 sw8.2.2.2.1 r42 rfl rfl
noncomputable def sq43 := sr1 sw8.2.2.2.2 r43 rfl rfl
theorem sw9 : SR1 ⟨1, p0, [ff, ff, tt, tt, ff]⟩ d463 d464 [57, 58] n99 ∧ SR1 ⟨1, p0, [tt, ff, tt, tt, ff]⟩ d465 d466 [63, 64] n101 ∧ SR1 ⟨1, p0, [ff, tt, tt, tt, ff]⟩ d467 d468 [63, 64] n101 ∧ SR1 ⟨1, p0, [tt, tt, tt, tt, ff]⟩ d469 d470 [65, 66] n102 ∧ SR1 ⟨1, p0, [ff, ff, ff, ff, tt]⟩ d471 d472 [55, 56] n98 := ⟨fun _ _ _ _ _ _ _ _ _ _ _ _ => by kernel_rfl, fun _ _ _ _ _ _ _ _ _ _ _ _ => by kernel_rfl, fun _ _ _ _ _ _ _ _ _ _ _ _ => by kernel_rfl, fun _ _ _ _ _ _ _ _ _ _ _ _ => by kernel_rfl, fun _ _ _ _ _ _ _ _ _ _ _ _ => by kernel_rfl⟩
noncomputable def sq44 := sr1 sw9.1 r44 rfl rfl
noncomputable def sq45 := sr1 sw9.2.1 r45 rfl rfl
noncomputable def sq46 := sr1 sw9.2.2.1 r46 rfl rfl
noncomputable def sq47 := sr1 sw9.2.2.2.1 r47 rfl rfl
noncomputable def sq48 := sr1 sw9.2.2.2.2 r48 rfl rfl
theorem sw10 : SR1 ⟨1, p0, [tt, ff, ff, ff, tt]⟩ d473 d474 [61, 62] n100 ∧ SR1 ⟨1, p0, [ff, tt, ff, ff, tt]⟩ d475 d476 [61, 62] n100 ∧ SR1 ⟨1, p0, [tt, tt, ff, ff, tt]⟩ d477 d478 [63, 64] n101 ∧ SR1 ⟨1, p0, [ff, ff, tt, ff, tt]⟩ d479 d480 [61, 62] n100 ∧ SR1 ⟨1, p0, [tt, ff, tt, ff, tt]⟩ d481 d482 [67, 68] n103 := ⟨fun _ _ _ _ _ _ _ _ _ _ _ _ => by kernel_rfl, fun _ _ _ _ _ _ _ _ _ _ _ _ => by kernel_rfl, fun _ _ _ _ _ _ _ _ _ _ _ _ => by kernel_rfl, fun _ _ _ _ _ _ _ _ _ _ _ _ => by kernel_rfl, fun _ _ _ _ _ _ _ _ _ _ _ _ => by kernel_rfl⟩
noncomputable def sq49 := sr1 sw10.1 r49 rfl rfl
noncomputable def sq50 := sr1 sw10.2.1 r50 rfl rfl
noncomputable def sq51 := sr1 sw10.2.2.1 r51 rfl rfl
noncomputable def sq52 := sr1 sw10.2.2.2.1 r52 rfl rfl
noncomputable def sq53 := sr1 sw10.2.2.2.2 r53 rfl rfl
theorem sw11 : SR1 ⟨1, p0, [ff, tt, tt, ff, tt]⟩ d483 d484 [63, 64] n101 ∧ SR1 ⟨1, p0, [tt, tt, tt, ff, tt]⟩ d485 d486 [69, 70] n104 ∧ SR1 ⟨1, p0, [ff, ff, ff, tt, tt]⟩ d487 d488 [57, 58] n99 ∧ SR1 ⟨1, p0, [tt, ff, ff, tt, tt]⟩ d489 d490 [63, 64] n101 ∧ SR1 ⟨1, p0, [ff, tt, ff, tt, tt]⟩ d491 d492 [63, 64] n101 := ⟨fun _ _ _ _ _ _ _ _ _ _ _ _ => by kernel_rfl, fun _ _ _ _ _ _ _ _ _ _ _ _ => by kernel_rfl, fun _ _ _ _ _ _ _ _ _ _ _ _ => by kernel_rfl, fun _ _ _ _ _ _ _ _ _ _ _ _ => by kernel_rfl, fun _ _ _ _ _ _ _ _ _ _ _ _ => by kernel_rfl⟩
noncomputable def sq54 := sr1 sw11.1 r54 rfl rfl
noncomputable def sq55 := sr1 sw11.2.1 r55 rfl rfl
noncomputable def sq56 := sr1 sw11.2.2.1 r56 rfl rfl
noncomputable def sq57 := sr1 sw11.2.2.2.1 r57 rfl rfl
noncomputable def sq58 := sr1 sw11.2.2.2.2 r58 rfl rfl
theorem sw12 : SR1 ⟨1, p0, [tt, tt, ff, tt, tt]⟩ d493 d494 [65, 66] n102 ∧ SR1 ⟨1, p0, [ff, ff, tt, tt, tt]⟩ d495 d496 [63, 64] n101 ∧ SR1 ⟨1, p0, [tt, ff, tt, tt, tt]⟩ d497 d498 [69, 70] n104 ∧ SR1 ⟨1, p0, [ff, tt, tt, tt, tt]⟩ d499 d500 [65, 66] n102 := ⟨fun _ _ _ _ _ _ _ _ _ _ _ _ => by kernel_rfl, fun _ _ _ _ _ _ _ _ _ _ _ _ => by kernel_rfl, fun _ _ _ _ _ _ _ _ _ _ _ _ => by kernel_rfl, fun _ _ _ _ _ _ _ _ _ _ _ _ => by kernel_rfl⟩
noncomputable def sq59 := sr1 sw12.1 r59 rfl rfl
noncomputable def sq60 := sr1 sw12.2.1 r60 rfl rfl
noncomputable def sq61 := sr1 sw12.2.2.1 r61 rfl rfl
noncomputable def sq62 := sr1 sw12.2.2.2 r62 rfl rfl
noncomputable abbrev p1 : List (Nat × Nat) := [(0, 2), (2, 3), (3, 4), (4, 5)]
theorem sw13 : SR1 ⟨1, p0, [tt, tt, tt, tt, tt]⟩ d501 d502 [71, 72] n105 ∧ SR1 ⟨2, p1, [tt, ff, ff, ff]⟩ d503 d504 [49, 50] n97 ∧ SR1 ⟨2, p1, [tt, tt, ff, ff]⟩ d505 d506 [51, 52] n106 ∧ SR1 ⟨2, p1, [tt, ff, tt, ff]⟩ d507 d508 [55, 56] n98 ∧ SR1 ⟨2, p1, [tt, tt, tt, ff]⟩ d509 d510 [57, 58] n99 := ⟨fun _ _ _ _ _ _ _ _ _ _ _ _ => by kernel_rfl, fun _ _ _ _ _ _ _ _ _ _ _ _ => by kernel_rfl, fun _ _ _ _ _ _ _ _ _ _ _ _ => by kernel_rfl, fun _ _ _ _ _ _ _ _ _ _ _ _ => by kernel_rfl, fun _ _ _ _ _ _ _ _ _ _ _ _ => by kernel_rfl⟩
noncomputable def sq63 := sr1 sw13.1 r63 rfl rfl
noncomputable def sq64 := sr1 sw13.2.1 r64 rfl rfl
noncomputable def sq65 := sr1 sw13.2.2.1 r65 rfl rfl
noncomputable def sq66 := sr1 sw13.2.2.2.1 r66 rfl rfl
noncomputable def sq67 := sr1 sw13.2.2.2.2 r67 rfl rfl
noncomputable abbrev p2 : List (Nat × Nat) := [(0, 1), (1, 3), (3, 4), (4, 5)]
theorem sw14 : SR1 ⟨2, p1, [tt, ff, ff, tt]⟩ d511 d512 [55, 56] n98 ∧ SR1 ⟨2, p1, [tt, tt, ff, tt]⟩ d513 d514 [57, 58] n99 ∧ SR1 ⟨2, p1, [tt, ff, tt, tt]⟩ d515 d516 [57, 58] n99 ∧ SR1 ⟨2, p1, [tt, tt, tt, tt]⟩ d517 d518 [59, 60] n107 ∧ SR1 ⟨2, p2, [ff, tt, ff, ff]⟩ d519 d520 [49, 50] n97 ∧ SR1 ⟨2, p2, [tt, tt, ff, ff]⟩ d521 d522 [51, 52] n106 := ⟨fun _ _ _ _ _ _ _ _ _ _ _ _ => by kernel_rfl, fun _ _ _ _ _ _ _ _ _ _ _ _ => by kernel_rfl, fun _ _ _ _ _ _ _ _ _ _ _ _ => by kernel_rfl, fun _ _ _ _ _ _ _ _ _ _ _ _ => by kernel_rfl, fun _ _ _ _ _ _ _ _ _ _ _ _ => by kernel_rfl, fun _ _ _ _ _ _ _ _ _ _ _ _ => by kernel_rfl⟩
noncomputable def sq68 := sr1 sw14.1 r68 rfl rfl
noncomputable def sq69 := sr1 sw14.2.1 r69 rfl rfl
noncomputable def sq70 := sr1 sw14.2.2.1 r70 rfl rfl
noncomputable def sq71 := sr1 sw14.2.2.2.1 r71 rfl rfl
noncomputable def sq72 := sr1 sw14.2.2.2.2.1 r72 rfl rfl
noncomputable def sq73 := sr1 sw14.2.2.2.2.2 r65 rfl rfl
theorem sw15 : SR1 ⟨2, p2, [ff, tt, tt, ff]⟩ d523 d524 [51, 52] n106 ∧ SR1 ⟨2, p2, [tt, tt, tt, ff]⟩ d525 d526 [57, 58] n99 ∧ SR1 ⟨2, p2, [ff, tt, ff, tt]⟩ d527 d528 [55, 56] n98 ∧ SR1 ⟨2, p2, [tt, tt, ff, tt]⟩ d529 d530 [57, 58] n99 ∧ SR1 ⟨2, p2, [ff, tt, tt, tt]⟩ d531 d532 [57, 58] n99 := ⟨fun _ _ _ _ _ _ _ _ _ _ _ _ => by kernel_rfl, fun _ _ _ _ _ _ _ _ _ _ _ _ => by kernel_rfl, fun _ _ _ _ _ _ _ _ _ _ _ _ => by kernel_rfl, fun _ _ _ _ _ _ _ _ _ _ _ _ => by kernel_rfl, fun _ _ _ _ _ _ _ _ _ _ _ _ => by kernel_rfl⟩
noncomputable def sq74 := sr1 sw15.1 r73 rfl rfl
noncomputable def sq75 := sr1 sw15.2.1 r67 rfl rfl
noncomputable def sq76 := sr1 sw15.2.2.1 r74 rfl rfl
noncomputable def sq77 := sr1 sw15.2.2.2.1 r69 rfl rfl
noncomputable def sq78 := sr1 sw15.2.2.2.2 r75 rfl rfl
noncomputable abbrev p3 : List (Nat × Nat) := [(0, 1), (1, 2), (2, 4), (4, 5)]
theorem sw16 : SR1 ⟨2, p2, [tt, tt, tt, tt]⟩ d533 d534 [59, 60] n107 ∧ SR1 ⟨2, p3, [ff, ff, tt, ff]⟩ d535 d536 [49, 50] n97 ∧ SR1 ⟨2, p3, [tt, ff, tt, ff]⟩ d507 d508 [55, 56] n98 ∧ SR1 ⟨2, p3, [ff, tt, tt, ff]⟩ d537 d538 [51, 52] n106 ∧ SR1 ⟨2, p3, [tt, tt, tt, ff]⟩ d509 d510 [57, 58] n99 ∧ SR1 ⟨2, p3, [ff, ff, tt, tt]⟩ d539 d540 [51, 52] n106 := ⟨fun _ _ _ _ _ _ _ _ _ _ _ _ => by kernel_rfl, fun _ _ _ _ _ _ _ _ _ _ _ _ => by kernel_rfl, fun _ _ _ _ _ _ _ _ _ _ _ _ => by kernel_rfl, fun _ _ _ _ _ _ _ _ _ _ _ _ => by kernel_rfl, fun _ _ _ _ _ _ _ _ _ _ _ _ => by kernel_rfl, fun _ _ _ _ _ _ _ _ _ _ _ _ => by kernel_rfl⟩
noncomputable def sq79 := sr1 sw16.1 r71 rfl rfl
noncomputable def sq80 := sr1 sw16.2.1 r76 rfl rfl
noncomputable def sq81 := sr1 sw16.2.2.1 r66 rfl rfl
noncomputable def sq82 := sr1 sw16.2.2.2.1 r73 rfl rfl
noncomputable def sq83 := sr1 sw16.2.2.2.2.1 r67 rfl rfl
noncomputable def sq84 := sr1 sw16.2.2.2.2.2 r77 rfl rfl
noncomputable abbrev p4 : List (Nat × Nat) := [(0, 2), (2, 4), (4, 5)]
noncomputable abbrev p5 : List (Nat × Nat) := [(0, 1), (1, 2), (2, 3), (3, 5)]
theorem sw17 : SR1 ⟨2, p3, [tt, ff, tt, tt]⟩ d515 d516 [57, 58] n99 ∧ SR1 ⟨2, p3, [ff, tt, tt, tt]⟩ d541 d542 [57, 58] n99 ∧ SR1 ⟨2, p3, [tt, tt, tt, tt]⟩ d517 d518 [59, 60] n107 ∧ SR1 ⟨2, p4, [tt, tt, ff]⟩ d543 d544 [45, 46] n108 ∧ SR1 ⟨2, p4, [tt, tt, tt]⟩ d545 d546 [51, 52] n106 ∧ SR1 ⟨2, p5, [ff, ff, ff, tt]⟩ d547 d548 [49, 50] n97 := ⟨fun _ _ _ _ _ _ _ _ _ _ _ _ => by kernel_rfl, fun _ _ _ _ _ _ _ _ _ _ _ _ => by kernel_rfl, fun _ _ _ _ _ _ _ _ _ _ _ _ => by kernel_rfl, fun _ _ _ _ _ _ _ _ _ _ _ _ => by kernel_rfl, fun _ _ _ _ _ _ _ _ _ _ _ _ => by kernel_rfl, fun _ _ _ _ _ _ _ _ _ _ _ _ => by kernel_rfl⟩
noncomputable def sq85 := sr1 sw17.1 r70 rfl rfl
noncomputable def sq86 := sr1 sw17.2.1 r75 rfl rfl
noncomputable def sq87 := sr1 sw17.2.2.1 r71 rfl rfl
noncomputable def sq88 := sr1 sw17.2.2.2.1 r78 rfl rfl
noncomputable def sq89 := sr1 sw17.2.2.2.2.1 r79 rfl rfl
noncomputable def sq90 := sr1 sw17.2.2.2.2.2 r80 rfl rfl
theorem sw18 : SR1 ⟨2, p5, [tt, ff, ff, tt]⟩ d511 d512 [55, 56] n98 ∧ SR1 ⟨2, p5, [ff, tt, ff, tt]⟩ d527 d528 [55, 56] n98 ∧ SR1 ⟨2, p5, [tt, tt, ff, tt]⟩ d513 d514 [57, 58] n99 ∧ SR1 ⟨2, p5, [ff, ff, tt, tt]⟩ d549 d550 [51, 52] n106 ∧ SR1 ⟨2, p5, [tt, ff, tt, tt]⟩ d551 d552 [57, 58] n99 := ⟨fun _ _ _ _ _ _ _ _ _ _ _ _ => by kernel_rfl, fun _ _ _ _ _ _ _ _ _ _ _ _ => by kernel_rfl, fun _ _ _ _ _ _ _ _ _ _ _ _ => by kernel_rfl, fun _ _ _ _ _ _ _ _ _ _ _ _ => by kernel_rfl, fun _ _ _ _ _ _ _ _ _ _ _ _ => by kernel_rfl⟩
noncomputable def sq91 := sr1 sw18.1 r68 rfl rfl
noncomputable def sq92 := sr1 sw18.2.1 r74 rfl rfl
noncomputable def sq93 := sr1 sw18.2.2.1 r69 rfl rfl
noncomputable def sq94 := sr1 sw18.2.2.2.1 r77 rfl rfl
noncomputable def sq95 := sr1 sw18.2.2.2.2 r70 rfl rfl
noncomputable abbrev p6 : List (Nat × Nat) := [(0, 2), (2, 3), (3, 5)]
noncomputable abbrev p7 : List (Nat × Nat) := [(0, 1), (1, 3), (3, 5)]
theorem sw19 : SR1 ⟨2, p5, [ff, tt, tt, tt]⟩ d531 d532 [57, 58] n99 ∧ SR1 ⟨2, p5, [tt, tt, tt, tt]⟩ d553 d554 [59, 60] n107 ∧ SR1 ⟨2, p6, [tt, ff, tt]⟩ d555 d556 [49, 50] n97 ∧ SR1 ⟨2, p6, [tt, tt, tt]⟩ d557 d558 [51, 52] n106 ∧ SR1 ⟨2, p7, [ff, tt, tt]⟩ d559 d560 [45, 46] n108 ∧ SR1 ⟨2, p7, [tt, tt, tt]⟩ d545 d546 [51, 52] n106 := ⟨fun _ _ _ _ _ _ _ _ _ _ _ _ => by kernel_rfl, fun _ _ _ _ _ _ _ _ _ _ _ _ => by kernel_rfl, fun _ _ _ _ _ _ _ _ _ _ _ _ => by kernel_rfl, fun _ _ _ _ _ _ _ _ _ _ _ _ => by kernel_rfl, fun _ _ _ _ _ _ _ _ _ _ _ _ => by kernel_rfl, fun _ _ _ _ _ _ _ _ _ _ _ _ => by kernel_rfl⟩
noncomputable def sq96 := sr1 sw19.1 r75 rfl rfl
noncomputable def sq97 := sr1 sw19.2.1 r71 rfl rfl
noncomputable def sq98 := sr1 sw19.2.2.1 r81 rfl rfl
noncomputable def sq99 := sr1 sw19.2.2.2.1 r79 rfl rfl
noncomputable def sq100 := sr1 sw19.2.2.2.2.1 r82 rfl rfl
noncomputable def sq101 := sr1 sw19.2.2.2.2.2 r79 rfl rfl
noncomputable abbrev p8 : List (Nat × Nat) := [(0, 3), (3, 4), (4, 5)]
noncomputable abbrev p9 : List (Nat × Nat) := [(0, 3), (3, 5)]
noncomputable abbrev p10 : List (Nat × Nat) := [(0, 1), (1, 4), (4, 5)]
theorem sw20 : SR1 ⟨2, p8, [tt, ff, ff]⟩ d561 d562 [43, 44] n109 ∧ SR1 ⟨2, p8, [tt, tt, ff]⟩ d563 d564 [45, 46] n108 ∧ SR1 ⟨2, p8, [tt, ff, tt]⟩ d555 d556 [49, 50] n97 ∧ SR1 ⟨2, p8, [tt, tt, tt]⟩ d557 d558 [51, 52] n106 ∧ SRL 3 d565 d566 [9, 36] n110 ∧ SR1 ⟨2, p10, [ff, tt, ff]⟩ d567 d568 [43, 44] n109 ∧ SR1 ⟨2, p10, [tt, tt, ff]⟩ d569 d570 [45, 46] n108 := ⟨fun _ _ _ _ _ _ _ _ _ _ _ _ => by kernel_rfl, fun _ _ _ _ _ _ _ _ _ _ _ _ => by kernel_rfl, fun _ _ _ _ _ _ _ _ _ _ _ _ => by kernel_rfl, fun _ _ _ _ _ _ _ _ _ _ _ _ => by kernel_rfl, fun _ _ _ _ _ _ _ _ _ _ => by kernel_rfl, fun _ _ _ _ _ _ _ _ _ _ _ _ => by kernel_rfl, fun _ _ _ _ _ _ _ _ _ _ _ _ => by kernel_rfl⟩
noncomputable def sq102 := sr1 sw20.1 r83 rfl rfl
noncomputable def sq103 := sr1 sw20.2.1 r78 rfl rfl
noncomputable def sq104 := sr1 sw20.2.2.1 r81 rfl rfl
noncomputable def sq105 := sr1 sw20.2.2.2.1 r79 rfl rfl
theorem sq106 : SR.ok ⟨2, p9, [tt, tt]⟩ := sr_last sw20.2.2.2.2.1 r84
noncomputable def sq107 := sr1 sw20.2.2.2.2.2.1 r85 rfl rfl
noncomputable def sq108 := sr1 sw20.2.2.2.2.2.2 r78 rfl rfl
noncomputable abbrev p11 : List (Nat × Nat) := [(0, 1), (1, 2), (2, 5)]
noncomputable abbrev p12 : List (Nat × Nat) := [(0, 2), (2, 5)]
theorem sw21 : SR1 ⟨2, p10, [ff, tt, tt]⟩ d571 d572 [45, 46] n108 ∧ SR1 ⟨2, p10, [tt, tt, tt]⟩ d573 d574 [51, 52] n106 ∧ SR1 ⟨2, p11, [ff, ff, tt]⟩ d575 d576 [43, 44] n109 ∧ SR1 ⟨2, p11, [tt, ff, tt]⟩ d555 d556 [49, 50] n97 ∧ SR1 ⟨2, p11, [ff, tt, tt]⟩ d577 d578 [45, 46] n108 ∧ SR1 ⟨2, p11, [tt, tt, tt]⟩ d557 d558 [51, 52] n106 ∧ SRL 2 d579 d580 [9, 36] n111 := ⟨fun _ _ _ _ _ _ _ _ _ _ _ _ => by kernel_rfl, fun _ _ _ _ _ _ _ _ _ _ _ _ => by kernel_rfl, fun _ _ _ _ _ _ _ _ _ _ _ _ => by kernel_rfl, fun _ _ _ _ _ _ _ _ _ _ _ _ => by kernel_rfl, fun _ _ _ _ _ _ _ _ _ _ _ _ => by kernel_rfl, fun _ _ _ _ _ _ _ _ _ _ _ _ => by kernel_rfl, fun _ _ _ _ _ _ _ _ _ _ => by kernel_rfl⟩
noncomputable def sq109 := sr1 sw21.1 r82 rfl rfl
noncomputable def sq110 := sr1 sw21.2.1 r79 rfl rfl
noncomputable def sq111 := sr1 sw21.2.2.1 r86 rfl rfl
noncomputable def sq112 := sr1 sw21.2.2.2.1 r81 rfl rfl
noncomputable def sq113 := sr1 sw21.2.2.2.2.1 r82 rfl rfl
noncomputable def sq114 := sr1 sw21.2.2.2.2.2.1 r79 rfl rfl
theorem sq115 : SR.ok ⟨2, p12, [tt, tt]⟩ := sr_last sw21.2.2.2.2.2.2 r84
noncomputable abbrev p13 : List (Nat × Nat) := [(0, 4), (4, 5)]
noncomputable abbrev p14 : List (Nat × Nat) := [(0, 1), (1, 5)]
theorem sw22 : SR1 ⟨2, p13, [tt, ff]⟩ d581 d582 [37, 38] n112 ∧ SRL 4 d583 d584 [9, 36] n113 ∧ SR1 ⟨2, p14, [ff, tt]⟩ d585 d586 [37, 38] n112 ∧ SRL 1 d587 d588 [9, 36] n114 := ⟨fun _ _ _ _ _ _ _ _ _ _ _ _ => by kernel_rfl, fun _ _ _ _ _ _ _ _ _ _ => by kernel_rfl, fun _ _ _ _ _ _ _ _ _ _ _ _ => by kernel_rfl, fun _ _ _ _ _ _ _ _ _ _ => by kernel_rfl⟩
noncomputable def sq116 := sr1 sw22.1 r87 rfl rfl
theorem sq117 : SR.ok ⟨2, p13, [tt, tt]⟩ := sr_last sw22.2.1 r84
noncomputable def sq118 := sr1 sw22.2.2.1 r88 rfl rfl
theorem sq119 : SR.ok ⟨2, p14, [tt, tt]⟩ := sr_last sw22.2.2.2 r84
theorem srAll_ok : ∀ r ∈ srAll, r.ok := sr_cons sq0 (sr_cons sq1 (sr_cons sq2 (sr_cons sq3 (sr_cons sq4 (sr_cons sq5 (sr_cons sq6 (sr_cons sq7 (sr_cons sq8 (sr_cons sq9 (sr_cons sq10 (sr_cons sq11 (sr_cons sq12 (sr_cons sq13 (sr_cons sq14 (sr_cons sq15 (sr_cons sq16 (sr_cons sq17 (sr_cons sq18 (sr_cons sq19 (sr_cons sq20 (sr_cons sq21 (sr_cons sq22 (sr_cons sq23 (sr_cons sq24 (sr_cons sq25 (sr_cons sq26 (sr_cons sq27 (sr_cons sq28 (sr_cons sq29 (sr_cons sq30 (sr_cons sq31 (sr_cons sq32 (sr_cons sq33 (sr_cons sq34 (sr_cons sq35 (sr_cons sq36 (sr_cons sq37 (sr_cons sq38 (sr_cons sq39 (sr_cons sq40 (sr_cons sq41 (sr_cons sq42 (sr_cons sq43 (sr_cons sq44 (sr_cons sq45 (sr_cons sq46 (sr_cons sq47 (sr_cons sq48 (sr_cons sq49 (sr_cons sq50 (sr_cons sq51 (sr_cons sq52 (sr_cons sq53 (sr_cons sq54 (sr_cons sq55 (sr_cons sq56 (sr_cons sq57 (sr_cons sq58 (sr_cons sq59 (sr_cons sq60 (sr_cons sq61 (sr_cons sq62 (sr_cons sq63 (sr_cons sq64 (sr_cons sq65 (sr_cons sq66 (sr_cons sq67 (sr_cons sq68 (sr_cons sq69 (sr_cons sq70 (sr_cons sq71 (sr_cons sq72 (sr_cons sq73 (sr_cons sq74 (sr_cons sq75 (sr_cons sq76 (sr_cons sq77 (sr_cons sq78 (sr_cons sq79 (sr_cons sq80 (sr_cons sq81 (sr_cons sq82 (sr_cons sq83 (sr_cons sq84 (sr_cons sq85 (sr_cons sq86 (sr_cons sq87 (sr_cons sq88 (sr_cons sq89 (sr_cons sq90 (sr_cons sq91 (sr_cons sq92 (sr_cons sq93 (sr_cons sq94 (sr_cons sq95 (sr_cons sq96 (sr_cons sq97 (sr_cons sq98 (sr_cons sq99 (sr_cons sq100 (sr_cons sq101 (sr_cons sq102 (sr_cons sq103 (sr_cons sq104 (sr_cons sq105 (sr_cons sq106 (sr_cons sq107 (sr_cons sq108 (sr_cons sq109 (sr_cons sq110 (sr_cons sq111 (sr_cons sq112 (sr_cons sq113 (sr_cons sq114 (sr_cons sq115 (sr_cons sq116 (sr_cons sq117 (sr_cons sq118 (sr_cons sq119 (sr_nil))))))))))))))))))))))))))))))))))))))))))))))))))))))))))))))))))))))))))))))))))))))))))))))))))))))))))))))))))))))))
noncomputable def mk (f l : Nat) : Nat := (2 ^ (8 * l) - 2 ^ (8 * f)) / 255
/-- which leaves are moved on -/
noncomputable def adB (L : Nat) : List Kn → Nat
  | [] => 0
  | [_] => 0
  | (h, f, l) :: (h2, f2, l2) :: kn => match Nat.beq h L with
    | false => adB L ((h2, f2, l2) :: kn)
    | true => match Nat.beq h2 L with
      | false => adB L ((h2, f2, l2) :: kn)
      | true => mk f2 l2 + adB L kn
noncomputable def adS : List (Nat × Nat) → List Bool → Nat
  | _ :: (f2, l2) :: sp, b :: b2 :: pt => match b with
    | false => adS ((f2, l2) :: sp) (b2 :: pt)
    | true => match b2 with
      | false => adS ((f2, l2) :: sp) (b2 :: pt)
      | true => mk f2 l2 + adS sp pt
  | _, _ => 0
noncomputable def msk5 (l : List Nat) : Nat := (match l.any (Nat.beq 0) with | true => 1 | false => 0) + (match l.any (Nat.beq 1) with | true => 256 | false => 0) + (match l.any (Nat.beq 2) with | true => 65536 | false => 0) + (match l.any (Nat.beq 3) with | true => 16777216 | false => 0) + (match l.any (Nat.beq 4) with | true => 4294967296 | false => 0)
theorem lv_eq (L U : Nat) : ∀ kn : List Kn, (stepP U kn (rowsP (patP L kn))).2 = lvP (kn.map fun k => k.2) (patP L kn)
  | [] => rfl
  | [(h, f, l)] => by
    rw [patP_cons]
    cases hb : Nat.beq h L with
    | true => rw [beq_t hb]; rfl
    | false => rw [beq_f hb]; rfl
  | (h, f, l) :: (h2, f2, l2) :: kn => by
    have i1 := lv_eq L U ((h2, f2, l2) :: kn)
    have i2 := lv_eq L U kn
    rw [patP_cons] at i1 ⊢
    rw [patP_cons]
    cases hb : Nat.beq h L with
    | false =>
      rw [beq_f hb]
      simp only [rowsP, stepP, lvP, List.map_cons]
      rw [i1]; rfl
    | true =>
      cases hb2 : Nat.beq h2 L with
      | false =>
        rw [beq_t hb, beq_f hb2]
        rw [beq_f hb2] at i1
        simp only [rowsP, stepP, lvP, List.map_cons]
        rw [i1]; rfl
      | true =>
        rw [beq_t hb, beq_t hb2]
        simp only [rowsP, stepP, lvP, List.map_cons]
        rw [i2]
theorem ad_eq (L : Nat) : ∀ kn : List Kn, adB L kn = adS (kn.map fun k => k.2) (patP L kn)
  | [] => rfl
  | [(h, f, l)] => rfl
  | (h, f, l) :: (h2, f2, l2) :: kn => by
    have i1 := ad_eq L ((h2, f2, l2) :: kn)
    have i2 := ad_eq L kn
    rw [patP_cons] at i1 ⊢
    rw [patP_cons]
    cases hb : Nat.beq h L with
    | false =>
      rw [beq_f hb]
      simp only [adB, hb, adS, List.map_cons]
      rw [i1]; rfl
    | true =>
      cases hb2 : Nat.beq h2 L with
      | false =>
        rw [beq_t hb, beq_f hb2]
        rw [beq_f hb2] at i1
        simp only [adB, hb, hb2, adS, List.map_cons]
        rw [i1]; rfl
      | true =>
        rw [beq_t hb, beq_t hb2]
        simp only [adB, hb, hb2, adS, List.map_cons]
        rw [i2]
/-! ## what stands at each level: a chain of knots, the merged ones of this level's height -/
theorem chn_stp (L U : Nat) : ∀ (kn : List Kn) (s : Nat), chn s (kn.map fun k => k.2) = true → chn s ((stp L U kn).map fun k => k.2) = true
  | [], s, h => h
  | [(h', f, l)], s, h => by
    cases hb : Nat.beq h' L with
    | true => simp only [stp, hb]; exact h
    | false => simp only [stp, hb]; exact h
  | (h', f, l) :: (h2, f2, l2) :: kn, s, h => by
    have i1 := chn_stp L U ((h2, f2, l2) :: kn)
    have i2 := chn_stp L U kn
    simp only [List.map_cons, chn, Bool.and_eq_true] at h
    obtain ⟨⟨a1, a2⟩, ⟨b1, b2⟩, c⟩ := h
    have d : chn l (((h2, f2, l2) :: kn).map fun k => k.2) = true := by simp only [List.map_cons, chn, Bool.and_eq_true]; exact ⟨⟨b1, b2⟩, c⟩
    cases hb : Nat.beq h' L with
    | false =>
      simp only [stp, hb, List.map_cons, chn, Bool.and_eq_true]
      exact ⟨⟨a1, a2⟩, i1 l d⟩
    | true =>
      cases hb2 : Nat.beq h2 L with
      | false =>
        simp only [stp, hb, hb2, List.map_cons, chn, Bool.and_eq_true]
        exact ⟨⟨a1, a2⟩, i1 l d⟩
      | true =>
        simp only [stp, hb, hb2, List.map_cons, chn, Bool.and_eq_true]
        have e := Nat.eq_of_beq_eq_true b1
        have x1 : s < l := Nat.le_of_ble_eq_true a2
        have x2 : l < l2 := Nat.le_of_ble_eq_true b2
        exact ⟨⟨a1, Nat.ble_eq_true_of_le (Nat.lt_trans x1 x2)⟩, i2 l2 c⟩
noncomputable def Mrg (L : Nat) (kn : List Kn) : Prop := ∀ k ∈ kn, k.1 = L ∨ k.2.2 = k.2.1 + 1
theorem mrg_stp (L U : Nat) : ∀ (kn : List Kn), Mrg L kn → Mrg U (stp L U kn)
  | [], h => fun k hk => by cases hk
  | [(h', f, l)], h => fun k hk => by
    have h1 := h _ (.head _)
    cases hb : Nat.beq h' L with
    | true =>
      simp only [stp, hb] at hk
      rw [List.mem_singleton.mp hk]; exact .inl rfl
    | false =>
      simp only [stp, hb] at hk
      rw [List.mem_singleton.mp hk]
      rcases h1 with q | q
      · rw [show h' = L from q, Nat.beq_refl] at hb; cases hb
      · exact .inr q
  | (h', f, l) :: (h2, f2, l2) :: kn, h => fun k hk => by
    have i1 := mrg_stp L U ((h2, f2, l2) :: kn) fun k hk => h k (.tail _ hk)
    have i2 := mrg_stp L U kn fun k hk => h k (.tail _ (.tail _ hk))
    have h1 := h _ (.head _)
    cases hb : Nat.beq h' L with
    | false =>
      simp only [stp, hb] at hk
      rcases List.mem_cons.mp hk with e | e
      · rw [e]
        rcases h1 with q | q
        · rw [show h' = L from q, Nat.beq_refl] at hb; cases hb
        · exact .inr q
      · exact i1 k e
    | true =>
      cases hb2 : Nat.beq h2 L with
      | false =>
        simp only [stp, hb, hb2] at hk
        rcases List.mem_cons.mp hk with e | e
        · rw [e]; exact .inl rfl
        · exact i1 k e
      | true =>
        simp only [stp, hb, hb2] at hk
        rcases List.mem_cons.mp hk with e | e
        · rw [e]; exact .inl rfl
        · exact i2 k e
theorem mok_mrg (L : Nat) : ∀ (kn : List Kn), Mrg L kn → mok (kn.map fun k => k.2) (patP L kn) = true
  | [], _ => rfl
  | (h', f, l) :: kn, h => by
    rw [patP_cons]
    simp only [List.map_cons, mok, Bool.and_eq_true, Bool.or_eq_true]
    refine ⟨?_, mok_mrg L kn fun k hk => h k (.tail _ hk)⟩
    rcases h _ (.head _) with q | q
    · exact .inl (by rw [show h' = L from q]; exact beq_self_eq_true L)
    · exact .inr (by rw [show l = f + 1 from q]; exact Nat.beq_refl _)
noncomputable def kindOf (L : Nat) (kn : List Kn) : Nat := match L with
  | 0 => 0
  | _ => if kn.length = 5 then 1 else 2
structure Inv (L : Nat) (kn : List Kn) : Prop where
  chain : chn 0 (kn.map fun k => k.2) = true
  mrg : Mrg L kn
  zero : L = 0 → kn.length = 5
theorem Inv.row {L : Nat} {kn : List Kn} (I : Inv L kn) (h : 1 < kn.length) : ⟨kindOf L kn, kn.map fun k => k.2, patP L kn⟩ ∈ srAll := by
  refine okS_mem ?_
  unfold okS
  rw [I.chain, mok_mrg L kn I.mrg, List.length_map, Bool.true_and, Bool.true_and]
  unfold kindOf
  cases L with
  | zero =>
    rw [I.zero rfl]
    rfl
  | succ L =>
    simp only
    split
    · rename_i hb
      rw [if_pos (Nat.eq_of_beq_eq_true hb)]
      rfl
    · rename_i hb
      rw [if_neg (fun e => by rw [e] at hb; cases hb)]
      rw [Bool.and_eq_true]
      exact ⟨rfl, Nat.ble_eq_true_of_le h⟩
theorem nk_rows : (srAll.all fun r => r.nkind == (if (rowsP r.pat).length = 5 then 1 else 2)) = true := by decide +kernel
theorem ad_rows : (srAll.all fun r => msk5 (lvP r.sp r.pat) == adS r.sp r.pat) = true := by decide +kernel
theorem Inv.step {L : Nat} {kn : List Kn} (I : Inv L kn) : Inv (L + 1) (stp L (L + 1) kn) := ⟨chn_stp L (L + 1) kn 0 I.chain, mrg_stp L (L + 1) kn I.mrg, fun h => by cases h⟩
/-! ## begins as one number -/
noncomputable def code (F : Nat → Nat → Nat) : Nat := F 0 0 + 256 * F 1 0 + 65536 * F 2 0 + 16777216 * F 3 0 + 4294967296 * F 4 0
noncomputable def AddF (F : Nat → Nat → Nat) : Prop := ∀ i z, F i z = z + F i 0
noncomputable def BndF (L : Nat) (F : Nat → Nat → Nat) : Prop := ∀ i, F i 0 + 2 ^ L ≤ 256
theorem addF_add {l : List Nat} {w : Nat} {F : Nat → Nat → Nat} (h : AddF F) : AddF (addF l w F) := fun i z => by
  unfold addF
  split
  · rw [h i (z + w), h i (0 + w)]; omega
  · exact h i z
theorem addF_bnd {l : List Nat} {L : Nat} {F : Nat → Nat → Nat} (ha : AddF F) (h : BndF (L + 1) F) : BndF L (addF l (2 ^ L) F) := fun i => by
  have := h i
  rw [Nat.pow_succ] at this
  unfold addF
  split
  · rw [ha i (0 + 2 ^ L)]; omega
  · omega
noncomputable def ind (l : List Nat) (i : Nat) : Nat := match l.any (Nat.beq i) with | true => 1 | false => 0
theorem addF_ind {l : List Nat} {w : Nat} {F : Nat → Nat → Nat} (h : AddF F) (i : Nat) : addF l w F i 0 = F i 0 + w * ind l i := by
  unfold addF ind
  cases l.any (Nat.beq i) with
  | true => show F i (0 + w) = F i 0 + w * 1; rw [h i (0 + w), Nat.zero_add, Nat.mul_one, Nat.add_comm]
  | false => rfl
theorem msk_ind (l : List Nat) : msk5 l = ind l 0 + 256 * ind l 1 + 65536 * ind l 2 + 16777216 * ind l 3 + 4294967296 * ind l 4 := by
  have f : ∀ (b : Bool) (k : Nat), (match b with | true => k | false => 0) = k * (match b with | true => 1 | false => 0) := fun b k => by
    cases b
    · rfl
    · exact (Nat.mul_one k).symm
  unfold msk5 ind
  rw [f _ 256, f _ 65536, f _ 16777216, f _ 4294967296]
theorem addF_code {l : List Nat} {w : Nat} {F : Nat → Nat → Nat} (h : AddF F) : code (addF l w F) = code F + w * msk5 l := by
  unfold code
  rw [addF_ind h 0, addF_ind h 1, addF_ind h 2, addF_ind h 3, addF_ind h 4, msk_ind]
  generalize ind l 0 = a
  generalize ind l 1 = b
  generalize ind l 2 = c
  generalize ind l 3 = d
  generalize ind l 4 = e
  simp only [Nat.mul_add, Nat.mul_left_comm w]
  omega
theorem code_inj {F : Nat → Nat → Nat} {y0 y1 y2 y3 y4 : Nat} (h : ∀ i, F i 0 < 256) (l0 : y0 < 256) (l1 : y1 < 256) (l2 : y2 < 256) (l3 : y3 < 256) (l4 : y4 < 256) (e : code F = y0 + 256 * y1 + 65536 * y2 + 16777216 * y3 + 4294967296 * y4) :
    F 0 0 = y0 ∧ F 1 0 = y1 ∧ F 2 0 = y2 ∧ F 3 0 = y3 ∧ F 4 0 = y4 := by
  have := h 0
  have := h 1
  have := h 2
  have := h 3
  have := h 4
  unfold code at e
  omega
/-- the walk, for the kernel -/
noncomputable def goN : Nat → Nat → List Kn → Nat → (Nat → Nat → Bool) → Bool
  | 0, _, _, _, _ => false
  | n + 1, L, kn, B, k => match kn with
    | [] => false
    | [(h, _, _)] => k h B
    | x :: y :: kn => goN n (L + 1) (stp L (L + 1) (x :: y :: kn)) (B + 2 ^ L * adB L (x :: y :: kn)) k
theorem goN_ok (w : World) (hR : ∀ r ∈ srAll, r.ok) (hE : ∀ L R h, OK w (endG w.params h L (R + 1))) : ∀ (n L : Nat) (kn : List Kn) (B : Nat) (k : Nat → Nat → Bool), n + L = 8 → Inv L kn → goN n L kn B k = true →
    ∃ H F, FK w (kindOf L kn) kn L (8 - L) H F ∧ AddF F ∧ BndF L F ∧ k H (B + code F) = true
  | 0, _, _, _, _, _, _, h => by cases h
  | n + 1, L, kn, B, k, hn, I, h => by
    rw [goN.eq_def] at h
    simp only at h
    split at h
    · cases h
    · rename_i h0 f l
      have c := I.chain
      simp only [List.map_cons, List.map_nil, chn, Bool.and_eq_true] at c
      obtain ⟨⟨c1, c2⟩, c3⟩ := c
      refine ⟨h0, fun _ z => z, ?_, fun i z => by simp, fun i => ?_, ?_⟩
      · unfold FK
        refine ⟨?_, rfl, rfl⟩
        rw [show 8 - L = (7 - L) + 1 from by omega]
        exact hE L (7 - L) h0
      · have : 2 ^ L ≤ 2 ^ 8 := Nat.pow_le_pow_right (by decide) (by omega)
        simpa using this
      · exact h
    · rename_i x y kn'
      obtain ⟨H, F, h1, h2, h3, h4⟩ := goN_ok w hR hE n (L + 1) _ _ k (by omega) I.step h
      have hr := I.row (by simp)
      generalize hkn : x :: y :: kn' = kn at *
      have hlen : 1 < kn.length := by rw [← hkn]; simp
      have a1 := List.all_eq_true.mp nk_rows _ hr
      have a2 := List.all_eq_true.mp ad_rows _ hr
      have a1 := eq_of_beq a1
      have a2 := eq_of_beq a2
      simp only at a1 a2
      have hk := hR _ hr w L (7 - L) H (hsOf L kn) F (fun i => hsOf_ne L kn i) (fun q => by
        have : L = 0 := by
          cases L with
          | zero => rfl
          | succ L => simp only [kindOf] at q; split at q <;> cases q
        omega) (by omega)
      have e1 : SR.kn ⟨kindOf L kn, kn.map fun k => k.2, patP L kn⟩ L (hsOf L kn) = kn := knS_eq L (hsOf L kn) kn 0 fun j hj hn => by
        rw [Nat.zero_add]
        exact if_neg hn
      rw [e1, a1, ← len_eq L (L + 1), stp_eq] at hk
      refine ⟨H, addF (lvP (kn.map fun k => k.2) (patP L kn)) (2 ^ L) F, ?_, addF_add h2, addF_bnd h2 h3, ?_⟩
      · rw [show 8 - L = (7 - L) + 1 from by omega]
        refine hk ?_
        rw [show 8 - (L + 1) = 7 - L from by omega] at h1
        exact h1
      · rw [addF_code h2, a2, ← ad_eq, ← h4]
        congr 1
        omega
/-- the mask's bit -/
noncomputable def bit (m x : Nat) : Bool := Nat.blt x 128 && Nat.beq (Nat.land (Nat.shiftRight m x) 1) 1
/-- the least height of a page of x -/
noncomputable def dz (x : Nat) : Nat := Nat.log2 (x - 1) + 1
noncomputable def douM : Nat := 1214074154423916542558176
theorem ac_nil {α : Type} {Q : α → Prop} : ∀ p ∈ ([] : List α), Q p := fun _ h => absurd h List.not_mem_nil
theorem ac {α : Type} {Q : α → Prop} {a : α} {l : List α} (h : Q a) (t : ∀ p ∈ l, Q p) : ∀ p ∈ a :: l, Q p := fun p hp => by
  rcases List.mem_cons.mp hp with e | e
  · rw [e]; exact h
  · exact t p e
theorem bit_lt {m x : Nat} (h : bit m x = true) : x < 128 := by
  unfold bit at h
  rw [Bool.and_eq_true] at h
  exact Nat.le_of_ble_eq_true h.1
noncomputable def douL : List Nat := [5, 6, 7, 8, 9, 10, 11, 12, 13, 14, 15, 16, 17, 18, 19, 20, 21, 22, 23, 24, 25, 26, 27, 28, 29, 30, 31, 32, 33, 34, 35, 36, 37, 38, 39, 40, 41, 42, 43, 44, 45, 46, 48, 49, 50, 51, 52, 53, 54, 56, 57, 58, 60, 64, 65, 66, 68, 72, 80]
theorem dou_pairs (w : World) : ∀ x ∈ douL, OK w (douK x (dz x)) := ac (dou5.ok w) (ac (dou6.ok w) (ac (dou7.ok w) (ac (dou8.ok w) (ac (dou9.ok w) (ac (dou10.ok w) (ac (dou11.ok w) (ac (dou12.ok w) (ac (dou13.ok w) (ac (dou14.ok w) (ac (dou15.ok w) (ac (dou16.ok w) (ac (dou17.ok w) (ac (dou18.ok w) (ac (dou19.ok w) (ac (dou20.ok w) (ac (dou21.ok w) (ac (dou22.ok w) (ac (dou23.ok w) (ac (dou24.ok w) (ac (dou25.ok w) (ac (dou26.ok w) (ac (dou27.ok w) (ac (dou28.ok w) (ac (dou29.ok w) (ac (dou30.ok w) (ac (dou31.ok w) (ac (dou32.ok w) (ac (dou33.ok w) (ac (dou34.ok w) (ac (dou35.ok w) (ac (dou36.ok w) (ac (dou37.ok w) (ac (dou38.ok w) (ac (dou39.ok w) (ac (dou40.ok w) (ac (dou41.ok w) (ac (dou42.ok w) (ac (dou43.ok w) (ac (dou44.ok w) (ac (dou45.ok w) (ac (dou46.ok w) (ac (dou48.ok w) (ac (dou49.ok w) (ac (dou50.ok w) (ac (dou51.ok w) (ac (dou52.ok w) (ac (dou53.ok w) (ac (dou54.ok w) (ac (dou56.ok w) (ac (dou57.ok w) (ac (dou58.ok w) (ac (dou60.ok w) (ac (dou64.ok w) (ac (dou65.ok w) (ac (dou66.ok w) (ac (dou68.ok w) (ac (dou72.ok w) (ac (dou80.ok w) (ac_nil)))))))))))))))))))))))))))))))))))))))))))))))))))))))))))
theorem dou_all (w : World) (x : Nat) (h : bit douM x = true) : OK w (douK x (dz x)) := by
  have key : ((List.range 128).all fun x => !bit douM x || douL.contains x) = true := by decide +kernel
  have a := List.all_eq_true.mp key x (List.mem_range.mpr (bit_lt h))
  rw [h, Bool.not_true, Bool.false_or] at a
  exact dou_pairs w x (List.contains_iff_mem.mp a)
/-- what is seen of begin b on a page of height k is b -/
noncomputable def SeenG (w : World) (b k : Nat) : Prop := ∃ f, SeenP w b (2 ^ k) f ∧ (Float64.cmpInt f (Int.ofNat b) == some Ordering.eq) = true
noncomputable def seeB (b k : Nat) (q h f : UInt64) : Bool := !(Int.ofNat (2 ^ k) == 0) && !Float64.isInf (Float64.ofFrac (decide (Int.ofNat b < 0) != decide (Int.ofNat (2 ^ k) < 0)) (Int.ofNat b).natAbs (Int.ofNat (2 ^ k)).natAbs) &&
  Float64.ofFrac (decide (Int.ofNat b < 0) != decide (Int.ofNat (2 ^ k) < 0)) (Int.ofNat b).natAbs (Int.ofNat (2 ^ k)).natAbs == q && !Float64.isInf (Float64.ofInt (Int.ofNat (2 ^ k))) && Float64.mul h (Float64.ofInt (Int.ofNat (2 ^ k))) == f && Float64.cmpInt f (Int.ofNat b) == some Ordering.eq
theorem not_of {b : Bool} (h : (!b) = true) : ¬ b = true := by cases b <;> simp_all
theorem see_of {w : World} {b k : Nat} {q r g b' h s v f : UInt64} (e : seeB b k q h f = true) (h1 : OK w (hsvK q r g b')) (h2 : OK w (rgbK r g b' h s v)) : SeenG w b k := by
  unfold seeB at e
  simp only [Bool.and_eq_true] at e
  obtain ⟨⟨⟨⟨⟨e1, e2⟩, e3⟩, e4⟩, e5⟩, e6⟩ := e
  exact ⟨f, ⟨q, r, g, b', h, s, v, truC_ok (not_of e1) (not_of e2) (eq_of_beq e3), h1, h2, fmuC_ok (not_of e4) (eq_of_beq e5)⟩, e6⟩
noncomputable def lamB (a b : Nat) (fa fb v p : UInt64) : Bool := !Float64.isInf (Float64.ofFrac (decide (Int.ofNat a < 0) != decide ((8 : Int) < 0)) (Int.ofNat a).natAbs (8 : Int).natAbs) &&
  Float64.ofFrac (decide (Int.ofNat a < 0) != decide ((8 : Int) < 0)) (Int.ofNat a).natAbs (8 : Int).natAbs == fa && !Float64.isInf (Float64.ofFrac (decide (Int.ofNat b < 0) != decide ((8 : Int) < 0)) (Int.ofNat b).natAbs (8 : Int).natAbs) &&
  Float64.ofFrac (decide (Int.ofNat b < 0) != decide ((8 : Int) < 0)) (Int.ofNat b).natAbs (8 : Int).natAbs == fb && !Float64.isInf (Float64.ofInt 8) && Float64.mul (Float64.ofInt 8) v == p
theorem lam_of {w : World} {a b : Nat} {fa fb h s v p : UInt64} (e : lamB a b fa fb v p = true) (h1 : OK w (rgbK fa fb fa h s v)) (h2 : OK w (intK p b)) : LampP w a b := by
  unfold lamB at e
  simp only [Bool.and_eq_true] at e
  obtain ⟨⟨⟨⟨⟨e1, e2⟩, e3⟩, e4⟩, e5⟩, e6⟩ := e
  exact ⟨fa, fb, h, s, v, p, truC_ok (by decide) (not_of e1) (eq_of_beq e2), truC_ok (by decide) (not_of e3) (eq_of_beq e4), h1, frmC_ok (not_of e5) (eq_of_beq e6), h2⟩
noncomputable def seeM : Nat → Nat
  | 3 => 255
  | 4 => 65535
  | 5 => 2147450879
  | 6 => 78557353124763519
  | 7 => 18447025552981295105
  | _ => 0
noncomputable def seeT : List (Nat × Nat × UInt64 × UInt64 × UInt64) := [(0, 3, 0, 0, 0), (1, 3, 4593671619917905920, 4593671619917905920, 4607182418800017408), (2, 3, 4598175219545276416, 4598175219545276416, 4611686018427387904), (3, 3, 4600427019358961664, 4600427019358961664, 4613937818241073152), (4, 3, 4602678819172646912, 4602678819172646912, 4616189618054758400), (5, 3, 4603804719079489536, 4603804719079489536, 4617315517961601024), (6, 3, 4604930618986332160, 4604930618986332160, 4618441417868443648), (7, 3, 4606056518893174784, 4606056518893174784, 4619567317775286272), (0, 4, 0, 0, 0), (8, 4, 4602678819172646912, 4602678819172646912, 4620693217682128896), (9, 4, 4603241769126068224, 4603241769126068224, 4621256167635550208), (10, 4, 4603804719079489536, 4603804719079489536, 4621819117588971520), (11, 4, 4604367669032910848, 4604367669032910848, 4622382067542392832), (0, 5, 0, 0, 0), (16, 5, 4602678819172646912, 4602678819172646912, 4625196817309499392), (17, 5, 4602960294149357568, 4602960294149357568, 4625478292286210048), (18, 5, 4603241769126068224, 4603241769126068224, 4625759767262920704), (19, 5, 4603523244102778880, 4603523244102778880, 4626041242239631360), (4, 4, 4598175219545276416, 4598175219545276416, 4616189618054758400), (6, 4, 4600427019358961664, 4600427019358961664, 4618441417868443648), (7, 4, 4601552919265804288, 4601552919265804288, 4619567317775286272), (12, 4, 4604930618986332160, 4604930618986332160, 4622945017495814144), (20, 5, 4603804719079489536, 4603804719079489536, 4626322717216342016), (13, 4, 4605493568939753472, 4605493568939753472, 4623507967449235456), (14, 4, 4606056518893174784, 4606056518893174784, 4624070917402656768), (21, 5, 4604086194056200192, 4604086194056200192, 4626604192193052672), (22, 5, 4604367669032910848, 4604367669032910848, 4626885667169763328), (8, 5, 4598175219545276416, 4598175219545276416, 4620693217682128896), (24, 5, 4604930618986332160, 4604930618986332160, 4627448617123184640), (25, 5, 4605212093963042816, 4605212093963042816, 4627730092099895296), (26, 5, 4605493568939753472, 4605493568939753472, 4628011567076605952), (0, 6, 0, 0, 0), (16, 6, 4598175219545276416, 4598175219545276416, 4625196817309499392), (32, 6, 4602678819172646912, 4602678819172646912, 4629700416936869888), (33, 6, 4602819556661002240, 4602819556661002240, 4629841154425225216), (34, 6, 4602960294149357568, 4602960294149357568, 4629981891913580544), (15, 4, 4606619468846596096, 4606619468846596096, 4624633867356078080), (23, 5, 4604649144009621504, 4604649144009621504, 4627167142146473984), (27, 5, 4605775043916464128, 4605775043916464128, 4628293042053316608), (35, 6, 4603101031637712896, 4603101031637712896, 4630122629401935872), (1, 4, 4589168020290535424, 4589168020290535424, 4607182418800017408), (2, 4, 4593671619917905920, 4593671619917905920, 4611686018427387904), (12, 5, 4600427019358961664, 4600427019358961664, 4622945017495814144), (28, 5, 4606056518893174784, 4606056518893174784, 4628574517030027264), (29, 5, 4606337993869885440, 4606337993869885440, 4628855992006737920), (36, 6, 4603241769126068224, 4603241769126068224, 4630263366890291200), (37, 6, 4603382506614423552, 4603382506614423552, 4630404104378646528), (1, 5, 4584664420663164928, 4584664420663164928, 4607182418800017408), (2, 5, 4589168020290535424, 4589168020290535424, 4611686018427387904), (4, 5, 4593671619917905920, 4593671619917905920, 4616189618054758400), (24, 6, 4600427019358961664, 4600427019358961664, 4627448617123184640), (40, 6, 4603804719079489536, 4603804719079489536, 4630826316843712512), (41, 6, 4603945456567844864, 4603945456567844864, 4630967054332067840), (1, 6, 4580160821035794432, 4580160821035794432, 4607182418800017408), (2, 6, 4584664420663164928, 4584664420663164928, 4611686018427387904), (4, 6, 4589168020290535424, 4589168020290535424, 4616189618054758400), (8, 6, 4593671619917905920, 4593671619917905920, 4620693217682128896), (48, 6, 4604930618986332160, 4604930618986332160, 4631952216750555136), (49, 6, 4605071356474687488, 4605071356474687488, 4632092954238910464), (5, 4, 4599301119452119040, 4599301119452119040, 4617315517961601024), (14, 5, 4601552919265804288, 4601552919265804288, 4624070917402656768), (30, 5, 4606619468846596096, 4606619468846596096, 4629137466983448576), (38, 6, 4603523244102778880, 4603523244102778880, 4630544841867001856), (42, 6, 4604086194056200192, 4604086194056200192, 4631107791820423168), (50, 6, 4605212093963042816, 4605212093963042816, 4632233691727265792), (3, 4, 4595923419731591168, 4595923419731591168, 4613937818241073152), (9, 5, 4598738169498697728, 4598738169498697728, 4621256167635550208), (10, 5, 4599301119452119040, 4599301119452119040, 4621819117588971520), (28, 6, 4601552919265804288, 4601552919265804288, 4628574517030027264), (44, 6, 4604367669032910848, 4604367669032910848, 4631389266797133824), (52, 6, 4605493568939753472, 4605493568939753472, 4632515166703976448), (3, 5, 4591419820104220672, 4591419820104220672, 4613937818241073152), (5, 5, 4594797519824748544, 4594797519824748544, 4617315517961601024), (17, 6, 4598456694521987072, 4598456694521987072, 4625478292286210048), (6, 5, 4595923419731591168, 4595923419731591168, 4618441417868443648), (18, 6, 4598738169498697728, 4598738169498697728, 4625759767262920704), (20, 6, 4599301119452119040, 4599301119452119040, 4626322717216342016), (56, 6, 4606056518893174784, 4606056518893174784, 4633078116657397760), (3, 6, 4586916220476850176, 4586916220476850176, 4613937818241073152), (5, 6, 4590293920197378048, 4590293920197378048, 4617315517961601024), (9, 6, 4594234569871327232, 4594234569871327232, 4621256167635550208), (6, 6, 4591419820104220672, 4591419820104220672, 4618441417868443648), (10, 6, 4594797519824748544, 4594797519824748544, 4621819117588971520), (12, 6, 4595923419731591168, 4595923419731591168, 4622945017495814144), (0, 7, 0, 0, 0), (16, 7, 4593671619917905920, 4593671619917905920, 4625196817309499392), (32, 7, 4598175219545276416, 4598175219545276416, 4629700416936869888), (48, 7, 4600427019358961664, 4600427019358961664, 4631952216750555136), (64, 7, 4602678819172646912, 4602678819172646912, 4634204016564240384), (13, 5, 4600989969312382976, 4600989969312382976, 4623507967449235456), (11, 5, 4599864069405540352, 4599864069405540352, 4622382067542392832), (25, 6, 4600708494335672320, 4600708494335672320, 4627730092099895296), (26, 6, 4600989969312382976, 4600989969312382976, 4628011567076605952), (7, 5, 4597049319638433792, 4597049319638433792, 4619567317775286272), (19, 6, 4599019644475408384, 4599019644475408384, 4626041242239631360), (21, 6, 4599582594428829696, 4599582594428829696, 4626604192193052672), (22, 6, 4599864069405540352, 4599864069405540352, 4626885667169763328)]
theorem seeD : (seeT.all fun t => seeB t.1 t.2.1 t.2.2.1 t.2.2.2.1 t.2.2.2.2) = true := by decide +kernel
noncomputable def HR (w : World) (q h : UInt64) : Prop := ∃ r g b s v, OK w (hsvK q r g b) ∧ OK w (rgbK r g b h s v)
theorem seeH (w : World) : ∀ t ∈ seeT, HR w t.2.2.1 t.2.2.2.1 := ac ⟨_, _, _, _, _, hsv_z.ok w, rgb1.ok w⟩ (ac ⟨_, _, _, _, _, hsv_1.ok w, rgb2.ok w⟩ (ac ⟨_, _, _, _, _, hsv_2.ok w, rgb3.ok w⟩ (ac ⟨_, _, _, _, _, hsv_3.ok w, rgb4.ok w⟩ (ac ⟨_, _, _, _, _, hsv_4.ok w, rgb5.ok w⟩ (ac ⟨_, _, _, _, _, hsv_5.ok w, rgb6.ok w⟩ (ac ⟨_, _, _, _, _, hsv_6.ok w, rgb7.ok w⟩ (ac ⟨_, _, _, _, _, hsv_7.ok w, rgb8.ok w⟩ (ac ⟨_, _, _, _, _, hsv_z.ok w, rgb1.ok w⟩ (ac ⟨_, _, _, _, _, hsv_4.ok w, rgb5.ok w⟩ (ac ⟨_, _, _, _, _, hsv_8.ok w, rgb9.ok w⟩ (ac ⟨_, _, _, _, _, hsv_5.ok w, rgb6.ok w⟩ (ac ⟨_, _, _, _, _, hsv_9.ok w, rgb10.ok w⟩ (ac ⟨_, _, _, _, _, hsv_z.ok w, rgb1.ok w⟩ (ac ⟨_, _, _, _, _, hsv_4.ok w, rgb5.ok w⟩ (ac ⟨_, _, _, _, _, hsv_10.ok w, rgb11.ok w⟩ (ac ⟨_, _, _, _, _, hsv_8.ok w, rgb9.ok w⟩ (ac ⟨_, _, _, _, _, hsv_11.ok w, rgb12.ok w⟩ (ac ⟨_, _, _, _, _, hsv_2.ok w, rgb3.ok w⟩ (ac ⟨_, _, _, _, _, hsv_3.ok w, rgb4.ok w⟩ (ac ⟨_, _, _, _, _, hsv_12.ok w, rgb13.ok w⟩ (ac ⟨_, _, _, _, _, hsv_6.ok w, rgb7.ok w⟩ (ac ⟨_, _, _, _, _, hsv_5.ok w, rgb6.ok w⟩ (ac ⟨_, _, _, _, _, hsv_13.ok w, rgb14.ok w⟩ (ac ⟨_, _, _, _, _, hsv_7.ok w, rgb8.ok w⟩ (ac ⟨_, _, _, _, _, hsv_14.ok w, rgb15.ok w⟩ (ac ⟨_, _, _, _, _, hsv_9.ok w, rgb10.ok w⟩ (ac ⟨_, _, _, _, _, hsv_2.ok w, rgb3.ok w⟩ (ac ⟨_, _, _, _, _, hsv_6.ok w, rgb7.ok w⟩ (ac ⟨_, _, _, _, _, hsv_15.ok w, rgb16.ok w⟩ (ac ⟨_, _, _, _, _, hsv_13.ok w, rgb14.ok w⟩ (ac ⟨_, _, _, _, _, hsv_z.ok w, rgb1.ok w⟩ (ac ⟨_, _, _, _, _, hsv_2.ok w, rgb3.ok w⟩ (ac ⟨_, _, _, _, _, hsv_4.ok w, rgb5.ok w⟩ (ac ⟨_, _, _, _, _, hsv_16.ok w, rgb17.ok w⟩ (ac ⟨_, _, _, _, _, hsv_10.ok w, rgb11.ok w⟩ (ac ⟨_, _, _, _, _, hsv_17.ok w, rgb18.ok w⟩ (ac ⟨_, _, _, _, _, hsv_18.ok w, rgb19.ok w⟩ (ac ⟨_, _, _, _, _, hsv_19.ok w, rgb20.ok w⟩ (ac ⟨_, _, _, _, _, hsv_20.ok w, rgb21.ok w⟩ (ac ⟨_, _, _, _, _, hsv_21.ok w, rgb22.ok w⟩ (ac ⟨_, _, _, _, _, hsv_1.ok w, rgb2.ok w⟩ (ac ⟨_, _, _, _, _, hsv_3.ok w, rgb4.ok w⟩ (ac ⟨_, _, _, _, _, hsv_7.ok w, rgb8.ok w⟩ (ac ⟨_, _, _, _, _, hsv_22.ok w, rgb23.ok w⟩ (ac ⟨_, _, _, _, _, hsv_8.ok w, rgb9.ok w⟩ (ac ⟨_, _, _, _, _, hsv_23.ok w, rgb24.ok w⟩ (ac ⟨_, _, _, _, _, hsv_24.ok w, rgb25.ok w⟩ (ac ⟨_, _, _, _, _, hsv_21.ok w, rgb22.ok w⟩ (ac ⟨_, _, _, _, _, hsv_1.ok w, rgb2.ok w⟩ (ac ⟨_, _, _, _, _, hsv_3.ok w, rgb4.ok w⟩ (ac ⟨_, _, _, _, _, hsv_5.ok w, rgb6.ok w⟩ (ac ⟨_, _, _, _, _, hsv_25.ok w, rgb26.ok w⟩ (ac ⟨_, _, _, _, _, hsv_26.ok w, rgb27.ok w⟩ (ac ⟨_, _, _, _, _, hsv_24.ok w, rgb25.ok w⟩ (ac ⟨_, _, _, _, _, hsv_21.ok w, rgb22.ok w⟩ (ac ⟨_, _, _, _, _, hsv_1.ok w, rgb2.ok w⟩ (ac ⟨_, _, _, _, _, hsv_6.ok w, rgb7.ok w⟩ (ac ⟨_, _, _, _, _, hsv_27.ok w, rgb28.ok w⟩ (ac ⟨_, _, _, _, _, hsv_28.ok w, rgb29.ok w⟩ (ac ⟨_, _, _, _, _, hsv_12.ok w, rgb13.ok w⟩ (ac ⟨_, _, _, _, _, hsv_17.ok w, rgb18.ok w⟩ (ac ⟨_, _, _, _, _, hsv_11.ok w, rgb12.ok w⟩ (ac ⟨_, _, _, _, _, hsv_14.ok w, rgb15.ok w⟩ (ac ⟨_, _, _, _, _, hsv_15.ok w, rgb16.ok w⟩ (ac ⟨_, _, _, _, _, hsv_29.ok w, rgb30.ok w⟩ (ac ⟨_, _, _, _, _, hsv_30.ok w, rgb31.ok w⟩ (ac ⟨_, _, _, _, _, hsv_28.ok w, rgb29.ok w⟩ (ac ⟨_, _, _, _, _, hsv_12.ok w, rgb13.ok w⟩ (ac ⟨_, _, _, _, _, hsv_9.ok w, rgb10.ok w⟩ (ac ⟨_, _, _, _, _, hsv_13.ok w, rgb14.ok w⟩ (ac ⟨_, _, _, _, _, hsv_31.ok w, rgb32.ok w⟩ (ac ⟨_, _, _, _, _, hsv_32.ok w, rgb33.ok w⟩ (ac ⟨_, _, _, _, _, hsv_33.ok w, rgb34.ok w⟩ (ac ⟨_, _, _, _, _, hsv_29.ok w, rgb30.ok w⟩ (ac ⟨_, _, _, _, _, hsv_30.ok w, rgb31.ok w⟩ (ac ⟨_, _, _, _, _, hsv_28.ok w, rgb29.ok w⟩ (ac ⟨_, _, _, _, _, hsv_7.ok w, rgb8.ok w⟩ (ac ⟨_, _, _, _, _, hsv_34.ok w, rgb35.ok w⟩ (ac ⟨_, _, _, _, _, hsv_35.ok w, rgb36.ok w⟩ (ac ⟨_, _, _, _, _, hsv_36.ok w, rgb37.ok w⟩ (ac ⟨_, _, _, _, _, hsv_31.ok w, rgb32.ok w⟩ (ac ⟨_, _, _, _, _, hsv_32.ok w, rgb33.ok w⟩ (ac ⟨_, _, _, _, _, hsv_29.ok w, rgb30.ok w⟩ (ac ⟨_, _, _, _, _, hsv_z.ok w, rgb1.ok w⟩ (ac ⟨_, _, _, _, _, hsv_1.ok w, rgb2.ok w⟩ (ac ⟨_, _, _, _, _, hsv_2.ok w, rgb3.ok w⟩ (ac ⟨_, _, _, _, _, hsv_3.ok w, rgb4.ok w⟩ (ac ⟨_, _, _, _, _, hsv_4.ok w, rgb5.ok w⟩ (ac ⟨_, _, _, _, _, hsv_37.ok w, rgb38.ok w⟩ (ac ⟨_, _, _, _, _, hsv_38.ok w, rgb39.ok w⟩ (ac ⟨_, _, _, _, _, hsv_39.ok w, rgb40.ok w⟩ (ac ⟨_, _, _, _, _, hsv_37.ok w, rgb38.ok w⟩ (ac ⟨_, _, _, _, _, hsv_40.ok w, rgb41.ok w⟩ (ac ⟨_, _, _, _, _, hsv_41.ok w, rgb42.ok w⟩ (ac ⟨_, _, _, _, _, hsv_42.ok w, rgb43.ok w⟩ (ac ⟨_, _, _, _, _, hsv_38.ok w, rgb39.ok w⟩ (ac_nil)))))))))))))))))))))))))))))))))))))))))))))))))))))))))))))))))))))))))))))))))))))))))))))))))
noncomputable def seeL : List (Nat × Nat) := seeT.map fun t => (t.1, t.2.1)
theorem see_pairs (w : World) : ∀ p ∈ seeL, SeenG w p.1 p.2 := fun p hp => by
  obtain ⟨t, ht, e⟩ := List.mem_map.mp hp
  obtain ⟨r, g, b, s, v, h1, h2⟩ := seeH w t ht
  rw [← e]
  exact see_of (List.all_eq_true.mp seeD t ht) h1 h2
theorem see_bits (w : World) (b k : Nat) (h : bit (seeM k) b = true) : SeenG w b k := by
  have hb : b < 128 := by
    unfold bit at h
    rw [Bool.and_eq_true] at h
    exact Nat.le_of_ble_eq_true h.1
  have hk : k < 8 := by
    rcases Nat.lt_or_ge k 8 with q | q
    · exact q
    · have : seeM k = 0 := by
        match k, q with
        | k + 8, _ => rfl
      rw [this] at h
      unfold bit at h
      rw [show Nat.shiftRight 0 b = 0 from Nat.zero_shiftRight b] at h
      rw [show Nat.beq (Nat.land 0 1) 1 = false from rfl, Bool.and_false] at h
      cases h
  have key : ((List.range 8).all fun k => (List.range 128).all fun b => !bit (seeM k) b || seeL.contains (b, k)) = true := by decide +kernel
  have a := List.all_eq_true.mp (List.all_eq_true.mp key k (List.mem_range.mpr hk)) b (List.mem_range.mpr hb)
  rw [h, Bool.not_true, Bool.false_or] at a
  exact see_pairs w (b, k) (List.contains_iff_mem.mp a)
noncomputable def lamM : Nat := 105759679192607
noncomputable def lamT : List (Nat × Nat × UInt64 × UInt64 × UInt64 × UInt64) := [(0, 0, 0, 0, 0, 0), (0, 1, 0, 4593671619917905920, 4593671619917905920, 4607182418800017408), (1, 2, 4593671619917905920, 4598175219545276416, 4598175219545276416, 4611686018427387904), (1, 1, 4593671619917905920, 4593671619917905920, 4593671619917905920, 4607182418800017408), (2, 2, 4598175219545276416, 4598175219545276416, 4598175219545276416, 4611686018427387904), (2, 3, 4598175219545276416, 4600427019358961664, 4600427019358961664, 4613937818241073152), (2, 4, 4598175219545276416, 4602678819172646912, 4602678819172646912, 4616189618054758400), (3, 3, 4600427019358961664, 4600427019358961664, 4600427019358961664, 4613937818241073152), (3, 4, 4600427019358961664, 4602678819172646912, 4602678819172646912, 4616189618054758400), (4, 4, 4602678819172646912, 4602678819172646912, 4602678819172646912, 4616189618054758400), (4, 5, 4602678819172646912, 4603804719079489536, 4603804719079489536, 4617315517961601024), (1, 3, 4593671619917905920, 4600427019358961664, 4600427019358961664, 4613937818241073152), (1, 4, 4593671619917905920, 4602678819172646912, 4602678819172646912, 4616189618054758400), (5, 5, 4603804719079489536, 4603804719079489536, 4603804719079489536, 4617315517961601024), (0, 2, 0, 4598175219545276416, 4598175219545276416, 4611686018427387904), (0, 3, 0, 4600427019358961664, 4600427019358961664, 4613937818241073152), (0, 4, 0, 4602678819172646912, 4602678819172646912, 4616189618054758400), (5, 6, 4603804719079489536, 4604930618986332160, 4604930618986332160, 4618441417868443648)]
theorem lamD : (lamT.all fun t => lamB t.1 t.2.1 t.2.2.1 t.2.2.2.1 t.2.2.2.2.1 t.2.2.2.2.2) = true := by decide +kernel
noncomputable def LR (w : World) (b : Nat) (fa fb v p : UInt64) : Prop := ∃ h s, OK w (rgbK fa fb fa h s v) ∧ OK w (intK p b)
theorem lamH (w : World) : ∀ t ∈ lamT, LR w t.2.1 t.2.2.1 t.2.2.2.1 t.2.2.2.2.1 t.2.2.2.2.2 := ac ⟨_, _, rgb44.ok w, int0.ok w⟩ (ac ⟨_, _, rgb45.ok w, int1.ok w⟩ (ac ⟨_, _, rgb46.ok w, int2.ok w⟩ (ac ⟨_, _, rgb47.ok w, int1.ok w⟩ (ac ⟨_, _, rgb48.ok w, int2.ok w⟩ (ac ⟨_, _, rgb49.ok w, int3.ok w⟩ (ac ⟨_, _, rgb50.ok w, int4.ok w⟩ (ac ⟨_, _, rgb51.ok w, int3.ok w⟩ (ac ⟨_, _, rgb52.ok w, int4.ok w⟩ (ac ⟨_, _, rgb53.ok w, int4.ok w⟩ (ac ⟨_, _, rgb54.ok w, int5.ok w⟩ (ac ⟨_, _, rgb55.ok w, int3.ok w⟩ (ac ⟨_, _, rgb56.ok w, int4.ok w⟩ (ac ⟨_, _, rgb57.ok w, int5.ok w⟩ (ac ⟨_, _, rgb58.ok w, int2.ok w⟩ (ac ⟨_, _, rgb59.ok w, int3.ok w⟩ (ac ⟨_, _, rgb60.ok w, int4.ok w⟩ (ac ⟨_, _, rgb61.ok w, int6.ok w⟩ (ac_nil))))))))))))))))))
noncomputable def lamL : List (Nat × Nat) := lamT.map fun t => (t.1, t.2.1)
theorem lam_pairs (w : World) : ∀ p ∈ lamL, LampP w p.1 p.2 := fun p hp => by
  obtain ⟨t, ht, e⟩ := List.mem_map.mp hp
  obtain ⟨h, s, h1, h2⟩ := lamH w t ht
  rw [← e]
  exact lam_of (List.all_eq_true.mp lamD t ht) h1 h2
theorem lam_bits (w : World) (a b : Nat) (h : (Nat.blt b 8 && bit lamM (8 * a + b)) = true) : LampP w a b := by
  rw [Bool.and_eq_true] at h
  have hb : b < 8 := Nat.le_of_ble_eq_true h.1
  have ha : 8 * a + b < 128 := by
    have := h.2
    unfold bit at this
    rw [Bool.and_eq_true] at this
    exact Nat.le_of_ble_eq_true this.1
  have key : ((List.range 16).all fun a => (List.range 8).all fun b => !bit lamM (8 * a + b) || lamL.contains (a, b)) = true := by decide +kernel
  have e := List.all_eq_true.mp (List.all_eq_true.mp key a (List.mem_range.mpr (by omega))) b (List.mem_range.mpr hb)
  rw [h.2, Bool.not_true, Bool.false_or] at e
  exact lam_pairs w (a, b) (List.contains_iff_mem.mp e)
/-! ## the plain law: 3125 rows of heights -/
noncomputable def al5 (f : Nat → Bool) : Bool := f 0 && (f 1 && (f 2 && (f 3 && f 4)))
theorem al5_ok {f : Nat → Bool} (h : al5 f = true) (a : Nat) (ha : a < 5) : f a = true := by
  unfold al5 at h
  simp only [Bool.and_eq_true] at h
  obtain ⟨h0, h1, h2, h3, h4⟩ := h
  match a, ha with
  | 0, _ => exact h0
  | 1, _ => exact h1
  | 2, _ => exact h2
  | 3, _ => exact h3
  | 4, _ => exact h4
noncomputable def mxA (a b : Nat) : Nat := a + (b - a)
noncomputable def mnA (a b : Nat) : Nat := a - (a - b)
theorem mxA_eq (a b : Nat) : mxA a b = mx a b := by unfold mxA mx; split <;> omega
theorem mnA_eq (a b : Nat) : mnA a b = mn a b := by unfold mnA mn; split <;> omega
noncomputable def lA2 (a b : Nat) : Nat := 1 + mxA a b
noncomputable def lA3 (a b c : Nat) : Nat := mnA (1 + mxA a (lA2 b c)) (1 + mxA (lA2 a b) c)
noncomputable def lA4 (a b c d : Nat) : Nat := mnA (mnA (1 + mxA a (lA3 b c d)) (1 + mxA (lA2 a b) (lA2 c d))) (1 + mxA (lA3 a b c) d)
noncomputable def lA5 (a b c d e : Nat) : Nat := mnA (mnA (mnA (1 + mxA a (lA4 b c d e)) (1 + mxA (lA2 a b) (lA3 c d e))) (1 + mxA (lA3 a b c) (lA2 d e))) (1 + mxA (lA4 a b c d) e)
theorem lA5_eq (a b c d e : Nat) : lA5 a b c d e = lo5 a b c d e := by
  unfold lA5 lA4 lA3 lA2 lo5 lo4 lo3 lo2
  simp only [mxA_eq, mnA_eq]
noncomputable def su (a b c d e : Nat) : Nat := 2 ^ a + 2 ^ b + 2 ^ c + 2 ^ d + 2 ^ e
noncomputable def ckE (H B s y0 y1 y2 y3 y4 z : Nat) : Bool := Nat.beq B (y0 + 256 * y1 + 65536 * y2 + 16777216 * y3 + 4294967296 * y4) && (bit (seeM H) y0 && (bit (seeM H) y1 && (bit (seeM H) y2 && (bit (seeM H) y3 && (bit (seeM H) y4 && (bit douM z && (Nat.beq H (dz z) && (Nat.blt H 8 && (Nat.beq H (dz s) || Nat.beq H (dz s + 1))))))))))
noncomputable def ckH (a b c d e : Nat) : Bool := goN 8 0 [(a, 0, 1), (b, 1, 2), (c, 2, 3), (d, 3, 4), (e, 4, 5)] 0 fun H B => Nat.beq H (lA5 a b c d e) &&
  (fun y0 => (fun y1 => (fun y2 => (fun y3 => (fun y4 => ckE H B (su a b c d e) y0 y1 y2 y3 y4 (y4 + 2 ^ e)) (bl (y3 + 2 ^ d) e)) (bl (y2 + 2 ^ c) d)) (bl (y1 + 2 ^ b) c)) (bl (y0 + 2 ^ a) b)) (bl 0 a)
theorem ckH0 : (al5 fun b => al5 fun c => al5 fun d => al5 fun e => ckH 0 b c d e) = true := by decide +kernel
theorem ckH1 : (al5 fun b => al5 fun c => al5 fun d => al5 fun e => ckH 1 b c d e) = true := by decide +kernel
theorem ckH2 : (al5 fun b => al5 fun c => al5 fun d => al5 fun e => ckH 2 b c d e) = true := by decide +kernel
theorem ckH3 : (al5 fun b => al5 fun c => al5 fun d => al5 fun e => ckH 3 b c d e) = true := by decide +kernel
theorem ckH4 : (al5 fun b => al5 fun c => al5 fun d => al5 fun e => ckH 4 b c d e) = true := by decide +kernel
theorem ckH_all {a b c d e : Nat} (ha : a < 5) (hb : b < 5) (hc : c < 5) (hd : d < 5) (he : e < 5) : ckH a b c d e = true := by
  have key : (al5 fun b => al5 fun c => al5 fun d => al5 fun e => ckH a b c d e) = true := by
    match a, ha with
    | 0, _ => exact ckH0
    | 1, _ => exact ckH1
    | 2, _ => exact ckH2
    | 3, _ => exact ckH3
    | 4, _ => exact ckH4
  exact al5_ok (al5_ok (al5_ok (al5_ok key b hb) c hc) d hd) e he
/-! ## the falling rows -/
noncomputable def lmB (a b : Nat) : Bool := Nat.blt b 8 && bit lamM (8 * a + b)
noncomputable def ckM (a0 a1 a2 a3 a4 : Nat) : Bool := lmB a0 a1 && match srt [a2, a3, a4, a1 + 1] with
  | [b0, b1, b2, b3] => lmB b0 b1 && match srt [b2, b3, b1 + 1] with
    | [c0, c1, c2] => lmB c0 c1 && match srt [c2, c1 + 1] with
      | [d0, d1] => lmB d0 d1 && (Nat.beq (d1 + 1) (dz (su a0 a1 a2 a3 a4)) && (Nat.beq (lA5 a4 a3 a2 a1 a0) (dz (su a0 a1 a2 a3 a4)) && bit douM (su a0 a1 a2 a3 a4)))
      | _ => false
    | _ => false
  | _ => false
theorem ckMs : (al5 fun a => al5 fun b => Nat.blt b a || (al5 fun c => Nat.blt c b || (al5 fun d => Nat.blt d c || (al5 fun e => Nat.blt e d || ckM a b c d e)))) = true := by decide +kernel
theorem blt_no {a b : Nat} {x : Bool} (h : (Nat.blt b a || x) = true) (hl : a ≤ b) : x = true := by
  rw [Bool.or_eq_true] at h
  rcases h with h | h
  · have : b < a := Nat.le_of_ble_eq_true h
    omega
  · exact h
theorem ckM_all {a b c d e : Nat} (h1 : a ≤ b) (h2 : b ≤ c) (h3 : c ≤ d) (h4 : d ≤ e) (he : e < 5) : ckM a b c d e = true := by
  have k1 := al5_ok ckMs a (by omega)
  have k2 := blt_no (al5_ok k1 b (by omega)) h1
  have k3 := blt_no (al5_ok k2 c (by omega)) h2
  have k4 := blt_no (al5_ok k3 d (by omega)) h3
  exact blt_no (al5_ok k4 e (by omega)) h4
theorem lam2 (w : World) {x0 x1 x2 x3 x4 x5 x6 x7 x8 x9 x11 x12 x13 x14 x21 x22 x23 x31 x32 : Nat}
    (s0 : srt [x0, x1, x2, x3, x4] = [x5, x6, x7, x8, x9]) (p0 : LampP w x5 x6)
    (s1 : srt [x7, x8, x9, x6 + 1] = [x11, x12, x13, x14]) (p1 : LampP w x11 x12)
    (s2 : srt [x13, x14, x12 + 1] = [x21, x22, x23]) (p2 : LampP w x21 x22)
    (s3 : srt [x23, x22 + 1] = [x31, x32]) (p3 : LampP w x31 x32) : OK w (lamK x0 x1 x2 x3 x4 (x32 + 1)) := by
  obtain ⟨y10, y11, y12, y13, y14, y15, a1, a2, a3, a4, a5⟩ := p0
  obtain ⟨y20, y21, y22, y23, y24, y25, b1, b2, b3, b4, b5⟩ := p1
  obtain ⟨y30, y31, y32, y33, y34, y35, c1, c2, c3, c4, c5⟩ := p2
  obtain ⟨y40, y41, y42, y43, y44, y45, d1, d2, d3, d4, d5⟩ := p3
  exact lam_ok w (u0 := s0 ▸ sort5 w _ _ _ _ _) (u1 := a1) (u2 := a2) (u3 := a3) (u4 := a4) (u5 := a5) (u6 := s1 ▸ sort4 w _ _ _ _) (u7 := b1) (u8 := b2) (u9 := b3) (u10 := b4) (u11 := b5)
    (u12 := s2 ▸ sort3 w _ _ _) (u13 := c1) (u14 := c2) (u15 := c3) (u16 := c4) (u17 := c5) (u18 := s3 ▸ sort2 w _ _) (u19 := d1) (u20 := d2) (u21 := d3) (u22 := d4) (u23 := d5) (u24 := sort1 w _)
theorem su_perm {a b c d e a' b' c' d' e' : Nat} (h : [a', b', c', d', e'].Perm [a, b, c, d, e]) : su a' b' c' d' e' = su a b c d e := by
  have := (h.map (2 ^ ·)).sum_nat
  simp only [List.map_cons, List.map_nil, List.sum_cons, List.sum_nil] at this
  unfold su
  omega
/-- lamps, doublings of the sizes, and the lowest tree of the falling row -/
theorem mixed_ok (w : World) {a b c d e : Nat} (ha : a < 5) (hb : b < 5) (hc : c < 5) (hd : d < 5) (he : e < 5) :
    OK w (lamK a b c d e (dz (su a b c d e))) ∧ OK w (douK (su a b c d e) (dz (su a b c d e))) ∧ ∃ z0 z1 z2 z3 z4, OK w (sorK true 7 [a, b, c, d, e] [z0, z1, z2, z3, z4]) ∧ OK w (lowK z0 z1 z2 z3 z4 (dz (su a b c d e))) := by
  have hp := srt_perm [a, b, c, d, e]
  have hw := srt_pw [a, b, c, d, e]
  have hR := sorR [a, b, c, d, e] rfl w
  generalize hs : srt [a, b, c, d, e] = l at hp hw hR
  have hl := hp.length_eq
  match l, hl, hp, hw, hR, hs with
  | [a0, a1, a2, a3, a4], _, hp, hw, hR, hs =>
    have e5 := su_perm hp
    simp only [List.pairwise_cons, List.mem_cons, List.not_mem_nil, or_false] at hw
    have b01 : a0 ≤ a1 := hw.1 a1 (.inl rfl)
    have b12 : a1 ≤ a2 := hw.2.1 a2 (.inl rfl)
    have b23 : a2 ≤ a3 := hw.2.2.1 a3 (.inl rfl)
    have b34 : a3 ≤ a4 := hw.2.2.2.1 a4 rfl
    have hm : a4 ∈ [a, b, c, d, e] := hp.mem_iff.mp (by simp)
    have h4 : a4 < 5 := by
      simp only [List.mem_cons, List.not_mem_nil, or_false] at hm
      rcases hm with h | h | h | h | h <;> omega
    have ck := ckM_all b01 b12 b23 b34 h4
    unfold ckM at ck
    rw [Bool.and_eq_true] at ck
    obtain ⟨p0, ck⟩ := ck
    split at ck
    · rename_i c0 c1 c2 c3 s1
      rw [Bool.and_eq_true] at ck
      obtain ⟨p1, ck⟩ := ck
      split at ck
      · rename_i d0 d1 d2 s2
        rw [Bool.and_eq_true] at ck
        obtain ⟨p2, ck⟩ := ck
        split at ck
        · rename_i f0 f1 s3
          simp only [Bool.and_eq_true] at ck
          obtain ⟨p3, k1, k2, k3⟩ := ck
          have k1 := Nat.eq_of_beq_eq_true k1
          have k2 := Nat.eq_of_beq_eq_true k2
          rw [lA5_eq] at k2
          rw [e5] at k1 k2 k3
          refine ⟨?_, dou_all w _ k3, a4, a3, a2, a1, a0, hR, ?_⟩
          · rw [← k1]
            exact lam2 w hs (lam_bits w _ _ p0) s1 (lam_bits w _ _ p1) s2 (lam_bits w _ _ p2) s3 (lam_bits w _ _ p3)
          · rw [← k2]
            exact low_all w _ _ _ _ _
        · cases ck
      · cases ck
    · cases ck
theorem two_mem {a : Nat} (h : a < 5) : 2 ^ a ∈ two5 := by
  match a, h with
  | 0, _ => decide
  | 1, _ => decide
  | 2, _ => decide
  | 3, _ => decide
  | 4, _ => decide
theorem ne_self (x : Nat) : (Int.ofNat x != Int.ofNat x) = false := by rw [bne_self_eq_false']
theorem powL (w : World) {h : Nat} (hh : h < 8) : OK w (powC 2 (Int.ofNat h) (Int.ofNat (2 ^ h))) := powC_ok (pow_fits hh) (pow_nat h)
/-- the fold of the rows, whatever way it comes in -/
noncomputable def FoldP (w : World) : Prop := (∀ r ∈ srAll, r.ok) ∧ ∀ L R h, OK w (endG w.params h L (R + 1))
theorem law_core (w : World) (hF : FoldP w) (hfol : ∀ x0 x1 x2 x3 x4 x5 F, OK w (stG w.params 0 5 [(x0, 0, 1), (x1, 1, 2), (x2, 2, 3), (x3, 3, 4), (x4, 4, 5)] 0 8 x5 F) → OK w (folK x0 x1 x2 x3 x4 x5 F)) {a b c d e : Nat} (ha : a < 5) (hb : b < 5) (hc : c < 5) (hd : d < 5) (he : e < 5) (zr : List Value) (u0 : OK w (heiK zr [a, b, c, d, e])) : OK w (lawK zr) := by
  obtain ⟨m1, m2, z0, z1, z2, z3, z4, m3, m4⟩ := mixed_ok w ha hb hc hd he
  have sm := sum_all w (two_mem ha) (two_mem hb) (two_mem hc) (two_mem hd) (two_mem he)
  obtain ⟨H, F, f1, f2, f3, f4⟩ := goN_ok w hF.1 hF.2 8 0 _ 0 _ rfl ⟨rfl, fun k hk => by
    simp only [List.mem_cons, List.not_mem_nil, or_false] at hk
    rcases hk with rfl | rfl | rfl | rfl | rfl <;> exact .inr rfl, fun _ => rfl⟩ (ckH_all ha hb hc hd he)
  rw [Bool.and_eq_true] at f4
  obtain ⟨g1, g2⟩ := f4
  have g1 := Nat.eq_of_beq_eq_true g1
  rw [lA5_eq] at g1
  have f1 := hfol _ _ _ _ _ _ _ f1
  have low := low_all w a b c d e
  rw [← g1] at low
  obtain ⟨y0, hy0⟩ : ∃ y, bl 0 a = y := ⟨_, rfl⟩
  obtain ⟨y1, hy1⟩ : ∃ y, bl (y0 + 2 ^ a) b = y := ⟨_, rfl⟩
  obtain ⟨y2, hy2⟩ : ∃ y, bl (y1 + 2 ^ b) c = y := ⟨_, rfl⟩
  obtain ⟨y3, hy3⟩ : ∃ y, bl (y2 + 2 ^ c) d = y := ⟨_, rfl⟩
  obtain ⟨y4, hy4⟩ : ∃ y, bl (y3 + 2 ^ d) e = y := ⟨_, rfl⟩
  have g2 : ckE H (0 + code F) (su a b c d e) y0 y1 y2 y3 y4 (y4 + 2 ^ e) = true := by
    rw [← hy4, ← hy3, ← hy2, ← hy1, ← hy0]
    exact g2
  unfold ckE at g2
  simp only [Bool.and_eq_true, Bool.or_eq_true] at g2
  obtain ⟨e0, i0, i1, i2, i3, i4, i5, i6, i7, i8⟩ := g2
  have bl' : ∀ {m y : Nat}, bit m y = true → y < 128 := fun h => by
    unfold bit at h
    rw [Bool.and_eq_true] at h
    exact Nat.le_of_ble_eq_true h.1
  have l0 := bl' i0
  have l1 := bl' i1
  have l2 := bl' i2
  have l3 := bl' i3
  have l4 := bl' i4
  have e0 := Nat.eq_of_beq_eq_true e0
  rw [Nat.zero_add] at e0
  have fb : ∀ i, F i 0 < 256 := fun i => by have := f3 i; omega
  obtain ⟨q0, q1, q2, q3, q4⟩ := code_inj fb (by omega) (by omega) (by omega) (by omega) (by omega) e0
  have mono : ∀ p h, h < 5 → p ≤ bl p h := fun p h _ => by
    unfold bl ceilD
    have h0 : 0 < 2 ^ h := Nat.two_pow_pos h
    have h1 := Nat.div_add_mod (p + 2 ^ h - 1) (2 ^ h)
    have h2 := Nat.mod_lt (p + 2 ^ h - 1) h0
    rw [Nat.mul_comm] at h1
    omega
  have t1 := mono (y0 + 2 ^ a) b hb
  have t2 := mono (y1 + 2 ^ b) c hc
  have t3 := mono (y2 + 2 ^ c) d hd
  have t4 := mono (y3 + 2 ^ d) e he
  rw [hy1] at t1
  rw [hy2] at t2
  rw [hy3] at t3
  rw [hy4] at t4
  have lz : y4 + 2 ^ e < 128 := bl' i5
  have top : y4 < 100 := by
    have : ∀ k, k < 8 → ∀ y, y < 128 → bit (seeM k) y = true → y < 100 := by
      have key : ((List.range 8).all fun k => (List.range 128).all fun y => !bit (seeM k) y || Nat.blt y 100) = true := by decide +kernel
      intro k hk y hy h
      have a := List.all_eq_true.mp (List.all_eq_true.mp key k (List.mem_range.mpr hk)) y (List.mem_range.mpr hy)
      rw [h, Bool.not_true, Bool.false_or] at a
      exact Nat.le_of_ble_eq_true a
    exact this H (Nat.le_of_ble_eq_true i7) y4 l4 i4
  have v1 : y1 ≤ y2 := Nat.le_trans (Nat.le_add_right ..) t2
  have v2 : y2 ≤ y3 := Nat.le_trans (Nat.le_add_right ..) t3
  have v3 : y3 ≤ y4 := Nat.le_trans (Nat.le_add_right ..) t4
  have blo := blo_all w ha hb hc hd he hy0 hy1 hy2 hy3 hy4 (Nat.lt_of_le_of_lt t1 (by omega)) (Nat.lt_of_le_of_lt t2 (by omega)) (Nat.lt_of_le_of_lt t3 (by omega)) (Nat.lt_of_le_of_lt t4 (by omega))
  have i6 := Nat.eq_of_beq_eq_true i6
  have dou := dou_all w _ i5
  rw [← i6] at dou
  have i7 : H < 8 := Nat.le_of_ble_eq_true i7
  obtain ⟨s0, p0, c0⟩ := see_bits w _ _ i0
  obtain ⟨s1, p1, c1⟩ := see_bits w _ _ i1
  obtain ⟨s2, p2, c2⟩ := see_bits w _ _ i2
  obtain ⟨s3, p3, c3⟩ := see_bits w _ _ i3
  obtain ⟨s4, p4, c4⟩ := see_bits w _ _ i4
  have see := see_all w p0 p1 p2 p3 p4
  rw [← q0, ← q1, ← q2, ← q3, ← q4] at see
  have fne := fneK_ok (prog := pw) (w := w) (kt := KTm w.params) c0 c1 c2 c3 c4
  unfold su at m1 m2 m4 i8
  rcases i8 with i8 | i8
  · have i8 := Nat.eq_of_beq_eq_true i8
    rw [← i8] at m1 m2 m4
    exact law0_ok w (u0 := u0) (u1 := f1) (u2 := blo) (u3 := low) (u4 := kneK_ok rfl) (u5 := dou) (u6 := neC_ok (ne_self _)) (u7 := powL w i7) (u8 := see) (u9 := fne) (u10 := m1)
      (u11 := powG w ha) (u12 := powG w hb) (u13 := powG w hc) (u14 := powG w hd) (u15 := powG w he) (u16 := sm) (u17 := m2) (u18 := m3) (u19 := m4) (u20 := eqC_ok (beq_self_eq_true _))
  · have i8 := Nat.eq_of_beq_eq_true i8
    generalize dz (2 ^ a + 2 ^ b + 2 ^ c + 2 ^ d + 2 ^ e) = M at m1 m2 m4 i8
    subst i8
    exact law1_ok w (u0 := u0) (u1 := f1) (u2 := blo) (u3 := low) (u4 := kneK_ok rfl) (u5 := dou) (u6 := neC_ok (ne_self _)) (u7 := powL w i7) (u8 := see) (u9 := fne) (u10 := m1)
      (u11 := powG w ha) (u12 := powG w hb) (u13 := powG w hc) (u14 := powG w hd) (u15 := powG w he) (u16 := sm) (u17 := m2) (u18 := neC_ok (ne_self _)) (u19 := m3) (u20 := m4) (u21 := eqC_ok (ofNat_ne (by omega))) (u22 := eqC_ok (beq_self_eq_true _))
theorem law_n (w : World) (hF : FoldP w) (hfol : ∀ x0 x1 x2 x3 x4 x5 F, OK w (stG w.params 0 5 [(x0, 0, 1), (x1, 1, 2), (x2, 2, 3), (x3, 3, 4), (x4, 4, 5)] 0 8 x5 F) → OK w (folK x0 x1 x2 x3 x4 x5 F)) (z : Nat → Int) (t : Nat → Nat) (n : Nat) (hn : n ≤ 63) : OK w (lawK (svF z t 0 n [])) := by
  obtain ⟨m, h⟩ := hei_all w z t n hn
  exact law_core w hF hfol (hx_lt m z 0) (hx_lt m z 1) (hx_lt m z 2) (hx_lt m z 3) (hx_lt m z 4) _ h
theorem law_ok (w : World) (z : Nat → Int) (t : Nat → Nat) (n : Nat) (hn : n ≤ 63) : OK w (lawK (svF z t 0 n [])) :=
  law_n w ⟨srAll_ok, fun L R h => ste_ok w L R h⟩ (fun x0 x1 x2 x3 x4 x5 F h => fol_ok w x0 x1 x2 x3 x4 x5 F h) z t n hn
end
noncomputable section
open PySem PySem.Spec PySem.W PySem.W.X PySem.Calls PyProof.Rows
/-! ## the head: what the law finds, and what it leaves -/
noncomputable def valsK : KT → Nat → Nat → List (Nat × Obj)
  | .nil, _, _ => []
  | .node v l r, s, b => (match v with
    | some o => (b, o) :: (valsK l (2 * s) (s + b) ++ valsK r (2 * s) (2 * s + b))
    | none => valsK l (2 * s) (s + b) ++ valsK r (2 * s) (2 * s + b))
theorem holds_vals {h : Heap} : ∀ (t : KT) (s b : Nat), (∀ p ∈ valsK t s b, h.get? p.1 = some p.2) → KT.Holds h s b t
  | .nil, _, _, _ => trivial
  | .node v l r, s, b, H => by
    have e : ∀ p, (v = some p.2 ∧ p.1 = b) ∨ p ∈ valsK l (2 * s) (s + b) ∨ p ∈ valsK r (2 * s) (2 * s + b) → h.get? p.1 = some p.2 := fun p hp => by
      refine H p ?_
      unfold valsK
      cases v with
      | none =>
        rcases hp with ⟨q, _⟩ | q
        · cases q
        · exact List.mem_append.mpr q
      | some o =>
        rcases hp with ⟨q, q'⟩ | q
        · obtain ⟨x, y⟩ := p
          cases q
          cases q'
          exact .head _
        · exact .tail _ (List.mem_append.mpr q)
    exact ⟨fun o ho => e (b, o) (.inl ⟨ho, rfl⟩), holds_vals l _ _ fun p hp => e p (.inr (.inl hp)), holds_vals r _ _ fun p hp => e p (.inr (.inr hp))⟩
theorem map_all {α β : Type} {f g : α → β} : ∀ {l : List α}, l.map f = l.map g → ∀ x ∈ l, f x = g x
  | a :: l, h, x, hx => by
    rw [List.map_cons, List.map_cons] at h
    injection h with h1 h2
    rcases List.mem_cons.mp hx with rfl | hx
    · exact h1
    · exact map_all h2 x hx
theorem sv_of : ∀ {vs : List Value} {ns : List Int}, IntsAre vs ns → ∀ i, ∃ z t, ∀ tl, svF z t i vs.length tl = vs ++ tl
  | _, _, .nil, i => ⟨fun _ => 0, fun _ => 0, fun tl => rfl⟩
  | _, _, .cons n t (vs := vs) h, i => by
    obtain ⟨z, u, e⟩ := sv_of h (i + 1)
    have hne : ∀ k j tl, i < j → svF (fun x => if x = i then n else z x) (fun x => if x = i then t else u x) j k tl = svF z u j k tl := by
      intro k
      induction k with
      | zero => intros; rfl
      | succ k ih =>
        intro j tl hj
        show Value.int (if j = i then n else z j) (if j = i then t else u j) :: svF _ _ (j + 1) k tl = _
        rw [if_neg (by omega), if_neg (by omega), ih (j + 1) tl (by omega)]
        rfl
    refine ⟨fun x => if x = i then n else z x, fun x => if x = i then t else u x, fun tl => ?_⟩
    show Value.int (if i = i then n else z i) (if i = i then t else u i) :: svF _ _ (i + 1) vs.length tl = _
    rw [if_pos rfl, if_pos rfl, hne vs.length (i + 1) tl (by omega), e tl]
    rfl
theorem sv_one {vs : List Value} {ns : List Int} (h : IntsAre vs ns) : ∃ z t, svF z t 0 vs.length [] = vs := by
  obtain ⟨z, t, e⟩ := sv_of h 0
  exact ⟨z, t, by rw [e, List.append_nil]⟩
/-- the law's own objects at the start -/
theorem starts {P : Params} {h : Heap} {sv : List Value} (β v : Nat → Nat) (H : ∀ a o, (KTm P).get a = some o → h.get? a = some o) (h1 : h.get? 162 = some tblNo) (h2 : h.get? 169 = some tblNo) (h3 : h.get? 258 = some (lis sv (v 1))) (hs : 259 ≤ h.objs.size) (hl : h.NoLimit) :
    RepS h 3 (KTm P) h (putAll .nil (idx 0 ((lawK sv).pre β v))) := by
  have get : ∀ i a o, (putAll .nil (idx 0 ((lawK sv).pre β v))).get i = some (a, o) → (i = 0 ∧ a = 162 ∧ o = tblNo) ∨ (i = 1 ∧ a = 169 ∧ o = tblNo) ∨ (i = 2 ∧ a = 258 ∧ o = lis sv (v 1)) := fun i a o e => by
    rw [idx_get (by show 3 ≤ 4096; decide)] at e
    match i, e with
    | 0, e =>
      have e : some ((162, tblNo) : Own) = some (a, o) := e
      injection e with e
      injection e with e1 e2
      exact .inl ⟨rfl, e1.symm, e2.symm⟩
    | 1, e =>
      have e : some ((169, tblNo) : Own) = some (a, o) := e
      injection e with e
      injection e with e1 e2
      exact .inr (.inl ⟨rfl, e1.symm, e2.symm⟩)
    | 2, e =>
      have e : some ((258, lis sv (v 1)) : Own) = some (a, o) := e
      injection e with e
      injection e with e1 e2
      exact .inr (.inr ⟨rfl, e1.symm, e2.symm⟩)
    | n + 3, e => cases e
  refine ⟨Nat.le_refl _, fun i a o e hi => ?_, hs, fun i a o e => ?_, fun i j a o p e e' => ?_, H, fun i a o e => ?_, fun b o e _ => e, hl⟩
  · rcases get i a o e with ⟨q, _⟩ | ⟨q, _⟩ | ⟨q, _⟩ <;> omega
  · rcases get i a o e with ⟨_, q, q'⟩ | ⟨_, q, q'⟩ | ⟨_, q, q'⟩
    · rw [q, q']; exact h1
    · rw [q, q']; exact h2
    · rw [q, q']; exact h3
  · rcases get i a o e with ⟨q, r, _⟩ | ⟨q, r, _⟩ | ⟨q, r, _⟩ <;> rcases get j a p e' with ⟨q', r', _⟩ | ⟨q', r', _⟩ | ⟨q', r', _⟩ <;> first | exact q.trans q'.symm | exact absurd (r.symm.trans r') (by decide)
  · rcases get i a o e with ⟨_, q, _⟩ | ⟨_, q, _⟩ | ⟨_, q, _⟩
    · rw [q]; kernel_rfl
    · rw [q]; kernel_rfl
    · rw [q]; kernel_rfl
theorem ends {P : Params} {h₀ h : Heap} {sv : List Value} {β v τ : Nat → Nat} (R : RepS h₀ 3 (KTm P) h (putAll .nil ((lawK sv).L β v τ))) (h1 : h₀.get? 162 = some tblNo) (h2 : h₀.get? 169 = some tblNo) (h3 : h₀.get? 258 = some (lis sv (v 1))) (t1 : isCodeTable h₀ 162) (t2 : isCodeTable h₀ 169) :
    OldK h₀ h := by
  have eL : (lawK sv).L β v τ = [(0, (162, tblA (β 3))), (1, (169, tblB (β 4))), (2, (258, lis sv (v 1)))] := by kernel_rfl
  rw [eL] at R
  have g1 : h.get? 162 = some (tblA (β 3)) := R.own 0 162 _ (by kernel_rfl)
  have g2 : h.get? 169 = some (tblB (β 4)) := R.own 1 169 _ (by kernel_rfl)
  have g3 : h.get? 258 = some (lis sv (v 1)) := R.own 2 258 _ (by kernel_rfl)
  have get : ∀ i b o', (putAll .nil [(0, ((162, tblA (β 3)) : Own)), (1, (169, tblB (β 4))), (2, (258, lis sv (v 1)))]).get i = some (b, o') → b = 162 ∨ b = 169 ∨ b = 258 := fun i b o' e => by
    have e' : (putAll .nil (idx 0 [((162, tblA (β 3)) : Own), (169, tblB (β 4)), (258, lis sv (v 1))])).get i = some (b, o') := e
    rw [idx_get (by show 3 ≤ 4096; decide)] at e'
    match i, e' with
    | 0, e => 
      have e : some ((162, tblA (β 3)) : Own) = some (b, o') := e
      injection e with e
      injection e with e1 e2
      exact .inl e1.symm
    | 1, e =>
      have e : some ((169, tblB (β 4)) : Own) = some (b, o') := e
      injection e with e
      injection e with e1 e2
      exact .inr (.inl e1.symm)
    | 2, e =>
      have e : some ((258, lis sv (v 1)) : Own) = some (b, o') := e
      injection e with e
      injection e with e1 e2
      exact .inr (.inr e1.symm)
    | n + 3, e => cases e
  refine ⟨fun b o e => ?_, fun b o e => ?_⟩
  · by_cases b1 : b = 162
    · subst b1
      rw [h1] at e
      cases e
      exact .inr (.inl ⟨t1, rfl, #[], #[.int 148 0, .int 19 0, .ref (β 3)], rfl, g1⟩)
    · by_cases b2 : b = 169
      · subst b2
        rw [h2] at e
        cases e
        exact .inr (.inl ⟨t2, rfl, #[], #[.int 151 0, .int 32 0, .ref (β 4)], rfl, g2⟩)
      · by_cases b3 : b = 258
        · subst b3
          rw [h3] at e
          cases e
          exact .inl g3
        · exact .inl (R.keep b o e fun i o' q => by
            rcases get i b o' q with q | q | q
            · exact b1 q
            · exact b2 q
            · exact b3 q)
  · by_cases b1 : b = 162
    · subst b1; exact ⟨_, g1⟩
    · by_cases b2 : b = 169
      · subst b2; exact ⟨_, g2⟩
      · by_cases b3 : b = 258
        · subst b3; exact ⟨_, g3⟩
        · exact ⟨_, R.keep b o e fun i o' q => by
            rcases get i b o' q with q | q | q
            · exact b1 q
            · exact b2 q
            · exact b3 q⟩
/-- from the head on: the law answers True -/
theorem head_end {w : World} {s₁ : Shared} {big : KT} {c : ClaimW} {cl : Str → Option Addr} {mean : ExcName → Option Value} {args : List WData} {vs : List Value} {ns : List Int} {f1 f2 : Array Value}
    (ZH : KT.Holds s₁.heap 1 0 big) (e : (valsK (KTm w.params) 1 0).map (fun p => big.get p.1) = (valsK (KTm w.params) 1 0).map (fun p => some p.2))
    (e1 : big.get 162 = some (tableObj #[])) (e2 : big.get 169 = some (tableObj #[])) (c1 : big.get 166 = some ⟨.type "code", none, .fields f1, #[]⟩) (c2 : big.get 173 = some ⟨.type "code", none, .fields f2, #[]⟩) (d1 : f1[11]? = some (.ref 162)) (d2 : f2[11]? = some (.ref 169))
    (hol : s₁.heap.get? 258 = some (lis vs 0)) (hi : IntsAre vs ns) (hn : ns.length ≤ 63) (hsz : s₁.heap.objs.size = 258 + 1) (htk : 556 ≤ s₁.toks) (hlim : s₁.heap.NoLimit) (hg : s₁.gens = #[])
    (law : ∀ (z : Nat → Int) (t : Nat → Nat) (n : Nat), n ≤ 63 → OK w (lawK (svF z t 0 n [])))
    (hr : ∀ cls, c.raises args cls = false) (hp : c.post args (.bool true) args = true) {E : Value → Shared → Prop} :
    wpAny (model pw w) callerA (call (.ref 257) [.ref 258]) (fun v s' => GoodWG c cl mean args s₁ (.ok (.ret v)) s') E s₁ := by
  obtain ⟨z, t, ez⟩ := sv_one hi
  have hlen : vs.length ≤ 63 := by
    have : vs.length = ns.length := by
      clear hol hn ez
      induction hi with
      | nil => rfl
      | cons n t _ ih => simp [ih]
    omega
  have L := law z t vs.length hlen
  rw [ez] at L
  have H : ∀ a o, (KTm w.params).get a = some o → s₁.heap.get? a = some o := fun a o q => kt_at (holds_vals (KTm w.params) 1 0 fun p hp => kt_at ZH (map_all e p hp)) q
  have t1 := (table_kt ZH c1 rfl d1 e1)
  have t2 := (table_kt ZH c2 rfl d2 e2)
  have h1 : s₁.heap.get? 162 = some tblNo := kt_at ZH e1
  have h2 : s₁.heap.get? 169 = some tblNo := kt_at ZH e2
  refine wpAny_call ?_
  obtain ⟨_, run⟩ := L
  refine run (fun _ => 0) (fun _ => 0) callerA s₁.heap s₁.gens s₁.toks s₁.drawn s₁.os _ rfl ?_ ?_ (starts _ _ H h1 h2 hol (Nat.le_of_eq hsz.symm) hlim) htk fun β' τ' h' g' tk' hβ R hs hgk htk' => ?_
  · show (1 + claimMargin) + 150 < recursionLimit
    decide
  · show 4 + 2 * 150 < cLine
    decide
  · refine ⟨.inl ⟨.bool true, .bool true, [], rfl, hr, .bool true, hp, fun _ => ⟨List.nodup_nil, fun a ha => by cases ha⟩⟩, ends R h1 h2 hol ?_ ?_, rfl, hgk.2 (.of_eq hg)⟩
    · obtain ⟨_, q⟩ := t1; exact q.isCodeTable
    · obtain ⟨_, q⟩ := t2; exact q.isCodeTable
end
noncomputable def dataF (o : PySem.Obj) : Array PySem.Value := match o.data with
  | .fields v => v
  | _ => #[]
end Mine
open PySem PySem.W PySem.W.X PySem.W.ZRun PyProof.Rows
theorem Mine.leftO_two {p q : Program} {loose : List Str} {Xt : Shared → Bool} {α : Type} {Yf : Shared → α} {Ya : World → α} {N : Nat} {g0 : Bool} (row : String)
    (hf : ∀ w : World, (openEnds treeTable p (w.withFollow row false) N).map (fun s => (openSeen q loose (importedModules p.main.body) Xt g0 s, Yf s)) = some (openGood q loose, Ya (w.withFollow row false)))
    (ht : ∀ w : World, (openEnds treeTable p (w.withFollow row true) N).map (fun s => (openSeen q loose (importedModules p.main.body) Xt g0 s, Yf s)) = some (openGood q loose, Ya (w.withFollow row true))) : LeftO p q loose Xt Yf Ya N g0 :=
  fun w => byRow2 row (P := fun w => (openEnds treeTable p w N).map (fun s => (openSeen q loose (importedModules p.main.body) Xt g0 s, Yf s)) = some (openGood q loose, Ya w)) hf ht w
theorem Mine.npv {P : Prop} (h : Nonempty P) : P := h.elim id
local macro_rules
  | `(tactic| refine $t:term) => match t with
    | `($f:ident $_*) => if f.getId == ``PySem.W.holds_openX then
        `(tactic| (refine ($t); focus (refine Mine.leftO_two "special-get-raises" ?hf ?ht; refine (?f : (_ : type_of% ?hf) → type_of% ?hf) ?p; rotate_left; exact (by intro w; kernel_rfl); (case f => exact fun _ => letI h : Nonempty (type_of% ?hf) := Nonempty.intro ?p; Mine.npv (inferInstanceAs (type_of% h))); refine (?f2 : (_ : type_of% ?ht) → type_of% ?ht) ?p2; rotate_left; exact (by intro w; kernel_rfl); (case f2 => exact fun _ => letI h : Nonempty (type_of% ?ht) := Nonempty.intro ?p2; Mine.npv (inferInstanceAs (type_of% h)))))) else Lean.Macro.throwUnsupported
    | _ => Lean.Macro.throwUnsupported
set_option maxHeartbeats 0 in
theorem PySem.Challenge.cw_tv0043_01_holds : PySem.Challenge.rw_tv0043_01.Holds := by
  w_on; o_law; z_head
  (case hw => w_witness2)
  k_fill
  intro w s₀ s₁ mg mb G y fa o pm cd doc dV kV ho hd hcd hD hmg hg args vals as L hpre hlay hrd hwl hlo
  z_open y L KX ZH ZN ZT
  refine Ground.open G ?_
  intro T B D TE TW
  wrow_args hpre hlay hrd hwl hlo
  obtain ⟨hat, hsz⟩ := script_at L
  have htk := script_toks L ZT
  rw [ZN] at hat hsz
  subst hat
  x_fa T KX hmg
  all_lens
  x_auto
  all_goals (z_lists L; z_lens)
  all_goals (rename (Heap.get? _ 258 = _) => hol)
  all_goals first
    | refine Mine.head_end (f1 := Mine.dataF (Mine.zo166 w.params)) (f2 := Mine.dataF (Mine.zo173 w.params)) ZH ?_ ?_ ?_ ?_ ?_ ?_ ?_ hol (.nil) ?_ hsz htk T.nolimit hg (fun z t n hn => Mine.law_ok w z t n hn) (fun _ => rfl) ?_
    | refine Mine.head_end (f1 := Mine.dataF (Mine.zo166 w.params)) (f2 := Mine.dataF (Mine.zo173 w.params)) ZH ?_ ?_ ?_ ?_ ?_ ?_ ?_ hol (.cons _ _ (by assumption)) ?_ hsz htk T.nolimit hg (fun z t n hn => Mine.law_ok w z t n hn) (fun _ => rfl) ?_
  all_goals first
    | (show _ ≤ 63; simp only [List.length_cons, List.length_nil]; omega)
    | kernel_rfl
