import PyProof.Rows.All
import Wide.All
import OpenK.AllK
import Wide.FinOn
import Lean
import PySem.Challenge.RW_is0010_01
set_option Elab.async false
set_option linter.all false
set_option rowWalk.seconds 0
section PartH0
namespace Mine
open PySem PySem.W

/-- a big-step evaluator over the tree heap; it follows wp -/
noncomputable def ev (tb : String → Option Builtin) (prog : Program) (w : World) : Nat → Ctx → Pos → Sem Fin → SharedT → Option (Result × Pos × SharedT)
  | 0, _, _, _, _ => none
  | n + 1, Γ, p, t, s => match t with
    | .pure (.done f) => some (.ok f, p, s)
    | .pure (.again c) => match c.quiet with
      | true => ev tb prog w n (Γ.goto c) p (denote tb c) s
      | false => none
    | .raise e => some (.error e, p, s)
    | .rule _ k => ev tb prog w n Γ p (k ()) s
    | .at p' k => ev tb prog w n Γ p' (k ()) s
    | .point _ k => ev tb prog w n Γ p (k ()) s
    | .ask k => ev tb prog w n Γ p (k ⟨prog, w.params⟩) s
    | .handled own k => ev tb prog w n Γ p (k (match own with | true => Γ.own | false => Γ.handled)) s
    | .stack k => ev tb prog w n Γ p (k ((Γ.code, p) :: Γ.below)) s
    | .thread k => ev tb prog w n Γ p (k 0) s
    | .fresh k => match s with
      | ⟨T, m, life, gens, drawn, toks, os⟩ => ev tb prog w n Γ p (k toks) ⟨T, m, life, gens, drawn, toks + 1, os⟩
    | .load a _ k => match s with
      | ⟨T, m, life, gens, drawn, toks, os⟩ => match Nat.blt a m with
        | true => match T.get a with
          | some o => match alive o with
            | some o' => ev tb prog w n Γ p (k o') ⟨T, m, life, gens, drawn, toks, os⟩
            | none => none
          | none => none
        | false => none
    | .update a _ f k => match s with
      | ⟨T, m, life, gens, drawn, toks, os⟩ => match Nat.blt a m with
        | true => match T.get a with
          | some o => match alive o with
            | some _ => ev tb prog w n Γ p (k ()) ⟨T.set a f, m, life, gens, drawn, toks, os⟩
            | none => none
          | none => none
        | false => none
    | .loadIfAlive a k => match s with
      | ⟨T, m, life, gens, drawn, toks, os⟩ => match Nat.blt a m with
        | true => match T.get a with
          | some o => ev tb prog w n Γ p (k (alive o)) ⟨T, m, life, gens, drawn, toks, os⟩
          | none => none
        | false => ev tb prog w n Γ p (k none) ⟨T, m, life, gens, drawn, toks, os⟩
    | .alloc o k => match s with
      | ⟨T, m, life, gens, drawn, toks, os⟩ => match ((T.ins m o).get m).isSome with
        | true => ev tb prog w n Γ p (k m) ⟨T.ins m o, m + 1, life, gens, drawn, toks, os⟩
        | false => none
    | .call c h _ _ k => match ev tb prog w n (Γ.enter c h p) p (denote tb c) s with
      | some (r, _, s') => ev tb prog w n Γ p (k r) s'
      | none => none
    | _ => none

section
variable {prog : Program} {w : World}
theorem get_of {T : BT} {m : Nat} {life : Life} {a : Nat} {o o' : Obj} (e : Nat.blt a m = true) (g : T.get a = some o) (al : alive o = some o') : (absHeap T m life).get? a = some o' :=
  (abs_get (Nat.le_of_ble_eq_true e) g).trans al

theorem ev_runs : ∀ (n : Nat) (Γ : Ctx) (p : Pos) (t : Sem Fin) (s : SharedT) (r : Result) (p' : Pos) (s' : SharedT),
    ev table prog w n Γ p t s = some (r, p', s') → Runs (model prog w) Γ p t [] s.abs (.ret r) s'.abs
  | 0, _, _, _, _, _, _, _, h => by cases h
  | n + 1, Γ, p, t, s, r, p', s', h => by
    obtain ⟨T, m, life, gens, drawn, toks, os⟩ := s
    cases t with
    | pure f =>
      cases f with
      | done f => cases h; exact .done
      | again c =>
        conv at h => lhs; whnf
        cases q : c.quiet with
        | false => rw [q] at h; cases h
        | true => rw [q] at h; exact .again q (ev_runs n _ _ _ _ _ _ _ h)
    | raise e => cases h; exact .raise
    | rule tag k => exact .rule (ev_runs n _ _ _ _ _ _ _ h)
    | «at» q k => exact .at (ev_runs n _ _ _ _ _ _ _ h)
    | point l k => exact .point (ev_runs n _ _ _ _ _ _ _ h)
    | ask k => exact .ask (ev_runs n _ _ _ _ _ _ _ h)
    | handled own k =>
      refine .handled ?_
      have := ev_runs n _ _ _ _ _ _ _ h
      cases own <;> exact this
    | stack k => exact .stack (ev_runs n _ _ _ _ _ _ _ h)
    | thread k => exact .thread (ev_runs n _ _ _ _ _ _ _ h)
    | fresh k => exact .fresh (ev_runs n _ _ _ _ _ _ _ h)
    | load a q k =>
      conv at h => lhs; whnf
      cases e : Nat.blt a m with
      | false => rw [e] at h; cases h
      | true =>
        rw [e] at h
        cases g : T.get a with
        | none => simp only [g] at h; cases h
        | some o =>
          cases al : alive o with
          | none => simp only [g, al] at h; cases h
          | some o' =>
            simp only [g, al] at h
            exact .load (get_of e g al) (ev_runs n _ _ _ _ _ _ _ h)
    | update a q f k =>
      conv at h => lhs; whnf
      cases e : Nat.blt a m with
      | false => rw [e] at h; cases h
      | true =>
        rw [e] at h
        cases g : T.get a with
        | none => simp only [g] at h; cases h
        | some o =>
          cases al : alive o with
          | none => simp only [g, al] at h; cases h
          | some o' =>
            simp only [g, al] at h
            refine .update (by show ((absHeap T m life).get? a).isSome; rw [get_of e g al]; rfl) ?_
            have := ev_runs n _ _ _ _ _ _ _ h
            unfold SharedT.abs at this ⊢
            rw [absHeap_set g] at this
            exact this
    | loadIfAlive a k =>
      conv at h => lhs; whnf
      cases e : Nat.blt a m with
      | false =>
        rw [e] at h
        have lt : ¬ a < m := fun q => by rw [show Nat.blt a m = true from Nat.ble_eq_true_of_le q] at e; cases e
        refine .loadIfAlive ?_
        rw [show (SharedT.abs ⟨T, m, life, gens, drawn, toks, os⟩).heap.get? a = none from abs_get_none lt]
        exact ev_runs n _ _ _ _ _ _ _ h
      | true =>
        rw [e] at h
        cases g : T.get a with
        | none => simp only [g] at h; cases h
        | some o =>
          simp only [g] at h
          refine .loadIfAlive ?_
          rw [show (SharedT.abs ⟨T, m, life, gens, drawn, toks, os⟩).heap.get? a = alive o from abs_get (Nat.le_of_ble_eq_true e) g]
          exact ev_runs n _ _ _ _ _ _ _ h
    | alloc o k =>
      conv at h => lhs; whnf
      cases e : ((T.ins m o).get m).isSome with
      | false => rw [e] at h; cases h
      | true =>
        rw [e] at h
        refine .alloc ?_
        have := ev_runs n _ _ _ _ _ _ _ h
        unfold SharedT.abs at this ⊢
        rw [absHeap_ins e] at this
        rw [show (absHeap T m life).objs.size = m from absHeap_size T m life]
        exact this
    | call c hd g l k =>
      conv at h => lhs; whnf
      cases e : ev table prog w n (Γ.enter c hd p) p (denote table c) ⟨T, m, life, gens, drawn, toks, os⟩ with
      | none => rw [e] at h; cases h
      | some x =>
        obtain ⟨r₁, p₁, s₁⟩ := x
        rw [e] at h
        exact .call (ev_runs n _ _ _ _ _ _ _ e) (ev_runs n _ _ _ _ _ _ _ h)
    | unsupported | finish | register | choose | os | newGen | genState | resume | «yield» | fork | await => cases h

/-- the same for a tree with values of its own: they are read off a leaf -/
theorem ev_wp {α : Type} (emb : α → Flow) : ∀ (n : Nat) (Γ : Ctx) (p : Pos) (x : Sem α) (s : SharedT) (r : Result) (p' : Pos) (s' : SharedT),
    ev table prog w n Γ p (x.bind fun a => .pure (.done (emb a))) s = some (r, p', s') →
    x.wp (model prog w) Γ (fun a q σ => r = .ok (emb a) ∧ q = p' ∧ σ = s'.abs) (fun e q σ => r = .error e ∧ q = p' ∧ σ = s'.abs) p s.abs
  | 0, _, _, _, _, _, _, _, h => by cases h
  | n + 1, Γ, p, x, s, r, p', s', h => by
    obtain ⟨T, m, life, gens, drawn, toks, os⟩ := s
    cases x with
    | pure a => cases h; exact ⟨rfl, rfl, rfl⟩
    | raise e => cases h; exact ⟨rfl, rfl, rfl⟩
    | rule tag k => exact ev_wp emb n _ _ (k ()) _ _ _ _ h
    | «at» q k => exact ev_wp emb n _ _ (k ()) _ _ _ _ h
    | point l k => exact ev_wp emb n _ _ (k ()) _ _ _ _ h
    | ask k => exact ev_wp emb n _ _ (k ⟨prog, w.params⟩) _ _ _ _ h
    | handled own k =>
      conv at h => lhs; whnf
      have := ev_wp emb n _ _ _ _ _ _ _ h
      cases own <;> exact this
    | stack k => exact ev_wp emb n _ _ (k ((Γ.code, p) :: Γ.below)) _ _ _ _ h
    | thread k => exact ev_wp emb n _ _ (k 0) _ _ _ _ h
    | fresh k => exact ev_wp emb n _ _ (k toks) _ _ _ _ h
    | load a q k =>
      conv at h => lhs; whnf
      cases e : Nat.blt a m with
      | false => rw [e] at h; cases h
      | true =>
        rw [e] at h
        cases g : T.get a with
        | none => simp only [g] at h; cases h
        | some o =>
          cases al : alive o with
          | none => simp only [g, al] at h; cases h
          | some o' =>
            simp only [g, al] at h
            exact ⟨o', get_of e g al, ev_wp emb n _ _ _ _ _ _ _ h⟩
    | update a q f k =>
      conv at h => lhs; whnf
      cases e : Nat.blt a m with
      | false => rw [e] at h; cases h
      | true =>
        rw [e] at h
        cases g : T.get a with
        | none => simp only [g] at h; cases h
        | some o =>
          cases al : alive o with
          | none => simp only [g, al] at h; cases h
          | some o' =>
            simp only [g, al] at h
            refine ⟨by show ((absHeap T m life).get? a).isSome; rw [get_of e g al]; rfl, ?_⟩
            have := ev_wp emb n _ _ _ _ _ _ _ h
            unfold SharedT.abs at this ⊢
            rw [absHeap_set g] at this
            exact this
    | loadIfAlive a k =>
      conv at h => lhs; whnf
      show Sem.wp _ _ (k ((absHeap T m life).get? a)) _ _ _ _
      cases e : Nat.blt a m with
      | false =>
        rw [e] at h
        have lt : ¬ a < m := fun q => by rw [show Nat.blt a m = true from Nat.ble_eq_true_of_le q] at e; cases e
        rw [abs_get_none lt]
        exact ev_wp emb n _ _ _ _ _ _ _ h
      | true =>
        rw [e] at h
        cases g : T.get a with
        | none => simp only [g] at h; cases h
        | some o =>
          simp only [g] at h
          rw [abs_get (Nat.le_of_ble_eq_true e) g]
          exact ev_wp emb n _ _ _ _ _ _ _ h
    | alloc o k =>
      conv at h => lhs; whnf
      cases e : ((T.ins m o).get m).isSome with
      | false => rw [e] at h; cases h
      | true =>
        rw [e] at h
        have := ev_wp emb n _ _ _ _ _ _ _ h
        unfold SharedT.abs at this ⊢
        rw [absHeap_ins e] at this
        show Sem.wp _ _ (k (absHeap T m life).objs.size) _ _ _ _
        rw [absHeap_size]
        exact this
    | call c hd g l k =>
      conv at h => lhs; whnf
      cases e : ev table prog w n (Γ.enter c hd p) p (denote table c) ⟨T, m, life, gens, drawn, toks, os⟩ with
      | none => rw [e] at h; cases h
      | some x =>
        obtain ⟨r₁, p₁, s₁⟩ := x
        rw [e] at h
        exact ⟨r₁, s₁.abs, ev_runs n _ _ _ _ _ _ _ e, ev_wp emb n _ _ _ _ _ _ _ h⟩
    | unsupported | finish | register | choose | os | newGen | genState | resume | «yield» | fork | await => cases h
end
end Mine
end PartH0
section PartP1
namespace Mine
/-! ## The search in a sorted table (find_among_b), plain -/
noncomputable def ltb : List Nat → List Nat → Bool
  | _, [] => false
  | [], _ :: _ => true
  | a :: x, b :: y => if a < b then true else if a = b then ltb x y else false
noncomputable def lcp : List Nat → List Nat → Nat
  | a :: x, b :: y => if a = b then lcp x y + 1 else 0
  | _, _ => 0
theorem lcp_le_left : ∀ x y, lcp x y ≤ x.length
  | [], _ => by simp [lcp]
  | _ :: _, [] => by simp [lcp]
  | a :: x, b :: y => by
    unfold lcp
    split
    · have := lcp_le_left x y; simp; omega
    · simp
theorem lcp_le_right : ∀ x y, lcp x y ≤ y.length
  | [], _ => by simp [lcp]
  | _ :: _, [] => by simp [lcp]
  | a :: x, b :: y => by
    unfold lcp
    split
    · have := lcp_le_right x y; simp; omega
    · simp
theorem ltb_irrefl : ∀ x, ltb x x = false
  | [] => rfl
  | a :: x => by unfold ltb; simp [ltb_irrefl x]
/-- what lies between two that share c places with t shares them -/
theorem between : ∀ (c : Nat) (t x k y : List Nat), ltb k x = false → ltb y k = false → c ≤ lcp t x → c ≤ lcp t y → c ≤ lcp t k
  | 0, _, _, _, _, _, _, _, _ => Nat.zero_le _
  | c + 1, [], _, _, _, _, _, h, _ => by simp [lcp] at h
  | c + 1, _ :: _, [], _, _, _, _, h, _ => by simp [lcp] at h
  | c + 1, _ :: _, _ :: _, _, [], _, _, _, h => by simp [lcp] at h
  | c + 1, a :: t, b :: x, k, d :: y, h1, h2, h3, h4 => by
    unfold lcp at h3 h4
    split at h3
    · split at h4
      · rename_i e1 e2
        subst e1; subst e2
        cases k with
        | nil => simp [ltb] at h1
        | cons e k =>
          unfold ltb at h1 h2
          by_cases q1 : e < a
          · simp [q1] at h1
          by_cases q2 : a < e
          · simp [q2] at h2
          have q : e = a := by omega
          subst q
          simp at h1 h2
          unfold lcp
          simp
          exact between c t x k y h1 h2 (by omega) (by omega)
      · omega
    · omega
theorem pre_le : ∀ (e t : List Nat), e.isPrefixOf t = true → ltb t e = false
  | [], t, _ => by cases t <;> rfl
  | a :: e, [], h => by simp at h
  | a :: e, b :: t, h => by
    simp [List.isPrefixOf] at h
    obtain ⟨rfl, h⟩ := h
    unfold ltb
    simp
    exact pre_le e t (by simpa using h)
/-- a beginning of t that is at most x, and x at most t: a beginning of x -/
theorem pre_between : ∀ (e x t : List Nat), e.isPrefixOf t = true → ltb x e = false → ltb t x = false → e.isPrefixOf x = true
  | [], x, t, _, _, _ => by simp
  | a :: e, x, [], h, _, _ => by simp at h
  | a :: e, [], b :: t, h, h1, h2 => by simp [ltb] at h1
  | a :: e, c :: x, b :: t, h, h1, h2 => by
    simp [List.isPrefixOf] at h
    obtain ⟨rfl, h⟩ := h
    unfold ltb at h1 h2
    by_cases q1 : c < a
    · simp [q1] at h1
    by_cases q2 : a < c
    · simp [q2] at h2
    have q : c = a := by omega
    subst q
    simp at h1 h2
    simp [List.isPrefixOf]
    have := pre_between e x t (by simpa using h) h1 h2
    simpa using this
theorem pre_lcp : ∀ (e t : List Nat), e.isPrefixOf t = true ↔ e.length ≤ lcp t e
  | [], t => by simp
  | a :: e, [] => by simp [lcp]
  | a :: e, b :: t => by
    have ih := pre_lcp e t
    simp only [List.isPrefixOf, Bool.and_eq_true, beq_iff_eq, List.length_cons]
    unfold lcp
    by_cases q : b = a
    · subst q; simp [ih]
    · simp [q]; intro e; exact absurd e.symm q
/-- a beginning of x is one of t exactly if it is no longer than what x and t share -/
theorem pre_of_pre : ∀ (e x t : List Nat), e.isPrefixOf x = true → (e.isPrefixOf t = true ↔ e.length ≤ lcp t x)
  | [], x, t, _ => by simp
  | a :: e, [], t, h => by simp at h
  | a :: e, b :: x, [], h => by simp [lcp]
  | a :: e, b :: x, c :: t, h => by
    simp [List.isPrefixOf] at h
    obtain ⟨rfl, h⟩ := h
    have ih := pre_of_pre e x t (by simpa using h)
    simp only [List.isPrefixOf, Bool.and_eq_true, beq_iff_eq, List.length_cons]
    unfold lcp
    by_cases q : c = a
    · subst q; simp [ih]
    · simp [q]; intro e; exact absurd e.symm q

/-- an entry: the text turned round, the number of the next shorter one, the result -/
structure Ent where
  s : List Nat
  sub : Int
  res : Int
  deriving DecidableEq
noncomputable abbrev Tbl := List Ent
noncomputable def Tbl.at (T : Tbl) (i : Nat) : Ent := T.getD i ⟨[], -1, 0⟩
/-- entry i and those that its numbers lead to -/
noncomputable def chain (T : Tbl) : Nat → Int → List Ent
  | 0, _ => []
  | n + 1, i => if i < 0 then [] else T.at i.toNat :: chain T n (T.at i.toNat).sub
noncomputable def sortedT : Tbl → Bool
  | a :: b :: r => ltb a.s b.s && sortedT (b :: r)
  | _ => true
/-- the table is as it should: sorted, no empty text; the beginnings of an entry among the entries are those of its chain, the longest first -/
noncomputable def tblOk (T : Tbl) : Bool :=
  (List.range T.length).all (fun i => (List.range T.length).all fun j => decide (i < j) == ltb (T.at i).s (T.at j).s) &&
  T.all (fun e => decide (1 ≤ e.s.length)) &&
  (List.range T.length).all (fun i => decide ((T.at i).sub < i) && (List.range T.length).all fun j => !((T.at j).s.isPrefixOf (T.at i).s) || (i == j) || (decide (0 ≤ (T.at i).sub) && (T.at j).s.isPrefixOf (T.at (T.at i).sub.toNat).s)) &&
  (List.range T.length).all (fun i => decide ((T.at i).sub < 0) || ((T.at (T.at i).sub.toNat).s.isPrefixOf (T.at i).s))
/-- what the search tells: none, or the longest entry that begins t -/
noncomputable def Told (T : Tbl) (t : List Nat) (r : Int) (n : Nat) : Prop :=
  (r = 0 ∧ n = 0 ∧ ∀ e ∈ T, e.s.isPrefixOf t = false) ∨ (∃ e ∈ T, e.s.isPrefixOf t = true ∧ r = e.res ∧ n = e.s.length ∧ ∀ e' ∈ T, e'.s.isPrefixOf t = true → e'.s.length ≤ e.s.length)

structure Inv (T : Tbl) (t : List Nat) (i j ci cj : Nat) : Prop where
  ij : i ≤ j
  jn : j ≤ T.length
  i0 : i < T.length
  lo : (i = 0 ∧ ci = 0) ∨ (ltb t (T.at i).s = false ∧ ci = lcp t (T.at i).s)
  hi : (j = T.length ∧ cj = 0) ∨ (j < T.length ∧ ltb t (T.at j).s = true ∧ cj = lcp t (T.at j).s)
theorem ltb_le {x y : List Nat} (h : ltb x y = true) : ltb y x = false := by
  induction x generalizing y with
  | nil => cases y <;> rfl
  | cons a x ih =>
    cases y with
    | nil => simp [ltb] at h
    | cons b y =>
      unfold ltb at h ⊢
      by_cases q : a < b
      · have : ¬ b < a := by omega
        have : ¬ b = a := by omega
        simp [*]
      · simp [q] at h
        obtain ⟨rfl, h⟩ := h
        simp [ih h]
section
variable {T : Tbl} {t : List Nat} (ok : tblOk T = true)
include ok
theorem tbl_parts : (∀ i j, i < T.length → j < T.length → (i < j ↔ ltb (T.at i).s (T.at j).s = true)) ∧ (∀ e ∈ T, 1 ≤ e.s.length) ∧
    (∀ i, i < T.length → (T.at i).sub < i) ∧ (∀ i j, i < T.length → j < T.length → (T.at j).s.isPrefixOf (T.at i).s = true → i ≠ j → 0 ≤ (T.at i).sub ∧ (T.at j).s.isPrefixOf (T.at (T.at i).sub.toNat).s = true) ∧
    (∀ i, i < T.length → 0 ≤ (T.at i).sub → (T.at (T.at i).sub.toNat).s.isPrefixOf (T.at i).s = true) := by
  unfold tblOk at ok
  simp only [Bool.and_eq_true, List.all_eq_true, List.mem_range, decide_eq_true_eq, Bool.or_eq_true, Bool.not_eq_true', beq_iff_eq] at ok
  obtain ⟨⟨⟨h1, h2⟩, h3⟩, h4⟩ := ok
  refine ⟨fun i j hi hj => ?_, h2, fun i hi => (h3 i hi).1, fun i j hi hj hp hn => ?_, fun i hi h0 => ?_⟩
  · have := h1 i hi j hj
    rw [← this]; simp
  · rcases (h3 i hi).2 j hj with (q | q) | q
    · rw [hp] at q; cases q
    · exact absurd q hn
    · exact q
  · rcases h4 i hi with q | q
    · omega
    · exact q
/-- the places that a turn may skip -/
theorem turn_skip {i j ci cj k : Nat} (v : Inv T t i j ci cj) (hk : i ≤ k) (hk2 : k < T.length) (hkj : k ≤ j) : min ci cj ≤ lcp t (T.at k).s := by
  obtain ⟨S, _⟩ := tbl_parts ok
  rcases v.lo with ⟨rfl, rfl⟩ | ⟨a1, a2⟩
  · simp
  rcases v.hi with ⟨rfl, rfl⟩ | ⟨b0, b1, b2⟩
  · simp
  have le : ∀ a b, a < T.length → b < T.length → a ≤ b → ltb (T.at b).s (T.at a).s = false := fun a b ha hb hab => by
    by_cases q : a = b
    · subst q; exact ltb_irrefl _
    · exact ltb_le ((S a b ha hb).mp (by omega))
  refine between _ t (T.at i).s _ (T.at j).s (le i k v.i0 hk2 hk) (le k j hk2 b0 hkj) (by omega) (by omega)
theorem turn_lo {i j ci cj k : Nat} (v : Inv T t i j ci cj) (hk : i ≤ k) (hk2 : k < T.length) (hkj : k ≤ j) (h : ltb t (T.at k).s = true) : Inv T t i k ci (lcp t (T.at k).s) :=
  ⟨hk, Nat.le_of_lt hk2, v.i0, v.lo, .inr ⟨hk2, h, rfl⟩⟩
theorem turn_hi {i j ci cj k : Nat} (v : Inv T t i j ci cj) (hk : i ≤ k) (hk2 : k < T.length) (hkj : k ≤ j) (h : ltb t (T.at k).s = false) : Inv T t k j (lcp t (T.at k).s) cj :=
  ⟨hkj, v.jn, hk2, .inr ⟨h, rfl⟩, v.hi⟩
theorem Tbl.at_mem {i : Nat} (h : i < T.length) : T.at i ∈ T := by
  unfold Tbl.at; rw [List.getD_eq_getElem?_getD, List.getElem?_eq_getElem h]; exact List.getElem_mem h
theorem mem_at {e : Ent} (h : e ∈ T) : ∃ i, i < T.length ∧ T.at i = e := by
  obtain ⟨i, hi, rfl⟩ := List.getElem_of_mem h
  exact ⟨i, hi, by unfold Tbl.at; rw [List.getD_eq_getElem?_getD, List.getElem?_eq_getElem hi]; rfl⟩
/-- where the search stands, every beginning of t among the entries begins entry i -/
noncomputable def Stands (T : Tbl) (t : List Nat) (i : Int) (ci : Nat) : Prop := (∀ e ∈ T, e.s.isPrefixOf t = true → 0 ≤ i ∧ e.s.isPrefixOf (T.at i.toNat).s = true) ∧
  (0 ≤ i → i.toNat < T.length ∧ ∀ e ∈ T, e.s.isPrefixOf (T.at i.toNat).s = true → (e.s.isPrefixOf t = true ↔ e.s.length ≤ ci))
omit ok in
theorem stands_cases (hT : 0 < T.length) (hs : ∀ i j, i < T.length → j < T.length → (i < j ↔ ltb (T.at i).s (T.at j).s = true)) (hp : ∀ e ∈ T, 1 ≤ e.s.length) {i j ci cj : Nat} (v : Inv T t i j ci cj) (h1 : j ≤ i + 1) (h2 : i = 0 → ci = 0 → ltb t (T.at 0).s = false → ci = lcp t (T.at 0).s)
    (h3 : (i = 0 ∧ j = 0) ∨ ltb t (T.at i).s = false) : Stands T t i ci := by
  have hm : ∀ e ∈ T, ∃ k, k < T.length ∧ T.at k = e := fun e h => by
    obtain ⟨i, hi, rfl⟩ := List.getElem_of_mem h
    exact ⟨i, hi, by unfold Tbl.at; rw [List.getD_eq_getElem?_getD, List.getElem?_eq_getElem hi]; rfl⟩
  have tot : ∀ a b, a < T.length → b < T.length → a ≤ b → ltb (T.at b).s (T.at a).s = false := fun a b ha hb hab => by
    by_cases q : a = b
    · subst q; exact ltb_irrefl _
    · exact ltb_le ((hs a b ha hb).mp (by omega))
  rcases h3 with ⟨rfl, rfl⟩ | h3
  · -- nothing is at most t
    rcases v.hi with ⟨q, _⟩ | ⟨_, q, _⟩
    · omega
    have none : ∀ e ∈ T, e.s.isPrefixOf t = false := fun e he => by
      obtain ⟨k, hk, rfl⟩ := hm e he
      cases hq : (T.at k).s.isPrefixOf t with
      | false => rfl
      | true =>
        -- entry k begins t, so it is at most t; entry 0 is at most entry k
        have := pre_between (T.at k).s (T.at 0).s t
        have l1 := tot 0 k (by omega) hk (Nat.zero_le _)
        have := ltb_le q
        -- t < entry 0 <= entry k, and entry k begins t : entry k is at most t
        have l2 := pre_le _ _ hq
        exfalso
        have trans : ∀ (a b c : List Nat), ltb a b = true → ltb c b = false → ltb a c = true := by
          intro a
          induction a with
          | nil => intro b c h1 h2; cases b with
            | nil => simp [ltb] at h1
            | cons b0 b => cases c with
              | nil => simp [ltb] at h2
              | cons => rfl
          | cons a0 a ih => intro b c h1 h2; cases b with
            | nil => simp [ltb] at h1
            | cons b0 b => cases c with
              | nil => simp [ltb] at h2
              | cons c0 c =>
                unfold ltb at h1 h2 ⊢
                by_cases x1 : a0 < b0
                · have : ¬ c0 < b0 := by intro q; simp [q] at h2
                  simp [show a0 < c0 by omega]
                · simp [x1] at h1
                  obtain ⟨rfl, h1⟩ := h1
                  by_cases x2 : c0 < a0
                  · simp [x2] at h2
                  · by_cases x3 : a0 < c0
                    · simp [x3]
                    · have : c0 = a0 := by omega
                      subst this
                      simp at h2 ⊢
                      exact ih b c h1 h2
        have := trans _ _ _ q l1
        rw [this] at l2; cases l2
    refine ⟨fun e he hq => ?_, fun _ => ⟨v.i0, fun e he hq => ?_⟩⟩
    · rw [none e he] at hq; cases hq
    · have c0 : ci = 0 := by
        rcases v.lo with ⟨_, q'⟩ | ⟨q', _⟩
        · exact q'
        · rw [q] at q'; cases q'
      rw [none e he, c0]
      have := hp e he
      constructor
      · intro q; cases q
      · omega
  · have cl : ci = lcp t (T.at i).s := by
      rcases v.lo with ⟨rfl, rfl⟩ | ⟨_, q⟩
      · exact h2 rfl rfl h3
      · exact q
    refine ⟨fun e he hq => ⟨Int.natCast_nonneg _, ?_⟩, fun _ => ⟨v.i0, fun e he hq => ?_⟩⟩
    · obtain ⟨k, hk, rfl⟩ := hm e he
      have hki : k ≤ i := by
        apply Nat.le_of_not_lt
        intro q
        rcases v.hi with ⟨hj, _⟩ | ⟨hj, hlt, _⟩
        · omega
        · have : j ≤ k := by omega
          have l1 := tot j k hj hk this
          have l2 := pre_le _ _ hq
          have trans : ∀ (a b c : List Nat), ltb a b = true → ltb c b = false → ltb a c = true := by
            intro a
            induction a with
            | nil => intro b c h1 h2; cases b with
              | nil => simp [ltb] at h1
              | cons b0 b => cases c with
                | nil => simp [ltb] at h2
                | cons => rfl
            | cons a0 a ih => intro b c h1 h2; cases b with
              | nil => simp [ltb] at h1
              | cons b0 b => cases c with
                | nil => simp [ltb] at h2
                | cons c0 c =>
                  unfold ltb at h1 h2 ⊢
                  by_cases x1 : a0 < b0
                  · have : ¬ c0 < b0 := by intro q; simp [q] at h2
                    simp [show a0 < c0 by omega]
                  · simp [x1] at h1
                    obtain ⟨rfl, h1⟩ := h1
                    by_cases x2 : c0 < a0
                    · simp [x2] at h2
                    · by_cases x3 : a0 < c0
                      · simp [x3]
                      · have : c0 = a0 := by omega
                        subst this
                        simp at h2 ⊢
                        exact ih b c h1 h2
          have := trans _ _ _ hlt l1
          rw [this] at l2; cases l2
      exact pre_between _ _ t hq (tot k i hk v.i0 hki) h3
    · rw [cl]; exact pre_of_pre _ _ _ hq
/-- the second loop: the entry fits -/
theorem told_here {i : Int} {ci : Nat} (h0 : 0 ≤ i) (S : Stands T t i ci) (h : (T.at i.toNat).s.length ≤ ci) : Told T t (T.at i.toNat).res (T.at i.toNat).s.length := by
  obtain ⟨hi, S2⟩ := S.2 h0
  refine .inr ⟨_, Tbl.at_mem ok hi, (S2 _ (Tbl.at_mem ok hi) (by simp)).mpr h, rfl, rfl, fun e he hq => ?_⟩
  have := (S.1 e he hq).2
  have := (pre_lcp _ _).mp this
  have := lcp_le_left (T.at i.toNat).s e.s
  omega
theorem stands_next {i : Int} {ci : Nat} (h0 : 0 ≤ i) (S : Stands T t i ci) (h : ¬ (T.at i.toNat).s.length ≤ ci) : Stands T t (T.at i.toNat).sub ci := by
  obtain ⟨hi, S2⟩ := S.2 h0
  obtain ⟨_, _, p3, p4, p5⟩ := tbl_parts ok
  refine ⟨fun e he hq => ?_, fun h1 => ⟨?_, fun e he hq => ?_⟩⟩
  · obtain ⟨k, hk, rfl⟩ := mem_at ok he
    have q := (S.1 _ he hq).2
    have : i.toNat ≠ k := by
      rintro rfl
      exact h ((S2 _ he q).mp hq)
    exact p4 _ _ hi hk q this
  · have := p3 _ hi; omega
  · refine S2 e he ?_
    have := p5 _ hi h1
    rw [List.isPrefixOf_iff_prefix] at hq this ⊢
    exact hq.trans this
omit ok in
theorem told_none {i : Int} {ci : Nat} (h0 : i < 0) (S : Stands T t i ci) : Told T t 0 0 := .inl ⟨rfl, rfl, fun e he => by
  cases hq : e.s.isPrefixOf t with
  | false => rfl
  | true => have := (S.1 e he hq).1; omega⟩
end
end Mine
end PartP1
section PartP2
namespace Mine
noncomputable def A0 : Tbl := [⟨[98, 97, 102], (-1), (-1)⟩, ⟨[104], (-1), (-1)⟩, ⟨[107, 97, 112], (-1), (-1)⟩, ⟨[107, 97, 114], (-1), (-1)⟩, ⟨[107, 97, 116, 115], (-1), (-1)⟩, ⟨[109, 111, 107], (-1), (-1)⟩, ⟨[116, 101, 105], (-1), (-1)⟩, ⟨[116, 105, 99], (-1), (-1)⟩, ⟨[116, 105, 100], (-1), (-1)⟩, ⟨[116, 105, 108, 97], (-1), (-1)⟩, ⟨[116, 105, 108, 105], (-1), (-1)⟩, ⟨[116, 105, 109], (-1), (-1)⟩, ⟨[116, 105, 110], (-1), (-1)⟩, ⟨[116, 105, 112], (-1), (-1)⟩, ⟨[116, 105, 114], (-1), (-1)⟩, ⟨[116, 105, 115], (-1), (-1)⟩, ⟨[116, 105, 116], (-1), (-1)⟩, ⟨[116, 105, 117], (-1), (-1)⟩, ⟨[116, 105, 118, 105], (-1), (-1)⟩, ⟨[116, 105, 118, 107], (-1), (-1)⟩, ⟨[116, 105, 120], (-1), (-1)⟩]
noncomputable def A1 : Tbl := [⟨[97], (-1), 1⟩, ⟨[97, 110, 114, 97], 0, 1⟩, ⟨[97, 110, 114, 101], 0, 1⟩, ⟨[97, 110, 114, 101, 116, 101, 104], 2, 1⟩, ⟨[97, 110, 114, 111], 0, 1⟩, ⟨[100, 97], (-1), 1⟩, ⟨[101], (-1), 1⟩, ⟨[101, 100, 97], 6, 1⟩, ⟨[101, 100, 110, 97], 6, 1⟩, ⟨[101, 110, 114, 97], 6, 1⟩, ⟨[101, 114, 97], 6, 1⟩, ⟨[101, 116, 115, 97], 6, 1⟩, ⟨[110, 101], (-1), 1⟩, ⟨[110, 101, 100, 110, 97], 12, 1⟩, ⟨[110, 101, 114, 97], 12, 1⟩, ⟨[110, 101, 116, 101, 104], 12, 1⟩, ⟨[110, 114, 101], (-1), 1⟩, ⟨[114, 97], (-1), 1⟩, ⟨[114, 101], (-1), 1⟩, ⟨[114, 101, 116, 101, 104], 18, 1⟩, ⟨[114, 111], (-1), 1⟩, ⟨[115], (-1), 2⟩, ⟨[115, 97], 21, 1⟩, ⟨[115, 97, 110, 114, 97], 22, 1⟩, ⟨[115, 97, 110, 114, 101], 22, 1⟩, ⟨[115, 97, 110, 114, 111], 22, 1⟩, ⟨[115, 101], 21, 1⟩, ⟨[115, 101, 100, 97], 26, 1⟩, ⟨[115, 101, 100, 110, 97], 26, 1⟩, ⟨[115, 110, 101], 21, 1⟩, ⟨[115, 110, 101, 114, 97], 29, 1⟩, ⟨[115, 110, 101, 116, 101, 104], 29, 1⟩, ⟨[115, 110, 114, 101], 21, 1⟩, ⟨[116, 97], (-1), 1⟩, ⟨[116, 101], (-1), 3⟩, ⟨[116, 101, 100, 110, 97], 34, 1⟩, ⟨[116, 101, 104], 34, 1⟩, ⟨[116, 115, 97], (-1), 1⟩]
noncomputable def A2 : Tbl := [⟨[100, 100], (-1), (-1)⟩, ⟨[100, 103], (-1), (-1)⟩, ⟨[110, 110], (-1), (-1)⟩, ⟨[116, 100], (-1), (-1)⟩, ⟨[116, 103], (-1), (-1)⟩, ⟨[116, 107], (-1), (-1)⟩, ⟨[116, 116], (-1), (-1)⟩]
noncomputable def A3 : Tbl := [⟨[103, 105], (-1), 1⟩, ⟨[103, 105, 108], 0, 1⟩, ⟨[115, 108, 101], (-1), 1⟩, ⟨[116, 108, 108, 117, 102], (-1), 3⟩, ⟨[116, 115, 246], (-1), 2⟩]
noncomputable def vowels : List Nat := [97, 101, 105, 111, 117, 121, 229, 228, 246]
noncomputable def befS : List Nat := [98, 99, 100, 102, 103, 104, 106, 107, 108, 109, 110, 111, 112, 114, 116, 118, 121]
noncomputable def befO : List Nat := [105, 107, 108, 110, 112, 114, 116, 117, 118]
noncomputable def stays : List (List Nat) := [[98, 97, 102], [104], [107, 97, 112], [107, 97, 114], [107, 97, 116, 115], [109, 111, 107], [116, 101, 105], [116, 105, 99], [116, 105, 100], [116, 105, 108, 97], [116, 105, 108, 105], [116, 105, 109], [116, 105, 110], [116, 105, 112], [116, 105, 114], [116, 105, 115], [116, 105, 116], [116, 105, 117], [116, 105, 118, 105], [116, 105, 118, 107], [116, 105, 120]]
noncomputable def loose : List (List Nat) := [[97], [101], [110, 101], [110, 114, 101], [114, 97], [114, 101], [114, 111], [100, 97], [116, 97], [116, 115, 97], [116, 101, 104], [116, 101, 100, 110, 97], [115, 97], [115, 101], [100, 100], [100, 103], [110, 110], [116, 100], [116, 103], [116, 107], [116, 116], [103, 105], [116, 108, 108, 117, 102]]
noncomputable def forms : List (List Nat) := [[97, 110, 114, 101, 116, 101, 104], [115, 110, 101, 116, 101, 104], [110, 101, 116, 101, 104], [114, 101, 116, 101, 104], [116, 101, 104], [97, 110, 114, 97], [115, 97, 110, 114, 97], [101, 110, 114, 97], [110, 101, 114, 97], [115, 110, 101, 114, 97], [101, 114, 97], [114, 97], [97, 110, 114, 111], [115, 97, 110, 114, 111], [114, 111], [115, 97, 110, 114, 101], [110, 114, 101], [115, 110, 114, 101], [101, 100, 110, 97], [110, 101, 100, 110, 97], [115, 101, 100, 110, 97], [116, 101, 100, 110, 97], [101, 100, 97], [115, 101, 100, 97], [100, 97], [116, 97], [116, 115, 97], [101, 116, 115, 97]]
/-! Words are lists of numbers; r is a word turned round, m the length of its region. -/
noncomputable def V (c : Nat) : Bool := vowels.contains c
noncomputable def SE (c : Nat) : Bool := befS.contains c
noncomputable def OE (c : Nat) : Bool := befO.contains c
noncomputable def hd (f : Nat → Bool) : List Nat → Bool
  | a :: _ => f a
  | [] => false
/-- the condition for an et, q what stands before it (turned round) -/
noncomputable def etC : List Nat → Bool
  | a :: b :: c :: q => !V a && V b && A0.all fun e => !e.s.isPrefixOf (a :: b :: c :: q)
  | _ => false
noncomputable def Main (r : List Nat) (m : Nat) (r1 : List Nat) : Prop := ∃ res n, Told A1 (r.take m) res n ∧
  ((res = 0 ∧ r1 = r) ∨ (res = 1 ∧ r1 = r.drop n) ∨
   (res = 2 ∧ r1 = if ([116, 101] : List Nat).isPrefixOf (r.drop n) && etC (r.drop (n + 2)) then r.drop (n + 2) else if hd SE (r.drop n) then r.drop n else r) ∨
   (res ≠ 0 ∧ res ≠ 1 ∧ res ≠ 2 ∧ r1 = if etC (r.drop n) then r.drop n else r))
noncomputable def Cons (r : List Nat) (m : Nat) (r1 : List Nat) : Prop := ∃ res n, Told A2 (r.take m) res n ∧ ((res = 0 ∧ r1 = r) ∨ (res ≠ 0 ∧ r1 = r.drop 1))
noncomputable def Oth (r : List Nat) (m : Nat) (r1 : List Nat) : Prop := ∃ res n, Told A3 (r.take m) res n ∧
  ((res = 0 ∧ r1 = r) ∨ (res = 1 ∧ r1 = r.drop n) ∨ (res = 2 ∧ r1 = if hd OE (r.drop n) then [115, 246] ++ r.drop n else r) ∨
   (res ≠ 0 ∧ res ≠ 1 ∧ res ≠ 2 ∧ r1 = [108, 108, 117, 102] ++ r.drop n))
/-- the first place from c on where p holds, else the length -/
noncomputable def firstIdx (p : Nat → Bool) (u : List Nat) (c : Nat) : Nat := c + ((u.drop c).takeWhile fun x => !p x).length
noncomputable def regP (u : List Nat) : Nat :=
  if u.length < 3 then u.length else
  if firstIdx V u 0 < u.length then
    if firstIdx (fun x => !V x) u (firstIdx V u 0 + 1) < u.length then max 3 (firstIdx (fun x => !V x) u (firstIdx V u 0 + 1) + 1) else u.length
  else u.length
noncomputable def Stem (u u' : List Nat) : Prop := ∃ a b c, Main u.reverse (u.length - regP u) a ∧ Cons a (a.length - regP u) b ∧ Oth b (b.length - regP u) c ∧ u' = c.reverse

noncomputable def scan : Nat → Bool → List Nat → Int
  | _, _, [] => -1
  | i, seen, c :: r => if V c then scan (i + 1) true r else if seen then max 3 ((i : Int) + 1) else scan (i + 1) seen r
noncomputable def lawStart (u : List Nat) : Int := if u.length < 3 then -1 else scan 0 false u
noncomputable def restsR (r : List Nat) (m : Nat) : Bool :=
  if loose.any (fun e => e.isPrefixOf (r.take m)) then false
  else if ([115] : List Nat).isPrefixOf (r.take m) && SE (r.getD 1 0) then false
  else if ([116, 115, 246] : List Nat).isPrefixOf (r.take m) && OE (r.getD 3 0) then false
  else if ([116, 101] : List Nat).isPrefixOf (r.take m) && !V (r.getD 2 0) && V (r.getD 3 0) then stays.any fun e => (116 :: 101 :: e).isPrefixOf r
  else true
noncomputable def rests (u : List Nat) : Bool := if lawStart u < 0 then true else restsR u.reverse (u.length - (lawStart u).toNat)

/-! ### what the tables hold -/
theorem ok0 : tblOk A0 = true := by decide +kernel
theorem ok1 : tblOk A1 = true := by decide +kernel
theorem ok2 : tblOk A2 = true := by decide +kernel
theorem ok3 : tblOk A3 = true := by decide +kernel
theorem res1 : ∀ e ∈ A1, e.res ≠ 0 := by decide +kernel
theorem res2 : ∀ e ∈ A2, e.res ≠ 0 := by decide +kernel
theorem res3 : ∀ e ∈ A3, e.res ≠ 0 := by decide +kernel
theorem res0 : ∀ e ∈ A0, e.res ≠ 0 := by decide +kernel
theorem len1 : ∀ e ∈ A1, 1 ≤ e.s.length ∧ e.s.length ≤ 7 := by decide +kernel
theorem len3 : ∀ e ∈ A3, 1 ≤ e.s.length ∧ e.s.length ≤ 5 ∧ (e.res = 1 → e.s.length ≤ 3) := by decide +kernel
theorem told_zero {T : Tbl} {t : List Nat} {n : Nat} (hr : ∀ e ∈ T, e.res ≠ 0) (h : Told T t 0 n) : ∀ e ∈ T, e.s.isPrefixOf t = false := by
  rcases h with ⟨_, _, h⟩ | ⟨e, he, _, q, _⟩
  · exact h
  · exact absurd q.symm (hr e he)
theorem told_some {T : Tbl} {t : List Nat} {r : Int} {n : Nat} (h : Told T t r n) (hr : r ≠ 0) : ∃ e ∈ T, e.s.isPrefixOf t = true ∧ r = e.res ∧ n = e.s.length ∧ ∀ e' ∈ T, e'.s.isPrefixOf t = true → e'.s.length ≤ e.s.length := by
  rcases h with ⟨q, _⟩ | h
  · exact absurd q hr
  · exact h
theorem pre_cmp {a b t : List Nat} (h1 : a.isPrefixOf t = true) (h2 : b.isPrefixOf t = true) (h : a.length ≤ b.length) : a.isPrefixOf b = true := by
  rw [List.isPrefixOf_iff_prefix] at *
  exact List.prefix_of_prefix_length_le h1 h2 h
theorem pre_trans {a b t : List Nat} (h1 : a.isPrefixOf b = true) (h2 : b.isPrefixOf t = true) : a.isPrefixOf t = true := by
  rw [List.isPrefixOf_iff_prefix] at *
  exact h1.trans h2
theorem pre_take {a r : List Nat} {m : Nat} (h : a.isPrefixOf (r.take m) = true) : a.isPrefixOf r = true ∧ a.length ≤ m ∧ a.length ≤ r.length := by
  rw [List.isPrefixOf_iff_prefix] at *
  have l := h.length_le
  rw [List.length_take] at l
  exact ⟨h.trans (List.take_prefix _ _), by omega, by omega⟩
theorem pre_drop {a r : List Nat} (h : a.isPrefixOf r = true) : r = a ++ r.drop a.length := by
  rw [List.isPrefixOf_iff_prefix] at h
  obtain ⟨b, rfl⟩ := h
  simp

/-! ### a word is its own stem exactly if the list says so -/
theorem f1 : ∀ e ∈ A1, e.res = 1 → (∃ l ∈ loose, l.isPrefixOf e.s = true) ∨ (([115] : List Nat).isPrefixOf e.s = true ∧ 2 ≤ e.s.length ∧ SE (e.s.getD 1 0) = true) := by decide +kernel
theorem f2 : ∀ e ∈ A1, e.res = 2 → e.s = [115] := by decide +kernel
theorem f3 : ∀ e ∈ A1, e.res ≠ 1 → e.res ≠ 2 → e.s = [116, 101] := by decide +kernel
theorem f4 : ∀ e ∈ A2, e.s ∈ loose := by decide +kernel
theorem f5 : ∀ e ∈ A3, e.res = 1 → (∃ l ∈ loose, l.isPrefixOf e.s = true) ∨ (([115] : List Nat).isPrefixOf e.s = true ∧ 2 ≤ e.s.length ∧ SE (e.s.getD 1 0) = true) := by decide +kernel
theorem f6 : ∀ e ∈ A3, e.res = 2 → e.s = [116, 115, 246] := by decide +kernel
theorem f7 : ∀ e ∈ A3, e.res ≠ 1 → e.res ≠ 2 → e.s = [116, 108, 108, 117, 102] := by decide +kernel
theorem g1 : ∀ l ∈ loose, (∃ e ∈ A1, e.s = l ∧ ∀ e' ∈ A1, l.isPrefixOf e'.s = true → e'.res = 1) ∨ (∃ e ∈ A2, e.s = l) ∨ (∃ e ∈ A3, e.s = l ∧ ∀ e' ∈ A3, l.isPrefixOf e'.s = true → e'.res ≠ 2) := by decide +kernel
theorem g2 : ∀ e ∈ A1, ([115] : List Nat).isPrefixOf e.s = true → e.res = 1 ∨ e.res = 2 := by decide +kernel
theorem g3 : ∀ e ∈ A1, ([116, 101] : List Nat).isPrefixOf e.s = true → e.res = 1 ∨ e.s = [116, 101] := by decide +kernel
theorem g4 : ∀ e ∈ A3, ([116, 115, 246] : List Nat).isPrefixOf e.s = true → e.res = 2 := by decide +kernel
theorem hasS : ∃ e ∈ A1, e.s = [115] := by decide +kernel
theorem hasEt : ∃ e ∈ A1, e.s = [116, 101] ∧ e.res = 3 := by decide +kernel
theorem hasOst : ∃ e ∈ A3, e.s = [116, 115, 246] := by decide +kernel
theorem staysA0 : stays = A0.map (·.s) := by decide +kernel
end Mine
end PartP2
section PartP3
namespace Mine
/-! ### the first place where p holds -/
theorem tw_len {α : Type} (p : α → Bool) : ∀ l : List α, (l.takeWhile p).length ≤ l.length
  | [] => by simp
  | a :: l => by
    unfold List.takeWhile
    split
    · have := tw_len p l; simp; omega
    · simp
theorem fi_le {p : Nat → Bool} {u : List Nat} {c : Nat} (h : c ≤ u.length) : firstIdx p u c ≤ u.length := by
  unfold firstIdx
  have := tw_len (fun x => !p x) (u.drop c)
  rw [List.length_drop] at this
  omega
theorem fi_ge {p : Nat → Bool} {u : List Nat} {c : Nat} : c ≤ firstIdx p u c := by unfold firstIdx; omega
theorem tw_hit {p : Nat → Bool} : ∀ (l : List Nat) (k : Nat) (x : Nat), l[k]? = some x → p x = true → (l.takeWhile fun x => !p x).length ≤ k
  | [], _, _, h, _ => by simp at h
  | a :: l, 0, x, h, hp => by
    simp at h; subst h
    simp [List.takeWhile, hp]
  | a :: l, k + 1, x, h, hp => by
    simp at h
    unfold List.takeWhile
    split
    · have := tw_hit l k x h hp; simp; omega
    · simp
theorem fi_hit {p : Nat → Bool} {u : List Nat} {c k : Nat} {x : Nat} (hk : c ≤ k) (h : u[k]? = some x) (hp : p x = true) : firstIdx p u c ≤ k := by
  unfold firstIdx
  have : (u.drop c)[k - c]? = some x := by rw [List.getElem?_drop]; rw [show c + (k - c) = k by omega]; exact h
  have := tw_hit _ _ _ this hp
  omega
theorem fi_at {p : Nat → Bool} : ∀ (l : List Nat), (l.takeWhile fun x => !p x).length < l.length → ∃ x, l[(l.takeWhile fun x => !p x).length]? = some x ∧ p x = true
  | [], h => by simp at h
  | a :: l, h => by
    by_cases q : p a = true
    · exact ⟨a, by simp [List.takeWhile, q], q⟩
    · have q' : p a = false := by simpa using q
      have e : ((a :: l).takeWhile fun x => !p x) = a :: (l.takeWhile fun x => !p x) := by simp [List.takeWhile, q']
      rw [e] at h ⊢
      simp at h ⊢
      exact fi_at l h

/-! ### where the region starts -/
theorem et_n0 (k m : Nat) : ¬ k + (m + 3) < 3 := by omega
theorem et_n1 {k m f : Nat} (h : f ≤ m + 1) : f < k + (m + 3) := by omega
theorem et_n2 {k m f : Nat} (h : f ≤ m + 2) : f < k + (m + 3) := by omega
theorem et_max {k m g : Nat} (h : g ≤ m + 2) : max 3 (g + 1) + k ≤ k + (m + 3) := by omega
theorem et_reg {r : List Nat} {k : Nat} (h : etC (r.drop k) = true) : regP r.reverse + k ≤ r.length := by
  generalize hq : r.drop k = q at h
  unfold etC at h
  split at h
  · rename_i a b c q'
    simp only [Bool.and_eq_true, Bool.not_eq_true'] at h
    obtain ⟨⟨ha, hb⟩, _⟩ := h
    have hn : r.length = k + (q'.length + 3) := by
      have hl := congrArg List.length hq
      rw [List.length_drop] at hl
      simp only [List.length_cons] at hl
      omega
    have ia : r[k]? = some a := by have := congrArg (·[0]?) hq; simpa using this
    have ib : r[k + 1]? = some b := by have := congrArg (·[1]?) hq; simpa using this
    clear hq
    generalize q'.length = m at hn
    have ua : r.reverse[m + 2]? = some a := by
      rw [List.getElem?_reverse (by omega), hn, show k + (m + 3) - 1 - (m + 2) = k by omega]; exact ia
    have ub : r.reverse[m + 1]? = some b := by
      rw [List.getElem?_reverse (by omega), hn, show k + (m + 3) - 1 - (m + 1) = k + 1 by omega]; exact ib
    unfold regP
    rw [List.length_reverse]
    have i1 : firstIdx V r.reverse 0 ≤ m + 1 := fi_hit (Nat.zero_le _) ub hb
    have i2 : firstIdx (fun x => !V x) r.reverse (firstIdx V r.reverse 0 + 1) ≤ m + 2 := fi_hit (Nat.succ_le_succ i1) ua (by simp [ha])
    clear ua ub ia ib
    generalize firstIdx V r.reverse 0 = f at i1 i2 ⊢
    generalize firstIdx (fun x => !V x) r.reverse (f + 1) = g at i2 ⊢
    rw [hn, if_neg (et_n0 _ _), if_pos (et_n1 i1), if_pos (et_n2 i2)]
    exact et_max i2
  · cases h
theorem reg_le (u : List Nat) : regP u ≤ u.length := by
  unfold regP
  split
  · exact Nat.le_refl _
  · split
    · split
      · omega
      · exact Nat.le_refl _
    · exact Nat.le_refl _
theorem scan_true : ∀ (l : List Nat) (i : Nat), scan i true l = if (l.takeWhile V).length < l.length then max 3 ((i : Int) + (l.takeWhile V).length + 1) else -1
  | [], i => by simp [scan]
  | c :: l, i => by
    conv => lhs; unfold scan
    by_cases q : V c = true
    · rw [if_pos q, scan_true l (i + 1)]
      have : ((c :: l).takeWhile V) = c :: l.takeWhile V := by simp [List.takeWhile, q]
      rw [this]
      simp only [List.length_cons]
      by_cases z : (l.takeWhile V).length < l.length
      · rw [if_pos z, if_pos (by omega)]; push_cast; omega
      · rw [if_neg z, if_neg (by omega)]
    · have q' : V c = false := by simpa using q
      rw [if_neg q]
      simp [List.takeWhile, q']
theorem scan_false : ∀ (l : List Nat) (i : Nat), scan i false l = if (l.takeWhile fun x => !V x).length < l.length then scan (i + (l.takeWhile fun x => !V x).length + 1) true (l.drop ((l.takeWhile fun x => !V x).length + 1)) else -1
  | [], i => by simp [scan]
  | c :: l, i => by
    conv => lhs; unfold scan
    by_cases q : V c = true
    · simp [List.takeWhile, q]
    · have q' : V c = false := by simpa using q
      rw [if_neg q, if_neg (by simp), scan_false l (i + 1)]
      have : ((c :: l).takeWhile fun x => !V x) = c :: l.takeWhile fun x => !V x := by simp [List.takeWhile, q']
      rw [this]
      simp only [List.length_cons, List.drop_succ_cons]
      by_cases z : (l.takeWhile fun x => !V x).length < l.length
      · rw [if_pos z, if_pos (by omega)]
        rw [show i + 1 + (l.takeWhile fun x => !V x).length + 1 = i + ((l.takeWhile fun x => !V x).length + 1) + 1 by omega]
      · rw [if_neg z, if_neg (by omega)]
theorem start_reg (u : List Nat) : (lawStart u = -1 ∧ regP u = u.length) ∨ (lawStart u = (regP u : Int) ∧ 3 ≤ regP u) := by
  unfold lawStart regP
  by_cases h0 : u.length < 3
  · rw [if_pos h0, if_pos h0]; exact .inl ⟨rfl, rfl⟩
  rw [if_neg h0, if_neg h0, scan_false]
  have e1 : firstIdx V u 0 = (u.takeWhile fun x => !V x).length := by unfold firstIdx; simp
  rw [e1]
  by_cases h1 : (u.takeWhile fun x => !V x).length < u.length
  · rw [if_pos h1, if_pos h1, scan_true]
    have e2 : firstIdx (fun x => !V x) u ((u.takeWhile fun x => !V x).length + 1) = (u.takeWhile fun x => !V x).length + 1 + ((u.drop ((u.takeWhile fun x => !V x).length + 1)).takeWhile V).length := by
      unfold firstIdx; simp
    rw [e2, List.length_drop]
    by_cases h2 : ((u.drop ((u.takeWhile fun x => !V x).length + 1)).takeWhile V).length < u.length - ((u.takeWhile fun x => !V x).length + 1)
    · rw [if_pos h2, if_pos (by omega)]
      right
      constructor
      · push_cast; omega
      · omega
    · rw [if_neg h2, if_neg (by omega)]
      exact .inl ⟨rfl, rfl⟩
  · rw [if_neg h1, if_neg h1]
    exact .inl ⟨rfl, rfl⟩
theorem scan_take : ∀ (l : List Nat) (i : Nat) (b : Bool) (k : Nat), 0 ≤ scan i b l → scan i b l ≤ (i : Int) + k → scan i b (l.take k) = scan i b l
  | [], i, b, k, _, _ => by simp
  | c :: l, i, b, 0, h0, h => by
    exfalso
    have : ∀ (l : List Nat) (i : Nat) (b : Bool), 0 ≤ scan i b l → (i : Int) + 1 ≤ scan i b l := by
      intro l
      induction l with
      | nil => intro i b h; simp [scan] at h
      | cons c l ih =>
        intro i b h
        unfold scan at h ⊢
        split at h
        · rename_i q; rw [if_pos q]; have := ih (i + 1) true h; push_cast at this; omega
        · rename_i q
          rw [if_neg q]
          split at h
          · rename_i z; rw [if_pos z]; omega
          · rename_i z; rw [if_neg z]; have := ih (i + 1) b h; push_cast at this; omega
    have := this _ _ _ h0
    push_cast at h; omega
  | c :: l, i, b, k + 1, h0, h => by
    rw [List.take_succ_cons]
    unfold scan at h0 h ⊢
    split
    · rename_i q
      rw [if_pos q] at h0 h
      exact scan_take l (i + 1) true k h0 (by push_cast at h ⊢; omega)
    · rename_i q
      rw [if_neg q] at h0 h
      split
      · rfl
      · rename_i z
        rw [if_neg z] at h0 h
        exact scan_take l (i + 1) b k h0 (by push_cast at h ⊢; omega)
theorem start_take {u : List Nat} {k : Nat} (h0 : 0 < lawStart u) (h : lawStart u ≤ k) : lawStart (u.take k) = lawStart u := by
  have hr := start_reg u
  have h3 : 3 ≤ lawStart u := by rcases hr with ⟨q, _⟩ | ⟨q, q'⟩ <;> omega
  have hu := reg_le u
  unfold lawStart at *
  by_cases l : u.length < 3
  · rw [if_pos l] at h0; omega
  rw [if_neg l] at *
  have : ¬ (u.take k).length < 3 := by rw [List.length_take]; omega
  rw [if_neg this]
  exact scan_take u 0 false k (by omega) (by push_cast; omega)
theorem start_append {u v : List Nat} (h0 : 0 < lawStart u) : lawStart (u ++ v) = lawStart u := by
  -- u is the beginning of u ++ v of u's length
  have h3 : 3 ≤ u.length := by
    unfold lawStart at h0
    by_cases l : u.length < 3
    · rw [if_pos l] at h0; omega
    · omega
  have app : ∀ (l v : List Nat) (i : Nat) (b : Bool), 0 ≤ scan i b l → scan i b (l ++ v) = scan i b l := by
    intro l
    induction l with
    | nil => intro v i b h; simp [scan] at h
    | cons c l ih =>
      intro v i b h
      rw [List.cons_append]
      unfold scan at h ⊢
      split
      · rename_i q; rw [if_pos q] at h; exact ih _ _ _ h
      · rename_i q
        rw [if_neg q] at h
        split
        · rfl
        · rename_i z; rw [if_neg z] at h; exact ih _ _ _ h
  have l1 : ¬ u.length < 3 := by omega
  have l2 : ¬ (u ++ v).length < 3 := by rw [List.length_append]; omega
  unfold lawStart at *
  rw [if_neg l1] at h0
  rw [if_neg l1, if_neg l2]
  exact app _ _ _ _ (by omega)
end Mine
end PartP3
section PartP4
namespace Mine
/-! ### what each step takes away -/
theorem main_drop {r a : List Nat} {m : Nat} (hm : m ≤ r.length) (hreg : r.length - regP r.reverse = m) (h : Main r m a) : ∃ k, k ≤ 7 ∧ k ≤ m ∧ a = r.drop k := by
  obtain ⟨res, n, T, h⟩ := h
  have same : a = r → ∃ k, k ≤ 7 ∧ k ≤ m ∧ a = r.drop k := fun e => ⟨0, by omega, by omega, by simpa using e⟩
  by_cases q : res = 0
  · subst q
    rcases h with ⟨_, e⟩ | ⟨z, _⟩ | ⟨z, _⟩ | ⟨z, _⟩ <;> first | exact same e | omega
  obtain ⟨e, he, hp, rfl, rfl, _⟩ := told_some T q
  obtain ⟨_, l2, _⟩ := pre_take hp
  have ln := len1 e he
  rcases h with ⟨z, _⟩ | ⟨_, h⟩ | ⟨z, h⟩ | ⟨_, _, _, h⟩
  · exact absurd z q
  · exact ⟨_, ln.2, l2, h⟩
  · have e1 := f2 e he z
    rw [e1] at h l2
    simp only [List.length_cons, List.length_nil] at h l2
    split at h
    · rename_i c
      simp only [Bool.and_eq_true] at c
      have := et_reg c.2
      exact ⟨3, by omega, by omega, h⟩
    · split at h
      · exact ⟨1, by omega, by omega, h⟩
      · exact same h
  · split at h
    · exact ⟨_, ln.2, l2, h⟩
    · exact same h
theorem cons_drop {r a : List Nat} {m : Nat} (h : Cons r m a) : ∃ k, k ≤ 1 ∧ k ≤ m ∧ a = r.drop k := by
  obtain ⟨res, n, T, h⟩ := h
  rcases h with ⟨_, e⟩ | ⟨q, e⟩
  · exact ⟨0, by omega, by omega, by simpa using e⟩
  · obtain ⟨e', he, hp, rfl, rfl, _⟩ := told_some T q
    obtain ⟨_, l2, _⟩ := pre_take hp
    have : 1 ≤ e'.s.length := (tbl_parts ok2).2.1 e' he
    exact ⟨1, by omega, by omega, e⟩
theorem oth_drop {r a : List Nat} {m : Nat} (h : Oth r m a) : ∃ k, k ≤ 3 ∧ k ≤ m ∧ a = r.drop k := by
  obtain ⟨res, n, T, h⟩ := h
  have same : a = r → ∃ k, k ≤ 3 ∧ k ≤ m ∧ a = r.drop k := fun e => ⟨0, by omega, by omega, by simpa using e⟩
  by_cases q : res = 0
  · subst q
    rcases h with ⟨_, e⟩ | ⟨z, _⟩ | ⟨z, _⟩ | ⟨z, _⟩ <;> first | exact same e | omega
  obtain ⟨e, he, hp, rfl, rfl, _⟩ := told_some T q
  obtain ⟨p1, l2, _⟩ := pre_take hp
  have ln := len3 e he
  rcases h with ⟨z, _⟩ | ⟨z, h⟩ | ⟨z, h⟩ | ⟨_, z1, z2, h⟩
  · exact absurd z q
  · exact ⟨_, ln.2.2 z, l2, h⟩
  · have e1 := f6 e he z
    rw [e1] at h l2 p1
    simp only [List.length_cons, List.length_nil] at h l2
    split at h
    · refine ⟨1, by omega, by omega, ?_⟩
      have := pre_drop p1
      rw [h, this]; simp
    · exact same h
  · have e1 := f7 e he z1 z2
    rw [e1] at h l2 p1
    simp only [List.length_cons, List.length_nil] at h l2
    refine ⟨1, by omega, by omega, ?_⟩
    have := pre_drop p1
    rw [h, this]; simp
theorem drop_rev (u : List Nat) (k : Nat) : (u.reverse.drop k).reverse = u.take (u.length - k) := by
  rw [List.reverse_drop]; simp
/-- the parts of a stem -/
theorem stem_parts {u u' : List Nat} (h : Stem u u') : ∃ k1 k2 k3, k1 ≤ 7 ∧ k2 ≤ 1 ∧ k3 ≤ 3 ∧ k1 + k2 + k3 ≤ u.length - regP u ∧ u' = u.take (u.length - (k1 + k2 + k3)) ∧
    Main u.reverse (u.length - regP u) (u.reverse.drop k1) ∧ Cons (u.reverse.drop k1) (u.length - k1 - regP u) (u.reverse.drop (k1 + k2)) ∧ Oth (u.reverse.drop (k1 + k2)) (u.length - (k1 + k2) - regP u) (u.reverse.drop (k1 + k2 + k3)) := by
  obtain ⟨a, b, c, h1, h2, h3, rfl⟩ := h
  have hr := reg_le u
  obtain ⟨k1, l1, m1, rfl⟩ := main_drop (by rw [List.length_reverse]; omega) (by rw [List.length_reverse, List.reverse_reverse]) h1
  rw [List.length_drop, List.length_reverse] at h2
  obtain ⟨k2, l2, m2, rfl⟩ := cons_drop h2
  rw [List.drop_drop] at h2 h3
  rw [List.length_drop, List.length_reverse] at h3
  obtain ⟨k3, l3, m3, rfl⟩ := oth_drop h3
  rw [List.drop_drop] at h3
  refine ⟨k1, k2, k3, l1, l2, l3, by omega, ?_, h1, h2, h3⟩
  rw [List.drop_drop, drop_rev]
theorem stem_take {u u' : List Nat} (h : Stem u u') : ∃ k, k ≤ 11 ∧ k ≤ u.length - regP u ∧ u' = u.take (u.length - k) := by
  obtain ⟨k1, k2, k3, l1, l2, l3, l, e, _⟩ := stem_parts h
  exact ⟨_, by omega, l, e⟩

/-! ### the word is its own stem exactly if the list says so -/
theorem told_nil {T : Tbl} (ok : tblOk T = true) {r : Int} {n : Nat} (h : Told T [] r n) : r = 0 := by
  apply Classical.byContradiction
  intro q
  obtain ⟨e, he, hp, _⟩ := told_some h q
  have := (tbl_parts ok).2.1 e he
  cases hs : e.s with
  | nil => rw [hs] at this; simp at this
  | cons a s => rw [hs] at hp; simp at hp
theorem rests_parts {r : List Nat} {m : Nat} (h : restsR r m = true) : (∀ l ∈ loose, l.isPrefixOf (r.take m) = false) ∧ (([115] : List Nat).isPrefixOf (r.take m) = true → SE (r.getD 1 0) = false) ∧
    (([116, 115, 246] : List Nat).isPrefixOf (r.take m) = true → OE (r.getD 3 0) = false) ∧
    (([116, 101] : List Nat).isPrefixOf (r.take m) = true → V (r.getD 2 0) = false → V (r.getD 3 0) = true → ∃ e ∈ stays, (116 :: 101 :: e).isPrefixOf r = true) := by
  unfold restsR at h
  split at h
  · cases h
  rename_i c1
  split at h
  · cases h
  rename_i c2
  split at h
  · cases h
  rename_i c3
  simp only [List.any_eq_true, not_exists, not_and, Bool.not_eq_true] at c1
  simp only [Bool.and_eq_true, not_and, Bool.not_eq_true] at c2 c3
  refine ⟨c1, c2, c3, fun a b c => ?_⟩
  rw [a, b, c] at h
  simpa [List.any_eq_true] using h
theorem etC_of {x y : Nat} {r : List Nat} (hl : 5 ≤ r.length) (hr : r = x :: y :: r.drop 2) (h : etC (r.drop 2) = true) : V (r.getD 2 0) = false ∧ V (r.getD 3 0) = true ∧ ∀ e ∈ stays, (x :: y :: e).isPrefixOf r = false := by
  match r, hr, h with
  | x' :: y' :: a :: b :: c :: q, hr, h =>
    simp only [List.drop_succ_cons, List.drop_zero] at h hr
    unfold etC at h
    simp only [Bool.and_eq_true, Bool.not_eq_true', List.all_eq_true] at h
    obtain ⟨⟨ha, hb⟩, hs⟩ := h
    refine ⟨by simpa using ha, by simpa using hb, fun e he => ?_⟩
    rw [staysA0] at he
    obtain ⟨e', he', rfl⟩ := List.mem_map.mp he
    have := hs e' he'
    simp only [List.isPrefixOf] at this ⊢
    rw [this]; simp
  | [], _, h => simp [etC] at h
  | [_], _, h => simp [etC] at h
  | [_, _], _, h => simp [etC] at h
  | [_, _, _], _, h => simp [etC] at h
  | [_, _, _, _], _, h => simp [etC] at h
theorem etC_iff {x y : Nat} {r : List Nat} (hl : 5 ≤ r.length) (hr : r = x :: y :: r.drop 2) (h : etC (r.drop 2) = false) (h2 : V (r.getD 2 0) = false) (h3 : V (r.getD 3 0) = true) : ∃ e ∈ stays, (x :: y :: e).isPrefixOf r = true := by
  match r, hl, hr, h with
  | x' :: y' :: a :: b :: c :: q, hl, hr, h =>
    simp only [List.drop_succ_cons, List.drop_zero] at h hr
    simp at h2 h3
    have h : (!V a && V b && A0.all fun e => !e.s.isPrefixOf (a :: b :: c :: q)) = false := h
    rw [h2, h3] at h
    simp only [Bool.not_false, Bool.true_and, List.all_eq_false, Bool.not_eq_true', Bool.not_eq_false] at h
    obtain ⟨e, he, hp⟩ := h
    refine ⟨e.s, by rw [staysA0]; exact List.mem_map_of_mem he, ?_⟩
    injection hr with q1 q2
    injection q2 with q2 _
    subst q1; subst q2
    simp only [List.isPrefixOf, beq_self_eq_true, Bool.true_and]
    simpa using hp
theorem getD_pre {e r : List Nat} {i : Nat} (h : e.isPrefixOf r = true) (hi : i < e.length) : r.getD i 0 = e.getD i 0 := by
  rw [List.isPrefixOf_iff_prefix] at h
  obtain ⟨b, rfl⟩ := h
  simp [List.getD_eq_getElem?_getD, List.getElem?_append_left hi]
theorem se_no {r : List Nat} {m : Nat} {e : List Nat} (h : restsR r m = true) (hp : e.isPrefixOf (r.take m) = true) (hs : ([115] : List Nat).isPrefixOf e = true) (hl : 2 ≤ e.length) (hse : SE (e.getD 1 0) = true) : False := by
  obtain ⟨_, c2, _⟩ := rests_parts h
  have := c2 (pre_trans hs hp)
  rw [getD_pre (pre_take hp).1 (by omega), hse] at this
  cases this
theorem hd_getD {f : Nat → Bool} {r : List Nat} {k : Nat} (h : hd f (r.drop k) = true) : f (r.getD k 0) = true := by
  cases hq : r.drop k with
  | nil => rw [hq] at h; cases h
  | cons a q =>
    rw [hq] at h
    have : r[k]? = some a := by have := congrArg (·[0]?) hq; simpa using this
    rw [List.getD_eq_getElem?_getD, this]; exact h
theorem hd_getD' {f : Nat → Bool} {r : List Nat} {k : Nat} (hk : k < r.length) (h : f (r.getD k 0) = true) : hd f (r.drop k) = true := by
  rw [List.drop_eq_getElem_cons hk]
  rw [List.getD_eq_getElem?_getD, List.getElem?_eq_getElem hk] at h
  exact h
theorem main_rest {r a : List Nat} {m : Nat} (hm : m + 3 ≤ r.length) (h : restsR r m = true) (hM : Main r m a) : a = r := by
  obtain ⟨c1, c2, c3, c4⟩ := rests_parts h
  obtain ⟨res, n, T, hc⟩ := hM
  by_cases q : res = 0
  · subst q
    rcases hc with ⟨_, e⟩ | ⟨z, _⟩ | ⟨z, _⟩ | ⟨z, _⟩ <;> first | exact e | omega
  obtain ⟨e, he, hp, rfl, rfl, _⟩ := told_some T q
  rcases hc with ⟨z, _⟩ | ⟨z, _⟩ | ⟨z, hc⟩ | ⟨_, z1, z2, hc⟩
  · exact absurd z q
  · exfalso
    rcases f1 e he z with ⟨l, hl, hle⟩ | ⟨x1, x2, x3⟩
    · have := c1 l hl; rw [pre_trans hle hp] at this; cases this
    · exact se_no h hp x1 x2 x3
  · have e1 := f2 e he z
    rw [e1] at hc hp
    simp only [List.length_cons, List.length_nil] at hc
    have hse := c2 hp
    have nse : hd SE (r.drop 1) = false := by
      cases hq : hd SE (r.drop 1) with
      | false => rfl
      | true => have := hd_getD hq; rw [hse] at this; cases this
    have net : ([116, 101] : List Nat).isPrefixOf (r.drop 1) = false := by
      cases hq : ([116, 101] : List Nat).isPrefixOf (r.drop 1) with
      | false => rfl
      | true =>
        exfalso
        have : hd SE (r.drop 1) = true := by
          cases hr : r.drop 1 with
          | nil => rw [hr] at hq; simp at hq
          | cons x y =>
            rw [hr] at hq
            simp at hq
            have h0 := hq.1
            subst h0
            show SE 116 = true
            decide
        rw [this] at nse; cases nse
    rw [show (0 : Nat) + 1 = 1 from rfl, net, nse] at hc
    simpa using hc
  · have e1 := f3 e he z1 z2
    rw [e1] at hc hp
    simp only [List.length_cons, List.length_nil] at hc
    have l := (pre_take hp)
    have hl : 5 ≤ r.length := by have := l.2.1; simp at this; omega
    have hr : r = 116 :: 101 :: r.drop 2 := by have := pre_drop l.1; simpa using this
    split at hc
    · rename_i z
      exfalso
      obtain ⟨x1, x2, x3⟩ := etC_of hl hr z
      obtain ⟨e2, y1, y2⟩ := c4 hp x1 x2
      rw [x3 e2 y1] at y2; cases y2
    · exact hc
theorem cons_rest {r a : List Nat} {m : Nat} (h : restsR r m = true) (hC : Cons r m a) : a = r := by
  obtain ⟨c1, _⟩ := rests_parts h
  obtain ⟨res, n, T, hc⟩ := hC
  rcases hc with ⟨_, e⟩ | ⟨q, _⟩
  · exact e
  · exfalso
    obtain ⟨e, he, hp, _⟩ := told_some T q
    have := c1 _ (f4 e he); rw [hp] at this; cases this
theorem oth_rest {r a : List Nat} {m : Nat} (h : restsR r m = true) (hO : Oth r m a) : a = r := by
  obtain ⟨c1, c2, c3, _⟩ := rests_parts h
  obtain ⟨res, n, T, hc⟩ := hO
  by_cases q : res = 0
  · subst q
    rcases hc with ⟨_, e⟩ | ⟨z, _⟩ | ⟨z, _⟩ | ⟨z, _⟩ <;> first | exact e | omega
  obtain ⟨e, he, hp, rfl, rfl, _⟩ := told_some T q
  rcases hc with ⟨z, _⟩ | ⟨z, _⟩ | ⟨z, hc⟩ | ⟨_, z1, z2, hc⟩
  · exact absurd z q
  · exfalso
    rcases f5 e he z with ⟨l, hl, hle⟩ | ⟨x1, x2, x3⟩
    · have := c1 l hl; rw [pre_trans hle hp] at this; cases this
    · exact se_no h hp x1 x2 x3
  · have e1 := f6 e he z
    rw [e1] at hc hp
    simp only [List.length_cons, List.length_nil] at hc
    have := c3 hp
    split at hc
    · rename_i z
      have := hd_getD z
      simp_all
    · exact hc
  · exfalso
    have e1 := f7 e he z1 z2
    have : ([116, 108, 108, 117, 102] : List Nat) ∈ loose := by decide
    have := c1 _ this
    rw [← e1, hp] at this; cases this
theorem drop_ne {r : List Nat} {k : Nat} (h : r.drop k = r) (hk : k ≤ r.length) : k = 0 := by
  have := congrArg List.length h
  rw [List.length_drop] at this; omega
/-- if no step takes anything away, the list says so -/
theorem all_rest {r : List Nat} {m : Nat} (hm : m + 3 ≤ r.length) (h1 : Main r m r) (h2 : Cons r m r) (h3 : Oth r m r) : restsR r m = true := by
  obtain ⟨res, n, T, hc⟩ := h1
  -- what the first step says
  have M : ∀ e ∈ A1, e.s.isPrefixOf (r.take m) = true → (∃ e' ∈ A1, e'.s.isPrefixOf (r.take m) = true ∧ e'.res ≠ 1 ∧ e.s.length ≤ e'.s.length ∧
      ((e'.res = 2 ∧ hd SE (r.drop 1) = false) ∨ (e'.s = [116, 101] ∧ etC (r.drop 2) = false))) := fun e he hp => by
    by_cases q : res = 0
    · subst q
      have := told_zero res1 T e he
      rw [hp] at this; cases this
    obtain ⟨e', he', hp', rfl, rfl, hmax⟩ := told_some T q
    have l := pre_take hp'
    have ln := len1 e' he'
    refine ⟨e', he', hp', ?_, hmax e he hp, ?_⟩
    · intro z
      rcases hc with ⟨y, _⟩ | ⟨_, y⟩ | ⟨y, _⟩ | ⟨_, y, _⟩
      · exact q y
      · have := drop_ne y.symm l.2.2; omega
      · omega
      · exact y z
    · rcases hc with ⟨y, _⟩ | ⟨_, y⟩ | ⟨z, y⟩ | ⟨_, z1, z2, y⟩
      · exact absurd y q
      · have := drop_ne y.symm l.2.2; omega
      · left
        refine ⟨z, ?_⟩
        have e1 := f2 e' he' z
        rw [e1] at y l
        simp only [List.length_cons, List.length_nil] at y l
        cases hq : hd SE (r.drop 1) with
        | false => rfl
        | true =>
          exfalso
          rw [show (0 : Nat) + 1 = 1 from rfl, hq] at y
          split at y
          · have := drop_ne y.symm (by omega); omega
          · have := drop_ne y.symm (by omega); omega
      · right
        have e1 := f3 e' he' z1 z2
        refine ⟨e1, ?_⟩
        rw [e1] at y l
        simp only [List.length_cons, List.length_nil] at y l
        split at y
        · have := drop_ne y.symm (by omega); omega
        · rename_i z; simpa using z
  have C : ∀ e ∈ A2, e.s.isPrefixOf (r.take m) = false := by
    obtain ⟨res, n, T, hc⟩ := h2
    rcases hc with ⟨q, _⟩ | ⟨_, y⟩
    · subst q; exact told_zero res2 T
    · have := drop_ne y.symm (by omega); omega
  have O : ∀ e ∈ A3, e.s.isPrefixOf (r.take m) = true → ∃ e' ∈ A3, e'.s.isPrefixOf (r.take m) = true ∧ e'.res = 2 ∧ e.s.length ≤ e'.s.length ∧ hd OE (r.drop 3) = false := fun e he hp => by
    obtain ⟨res, n, T, hc⟩ := h3
    by_cases q : res = 0
    · subst q
      have := told_zero res3 T e he
      rw [hp] at this; cases this
    obtain ⟨e', he', hp', rfl, rfl, hmax⟩ := told_some T q
    have l := pre_take hp'
    have ln := len3 e' he'
    rcases hc with ⟨y, _⟩ | ⟨_, y⟩ | ⟨z, y⟩ | ⟨_, z1, z2, y⟩
    · exact absurd y q
    · have := drop_ne y.symm l.2.2; omega
    · refine ⟨e', he', hp', z, hmax e he hp, ?_⟩
      have e1 := f6 e' he' z
      rw [e1] at y l
      simp only [List.length_cons, List.length_nil] at y l
      cases hq : hd OE (r.drop 3) with
      | false => rfl
      | true =>
        exfalso
        rw [show (0 : Nat) + 1 + 1 + 1 = 3 from rfl, hq] at y
        have := congrArg List.length y
        simp [List.length_drop] at this
        omega
    · exfalso
      have e1 := f7 e' he' z1 z2
      rw [e1] at y l
      have := congrArg List.length y
      simp [List.length_drop] at this l
      omega
  unfold restsR
  rw [if_neg, if_neg, if_neg]
  · split
    · rename_i z
      simp only [Bool.and_eq_true, Bool.not_eq_true'] at z
      obtain ⟨⟨z1, z2⟩, z3⟩ := z
      obtain ⟨e, he, hes, _⟩ := hasEt
      obtain ⟨e', he', hp', hr', hl', hx⟩ := M e he (by rw [hes]; exact z1)
      have hpre : ([116, 101] : List Nat).isPrefixOf e'.s = true := by
        rw [hes] at hl'
        exact pre_cmp z1 hp' hl'
      have l := pre_take z1
      simp only [List.length_cons, List.length_nil] at l
      rcases hx with ⟨x1, _⟩ | ⟨_, x2⟩
      · exfalso
        rw [f2 e' he' x1] at hpre; simp at hpre
      · rw [List.any_eq_true]
        exact etC_iff (by omega) (by have := pre_drop l.1; simpa using this) x2 z2 z3
    · rfl
  · simp only [Bool.and_eq_true, not_and, Bool.not_eq_true]
    intro z1
    obtain ⟨e, he, hes⟩ := hasOst
    obtain ⟨e', he', hp', hr', _, hx⟩ := O e he (by rw [hes]; exact z1)
    have l := pre_take z1
    simp only [List.length_cons, List.length_nil] at l
    cases hq : OE (r.getD 3 0) with
    | false => rfl
    | true => rw [hd_getD' (by omega) hq] at hx; cases hx
  · simp only [Bool.and_eq_true, not_and, Bool.not_eq_true]
    intro z1
    obtain ⟨e, he, hes⟩ := hasS
    obtain ⟨e', he', hp', hr', hl', hx⟩ := M e he (by rw [hes]; exact z1)
    have l := pre_take z1
    simp only [List.length_cons, List.length_nil] at l
    have hpre : ([115] : List Nat).isPrefixOf e'.s = true := by
      rw [hes] at hl'
      exact pre_cmp z1 hp' hl'
    rcases hx with ⟨_, x⟩ | ⟨x1, _⟩
    · cases hq : SE (r.getD 1 0) with
      | false => rfl
      | true => rw [hd_getD' (by omega) hq] at x; cases x
    · rw [x1] at hpre; simp at hpre
  · simp only [List.any_eq_true, not_exists, not_and, Bool.not_eq_true]
    intro l hl
    cases hq : l.isPrefixOf (r.take m) with
    | false => rfl
    | true =>
      exfalso
      rcases g1 l hl with ⟨e, he, rfl, h⟩ | ⟨e, he, rfl⟩ | ⟨e, he, rfl, h⟩
      · obtain ⟨e', he', hp', hr', hl', _⟩ := M e he hq
        exact hr' (h e' he' (pre_cmp hq hp' hl'))
      · have := C e he; rw [hq] at this; cases this
      · obtain ⟨e', he', hp', hr', hl', _⟩ := O e he hq
        exact h e' he' (pre_cmp hq hp' hl') hr'
end Mine
end PartP4
section PartP5
namespace Mine
theorem rev_take_len (u : List Nat) {k : Nat} (h : k ≤ u.length) : u.reverse.drop (u.length - k) = (u.take k).reverse := by
  rw [← List.reverse_reverse (u.reverse.drop (u.length - k)), drop_rev]; rw [show u.length - (u.length - k) = k by omega]
theorem stem_rests {u u' : List Nat} (h : Stem u u') : u' = u ↔ rests u = true := by
  obtain ⟨k1, k2, k3, l1, l2, l3, l, e, hM, hC, hO⟩ := stem_parts h
  have hr := reg_le u
  rcases start_reg u with ⟨s1, s2⟩ | ⟨s1, s2⟩
  · -- no region: nothing is taken
    have : k1 = 0 ∧ k2 = 0 ∧ k3 = 0 := by omega
    obtain ⟨rfl, rfl, rfl⟩ := this
    have r1 : rests u = true := by unfold rests; rw [if_pos (by omega)]
    rw [r1]
    simp [e]
  · have r1 : rests u = restsR u.reverse (u.length - regP u) := by
      unfold rests
      rw [if_neg (by omega), s1, Int.toNat_natCast]
    rw [r1]
    constructor
    · intro hu
      have hk : k1 + k2 + k3 = 0 := by
        have := congrArg List.length (e.symm.trans hu)
        rw [List.length_take] at this
        omega
      have : k1 = 0 ∧ k2 = 0 ∧ k3 = 0 := by omega
      obtain ⟨rfl, rfl, rfl⟩ := this
      simp only [Nat.add_zero, Nat.sub_zero, List.drop_zero] at hM hC hO
      exact all_rest (by rw [List.length_reverse]; omega) hM hC hO
    · intro hR
      have a1 := main_rest (by rw [List.length_reverse]; omega) hR hM
      have z1 : k1 = 0 := drop_ne a1 (by rw [List.length_reverse]; omega)
      subst z1
      simp only [Nat.zero_add, Nat.sub_zero, List.drop_zero] at hC hO
      have a2 := cons_rest hR hC
      have z2 : k2 = 0 := drop_ne a2 (by rw [List.length_reverse]; omega)
      subst z2
      simp only [Nat.zero_add, Nat.sub_zero, List.drop_zero] at hO
      have a3 := oth_rest hR hO
      have z3 : k3 = 0 := drop_ne a3 (by rw [List.length_reverse]; omega)
      subst z3
      simpa using e
/-! ### the tower -/
theorem h1 : ∀ f ∈ forms, (∃ e ∈ A1, e.s = f ∧ e.res = 1) ∧ ∀ e ∈ A1, f.isPrefixOf e.s = true → e.s = f ∧ e.res = 1 := by decide +kernel
theorem h2 : ∀ f ∈ forms, ∀ e ∈ A2, e.s.isPrefixOf f = false ∧ f.isPrefixOf e.s = false := by decide +kernel
theorem h3 : ∀ f ∈ forms, ∀ e ∈ A3, e.s.isPrefixOf f = false ∧ f.isPrefixOf e.s = false := by decide +kernel
theorem pre_app (f x : List Nat) (m : Nat) : f.isPrefixOf ((f ++ x).take (f.length + m)) = true := by
  rw [List.isPrefixOf_iff_prefix, List.take_append]
  rw [List.take_of_length_le (by omega)]
  exact List.prefix_append _ _
theorem form_main {f x a : List Nat} {m : Nat} (hf : f ∈ forms) (h : Main (f ++ x) (f.length + m) a) : a = x := by
  obtain ⟨⟨e0, he0, hs0, _⟩, hu⟩ := h1 f hf
  obtain ⟨res, n, T, hc⟩ := h
  have p0 := pre_app f x m
  by_cases q : res = 0
  · subst q
    have := told_zero res1 T e0 he0
    rw [hs0, p0] at this; cases this
  obtain ⟨e, he, hp, rfl, rfl, hmax⟩ := told_some T q
  have := hmax e0 he0 (by rw [hs0]; exact p0)
  rw [hs0] at this
  obtain ⟨hs, hr⟩ := hu e he (pre_cmp p0 hp this)
  rcases hc with ⟨y, _⟩ | ⟨_, y⟩ | ⟨y, _⟩ | ⟨_, y, _⟩
  · exact absurd y q
  · rw [y, hs]; simp
  · rw [hr] at y; cases y
  · exact absurd hr y
theorem form_cons {f x a : List Nat} {m : Nat} (hf : f ∈ forms) (h : Cons (f ++ x) (f.length + m) a) : a = f ++ x := by
  obtain ⟨res, n, T, hc⟩ := h
  have p0 := pre_app f x m
  rcases hc with ⟨_, y⟩ | ⟨q, _⟩
  · exact y
  · exfalso
    obtain ⟨e, he, hp, _⟩ := told_some T q
    obtain ⟨x1, x2⟩ := h2 f hf e he
    by_cases l : e.s.length ≤ f.length
    · rw [pre_cmp hp p0 l] at x1; cases x1
    · rw [pre_cmp p0 hp (by omega)] at x2; cases x2
theorem form_oth {f x a : List Nat} {m : Nat} (hf : f ∈ forms) (h : Oth (f ++ x) (f.length + m) a) : a = f ++ x := by
  obtain ⟨res, n, T, hc⟩ := h
  have p0 := pre_app f x m
  by_cases q : res = 0
  · subst q
    rcases hc with ⟨_, e⟩ | ⟨z, _⟩ | ⟨z, _⟩ | ⟨z, _⟩ <;> first | exact e | omega
  · exfalso
    obtain ⟨e, he, hp, _⟩ := told_some T q
    obtain ⟨x1, x2⟩ := h3 f hf e he
    by_cases l : e.s.length ≤ f.length
    · rw [pre_cmp hp p0 l] at x1; cases x1
    · rw [pre_cmp p0 hp (by omega)] at x2; cases x2
/-- nothing is taken from it behind the main step -/
noncomputable def Quiet (u : List Nat) : Prop := ∀ a, (Cons u.reverse (u.length - regP u) a → a = u.reverse) ∧ (Oth u.reverse (u.length - regP u) a → a = u.reverse)
theorem quiet_rests {u : List Nat} (h0 : 0 < lawStart u) (h : rests u = true) : Quiet u := by
  rcases start_reg u with ⟨s1, s2⟩ | ⟨s1, s2⟩
  · omega
  have r1 : restsR u.reverse (u.length - regP u) = true := by
    have := h
    unfold rests at this
    rw [if_neg (by omega), s1, Int.toNat_natCast] at this
    exact this
  exact fun a => ⟨cons_rest r1, oth_rest r1⟩
theorem reg_append {u v : List Nat} (h0 : 0 < lawStart u) : regP (u ++ v) = regP u := by
  have e := start_append (v := v) h0
  rcases start_reg u with ⟨s1, s2⟩ | ⟨s1, s2⟩
  · omega
  · rcases start_reg (u ++ v) with ⟨t1, t2⟩ | ⟨t1, t2⟩ <;> omega
theorem quiet_form {u f : List Nat} (h0 : 0 < lawStart u) (hf : f ∈ forms) : Quiet (u ++ f.reverse) := by
  have hr := reg_le u
  intro a
  rw [reg_append h0, List.reverse_append, List.reverse_reverse, List.length_append, List.length_reverse]
  rw [show u.length + f.length - regP u = f.length + (u.length - regP u) by omega]
  exact ⟨form_cons hf, form_oth hf⟩
theorem stem_form {u f u' : List Nat} (h0 : 0 < lawStart u) (hf : f ∈ forms) (hq : Quiet u) (h : Stem (u ++ f.reverse) u') : u' = u := by
  have hr := reg_le u
  obtain ⟨a, b, c, hM, hC, hO, rfl⟩ := h
  rw [reg_append h0] at hM hC hO
  rw [List.reverse_append, List.reverse_reverse, List.length_append, List.length_reverse] at hM
  rw [show u.length + f.length - regP u = f.length + (u.length - regP u) by omega] at hM
  have := form_main hf hM
  subst this
  rw [List.length_reverse] at hC
  have := (hq b).1 hC
  subst this
  rw [List.length_reverse] at hO
  have := (hq c).2 hO
  subst this
  simp
end Mine
end PartP5
section PartP6
namespace Mine
theorem fi_here {f : Nat → Bool} {u : List Nat} {d : Nat} (hd : d < u.length) (h : f (u.getD d 0) = true) : firstIdx f u d = d := by
  unfold firstIdx
  rw [List.drop_eq_getElem_cons hd]
  rw [List.getD_eq_getElem?_getD, List.getElem?_eq_getElem hd] at h
  simp only [Option.getD_some] at h
  simp [List.takeWhile, h]
theorem fi_next {f : Nat → Bool} {u : List Nat} {d : Nat} (hd : d < u.length) (h : f (u.getD d 0) = false) : firstIdx f u d = firstIdx f u (d + 1) := by
  unfold firstIdx
  rw [List.drop_eq_getElem_cons hd]
  rw [List.getD_eq_getElem?_getD, List.getElem?_eq_getElem hd] at h
  simp only [Option.getD_some] at h
  simp [List.takeWhile, h]
  omega
theorem fi_end {f : Nat → Bool} {u : List Nat} {d : Nat} (hd : u.length ≤ d) : firstIdx f u d = d := by
  unfold firstIdx
  rw [List.drop_eq_nil_of_le hd]
  simp
end Mine
end PartP6
section PartP7
namespace Mine
/-! one comparison, sign by sign -/
theorem cmp_done : ∀ (n : Nat) (t w : List Nat), n ≤ lcp t w → n = w.length → lcp t w = w.length ∧ ltb t w = false
  | _, t, [], _, _ => by cases t <;> simp [lcp, ltb]
  | 0, _, _ :: _, _, h => by simp at h
  | n + 1, [], b :: w, h, _ => by simp [lcp] at h
  | n + 1, a :: t, b :: w, h, e => by
    unfold lcp at h ⊢
    split at h
    · rename_i q
      subst q
      obtain ⟨h1, h2⟩ := cmp_done n t w (by omega) (by simpa using e)
      rw [if_pos rfl]
      refine ⟨by simp [h1], ?_⟩
      unfold ltb; simp [h2]
    · omega
theorem cmp_out : ∀ (n : Nat) (t w : List Nat), n ≤ lcp t w → n = t.length → n < w.length → lcp t w = n ∧ ltb t w = true
  | n, [], [], _, _, h => by simp at h
  | n, [], b :: w, _, h, _ => by simp at h; subst h; simp [lcp, ltb]
  | n, a :: t, [], _, _, h => by simp at h
  | 0, a :: t, b :: w, _, h, _ => by simp at h
  | n + 1, a :: t, b :: w, h, e, l => by
    unfold lcp at h ⊢
    split at h
    · rename_i q
      subst q
      obtain ⟨h1, h2⟩ := cmp_out n t w (by omega) (by simpa using e) (by simpa using l)
      rw [if_pos rfl]
      refine ⟨by simp [h1], ?_⟩
      unfold ltb; simp [h2]
    · omega
theorem cmp_diff : ∀ (n : Nat) (t w : List Nat), n ≤ lcp t w → n < t.length → n < w.length → t.getD n 0 ≠ w.getD n 0 → lcp t w = n ∧ (ltb t w = true ↔ t.getD n 0 < w.getD n 0)
  | n, [], _, _, h, _, _ => by simp at h
  | n, _ :: _, [], _, _, h, _ => by simp at h
  | 0, a :: t, b :: w, _, _, _, h => by
    simp at h ⊢
    unfold lcp ltb
    simp [h]
  | n + 1, a :: t, b :: w, h, h1, h2, h3 => by
    unfold lcp at h ⊢
    split at h
    · rename_i q
      subst q
      obtain ⟨e1, e2⟩ := cmp_diff n t w (by omega) (by simpa using h1) (by simpa using h2) (by simpa using h3)
      rw [if_pos rfl]
      refine ⟨by simp [e1], ?_⟩
      unfold ltb; simpa using e2
    · omega
theorem cmp_same : ∀ (n : Nat) (t w : List Nat), n ≤ lcp t w → n < t.length → n < w.length → t.getD n 0 = w.getD n 0 → n + 1 ≤ lcp t w
  | n, [], _, _, h, _, _ => by simp at h
  | n, _ :: _, [], _, _, h, _ => by simp at h
  | 0, a :: t, b :: w, _, _, _, h => by
    simp at h
    subst h
    unfold lcp; simp
  | n + 1, a :: t, b :: w, h, h1, h2, h3 => by
    unfold lcp at h ⊢
    split at h
    · rename_i q
      subst q
      have := cmp_same n t w (by omega) (by simpa using h1) (by simpa using h2) (by simpa using h3)
      rw [if_pos rfl]; omega
    · omega
theorem rev_getD (l : List Nat) (n : Nat) (h : n < l.length) : l.reverse.getD n 0 = l.getD (l.length - 1 - n) 0 := by
  rw [List.getD_eq_getElem?_getD, List.getD_eq_getElem?_getD, List.getElem?_reverse h]
theorem win_getD (u : List Nat) (lb c n : Nat) (h1 : lb ≤ c) (h2 : c ≤ u.length) (h : n < c - lb) : (((u.take c).drop lb).reverse).getD n 0 = u.getD (c - 1 - n) 0 := by
  have l : ((u.take c).drop lb).length = c - lb := by rw [List.length_drop, List.length_take]; omega
  rw [rev_getD _ _ (by omega), l]
  rw [List.getD_eq_getElem?_getD, List.getD_eq_getElem?_getD, List.getElem?_drop, List.getElem?_take_of_lt (by omega)]
  rw [show lb + (c - lb - 1 - n) = c - 1 - n by omega]
end Mine
end PartP7
section Walks
set_option maxRecDepth 100000
set_option maxHeartbeats 4000000
noncomputable section
namespace Mine
open PySem PySem.W PyProof.Rows PySem.Calls
section PartW0
set_option maxHeartbeats 0
open PySem PySem.W PyProof.Rows PySem.Calls
noncomputable abbrev pw : Program := PySem.Challenge.pw_is0010_01
noncomputable def tb0 : List Stmt := pw.main.body
noncomputable def stA (l : List Stmt) (i : Nat) : Stmt := (l[i]?).getD (.Pass default)
noncomputable def clB : Stmt → List Stmt
  | .ClassDef _ _ _ b _ _ _ _ _ _ _ => b
  | _ => []
noncomputable def fnB : Stmt → List Stmt
  | .FunctionDef _ _ b _ _ _ _ _ _ _ => b
  | _ => []
noncomputable def fnA : Stmt → Arguments
  | .FunctionDef _ a _ _ _ _ _ _ _ _ => a
  | _ => default
noncomputable def fnS : Stmt → Scope
  | .FunctionDef _ _ _ _ _ _ sc _ _ _ => sc
  | _ => default
noncomputable def Kf (P : Params) : Frag :=
  ((nat_lit 494), ⟨.type "type", none, .cls ⟨"SwedishStemmer", [.ref 197], [.ref 494, .ref 197, .type "object"], 493, "SwedishStemmer", true, [], [], false, none, false⟩, #[(some (.ref 223)), none, (some (.str "SwedishStemmer" 461)), (some (.str "SwedishStemmer" 469)), (some (.builtin "object.__new__")), (some (.bool true))]⟩) ::
  ((nat_lit 493), ⟨.type "dict", none, .dict #[⟨PyData.keyHash P "__module__", .str "__module__" 468, .str "snowballstemmer.swedish_stemmer" 459⟩, ⟨PyData.keyHash P "__firstlineno__", .str "__firstlineno__" 472, .int 168 471⟩, ⟨PyData.keyHash P "g_v", .str "g_v" 491, .ref 230⟩, ⟨PyData.keyHash P "g_s_ending", .str "g_s_ending" 526, .ref 231⟩, ⟨PyData.keyHash P "g_ost_ending", .str "g_ost_ending" 545, .ref 232⟩, ⟨PyData.keyHash P "I_p1", .str "I_p1" 547, .int 0 546⟩, ⟨PyData.keyHash P "r_mark_regions", .str "r_mark_regions" 556, .ref 239⟩, ⟨PyData.keyHash P "r_et_condition", .str "r_et_condition" 565, .ref 246⟩, ⟨PyData.keyHash P "r_main_suffix", .str "r_main_suffix" 575, .ref 253⟩, ⟨PyData.keyHash P "r_consonant_pair", .str "r_consonant_pair" 584, .ref 260⟩, ⟨PyData.keyHash P "r_other_suffix", .str "r_other_suffix" 593, .ref 267⟩, ⟨PyData.keyHash P "_stem", .str "_stem" 604, .ref 274⟩, ⟨PyData.keyHash P "a_0", .str "a_0" 920, .ref 338⟩, ⟨PyData.keyHash P "a_1", .str "a_1" 1427, .ref 453⟩, ⟨PyData.keyHash P "a_2", .str "a_2" 1533, .ref 475⟩, ⟨PyData.keyHash P "a_3", .str "a_3" 1603, .ref 491⟩, ⟨PyData.keyHash P "__static_attributes__", .str "__static_attributes__" 1609, .ref 492⟩, ⟨PyData.keyHash P "__doc__", .str "__doc__" 1610, .none⟩] 2, #[]⟩) ::
  ((nat_lit 197), ⟨.type "type", none, .cls ⟨"BaseStemmer", [.type "object"], [.ref 197, .type "object"], 196, "BaseStemmer", true, [], [.ref 494], false, none, false⟩, #[none, none, (some (.str "BaseStemmer" 196)), (some (.str "BaseStemmer" 204)), (some (.builtin "object.__new__")), (some (.bool true))]⟩) ::
  ((nat_lit 196), ⟨.type "dict", none, .dict #[⟨PyData.keyHash P "__module__", .str "__module__" 203, .str "snowballstemmer.basestemmer" 194⟩, ⟨PyData.keyHash P "__firstlineno__", .str "__firstlineno__" 207, .int 5 206⟩, ⟨PyData.keyHash P "__init__", .str "__init__" 214, .ref 35⟩, ⟨PyData.keyHash P "set_current", .str "set_current" 222, .ref 42⟩, ⟨PyData.keyHash P "get_current", .str "get_current" 229, .ref 49⟩, ⟨PyData.keyHash P "copy_from", .str "copy_from" 237, .ref 56⟩, ⟨PyData.keyHash P "in_grouping", .str "in_grouping" 245, .ref 63⟩, ⟨PyData.keyHash P "go_in_grouping", .str "go_in_grouping" 253, .ref 70⟩, ⟨PyData.keyHash P "in_grouping_b", .str "in_grouping_b" 261, .ref 77⟩, ⟨PyData.keyHash P "go_in_grouping_b", .str "go_in_grouping_b" 269, .ref 84⟩, ⟨PyData.keyHash P "out_grouping", .str "out_grouping" 277, .ref 91⟩, ⟨PyData.keyHash P "go_out_grouping", .str "go_out_grouping" 285, .ref 98⟩, ⟨PyData.keyHash P "out_grouping_b", .str "out_grouping_b" 293, .ref 105⟩, ⟨PyData.keyHash P "go_out_grouping_b", .str "go_out_grouping_b" 301, .ref 112⟩, ⟨PyData.keyHash P "eq_s", .str "eq_s" 309, .ref 119⟩, ⟨PyData.keyHash P "eq_s_b", .str "eq_s_b" 317, .ref 126⟩, ⟨PyData.keyHash P "find_among", .str "find_among" 325, .ref 133⟩, ⟨PyData.keyHash P "find_among_b", .str "find_among_b" 345, .ref 140⟩, ⟨PyData.keyHash P "replace_s", .str "replace_s" 356, .ref 147⟩, ⟨PyData.keyHash P "slice_from", .str "slice_from" 364, .ref 154⟩, ⟨PyData.keyHash P "slice_del", .str "slice_del" 371, .ref 161⟩, ⟨PyData.keyHash P "insert", .str "insert" 381, .ref 168⟩, ⟨PyData.keyHash P "slice_to", .str "slice_to" 388, .ref 175⟩, ⟨PyData.keyHash P "assign_to", .str "assign_to" 395, .ref 182⟩, ⟨PyData.keyHash P "stemWord", .str "stemWord" 403, .ref 189⟩, ⟨PyData.keyHash P "stemWords", .str "stemWords" 409, .ref 194⟩, ⟨PyData.keyHash P "__static_attributes__", .str "__static_attributes__" 416, .ref 195⟩, ⟨PyData.keyHash P "__dict__", .str "__dict__" 418, .ref 198⟩, ⟨PyData.keyHash P "__weakref__", .str "__weakref__" 420, .ref 199⟩, ⟨PyData.keyHash P "__doc__", .str "__doc__" 421, .none⟩] 4, #[]⟩) ::
  ((nat_lit 3), ⟨.type "dict", none, .dict #[⟨PyData.keyHash P "__name__", .str "__name__" 165, .str "law_is0010_01" 1633⟩, ⟨PyData.keyHash P "__doc__", .str "__doc__" 166, .none⟩, ⟨PyData.keyHash P "__package__", .str "__package__" 167, .none⟩, ⟨PyData.keyHash P "__loader__", .str "__loader__" 168, .builtin "__main__.__loader__#opaque"⟩, ⟨PyData.keyHash P "__spec__", .str "__spec__" 169, .none⟩, ⟨PyData.keyHash P "__annotations__", .str "__annotations__" 170, .ref 6⟩, ⟨PyData.keyHash P "__builtins__", .str "__builtins__" 171, .ref 4⟩, ⟨PyData.keyHash P "__file__", .str "__file__" 173, .str "/claim/cut.py" 172⟩, ⟨PyData.keyHash P "__cached__", .str "__cached__" 174, .none⟩, ⟨PyData.keyHash P "_wall", .str "_wall" 193, .ref 21⟩, ⟨PyData.keyHash P "BaseStemmer", .str "BaseStemmer" 423, .ref 197⟩, ⟨PyData.keyHash P "Among", .str "Among" 458, .ref 218⟩, ⟨PyData.keyHash P "SwedishStemmer", .str "SwedishStemmer" 1612, .ref 494⟩, ⟨PyData.keyHash P "lab0", .str "lab0" 1632, .ref 506⟩, ⟨PyData.keyHash P "_law_vowels", .str "_law_vowels" 1640, .ref 516⟩, ⟨PyData.keyHash P "_law_before_s", .str "_law_before_s" 1646, .ref 523⟩, ⟨PyData.keyHash P "_law_before_ost", .str "_law_before_ost" 1652, .ref 530⟩, ⟨PyData.keyHash P "_law_stays", .str "_law_stays" 1658, .ref 537⟩, ⟨PyData.keyHash P "_law_loose", .str "_law_loose" 1664, .ref 544⟩, ⟨PyData.keyHash P "_law_forms", .str "_law_forms" 1693, .ref 545⟩, ⟨PyData.keyHash P "_law_often", .str "_law_often" 1714, .ref 546⟩, ⟨PyData.keyHash P "_law_rest", .str "_law_rest" 1732, .ref 547⟩, ⟨PyData.keyHash P "_law_signs", .str "_law_signs" 1741, .ref 548⟩, ⟨PyData.keyHash P "_law_begins", .str "_law_begins" 1748, .ref 549⟩, ⟨PyData.keyHash P "_law_ends", .str "_law_ends" 1754, .ref 550⟩, ⟨PyData.keyHash P "_law_pairs", .str "_law_pairs" 1762, .ref 551⟩, ⟨PyData.keyHash P "_law_third", .str "_law_third" 1768, .ref 552⟩, ⟨PyData.keyHash P "_law_start", .str "_law_start" 1777, .ref 559⟩, ⟨PyData.keyHash P "_law_rests", .str "_law_rests" 1783, .ref 564⟩, ⟨PyData.keyHash P "law", .str "law" 1789, .ref 569⟩] 30, #[]⟩) ::
  ((nat_lit 2), ⟨.none, none, .dict #[⟨PyData.keyHash P "type.__subclasses__.Exception.0", .str "type.__subclasses__.Exception.0" 1629, .int 506 0⟩, ⟨PyData.keyHash P "type.__subclasses__.Exception.n", .str "type.__subclasses__.Exception.n" 1630, .int 1 0⟩] 2, #[]⟩) ::
  ((nat_lit 218), ⟨.type "type", none, .cls ⟨"Among", [.type "object"], [.ref 218, .type "object"], 217, "Among", true, [], [], false, none, false⟩, #[none, none, (some (.str "Among" 426)), (some (.str "Among" 434)), (some (.builtin "object.__new__")), (some (.bool true))]⟩) ::
  ((nat_lit 217), ⟨.type "dict", none, .dict #[⟨PyData.keyHash P "__module__", .str "__module__" 433, .str "snowballstemmer.among" 424⟩, ⟨PyData.keyHash P "__firstlineno__", .str "__firstlineno__" 437, .int 161 436⟩, ⟨PyData.keyHash P "__init__", .str "__init__" 447, .ref 215⟩, ⟨PyData.keyHash P "__static_attributes__", .str "__static_attributes__" 451, .ref 216⟩, ⟨PyData.keyHash P "__dict__", .str "__dict__" 453, .ref 219⟩, ⟨PyData.keyHash P "__weakref__", .str "__weakref__" 455, .ref 220⟩, ⟨PyData.keyHash P "__doc__", .str "__doc__" 456, .none⟩] 4, #[]⟩) ::
  ((nat_lit 506), ⟨.type "type", none, .cls ⟨"lab0", [.type "Exception"], [.ref 506, .type "Exception", .type "BaseException", .type "object"], 505, "lab0", true, [], [], false, none, false⟩, #[(some (.ref 497)), none, (some (.str "lab0" 1613)), (some (.str "lab0" 1621)), (some (.builtin "Exception.__new__")), (some (.bool true))]⟩) ::
  ((nat_lit 505), ⟨.type "dict", none, .dict #[⟨PyData.keyHash P "__module__", .str "__module__" 1620, .str "snowballstemmer.swedish_stemmer" 459⟩, ⟨PyData.keyHash P "__firstlineno__", .str "__firstlineno__" 1624, .int 316 1623⟩, ⟨PyData.keyHash P "__static_attributes__", .str "__static_attributes__" 1625, .ref 504⟩, ⟨PyData.keyHash P "__weakref__", .str "__weakref__" 1627, .ref 507⟩, ⟨PyData.keyHash P "__doc__", .str "__doc__" 1628, .none⟩] 3, #[]⟩) ::
  ((nat_lit 21), ⟨.type "function", none, .func ⟨"_wall", "_wall", fnA (stA tb0 0), .stmts (fnB (stA tb0 0)), fnS (stA tb0 0), 3, [], .none, .none, .none, .str "__main__" 164, none, .ref 20, .none, 0⟩, #[]⟩) ::
  ((nat_lit 35), ⟨.type "function", none, .func ⟨"__init__", "BaseStemmer.__init__", fnA (stA (clB (stA tb0 2)) 0), .stmts (fnB (stA (clB (stA tb0 2)) 0)), fnS (stA (clB (stA tb0 2)) 0), 3, [], .none, .none, .none, .str "snowballstemmer.basestemmer" 194, none, .ref 34, .none, 0⟩, #[]⟩) ::
  ((nat_lit 42), ⟨.type "function", none, .func ⟨"set_current", "BaseStemmer.set_current", fnA (stA (clB (stA tb0 2)) 1), .stmts (fnB (stA (clB (stA tb0 2)) 1)), fnS (stA (clB (stA tb0 2)) 1), 3, [], .none, .none, .none, .str "snowballstemmer.basestemmer" 194, none, .ref 41, .none, 0⟩, #[]⟩) ::
  ((nat_lit 49), ⟨.type "function", none, .func ⟨"get_current", "BaseStemmer.get_current", fnA (stA (clB (stA tb0 2)) 2), .stmts (fnB (stA (clB (stA tb0 2)) 2)), fnS (stA (clB (stA tb0 2)) 2), 3, [], .none, .none, .none, .str "snowballstemmer.basestemmer" 194, none, .ref 48, .none, 0⟩, #[]⟩) ::
  ((nat_lit 56), ⟨.type "function", none, .func ⟨"copy_from", "BaseStemmer.copy_from", fnA (stA (clB (stA tb0 2)) 3), .stmts (fnB (stA (clB (stA tb0 2)) 3)), fnS (stA (clB (stA tb0 2)) 3), 3, [], .none, .none, .none, .str "snowballstemmer.basestemmer" 194, none, .ref 55, .none, 0⟩, #[]⟩) ::
  ((nat_lit 63), ⟨.type "function", none, .func ⟨"in_grouping", "BaseStemmer.in_grouping", fnA (stA (clB (stA tb0 2)) 4), .stmts (fnB (stA (clB (stA tb0 2)) 4)), fnS (stA (clB (stA tb0 2)) 4), 3, [], .none, .none, .none, .str "snowballstemmer.basestemmer" 194, none, .ref 62, .none, 0⟩, #[]⟩) ::
  ((nat_lit 70), ⟨.type "function", none, .func ⟨"go_in_grouping", "BaseStemmer.go_in_grouping", fnA (stA (clB (stA tb0 2)) 5), .stmts (fnB (stA (clB (stA tb0 2)) 5)), fnS (stA (clB (stA tb0 2)) 5), 3, [], .none, .none, .none, .str "snowballstemmer.basestemmer" 194, none, .ref 69, .none, 0⟩, #[]⟩) ::
  ((nat_lit 77), ⟨.type "function", none, .func ⟨"in_grouping_b", "BaseStemmer.in_grouping_b", fnA (stA (clB (stA tb0 2)) 6), .stmts (fnB (stA (clB (stA tb0 2)) 6)), fnS (stA (clB (stA tb0 2)) 6), 3, [], .none, .none, .none, .str "snowballstemmer.basestemmer" 194, none, .ref 76, .none, 0⟩, #[]⟩) ::
  ((nat_lit 84), ⟨.type "function", none, .func ⟨"go_in_grouping_b", "BaseStemmer.go_in_grouping_b", fnA (stA (clB (stA tb0 2)) 7), .stmts (fnB (stA (clB (stA tb0 2)) 7)), fnS (stA (clB (stA tb0 2)) 7), 3, [], .none, .none, .none, .str "snowballstemmer.basestemmer" 194, none, .ref 83, .none, 0⟩, #[]⟩) ::
  ((nat_lit 91), ⟨.type "function", none, .func ⟨"out_grouping", "BaseStemmer.out_grouping", fnA (stA (clB (stA tb0 2)) 8), .stmts (fnB (stA (clB (stA tb0 2)) 8)), fnS (stA (clB (stA tb0 2)) 8), 3, [], .none, .none, .none, .str "snowballstemmer.basestemmer" 194, none, .ref 90, .none, 0⟩, #[]⟩) ::
  ((nat_lit 98), ⟨.type "function", none, .func ⟨"go_out_grouping", "BaseStemmer.go_out_grouping", fnA (stA (clB (stA tb0 2)) 9), .stmts (fnB (stA (clB (stA tb0 2)) 9)), fnS (stA (clB (stA tb0 2)) 9), 3, [], .none, .none, .none, .str "snowballstemmer.basestemmer" 194, none, .ref 97, .none, 0⟩, #[]⟩) ::
  ((nat_lit 105), ⟨.type "function", none, .func ⟨"out_grouping_b", "BaseStemmer.out_grouping_b", fnA (stA (clB (stA tb0 2)) 10), .stmts (fnB (stA (clB (stA tb0 2)) 10)), fnS (stA (clB (stA tb0 2)) 10), 3, [], .none, .none, .none, .str "snowballstemmer.basestemmer" 194, none, .ref 104, .none, 0⟩, #[]⟩) ::
  ((nat_lit 112), ⟨.type "function", none, .func ⟨"go_out_grouping_b", "BaseStemmer.go_out_grouping_b", fnA (stA (clB (stA tb0 2)) 11), .stmts (fnB (stA (clB (stA tb0 2)) 11)), fnS (stA (clB (stA tb0 2)) 11), 3, [], .none, .none, .none, .str "snowballstemmer.basestemmer" 194, none, .ref 111, .none, 0⟩, #[]⟩) ::
  ((nat_lit 119), ⟨.type "function", none, .func ⟨"eq_s", "BaseStemmer.eq_s", fnA (stA (clB (stA tb0 2)) 12), .stmts (fnB (stA (clB (stA tb0 2)) 12)), fnS (stA (clB (stA tb0 2)) 12), 3, [], .none, .none, .none, .str "snowballstemmer.basestemmer" 194, none, .ref 118, .none, 0⟩, #[]⟩) ::
  ((nat_lit 126), ⟨.type "function", none, .func ⟨"eq_s_b", "BaseStemmer.eq_s_b", fnA (stA (clB (stA tb0 2)) 13), .stmts (fnB (stA (clB (stA tb0 2)) 13)), fnS (stA (clB (stA tb0 2)) 13), 3, [], .none, .none, .none, .str "snowballstemmer.basestemmer" 194, none, .ref 125, .none, 0⟩, #[]⟩) ::
  ((nat_lit 133), ⟨.type "function", none, .func ⟨"find_among", "BaseStemmer.find_among", fnA (stA (clB (stA tb0 2)) 14), .stmts (fnB (stA (clB (stA tb0 2)) 14)), fnS (stA (clB (stA tb0 2)) 14), 3, [], .none, .none, .none, .str "snowballstemmer.basestemmer" 194, none, .ref 132, .none, 0⟩, #[]⟩) ::
  ((nat_lit 140), ⟨.type "function", none, .func ⟨"find_among_b", "BaseStemmer.find_among_b", fnA (stA (clB (stA tb0 2)) 15), .stmts (fnB (stA (clB (stA tb0 2)) 15)), fnS (stA (clB (stA tb0 2)) 15), 3, [], .none, .none, .none, .str "snowballstemmer.basestemmer" 194, none, .ref 139, .none, 0⟩, #[]⟩) ::
  ((nat_lit 147), ⟨.type "function", none, .func ⟨"replace_s", "BaseStemmer.replace_s", fnA (stA (clB (stA tb0 2)) 16), .stmts (fnB (stA (clB (stA tb0 2)) 16)), fnS (stA (clB (stA tb0 2)) 16), 3, [], .none, .none, .none, .str "snowballstemmer.basestemmer" 194, none, .ref 146, .none, 0⟩, #[]⟩) ::
  ((nat_lit 154), ⟨.type "function", none, .func ⟨"slice_from", "BaseStemmer.slice_from", fnA (stA (clB (stA tb0 2)) 17), .stmts (fnB (stA (clB (stA tb0 2)) 17)), fnS (stA (clB (stA tb0 2)) 17), 3, [], .none, .none, .none, .str "snowballstemmer.basestemmer" 194, none, .ref 153, .none, 0⟩, #[]⟩) ::
  ((nat_lit 161), ⟨.type "function", none, .func ⟨"slice_del", "BaseStemmer.slice_del", fnA (stA (clB (stA tb0 2)) 18), .stmts (fnB (stA (clB (stA tb0 2)) 18)), fnS (stA (clB (stA tb0 2)) 18), 3, [], .none, .none, .none, .str "snowballstemmer.basestemmer" 194, none, .ref 160, .none, 0⟩, #[]⟩) ::
  ((nat_lit 168), ⟨.type "function", none, .func ⟨"insert", "BaseStemmer.insert", fnA (stA (clB (stA tb0 2)) 19), .stmts (fnB (stA (clB (stA tb0 2)) 19)), fnS (stA (clB (stA tb0 2)) 19), 3, [], .none, .none, .none, .str "snowballstemmer.basestemmer" 194, none, .ref 167, .none, 0⟩, #[]⟩) ::
  ((nat_lit 175), ⟨.type "function", none, .func ⟨"slice_to", "BaseStemmer.slice_to", fnA (stA (clB (stA tb0 2)) 20), .stmts (fnB (stA (clB (stA tb0 2)) 20)), fnS (stA (clB (stA tb0 2)) 20), 3, [], .none, .none, .none, .str "snowballstemmer.basestemmer" 194, none, .ref 174, .none, 0⟩, #[]⟩) ::
  ((nat_lit 182), ⟨.type "function", none, .func ⟨"assign_to", "BaseStemmer.assign_to", fnA (stA (clB (stA tb0 2)) 21), .stmts (fnB (stA (clB (stA tb0 2)) 21)), fnS (stA (clB (stA tb0 2)) 21), 3, [], .none, .none, .none, .str "snowballstemmer.basestemmer" 194, none, .ref 181, .none, 0⟩, #[]⟩) ::
  ((nat_lit 189), ⟨.type "function", none, .func ⟨"stemWord", "BaseStemmer.stemWord", fnA (stA (clB (stA tb0 2)) 22), .stmts (fnB (stA (clB (stA tb0 2)) 22)), fnS (stA (clB (stA tb0 2)) 22), 3, [], .none, .none, .none, .str "snowballstemmer.basestemmer" 194, none, .ref 188, .none, 0⟩, #[]⟩) ::
  ((nat_lit 194), ⟨.type "function", none, .func ⟨"stemWords", "BaseStemmer.stemWords", fnA (stA (clB (stA tb0 2)) 23), .stmts (fnB (stA (clB (stA tb0 2)) 23)), fnS (stA (clB (stA tb0 2)) 23), 3, [], .none, .none, .none, .str "snowballstemmer.basestemmer" 194, none, .ref 193, .none, 0⟩, #[]⟩) ::
  ((nat_lit 215), ⟨.type "function", none, .func ⟨"__init__", "Among.__init__", fnA (stA (clB (stA tb0 4)) 0), .stmts (fnB (stA (clB (stA tb0 4)) 0)), fnS (stA (clB (stA tb0 4)) 0), 3, [], .none, .none, .none, .str "snowballstemmer.among" 424, none, .ref 214, .none, 0⟩, #[]⟩) ::
  ((nat_lit 239), ⟨.type "function", none, .func ⟨"r_mark_regions", "SwedishStemmer.r_mark_regions", fnA (stA (clB (stA tb0 6)) 4), .stmts (fnB (stA (clB (stA tb0 6)) 4)), fnS (stA (clB (stA tb0 6)) 4), 3, [], .none, .none, .none, .str "snowballstemmer.swedish_stemmer" 459, none, .ref 238, .none, 0⟩, #[]⟩) ::
  ((nat_lit 246), ⟨.type "function", none, .func ⟨"r_et_condition", "SwedishStemmer.r_et_condition", fnA (stA (clB (stA tb0 6)) 5), .stmts (fnB (stA (clB (stA tb0 6)) 5)), fnS (stA (clB (stA tb0 6)) 5), 3, [], .none, .none, .none, .str "snowballstemmer.swedish_stemmer" 459, none, .ref 245, .none, 0⟩, #[]⟩) ::
  ((nat_lit 253), ⟨.type "function", none, .func ⟨"r_main_suffix", "SwedishStemmer.r_main_suffix", fnA (stA (clB (stA tb0 6)) 6), .stmts (fnB (stA (clB (stA tb0 6)) 6)), fnS (stA (clB (stA tb0 6)) 6), 3, [], .none, .none, .none, .str "snowballstemmer.swedish_stemmer" 459, none, .ref 252, .none, 0⟩, #[]⟩) ::
  ((nat_lit 260), ⟨.type "function", none, .func ⟨"r_consonant_pair", "SwedishStemmer.r_consonant_pair", fnA (stA (clB (stA tb0 6)) 7), .stmts (fnB (stA (clB (stA tb0 6)) 7)), fnS (stA (clB (stA tb0 6)) 7), 3, [], .none, .none, .none, .str "snowballstemmer.swedish_stemmer" 459, none, .ref 259, .none, 0⟩, #[]⟩) ::
  ((nat_lit 267), ⟨.type "function", none, .func ⟨"r_other_suffix", "SwedishStemmer.r_other_suffix", fnA (stA (clB (stA tb0 6)) 8), .stmts (fnB (stA (clB (stA tb0 6)) 8)), fnS (stA (clB (stA tb0 6)) 8), 3, [], .none, .none, .none, .str "snowballstemmer.swedish_stemmer" 459, none, .ref 266, .none, 0⟩, #[]⟩) ::
  ((nat_lit 274), ⟨.type "function", none, .func ⟨"_stem", "SwedishStemmer._stem", fnA (stA (clB (stA tb0 6)) 9), .stmts (fnB (stA (clB (stA tb0 6)) 9)), fnS (stA (clB (stA tb0 6)) 9), 3, [], .none, .none, .none, .str "snowballstemmer.swedish_stemmer" 459, none, .ref 273, .none, 0⟩, #[]⟩) ::
  ((nat_lit 516), ⟨.type "function", none, .func ⟨"_law_vowels", "_law_vowels", fnA (stA tb0 9), .stmts (fnB (stA tb0 9)), fnS (stA tb0 9), 3, [], .none, .none, .none, .str "law_is0010_01" 1633, none, .ref 515, .none, 0⟩, #[]⟩) ::
  ((nat_lit 523), ⟨.type "function", none, .func ⟨"_law_before_s", "_law_before_s", fnA (stA tb0 10), .stmts (fnB (stA tb0 10)), fnS (stA tb0 10), 3, [], .none, .none, .none, .str "law_is0010_01" 1633, none, .ref 522, .none, 0⟩, #[]⟩) ::
  ((nat_lit 530), ⟨.type "function", none, .func ⟨"_law_before_ost", "_law_before_ost", fnA (stA tb0 11), .stmts (fnB (stA tb0 11)), fnS (stA tb0 11), 3, [], .none, .none, .none, .str "law_is0010_01" 1633, none, .ref 529, .none, 0⟩, #[]⟩) ::
  ((nat_lit 537), ⟨.type "function", none, .func ⟨"_law_stays", "_law_stays", fnA (stA tb0 12), .stmts (fnB (stA tb0 12)), fnS (stA tb0 12), 3, [], .none, .none, .none, .str "law_is0010_01" 1633, none, .ref 536, .none, 0⟩, #[]⟩) ::
  ((nat_lit 544), ⟨.type "function", none, .func ⟨"_law_loose", "_law_loose", fnA (stA tb0 13), .stmts (fnB (stA tb0 13)), fnS (stA tb0 13), 3, [], .none, .none, .none, .str "law_is0010_01" 1633, none, .ref 543, .none, 0⟩, #[]⟩) ::
  ((nat_lit 559), ⟨.type "function", none, .func ⟨"_law_start", "_law_start", fnA (stA tb0 22), .stmts (fnB (stA tb0 22)), fnS (stA tb0 22), 3, [], .none, .none, .none, .str "law_is0010_01" 1633, none, .ref 558, .none, 0⟩, #[]⟩) ::
  ((nat_lit 564), ⟨.type "function", none, .func ⟨"_law_rests", "_law_rests", fnA (stA tb0 23), .stmts (fnB (stA tb0 23)), fnS (stA tb0 23), 3, [], .none, .none, .none, .str "law_is0010_01" 1633, none, .ref 563, .none, 0⟩, #[]⟩) ::
  ((nat_lit 569), ⟨.type "function", none, .func ⟨"law", "law", fnA (stA tb0 24), .stmts (fnB (stA tb0 24)), fnS (stA tb0 24), 3, [], .none, .none, .none, .str "law_is0010_01" 1633, none, .ref 568, .none, 0⟩, #[]⟩) ::
  ((nat_lit 338), ⟨.type "list", none, .seq #[.ref 276, .ref 279, .ref 282, .ref 285, .ref 288, .ref 291, .ref 294, .ref 297, .ref 300, .ref 303, .ref 306, .ref 309, .ref 312, .ref 315, .ref 318, .ref 321, .ref 324, .ref 327, .ref 330, .ref 333, .ref 336] 0, #[]⟩) ::
  ((nat_lit 453), ⟨.type "list", none, .seq #[.ref 340, .ref 343, .ref 346, .ref 349, .ref 352, .ref 355, .ref 358, .ref 361, .ref 364, .ref 367, .ref 370, .ref 373, .ref 376, .ref 379, .ref 382, .ref 385, .ref 388, .ref 391, .ref 394, .ref 397, .ref 400, .ref 403, .ref 406, .ref 409, .ref 412, .ref 415, .ref 418, .ref 421, .ref 424, .ref 427, .ref 430, .ref 433, .ref 436, .ref 439, .ref 442, .ref 445, .ref 448, .ref 451] 0, #[]⟩) ::
  ((nat_lit 475), ⟨.type "list", none, .seq #[.ref 455, .ref 458, .ref 461, .ref 464, .ref 467, .ref 470, .ref 473] 0, #[]⟩) ::
  ((nat_lit 491), ⟨.type "list", none, .seq #[.ref 477, .ref 480, .ref 483, .ref 486, .ref 489] 0, #[]⟩) ::
  ((nat_lit 545), ⟨.type "list", none, .seq #[.str "heterna" 1665, .str "hetens" 1666, .str "heten" 1667, .str "heter" 1668, .str "het" 1669, .str "arna" 1670, .str "arnas" 1671, .str "arne" 1672, .str "aren" 1673, .str "arens" 1674, .str "are" 1675, .str "ar" 1676, .str "orna" 1677, .str "ornas" 1678, .str "or" 1679, .str "ernas" 1680, .str "ern" 1681, .str "erns" 1682, .str "ande" 1683, .str "anden" 1684, .str "andes" 1685, .str "andet" 1686, .str "ade" 1687, .str "ades" 1688, .str "ad" 1689, .str "at" 1690, .str "ast" 1691, .str "aste" 1692] 0, #[]⟩) ::
  ((nat_lit 546), ⟨.type "list", none, .seq #[.str "ets" 1694, .str "a" 1695, .str "s" 1696, .str "et" 1697, .str "k" 1698, .str "lig" 1699, .str "t" 1700, .str "en" 1701, .str "å" 1702, .str "els" 1703, .str "r" 1704, .str "gt" 1705, .str "i" 1706, .str "öst" 1707, .str "e" 1708, .str "n" 1709, .str "fullt" 1710, .str "h" 1711, .str "ö" 1712, .str "d" 1713] 0, #[]⟩) ::
  ((nat_lit 547), ⟨.type "list", none, .seq #[.str "b" 1715, .str "c" 1716, .str "f" 1717, .str "g" 1718, .str "j" 1719, .str "l" 1720, .str "m" 1721, .str "o" 1722, .str "p" 1723, .str "q" 1724, .str "u" 1725, .str "v" 1726, .str "w" 1727, .str "x" 1728, .str "y" 1729, .str "z" 1730, .str "ä" 1731] 0, #[]⟩) ::
  ((nat_lit 548), ⟨.type "list", none, .seq #[.str "é" 1733, .str "Å" 1734, .str "E" 1735, .str "æ" 1736, .str "ø" 1737, .str "ü" 1738, .str "-" 1739, .str "7" 1740] 0, #[]⟩) ::
  ((nat_lit 549), ⟨.type "list", none, .seq #[.str "hus" 1742, .str "land" 1743, .str "flick" 1744, .str "arbet" 1745, .str "rätt" 1746, .str "nyhet" 1747] 0, #[]⟩) ::
  ((nat_lit 550), ⟨.type "list", none, .seq #[.str "erna" 1749, .str "ens" 1750, .str "er" 1751, .str "as" 1752, .str "es" 1753] 0, #[]⟩) ::
  ((nat_lit 551), ⟨.type "list", none, .seq #[.str "dd" 1755, .str "gd" 1756, .str "nn" 1757, .str "dt" 1758, .str "gt" 1759, .str "kt" 1760, .str "tt" 1761] 0, #[]⟩) ::
  ((nat_lit 552), ⟨.type "list", none, .seq #[.str "lig" 1763, .str "ig" 1764, .str "els" 1765, .str "öst" 1766, .str "fullt" 1767] 0, #[]⟩) ::
  ((nat_lit 9), ⟨.type "code", none, .fields #[.str "<module>" 176, .str "<module>" 177, .str "/claim/cut.py" 178, .int 1 0, .int 0 0, .int 0 0, .int 0 0, .int 0 0, .ref 7, .bool false, .int 175 0, .ref 8, .none, .none, .none, .none, .int 179 0, .int 1 0, .str "/claim/cut.py" 180], #[]⟩) ::
  ((nat_lit 13), ⟨.type "code", none, .fields #[.str "<module>" 182, .str "<module>" 183, .str "/claim/cut.py" 184, .int 1 0, .int 0 0, .int 0 0, .int 0 0, .int 0 0, .ref 11, .bool false, .int 181 0, .ref 12, .none, .none, .none, .none, .int 185 0, .int 1 0, .str "/claim/cut.py" 186], #[]⟩) ::
  ((nat_lit 20), ⟨.type "code", none, .fields #[.str "_wall" 187, .str "_wall" 188, .str "/claim/cut.py" 189, .int 1 0, .int 1 0, .int 0 0, .int 0 0, .int 3 0, .ref 15, .bool true, .int 181 0, .ref 16, .none, .ref 17, .ref 18, .ref 19, .int 191 0, .int 1 0, .str "/claim/cut.py" 192], #[]⟩) ::
  ((nat_lit 27), ⟨.type "code", none, .fields #[.str "BaseStemmer" 198, .str "BaseStemmer" 199, .str "/claim/cut.py" 200, .int 5 0, .int 0 0, .int 0 0, .int 0 0, .int 0 0, .ref 25, .bool false, .int 181 0, .ref 26, .none, .none, .none, .none, .int 201 0, .int 5 0, .str "/claim/cut.py" 202], #[]⟩) ::
  ((nat_lit 34), ⟨.type "code", none, .fields #[.str "__init__" 208, .str "BaseStemmer.__init__" 209, .str "/claim/cut.py" 210, .int 7 0, .int 1 0, .int 0 0, .int 0 0, .int 3 0, .ref 29, .bool true, .int 181 0, .ref 30, .none, .ref 31, .ref 32, .ref 33, .int 212 0, .int 7 0, .str "/claim/cut.py" 213], #[]⟩) ::
  ((nat_lit 41), ⟨.type "code", none, .fields #[.str "set_current" 215, .str "BaseStemmer.set_current" 216, .str "/claim/cut.py" 217, .int 10 0, .int 2 0, .int 0 0, .int 0 0, .int 3 0, .ref 36, .bool true, .int 181 0, .ref 37, .none, .ref 38, .ref 39, .ref 40, .int 220 0, .int 10 0, .str "/claim/cut.py" 221], #[]⟩) ::
  ((nat_lit 48), ⟨.type "code", none, .fields #[.str "get_current" 223, .str "BaseStemmer.get_current" 224, .str "/claim/cut.py" 225, .int 18 0, .int 1 0, .int 0 0, .int 0 0, .int 3 0, .ref 43, .bool true, .int 181 0, .ref 44, .none, .ref 45, .ref 46, .ref 47, .int 227 0, .int 18 0, .str "/claim/cut.py" 228], #[]⟩) ::
  ((nat_lit 55), ⟨.type "code", none, .fields #[.str "copy_from" 230, .str "BaseStemmer.copy_from" 231, .str "/claim/cut.py" 232, .int 21 0, .int 2 0, .int 0 0, .int 0 0, .int 3 0, .ref 50, .bool true, .int 181 0, .ref 51, .none, .ref 52, .ref 53, .ref 54, .int 235 0, .int 21 0, .str "/claim/cut.py" 236], #[]⟩) ::
  ((nat_lit 62), ⟨.type "code", none, .fields #[.str "in_grouping" 238, .str "BaseStemmer.in_grouping" 239, .str "/claim/cut.py" 240, .int 24 0, .int 2 0, .int 0 0, .int 0 0, .int 3 0, .ref 57, .bool true, .int 181 0, .ref 58, .none, .ref 59, .ref 60, .ref 61, .int 243 0, .int 24 0, .str "/claim/cut.py" 244], #[]⟩) ::
  ((nat_lit 69), ⟨.type "code", none, .fields #[.str "go_in_grouping" 246, .str "BaseStemmer.go_in_grouping" 247, .str "/claim/cut.py" 248, .int 27 0, .int 2 0, .int 0 0, .int 0 0, .int 3 0, .ref 64, .bool true, .int 181 0, .ref 65, .none, .ref 66, .ref 67, .ref 68, .int 251 0, .int 27 0, .str "/claim/cut.py" 252], #[]⟩) ::
  ((nat_lit 76), ⟨.type "code", none, .fields #[.str "in_grouping_b" 254, .str "BaseStemmer.in_grouping_b" 255, .str "/claim/cut.py" 256, .int 34 0, .int 2 0, .int 0 0, .int 0 0, .int 3 0, .ref 71, .bool true, .int 181 0, .ref 72, .none, .ref 73, .ref 74, .ref 75, .int 259 0, .int 34 0, .str "/claim/cut.py" 260], #[]⟩) ::
  ((nat_lit 83), ⟨.type "code", none, .fields #[.str "go_in_grouping_b" 262, .str "BaseStemmer.go_in_grouping_b" 263, .str "/claim/cut.py" 264, .int 42 0, .int 2 0, .int 0 0, .int 0 0, .int 3 0, .ref 78, .bool true, .int 181 0, .ref 79, .none, .ref 80, .ref 81, .ref 82, .int 267 0, .int 42 0, .str "/claim/cut.py" 268], #[]⟩) ::
  ((nat_lit 90), ⟨.type "code", none, .fields #[.str "out_grouping" 270, .str "BaseStemmer.out_grouping" 271, .str "/claim/cut.py" 272, .int 45 0, .int 2 0, .int 0 0, .int 0 0, .int 3 0, .ref 85, .bool true, .int 181 0, .ref 86, .none, .ref 87, .ref 88, .ref 89, .int 275 0, .int 45 0, .str "/claim/cut.py" 276], #[]⟩) ::
  ((nat_lit 97), ⟨.type "code", none, .fields #[.str "go_out_grouping" 278, .str "BaseStemmer.go_out_grouping" 279, .str "/claim/cut.py" 280, .int 48 0, .int 2 0, .int 0 0, .int 0 0, .int 3 0, .ref 92, .bool true, .int 181 0, .ref 93, .none, .ref 94, .ref 95, .ref 96, .int 283 0, .int 48 0, .str "/claim/cut.py" 284], #[]⟩) ::
  ((nat_lit 104), ⟨.type "code", none, .fields #[.str "out_grouping_b" 286, .str "BaseStemmer.out_grouping_b" 287, .str "/claim/cut.py" 288, .int 55 0, .int 2 0, .int 0 0, .int 0 0, .int 3 0, .ref 99, .bool true, .int 181 0, .ref 100, .none, .ref 101, .ref 102, .ref 103, .int 291 0, .int 55 0, .str "/claim/cut.py" 292], #[]⟩) ::
  ((nat_lit 111), ⟨.type "code", none, .fields #[.str "go_out_grouping_b" 294, .str "BaseStemmer.go_out_grouping_b" 295, .str "/claim/cut.py" 296, .int 63 0, .int 2 0, .int 0 0, .int 0 0, .int 3 0, .ref 106, .bool true, .int 181 0, .ref 107, .none, .ref 108, .ref 109, .ref 110, .int 299 0, .int 63 0, .str "/claim/cut.py" 300], #[]⟩) ::
  ((nat_lit 118), ⟨.type "code", none, .fields #[.str "eq_s" 302, .str "BaseStemmer.eq_s" 303, .str "/claim/cut.py" 304, .int 66 0, .int 2 0, .int 0 0, .int 0 0, .int 3 0, .ref 113, .bool true, .int 181 0, .ref 114, .none, .ref 115, .ref 116, .ref 117, .int 307 0, .int 66 0, .str "/claim/cut.py" 308], #[]⟩) ::
  ((nat_lit 125), ⟨.type "code", none, .fields #[.str "eq_s_b" 310, .str "BaseStemmer.eq_s_b" 311, .str "/claim/cut.py" 312, .int 69 0, .int 2 0, .int 0 0, .int 0 0, .int 3 0, .ref 120, .bool true, .int 181 0, .ref 121, .none, .ref 122, .ref 123, .ref 124, .int 315 0, .int 69 0, .str "/claim/cut.py" 316], #[]⟩) ::
  ((nat_lit 132), ⟨.type "code", none, .fields #[.str "find_among" 318, .str "BaseStemmer.find_among" 319, .str "/claim/cut.py" 320, .int 75 0, .int 2 0, .int 0 0, .int 0 0, .int 3 0, .ref 127, .bool true, .int 181 0, .ref 128, .none, .ref 129, .ref 130, .ref 131, .int 323 0, .int 75 0, .str "/claim/cut.py" 324], #[]⟩) ::
  ((nat_lit 139), ⟨.type "code", none, .fields #[.str "find_among_b" 326, .str "BaseStemmer.find_among_b" 327, .str "/claim/cut.py" 328, .int 78 0, .int 2 0, .int 0 0, .int 0 0, .int 3 0, .ref 134, .bool true, .int 181 0, .ref 135, .none, .ref 136, .ref 137, .ref 138, .int 343 0, .int 78 0, .str "/claim/cut.py" 344], #[]⟩) ::
  ((nat_lit 146), ⟨.type "code", none, .fields #[.str "replace_s" 346, .str "BaseStemmer.replace_s" 347, .str "/claim/cut.py" 348, .int 123 0, .int 4 0, .int 0 0, .int 0 0, .int 3 0, .ref 141, .bool true, .int 181 0, .ref 142, .none, .ref 143, .ref 144, .ref 145, .int 354 0, .int 123 0, .str "/claim/cut.py" 355], #[]⟩) ::
  ((nat_lit 153), ⟨.type "code", none, .fields #[.str "slice_from" 357, .str "BaseStemmer.slice_from" 358, .str "/claim/cut.py" 359, .int 133 0, .int 2 0, .int 0 0, .int 0 0, .int 3 0, .ref 148, .bool true, .int 181 0, .ref 149, .none, .ref 150, .ref 151, .ref 152, .int 362 0, .int 133 0, .str "/claim/cut.py" 363], #[]⟩) ::
  ((nat_lit 160), ⟨.type "code", none, .fields #[.str "slice_del" 365, .str "BaseStemmer.slice_del" 366, .str "/claim/cut.py" 367, .int 141 0, .int 1 0, .int 0 0, .int 0 0, .int 3 0, .ref 155, .bool true, .int 181 0, .ref 156, .none, .ref 157, .ref 158, .ref 159, .int 369 0, .int 141 0, .str "/claim/cut.py" 370], #[]⟩) ::
  ((nat_lit 167), ⟨.type "code", none, .fields #[.str "insert" 372, .str "BaseStemmer.insert" 373, .str "/claim/cut.py" 374, .int 144 0, .int 4 0, .int 0 0, .int 0 0, .int 3 0, .ref 162, .bool true, .int 181 0, .ref 163, .none, .ref 164, .ref 165, .ref 166, .int 379 0, .int 144 0, .str "/claim/cut.py" 380], #[]⟩) ::
  ((nat_lit 174), ⟨.type "code", none, .fields #[.str "slice_to" 382, .str "BaseStemmer.slice_to" 383, .str "/claim/cut.py" 384, .int 147 0, .int 1 0, .int 0 0, .int 0 0, .int 3 0, .ref 169, .bool true, .int 181 0, .ref 170, .none, .ref 171, .ref 172, .ref 173, .int 386 0, .int 147 0, .str "/claim/cut.py" 387], #[]⟩) ::
  ((nat_lit 181), ⟨.type "code", none, .fields #[.str "assign_to" 389, .str "BaseStemmer.assign_to" 390, .str "/claim/cut.py" 391, .int 150 0, .int 1 0, .int 0 0, .int 0 0, .int 3 0, .ref 176, .bool true, .int 181 0, .ref 177, .none, .ref 178, .ref 179, .ref 180, .int 393 0, .int 150 0, .str "/claim/cut.py" 394], #[]⟩) ::
  ((nat_lit 188), ⟨.type "code", none, .fields #[.str "stemWord" 396, .str "BaseStemmer.stemWord" 397, .str "/claim/cut.py" 398, .int 153 0, .int 2 0, .int 0 0, .int 0 0, .int 3 0, .ref 183, .bool true, .int 181 0, .ref 184, .none, .ref 185, .ref 186, .ref 187, .int 401 0, .int 153 0, .str "/claim/cut.py" 402], #[]⟩) ::
  ((nat_lit 193), ⟨.type "code", none, .fields #[.str "stemWords" 404, .str "BaseStemmer.stemWords" 405, .str "/claim/cut.py" 406, .int 158 0, .int 2 0, .int 0 0, .int 0 0, .int 3 0, .ref 190, .bool true, .int 181 0, .ref 191, .none, .none, .none, .ref 192, .int 407 0, .int 158 0, .str "/claim/cut.py" 408], #[]⟩) ::
  ((nat_lit 207), ⟨.type "code", none, .fields #[.str "Among" 428, .str "Among" 429, .str "/claim/cut.py" 430, .int 161 0, .int 0 0, .int 0 0, .int 0 0, .int 0 0, .ref 205, .bool false, .int 181 0, .ref 206, .none, .none, .none, .none, .int 431 0, .int 161 0, .str "/claim/cut.py" 432], #[]⟩) ::
  ((nat_lit 214), ⟨.type "code", none, .fields #[.str "__init__" 438, .str "Among.__init__" 439, .str "/claim/cut.py" 440, .int 163 0, .int 4 0, .int 0 0, .int 0 0, .int 3 0, .ref 209, .bool true, .int 181 0, .ref 210, .none, .ref 211, .ref 212, .ref 213, .int 445 0, .int 163 0, .str "/claim/cut.py" 446], #[]⟩) ::
  ((nat_lit 228), ⟨.type "code", none, .fields #[.str "SwedishStemmer" 463, .str "SwedishStemmer" 464, .str "/claim/cut.py" 465, .int 168 0, .int 0 0, .int 0 0, .int 0 0, .int 0 0, .ref 226, .bool false, .int 181 0, .ref 227, .none, .none, .none, .none, .int 466 0, .int 168 0, .str "/claim/cut.py" 467], #[]⟩) ::
  ((nat_lit 238), ⟨.type "code", none, .fields #[.str "r_mark_regions" 548, .str "SwedishStemmer.r_mark_regions" 549, .str "/claim/cut.py" 550, .int 174 0, .int 1 0, .int 0 0, .int 0 0, .int 3 0, .ref 233, .bool true, .int 181 0, .ref 234, .none, .ref 235, .ref 236, .ref 237, .int 554 0, .int 174 0, .str "/claim/cut.py" 555], #[]⟩) ::
  ((nat_lit 245), ⟨.type "code", none, .fields #[.str "r_et_condition" 557, .str "SwedishStemmer.r_et_condition" 558, .str "/claim/cut.py" 559, .int 197 0, .int 1 0, .int 0 0, .int 0 0, .int 3 0, .ref 240, .bool true, .int 181 0, .ref 241, .none, .ref 242, .ref 243, .ref 244, .int 563 0, .int 197 0, .str "/claim/cut.py" 564], #[]⟩) ::
  ((nat_lit 252), ⟨.type "code", none, .fields #[.str "r_main_suffix" 566, .str "SwedishStemmer.r_main_suffix" 567, .str "/claim/cut.py" 568, .int 216 0, .int 1 0, .int 0 0, .int 0 0, .int 3 0, .ref 247, .bool true, .int 181 0, .ref 248, .none, .ref 249, .ref 250, .ref 251, .int 573 0, .int 216 0, .str "/claim/cut.py" 574], #[]⟩) ::
  ((nat_lit 259), ⟨.type "code", none, .fields #[.str "r_consonant_pair" 576, .str "SwedishStemmer.r_consonant_pair" 577, .str "/claim/cut.py" 578, .int 253 0, .int 1 0, .int 0 0, .int 0 0, .int 3 0, .ref 254, .bool true, .int 181 0, .ref 255, .none, .ref 256, .ref 257, .ref 258, .int 582 0, .int 253 0, .str "/claim/cut.py" 583], #[]⟩) ::
  ((nat_lit 266), ⟨.type "code", none, .fields #[.str "r_other_suffix" 585, .str "SwedishStemmer.r_other_suffix" 586, .str "/claim/cut.py" 587, .int 273 0, .int 1 0, .int 0 0, .int 0 0, .int 3 0, .ref 261, .bool true, .int 181 0, .ref 262, .none, .ref 263, .ref 264, .ref 265, .int 591 0, .int 273 0, .str "/claim/cut.py" 592], #[]⟩) ::
  ((nat_lit 273), ⟨.type "code", none, .fields #[.str "_stem" 594, .str "SwedishStemmer._stem" 595, .str "/claim/cut.py" 596, .int 295 0, .int 1 0, .int 0 0, .int 0 0, .int 3 0, .ref 268, .bool true, .int 181 0, .ref 269, .none, .ref 270, .ref 271, .ref 272, .int 602 0, .int 295 0, .str "/claim/cut.py" 603], #[]⟩) ::
  ((nat_lit 502), ⟨.type "code", none, .fields #[.str "lab0" 1615, .str "lab0" 1616, .str "/claim/cut.py" 1617, .int 316 0, .int 0 0, .int 0 0, .int 0 0, .int 0 0, .ref 500, .bool false, .int 181 0, .ref 501, .none, .none, .none, .none, .int 1618 0, .int 316 0, .str "/claim/cut.py" 1619], #[]⟩) ::
  ((nat_lit 515), ⟨.type "code", none, .fields #[.str "_law_vowels" 1635, .str "_law_vowels" 1636, .str "/claim/cut.py" 1637, .int 319 0, .int 0 0, .int 0 0, .int 0 0, .int 3 0, .ref 510, .bool true, .int 181 0, .ref 511, .none, .ref 512, .ref 513, .ref 514, .int 1638 0, .int 319 0, .str "/claim/cut.py" 1639], #[]⟩) ::
  ((nat_lit 522), ⟨.type "code", none, .fields #[.str "_law_before_s" 1641, .str "_law_before_s" 1642, .str "/claim/cut.py" 1643, .int 321 0, .int 0 0, .int 0 0, .int 0 0, .int 3 0, .ref 517, .bool true, .int 181 0, .ref 518, .none, .ref 519, .ref 520, .ref 521, .int 1644 0, .int 321 0, .str "/claim/cut.py" 1645], #[]⟩) ::
  ((nat_lit 529), ⟨.type "code", none, .fields #[.str "_law_before_ost" 1647, .str "_law_before_ost" 1648, .str "/claim/cut.py" 1649, .int 323 0, .int 0 0, .int 0 0, .int 0 0, .int 3 0, .ref 524, .bool true, .int 181 0, .ref 525, .none, .ref 526, .ref 527, .ref 528, .int 1650 0, .int 323 0, .str "/claim/cut.py" 1651], #[]⟩) ::
  ((nat_lit 536), ⟨.type "code", none, .fields #[.str "_law_stays" 1653, .str "_law_stays" 1654, .str "/claim/cut.py" 1655, .int 325 0, .int 0 0, .int 0 0, .int 0 0, .int 3 0, .ref 531, .bool true, .int 181 0, .ref 532, .none, .ref 533, .ref 534, .ref 535, .int 1656 0, .int 325 0, .str "/claim/cut.py" 1657], #[]⟩) ::
  ((nat_lit 543), ⟨.type "code", none, .fields #[.str "_law_loose" 1659, .str "_law_loose" 1660, .str "/claim/cut.py" 1661, .int 327 0, .int 0 0, .int 0 0, .int 0 0, .int 3 0, .ref 538, .bool true, .int 181 0, .ref 539, .none, .ref 540, .ref 541, .ref 542, .int 1662 0, .int 327 0, .str "/claim/cut.py" 1663], #[]⟩) ::
  ((nat_lit 558), ⟨.type "code", none, .fields #[.str "_law_start" 1769, .str "_law_start" 1770, .str "/claim/cut.py" 1771, .int 337 0, .int 1 0, .int 0 0, .int 0 0, .int 3 0, .ref 553, .bool true, .int 181 0, .ref 554, .none, .ref 555, .ref 556, .ref 557, .int 1775 0, .int 337 0, .str "/claim/cut.py" 1776], #[]⟩) ::
  ((nat_lit 563), ⟨.type "code", none, .fields #[.str "_law_rests" 1778, .str "_law_rests" 1779, .str "/claim/cut.py" 1780, .int 347 0, .int 1 0, .int 0 0, .int 0 0, .int 3 0, .ref 560, .bool true, .int 181 0, .ref 561, .none, .none, .none, .ref 562, .int 1781 0, .int 347 0, .str "/claim/cut.py" 1782], #[]⟩) ::
  ((nat_lit 568), ⟨.type "code", none, .fields #[.str "law" 1784, .str "law" 1785, .str "/claim/cut.py" 1786, .int 363 0, .int 1 0, .int 0 0, .int 0 0, .int 3 0, .ref 565, .bool true, .int 181 0, .ref 566, .none, .none, .none, .ref 567, .int 1787 0, .int 363 0, .str "/claim/cut.py" 1788], #[]⟩) ::
  ((nat_lit 6), ⟨.type "dict", none, .dict #[] 0, #[]⟩) ::
  ((nat_lit 24), ⟨.type "dict", none, .dict #[⟨PyData.keyHash P "__module__", .str "__module__" 203, .str "snowballstemmer.basestemmer" 194⟩, ⟨PyData.keyHash P "__qualname__", .str "__qualname__" 205, .str "BaseStemmer" 204⟩, ⟨PyData.keyHash P "__firstlineno__", .str "__firstlineno__" 207, .int 5 206⟩, ⟨PyData.keyHash P "__init__", .str "__init__" 214, .ref 35⟩, ⟨PyData.keyHash P "set_current", .str "set_current" 222, .ref 42⟩, ⟨PyData.keyHash P "get_current", .str "get_current" 229, .ref 49⟩, ⟨PyData.keyHash P "copy_from", .str "copy_from" 237, .ref 56⟩, ⟨PyData.keyHash P "in_grouping", .str "in_grouping" 245, .ref 63⟩, ⟨PyData.keyHash P "go_in_grouping", .str "go_in_grouping" 253, .ref 70⟩, ⟨PyData.keyHash P "in_grouping_b", .str "in_grouping_b" 261, .ref 77⟩, ⟨PyData.keyHash P "go_in_grouping_b", .str "go_in_grouping_b" 269, .ref 84⟩, ⟨PyData.keyHash P "out_grouping", .str "out_grouping" 277, .ref 91⟩, ⟨PyData.keyHash P "go_out_grouping", .str "go_out_grouping" 285, .ref 98⟩, ⟨PyData.keyHash P "out_grouping_b", .str "out_grouping_b" 293, .ref 105⟩, ⟨PyData.keyHash P "go_out_grouping_b", .str "go_out_grouping_b" 301, .ref 112⟩, ⟨PyData.keyHash P "eq_s", .str "eq_s" 309, .ref 119⟩, ⟨PyData.keyHash P "eq_s_b", .str "eq_s_b" 317, .ref 126⟩, ⟨PyData.keyHash P "find_among", .str "find_among" 325, .ref 133⟩, ⟨PyData.keyHash P "find_among_b", .str "find_among_b" 345, .ref 140⟩, ⟨PyData.keyHash P "replace_s", .str "replace_s" 356, .ref 147⟩, ⟨PyData.keyHash P "slice_from", .str "slice_from" 364, .ref 154⟩, ⟨PyData.keyHash P "slice_del", .str "slice_del" 371, .ref 161⟩, ⟨PyData.keyHash P "insert", .str "insert" 381, .ref 168⟩, ⟨PyData.keyHash P "slice_to", .str "slice_to" 388, .ref 175⟩, ⟨PyData.keyHash P "assign_to", .str "assign_to" 395, .ref 182⟩, ⟨PyData.keyHash P "stemWord", .str "stemWord" 403, .ref 189⟩, ⟨PyData.keyHash P "stemWords", .str "stemWords" 409, .ref 194⟩, ⟨PyData.keyHash P "__static_attributes__", .str "__static_attributes__" 416, .ref 195⟩] 28, #[]⟩) ::
  ((nat_lit 204), ⟨.type "dict", none, .dict #[⟨PyData.keyHash P "__module__", .str "__module__" 433, .str "snowballstemmer.among" 424⟩, ⟨PyData.keyHash P "__qualname__", .str "__qualname__" 435, .str "Among" 434⟩, ⟨PyData.keyHash P "__firstlineno__", .str "__firstlineno__" 437, .int 161 436⟩, ⟨PyData.keyHash P "__init__", .str "__init__" 447, .ref 215⟩, ⟨PyData.keyHash P "__static_attributes__", .str "__static_attributes__" 451, .ref 216⟩] 5, #[]⟩) ::
  ((nat_lit 225), ⟨.type "dict", none, .dict #[⟨PyData.keyHash P "__module__", .str "__module__" 468, .str "snowballstemmer.swedish_stemmer" 459⟩, ⟨PyData.keyHash P "__qualname__", .str "__qualname__" 470, .str "SwedishStemmer" 469⟩, ⟨PyData.keyHash P "__firstlineno__", .str "__firstlineno__" 472, .int 168 471⟩, ⟨PyData.keyHash P "g_v", .str "g_v" 491, .ref 230⟩, ⟨PyData.keyHash P "g_s_ending", .str "g_s_ending" 526, .ref 231⟩, ⟨PyData.keyHash P "g_ost_ending", .str "g_ost_ending" 545, .ref 232⟩, ⟨PyData.keyHash P "I_p1", .str "I_p1" 547, .int 0 546⟩, ⟨PyData.keyHash P "r_mark_regions", .str "r_mark_regions" 556, .ref 239⟩, ⟨PyData.keyHash P "r_et_condition", .str "r_et_condition" 565, .ref 246⟩, ⟨PyData.keyHash P "r_main_suffix", .str "r_main_suffix" 575, .ref 253⟩, ⟨PyData.keyHash P "r_consonant_pair", .str "r_consonant_pair" 584, .ref 260⟩, ⟨PyData.keyHash P "r_other_suffix", .str "r_other_suffix" 593, .ref 267⟩, ⟨PyData.keyHash P "_stem", .str "_stem" 604, .ref 274⟩, ⟨PyData.keyHash P "a_0", .str "a_0" 920, .ref 338⟩, ⟨PyData.keyHash P "a_1", .str "a_1" 1427, .ref 453⟩, ⟨PyData.keyHash P "a_2", .str "a_2" 1533, .ref 475⟩, ⟨PyData.keyHash P "a_3", .str "a_3" 1603, .ref 491⟩, ⟨PyData.keyHash P "__static_attributes__", .str "__static_attributes__" 1609, .ref 492⟩] 18, #[]⟩) ::
  ((nat_lit 275), ⟨.type "dict", none, .dict #[⟨PyData.keyHash P "s", .str "s" 615, .str "fab" 605⟩, ⟨PyData.keyHash P "substring_i", .str "substring_i" 617, .int (-1) 607⟩, ⟨PyData.keyHash P "result", .str "result" 619, .int (-1) 609⟩] 3, #[]⟩) ::
  ((nat_lit 276), ⟨.ref 218, some 275, .plain, #[]⟩) ::
  ((nat_lit 278), ⟨.type "dict", none, .dict #[⟨PyData.keyHash P "s", .str "s" 630, .str "h" 620⟩, ⟨PyData.keyHash P "substring_i", .str "substring_i" 632, .int (-1) 622⟩, ⟨PyData.keyHash P "result", .str "result" 634, .int (-1) 624⟩] 3, #[]⟩) ::
  ((nat_lit 279), ⟨.ref 218, some 278, .plain, #[]⟩) ::
  ((nat_lit 281), ⟨.type "dict", none, .dict #[⟨PyData.keyHash P "s", .str "s" 645, .str "pak" 635⟩, ⟨PyData.keyHash P "substring_i", .str "substring_i" 647, .int (-1) 637⟩, ⟨PyData.keyHash P "result", .str "result" 649, .int (-1) 639⟩] 3, #[]⟩) ::
  ((nat_lit 282), ⟨.ref 218, some 281, .plain, #[]⟩) ::
  ((nat_lit 284), ⟨.type "dict", none, .dict #[⟨PyData.keyHash P "s", .str "s" 660, .str "rak" 650⟩, ⟨PyData.keyHash P "substring_i", .str "substring_i" 662, .int (-1) 652⟩, ⟨PyData.keyHash P "result", .str "result" 664, .int (-1) 654⟩] 3, #[]⟩) ::
  ((nat_lit 285), ⟨.ref 218, some 284, .plain, #[]⟩) ::
  ((nat_lit 287), ⟨.type "dict", none, .dict #[⟨PyData.keyHash P "s", .str "s" 675, .str "stak" 665⟩, ⟨PyData.keyHash P "substring_i", .str "substring_i" 677, .int (-1) 667⟩, ⟨PyData.keyHash P "result", .str "result" 679, .int (-1) 669⟩] 3, #[]⟩) ::
  ((nat_lit 288), ⟨.ref 218, some 287, .plain, #[]⟩) ::
  ((nat_lit 290), ⟨.type "dict", none, .dict #[⟨PyData.keyHash P "s", .str "s" 690, .str "kom" 680⟩, ⟨PyData.keyHash P "substring_i", .str "substring_i" 692, .int (-1) 682⟩, ⟨PyData.keyHash P "result", .str "result" 694, .int (-1) 684⟩] 3, #[]⟩) ::
  ((nat_lit 291), ⟨.ref 218, some 290, .plain, #[]⟩) ::
  ((nat_lit 293), ⟨.type "dict", none, .dict #[⟨PyData.keyHash P "s", .str "s" 705, .str "iet" 695⟩, ⟨PyData.keyHash P "substring_i", .str "substring_i" 707, .int (-1) 697⟩, ⟨PyData.keyHash P "result", .str "result" 709, .int (-1) 699⟩] 3, #[]⟩) ::
  ((nat_lit 294), ⟨.ref 218, some 293, .plain, #[]⟩) ::
  ((nat_lit 296), ⟨.type "dict", none, .dict #[⟨PyData.keyHash P "s", .str "s" 720, .str "cit" 710⟩, ⟨PyData.keyHash P "substring_i", .str "substring_i" 722, .int (-1) 712⟩, ⟨PyData.keyHash P "result", .str "result" 724, .int (-1) 714⟩] 3, #[]⟩) ::
  ((nat_lit 297), ⟨.ref 218, some 296, .plain, #[]⟩) ::
  ((nat_lit 299), ⟨.type "dict", none, .dict #[⟨PyData.keyHash P "s", .str "s" 735, .str "dit" 725⟩, ⟨PyData.keyHash P "substring_i", .str "substring_i" 737, .int (-1) 727⟩, ⟨PyData.keyHash P "result", .str "result" 739, .int (-1) 729⟩] 3, #[]⟩) ::
  ((nat_lit 300), ⟨.ref 218, some 299, .plain, #[]⟩) ::
  ((nat_lit 302), ⟨.type "dict", none, .dict #[⟨PyData.keyHash P "s", .str "s" 750, .str "alit" 740⟩, ⟨PyData.keyHash P "substring_i", .str "substring_i" 752, .int (-1) 742⟩, ⟨PyData.keyHash P "result", .str "result" 754, .int (-1) 744⟩] 3, #[]⟩) ::
  ((nat_lit 303), ⟨.ref 218, some 302, .plain, #[]⟩) ::
  ((nat_lit 305), ⟨.type "dict", none, .dict #[⟨PyData.keyHash P "s", .str "s" 765, .str "ilit" 755⟩, ⟨PyData.keyHash P "substring_i", .str "substring_i" 767, .int (-1) 757⟩, ⟨PyData.keyHash P "result", .str "result" 769, .int (-1) 759⟩] 3, #[]⟩) ::
  ((nat_lit 306), ⟨.ref 218, some 305, .plain, #[]⟩) ::
  ((nat_lit 308), ⟨.type "dict", none, .dict #[⟨PyData.keyHash P "s", .str "s" 780, .str "mit" 770⟩, ⟨PyData.keyHash P "substring_i", .str "substring_i" 782, .int (-1) 772⟩, ⟨PyData.keyHash P "result", .str "result" 784, .int (-1) 774⟩] 3, #[]⟩) ::
  ((nat_lit 309), ⟨.ref 218, some 308, .plain, #[]⟩) ::
  ((nat_lit 311), ⟨.type "dict", none, .dict #[⟨PyData.keyHash P "s", .str "s" 795, .str "nit" 785⟩, ⟨PyData.keyHash P "substring_i", .str "substring_i" 797, .int (-1) 787⟩, ⟨PyData.keyHash P "result", .str "result" 799, .int (-1) 789⟩] 3, #[]⟩) ::
  ((nat_lit 312), ⟨.ref 218, some 311, .plain, #[]⟩) ::
  ((nat_lit 314), ⟨.type "dict", none, .dict #[⟨PyData.keyHash P "s", .str "s" 810, .str "pit" 800⟩, ⟨PyData.keyHash P "substring_i", .str "substring_i" 812, .int (-1) 802⟩, ⟨PyData.keyHash P "result", .str "result" 814, .int (-1) 804⟩] 3, #[]⟩) ::
  ((nat_lit 315), ⟨.ref 218, some 314, .plain, #[]⟩) ::
  ((nat_lit 317), ⟨.type "dict", none, .dict #[⟨PyData.keyHash P "s", .str "s" 825, .str "rit" 815⟩, ⟨PyData.keyHash P "substring_i", .str "substring_i" 827, .int (-1) 817⟩, ⟨PyData.keyHash P "result", .str "result" 829, .int (-1) 819⟩] 3, #[]⟩) ::
  ((nat_lit 318), ⟨.ref 218, some 317, .plain, #[]⟩) ::
  ((nat_lit 320), ⟨.type "dict", none, .dict #[⟨PyData.keyHash P "s", .str "s" 840, .str "sit" 830⟩, ⟨PyData.keyHash P "substring_i", .str "substring_i" 842, .int (-1) 832⟩, ⟨PyData.keyHash P "result", .str "result" 844, .int (-1) 834⟩] 3, #[]⟩) ::
  ((nat_lit 321), ⟨.ref 218, some 320, .plain, #[]⟩) ::
  ((nat_lit 323), ⟨.type "dict", none, .dict #[⟨PyData.keyHash P "s", .str "s" 855, .str "tit" 845⟩, ⟨PyData.keyHash P "substring_i", .str "substring_i" 857, .int (-1) 847⟩, ⟨PyData.keyHash P "result", .str "result" 859, .int (-1) 849⟩] 3, #[]⟩) ::
  ((nat_lit 324), ⟨.ref 218, some 323, .plain, #[]⟩) ::
  ((nat_lit 326), ⟨.type "dict", none, .dict #[⟨PyData.keyHash P "s", .str "s" 870, .str "uit" 860⟩, ⟨PyData.keyHash P "substring_i", .str "substring_i" 872, .int (-1) 862⟩, ⟨PyData.keyHash P "result", .str "result" 874, .int (-1) 864⟩] 3, #[]⟩) ::
  ((nat_lit 327), ⟨.ref 218, some 326, .plain, #[]⟩) ::
  ((nat_lit 329), ⟨.type "dict", none, .dict #[⟨PyData.keyHash P "s", .str "s" 885, .str "ivit" 875⟩, ⟨PyData.keyHash P "substring_i", .str "substring_i" 887, .int (-1) 877⟩, ⟨PyData.keyHash P "result", .str "result" 889, .int (-1) 879⟩] 3, #[]⟩) ::
  ((nat_lit 330), ⟨.ref 218, some 329, .plain, #[]⟩) ::
  ((nat_lit 332), ⟨.type "dict", none, .dict #[⟨PyData.keyHash P "s", .str "s" 900, .str "kvit" 890⟩, ⟨PyData.keyHash P "substring_i", .str "substring_i" 902, .int (-1) 892⟩, ⟨PyData.keyHash P "result", .str "result" 904, .int (-1) 894⟩] 3, #[]⟩) ::
  ((nat_lit 333), ⟨.ref 218, some 332, .plain, #[]⟩) ::
  ((nat_lit 335), ⟨.type "dict", none, .dict #[⟨PyData.keyHash P "s", .str "s" 915, .str "xit" 905⟩, ⟨PyData.keyHash P "substring_i", .str "substring_i" 917, .int (-1) 907⟩, ⟨PyData.keyHash P "result", .str "result" 919, .int (-1) 909⟩] 3, #[]⟩) ::
  ((nat_lit 336), ⟨.ref 218, some 335, .plain, #[]⟩) ::
  ((nat_lit 339), ⟨.type "dict", none, .dict #[⟨PyData.keyHash P "s", .str "s" 930, .str "a" 921⟩, ⟨PyData.keyHash P "substring_i", .str "substring_i" 932, .int (-1) 923⟩, ⟨PyData.keyHash P "result", .str "result" 934, .int 1 924⟩] 3, #[]⟩) ::
  ((nat_lit 340), ⟨.ref 218, some 339, .plain, #[]⟩) ::
  ((nat_lit 342), ⟨.type "dict", none, .dict #[⟨PyData.keyHash P "s", .str "s" 943, .str "arna" 935⟩, ⟨PyData.keyHash P "substring_i", .str "substring_i" 945, .int 0 936⟩, ⟨PyData.keyHash P "result", .str "result" 947, .int 1 937⟩] 3, #[]⟩) ::
  ((nat_lit 343), ⟨.ref 218, some 342, .plain, #[]⟩) ::
  ((nat_lit 345), ⟨.type "dict", none, .dict #[⟨PyData.keyHash P "s", .str "s" 956, .str "erna" 948⟩, ⟨PyData.keyHash P "substring_i", .str "substring_i" 958, .int 0 949⟩, ⟨PyData.keyHash P "result", .str "result" 960, .int 1 950⟩] 3, #[]⟩) ::
  ((nat_lit 346), ⟨.ref 218, some 345, .plain, #[]⟩) ::
  ((nat_lit 348), ⟨.type "dict", none, .dict #[⟨PyData.keyHash P "s", .str "s" 969, .str "heterna" 961⟩, ⟨PyData.keyHash P "substring_i", .str "substring_i" 971, .int 2 962⟩, ⟨PyData.keyHash P "result", .str "result" 973, .int 1 963⟩] 3, #[]⟩) ::
  ((nat_lit 349), ⟨.ref 218, some 348, .plain, #[]⟩) ::
  ((nat_lit 351), ⟨.type "dict", none, .dict #[⟨PyData.keyHash P "s", .str "s" 982, .str "orna" 974⟩, ⟨PyData.keyHash P "substring_i", .str "substring_i" 984, .int 0 975⟩, ⟨PyData.keyHash P "result", .str "result" 986, .int 1 976⟩] 3, #[]⟩) ::
  ((nat_lit 352), ⟨.ref 218, some 351, .plain, #[]⟩) ::
  ((nat_lit 354), ⟨.type "dict", none, .dict #[⟨PyData.keyHash P "s", .str "s" 996, .str "ad" 987⟩, ⟨PyData.keyHash P "substring_i", .str "substring_i" 998, .int (-1) 989⟩, ⟨PyData.keyHash P "result", .str "result" 1000, .int 1 990⟩] 3, #[]⟩) ::
  ((nat_lit 355), ⟨.ref 218, some 354, .plain, #[]⟩) ::
  ((nat_lit 357), ⟨.type "dict", none, .dict #[⟨PyData.keyHash P "s", .str "s" 1010, .str "e" 1001⟩, ⟨PyData.keyHash P "substring_i", .str "substring_i" 1012, .int (-1) 1003⟩, ⟨PyData.keyHash P "result", .str "result" 1014, .int 1 1004⟩] 3, #[]⟩) ::
  ((nat_lit 358), ⟨.ref 218, some 357, .plain, #[]⟩) ::
  ((nat_lit 360), ⟨.type "dict", none, .dict #[⟨PyData.keyHash P "s", .str "s" 1023, .str "ade" 1015⟩, ⟨PyData.keyHash P "substring_i", .str "substring_i" 1025, .int 6 1016⟩, ⟨PyData.keyHash P "result", .str "result" 1027, .int 1 1017⟩] 3, #[]⟩) ::
  ((nat_lit 361), ⟨.ref 218, some 360, .plain, #[]⟩) ::
  ((nat_lit 363), ⟨.type "dict", none, .dict #[⟨PyData.keyHash P "s", .str "s" 1036, .str "ande" 1028⟩, ⟨PyData.keyHash P "substring_i", .str "substring_i" 1038, .int 6 1029⟩, ⟨PyData.keyHash P "result", .str "result" 1040, .int 1 1030⟩] 3, #[]⟩) ::
  ((nat_lit 364), ⟨.ref 218, some 363, .plain, #[]⟩) ::
  ((nat_lit 366), ⟨.type "dict", none, .dict #[⟨PyData.keyHash P "s", .str "s" 1049, .str "arne" 1041⟩, ⟨PyData.keyHash P "substring_i", .str "substring_i" 1051, .int 6 1042⟩, ⟨PyData.keyHash P "result", .str "result" 1053, .int 1 1043⟩] 3, #[]⟩) ::
  ((nat_lit 367), ⟨.ref 218, some 366, .plain, #[]⟩) ::
  ((nat_lit 369), ⟨.type "dict", none, .dict #[⟨PyData.keyHash P "s", .str "s" 1062, .str "are" 1054⟩, ⟨PyData.keyHash P "substring_i", .str "substring_i" 1064, .int 6 1055⟩, ⟨PyData.keyHash P "result", .str "result" 1066, .int 1 1056⟩] 3, #[]⟩) ::
  ((nat_lit 370), ⟨.ref 218, some 369, .plain, #[]⟩) ::
  ((nat_lit 372), ⟨.type "dict", none, .dict #[⟨PyData.keyHash P "s", .str "s" 1075, .str "aste" 1067⟩, ⟨PyData.keyHash P "substring_i", .str "substring_i" 1077, .int 6 1068⟩, ⟨PyData.keyHash P "result", .str "result" 1079, .int 1 1069⟩] 3, #[]⟩) ::
  ((nat_lit 373), ⟨.ref 218, some 372, .plain, #[]⟩) ::
  ((nat_lit 375), ⟨.type "dict", none, .dict #[⟨PyData.keyHash P "s", .str "s" 1089, .str "en" 1080⟩, ⟨PyData.keyHash P "substring_i", .str "substring_i" 1091, .int (-1) 1082⟩, ⟨PyData.keyHash P "result", .str "result" 1093, .int 1 1083⟩] 3, #[]⟩) ::
  ((nat_lit 376), ⟨.ref 218, some 375, .plain, #[]⟩) ::
  ((nat_lit 378), ⟨.type "dict", none, .dict #[⟨PyData.keyHash P "s", .str "s" 1102, .str "anden" 1094⟩, ⟨PyData.keyHash P "substring_i", .str "substring_i" 1104, .int 12 1095⟩, ⟨PyData.keyHash P "result", .str "result" 1106, .int 1 1096⟩] 3, #[]⟩) ::
  ((nat_lit 379), ⟨.ref 218, some 378, .plain, #[]⟩) ::
  ((nat_lit 381), ⟨.type "dict", none, .dict #[⟨PyData.keyHash P "s", .str "s" 1115, .str "aren" 1107⟩, ⟨PyData.keyHash P "substring_i", .str "substring_i" 1117, .int 12 1108⟩, ⟨PyData.keyHash P "result", .str "result" 1119, .int 1 1109⟩] 3, #[]⟩) ::
  ((nat_lit 382), ⟨.ref 218, some 381, .plain, #[]⟩) ::
  ((nat_lit 384), ⟨.type "dict", none, .dict #[⟨PyData.keyHash P "s", .str "s" 1128, .str "heten" 1120⟩, ⟨PyData.keyHash P "substring_i", .str "substring_i" 1130, .int 12 1121⟩, ⟨PyData.keyHash P "result", .str "result" 1132, .int 1 1122⟩] 3, #[]⟩) ::
  ((nat_lit 385), ⟨.ref 218, some 384, .plain, #[]⟩) ::
  ((nat_lit 387), ⟨.type "dict", none, .dict #[⟨PyData.keyHash P "s", .str "s" 1142, .str "ern" 1133⟩, ⟨PyData.keyHash P "substring_i", .str "substring_i" 1144, .int (-1) 1135⟩, ⟨PyData.keyHash P "result", .str "result" 1146, .int 1 1136⟩] 3, #[]⟩) ::
  ((nat_lit 388), ⟨.ref 218, some 387, .plain, #[]⟩) ::
  ((nat_lit 390), ⟨.type "dict", none, .dict #[⟨PyData.keyHash P "s", .str "s" 1156, .str "ar" 1147⟩, ⟨PyData.keyHash P "substring_i", .str "substring_i" 1158, .int (-1) 1149⟩, ⟨PyData.keyHash P "result", .str "result" 1160, .int 1 1150⟩] 3, #[]⟩) ::
  ((nat_lit 391), ⟨.ref 218, some 390, .plain, #[]⟩) ::
  ((nat_lit 393), ⟨.type "dict", none, .dict #[⟨PyData.keyHash P "s", .str "s" 1170, .str "er" 1161⟩, ⟨PyData.keyHash P "substring_i", .str "substring_i" 1172, .int (-1) 1163⟩, ⟨PyData.keyHash P "result", .str "result" 1174, .int 1 1164⟩] 3, #[]⟩) ::
  ((nat_lit 394), ⟨.ref 218, some 393, .plain, #[]⟩) ::
  ((nat_lit 396), ⟨.type "dict", none, .dict #[⟨PyData.keyHash P "s", .str "s" 1183, .str "heter" 1175⟩, ⟨PyData.keyHash P "substring_i", .str "substring_i" 1185, .int 18 1176⟩, ⟨PyData.keyHash P "result", .str "result" 1187, .int 1 1177⟩] 3, #[]⟩) ::
  ((nat_lit 397), ⟨.ref 218, some 396, .plain, #[]⟩) ::
  ((nat_lit 399), ⟨.type "dict", none, .dict #[⟨PyData.keyHash P "s", .str "s" 1197, .str "or" 1188⟩, ⟨PyData.keyHash P "substring_i", .str "substring_i" 1199, .int (-1) 1190⟩, ⟨PyData.keyHash P "result", .str "result" 1201, .int 1 1191⟩] 3, #[]⟩) ::
  ((nat_lit 400), ⟨.ref 218, some 399, .plain, #[]⟩) ::
  ((nat_lit 402), ⟨.type "dict", none, .dict #[⟨PyData.keyHash P "s", .str "s" 1211, .str "s" 1202⟩, ⟨PyData.keyHash P "substring_i", .str "substring_i" 1213, .int (-1) 1204⟩, ⟨PyData.keyHash P "result", .str "result" 1215, .int 2 1205⟩] 3, #[]⟩) ::
  ((nat_lit 403), ⟨.ref 218, some 402, .plain, #[]⟩) ::
  ((nat_lit 405), ⟨.type "dict", none, .dict #[⟨PyData.keyHash P "s", .str "s" 1224, .str "as" 1216⟩, ⟨PyData.keyHash P "substring_i", .str "substring_i" 1226, .int 21 1217⟩, ⟨PyData.keyHash P "result", .str "result" 1228, .int 1 1218⟩] 3, #[]⟩) ::
  ((nat_lit 406), ⟨.ref 218, some 405, .plain, #[]⟩) ::
  ((nat_lit 408), ⟨.type "dict", none, .dict #[⟨PyData.keyHash P "s", .str "s" 1237, .str "arnas" 1229⟩, ⟨PyData.keyHash P "substring_i", .str "substring_i" 1239, .int 22 1230⟩, ⟨PyData.keyHash P "result", .str "result" 1241, .int 1 1231⟩] 3, #[]⟩) ::
  ((nat_lit 409), ⟨.ref 218, some 408, .plain, #[]⟩) ::
  ((nat_lit 411), ⟨.type "dict", none, .dict #[⟨PyData.keyHash P "s", .str "s" 1250, .str "ernas" 1242⟩, ⟨PyData.keyHash P "substring_i", .str "substring_i" 1252, .int 22 1243⟩, ⟨PyData.keyHash P "result", .str "result" 1254, .int 1 1244⟩] 3, #[]⟩) ::
  ((nat_lit 412), ⟨.ref 218, some 411, .plain, #[]⟩) ::
  ((nat_lit 414), ⟨.type "dict", none, .dict #[⟨PyData.keyHash P "s", .str "s" 1263, .str "ornas" 1255⟩, ⟨PyData.keyHash P "substring_i", .str "substring_i" 1265, .int 22 1256⟩, ⟨PyData.keyHash P "result", .str "result" 1267, .int 1 1257⟩] 3, #[]⟩) ::
  ((nat_lit 415), ⟨.ref 218, some 414, .plain, #[]⟩) ::
  ((nat_lit 417), ⟨.type "dict", none, .dict #[⟨PyData.keyHash P "s", .str "s" 1276, .str "es" 1268⟩, ⟨PyData.keyHash P "substring_i", .str "substring_i" 1278, .int 21 1269⟩, ⟨PyData.keyHash P "result", .str "result" 1280, .int 1 1270⟩] 3, #[]⟩) ::
  ((nat_lit 418), ⟨.ref 218, some 417, .plain, #[]⟩) ::
  ((nat_lit 420), ⟨.type "dict", none, .dict #[⟨PyData.keyHash P "s", .str "s" 1289, .str "ades" 1281⟩, ⟨PyData.keyHash P "substring_i", .str "substring_i" 1291, .int 26 1282⟩, ⟨PyData.keyHash P "result", .str "result" 1293, .int 1 1283⟩] 3, #[]⟩) ::
  ((nat_lit 421), ⟨.ref 218, some 420, .plain, #[]⟩) ::
  ((nat_lit 423), ⟨.type "dict", none, .dict #[⟨PyData.keyHash P "s", .str "s" 1302, .str "andes" 1294⟩, ⟨PyData.keyHash P "substring_i", .str "substring_i" 1304, .int 26 1295⟩, ⟨PyData.keyHash P "result", .str "result" 1306, .int 1 1296⟩] 3, #[]⟩) ::
  ((nat_lit 424), ⟨.ref 218, some 423, .plain, #[]⟩) ::
  ((nat_lit 426), ⟨.type "dict", none, .dict #[⟨PyData.keyHash P "s", .str "s" 1315, .str "ens" 1307⟩, ⟨PyData.keyHash P "substring_i", .str "substring_i" 1317, .int 21 1308⟩, ⟨PyData.keyHash P "result", .str "result" 1319, .int 1 1309⟩] 3, #[]⟩) ::
  ((nat_lit 427), ⟨.ref 218, some 426, .plain, #[]⟩) ::
  ((nat_lit 429), ⟨.type "dict", none, .dict #[⟨PyData.keyHash P "s", .str "s" 1328, .str "arens" 1320⟩, ⟨PyData.keyHash P "substring_i", .str "substring_i" 1330, .int 29 1321⟩, ⟨PyData.keyHash P "result", .str "result" 1332, .int 1 1322⟩] 3, #[]⟩) ::
  ((nat_lit 430), ⟨.ref 218, some 429, .plain, #[]⟩) ::
  ((nat_lit 432), ⟨.type "dict", none, .dict #[⟨PyData.keyHash P "s", .str "s" 1341, .str "hetens" 1333⟩, ⟨PyData.keyHash P "substring_i", .str "substring_i" 1343, .int 29 1334⟩, ⟨PyData.keyHash P "result", .str "result" 1345, .int 1 1335⟩] 3, #[]⟩) ::
  ((nat_lit 433), ⟨.ref 218, some 432, .plain, #[]⟩) ::
  ((nat_lit 435), ⟨.type "dict", none, .dict #[⟨PyData.keyHash P "s", .str "s" 1354, .str "erns" 1346⟩, ⟨PyData.keyHash P "substring_i", .str "substring_i" 1356, .int 21 1347⟩, ⟨PyData.keyHash P "result", .str "result" 1358, .int 1 1348⟩] 3, #[]⟩) ::
  ((nat_lit 436), ⟨.ref 218, some 435, .plain, #[]⟩) ::
  ((nat_lit 438), ⟨.type "dict", none, .dict #[⟨PyData.keyHash P "s", .str "s" 1368, .str "at" 1359⟩, ⟨PyData.keyHash P "substring_i", .str "substring_i" 1370, .int (-1) 1361⟩, ⟨PyData.keyHash P "result", .str "result" 1372, .int 1 1362⟩] 3, #[]⟩) ::
  ((nat_lit 439), ⟨.ref 218, some 438, .plain, #[]⟩) ::
  ((nat_lit 441), ⟨.type "dict", none, .dict #[⟨PyData.keyHash P "s", .str "s" 1382, .str "et" 1373⟩, ⟨PyData.keyHash P "substring_i", .str "substring_i" 1384, .int (-1) 1375⟩, ⟨PyData.keyHash P "result", .str "result" 1386, .int 3 1376⟩] 3, #[]⟩) ::
  ((nat_lit 442), ⟨.ref 218, some 441, .plain, #[]⟩) ::
  ((nat_lit 444), ⟨.type "dict", none, .dict #[⟨PyData.keyHash P "s", .str "s" 1395, .str "andet" 1387⟩, ⟨PyData.keyHash P "substring_i", .str "substring_i" 1397, .int 34 1388⟩, ⟨PyData.keyHash P "result", .str "result" 1399, .int 1 1389⟩] 3, #[]⟩) ::
  ((nat_lit 445), ⟨.ref 218, some 444, .plain, #[]⟩) ::
  ((nat_lit 447), ⟨.type "dict", none, .dict #[⟨PyData.keyHash P "s", .str "s" 1408, .str "het" 1400⟩, ⟨PyData.keyHash P "substring_i", .str "substring_i" 1410, .int 34 1401⟩, ⟨PyData.keyHash P "result", .str "result" 1412, .int 1 1402⟩] 3, #[]⟩) ::
  ((nat_lit 448), ⟨.ref 218, some 447, .plain, #[]⟩) ::
  ((nat_lit 450), ⟨.type "dict", none, .dict #[⟨PyData.keyHash P "s", .str "s" 1422, .str "ast" 1413⟩, ⟨PyData.keyHash P "substring_i", .str "substring_i" 1424, .int (-1) 1415⟩, ⟨PyData.keyHash P "result", .str "result" 1426, .int 1 1416⟩] 3, #[]⟩) ::
  ((nat_lit 451), ⟨.ref 218, some 450, .plain, #[]⟩) ::
  ((nat_lit 454), ⟨.type "dict", none, .dict #[⟨PyData.keyHash P "s", .str "s" 1438, .str "dd" 1428⟩, ⟨PyData.keyHash P "substring_i", .str "substring_i" 1440, .int (-1) 1430⟩, ⟨PyData.keyHash P "result", .str "result" 1442, .int (-1) 1432⟩] 3, #[]⟩) ::
  ((nat_lit 455), ⟨.ref 218, some 454, .plain, #[]⟩) ::
  ((nat_lit 457), ⟨.type "dict", none, .dict #[⟨PyData.keyHash P "s", .str "s" 1453, .str "gd" 1443⟩, ⟨PyData.keyHash P "substring_i", .str "substring_i" 1455, .int (-1) 1445⟩, ⟨PyData.keyHash P "result", .str "result" 1457, .int (-1) 1447⟩] 3, #[]⟩) ::
  ((nat_lit 458), ⟨.ref 218, some 457, .plain, #[]⟩) ::
  ((nat_lit 460), ⟨.type "dict", none, .dict #[⟨PyData.keyHash P "s", .str "s" 1468, .str "nn" 1458⟩, ⟨PyData.keyHash P "substring_i", .str "substring_i" 1470, .int (-1) 1460⟩, ⟨PyData.keyHash P "result", .str "result" 1472, .int (-1) 1462⟩] 3, #[]⟩) ::
  ((nat_lit 461), ⟨.ref 218, some 460, .plain, #[]⟩) ::
  ((nat_lit 463), ⟨.type "dict", none, .dict #[⟨PyData.keyHash P "s", .str "s" 1483, .str "dt" 1473⟩, ⟨PyData.keyHash P "substring_i", .str "substring_i" 1485, .int (-1) 1475⟩, ⟨PyData.keyHash P "result", .str "result" 1487, .int (-1) 1477⟩] 3, #[]⟩) ::
  ((nat_lit 464), ⟨.ref 218, some 463, .plain, #[]⟩) ::
  ((nat_lit 466), ⟨.type "dict", none, .dict #[⟨PyData.keyHash P "s", .str "s" 1498, .str "gt" 1488⟩, ⟨PyData.keyHash P "substring_i", .str "substring_i" 1500, .int (-1) 1490⟩, ⟨PyData.keyHash P "result", .str "result" 1502, .int (-1) 1492⟩] 3, #[]⟩) ::
  ((nat_lit 467), ⟨.ref 218, some 466, .plain, #[]⟩) ::
  ((nat_lit 469), ⟨.type "dict", none, .dict #[⟨PyData.keyHash P "s", .str "s" 1513, .str "kt" 1503⟩, ⟨PyData.keyHash P "substring_i", .str "substring_i" 1515, .int (-1) 1505⟩, ⟨PyData.keyHash P "result", .str "result" 1517, .int (-1) 1507⟩] 3, #[]⟩) ::
  ((nat_lit 470), ⟨.ref 218, some 469, .plain, #[]⟩) ::
  ((nat_lit 472), ⟨.type "dict", none, .dict #[⟨PyData.keyHash P "s", .str "s" 1528, .str "tt" 1518⟩, ⟨PyData.keyHash P "substring_i", .str "substring_i" 1530, .int (-1) 1520⟩, ⟨PyData.keyHash P "result", .str "result" 1532, .int (-1) 1522⟩] 3, #[]⟩) ::
  ((nat_lit 473), ⟨.ref 218, some 472, .plain, #[]⟩) ::
  ((nat_lit 476), ⟨.type "dict", none, .dict #[⟨PyData.keyHash P "s", .str "s" 1543, .str "ig" 1534⟩, ⟨PyData.keyHash P "substring_i", .str "substring_i" 1545, .int (-1) 1536⟩, ⟨PyData.keyHash P "result", .str "result" 1547, .int 1 1537⟩] 3, #[]⟩) ::
  ((nat_lit 477), ⟨.ref 218, some 476, .plain, #[]⟩) ::
  ((nat_lit 479), ⟨.type "dict", none, .dict #[⟨PyData.keyHash P "s", .str "s" 1556, .str "lig" 1548⟩, ⟨PyData.keyHash P "substring_i", .str "substring_i" 1558, .int 0 1549⟩, ⟨PyData.keyHash P "result", .str "result" 1560, .int 1 1550⟩] 3, #[]⟩) ::
  ((nat_lit 480), ⟨.ref 218, some 479, .plain, #[]⟩) ::
  ((nat_lit 482), ⟨.type "dict", none, .dict #[⟨PyData.keyHash P "s", .str "s" 1570, .str "els" 1561⟩, ⟨PyData.keyHash P "substring_i", .str "substring_i" 1572, .int (-1) 1563⟩, ⟨PyData.keyHash P "result", .str "result" 1574, .int 1 1564⟩] 3, #[]⟩) ::
  ((nat_lit 483), ⟨.ref 218, some 482, .plain, #[]⟩) ::
  ((nat_lit 485), ⟨.type "dict", none, .dict #[⟨PyData.keyHash P "s", .str "s" 1584, .str "fullt" 1575⟩, ⟨PyData.keyHash P "substring_i", .str "substring_i" 1586, .int (-1) 1577⟩, ⟨PyData.keyHash P "result", .str "result" 1588, .int 3 1578⟩] 3, #[]⟩) ::
  ((nat_lit 486), ⟨.ref 218, some 485, .plain, #[]⟩) ::
  ((nat_lit 488), ⟨.type "dict", none, .dict #[⟨PyData.keyHash P "s", .str "s" 1598, .str "öst" 1589⟩, ⟨PyData.keyHash P "substring_i", .str "substring_i" 1600, .int (-1) 1591⟩, ⟨PyData.keyHash P "result", .str "result" 1602, .int 2 1592⟩] 3, #[]⟩) ::
  ((nat_lit 489), ⟨.ref 218, some 488, .plain, #[]⟩) ::
  ((nat_lit 499), ⟨.type "dict", none, .dict #[⟨PyData.keyHash P "__module__", .str "__module__" 1620, .str "snowballstemmer.swedish_stemmer" 459⟩, ⟨PyData.keyHash P "__qualname__", .str "__qualname__" 1622, .str "lab0" 1621⟩, ⟨PyData.keyHash P "__firstlineno__", .str "__firstlineno__" 1624, .int 316 1623⟩, ⟨PyData.keyHash P "__static_attributes__", .str "__static_attributes__" 1625, .ref 504⟩] 4, #[]⟩) :: []
/-- the stemmer's dict -/
noncomputable abbrev sD (P : Params) (a1 a2 a3 a4 a5 a6 t1 t2 t3 t4 t5 t6 : Tok) (cur : Str) (c l lb bra ket : Int) (tail : List DictEntry) : List DictEntry :=
  ⟨PyData.keyHash P "current", .str "current" a1, .str cur t1⟩ :: ⟨PyData.keyHash P "cursor", .str "cursor" a2, .int c t2⟩ :: ⟨PyData.keyHash P "limit", .str "limit" a3, .int l t3⟩ ::
   ⟨PyData.keyHash P "limit_backward", .str "limit_backward" a4, .int lb t4⟩ :: ⟨PyData.keyHash P "bra", .str "bra" a5, .int bra t5⟩ :: ⟨PyData.keyHash P "ket", .str "ket" a6, .int ket t6⟩ :: tail
noncomputable abbrev LED (P : Params) (x dx : Addr) (ns : Nat) (a1 a2 a3 a4 a5 a6 t1 t2 t3 t4 t5 t6 : Tok) (cur : Str) (c l lb bra ket : Int) (tail : List DictEntry) (rest : List (Addr × Obj)) : List (Addr × Obj) :=
  (x, instObj 494 dx) :: (dx, dictOf (sD P a1 a2 a3 a4 a5 a6 t1 t2 t3 t4 t5 t6 cur c l lb bra ket tail) ns) :: rest
/-- a set of letters -/
noncomputable def SetHas (w : World) (h : Heap) (g : Addr) (f : Nat → Bool) : Prop := ∃ S n, h.SetOf (PySem.strKind (PySem.Challenge.rw_is0010_01).prog w) g S n ∧ ∀ c, S ⟨#[c]⟩ = f c
theorem SetHas.keeps {w : World} {h h' : Heap} {g : Addr} {f : Nat → Bool} (x : SetHas w h g f) (k : ∀ b o, h.get? b = some o → h'.get? b = some o) : SetHas w h' g f :=
  let ⟨S, n, ⟨o, es, ep, t, ho, r⟩, hf⟩ := x; ⟨S, n, ⟨o, es, ep, t, k _ _ ho, r⟩, hf⟩
section
variable {w : World} {A : Around} {E : Value → Shared → Prop} {s : Shared} {h₀ : Heap} {L : Addr} {m : Str → Option Value} {g : Addr} {f : Nat → Bool} {cur : Str} {i : Int} {t : Tok} {Q : Value → Shared → Prop}
theorem in_set (F : Fr h₀ L s.heap m) (X : SetHas w h₀ g f) (h : Q (.bool (f ((Txt.charAt cur i).getD 0))) { s with toks := s.toks + 1 }) : wpAny (model (PySem.Challenge.rw_is0010_01).prog w) A (compareOp .In (.str (Txt.item cur i) t) (.ref g)) Q E s := by
  obtain ⟨S, n, hS, hf⟩ := X.keeps F.keep
  exact wpAny_inSet_of (PySem.strKind_is _ _ _ _) rfl hS (by rw [← hf] at h; exact h)
theorem notin_set (F : Fr h₀ L s.heap m) (X : SetHas w h₀ g f) (h : Q (.bool (!f ((Txt.charAt cur i).getD 0))) { s with toks := s.toks + 1 }) : wpAny (model (PySem.Challenge.rw_is0010_01).prog w) A (compareOp .NotIn (.str (Txt.item cur i) t) (.ref g)) Q E s := by
  obtain ⟨S, n, hS, hf⟩ := X.keeps F.keep
  exact wpAny_notInSet_of (PySem.strKind_is _ _ _ _) rfl hS (by rw [← hf] at h; exact h)
end
theorem charAt_of {x : Str} {i : Int} (h0 : 0 ≤ i) (h1 : i < (x.length : Int)) : (Txt.charAt x i).getD 0 = x.cps.toList.getD i.toNat 0 := by
  unfold Txt.charAt seqIndex?
  have e : x.length = x.cps.size := rfl
  have n : ¬ i < 0 := by omega
  simp only [n, if_false]
  rw [if_pos (by simp; omega)]
  simp [List.getD_eq_getElem?_getD]
end PartW0
section PartL1
open PySem PySem.W PyProof.Rows
noncomputable def ls (x : Str) : List Nat := x.cps.toList
theorem ls_len (x : Str) : (ls x).length = x.length := by unfold ls Str.length; simp
theorem ls_inj {x y : Str} (h : ls x = ls y) : x = y := by
  obtain ⟨x⟩ := x; obtain ⟨y⟩ := y
  unfold ls at h
  have : x = y := Array.toList_inj.mp h
  rw [this]
theorem ls_app (x y : Str) : ls (x ++ y) = ls x ++ ls y := by
  show (x.cps ++ y.cps).toList = _
  simp [ls]
theorem ls_slice {x : Str} {i j : Int} (h0 : 0 ≤ i) (h1 : i ≤ j) (h2 : j ≤ x.length) : ls (Txt.slice x (some i) (some j)) = ((ls x).take j.toNat).drop i.toNat := by
  have := eq_of_beq (slice_closesL (x := x) h0 h1 h2)
  rw [this]
  show (((x.cps.toList.drop i.toNat).take (j - i).toNat).toArray).toList = _
  rw [List.toList_toArray, List.drop_take]
  rw [show (j - i).toNat = j.toNat - i.toNat by omega]
  rfl
theorem ls_from {x : Str} {i : Int} (h0 : 0 ≤ i) (h2 : i ≤ x.length) : ls (Txt.slice x (some i) none) = (ls x).drop i.toNat := by
  have := eq_of_beq (slice_closes_fromL (x := x) (b := x.length) h0 h2 rfl)
  rw [this]
  show (((x.cps.toList.drop i.toNat).take ((x.length : Int) - i).toNat).toArray).toList = _
  rw [List.toList_toArray]
  apply List.take_of_length_le
  have := ls_len x
  unfold ls at this
  rw [List.length_drop, this]; omega
theorem ls_ends (x y : Str) : Txt.endswith x y = (ls y).reverse.isPrefixOf (ls x).reverse := by
  unfold Txt.endswith
  rw [PySem.StrLaws.subAt_eq]
  have lx := ls_len x
  have ly := ls_len y
  rw [Bool.eq_iff_iff, Bool.and_eq_true, decide_eq_true_eq, beq_iff_eq, List.isPrefixOf_iff_prefix, List.reverse_prefix]
  show 0 + y.length ≤ x.length ∧ ((ls x).drop (x.length - y.length)).take y.length = ls y ↔ _
  constructor
  · rintro ⟨h1, h2⟩
    rw [List.take_of_length_le (by rw [List.length_drop]; omega)] at h2
    rw [← h2]
    exact List.drop_suffix _ _
  · intro h
    have := h.length_le
    refine ⟨by omega, ?_⟩
    rw [List.take_of_length_le (by rw [List.length_drop]; omega)]
    obtain ⟨p, hp⟩ := h
    rw [← hp]
    have : x.length - y.length = p.length := by
      have := congrArg List.length hp
      rw [List.length_append] at this
      omega
    rw [this]
    simp
end PartL1
section PartW1
open PySem PySem.W PyProof.Rows PySem.Calls
section
variable {w : World} {A : Around} {E : Value → Shared → Prop} {s : Shared} {h₀ : Heap} {L : Addr} {m : Str → Option Value} {x dx : Addr} {ns : Nat} {tail : List DictEntry} {rest : List (Addr × Obj)} {a1 a2 a3 a4 a5 a6 t1 t2 t3 t4 t5 t6 : Tok} {cur : Str} {c l lb bra ket : Int}
noncomputable abbrev MD (w : World) : Model := model (PySem.Challenge.rw_is0010_01).prog w
theorem pg_all (P : Params) (n : Str) : plainGet (Kf P) 494 n = true := by
  show (findIn (Kf P) (.ref 494) "__getattribute__" == some (some (.builtin "object.__getattribute__")) && findIn (Kf P) (.ref 494) "__getattr__" == some none) = true
  kernel_rfl!
theorem hh_all (P : Params) : hasDictIn (Kf P) 494 = true := by kernel_rfl!
theorem sa_all (P : Params) : findIn (Kf P) (.ref 494) "__setattr__" = some (some (.builtin "object.__setattr__")) := by kernel_rfl!
theorem po_all (P : Params) : plainOver (Kf P) 494 = true := by kernel_rfl!


theorem find_cur (P : Params) : findIn (Kf P) (.ref 494) "current" = some none := by kernel_rfl!
theorem getL_cur (P : Params) : getL "current" (sD P a1 a2 a3 a4 a5 a6 t1 t2 t3 t4 t5 t6 cur c l lb bra ket tail) = some (some (.str cur t1)) := by kernel_rfl!
theorem take_cur (P : Params) : takerIn (Kf P) 494 "current" = some none := by kernel_rfl!
theorem put_cur (P : Params) (hh : Int) (kk : Value) (cur' : Str) (t1' : Tok) : (putL "current" hh kk (.str cur' t1') (sD P a1 a2 a3 a4 a5 a6 t1 t2 t3 t4 t5 t6 cur c l lb bra ket tail), putN "current" (sD P a1 a2 a3 a4 a5 a6 t1 t2 t3 t4 t5 t6 cur c l lb bra ket tail) ns) = (sD P a1 a2 a3 a4 a5 a6 t1' t2 t3 t4 t5 t6 cur' c l lb bra ket tail, ns) := by kernel_rfl!
theorem get_cur {expr : Bool} {Q : Value → Shared → Prop} (F : Fr h₀ L s.heap m) (X : (Kf w.params).In h₀) (N : News h₀ L s.heap (LED w.params x dx ns a1 a2 a3 a4 a5 a6 t1 t2 t3 t4 t5 t6 cur c l lb bra ket tail rest)) (h : Q (.str cur t1) { s with toks := s.toks + 1 }) :
    wpAny (MD w) A (getAttr (.ref x) "current" expr) Q E s :=
  get_own F X (InstAt.of_news N (.head _) (.tail _ (.head _))) (pg_all _ _) (hh_all _) (find_cur _) (by kernel_rfl!) (getL_cur _) rfl h
theorem set_cur {Q : Unit → Shared → Prop} {cur' : Str} {t1' : Tok} (hl : tail.length ≤ 10) (hx : x ≠ dx) (hr : ∀ p ∈ rest, p.1 ≠ dx) (F : Fr h₀ L s.heap m) (X : (Kf w.params).In h₀) (N : News h₀ L s.heap (LED w.params x dx ns a1 a2 a3 a4 a5 a6 t1 t2 t3 t4 t5 t6 cur c l lb bra ket tail rest))
    (h : ∀ h', Fr h₀ L h' m → News h₀ L h' (LED w.params x dx ns a1 a2 a3 a4 a5 a6 t1' t2 t3 t4 t5 t6 cur' c l lb bra ket tail rest) → Q () { s with heap := h', toks := s.toks + 2 }) : wpAny (MD w) A (setAttr (.ref x) "current" (.str cur' t1')) Q E s :=
  set_dict F X N (InstAt.of_news N (.head _) (.tail _ (.head _))) rfl (sa_all _) (po_all _) (take_cur _) (hh_all _) (by rw [getL_cur]; rfl) (put_cur _ _ _ _ _) (.tail hx (.head hr)) (by simp only [sD, List.length_append, List.length_cons, List.length_nil]; omega) h

theorem find_c (P : Params) : findIn (Kf P) (.ref 494) "cursor" = some none := by kernel_rfl!
theorem getL_c (P : Params) : getL "cursor" (sD P a1 a2 a3 a4 a5 a6 t1 t2 t3 t4 t5 t6 cur c l lb bra ket tail) = some (some (.int c t2)) := by kernel_rfl!
theorem take_c (P : Params) : takerIn (Kf P) 494 "cursor" = some none := by kernel_rfl!
theorem put_c (P : Params) (hh : Int) (kk : Value) (c' : Int) (t2' : Tok) : (putL "cursor" hh kk (.int c' t2') (sD P a1 a2 a3 a4 a5 a6 t1 t2 t3 t4 t5 t6 cur c l lb bra ket tail), putN "cursor" (sD P a1 a2 a3 a4 a5 a6 t1 t2 t3 t4 t5 t6 cur c l lb bra ket tail) ns) = (sD P a1 a2 a3 a4 a5 a6 t1 t2' t3 t4 t5 t6 cur c' l lb bra ket tail, ns) := by kernel_rfl!
theorem get_c {expr : Bool} {Q : Value → Shared → Prop} (F : Fr h₀ L s.heap m) (X : (Kf w.params).In h₀) (N : News h₀ L s.heap (LED w.params x dx ns a1 a2 a3 a4 a5 a6 t1 t2 t3 t4 t5 t6 cur c l lb bra ket tail rest)) (h : Q (.int c t2) { s with toks := s.toks + 1 }) :
    wpAny (MD w) A (getAttr (.ref x) "cursor" expr) Q E s :=
  get_own F X (InstAt.of_news N (.head _) (.tail _ (.head _))) (pg_all _ _) (hh_all _) (find_c _) (by kernel_rfl!) (getL_c _) rfl h
theorem set_c {Q : Unit → Shared → Prop} {c' : Int} {t2' : Tok} (hl : tail.length ≤ 10) (hx : x ≠ dx) (hr : ∀ p ∈ rest, p.1 ≠ dx) (F : Fr h₀ L s.heap m) (X : (Kf w.params).In h₀) (N : News h₀ L s.heap (LED w.params x dx ns a1 a2 a3 a4 a5 a6 t1 t2 t3 t4 t5 t6 cur c l lb bra ket tail rest))
    (h : ∀ h', Fr h₀ L h' m → News h₀ L h' (LED w.params x dx ns a1 a2 a3 a4 a5 a6 t1 t2' t3 t4 t5 t6 cur c' l lb bra ket tail rest) → Q () { s with heap := h', toks := s.toks + 2 }) : wpAny (MD w) A (setAttr (.ref x) "cursor" (.int c' t2')) Q E s :=
  set_dict F X N (InstAt.of_news N (.head _) (.tail _ (.head _))) rfl (sa_all _) (po_all _) (take_c _) (hh_all _) (by rw [getL_c]; rfl) (put_c _ _ _ _ _) (.tail hx (.head hr)) (by simp only [sD, List.length_append, List.length_cons, List.length_nil]; omega) h

theorem find_l (P : Params) : findIn (Kf P) (.ref 494) "limit" = some none := by kernel_rfl!
theorem getL_l (P : Params) : getL "limit" (sD P a1 a2 a3 a4 a5 a6 t1 t2 t3 t4 t5 t6 cur c l lb bra ket tail) = some (some (.int l t3)) := by kernel_rfl!
theorem take_l (P : Params) : takerIn (Kf P) 494 "limit" = some none := by kernel_rfl!
theorem put_l (P : Params) (hh : Int) (kk : Value) (l' : Int) (t3' : Tok) : (putL "limit" hh kk (.int l' t3') (sD P a1 a2 a3 a4 a5 a6 t1 t2 t3 t4 t5 t6 cur c l lb bra ket tail), putN "limit" (sD P a1 a2 a3 a4 a5 a6 t1 t2 t3 t4 t5 t6 cur c l lb bra ket tail) ns) = (sD P a1 a2 a3 a4 a5 a6 t1 t2 t3' t4 t5 t6 cur c l' lb bra ket tail, ns) := by kernel_rfl!
theorem get_l {expr : Bool} {Q : Value → Shared → Prop} (F : Fr h₀ L s.heap m) (X : (Kf w.params).In h₀) (N : News h₀ L s.heap (LED w.params x dx ns a1 a2 a3 a4 a5 a6 t1 t2 t3 t4 t5 t6 cur c l lb bra ket tail rest)) (h : Q (.int l t3) { s with toks := s.toks + 1 }) :
    wpAny (MD w) A (getAttr (.ref x) "limit" expr) Q E s :=
  get_own F X (InstAt.of_news N (.head _) (.tail _ (.head _))) (pg_all _ _) (hh_all _) (find_l _) (by kernel_rfl!) (getL_l _) rfl h
theorem set_l {Q : Unit → Shared → Prop} {l' : Int} {t3' : Tok} (hl : tail.length ≤ 10) (hx : x ≠ dx) (hr : ∀ p ∈ rest, p.1 ≠ dx) (F : Fr h₀ L s.heap m) (X : (Kf w.params).In h₀) (N : News h₀ L s.heap (LED w.params x dx ns a1 a2 a3 a4 a5 a6 t1 t2 t3 t4 t5 t6 cur c l lb bra ket tail rest))
    (h : ∀ h', Fr h₀ L h' m → News h₀ L h' (LED w.params x dx ns a1 a2 a3 a4 a5 a6 t1 t2 t3' t4 t5 t6 cur c l' lb bra ket tail rest) → Q () { s with heap := h', toks := s.toks + 2 }) : wpAny (MD w) A (setAttr (.ref x) "limit" (.int l' t3')) Q E s :=
  set_dict F X N (InstAt.of_news N (.head _) (.tail _ (.head _))) rfl (sa_all _) (po_all _) (take_l _) (hh_all _) (by rw [getL_l]; rfl) (put_l _ _ _ _ _) (.tail hx (.head hr)) (by simp only [sD, List.length_append, List.length_cons, List.length_nil]; omega) h

theorem find_lb (P : Params) : findIn (Kf P) (.ref 494) "limit_backward" = some none := by kernel_rfl!
theorem getL_lb (P : Params) : getL "limit_backward" (sD P a1 a2 a3 a4 a5 a6 t1 t2 t3 t4 t5 t6 cur c l lb bra ket tail) = some (some (.int lb t4)) := by kernel_rfl!
theorem take_lb (P : Params) : takerIn (Kf P) 494 "limit_backward" = some none := by kernel_rfl!
theorem put_lb (P : Params) (hh : Int) (kk : Value) (lb' : Int) (t4' : Tok) : (putL "limit_backward" hh kk (.int lb' t4') (sD P a1 a2 a3 a4 a5 a6 t1 t2 t3 t4 t5 t6 cur c l lb bra ket tail), putN "limit_backward" (sD P a1 a2 a3 a4 a5 a6 t1 t2 t3 t4 t5 t6 cur c l lb bra ket tail) ns) = (sD P a1 a2 a3 a4 a5 a6 t1 t2 t3 t4' t5 t6 cur c l lb' bra ket tail, ns) := by kernel_rfl!
theorem get_lb {expr : Bool} {Q : Value → Shared → Prop} (F : Fr h₀ L s.heap m) (X : (Kf w.params).In h₀) (N : News h₀ L s.heap (LED w.params x dx ns a1 a2 a3 a4 a5 a6 t1 t2 t3 t4 t5 t6 cur c l lb bra ket tail rest)) (h : Q (.int lb t4) { s with toks := s.toks + 1 }) :
    wpAny (MD w) A (getAttr (.ref x) "limit_backward" expr) Q E s :=
  get_own F X (InstAt.of_news N (.head _) (.tail _ (.head _))) (pg_all _ _) (hh_all _) (find_lb _) (by kernel_rfl!) (getL_lb _) rfl h
theorem set_lb {Q : Unit → Shared → Prop} {lb' : Int} {t4' : Tok} (hl : tail.length ≤ 10) (hx : x ≠ dx) (hr : ∀ p ∈ rest, p.1 ≠ dx) (F : Fr h₀ L s.heap m) (X : (Kf w.params).In h₀) (N : News h₀ L s.heap (LED w.params x dx ns a1 a2 a3 a4 a5 a6 t1 t2 t3 t4 t5 t6 cur c l lb bra ket tail rest))
    (h : ∀ h', Fr h₀ L h' m → News h₀ L h' (LED w.params x dx ns a1 a2 a3 a4 a5 a6 t1 t2 t3 t4' t5 t6 cur c l lb' bra ket tail rest) → Q () { s with heap := h', toks := s.toks + 2 }) : wpAny (MD w) A (setAttr (.ref x) "limit_backward" (.int lb' t4')) Q E s :=
  set_dict F X N (InstAt.of_news N (.head _) (.tail _ (.head _))) rfl (sa_all _) (po_all _) (take_lb _) (hh_all _) (by rw [getL_lb]; rfl) (put_lb _ _ _ _ _) (.tail hx (.head hr)) (by simp only [sD, List.length_append, List.length_cons, List.length_nil]; omega) h

theorem find_bra (P : Params) : findIn (Kf P) (.ref 494) "bra" = some none := by kernel_rfl!
theorem getL_bra (P : Params) : getL "bra" (sD P a1 a2 a3 a4 a5 a6 t1 t2 t3 t4 t5 t6 cur c l lb bra ket tail) = some (some (.int bra t5)) := by kernel_rfl!
theorem take_bra (P : Params) : takerIn (Kf P) 494 "bra" = some none := by kernel_rfl!
theorem put_bra (P : Params) (hh : Int) (kk : Value) (bra' : Int) (t5' : Tok) : (putL "bra" hh kk (.int bra' t5') (sD P a1 a2 a3 a4 a5 a6 t1 t2 t3 t4 t5 t6 cur c l lb bra ket tail), putN "bra" (sD P a1 a2 a3 a4 a5 a6 t1 t2 t3 t4 t5 t6 cur c l lb bra ket tail) ns) = (sD P a1 a2 a3 a4 a5 a6 t1 t2 t3 t4 t5' t6 cur c l lb bra' ket tail, ns) := by kernel_rfl!
theorem get_bra {expr : Bool} {Q : Value → Shared → Prop} (F : Fr h₀ L s.heap m) (X : (Kf w.params).In h₀) (N : News h₀ L s.heap (LED w.params x dx ns a1 a2 a3 a4 a5 a6 t1 t2 t3 t4 t5 t6 cur c l lb bra ket tail rest)) (h : Q (.int bra t5) { s with toks := s.toks + 1 }) :
    wpAny (MD w) A (getAttr (.ref x) "bra" expr) Q E s :=
  get_own F X (InstAt.of_news N (.head _) (.tail _ (.head _))) (pg_all _ _) (hh_all _) (find_bra _) (by kernel_rfl!) (getL_bra _) rfl h
theorem set_bra {Q : Unit → Shared → Prop} {bra' : Int} {t5' : Tok} (hl : tail.length ≤ 10) (hx : x ≠ dx) (hr : ∀ p ∈ rest, p.1 ≠ dx) (F : Fr h₀ L s.heap m) (X : (Kf w.params).In h₀) (N : News h₀ L s.heap (LED w.params x dx ns a1 a2 a3 a4 a5 a6 t1 t2 t3 t4 t5 t6 cur c l lb bra ket tail rest))
    (h : ∀ h', Fr h₀ L h' m → News h₀ L h' (LED w.params x dx ns a1 a2 a3 a4 a5 a6 t1 t2 t3 t4 t5' t6 cur c l lb bra' ket tail rest) → Q () { s with heap := h', toks := s.toks + 2 }) : wpAny (MD w) A (setAttr (.ref x) "bra" (.int bra' t5')) Q E s :=
  set_dict F X N (InstAt.of_news N (.head _) (.tail _ (.head _))) rfl (sa_all _) (po_all _) (take_bra _) (hh_all _) (by rw [getL_bra]; rfl) (put_bra _ _ _ _ _) (.tail hx (.head hr)) (by simp only [sD, List.length_append, List.length_cons, List.length_nil]; omega) h

theorem find_ket (P : Params) : findIn (Kf P) (.ref 494) "ket" = some none := by kernel_rfl!
theorem getL_ket (P : Params) : getL "ket" (sD P a1 a2 a3 a4 a5 a6 t1 t2 t3 t4 t5 t6 cur c l lb bra ket tail) = some (some (.int ket t6)) := by kernel_rfl!
theorem take_ket (P : Params) : takerIn (Kf P) 494 "ket" = some none := by kernel_rfl!
theorem put_ket (P : Params) (hh : Int) (kk : Value) (ket' : Int) (t6' : Tok) : (putL "ket" hh kk (.int ket' t6') (sD P a1 a2 a3 a4 a5 a6 t1 t2 t3 t4 t5 t6 cur c l lb bra ket tail), putN "ket" (sD P a1 a2 a3 a4 a5 a6 t1 t2 t3 t4 t5 t6 cur c l lb bra ket tail) ns) = (sD P a1 a2 a3 a4 a5 a6 t1 t2 t3 t4 t5 t6' cur c l lb bra ket' tail, ns) := by kernel_rfl!
theorem get_ket {expr : Bool} {Q : Value → Shared → Prop} (F : Fr h₀ L s.heap m) (X : (Kf w.params).In h₀) (N : News h₀ L s.heap (LED w.params x dx ns a1 a2 a3 a4 a5 a6 t1 t2 t3 t4 t5 t6 cur c l lb bra ket tail rest)) (h : Q (.int ket t6) { s with toks := s.toks + 1 }) :
    wpAny (MD w) A (getAttr (.ref x) "ket" expr) Q E s :=
  get_own F X (InstAt.of_news N (.head _) (.tail _ (.head _))) (pg_all _ _) (hh_all _) (find_ket _) (by kernel_rfl!) (getL_ket _) rfl h
theorem set_ket {Q : Unit → Shared → Prop} {ket' : Int} {t6' : Tok} (hl : tail.length ≤ 10) (hx : x ≠ dx) (hr : ∀ p ∈ rest, p.1 ≠ dx) (F : Fr h₀ L s.heap m) (X : (Kf w.params).In h₀) (N : News h₀ L s.heap (LED w.params x dx ns a1 a2 a3 a4 a5 a6 t1 t2 t3 t4 t5 t6 cur c l lb bra ket tail rest))
    (h : ∀ h', Fr h₀ L h' m → News h₀ L h' (LED w.params x dx ns a1 a2 a3 a4 a5 a6 t1 t2 t3 t4 t5 t6' cur c l lb bra ket' tail rest) → Q () { s with heap := h', toks := s.toks + 2 }) : wpAny (MD w) A (setAttr (.ref x) "ket" (.int ket' t6')) Q E s :=
  set_dict F X N (InstAt.of_news N (.head _) (.tail _ (.head _))) rfl (sa_all _) (po_all _) (take_ket _) (hh_all _) (by rw [getL_ket]; rfl) (put_ket _ _ _ _ _) (.tail hx (.head hr)) (by simp only [sD, List.length_append, List.length_cons, List.length_nil]; omega) h

noncomputable abbrev ip (P : Params) (a7 : Tok) (p1 : Int) (t7 : Tok) : List DictEntry := [⟨PyData.keyHash P "I_p1", .str "I_p1" a7, .int p1 t7⟩]
theorem find_p1 (P : Params) : findIn (Kf P) (.ref 494) "I_p1" = some (some (.int 0 546)) := by kernel_rfl!
theorem take_p1 (P : Params) : takerIn (Kf P) 494 "I_p1" = some none := by kernel_rfl!
section
variable {a7 t7 : Tok} {p1 : Int}
theorem getL_p1 (P : Params) : getL "I_p1" (sD P a1 a2 a3 a4 a5 a6 t1 t2 t3 t4 t5 t6 cur c l lb bra ket (ip P a7 p1 t7)) = some (some (.int p1 t7)) := by kernel_rfl!
theorem getL_p1n (P : Params) : getL "I_p1" (sD P a1 a2 a3 a4 a5 a6 t1 t2 t3 t4 t5 t6 cur c l lb bra ket []) = some none := by kernel_rfl!
theorem put_p1 (P : Params) (hh : Int) (kk : Value) (p1' : Int) (t7' : Tok) : (putL "I_p1" hh kk (.int p1' t7') (sD P a1 a2 a3 a4 a5 a6 t1 t2 t3 t4 t5 t6 cur c l lb bra ket (ip P a7 p1 t7)), putN "I_p1" (sD P a1 a2 a3 a4 a5 a6 t1 t2 t3 t4 t5 t6 cur c l lb bra ket (ip P a7 p1 t7)) ns) = (sD P a1 a2 a3 a4 a5 a6 t1 t2 t3 t4 t5 t6 cur c l lb bra ket (ip P a7 p1' t7'), ns) := by kernel_rfl!
theorem put_p1n (P : Params) (a7 : Tok) (p1' : Int) (t7' : Tok) : (putL "I_p1" (PyData.keyHash P "I_p1") (.str "I_p1" a7) (.int p1' t7') (sD P a1 a2 a3 a4 a5 a6 t1 t2 t3 t4 t5 t6 cur c l lb bra ket []), putN "I_p1" (sD P a1 a2 a3 a4 a5 a6 t1 t2 t3 t4 t5 t6 cur c l lb bra ket []) ns) = (sD P a1 a2 a3 a4 a5 a6 t1 t2 t3 t4 t5 t6 cur c l lb bra ket (ip P a7 p1' t7'), ns + 1) := by kernel_rfl!
theorem get_p1 {expr : Bool} {Q : Value → Shared → Prop} (F : Fr h₀ L s.heap m) (X : (Kf w.params).In h₀) (N : News h₀ L s.heap (LED w.params x dx ns a1 a2 a3 a4 a5 a6 t1 t2 t3 t4 t5 t6 cur c l lb bra ket (ip w.params a7 p1 t7) rest)) (h : Q (.int p1 t7) { s with toks := s.toks + 1 }) :
    wpAny (MD w) A (getAttr (.ref x) "I_p1" expr) Q E s :=
  get_own F X (InstAt.of_news N (.head _) (.tail _ (.head _))) (pg_all _ _) (hh_all _) (find_p1 _) (by kernel_rfl!) (getL_p1 _) rfl h
theorem set_p1 {Q : Unit → Shared → Prop} {p1' : Int} {t7' : Tok} (hx : x ≠ dx) (hr : ∀ p ∈ rest, p.1 ≠ dx) (F : Fr h₀ L s.heap m) (X : (Kf w.params).In h₀) (N : News h₀ L s.heap (LED w.params x dx ns a1 a2 a3 a4 a5 a6 t1 t2 t3 t4 t5 t6 cur c l lb bra ket (ip w.params a7 p1 t7) rest))
    (h : ∀ h', Fr h₀ L h' m → News h₀ L h' (LED w.params x dx ns a1 a2 a3 a4 a5 a6 t1 t2 t3 t4 t5 t6 cur c l lb bra ket (ip w.params a7 p1' t7') rest) → Q () { s with heap := h', toks := s.toks + 2 }) : wpAny (MD w) A (setAttr (.ref x) "I_p1" (.int p1' t7')) Q E s :=
  set_dict F X N (InstAt.of_news N (.head _) (.tail _ (.head _))) rfl (sa_all _) (po_all _) (take_p1 _) (hh_all _) (by rw [getL_p1]; rfl) (put_p1 _ _ _ _ _) (.tail hx (.head hr)) (Nat.le_of_ble_eq_true rfl) h
theorem set_p1n {Q : Unit → Shared → Prop} {p1' : Int} {t7' : Tok} (hx : x ≠ dx) (hr : ∀ p ∈ rest, p.1 ≠ dx) (F : Fr h₀ L s.heap m) (X : (Kf w.params).In h₀) (N : News h₀ L s.heap (LED w.params x dx ns a1 a2 a3 a4 a5 a6 t1 t2 t3 t4 t5 t6 cur c l lb bra ket [] rest))
    (h : ∀ h' a7, Fr h₀ L h' m → News h₀ L h' (LED w.params x dx (ns + 1) a1 a2 a3 a4 a5 a6 t1 t2 t3 t4 t5 t6 cur c l lb bra ket (ip w.params a7 p1' t7') rest) → Q () { s with heap := h', toks := s.toks + 2 }) : wpAny (MD w) A (setAttr (.ref x) "I_p1" (.int p1' t7')) Q E s :=
  set_dict F X N (InstAt.of_news N (.head _) (.tail _ (.head _))) rfl (sa_all _) (po_all _) (take_p1 _) (hh_all _) (by rw [getL_p1n]; rfl) (put_p1n _ _ _ _) (.tail hx (.head hr)) (Nat.le_of_ble_eq_true rfl) (fun h' => h h' _)
end

theorem m_set_current {pl : Sem Bool} {Q : Value × List Value → Shared → Prop} (hl : tail = [] ∨ ∃ a7 p1 t7, tail = ip w.params a7 p1 t7) (F : Fr h₀ L s.heap m) (X : (Kf w.params).In h₀) (N : News h₀ L s.heap (LED w.params x dx ns a1 a2 a3 a4 a5 a6 t1 t2 t3 t4 t5 t6 cur c l lb bra ket tail rest)) (h : Q (.ref 42, [.ref x]) s) :
    wpAny (MD w) A (getMethod (.ref x) "set_current" pl) Q E s := by
  have e1 : findIn (Kf w.params) (.ref 494) "set_current" = some (some (.ref 42)) := by kernel_rfl!
  have e2 : isFn (Kf w.params) (.ref 42) = true := by kernel_rfl!
  have e3 : getL "set_current" (sD w.params a1 a2 a3 a4 a5 a6 t1 t2 t3 t4 t5 t6 cur c l lb bra ket tail) = some none := by
    rcases hl with rfl | ⟨a7, p1, t7, rfl⟩ <;> kernel_rfl!
  exact method_inst F X (InstAt.of_news N (.head _) (.tail _ (.head _))) (pg_all _ _) e1 e2 e3 h

theorem m_get_current {pl : Sem Bool} {Q : Value × List Value → Shared → Prop} (hl : tail = [] ∨ ∃ a7 p1 t7, tail = ip w.params a7 p1 t7) (F : Fr h₀ L s.heap m) (X : (Kf w.params).In h₀) (N : News h₀ L s.heap (LED w.params x dx ns a1 a2 a3 a4 a5 a6 t1 t2 t3 t4 t5 t6 cur c l lb bra ket tail rest)) (h : Q (.ref 49, [.ref x]) s) :
    wpAny (MD w) A (getMethod (.ref x) "get_current" pl) Q E s := by
  have e1 : findIn (Kf w.params) (.ref 494) "get_current" = some (some (.ref 49)) := by kernel_rfl!
  have e2 : isFn (Kf w.params) (.ref 49) = true := by kernel_rfl!
  have e3 : getL "get_current" (sD w.params a1 a2 a3 a4 a5 a6 t1 t2 t3 t4 t5 t6 cur c l lb bra ket tail) = some none := by
    rcases hl with rfl | ⟨a7, p1, t7, rfl⟩ <;> kernel_rfl!
  exact method_inst F X (InstAt.of_news N (.head _) (.tail _ (.head _))) (pg_all _ _) e1 e2 e3 h

theorem m_go_in_grouping {pl : Sem Bool} {Q : Value × List Value → Shared → Prop} (hl : tail = [] ∨ ∃ a7 p1 t7, tail = ip w.params a7 p1 t7) (F : Fr h₀ L s.heap m) (X : (Kf w.params).In h₀) (N : News h₀ L s.heap (LED w.params x dx ns a1 a2 a3 a4 a5 a6 t1 t2 t3 t4 t5 t6 cur c l lb bra ket tail rest)) (h : Q (.ref 70, [.ref x]) s) :
    wpAny (MD w) A (getMethod (.ref x) "go_in_grouping" pl) Q E s := by
  have e1 : findIn (Kf w.params) (.ref 494) "go_in_grouping" = some (some (.ref 70)) := by kernel_rfl!
  have e2 : isFn (Kf w.params) (.ref 70) = true := by kernel_rfl!
  have e3 : getL "go_in_grouping" (sD w.params a1 a2 a3 a4 a5 a6 t1 t2 t3 t4 t5 t6 cur c l lb bra ket tail) = some none := by
    rcases hl with rfl | ⟨a7, p1, t7, rfl⟩ <;> kernel_rfl!
  exact method_inst F X (InstAt.of_news N (.head _) (.tail _ (.head _))) (pg_all _ _) e1 e2 e3 h

theorem m_in_grouping_b {pl : Sem Bool} {Q : Value × List Value → Shared → Prop} (hl : tail = [] ∨ ∃ a7 p1 t7, tail = ip w.params a7 p1 t7) (F : Fr h₀ L s.heap m) (X : (Kf w.params).In h₀) (N : News h₀ L s.heap (LED w.params x dx ns a1 a2 a3 a4 a5 a6 t1 t2 t3 t4 t5 t6 cur c l lb bra ket tail rest)) (h : Q (.ref 77, [.ref x]) s) :
    wpAny (MD w) A (getMethod (.ref x) "in_grouping_b" pl) Q E s := by
  have e1 : findIn (Kf w.params) (.ref 494) "in_grouping_b" = some (some (.ref 77)) := by kernel_rfl!
  have e2 : isFn (Kf w.params) (.ref 77) = true := by kernel_rfl!
  have e3 : getL "in_grouping_b" (sD w.params a1 a2 a3 a4 a5 a6 t1 t2 t3 t4 t5 t6 cur c l lb bra ket tail) = some none := by
    rcases hl with rfl | ⟨a7, p1, t7, rfl⟩ <;> kernel_rfl!
  exact method_inst F X (InstAt.of_news N (.head _) (.tail _ (.head _))) (pg_all _ _) e1 e2 e3 h

theorem m_go_out_grouping {pl : Sem Bool} {Q : Value × List Value → Shared → Prop} (hl : tail = [] ∨ ∃ a7 p1 t7, tail = ip w.params a7 p1 t7) (F : Fr h₀ L s.heap m) (X : (Kf w.params).In h₀) (N : News h₀ L s.heap (LED w.params x dx ns a1 a2 a3 a4 a5 a6 t1 t2 t3 t4 t5 t6 cur c l lb bra ket tail rest)) (h : Q (.ref 98, [.ref x]) s) :
    wpAny (MD w) A (getMethod (.ref x) "go_out_grouping" pl) Q E s := by
  have e1 : findIn (Kf w.params) (.ref 494) "go_out_grouping" = some (some (.ref 98)) := by kernel_rfl!
  have e2 : isFn (Kf w.params) (.ref 98) = true := by kernel_rfl!
  have e3 : getL "go_out_grouping" (sD w.params a1 a2 a3 a4 a5 a6 t1 t2 t3 t4 t5 t6 cur c l lb bra ket tail) = some none := by
    rcases hl with rfl | ⟨a7, p1, t7, rfl⟩ <;> kernel_rfl!
  exact method_inst F X (InstAt.of_news N (.head _) (.tail _ (.head _))) (pg_all _ _) e1 e2 e3 h

theorem m_out_grouping_b {pl : Sem Bool} {Q : Value × List Value → Shared → Prop} (hl : tail = [] ∨ ∃ a7 p1 t7, tail = ip w.params a7 p1 t7) (F : Fr h₀ L s.heap m) (X : (Kf w.params).In h₀) (N : News h₀ L s.heap (LED w.params x dx ns a1 a2 a3 a4 a5 a6 t1 t2 t3 t4 t5 t6 cur c l lb bra ket tail rest)) (h : Q (.ref 105, [.ref x]) s) :
    wpAny (MD w) A (getMethod (.ref x) "out_grouping_b" pl) Q E s := by
  have e1 : findIn (Kf w.params) (.ref 494) "out_grouping_b" = some (some (.ref 105)) := by kernel_rfl!
  have e2 : isFn (Kf w.params) (.ref 105) = true := by kernel_rfl!
  have e3 : getL "out_grouping_b" (sD w.params a1 a2 a3 a4 a5 a6 t1 t2 t3 t4 t5 t6 cur c l lb bra ket tail) = some none := by
    rcases hl with rfl | ⟨a7, p1, t7, rfl⟩ <;> kernel_rfl!
  exact method_inst F X (InstAt.of_news N (.head _) (.tail _ (.head _))) (pg_all _ _) e1 e2 e3 h

theorem m_eq_s_b {pl : Sem Bool} {Q : Value × List Value → Shared → Prop} (hl : tail = [] ∨ ∃ a7 p1 t7, tail = ip w.params a7 p1 t7) (F : Fr h₀ L s.heap m) (X : (Kf w.params).In h₀) (N : News h₀ L s.heap (LED w.params x dx ns a1 a2 a3 a4 a5 a6 t1 t2 t3 t4 t5 t6 cur c l lb bra ket tail rest)) (h : Q (.ref 126, [.ref x]) s) :
    wpAny (MD w) A (getMethod (.ref x) "eq_s_b" pl) Q E s := by
  have e1 : findIn (Kf w.params) (.ref 494) "eq_s_b" = some (some (.ref 126)) := by kernel_rfl!
  have e2 : isFn (Kf w.params) (.ref 126) = true := by kernel_rfl!
  have e3 : getL "eq_s_b" (sD w.params a1 a2 a3 a4 a5 a6 t1 t2 t3 t4 t5 t6 cur c l lb bra ket tail) = some none := by
    rcases hl with rfl | ⟨a7, p1, t7, rfl⟩ <;> kernel_rfl!
  exact method_inst F X (InstAt.of_news N (.head _) (.tail _ (.head _))) (pg_all _ _) e1 e2 e3 h

theorem m_find_among_b {pl : Sem Bool} {Q : Value × List Value → Shared → Prop} (hl : tail = [] ∨ ∃ a7 p1 t7, tail = ip w.params a7 p1 t7) (F : Fr h₀ L s.heap m) (X : (Kf w.params).In h₀) (N : News h₀ L s.heap (LED w.params x dx ns a1 a2 a3 a4 a5 a6 t1 t2 t3 t4 t5 t6 cur c l lb bra ket tail rest)) (h : Q (.ref 140, [.ref x]) s) :
    wpAny (MD w) A (getMethod (.ref x) "find_among_b" pl) Q E s := by
  have e1 : findIn (Kf w.params) (.ref 494) "find_among_b" = some (some (.ref 140)) := by kernel_rfl!
  have e2 : isFn (Kf w.params) (.ref 140) = true := by kernel_rfl!
  have e3 : getL "find_among_b" (sD w.params a1 a2 a3 a4 a5 a6 t1 t2 t3 t4 t5 t6 cur c l lb bra ket tail) = some none := by
    rcases hl with rfl | ⟨a7, p1, t7, rfl⟩ <;> kernel_rfl!
  exact method_inst F X (InstAt.of_news N (.head _) (.tail _ (.head _))) (pg_all _ _) e1 e2 e3 h

theorem m_replace_s {pl : Sem Bool} {Q : Value × List Value → Shared → Prop} (hl : tail = [] ∨ ∃ a7 p1 t7, tail = ip w.params a7 p1 t7) (F : Fr h₀ L s.heap m) (X : (Kf w.params).In h₀) (N : News h₀ L s.heap (LED w.params x dx ns a1 a2 a3 a4 a5 a6 t1 t2 t3 t4 t5 t6 cur c l lb bra ket tail rest)) (h : Q (.ref 147, [.ref x]) s) :
    wpAny (MD w) A (getMethod (.ref x) "replace_s" pl) Q E s := by
  have e1 : findIn (Kf w.params) (.ref 494) "replace_s" = some (some (.ref 147)) := by kernel_rfl!
  have e2 : isFn (Kf w.params) (.ref 147) = true := by kernel_rfl!
  have e3 : getL "replace_s" (sD w.params a1 a2 a3 a4 a5 a6 t1 t2 t3 t4 t5 t6 cur c l lb bra ket tail) = some none := by
    rcases hl with rfl | ⟨a7, p1, t7, rfl⟩ <;> kernel_rfl!
  exact method_inst F X (InstAt.of_news N (.head _) (.tail _ (.head _))) (pg_all _ _) e1 e2 e3 h

theorem m_slice_from {pl : Sem Bool} {Q : Value × List Value → Shared → Prop} (hl : tail = [] ∨ ∃ a7 p1 t7, tail = ip w.params a7 p1 t7) (F : Fr h₀ L s.heap m) (X : (Kf w.params).In h₀) (N : News h₀ L s.heap (LED w.params x dx ns a1 a2 a3 a4 a5 a6 t1 t2 t3 t4 t5 t6 cur c l lb bra ket tail rest)) (h : Q (.ref 154, [.ref x]) s) :
    wpAny (MD w) A (getMethod (.ref x) "slice_from" pl) Q E s := by
  have e1 : findIn (Kf w.params) (.ref 494) "slice_from" = some (some (.ref 154)) := by kernel_rfl!
  have e2 : isFn (Kf w.params) (.ref 154) = true := by kernel_rfl!
  have e3 : getL "slice_from" (sD w.params a1 a2 a3 a4 a5 a6 t1 t2 t3 t4 t5 t6 cur c l lb bra ket tail) = some none := by
    rcases hl with rfl | ⟨a7, p1, t7, rfl⟩ <;> kernel_rfl!
  exact method_inst F X (InstAt.of_news N (.head _) (.tail _ (.head _))) (pg_all _ _) e1 e2 e3 h

theorem m_slice_del {pl : Sem Bool} {Q : Value × List Value → Shared → Prop} (hl : tail = [] ∨ ∃ a7 p1 t7, tail = ip w.params a7 p1 t7) (F : Fr h₀ L s.heap m) (X : (Kf w.params).In h₀) (N : News h₀ L s.heap (LED w.params x dx ns a1 a2 a3 a4 a5 a6 t1 t2 t3 t4 t5 t6 cur c l lb bra ket tail rest)) (h : Q (.ref 161, [.ref x]) s) :
    wpAny (MD w) A (getMethod (.ref x) "slice_del" pl) Q E s := by
  have e1 : findIn (Kf w.params) (.ref 494) "slice_del" = some (some (.ref 161)) := by kernel_rfl!
  have e2 : isFn (Kf w.params) (.ref 161) = true := by kernel_rfl!
  have e3 : getL "slice_del" (sD w.params a1 a2 a3 a4 a5 a6 t1 t2 t3 t4 t5 t6 cur c l lb bra ket tail) = some none := by
    rcases hl with rfl | ⟨a7, p1, t7, rfl⟩ <;> kernel_rfl!
  exact method_inst F X (InstAt.of_news N (.head _) (.tail _ (.head _))) (pg_all _ _) e1 e2 e3 h

theorem m_stemWord {pl : Sem Bool} {Q : Value × List Value → Shared → Prop} (hl : tail = [] ∨ ∃ a7 p1 t7, tail = ip w.params a7 p1 t7) (F : Fr h₀ L s.heap m) (X : (Kf w.params).In h₀) (N : News h₀ L s.heap (LED w.params x dx ns a1 a2 a3 a4 a5 a6 t1 t2 t3 t4 t5 t6 cur c l lb bra ket tail rest)) (h : Q (.ref 189, [.ref x]) s) :
    wpAny (MD w) A (getMethod (.ref x) "stemWord" pl) Q E s := by
  have e1 : findIn (Kf w.params) (.ref 494) "stemWord" = some (some (.ref 189)) := by kernel_rfl!
  have e2 : isFn (Kf w.params) (.ref 189) = true := by kernel_rfl!
  have e3 : getL "stemWord" (sD w.params a1 a2 a3 a4 a5 a6 t1 t2 t3 t4 t5 t6 cur c l lb bra ket tail) = some none := by
    rcases hl with rfl | ⟨a7, p1, t7, rfl⟩ <;> kernel_rfl!
  exact method_inst F X (InstAt.of_news N (.head _) (.tail _ (.head _))) (pg_all _ _) e1 e2 e3 h

theorem m_stemWords {pl : Sem Bool} {Q : Value × List Value → Shared → Prop} (hl : tail = [] ∨ ∃ a7 p1 t7, tail = ip w.params a7 p1 t7) (F : Fr h₀ L s.heap m) (X : (Kf w.params).In h₀) (N : News h₀ L s.heap (LED w.params x dx ns a1 a2 a3 a4 a5 a6 t1 t2 t3 t4 t5 t6 cur c l lb bra ket tail rest)) (h : Q (.ref 194, [.ref x]) s) :
    wpAny (MD w) A (getMethod (.ref x) "stemWords" pl) Q E s := by
  have e1 : findIn (Kf w.params) (.ref 494) "stemWords" = some (some (.ref 194)) := by kernel_rfl!
  have e2 : isFn (Kf w.params) (.ref 194) = true := by kernel_rfl!
  have e3 : getL "stemWords" (sD w.params a1 a2 a3 a4 a5 a6 t1 t2 t3 t4 t5 t6 cur c l lb bra ket tail) = some none := by
    rcases hl with rfl | ⟨a7, p1, t7, rfl⟩ <;> kernel_rfl!
  exact method_inst F X (InstAt.of_news N (.head _) (.tail _ (.head _))) (pg_all _ _) e1 e2 e3 h

theorem m_r_mark_regions {pl : Sem Bool} {Q : Value × List Value → Shared → Prop} (hl : tail = [] ∨ ∃ a7 p1 t7, tail = ip w.params a7 p1 t7) (F : Fr h₀ L s.heap m) (X : (Kf w.params).In h₀) (N : News h₀ L s.heap (LED w.params x dx ns a1 a2 a3 a4 a5 a6 t1 t2 t3 t4 t5 t6 cur c l lb bra ket tail rest)) (h : Q (.ref 239, [.ref x]) s) :
    wpAny (MD w) A (getMethod (.ref x) "r_mark_regions" pl) Q E s := by
  have e1 : findIn (Kf w.params) (.ref 494) "r_mark_regions" = some (some (.ref 239)) := by kernel_rfl!
  have e2 : isFn (Kf w.params) (.ref 239) = true := by kernel_rfl!
  have e3 : getL "r_mark_regions" (sD w.params a1 a2 a3 a4 a5 a6 t1 t2 t3 t4 t5 t6 cur c l lb bra ket tail) = some none := by
    rcases hl with rfl | ⟨a7, p1, t7, rfl⟩ <;> kernel_rfl!
  exact method_inst F X (InstAt.of_news N (.head _) (.tail _ (.head _))) (pg_all _ _) e1 e2 e3 h

theorem m_r_et_condition {pl : Sem Bool} {Q : Value × List Value → Shared → Prop} (hl : tail = [] ∨ ∃ a7 p1 t7, tail = ip w.params a7 p1 t7) (F : Fr h₀ L s.heap m) (X : (Kf w.params).In h₀) (N : News h₀ L s.heap (LED w.params x dx ns a1 a2 a3 a4 a5 a6 t1 t2 t3 t4 t5 t6 cur c l lb bra ket tail rest)) (h : Q (.ref 246, [.ref x]) s) :
    wpAny (MD w) A (getMethod (.ref x) "r_et_condition" pl) Q E s := by
  have e1 : findIn (Kf w.params) (.ref 494) "r_et_condition" = some (some (.ref 246)) := by kernel_rfl!
  have e2 : isFn (Kf w.params) (.ref 246) = true := by kernel_rfl!
  have e3 : getL "r_et_condition" (sD w.params a1 a2 a3 a4 a5 a6 t1 t2 t3 t4 t5 t6 cur c l lb bra ket tail) = some none := by
    rcases hl with rfl | ⟨a7, p1, t7, rfl⟩ <;> kernel_rfl!
  exact method_inst F X (InstAt.of_news N (.head _) (.tail _ (.head _))) (pg_all _ _) e1 e2 e3 h

theorem m_r_main_suffix {pl : Sem Bool} {Q : Value × List Value → Shared → Prop} (hl : tail = [] ∨ ∃ a7 p1 t7, tail = ip w.params a7 p1 t7) (F : Fr h₀ L s.heap m) (X : (Kf w.params).In h₀) (N : News h₀ L s.heap (LED w.params x dx ns a1 a2 a3 a4 a5 a6 t1 t2 t3 t4 t5 t6 cur c l lb bra ket tail rest)) (h : Q (.ref 253, [.ref x]) s) :
    wpAny (MD w) A (getMethod (.ref x) "r_main_suffix" pl) Q E s := by
  have e1 : findIn (Kf w.params) (.ref 494) "r_main_suffix" = some (some (.ref 253)) := by kernel_rfl!
  have e2 : isFn (Kf w.params) (.ref 253) = true := by kernel_rfl!
  have e3 : getL "r_main_suffix" (sD w.params a1 a2 a3 a4 a5 a6 t1 t2 t3 t4 t5 t6 cur c l lb bra ket tail) = some none := by
    rcases hl with rfl | ⟨a7, p1, t7, rfl⟩ <;> kernel_rfl!
  exact method_inst F X (InstAt.of_news N (.head _) (.tail _ (.head _))) (pg_all _ _) e1 e2 e3 h

theorem m_r_consonant_pair {pl : Sem Bool} {Q : Value × List Value → Shared → Prop} (hl : tail = [] ∨ ∃ a7 p1 t7, tail = ip w.params a7 p1 t7) (F : Fr h₀ L s.heap m) (X : (Kf w.params).In h₀) (N : News h₀ L s.heap (LED w.params x dx ns a1 a2 a3 a4 a5 a6 t1 t2 t3 t4 t5 t6 cur c l lb bra ket tail rest)) (h : Q (.ref 260, [.ref x]) s) :
    wpAny (MD w) A (getMethod (.ref x) "r_consonant_pair" pl) Q E s := by
  have e1 : findIn (Kf w.params) (.ref 494) "r_consonant_pair" = some (some (.ref 260)) := by kernel_rfl!
  have e2 : isFn (Kf w.params) (.ref 260) = true := by kernel_rfl!
  have e3 : getL "r_consonant_pair" (sD w.params a1 a2 a3 a4 a5 a6 t1 t2 t3 t4 t5 t6 cur c l lb bra ket tail) = some none := by
    rcases hl with rfl | ⟨a7, p1, t7, rfl⟩ <;> kernel_rfl!
  exact method_inst F X (InstAt.of_news N (.head _) (.tail _ (.head _))) (pg_all _ _) e1 e2 e3 h

theorem m_r_other_suffix {pl : Sem Bool} {Q : Value × List Value → Shared → Prop} (hl : tail = [] ∨ ∃ a7 p1 t7, tail = ip w.params a7 p1 t7) (F : Fr h₀ L s.heap m) (X : (Kf w.params).In h₀) (N : News h₀ L s.heap (LED w.params x dx ns a1 a2 a3 a4 a5 a6 t1 t2 t3 t4 t5 t6 cur c l lb bra ket tail rest)) (h : Q (.ref 267, [.ref x]) s) :
    wpAny (MD w) A (getMethod (.ref x) "r_other_suffix" pl) Q E s := by
  have e1 : findIn (Kf w.params) (.ref 494) "r_other_suffix" = some (some (.ref 267)) := by kernel_rfl!
  have e2 : isFn (Kf w.params) (.ref 267) = true := by kernel_rfl!
  have e3 : getL "r_other_suffix" (sD w.params a1 a2 a3 a4 a5 a6 t1 t2 t3 t4 t5 t6 cur c l lb bra ket tail) = some none := by
    rcases hl with rfl | ⟨a7, p1, t7, rfl⟩ <;> kernel_rfl!
  exact method_inst F X (InstAt.of_news N (.head _) (.tail _ (.head _))) (pg_all _ _) e1 e2 e3 h

theorem m_stem {pl : Sem Bool} {Q : Value × List Value → Shared → Prop} (hl : tail = [] ∨ ∃ a7 p1 t7, tail = ip w.params a7 p1 t7) (F : Fr h₀ L s.heap m) (X : (Kf w.params).In h₀) (N : News h₀ L s.heap (LED w.params x dx ns a1 a2 a3 a4 a5 a6 t1 t2 t3 t4 t5 t6 cur c l lb bra ket tail rest)) (h : Q (.ref 274, [.ref x]) s) :
    wpAny (MD w) A (getMethod (.ref x) "_stem" pl) Q E s := by
  have e1 : findIn (Kf w.params) (.ref 494) "_stem" = some (some (.ref 274)) := by kernel_rfl!
  have e2 : isFn (Kf w.params) (.ref 274) = true := by kernel_rfl!
  have e3 : getL "_stem" (sD w.params a1 a2 a3 a4 a5 a6 t1 t2 t3 t4 t5 t6 cur c l lb bra ket tail) = some none := by
    rcases hl with rfl | ⟨a7, p1, t7, rfl⟩ <;> kernel_rfl!
  exact method_inst F X (InstAt.of_news N (.head _) (.tail _ (.head _))) (pg_all _ _) e1 e2 e3 h

theorem cls_g_v {expr : Bool} {f : Nat → Bool} {Q : Value → Shared → Prop} (F : Fr h₀ L s.heap m) (X : (Kf w.params).In h₀) (S : SetHas w h₀ 230 f) (h : Q (.ref 230) { s with toks := s.toks + 1 }) :
    wpAny (MD w) A (getAttr (.ref 494) "g_v" expr) Q E s := by
  obtain ⟨_, _, ⟨⟨oc, od, odt, osl⟩, es, ep, t, ho, ⟨e1, e2, e3⟩, e4, _⟩, _⟩ := S
  dsimp only at e1 e2 e3 e4
  subst e1; subst e2; subst e3; subst e4
  have X' : Frag.In ((230, ⟨.type "set", none, .set es ep t, #[]⟩) :: Kf w.params) h₀ := fun a o e => by
    unfold List.lookup at e
    split at e
    · rename_i q; cases e; rw [beq_iff_eq.mp q]; exact ho
    · exact X a o e
  exact cls_val F X' (mc := .type "type") (by kernel_rfl!) (by kernel_rfl!) (a := .ref 230) (by kernel_rfl!) (by kernel_rfl!) h

theorem cls_g_s_ending {expr : Bool} {f : Nat → Bool} {Q : Value → Shared → Prop} (F : Fr h₀ L s.heap m) (X : (Kf w.params).In h₀) (S : SetHas w h₀ 231 f) (h : Q (.ref 231) { s with toks := s.toks + 1 }) :
    wpAny (MD w) A (getAttr (.ref 494) "g_s_ending" expr) Q E s := by
  obtain ⟨_, _, ⟨⟨oc, od, odt, osl⟩, es, ep, t, ho, ⟨e1, e2, e3⟩, e4, _⟩, _⟩ := S
  dsimp only at e1 e2 e3 e4
  subst e1; subst e2; subst e3; subst e4
  have X' : Frag.In ((231, ⟨.type "set", none, .set es ep t, #[]⟩) :: Kf w.params) h₀ := fun a o e => by
    unfold List.lookup at e
    split at e
    · rename_i q; cases e; rw [beq_iff_eq.mp q]; exact ho
    · exact X a o e
  exact cls_val F X' (mc := .type "type") (by kernel_rfl!) (by kernel_rfl!) (a := .ref 231) (by kernel_rfl!) (by kernel_rfl!) h

theorem cls_g_ost_ending {expr : Bool} {f : Nat → Bool} {Q : Value → Shared → Prop} (F : Fr h₀ L s.heap m) (X : (Kf w.params).In h₀) (S : SetHas w h₀ 232 f) (h : Q (.ref 232) { s with toks := s.toks + 1 }) :
    wpAny (MD w) A (getAttr (.ref 494) "g_ost_ending" expr) Q E s := by
  obtain ⟨_, _, ⟨⟨oc, od, odt, osl⟩, es, ep, t, ho, ⟨e1, e2, e3⟩, e4, _⟩, _⟩ := S
  dsimp only at e1 e2 e3 e4
  subst e1; subst e2; subst e3; subst e4
  have X' : Frag.In ((232, ⟨.type "set", none, .set es ep t, #[]⟩) :: Kf w.params) h₀ := fun a o e => by
    unfold List.lookup at e
    split at e
    · rename_i q; cases e; rw [beq_iff_eq.mp q]; exact ho
    · exact X a o e
  exact cls_val F X' (mc := .type "type") (by kernel_rfl!) (by kernel_rfl!) (a := .ref 232) (by kernel_rfl!) (by kernel_rfl!) h

end
end PartW1
section PartW2
open PySem PySem.W PyProof.Rows PySem.Calls
/-- a state of the stemmer -/
structure St where
  cur : Str
  c : Int
  l : Int
  lb : Int
  bra : Int
  ket : Int
  p1 : Int
/-- a method of the stemmer: from state σ, with the arguments, to a value and a state -/
noncomputable def Meth (w : World) (f : Addr) (args : List Value) (need : Nat) (pre : Heap → Prop) (σ : St) (post : Value → St → Prop) : Prop :=
  ∀ (loose : List Str) (mean : ExcName → Option Value) (mg mb : Str → Option Value) (p0 : Program)
    (dp un : Nat) (gd : Option (List Code)) (cn : Str) (cs : Scope) (a : Addr) (ccd : Value) (cl : List (Str × Addr)) (outer : List Env) (A₀ : Around) (base h₀ : Heap) (L : Addr) (m : Str → Option Value) (s : Shared) (Q E : Value → Shared → Prop)
    (x dx : Addr) (ns : Nat) (rest : List (Addr × Obj)) (a1 a2 a3 a4 a5 a6 a7 t1 t2 t3 t4 t5 t6 t7 : Tok),
    Below A₀ base outer h₀ → Fr h₀ L s.heap m → (Kf w.params).In h₀ → News h₀ L s.heap (LED w.params x dx ns a1 a2 a3 a4 a5 a6 t1 t2 t3 t4 t5 t6 σ.cur σ.c σ.l σ.lb σ.bra σ.ket (ip w.params a7 σ.p1 t7) rest) → Top p0 loose mean mg mb h₀ → cs.kind = .function →
    dp + need < recursionLimit → un + 8 * need < cLine → x ≠ dx → (∀ p ∈ rest, p.1 ≠ dx) → pre h₀ →
    (∀ v σ' h' tk' ns' t1' t2' t3' t4' t5' t6' t7', post v σ' → Fr h₀ L h' m → News h₀ L h' (LED w.params x dx ns' a1 a2 a3 a4 a5 a6 t1' t2' t3' t4' t5' t6' σ'.cur σ'.c σ'.l σ'.lb σ'.bra σ'.ket (ip w.params a7 σ'.p1 t7') rest) → Q v { s with heap := h', toks := tk' }) →
    wpAny (MD w) (ktrTop dp un gd cn cs L a ccd cl outer) (call (.ref f) (.ref x :: args)) Q E s
theorem Meth.mono {w : World} {f : Addr} {args : List Value} {need : Nat} {pre : Heap → Prop} {σ : St} {post post' : Value → St → Prop} (M : Meth w f args need pre σ post) (h : ∀ v σ', post v σ' → post' v σ') : Meth w f args need pre σ post' := by
  intro loose mean mg mb p0 dp un gd cn cs a ccd cl outer A₀ base h₀ L m s Q E x dx ns rest a1 a2 a3 a4 a5 a6 a7 t1 t2 t3 t4 t5 t6 t7 B F X N T hk hd hu hx hr hp H
  exact M loose mean mg mb p0 dp un gd cn cs a ccd cl outer A₀ base h₀ L m s Q E x dx ns rest a1 a2 a3 a4 a5 a6 a7 t1 t2 t3 t4 t5 t6 t7 B F X N T hk hd hu hx hr hp (fun v σ' h' tk' ns' t1' t2' t3' t4' t5' t6' t7' q F N => H v σ' h' tk' ns' t1' t2' t3' t4' t5' t6' t7' (h v σ' q) F N)
theorem in_grouping_b_spec {w : World} {g : Addr} {f : Nat → Bool} (σ : St) (h1 : 0 ≤ σ.lb) (h2 : σ.c ≤ (σ.cur.length : Int)) (h3 : σ.cur.length < 100) :
    Meth w 77 [.ref g] 1 (fun h => SetHas w h g f) σ (fun v σ' => (σ.lb < σ.c ∧ f (σ.cur.cps.toList.getD (σ.c - 1).toNat 0) = true ∧ v = .bool true ∧ σ' = { σ with c := σ.c - 1 }) ∨ (¬ (σ.lb < σ.c ∧ f (σ.cur.cps.toList.getD (σ.c - 1).toNat 0) = true) ∧ v = .bool false ∧ σ' = σ)) := by
  unfold Meth MD
  k_fill
  intro loose mean mg mb p0 dp un gd cn cs a ccd cl outer A₀ base h₀ L m s Q E x dx ns rest a1 a2 a3 a4 a5 a6 a7 t1 t2 t3 t4 t5 t6 t7 B F X N T hk hd hu hx hrest hpre hret
  obtain ⟨cur, c, l, lb, bra, ket, p1⟩ := σ
  simp only at *
  refine wpAny_call ?_
  k_dflt (refine' code_def (binds := [("self", .ref x), ("s", .ref g)]) ?k1 ?k2 ?k3 ?k4 ?k5 ?kA ?kF ?kK ?k6 ?k7 ?k8 ?k9 ?kB ?_ ?c2 ?c3 ?c4 ?c5; (case kA | kF => exact rfl); (case kK => assumption); (case k1 | k2 | k3 | k4 | k5 => k_asm); (case k6 | k7 => k_is); (case k8 => ktr_room); (case k9 => exact BindsTo.of_eq rfl); (case c5 => decide); (case kB => exact locs rfl); (case c2 | c3 | c4 => exact rfl))
  intro g' L' h' FG' F' N' B' X' T'
  have hpre' := hpre.keeps FG'.keep
  ((conv in (execs _ _) => arg 1; whnf); (try dsimp only); (show wpAny _ _ (execs _ _) _ _ _); k_fold)
  (repeat' (first | (k_unfold; (try dsimp only)) | (k_end; wrow_close) | with_reducible ((with_reducible show wpAny _ _ (compareOp CmpOp.NotIn (Value.str _ _) (Value.ref _)) _ _ _); (refine' notin_set ?k1 ?k2 ?_; (case k1 => k_asm); (case k2 => first | assumption | exact SetHas.keeps (by assumption) (by assumption)); k_whole; (try dsimp only))) | with_reducible ((with_reducible show wpAny _ _ (setAttr (Value.ref _) _ _) _ _ _); ((first | with_reducible refine' set_cur ?k0 ?kx ?kr ?k1 ?k2 ?k3 ?_ | with_reducible refine' set_c ?k0 ?kx ?kr ?k1 ?k2 ?k3 ?_ | with_reducible refine' set_l ?k0 ?kx ?kr ?k1 ?k2 ?k3 ?_ | with_reducible refine' set_lb ?k0 ?kx ?kr ?k1 ?k2 ?k3 ?_ | with_reducible refine' set_bra ?k0 ?kx ?kr ?k1 ?k2 ?k3 ?_ | with_reducible refine' set_ket ?k0 ?kx ?kr ?k1 ?k2 ?k3 ?_); (case k1 | k2 | k3 => k_asm); (case kx | kr => assumption); (case k0 => exact Nat.le_of_ble_eq_true rfl); k_whole; intro h'q F'q N'q; (try k_sweep); (try dsimp only))) | with_reducible ((with_reducible show wpAny _ _ (getAttr (Value.ref _) _ _) _ _ _); ((first | with_reducible refine' get_cur ?k1 ?k2 ?k3 ?_ | with_reducible refine' get_c ?k1 ?k2 ?k3 ?_ | with_reducible refine' get_l ?k1 ?k2 ?k3 ?_ | with_reducible refine' get_lb ?k1 ?k2 ?k3 ?_ | with_reducible refine' get_bra ?k1 ?k2 ?k3 ?_ | with_reducible refine' get_ket ?k1 ?k2 ?k3 ?_ | with_reducible refine' get_p1 ?k1 ?k2 ?k3 ?_); (case k1 | k2 | k3 => k_asm); k_whole; (try dsimp only))) | walk1 | (dsimp only; walk1) | (leave1; try dsimp only) | fail))
  all_goals (refine hret _ ⟨_, _, _, _, _, _, _⟩ _ _ _ _ _ _ _ _ _ _ ?_ (by assumption) (by assumption))
  all_goals first
    | exact .inl ⟨by omega, by rw [← charAt_of (by omega) (by omega)]; assumption, rfl, rfl⟩
    | exact .inr ⟨fun q => by omega, rfl, rfl⟩
    | exact .inr ⟨fun q => by have q2 := q.2; rw [← charAt_of (by omega) (by omega)] at q2; simp_all, rfl, rfl⟩
inductive InP (f : Nat → Bool) (σ : St) : Value → St → Prop
  | yes (l : σ.lb < σ.c) (h : f (σ.cur.cps.toList.getD (σ.c - 1).toNat 0) = true) : InP f σ (.bool true) { σ with c := σ.c - 1 }
  | no (h : ¬ (σ.lb < σ.c ∧ f (σ.cur.cps.toList.getD (σ.c - 1).toNat 0) = true)) : InP f σ (.bool false) σ
theorem in_grouping_p {w : World} {g : Addr} {f : Nat → Bool} (σ : St) (h1 : 0 ≤ σ.lb) (h2 : σ.c ≤ (σ.cur.length : Int)) (h3 : σ.cur.length < 100) : Meth w 77 [.ref g] 1 (fun h => SetHas w h g f) σ (InP f σ) :=
  (in_grouping_b_spec σ h1 h2 h3).mono fun _ _ q => by
    rcases q with ⟨l, h, rfl, rfl⟩ | ⟨h, rfl, rfl⟩
    · exact .yes l h
    · exact .no h
theorem out_grouping_b_spec {w : World} {g : Addr} {f : Nat → Bool} (σ : St) (h1 : 0 ≤ σ.lb) (h2 : σ.c ≤ (σ.cur.length : Int)) (h3 : σ.cur.length < 100) :
    Meth w 105 [.ref g] 1 (fun h => SetHas w h g f) σ (fun v σ' => (σ.lb < σ.c ∧ f (σ.cur.cps.toList.getD (σ.c - 1).toNat 0) = false ∧ v = .bool true ∧ σ' = { σ with c := σ.c - 1 }) ∨ (¬ (σ.lb < σ.c ∧ f (σ.cur.cps.toList.getD (σ.c - 1).toNat 0) = false) ∧ v = .bool false ∧ σ' = σ)) := by
  unfold Meth MD
  k_fill
  intro loose mean mg mb p0 dp un gd cn cs a ccd cl outer A₀ base h₀ L m s Q E x dx ns rest a1 a2 a3 a4 a5 a6 a7 t1 t2 t3 t4 t5 t6 t7 B F X N T hk hd hu hx hrest hpre hret
  obtain ⟨cur, c, l, lb, bra, ket, p1⟩ := σ
  simp only at *
  refine wpAny_call ?_
  k_dflt (refine' code_def (binds := [("self", .ref x), ("s", .ref g)]) ?k1 ?k2 ?k3 ?k4 ?k5 ?kA ?kF ?kK ?k6 ?k7 ?k8 ?k9 ?kB ?_ ?c2 ?c3 ?c4 ?c5; (case kA | kF => exact rfl); (case kK => assumption); (case k1 | k2 | k3 | k4 | k5 => k_asm); (case k6 | k7 => k_is); (case k8 => ktr_room); (case k9 => exact BindsTo.of_eq rfl); (case c5 => decide); (case kB => exact locs rfl); (case c2 | c3 | c4 => exact rfl))
  intro g' L' h' FG' F' N' B' X' T'
  have hpre' := hpre.keeps FG'.keep
  ((conv in (execs _ _) => arg 1; whnf); (try dsimp only); (show wpAny _ _ (execs _ _) _ _ _); k_fold)
  (repeat' (first | (k_unfold; (try dsimp only)) | (k_end; wrow_close) | with_reducible ((with_reducible show wpAny _ _ (compareOp CmpOp.NotIn (Value.str _ _) (Value.ref _)) _ _ _); (refine' notin_set ?k1 ?k2 ?_; (case k1 => k_asm); (case k2 => first | assumption | exact SetHas.keeps (by assumption) (by assumption)); k_whole; (try dsimp only))) | with_reducible ((with_reducible show wpAny _ _ (setAttr (Value.ref _) _ _) _ _ _); ((first | with_reducible refine' set_cur ?k0 ?kx ?kr ?k1 ?k2 ?k3 ?_ | with_reducible refine' set_c ?k0 ?kx ?kr ?k1 ?k2 ?k3 ?_ | with_reducible refine' set_l ?k0 ?kx ?kr ?k1 ?k2 ?k3 ?_ | with_reducible refine' set_lb ?k0 ?kx ?kr ?k1 ?k2 ?k3 ?_ | with_reducible refine' set_bra ?k0 ?kx ?kr ?k1 ?k2 ?k3 ?_ | with_reducible refine' set_ket ?k0 ?kx ?kr ?k1 ?k2 ?k3 ?_); (case k1 | k2 | k3 => k_asm); (case kx | kr => assumption); (case k0 => exact Nat.le_of_ble_eq_true rfl); k_whole; intro h'q F'q N'q; (try k_sweep); (try dsimp only))) | with_reducible ((with_reducible show wpAny _ _ (getAttr (Value.ref _) _ _) _ _ _); ((first | with_reducible refine' get_cur ?k1 ?k2 ?k3 ?_ | with_reducible refine' get_c ?k1 ?k2 ?k3 ?_ | with_reducible refine' get_l ?k1 ?k2 ?k3 ?_ | with_reducible refine' get_lb ?k1 ?k2 ?k3 ?_ | with_reducible refine' get_bra ?k1 ?k2 ?k3 ?_ | with_reducible refine' get_ket ?k1 ?k2 ?k3 ?_ | with_reducible refine' get_p1 ?k1 ?k2 ?k3 ?_); (case k1 | k2 | k3 => k_asm); k_whole; (try dsimp only))) | walk1 | (dsimp only; walk1) | (leave1; try dsimp only) | fail))
  all_goals (refine hret _ ⟨_, _, _, _, _, _, _⟩ _ _ _ _ _ _ _ _ _ _ ?_ (by assumption) (by assumption))
  all_goals first
    | exact .inl ⟨by omega, by rw [← charAt_of (by omega) (by omega)]; assumption, rfl, rfl⟩
    | exact .inr ⟨fun q => by omega, rfl, rfl⟩
    | exact .inr ⟨fun q => by have q2 := q.2; rw [← charAt_of (by omega) (by omega)] at q2; simp_all, rfl, rfl⟩
end PartW2
section PartW3
open PySem PySem.W PyProof.Rows PySem.Calls
theorem eq_s_b_spec {w : World} {ss : Str} {ta : Tok} (σ : St) (h0 : 0 ≤ σ.c) (h1 : 0 ≤ σ.lb) (h2 : σ.c ≤ (σ.cur.length : Int)) (h3 : σ.cur.length < 100) (h4 : σ.lb < 100) (h5 : ss.length < 100) :
    Meth w 126 [.str ss ta] 1 (fun h => True) σ (fun v σ' => (Txt.endswith (Txt.slice σ.cur (some σ.lb) (some σ.c)) ss = true ∧ v = .bool true ∧ σ' = { σ with c := σ.c - ss.length }) ∨ (Txt.endswith (Txt.slice σ.cur (some σ.lb) (some σ.c)) ss = false ∧ v = .bool false ∧ σ' = σ)) := by
  unfold Meth MD
  k_fill
  intro loose mean mg mb p0 dp un gd cn cs a ccd cl outer A₀ base h₀ L m s Q E x dx ns rest a1 a2 a3 a4 a5 a6 a7 t1 t2 t3 t4 t5 t6 t7 B F X N T hk hd hu hx hrest hpre hret
  obtain ⟨cur, c, l, lb, bra, ket, p1⟩ := σ
  simp only at *
  refine wpAny_call ?_
  k_dflt (refine' code_def (binds := [("self", .ref x), ("s", .str ss ta)]) ?k1 ?k2 ?k3 ?k4 ?k5 ?kA ?kF ?kK ?k6 ?k7 ?k8 ?k9 ?kB ?_ ?c2 ?c3 ?c4 ?c5; (case kA | kF => exact rfl); (case kK => assumption); (case k1 | k2 | k3 | k4 | k5 => k_asm); (case k6 | k7 => k_is); (case k8 => ktr_room); (case k9 => exact BindsTo.of_eq rfl); (case c5 => decide); (case kB => exact locs rfl); (case c2 | c3 | c4 => exact rfl))
  intro g' L' h' FG' F' N' B' X' T'
  ((conv in (execs _ _) => arg 1; whnf); (try dsimp only); (show wpAny _ _ (execs _ _) _ _ _); k_fold)
  (repeat' (first | (k_unfold; (try dsimp only)) | (k_end; wrow_close) | with_reducible ((with_reducible show wpAny _ _ (setAttr (Value.ref _) _ _) _ _ _); ((first | with_reducible refine' set_cur ?k0 ?kx ?kr ?k1 ?k2 ?k3 ?_ | with_reducible refine' set_c ?k0 ?kx ?kr ?k1 ?k2 ?k3 ?_ | with_reducible refine' set_l ?k0 ?kx ?kr ?k1 ?k2 ?k3 ?_ | with_reducible refine' set_lb ?k0 ?kx ?kr ?k1 ?k2 ?k3 ?_ | with_reducible refine' set_bra ?k0 ?kx ?kr ?k1 ?k2 ?k3 ?_ | with_reducible refine' set_ket ?k0 ?kx ?kr ?k1 ?k2 ?k3 ?_); (case k1 | k2 | k3 => k_asm); (case kx | kr => assumption); (case k0 => exact Nat.le_of_ble_eq_true rfl); k_whole; intro h'q F'q N'q; (try k_sweep); (try dsimp only))) | with_reducible ((with_reducible show wpAny _ _ (getAttr (Value.ref _) _ _) _ _ _); ((first | with_reducible refine' get_cur ?k1 ?k2 ?k3 ?_ | with_reducible refine' get_c ?k1 ?k2 ?k3 ?_ | with_reducible refine' get_l ?k1 ?k2 ?k3 ?_ | with_reducible refine' get_lb ?k1 ?k2 ?k3 ?_ | with_reducible refine' get_bra ?k1 ?k2 ?k3 ?_ | with_reducible refine' get_ket ?k1 ?k2 ?k3 ?_ | with_reducible refine' get_p1 ?k1 ?k2 ?k3 ?_); (case k1 | k2 | k3 => k_asm); k_whole; (try dsimp only))) | walk1 | (dsimp only; walk1) | (leave1; try dsimp only) | fail))
  all_goals (refine hret _ ⟨_, _, _, _, _, _, _⟩ _ _ _ _ _ _ _ _ _ _ ?_ (by assumption) (by assumption))
  all_goals first
    | exact .inl ⟨by assumption, rfl, rfl⟩
    | exact .inr ⟨by simp_all, rfl, rfl⟩
theorem replace_s_spec {w : World} {ss : Str} {ta tb tk : Tok} {bb kk : Int} (σ : St) (h0 : 0 ≤ σ.c) (h1 : 0 ≤ bb) (h2 : bb ≤ kk) (h6 : kk ≤ (σ.cur.length : Int)) (h3 : σ.cur.length < 100) (h4 : σ.c < 100) (h7 : 0 ≤ σ.l) (h8 : σ.l < 100) (h5 : ss.length < 100) :
    Meth w 147 [.int bb tb, .int kk tk, .str ss ta] 1 (fun h => True) σ (fun v σ' => (∃ t, v = .int ((ss.length : Int) - (kk - bb)) t) ∧ σ' = { σ with cur := Txt.slice σ.cur (some 0) (some bb) ++ ss ++ Txt.slice σ.cur (some kk) none, l := σ.l + ((ss.length : Int) - (kk - bb)), c := if kk ≤ σ.c then σ.c + ((ss.length : Int) - (kk - bb)) else if bb < σ.c then bb else σ.c }) := by
  unfold Meth MD
  k_fill
  intro loose mean mg mb p0 dp un gd cn cs a ccd cl outer A₀ base h₀ L m s Q E x dx ns rest a1 a2 a3 a4 a5 a6 a7 t1 t2 t3 t4 t5 t6 t7 B F X N T hk hd hu hx hrest hpre hret
  obtain ⟨cur, c, l, lb, bra, ket, p1⟩ := σ
  simp only at *
  refine wpAny_call ?_
  k_dflt (refine' code_def (binds := [("self", .ref x), ("c_bra", .int bb tb), ("c_ket", .int kk tk), ("s", .str ss ta)]) ?k1 ?k2 ?k3 ?k4 ?k5 ?kA ?kF ?kK ?k6 ?k7 ?k8 ?k9 ?kB ?_ ?c2 ?c3 ?c4 ?c5; (case kA | kF => exact rfl); (case kK => assumption); (case k1 | k2 | k3 | k4 | k5 => k_asm); (case k6 | k7 => k_is); (case k8 => ktr_room); (case k9 => exact BindsTo.of_eq rfl); (case c5 => decide); (case kB => exact locs rfl); (case c2 | c3 | c4 => exact rfl))
  intro g' L' h' FG' F' N' B' X' T'
  ((conv in (execs _ _) => arg 1; whnf); (try dsimp only); (show wpAny _ _ (execs _ _) _ _ _); k_fold)
  (repeat' (first | (k_unfold; (try dsimp only)) | (k_end; wrow_close) | with_reducible ((with_reducible show wpAny _ _ (setAttr (Value.ref _) _ _) _ _ _); ((first | with_reducible refine' set_cur ?k0 ?kx ?kr ?k1 ?k2 ?k3 ?_ | with_reducible refine' set_c ?k0 ?kx ?kr ?k1 ?k2 ?k3 ?_ | with_reducible refine' set_l ?k0 ?kx ?kr ?k1 ?k2 ?k3 ?_ | with_reducible refine' set_lb ?k0 ?kx ?kr ?k1 ?k2 ?k3 ?_ | with_reducible refine' set_bra ?k0 ?kx ?kr ?k1 ?k2 ?k3 ?_ | with_reducible refine' set_ket ?k0 ?kx ?kr ?k1 ?k2 ?k3 ?_); (case k1 | k2 | k3 => k_asm); (case kx | kr => assumption); (case k0 => exact Nat.le_of_ble_eq_true rfl); k_whole; intro h'q F'q N'q; (try k_sweep); (try dsimp only))) | with_reducible ((with_reducible show wpAny _ _ (getAttr (Value.ref _) _ _) _ _ _); ((first | with_reducible refine' get_cur ?k1 ?k2 ?k3 ?_ | with_reducible refine' get_c ?k1 ?k2 ?k3 ?_ | with_reducible refine' get_l ?k1 ?k2 ?k3 ?_ | with_reducible refine' get_lb ?k1 ?k2 ?k3 ?_ | with_reducible refine' get_bra ?k1 ?k2 ?k3 ?_ | with_reducible refine' get_ket ?k1 ?k2 ?k3 ?_ | with_reducible refine' get_p1 ?k1 ?k2 ?k3 ?_); (case k1 | k2 | k3 => k_asm); k_whole; (try dsimp only))) | walk1 | (dsimp only; walk1) | (leave1; try dsimp only) | fail))
  all_goals (refine hret _ ⟨_, _, _, _, _, _, _⟩ _ _ _ _ _ _ _ _ _ _ ?_ (by assumption) (by assumption))
  all_goals (refine ⟨⟨_, rfl⟩, ?_⟩)
  all_goals first
    | rw [if_pos (by omega)]
    | rw [if_neg (by omega), if_pos (by omega)]
    | rw [if_neg (by omega), if_neg (by omega)]
end PartW3
section PartW4
open PySem PySem.W PyProof.Rows PySem.Calls
theorem Meth.use {w : World} {f : Addr} {args : List Value} {need : Nat} {pre : Heap → Prop} {σ : St} {post : Value → St → Prop} (M : Meth w f args need pre σ post)
    {loose : List Str} {mean : ExcName → Option Value} {mg mb : Str → Option Value} {p0 : Program}
    {dp un : Nat} {gd : Option (List Code)} {cn : Str} {cs : Scope} {a : Addr} {ccd : Value} {cl : List (Str × Addr)} {outer : List Env} {A₀ : Around} {base h₀ : Heap} {L : Addr} {m : Str → Option Value} {s : Shared} {Q E : Value → Shared → Prop}
    {x dx : Addr} {ns : Nat} {rest : List (Addr × Obj)} {a1 a2 a3 a4 a5 a6 a7 t1 t2 t3 t4 t5 t6 t7 : Tok}
    (B : Below A₀ base outer h₀) (F : Fr h₀ L s.heap m) (X : (Kf w.params).In h₀) (N : News h₀ L s.heap (LED w.params x dx ns a1 a2 a3 a4 a5 a6 t1 t2 t3 t4 t5 t6 σ.cur σ.c σ.l σ.lb σ.bra σ.ket (ip w.params a7 σ.p1 t7) rest)) (T : Top p0 loose mean mg mb h₀) (hk : cs.kind = .function)
    (hd : dp + need < recursionLimit) (hu : un + 8 * need < cLine) (hx : x ≠ dx) (hr : ∀ p ∈ rest, p.1 ≠ dx) (hp : pre h₀)
    (h : ∀ v σ' h' tk' ns' t1' t2' t3' t4' t5' t6' t7', post v σ' → Fr h₀ L h' m → News h₀ L h' (LED w.params x dx ns' a1 a2 a3 a4 a5 a6 t1' t2' t3' t4' t5' t6' σ'.cur σ'.c σ'.l σ'.lb σ'.bra σ'.ket (ip w.params a7 σ'.p1 t7') rest) → Q v { s with heap := h', toks := tk' }) :
    wpAny (MD w) (ktrTop dp un gd cn cs L a ccd cl outer) (call (.ref f) (.ref x :: args)) Q E s :=
  M _ _ _ _ _ _ _ _ _ _ _ _ _ _ _ _ _ _ _ _ _ _ _ _ _ _ _ _ _ _ _ _ _ _ _ _ _ _ _ _ B F X N T hk hd hu hx hr hp h
theorem slice_from_spec {w : World} {ss : Str} {ta : Tok} (σ : St) (h0 : 0 ≤ σ.c) (h1 : 0 ≤ σ.bra) (h2 : σ.bra ≤ σ.ket) (h6 : σ.ket = σ.l) (h3 : σ.cur.length < 100) (h4 : σ.c < 100) (h7 : σ.l = (σ.cur.length : Int)) (h5 : ss.length < 100) :
    Meth w 154 [.str ss ta] 2 (fun h => True) σ (fun v σ' => v = .none ∧ ∃ cur' c', σ' = { σ with cur := cur', l := σ.bra + ss.length, c := c', ket := σ.bra + ss.length } ∧ ls cur' = (ls σ.cur).take σ.bra.toNat ++ ls ss ∧ c' = if σ.l ≤ σ.c then σ.c + ((ss.length : Int) - (σ.l - σ.bra)) else if σ.bra < σ.c then σ.bra else σ.c) := by
  unfold Meth MD
  k_fill
  intro loose mean mg mb p0 dp un gd cn cs a ccd cl outer A₀ base h₀ L m s Q E x dx ns rest a1 a2 a3 a4 a5 a6 a7 t1 t2 t3 t4 t5 t6 t7 B F X N T hk hd hu hx hrest hpre hret
  obtain ⟨cur, c, l, lb, bra, ket, p1⟩ := σ
  simp only at *
  refine wpAny_call ?_
  k_dflt (refine' code_def (binds := [("self", .ref x), ("s", .str ss ta)]) ?k1 ?k2 ?k3 ?k4 ?k5 ?kA ?kF ?kK ?k6 ?k7 ?k8 ?k9 ?kB ?_ ?c2 ?c3 ?c4 ?c5; (case kA | kF => exact rfl); (case kK => assumption); (case k1 | k2 | k3 | k4 | k5 => k_asm); (case k6 | k7 => k_is); (case k8 => ktr_room); (case k9 => exact BindsTo.of_eq rfl); (case c5 => decide); (case kB => exact locs rfl); (case c2 | c3 | c4 => exact rfl))
  intro g' L' h' FG' F' N' B' X' T'
  ((conv in (execs _ _) => arg 1; whnf); (try dsimp only); (show wpAny _ _ (execs _ _) _ _ _); k_fold)
  (repeat' (first | (k_unfold; (try dsimp only)) | (k_end; wrow_close) | ((with_reducible show wpAny _ _ (call (Value.ref _) _ _) _ _ _); ((with_reducible show wpAny _ _ (call (Value.ref 147) _) _ _ _); k_dflt (refine' Meth.use (replace_s_spec ⟨_, _, _, _, _, _, _⟩ ?g0 ?g1 ?g2 ?g3 ?g4 ?g5 ?g6 ?g7 ?g8) ?kB ?kF ?kX ?kN ?kT ?kk ?kd ?ku ?kx ?kr ?kp ?_); (case kB | kF | kX | kN | kT => k_asm); (case kk => first | exact rfl | assumption); (case kd => ktr_room); (case ku => ktr_units); (case kx | kr => assumption); (case kp => first | exact trivial | assumption); (case g0 | g1 | g2 | g3 | g4 | g5 | g6 | g7 | g8 => ((try dsimp only); first | omega | assumption | exact rfl | decide +kernel)); intro v9q σ9 h9q tk9q ns9q b1q b2q b3q b4q b5q b6q b7q hp9q F9q N9q; rcases hp9q with ⟨⟨t9, e1⟩, e2⟩; all_goals ((try subst e1); (try subst e2); (try k_sweep); (try dsimp only at N9q ⊢)))) | with_reducible ((with_reducible show wpAny _ _ (setAttr (Value.ref _) _ _) _ _ _); ((first | with_reducible refine' set_cur ?k0 ?kx ?kr ?k1 ?k2 ?k3 ?_ | with_reducible refine' set_c ?k0 ?kx ?kr ?k1 ?k2 ?k3 ?_ | with_reducible refine' set_l ?k0 ?kx ?kr ?k1 ?k2 ?k3 ?_ | with_reducible refine' set_lb ?k0 ?kx ?kr ?k1 ?k2 ?k3 ?_ | with_reducible refine' set_bra ?k0 ?kx ?kr ?k1 ?k2 ?k3 ?_ | with_reducible refine' set_ket ?k0 ?kx ?kr ?k1 ?k2 ?k3 ?_); (case k1 | k2 | k3 => k_asm); (case kx | kr => assumption); (case k0 => exact Nat.le_of_ble_eq_true rfl); k_whole; intro h'q F'q N'q; (try k_sweep); (try dsimp only))) | with_reducible ((with_reducible show wpAny _ _ (getAttr (Value.ref _) _ _) _ _ _); ((first | with_reducible refine' get_cur ?k1 ?k2 ?k3 ?_ | with_reducible refine' get_c ?k1 ?k2 ?k3 ?_ | with_reducible refine' get_l ?k1 ?k2 ?k3 ?_ | with_reducible refine' get_lb ?k1 ?k2 ?k3 ?_ | with_reducible refine' get_bra ?k1 ?k2 ?k3 ?_ | with_reducible refine' get_ket ?k1 ?k2 ?k3 ?_ | with_reducible refine' get_p1 ?k1 ?k2 ?k3 ?_); (case k1 | k2 | k3 => k_asm); k_whole; (try dsimp only))) | walk1 | (dsimp only; walk1) | (leave1; try dsimp only) | fail))
  all_goals (refine hret _ ⟨_, _, _, _, _, _, _⟩ _ _ _ _ _ _ _ _ _ _ ?_ (by assumption) (by assumption))
  all_goals subst h6
  all_goals refine ⟨rfl, Txt.slice cur (some 0) (some bra) ++ ss ++ Txt.slice cur (some ket) none, _, ?_, ?_, rfl⟩
  case refine_1 =>
    congr 1
    all_goals omega
  case refine_2 =>
    rw [ls_app, ls_app, ls_slice (by omega) (by omega) (by omega), ls_from (by omega) (by omega)]
    have := ls_len cur
    rw [show ket.toNat = (ls cur).length by omega, List.drop_length]
    simp
theorem slice_del_spec {w : World}  (σ : St) (h0 : 0 ≤ σ.c) (h1 : 0 ≤ σ.bra) (h2 : σ.bra ≤ σ.ket) (h6 : σ.ket = σ.l) (h3 : σ.cur.length < 100) (h4 : σ.c < 100) (h7 : σ.l = (σ.cur.length : Int)) :
    Meth w 161 [] 3 (fun h => True) σ (fun v σ' => v = .none ∧ ∃ cur' c', σ' = { σ with cur := cur', l := σ.bra, c := c', ket := σ.bra } ∧ ls cur' = (ls σ.cur).take σ.bra.toNat ∧ c' = if σ.l ≤ σ.c then σ.c - (σ.l - σ.bra) else if σ.bra < σ.c then σ.bra else σ.c) := by
  unfold Meth MD
  k_fill
  intro loose mean mg mb p0 dp un gd cn cs a ccd cl outer A₀ base h₀ L m s Q E x dx ns rest a1 a2 a3 a4 a5 a6 a7 t1 t2 t3 t4 t5 t6 t7 B F X N T hk hd hu hx hrest hpre hret
  obtain ⟨cur, c, l, lb, bra, ket, p1⟩ := σ
  simp only at *
  refine wpAny_call ?_
  k_dflt (refine' code_def (binds := [("self", .ref x)]) ?k1 ?k2 ?k3 ?k4 ?k5 ?kA ?kF ?kK ?k6 ?k7 ?k8 ?k9 ?kB ?_ ?c2 ?c3 ?c4 ?c5; (case kA | kF => exact rfl); (case kK => assumption); (case k1 | k2 | k3 | k4 | k5 => k_asm); (case k6 | k7 => k_is); (case k8 => ktr_room); (case k9 => exact BindsTo.of_eq rfl); (case c5 => decide); (case kB => exact locs rfl); (case c2 | c3 | c4 => exact rfl))
  intro g' L' h' FG' F' N' B' X' T'
  ((conv in (execs _ _) => arg 1; whnf); (try dsimp only); (show wpAny _ _ (execs _ _) _ _ _); k_fold)
  (repeat' (first | (k_unfold; (try dsimp only)) | (k_end; wrow_close) | ((with_reducible show wpAny _ _ (call (Value.ref _) _ _) _ _ _); ((with_reducible show wpAny _ _ (call (Value.ref 154) _) _ _ _); k_dflt (refine' Meth.use (slice_from_spec ⟨_, _, _, _, _, _, _⟩ ?g0 ?g1 ?g2 ?g3 ?g4 ?g5 ?g6 ?g7) ?kB ?kF ?kX ?kN ?kT ?kk ?kd ?ku ?kx ?kr ?kp ?_); (case kB | kF | kX | kN | kT => k_asm); (case kk => first | exact rfl | assumption); (case kd => ktr_room); (case ku => ktr_units); (case kx | kr => assumption); (case kp => first | exact trivial | assumption); (case g0 | g1 | g2 | g3 | g4 | g5 | g6 | g7 => ((try dsimp only); first | omega | assumption | exact rfl | decide +kernel)); intro v9q σ9 h9q tk9q ns9q b1q b2q b3q b4q b5q b6q b7q hp9q F9q N9q; rcases hp9q with ⟨e1, c9, k9, e2, p9, q9⟩; all_goals ((try subst e1); (try subst e2); (try k_sweep); (try dsimp only at N9q ⊢)))) | walk1 | (dsimp only; walk1) | (leave1; try dsimp only) | fail))
  all_goals (refine hret _ ⟨_, _, _, _, _, _, _⟩ _ _ _ _ _ _ _ _ _ _ ?_ (by assumption) (by assumption))
  all_goals (
    rename (ls _ = _) => hls
    rename (_ = ite _ _ _) => hcc
    dsimp only at hls hcc
    have e0 : ((Str.ofString "").length : Int) = 0 := by decide +kernel
    have e1 : ls (Str.ofString "") = [] := by decide +kernel
    refine ⟨rfl, _, _, by rw [e0, Int.add_zero], by rw [hls, e1, List.append_nil], ?_⟩
    rw [hcc, e0]
    split
    · omega
    · rfl)
inductive DelP (σ : St) : Value → St → Prop
  | mk (cur' : Str) (c' : Int) (h : ls cur' = (ls σ.cur).take σ.bra.toNat) : DelP σ .none { σ with cur := cur', l := σ.bra, c := c', ket := σ.bra }
theorem slice_del_p {w : World} (σ : St) (h0 : 0 ≤ σ.c) (h1 : 0 ≤ σ.bra) (h2 : σ.bra ≤ σ.ket) (h6 : σ.ket = σ.l) (h3 : σ.cur.length < 100) (h4 : σ.c < 100) (h7 : σ.l = (σ.cur.length : Int)) : Meth w 161 [] 3 (fun h => True) σ (DelP σ) :=
  (slice_del_spec σ h0 h1 h2 h6 h3 h4 h7).mono fun _ _ q => by
    obtain ⟨rfl, cur', c', rfl, e, _⟩ := q
    exact .mk _ _ e
end PartW4
section PartW5
open PySem PySem.W PyProof.Rows PySem.Calls
theorem go_out_spec {w : World} {g : Addr} {f : Nat → Bool} (σ : St) (h0 : 0 ≤ σ.c) (h1 : σ.c ≤ σ.l) (h7 : σ.l = (σ.cur.length : Int)) (h3 : σ.cur.length < 100) :
    Meth w 98 [.ref g] 1 (fun h => SetHas w h g f) σ (fun v σ' => σ' = { σ with c := (firstIdx f (ls σ.cur) σ.c.toNat : Nat) } ∧ v = .bool (decide (firstIdx f (ls σ.cur) σ.c.toNat < σ.cur.length))) := by
  unfold Meth MD
  k_fill
  intro loose mean mg mb p0 dp un gd cn cs a ccd cl outer A₀ base h₀ L m s Q E x dx ns rest a1 a2 a3 a4 a5 a6 a7 t1 t2 t3 t4 t5 t6 t7 B F X N T hk hd hu hx hrest hpre hret
  obtain ⟨cur, c, l, lb, bra, ket, p1⟩ := σ
  simp only at *
  refine wpAny_call ?_
  k_dflt (refine' code_def (binds := [("self", .ref x), ("s", .ref g)]) ?k1 ?k2 ?k3 ?k4 ?k5 ?kA ?kF ?kK ?k6 ?k7 ?k8 ?k9 ?kB ?_ ?c2 ?c3 ?c4 ?c5; (case kA | kF => exact rfl); (case kK => assumption); (case k1 | k2 | k3 | k4 | k5 => k_asm); (case k6 | k7 => k_is); (case k8 => ktr_room); (case k9 => exact BindsTo.of_eq rfl); (case c5 => decide); (case kB => exact locs rfl); (case c2 | c3 | c4 => exact rfl))
  intro g' L' h' FG' F' N' B' X' T'
  have hpre' := hpre.keeps FG'.keep
  ((conv in (execs _ _) => arg 1; whnf); (try dsimp only); (show wpAny _ _ (execs _ _) _ _ _); k_fold)
  walk1
  walk1
  refine ksw_while (σ := Int × Tok × Nat) (fun d => LED w.params x dx d.2.2 a1 a2 a3 a4 a5 a6 t1 d.2.1 t3 t4 t5 t6 cur d.1 l lb bra ket (ip w.params a7 p1 t7) rest) (fun _ => []) (fun _ => True) [] (fun d => c ≤ d.1 ∧ d.1 ≤ l ∧ firstIdx f (ls cur) d.1.toNat = firstIdx f (ls cur) c.toNat) (fun d => (l - d.1).toNat) (c, t2, ns) F' N' trivial (fun p hp => nomatch hp) ⟨Int.le_refl _, h1, rfl⟩ ?_
  rintro ⟨d, td, nd⟩ u h9 tk9 _ ⟨q1, q2, q3⟩ F9 N9
  dsimp only at q1 q2 q3 F9 N9
  k_fold
  (repeat' (first | (k_unfold; (try dsimp only)) | (k_end; wrow_close) | with_reducible ((with_reducible show wpAny _ _ (subscriptTail (PySem.Expr.Name _ _) (PySem.Expr.Attribute _ _ _) (Value.str _ _) (Value.int _ _)) _ _ _); (refine item_str (fitsSsize_of (N := 9223372036854775808) (by omega) (by omega) (Int.le_refl _)) (by omega) (by omega) ?_; intro _; (try dsimp only))) | with_reducible ((with_reducible show wpAny _ _ (compareOp CmpOp.In (Value.str _ _) (Value.ref _)) _ _ _); (refine' in_set ?k1 ?k2 ?_; (case k1 => k_asm); (case k2 => first | assumption | exact SetHas.keeps (by assumption) (by assumption)); k_whole; (try dsimp only))) | with_reducible ((with_reducible show wpAny _ _ (setAttr (Value.ref _) _ _) _ _ _); ((first | with_reducible refine' set_cur ?k0 ?kx ?kr ?k1 ?k2 ?k3 ?_ | with_reducible refine' set_c ?k0 ?kx ?kr ?k1 ?k2 ?k3 ?_ | with_reducible refine' set_l ?k0 ?kx ?kr ?k1 ?k2 ?k3 ?_ | with_reducible refine' set_lb ?k0 ?kx ?kr ?k1 ?k2 ?k3 ?_ | with_reducible refine' set_bra ?k0 ?kx ?kr ?k1 ?k2 ?k3 ?_ | with_reducible refine' set_ket ?k0 ?kx ?kr ?k1 ?k2 ?k3 ?_); (case k1 | k2 | k3 => k_asm); (case kx | kr => assumption); (case k0 => exact Nat.le_of_ble_eq_true rfl); k_whole; intro h'q F'q N'q; (try k_sweep); (try dsimp only))) | with_reducible ((with_reducible show wpAny _ _ (getAttr (Value.ref _) _ _) _ _ _); ((first | with_reducible refine' get_cur ?k1 ?k2 ?k3 ?_ | with_reducible refine' get_c ?k1 ?k2 ?k3 ?_ | with_reducible refine' get_l ?k1 ?k2 ?k3 ?_ | with_reducible refine' get_lb ?k1 ?k2 ?k3 ?_ | with_reducible refine' get_bra ?k1 ?k2 ?k3 ?_ | with_reducible refine' get_ket ?k1 ?k2 ?k3 ?_ | with_reducible refine' get_p1 ?k1 ?k2 ?k3 ?_); (case k1 | k2 | k3 => k_asm); k_whole; (try dsimp only))) | walk1 | (dsimp only; walk1) | (leave1; try dsimp only) | fail))
  all_goals first
    | (rename (f ((Txt.charAt _ _).getD 0) = true) => hf
       rw [charAt_of (by omega) (by omega)] at hf
       have e : firstIdx f (ls cur) c.toNat = d.toNat := by rw [← q3]; exact fi_here (by rw [ls_len]; omega) (by exact hf)
       refine hret _ ⟨_, _, _, _, _, _, _⟩ _ _ _ _ _ _ _ _ _ _ ?_ (by assumption) (by assumption)
       refine ⟨?_, ?_⟩
       · rw [e]; congr 1; omega
       · rw [e, decide_eq_true (by omega)])
    | (rename (f ((Txt.charAt _ _).getD 0) = false) => hf
       rw [charAt_of (by omega) (by omega)] at hf
       refine ksw_end ⟨d + 1, _, _⟩ (by assumption) (by assumption) (fun p hp => hp) trivial (fun p hp => nomatch hp) (fun z _ _ => rfl) ⟨by omega, by omega, ?_⟩ (by dsimp only; omega)
       dsimp only
       rw [← q3, show (d + 1).toNat = d.toNat + 1 by omega]
       exact (fi_next (by rw [ls_len]; omega) (by exact hf)).symm)
    | (have e : firstIdx f (ls cur) c.toNat = d.toNat := by rw [← q3]; exact fi_end (by rw [ls_len]; omega)
       refine hret _ ⟨_, _, _, _, _, _, _⟩ _ _ _ _ _ _ _ _ _ _ ?_ (by assumption) (by assumption)
       refine ⟨?_, ?_⟩
       · rw [e]; congr 1; omega
       · rw [e, decide_eq_false (by omega)])
theorem go_in_spec {w : World} {g : Addr} {f : Nat → Bool} (σ : St) (h0 : 0 ≤ σ.c) (h1 : σ.c ≤ σ.l) (h7 : σ.l = (σ.cur.length : Int)) (h3 : σ.cur.length < 100) :
    Meth w 70 [.ref g] 1 (fun h => SetHas w h g f) σ (fun v σ' => σ' = { σ with c := (firstIdx (fun z => !f z) (ls σ.cur) σ.c.toNat : Nat) } ∧ v = .bool (decide (firstIdx (fun z => !f z) (ls σ.cur) σ.c.toNat < σ.cur.length))) := by
  unfold Meth MD
  k_fill
  intro loose mean mg mb p0 dp un gd cn cs a ccd cl outer A₀ base h₀ L m s Q E x dx ns rest a1 a2 a3 a4 a5 a6 a7 t1 t2 t3 t4 t5 t6 t7 B F X N T hk hd hu hx hrest hpre hret
  obtain ⟨cur, c, l, lb, bra, ket, p1⟩ := σ
  simp only at *
  refine wpAny_call ?_
  k_dflt (refine' code_def (binds := [("self", .ref x), ("s", .ref g)]) ?k1 ?k2 ?k3 ?k4 ?k5 ?kA ?kF ?kK ?k6 ?k7 ?k8 ?k9 ?kB ?_ ?c2 ?c3 ?c4 ?c5; (case kA | kF => exact rfl); (case kK => assumption); (case k1 | k2 | k3 | k4 | k5 => k_asm); (case k6 | k7 => k_is); (case k8 => ktr_room); (case k9 => exact BindsTo.of_eq rfl); (case c5 => decide); (case kB => exact locs rfl); (case c2 | c3 | c4 => exact rfl))
  intro g' L' h' FG' F' N' B' X' T'
  have hpre' := hpre.keeps FG'.keep
  ((conv in (execs _ _) => arg 1; whnf); (try dsimp only); (show wpAny _ _ (execs _ _) _ _ _); k_fold)
  walk1
  walk1
  refine ksw_while (σ := Int × Tok × Nat) (fun d => LED w.params x dx d.2.2 a1 a2 a3 a4 a5 a6 t1 d.2.1 t3 t4 t5 t6 cur d.1 l lb bra ket (ip w.params a7 p1 t7) rest) (fun _ => []) (fun _ => True) [] (fun d => c ≤ d.1 ∧ d.1 ≤ l ∧ firstIdx (fun z => !f z) (ls cur) d.1.toNat = firstIdx (fun z => !f z) (ls cur) c.toNat) (fun d => (l - d.1).toNat) (c, t2, ns) F' N' trivial (fun p hp => nomatch hp) ⟨Int.le_refl _, h1, rfl⟩ ?_
  rintro ⟨d, td, nd⟩ u h9 tk9 _ ⟨q1, q2, q3⟩ F9 N9
  dsimp only at q1 q2 q3 F9 N9
  k_fold
  (repeat' (first | (k_unfold; (try dsimp only)) | (k_end; wrow_close) | with_reducible ((with_reducible show wpAny _ _ (subscriptTail (PySem.Expr.Name _ _) (PySem.Expr.Attribute _ _ _) (Value.str _ _) (Value.int _ _)) _ _ _); (refine item_str (fitsSsize_of (N := 9223372036854775808) (by omega) (by omega) (Int.le_refl _)) (by omega) (by omega) ?_; intro _; (try dsimp only))) | with_reducible ((with_reducible show wpAny _ _ (compareOp CmpOp.NotIn (Value.str _ _) (Value.ref _)) _ _ _); (refine' notin_set ?k1 ?k2 ?_; (case k1 => k_asm); (case k2 => first | assumption | exact SetHas.keeps (by assumption) (by assumption)); k_whole; (try dsimp only))) | with_reducible ((with_reducible show wpAny _ _ (setAttr (Value.ref _) _ _) _ _ _); ((first | with_reducible refine' set_cur ?k0 ?kx ?kr ?k1 ?k2 ?k3 ?_ | with_reducible refine' set_c ?k0 ?kx ?kr ?k1 ?k2 ?k3 ?_ | with_reducible refine' set_l ?k0 ?kx ?kr ?k1 ?k2 ?k3 ?_ | with_reducible refine' set_lb ?k0 ?kx ?kr ?k1 ?k2 ?k3 ?_ | with_reducible refine' set_bra ?k0 ?kx ?kr ?k1 ?k2 ?k3 ?_ | with_reducible refine' set_ket ?k0 ?kx ?kr ?k1 ?k2 ?k3 ?_); (case k1 | k2 | k3 => k_asm); (case kx | kr => assumption); (case k0 => exact Nat.le_of_ble_eq_true rfl); k_whole; intro h'q F'q N'q; (try k_sweep); (try dsimp only))) | with_reducible ((with_reducible show wpAny _ _ (getAttr (Value.ref _) _ _) _ _ _); ((first | with_reducible refine' get_cur ?k1 ?k2 ?k3 ?_ | with_reducible refine' get_c ?k1 ?k2 ?k3 ?_ | with_reducible refine' get_l ?k1 ?k2 ?k3 ?_ | with_reducible refine' get_lb ?k1 ?k2 ?k3 ?_ | with_reducible refine' get_bra ?k1 ?k2 ?k3 ?_ | with_reducible refine' get_ket ?k1 ?k2 ?k3 ?_ | with_reducible refine' get_p1 ?k1 ?k2 ?k3 ?_); (case k1 | k2 | k3 => k_asm); k_whole; (try dsimp only))) | walk1 | (dsimp only; walk1) | (leave1; try dsimp only) | fail))
  all_goals first
    | (rename (f ((Txt.charAt _ _).getD 0) = false) => hf
       rw [charAt_of (by omega) (by omega)] at hf
       have e : firstIdx (fun z => !f z) (ls cur) c.toNat = d.toNat := by rw [← q3]; exact fi_here (by rw [ls_len]; omega) (by show (!f _) = _; unfold ls; rw [hf]; rfl)
       refine hret _ ⟨_, _, _, _, _, _, _⟩ _ _ _ _ _ _ _ _ _ _ ?_ (by assumption) (by assumption)
       refine ⟨?_, ?_⟩
       · rw [e]; congr 1; omega
       · rw [e, decide_eq_true (by omega)])
    | (rename (f ((Txt.charAt _ _).getD 0) = true) => hf
       rw [charAt_of (by omega) (by omega)] at hf
       refine ksw_end ⟨d + 1, _, _⟩ (by assumption) (by assumption) (fun p hp => hp) trivial (fun p hp => nomatch hp) (fun z _ _ => rfl) ⟨by omega, by omega, ?_⟩ (by dsimp only; omega)
       dsimp only
       rw [← q3, show (d + 1).toNat = d.toNat + 1 by omega]
       exact (fi_next (by rw [ls_len]; omega) (by show (!f _) = _; unfold ls; rw [hf]; rfl)).symm)
    | (have e : firstIdx (fun z => !f z) (ls cur) c.toNat = d.toNat := by rw [← q3]; exact fi_end (by rw [ls_len]; omega)
       refine hret _ ⟨_, _, _, _, _, _, _⟩ _ _ _ _ _ _ _ _ _ _ ?_ (by assumption) (by assumption)
       refine ⟨?_, ?_⟩
       · rw [e]; congr 1; omega
       · rw [e, decide_eq_false (by omega)])
end PartW5
section PartW6
open PySem PySem.W PyProof.Rows PySem.Calls
/-- an entry of a table, in the heap -/
noncomputable def AmIn (P : Params) (h : Heap) (x : Addr) (e : Ent) : Prop := ∃ dx n k1 k2 k3 u1 u2 u3 S, h.get? x = some (instObj 218 dx) ∧
  h.get? dx = some (dictOf [⟨PyData.keyHash P "s", .str "s" k1, .str S u1⟩, ⟨PyData.keyHash P "substring_i", .str "substring_i" k2, .int e.sub u2⟩, ⟨PyData.keyHash P "result", .str "result" k3, .int e.res u3⟩] n) ∧ ls S = e.s.reverse
/-- a table, in the heap -/
noncomputable def TabIn (P : Params) (h : Heap) (v : Addr) (T : Tbl) : Prop := ∃ vs : List Value, h.IsList v vs.toArray ∧ vs.length = T.length ∧ ∀ i, i < T.length → ∃ x, vs[i]? = some (.ref x) ∧ AmIn P h x (T.at i)
theorem AmIn.keeps {P : Params} {h h' : Heap} {x : Addr} {e : Ent} (a : AmIn P h x e) (k : ∀ b o, h.get? b = some o → h'.get? b = some o) : AmIn P h' x e :=
  let ⟨dx, n, k1, k2, k3, u1, u2, u3, S, h1, h2, h3⟩ := a; ⟨dx, n, k1, k2, k3, u1, u2, u3, S, k _ _ h1, k _ _ h2, h3⟩
theorem TabIn.keeps {P : Params} {h h' : Heap} {v : Addr} {T : Tbl} (a : TabIn P h v T) (k : ∀ b o, h.get? b = some o → h'.get? b = some o) : TabIn P h' v T :=
  let ⟨vs, ⟨o, ho, r⟩, h2, h3⟩ := a; ⟨vs, ⟨o, k _ _ ho, r⟩, h2, fun i hi => let ⟨x, h4, h5⟩ := h3 i hi; ⟨x, h4, h5.keeps k⟩⟩
/-! the four tables stand in the written part -/
noncomputable def amOk (K : Frag) (x : Addr) (e : Ent) : Bool := match K.lookup x with
  | some ⟨.ref 218, some dx, .plain, sl⟩ => sl.isEmpty && (match K.lookup dx with
    | some ⟨.type "dict", none, .dict es _, sl2⟩ => sl2.isEmpty && (match es.toList with
      | [⟨_, .str a _, .str S _⟩, ⟨_, .str b _, .int i _⟩, ⟨_, .str c _, .int r _⟩] => a == "s" && b == "substring_i" && c == "result" && i == e.sub && r == e.res && ls S == e.s.reverse
      | _ => false)
    | _ => false)
  | _ => false
section
variable {w : World} {A : Around} {E : Value → Shared → Prop} {s : Shared} {h₀ : Heap} {L : Addr} {m : Str → Option Value} {x v : Addr} {e : Ent} {T : Tbl} {Q : Value → Shared → Prop} {expr : Bool}
theorem pg_am (P : Params) (n : Str) : plainGet (Kf P) 218 n = true := by
  show (findIn (Kf P) (.ref 218) "__getattribute__" == some (some (.builtin "object.__getattribute__")) && findIn (Kf P) (.ref 218) "__getattr__" == some none) = true
  kernel_rfl!
theorem hh_am (P : Params) : hasDictIn (Kf P) 218 = true := by kernel_rfl!
theorem am_s (F : Fr h₀ L s.heap m) (X : (Kf w.params).In h₀) (I : AmIn w.params h₀ x e) (h : ∀ S t, ls S = e.s.reverse → Q (.str S t) { s with toks := s.toks + 1 }) : wpAny (MD w) A (getAttr (.ref x) "s" expr) Q E s := by
  obtain ⟨dx, n, k1, k2, k3, u1, u2, u3, S, h1, h2, h3⟩ := I
  exact get_own F X ⟨F.keep _ _ h1, rfl, rfl, F.keep _ _ h2⟩ (pg_am _ _) (hh_am _) (attr := none) (by kernel_rfl!) (by kernel_rfl!) (v := .str S u1) (by kernel_rfl!) rfl (h S u1 h3)
theorem am_sub (F : Fr h₀ L s.heap m) (X : (Kf w.params).In h₀) (I : AmIn w.params h₀ x e) (h : ∀ t, Q (.int e.sub t) { s with toks := s.toks + 1 }) : wpAny (MD w) A (getAttr (.ref x) "substring_i" expr) Q E s := by
  obtain ⟨dx, n, k1, k2, k3, u1, u2, u3, S, h1, h2, h3⟩ := I
  exact get_own F X ⟨F.keep _ _ h1, rfl, rfl, F.keep _ _ h2⟩ (pg_am _ _) (hh_am _) (attr := none) (by kernel_rfl!) (by kernel_rfl!) (v := .int e.sub u2) (by kernel_rfl!) rfl (h u2)
theorem am_res (F : Fr h₀ L s.heap m) (X : (Kf w.params).In h₀) (I : AmIn w.params h₀ x e) (h : ∀ t, Q (.int e.res t) { s with toks := s.toks + 1 }) : wpAny (MD w) A (getAttr (.ref x) "result" expr) Q E s := by
  obtain ⟨dx, n, k1, k2, k3, u1, u2, u3, S, h1, h2, h3⟩ := I
  exact get_own F X ⟨F.keep _ _ h1, rfl, rfl, F.keep _ _ h2⟩ (pg_am _ _) (hh_am _) (attr := none) (by kernel_rfl!) (by kernel_rfl!) (v := .int e.res u3) (by kernel_rfl!) rfl (h u3)
theorem tab_item {value slice : Expr} {k : Int} {u : Tok} (F : Fr h₀ L s.heap m) (I : TabIn w.params h₀ v T) (h0 : 0 ≤ k) (h1 : k < (T.length : Int)) (h2 : T.length < 1000) (h : ∀ x, AmIn w.params h₀ x (T.at k.toNat) → Q (.ref x) s)
    (hs : subscripted slice false (.ref v) (.int k u) = operate [.ref v, .int k u] (getItem (.ref v) (.int k u)) := by with_unfolding_all rfl) :
    wpAny (MD w) A (subscriptTail value slice (.ref v) (.int k u)) Q E s := by
  obtain ⟨vs, ⟨o, ho, hc⟩, hl, hi⟩ := I
  obtain ⟨x, hx, ha⟩ := hi k.toNat (by omega)
  have hL : s.heap.IsList v vs.toArray := ⟨o, F.keep _ _ ho, hc⟩
  exact tail_any hL.typeIs PySem.F.slot_list_getitem.lookup (wpAny_getItem_list hL h0 (by omega) (by simpa using hx) (h x ha)) hs
theorem tab_len (F : Fr h₀ L s.heap m) (I : TabIn w.params h₀ v T) (h2 : T.length < 1000) (h : Q (.int T.length (s.toks + 1)) { s with toks := s.toks + 1 + 1 }) : wpAny (MD w) A (call (.builtin "len") [.ref v]) Q E s := by
  obtain ⟨vs, ⟨o, ho, hc⟩, hl, hi⟩ := I
  have hL : s.heap.IsList v vs.toArray := ⟨o, F.keep _ _ ho, hc⟩
  have e : vs.toArray.size = T.length := by simp [hl]
  refine call_len_list hL (by rw [e]; omega) ?_
  rw [e]; exact h
end
/-- a tree that is held -/
noncomputable def Stop (P : Prop) : Prop := P
theorem Stop.intro {P : Prop} (h : Stop P) : P := h
end PartW6
section PartW7
open PySem PySem.W PyProof.Rows PySem.Calls
theorem st_lo {T : Tbl} {t : List Nat} {i k ci cj : Nat} (ok : tblOk T = true) (v : Inv T t i k ci cj) (h1 : k ≤ i + 1) (h2 : 0 < i ∨ k = i) : Stands T t i ci := by
  obtain ⟨p1, p2, _⟩ := tbl_parts ok
  refine stands_cases (Nat.lt_of_le_of_lt (Nat.zero_le _) v.i0) p1 p2 v h1 (fun e1 e2 e3 => ?_) ?_
  · subst e1
    rcases h2 with h2 | h2
    · omega
    · subst h2
      rcases v.hi with ⟨e, _⟩ | ⟨_, e, _⟩
      · have := v.i0; omega
      · rw [e] at e3; cases e3
  · rcases h2 with h2 | h2
    · rcases v.lo with ⟨e, _⟩ | ⟨e, _⟩
      · omega
      · exact .inr e
    · subst h2
      rcases v.lo with ⟨rfl, _⟩ | ⟨e, _⟩
      · exact .inl ⟨rfl, rfl⟩
      · exact .inr e
theorem st_hi {T : Tbl} {t : List Nat} {j k cj : Nat} (ok : tblOk T = true) (v : Inv T t k j (lcp t (T.at k).s) cj) (h1 : j ≤ k + 1) (h2 : ltb t (T.at k).s = false) : Stands T t k (lcp t (T.at k).s) := by
  obtain ⟨p1, p2, _⟩ := tbl_parts ok
  exact stands_cases (Nat.lt_of_le_of_lt (Nat.zero_le _) v.i0) p1 p2 v h1 (fun e _ _ => by rw [e]) (.inr h2)
theorem not_ltb {x y : List Nat} {d : Int} (e : d < 0 ↔ ltb x y = true) (h : ¬ d < 0) : ltb x y = false := by
  cases hL : ltb x y with
  | false => rfl
  | true => exact absurd (e.mpr hL) h
theorem item_of {x : Str} {i : Int} (h0 : 0 ≤ i) (h1 : i < (x.length : Int)) : (Txt.item x i).cps.getD 0 0 = (ls x).getD i.toNat 0 := by show (Txt.charAt x i).getD 0 = _; exact charAt_of h0 h1
structure Held (P : Prop) : Prop where
  out : P
theorem am_len {S : Str} {r : List Nat} (h : ls S = r.reverse) : S.length = r.length := by rw [← ls_len, h, List.length_reverse]
theorem half_eq {i j : Nat} (h : i ≤ j) : (↑i + (↑j - ↑i : Int).fdiv (2 ^ Int.toNat 1) : Int) = ((i + (j - i) / 2 : Nat) : Int) := by
  have e : (2 ^ Int.toNat 1 : Int) = 2 := rfl
  rw [e, Int.fdiv_eq_ediv_of_nonneg _ (by decide)]; omega
theorem Fr.toN {h₀ : Heap} {L : Addr} {h : Heap} {m : Str → Option Value} (F : Fr h₀ L h m) (ps : List (Str × Value)) (hp : ∀ p ∈ ps, m p.1 = some p.2) (hn : ∀ z, (∀ p ∈ ps, z ≠ p.1) → m z = none) : Fr h₀ L h (kstB (fun _ => none) ps) := by
  have e : kstB (fun _ => none) ps = m := funext fun z => kstB_eq hp (fun q => (hn z q).symm)
  rw [e]; exact F
theorem Fr.toB {h₀ : Heap} {L : Addr} {h : Heap} {m : Str → Option Value} (F : Fr h₀ L h m) (ps : List (Str × Value)) (hp : ∀ p ∈ ps, m p.1 = some p.2) : Fr h₀ L h (kstB m ps) := by
  have e : kstB m ps = m := funext fun z => kstB_eq hp (fun _ => rfl)
  rw [e]; exact F
theorem seq_hold {M : Model} {A : Around} {Q : Flow → Shared → Prop} {E : Value → Shared → Prop} {st : Stmt} {r : List Stmt} {env : Env} {s : Shared} {P : Shared → Prop}
    (h : wpAny M A (exec st env) (fun f s' => Held (f = .next ∧ P s')) E s) (h2 : ∀ s', P s' → wpAny M A (execs r env) Q E s') : wpAny M A (execs (st :: r) env) Q E s := by
  have e1 : execs (st :: r) env = (exec st env >>= fun f => match f with | .next => execs r env | f => pure f) := rfl
  rw [e1]
  refine wpAny_bind (wpAny_mono h (fun f s' hh => ?_) fun _ _ x => x)
  obtain ⟨rfl, hp⟩ := hh.out
  exact h2 s' hp
/-- the window behind one comparison -/
def Nx (d : Int) (i j ci cj k cm i1 j1 ci1 cj1 : Nat) : Prop := (d < 0 ∧ i1 = i ∧ j1 = k ∧ ci1 = ci ∧ cj1 = cm) ∨ (¬ d < 0 ∧ i1 = k ∧ j1 = j ∧ ci1 = cm ∧ cj1 = cj)
theorem nx_facts {TB : Tbl} {tr : List Nat} {d : Int} {i j ci cj k i1 j1 ci1 cj1 : Nat} {fk : Bool} (ok : tblOk TB = true) (q1 : Inv TB tr i j ci cj) (hfk : (i = 0 ∧ j = 1 ∧ fk = true) ∨ (i + 1 < j ∧ fk = false))
    (e1 : d < 0 ↔ ltb tr (TB.at k).s = true) (hk : k = i + (j - i) / 2) (N : Nx d i j ci cj k (lcp tr (TB.at k).s) i1 j1 ci1 cj1) :
    Inv TB tr i1 j1 ci1 cj1 ∧ (j1 ≤ i1 + 1 → 0 < i1 ∨ j1 = i1 ∨ fk = true → Stands TB tr i1 ci1) ∧ (¬ j1 ≤ i1 + 1 → fk = false ∧ j1 - i1 < j - i) ∧ (j1 ≤ i1 + 1 → ¬ 0 < i1 → j1 ≠ i1 → fk = false → i1 = 0 ∧ j1 = 1) ∧ (fk = false → 2 ≤ j - i) := by
  have jn := q1.jn
  have ij := q1.ij
  rcases N with ⟨hd, rfl, rfl, rfl, rfl⟩ | ⟨hd, rfl, rfl, rfl, rfl⟩
  · have inv := turn_lo ok q1 (k := j1) (by omega) (by omega) (by omega) (e1.mp hd)
    refine ⟨inv, fun h1 h2 => st_lo ok inv h1 (by rcases h2 with h | h | h; exact .inl h; exact .inr h; rcases hfk with ⟨_, _, _⟩ | ⟨_, q⟩; omega; rw [h] at q; cases q), fun h => ⟨?_, by omega⟩, fun _ _ _ _ => by omega, fun h => ?_⟩
    · rcases hfk with ⟨_, _, _⟩ | ⟨_, h⟩
      · omega
      · exact h
    · rcases hfk with ⟨_, _, h'⟩ | ⟨_, _⟩
      · rw [h] at h'; cases h'
      · omega
  · have hl := not_ltb e1 hd
    have inv := turn_hi ok q1 (k := i1) (by omega) (by omega) (by omega) hl
    refine ⟨inv, fun h1 h2 => st_hi ok inv h1 hl, fun h => ⟨?_, by omega⟩, fun _ _ _ _ => by omega, fun h => ?_⟩
    · rcases hfk with ⟨_, _, _⟩ | ⟨_, h⟩
      · omega
      · exact h
    · rcases hfk with ⟨_, _, h'⟩ | ⟨_, _⟩
      · rw [h] at h'; cases h'
      · omega
theorem min_eq {ci cj : Nat} : (if (cj : Int) < (ci : Int) then (cj : Int) else (ci : Int)) = ((min ci cj : Nat) : Int) := by
  rw [Nat.min_def]; split <;> split <;> omega
theorem mid_lt {i j n : Nat} (h : i < j) (h2 : j ≤ n) : ((i + (j - i) / 2 : Nat) : Int) < (n : Int) := by omega

theorem Fr.toM {h₀ : Heap} {L : Addr} {h : Heap} {m : Str → Option Value} (F : Fr h₀ L h m) {ps : List (Str × Value)} (e : ps.map (fun p => m p.1) = ps.map (fun p => some p.2)) : Fr h₀ L h (kstB m ps) := by
  refine Fr.toB F ps ?_
  intro p hp
  have := List.map_inj_left.mp e p hp
  exact this
theorem am_len2 {S : Str} {r : List Nat} (h : S.length = r.length) (l : r.length < 100) : S.length < 100 := by rw [h]; exact l
theorem store_int {M : Model} {A : Around} {E : Value → Shared → Prop} {h₀ : Heap} {L a : Addr} {s : Shared} {m : Str → Option Value} {cn x : Str} {cs : Scope} {ccd : Value} {cl : List (Str × Addr)} {news : List (Addr × Obj)} {k : Int} {t0 : Tok} {Q : Unit → Shared → Prop} (F : Fr h₀ L s.heap m) (N : News h₀ L s.heap news)
    (h : ∀ h' t tk, Fr h₀ L h' (fun y => if y = x then some (.int k t) else m y) → News h₀ L h' news → Q () { s with heap := h', toks := tk })
    (hk : cs.kind = .function := by rfl) (hx : (envX cn cs L a ccd cl).kindOf x = some .local := by rfl) : wpAny M A (storeName (envX cn cs L a ccd cl) x (.int k t0)) Q E s :=
  storeX_L F N (fun h' F N => h h' _ _ F N) hk hx
noncomputable def fabB : List Stmt := fnB (stA (clB (stA tb0 2)) 15)
noncomputable def whB : Stmt → List Stmt
  | .While _ b _ _ => b
  | _ => []
noncomputable def foB : Stmt → List Stmt
  | .For _ _ b _ _ => b
  | _ => []
noncomputable def fabW : List Stmt := whB (stA fabB 7)
noncomputable abbrev fabE (L : Addr) : Env := envOf "BaseStemmer.find_among_b" (fnS (stA (clB (stA tb0 2)) 15)) L 140 (.ref 139)

theorem fab_head {w : World} {loose : List Str} {mean : ExcName → Option Value} {mg mb : Str → Option Value} {p0 : Program} {h₀ : Heap} {L : Addr} {s : Shared} {Q : Flow → Shared → Prop} {E : Value → Shared → Prop} {A : Around} {u : Str → Option Value} {led : List (Addr × Obj)} {v : Addr} {TB : Tbl} {i j ci cj : Nat} {ti tj tci tcj : Tok}
    (F : Fr h₀ L s.heap (kstB u [("v", .ref v), ("i", .int i ti), ("j", .int j tj), ("common_i", .int ci tci), ("common_j", .int cj tcj)])) (X : (Kf w.params).In h₀) (N : News h₀ L s.heap (led)) (T : Top p0 loose mean mg mb h₀) (hT : TabIn w.params h₀ v TB) (hA : A.handled = none) (hij : i < j) (hj : j ≤ TB.length) (h5 : TB.length < 1000)
    (hret : ∀ y td tk2 h tk tk3, AmIn w.params h₀ y (TB.at (i + (j - i) / 2)) → Fr h₀ L h (kstB (kstB u [("v", .ref v), ("i", .int i ti), ("j", .int j tj), ("common_i", .int ci tci), ("common_j", .int cj tcj)]) [("w", .ref y), ("common", .int (min ci cj : Nat) tk3), ("diff", .int 0 td), ("k", .int (i + (j - i) / 2 : Nat) tk2)]) → News h₀ L h led → wpAny (MD w) A (execs (fabW.drop 4) (fabE L)) Q E { s with heap := h, toks := tk }) :
    wpAny (MD w) A (execs fabW (fabE L)) Q E s := by
  revert F X N T
  unfold MD fabE
  k_fill
  intro F X N T
  conv in (execs _ _) => arg 1; whnf
  try dsimp only
  try k_fold
  (repeat' (first | (k_unfold; (try dsimp only)) | (k_end; wrow_close) | with_reducible ((with_reducible show wpAny _ _ (execs (Stmt.For _ _ _ _ _ :: _) _) _ _ _); (try dsimp only); refine Stop.intro ?_) | with_reducible ((with_reducible show wpAny _ _ (subscriptTail (PySem.Expr.Name _ _) (PySem.Expr.Name _ _) (Value.ref _) (Value.int _ _)) _ _ _); (try dsimp only); refine Stop.intro ?_) | ((with_reducible show wpAny _ _ (call (Value.builtin "min") _ _) _ _ _); refine min_two_N hA (by assumption) (by assumption) ?_; intro h'q tkq F'q N'q; (try k_sweep); (try dsimp only)) | with_reducible ((with_reducible show wpAny _ _ (storeName _ _ (Value.int _ _)) _ _ _); k_dflt (refine' store_int ?k1 ?k2 ?_); (case k1 | k2 => k_asm); k_whole; intro h'q t9q tk9q F'q N'q; (try k_sweep); (try dsimp only)) | walk1 | (dsimp only; walk1) | (leave1; try dsimp only) | fail))
  unfold Stop
  rename (Fr _ _ _ _) => F8
  rw [half_eq (Nat.le_of_lt hij)] at F8 ⊢
  rw [min_eq] at F8
  refine tab_item (by assumption) hT (Int.natCast_nonneg _) (mid_lt hij hj) h5 ?_
  intro y a9
  (repeat' (first | (k_unfold; (try dsimp only)) | (k_end; wrow_close) | with_reducible ((with_reducible show wpAny _ _ (execs (Stmt.For _ _ _ _ _ :: _) _) _ _ _); (try dsimp only); refine Stop.intro ?_) | with_reducible ((with_reducible show wpAny _ _ (storeName _ _ (Value.int _ _)) _ _ _); k_dflt (refine' store_int ?k1 ?k2 ?_); (case k1 | k2 => k_asm); k_whole; intro h'q t9q tk9q F'q N'q; (try k_sweep); (try dsimp only)) | walk1 | (dsimp only; walk1) | (leave1; try dsimp only) | fail))
  unfold Stop
  rename (Fr _ _ _ _) => F9
  rename (News _ _ _ _) => N9
  exact hret y _ _ _ _ _ a9 F9 N9

noncomputable def fabF : List Stmt := foB (stA fabW 4)
theorem win_len {cur : Str} {c lb : Nat} (h2 : c ≤ cur.length) : ((((ls cur).take c).drop lb).reverse).length = c - lb := by
  rw [List.length_reverse, List.length_drop, List.length_take, ls_len, Nat.min_eq_left h2]
theorem ix_c {c lb n len : Nat} (h2 : c ≤ len) (h1 : lb ≤ c) (p3 : n ≤ c - lb) (hb : (c : Int) - n ≠ lb) : 0 ≤ (c : Int) - 1 - n ∧ (c : Int) - 1 - n < (len : Int) ∧ n < c - lb ∧ ((c : Int) - 1 - n).toNat = c - 1 - n := by omega
theorem ix_w {n len wl : Nat} {k2 : Int} (h1 : len = wl) (hk : k2 = (wl : Int) - 1 - n) (hn : n < wl) : 0 ≤ k2 ∧ k2 < (len : Int) ∧ k2.toNat = wl - 1 - n := by omega
theorem ch_c {cur : Str} {c lb n : Nat} (h2 : c ≤ cur.length) (h1 : lb ≤ c) (p3 : n ≤ c - lb) (hb : (c : Int) - n ≠ lb) : ((((ls cur).take c).drop lb).reverse).getD n 0 = (Txt.item cur ((c : Int) - 1 - n)).cps.getD 0 0 := by
  obtain ⟨e1, e2, e3, e4⟩ := ix_c h2 h1 p3 hb
  rw [win_getD _ _ _ _ h1 (by rw [ls_len]; exact h2) e3, item_of e1 e2, e4]
theorem ch_w {S : Str} {W : List Nat} {n : Nat} {k2 : Int} (e : ls S = W.reverse) (hk : k2 = (W.length : Int) - 1 - n) (hn : n < W.length) : W.getD n 0 = (Txt.item S k2).cps.getD 0 0 := by
  obtain ⟨e1, e2, e3⟩ := ix_w (am_len e) hk hn
  rw [item_of e1 e2, e, e3, rev_getD _ _ (by omega)]; congr 1; omega
theorem fit_ix {S : Str} {i : Int} (h0 : 0 ≤ i) (h1 : i < (S.length : Int)) (h3 : S.length < 100) : fitsSsize i = true := fitsSsize_of (N := 9223372036854775808) (by omega) (by omega) (Int.le_refl _)
theorem neg_ix {S : Str} {i : Int} (h0 : 0 ≤ i) : -(S.length : Int) ≤ i := by omega
theorem fin_diff {t w : List Nat} {n a b : Nat} (p : n ≤ lcp t w) (h1 : n < t.length) (h2 : n < w.length) (ha : t.getD n 0 = a) (hb : w.getD n 0 = b) (h : (a : Int) - b ≠ 0) : lcp t w = n ∧ ((a : Int) - b < 0 ↔ ltb t w = true) := by
  have e := cmp_diff n t w p h1 h2 (by rw [ha, hb]; omega)
  rw [ha, hb] at e
  exact ⟨e.1, by rw [e.2]; omega⟩
theorem fin_same {t w : List Nat} {n a b : Nat} (p : n ≤ lcp t w) (h1 : n < t.length) (h2 : n < w.length) (ha : t.getD n 0 = a) (hb : w.getD n 0 = b) (h : (a : Int) - b = 0) : n + 1 ≤ lcp t w := cmp_same n t w p h1 h2 (by rw [ha, hb]; omega)
theorem fin_out {t w : List Nat} {n c lb : Nat} (p : n ≤ lcp t w) (ht : t.length = c - lb) (h1 : lb ≤ c) (h : (c : Int) - n = lb) (h2 : n < w.length) : lcp t w = n ∧ ltb t w = true := cmp_out n t w p (by omega) h2
theorem fab_cmp {w : World} {loose : List Str} {mean : ExcName → Option Value} {mg mb : Str → Option Value} {p0 : Program} {h₀ : Heap} {L : Addr} {s : Shared} {Q : Flow → Shared → Prop} {E : Value → Shared → Prop} {A : Around} {u : Str → Option Value} {x dx : Addr} {ns : Nat} {rest : List (Addr × Obj)} {tail : List DictEntry} {a1 a2 a3 a4 a5 a6 t1 t2 t3 t4 t5 t6 : Tok} {cur : Str} {c lb : Nat} {l bra ket : Int} {u2 u4 : Tok} {y : Addr} {e : Ent} {n : Nat} {k2 : Int} {ti td tc : Tok}
    (F : Fr h₀ L s.heap (kstB u [("i2", .int k2 ti), ("self", .ref x), ("c", .int c u2), ("lb", .int lb u4), ("w", .ref y), ("diff", .int 0 td), ("common", .int n tc)])) (X : (Kf w.params).In h₀) (N : News h₀ L s.heap (LED w.params x dx ns a1 a2 a3 a4 a5 a6 t1 t2 t3 t4 t5 t6 cur (c : Int) l (lb : Int) bra ket tail rest)) (T : Top p0 loose mean mg mb h₀) (a9 : AmIn w.params h₀ y e) (h1 : lb ≤ c) (h2 : c ≤ cur.length) (h3 : cur.length < 100) (hw : e.s.length < 100) (hn : n < e.s.length) (hk2 : k2 = (e.s.length : Int) - 1 - n) (p2 : n ≤ lcp ((((ls cur).take c).drop lb).reverse) e.s)
    (hbrk : ∀ d td' h tk, lcp ((((ls cur).take c).drop lb).reverse) e.s = n → (d < 0 ↔ ltb ((((ls cur).take c).drop lb).reverse) e.s = true) → Fr h₀ L h (kstB (kstB u [("i2", .int k2 ti), ("self", .ref x), ("c", .int c u2), ("lb", .int lb u4), ("w", .ref y), ("diff", .int 0 td), ("common", .int n tc)]) [("diff", .int d td')]) → News h₀ L h (LED w.params x dx ns a1 a2 a3 a4 a5 a6 t1 t2 t3 t4 t5 t6 cur (c : Int) l (lb : Int) bra ket tail rest) → Q .brk { s with heap := h, toks := tk })
    (hnext : ∀ td' tc' h tk, n + 1 ≤ lcp ((((ls cur).take c).drop lb).reverse) e.s → Fr h₀ L h (kstB (kstB u [("i2", .int k2 ti), ("self", .ref x), ("c", .int c u2), ("lb", .int lb u4), ("w", .ref y), ("diff", .int 0 td), ("common", .int n tc)]) [("common", .int (n + 1 : Nat) tc'), ("diff", .int 0 td')]) → News h₀ L h (LED w.params x dx ns a1 a2 a3 a4 a5 a6 t1 t2 t3 t4 t5 t6 cur (c : Int) l (lb : Int) bra ket tail rest) → Q .next { s with heap := h, toks := tk }) :
    wpAny (MD w) A (execs fabF (fabE L)) Q E s := by
  revert F X N T
  unfold MD fabE
  k_fill
  intro F X N T
  conv in (execs _ _) => arg 1; whnf
  try dsimp only
  try k_fold
  have p3 := Nat.le_trans p2 (lcp_le_left _ _)
  rw [win_len h2] at p3
  (repeat' (first | (k_unfold; (try dsimp only)) | (k_end; wrow_close) | with_reducible ((with_reducible show wpAny _ _ (getAttr (Value.ref _) _ _) _ _ _); (first | with_reducible refine' get_cur ?k1 ?k2 ?k3 ?_ | with_reducible refine' get_c ?k1 ?k2 ?k3 ?_ | with_reducible refine' get_lb ?k1 ?k2 ?k3 ?_); (case k1 | k2 | k3 => k_asm); k_whole; (try dsimp only)) | with_reducible ((with_reducible show wpAny _ _ (getAttr _ "s" _) _ _ _); refine' am_s ?k1 ?k2 ?k3 ?_; (case k1 | k2 => k_asm); (case k3 => assumption); k_whole; intro S9q t9q eS9q; (have lS8q := am_len eS9q); (have lS9q : S9q.length < 100 := am_len2 lS8q (by assumption)); (try dsimp only)) | with_reducible ((with_reducible show wpAny _ _ (subscriptTail _ _ (Value.str _ _) (Value.int _ _)) _ _ _); (try dsimp only); refine Stop.intro ?_) | with_reducible ((with_reducible show wpAny _ _ (storeName _ _ (Value.int _ _)) _ _ _); k_dflt (refine' store_int ?k1 ?k2 ?_); (case k1 | k2 => k_asm); k_whole; intro h'q t9q tk9q F'q N'q; (try k_sweep); (try dsimp only)) | walk1 | (dsimp only; walk1) | (leave1; try dsimp only) | fail))
  · rename (_ = (lb : Int)) => hb
    have e9 := fin_out p2 (win_len h2) h1 hb hn
    exact hbrk (-1) _ _ _ e9.1 ⟨fun _ => e9.2, fun _ => by decide⟩ (by assumption) (by assumption)
  · rename (_ ≠ (lb : Int)) => hb
    obtain ⟨e1, e2, e3, e4⟩ := ix_c h2 h1 p3 hb
    have g1 := ch_c h2 h1 p3 hb
    unfold Stop
    refine item_str (fit_ix e1 e2 h3) (neg_ix e1) e2 ?_
    intro _
    clear hb e1 e2 e4 h1 h3 p3
    (repeat' (first | (k_unfold; (try dsimp only)) | (k_end; wrow_close) | with_reducible ((with_reducible show wpAny _ _ (getAttr _ "s" _) _ _ _); refine' am_s ?k1 ?k2 ?k3 ?_; (case k1 | k2 => k_asm); (case k3 => assumption); k_whole; intro S9q t9q eS9q; (have lS8q := am_len eS9q); (have lS9q : S9q.length < 100 := am_len2 lS8q (by assumption)); (try dsimp only)) | with_reducible ((with_reducible show wpAny _ _ (subscriptTail _ _ (Value.str _ _) (Value.int _ _)) _ _ _); (try dsimp only); refine Stop.intro ?_) | with_reducible ((with_reducible show wpAny _ _ (storeName _ _ (Value.int _ _)) _ _ _); k_dflt (refine' store_int ?k1 ?k2 ?_); (case k1 | k2 => k_asm); k_whole; intro h'q t9q tk9q F'q N'q; (try k_sweep); (try dsimp only)) | walk1 | (dsimp only; walk1) | (leave1; try dsimp only) | fail))
    unfold Stop
    obtain ⟨f1, f2, f3⟩ := ix_w lS8q hk2 hn
    have g2 := ch_w eS9q hk2 hn
    refine item_str (fit_ix f1 f2 lS9q) (neg_ix f1) f2 ?_
    intro _
    clear f1 f2 f3 hk2 lS8q lS9q eS9q hw a9
    (repeat' (first | (k_unfold; (try dsimp only)) | (k_end; wrow_close) | with_reducible ((with_reducible show wpAny _ _ (storeName _ _ (Value.int _ _)) _ _ _); k_dflt (refine' store_int ?k1 ?k2 ?_); (case k1 | k2 => k_asm); k_whole; intro h'q t9q tk9q F'q N'q; (try k_sweep); (try dsimp only)) | walk1 | (dsimp only; walk1) | (leave1; try dsimp only) | fail))
    · rename (_ - _ ≠ (0 : Int)) => hd
      have e9 := fin_diff p2 (by rw [win_len h2]; exact e3) hn g1 g2 hd
      exact hbrk _ _ _ _ e9.1 e9.2 (by assumption) (by assumption)
    · rename (_ - _ = (0 : Int)) => hd
      have e9 := fin_same p2 (by rw [win_len h2]; exact e3) hn g1 g2 hd
      rename (Fr _ _ _ _) => F8
      rw [hd] at F8
      exact hnext _ _ _ _ e9 F8 (by assumption)

theorem Fr.to2 {h₀ : Heap} {L : Addr} {h : Heap} {m : Str → Option Value} (F : Fr h₀ L h m) {ps : List (Str × Value)} (e : ps.map (fun p => m p.1) = ps.map (fun p => some p.2)) : Fr h₀ L h (kstB m ps) ∧ kstB m ps = m :=
  ⟨Fr.toM F e, funext fun z => kstB_eq (fun p hp => List.map_inj_left.mp e p hp) (fun _ => rfl)⟩
theorem kst_hk {m : Str → Option Value} {ps : List (Str × Value)} (e : ps.map (fun p => m p.1) = ps.map (fun p => some p.2)) : ∀ p ∈ ps, m p.1 = some p.2 := fun p hp => List.map_inj_left.mp e p hp
theorem dn_1 {S W cm pl : Nat} {k : Int} (h : S = W) (e : k = (S : Int) - 1 - cm - pl) : k = (W : Int) - 1 - (cm + pl : Nat) := by omega
theorem dn_small {S W cm : Nat} (h : S = W) (h2 : W < 100) (h3 : cm ≤ W) : Builtin.Range.small ((S : Int) - 1 - cm) (-1) (-1) = true := small_down (by omega) (by omega) (by omega) (by omega)
theorem dn_size {S W cm : Nat} (h : S = W) (h3 : cm ≤ W) : Builtin.Range.rangeSize ((S : Int) - 1 - cm) (-1) (-1) = ((W - cm : Nat) : Int) := by rw [rangeSize_downNat]; omega
theorem dn_lt {pl W cm : Nat} (h : pl < W - cm) : cm + pl < W := by omega
theorem dn_end {W cm n : Nat} (h3 : cm ≤ W) (h : n = cm + (W - cm)) : n = W := by omega
theorem fin_done {t w : List Nat} {n : Nat} (p : n ≤ lcp t w) (e : n = w.length) : lcp t w = n ∧ ((0 : Int) < 0 ↔ ltb t w = true) := by
  obtain ⟨e1, e2⟩ := cmp_done n t w p e
  exact ⟨by rw [e1, e], by rw [e2]; simp⟩
theorem fab_for {w : World} {loose : List Str} {mean : ExcName → Option Value} {mg mb : Str → Option Value} {p0 : Program} {h₀ : Heap} {L : Addr} {s : Shared} {Q : Flow → Shared → Prop} {E : Value → Shared → Prop} {A : Around} {u : Str → Option Value} {x dx : Addr} {ns : Nat} {rest : List (Addr × Obj)} {tail : List DictEntry} {a1 a2 a3 a4 a5 a6 t1 t2 t3 t4 t5 t6 : Tok} {cur : Str} {c lb : Nat} {l bra ket : Int} {u2 u4 : Tok} {v : Addr} {i j ci cj : Nat} {ti tj tci tcj : Tok} {fk : Bool} {y : Addr} {e : Ent} {k cm : Nat} {tk0 td tc : Tok}
    (F : Fr h₀ L s.heap (kstB u [("self", .ref x), ("v", .ref v), ("c", .int c u2), ("lb", .int lb u4), ("i", .int i ti), ("j", .int j tj), ("common_i", .int ci tci), ("common_j", .int cj tcj), ("first_key_inspected", .bool fk), ("k", .int k tk0), ("w", .ref y), ("diff", .int 0 td), ("common", .int cm tc)])) (X : (Kf w.params).In h₀) (N : News h₀ L s.heap (LED w.params x dx ns a1 a2 a3 a4 a5 a6 t1 t2 t3 t4 t5 t6 cur (c : Int) l (lb : Int) bra ket tail rest)) (T : Top p0 loose mean mg mb h₀) (hA : A.handled = none) (hE : PassesOwn (MD w) A (fabE L) E) (a9 : AmIn w.params h₀ y e) (h1 : lb ≤ c) (h2 : c ≤ cur.length) (h3 : cur.length < 100) (hw : e.s.length < 100) (p2 : cm ≤ lcp ((((ls cur).take c).drop lb).reverse) e.s)
    (hret : ∀ u d td' tc' h tk, (d < 0 ↔ ltb ((((ls cur).take c).drop lb).reverse) e.s = true) → Fr h₀ L h (kstB u [("self", .ref x), ("v", .ref v), ("c", .int c u2), ("lb", .int lb u4), ("i", .int i ti), ("j", .int j tj), ("common_i", .int ci tci), ("common_j", .int cj tcj), ("first_key_inspected", .bool fk), ("k", .int k tk0), ("diff", .int d td'), ("common", .int (lcp ((((ls cur).take c).drop lb).reverse) e.s : Nat) tc')]) → News h₀ L h (LED w.params x dx ns a1 a2 a3 a4 a5 a6 t1 t2 t3 t4 t5 t6 cur (c : Int) l (lb : Int) bra ket tail rest) → Q .next { s with heap := h, toks := tk }) :
    wpAny (MD w) A (exec (stA fabW 4) (fabE L)) Q E s := by
  revert F X N T hE
  unfold MD fabE
  k_fill
  intro F X N T hE
  conv in (exec _ _) => arg 1; whnf
  try dsimp only
  have p4 := Nat.le_trans p2 (lcp_le_right _ _)
  with_unfolding_all refine' For_invVF F ?k1 ?k2 ?_
  (case k1 => exact rfl)
  (case k2 => exact rfl)
  k_whole
  (repeat' (first | (k_unfold; (try dsimp only)) | (k_end; wrow_close) | with_reducible ((with_reducible show wpAny _ _ (getAttr _ "s" _) _ _ _); refine' am_s ?k1 ?k2 ?k3 ?_; (case k1 | k2 => k_asm); (case k3 => assumption); k_whole; intro S9q t9q eS9q; (have lS8q := am_len eS9q); (have lS9q : S9q.length < 100 := am_len2 lS8q (by assumption)); (try dsimp only)) | with_reducible ((with_reducible show wpAny _ _ (pyIter (Value.ref _)) _ _ _); (try dsimp only); refine Stop.intro ?_) | with_reducible ((with_reducible show wpAny _ _ (storeName _ _ (Value.int _ _)) _ _ _); k_dflt (refine' store_int ?k1 ?k2 ?_); (case k1 | k2 => k_asm); k_whole; intro h'q t9q tk9q F'q N'q; (try k_sweep); (try dsimp only)) | walk1 | (dsimp only; walk1) | (leave1; try dsimp only) | fail))
  unfold Stop
  rename (IsRange _ _ _ _ _ _ _ _) => R9
  rename (Fr _ _ _ _) => F9
  rename (News _ _ _ _) => N9
  refine kst_rangeD (σ := Nat × Nat × Nat) (n := e.s.length - cm) (fun _ => LED w.params x dx ns a1 a2 a3 a4 a5 a6 t1 t2 t3 t4 t5 t6 cur (c : Int) l (lb : Int) bra ket tail rest)
    (fun d => [("diff", .int 0 d.1), ("common", .int d.2.1 d.2.2)]) (fun _ => True) [] (fun pre d => d.2.1 = cm + pre.length ∧ d.2.1 ≤ lcp ((((ls cur).take c).drop lb).reverse) e.s) (td, cm, tc) hA R9 (dn_small lS8q hw p4) (dn_size lS8q p4) F9 N9 trivial (kst_hk (by kernel_rfl!)) ⟨rfl, p2⟩ ?_ ?_
  · rintro ⟨td, n, tc⟩ pre k2 t u h9 tk9 own ek3 hlen hoff _ ⟨p1, p2⟩ F9 N9
    dsimp only at p1 p2 F9 N9
    subst p1
    obtain ⟨F7, e7⟩ := Fr.to2 F9 (ps := [("i2", .int k2 t), ("self", .ref x), ("c", .int c u2), ("lb", .int lb u4), ("w", .ref y), ("diff", .int 0 td), ("common", .int (cm + pre.length : Nat) tc)]) (by kernel_rfl!)
    refine fab_cmp (s := { s with heap := h9, toks := tk9 }) F7 X N9 T a9 h1 h2 h3 hw (dn_lt hlen) (dn_1 lS8q ek3) p2 (fun d td' h tk g1 g2 F N => ?_) (fun td' tc' h tk g1 F N => ?_)
    · have g3 := hret _ d td' tc h tk g2 (Fr.toM F ?_) ?_
      · exact g3
      · rw [g1]; kernel_rfl!
      · exact fun p hp => N p (List.mem_append_left _ hp)
    · rw [e7] at F
      refine kst_end (td', cm + pre.length + 1, tc') F (show News _ _ _ ((LED w.params x dx ns a1 a2 a3 a4 a5 a6 t1 t2 t3 t4 t5 t6 cur (c : Int) l (lb : Int) bra ket tail rest) ++ own) from N) (fun p hp => List.mem_append_left _ hp) (fun p hp => List.mem_append_right _ hp) rfl trivial (kst_hk (by kernel_rfl!)) (by intro z z1 z2 z3; have d1 := z2 _ (.head _); have d2 := z2 _ (.tail _ (.head _)); simp only [kstB, if_neg z1, if_neg d1, if_neg d2, List.contains_nil, Bool.false_eq_true, if_false]) ⟨by rw [List.length_append]; rfl, g1⟩
  · rintro ⟨td, n, tc⟩ u h9 tk9 _ ⟨p1, p2⟩ F9 N9
    dsimp only at p1 p2 F9 N9
    rw [downKs_length] at p1
    obtain ⟨g1, g2⟩ := fin_done p2 (dn_end p4 p1)
    refine hret _ 0 td tc h9 tk9 g2 (Fr.toM F9 ?_) N9
    rw [g1]; kernel_rfl!

theorem fab_if1 {w : World} {loose : List Str} {mean : ExcName → Option Value} {mg mb : Str → Option Value} {p0 : Program} {h₀ : Heap} {L : Addr} {s : Shared} {Q : Flow → Shared → Prop} {E : Value → Shared → Prop} {A : Around} {u : Str → Option Value} {led : List (Addr × Obj)} {x v : Addr} {c lb : Nat} {u2 u4 : Tok} {i j ci cj : Nat} {ti tj tci tcj : Tok} {fk : Bool} {k cm : Nat} {d : Int} {tk0 td tc : Tok}
    (F : Fr h₀ L s.heap (kstB u [("self", .ref x), ("v", .ref v), ("c", .int c u2), ("lb", .int lb u4), ("i", .int i ti), ("j", .int j tj), ("common_i", .int ci tci), ("common_j", .int cj tcj), ("first_key_inspected", .bool fk), ("k", .int k tk0), ("diff", .int d td), ("common", .int cm tc)])) (X : (Kf w.params).In h₀) (N : News h₀ L s.heap (led)) (T : Top p0 loose mean mg mb h₀)
    (hret : ∀ u i1 j1 ci1 cj1 b1 b2 b3 b4 h tk, Nx d i j ci cj k cm i1 j1 ci1 cj1 → Fr h₀ L h (kstB u [("self", .ref x), ("v", .ref v), ("c", .int c u2), ("lb", .int lb u4), ("i", .int i1 b1), ("j", .int j1 b2), ("common_i", .int ci1 b3), ("common_j", .int cj1 b4), ("first_key_inspected", .bool fk)]) → News h₀ L h led → Q .next { s with heap := h, toks := tk }) :
    wpAny (MD w) A (exec (stA fabW 5) (fabE L)) Q E s := by
  revert F X N T
  unfold MD fabE
  k_fill
  intro F X N T
  conv in (exec _ _) => arg 1; whnf
  try dsimp only
  try k_fold
  k_steps
  · exact hret _ i k ci cm ti tk0 tci tc _ _ (.inl ⟨by assumption, rfl, rfl, rfl, rfl⟩) (Fr.toM (by assumption) (by kernel_rfl!)) (by assumption)
  · exact hret _ k j cm cj tk0 tj tc tcj _ _ (.inr ⟨by assumption, rfl, rfl, rfl, rfl⟩) (Fr.toM (by assumption) (by kernel_rfl!)) (by assumption)
theorem sub_le1 {i j : Nat} : ((j : Int) - i ≤ 1) ↔ j ≤ i + 1 := by omega
theorem fab_if2 {w : World} {loose : List Str} {mean : ExcName → Option Value} {mg mb : Str → Option Value} {p0 : Program} {h₀ : Heap} {L : Addr} {s : Shared} {Q : Flow → Shared → Prop} {E : Value → Shared → Prop} {A : Around} {u : Str → Option Value} {led : List (Addr × Obj)} {i j : Nat} {ti tj : Tok} {fk : Bool}
    (F : Fr h₀ L s.heap (kstB u [("i", .int i ti), ("j", .int j tj), ("first_key_inspected", .bool fk)])) (X : (Kf w.params).In h₀) (N : News h₀ L s.heap (led)) (T : Top p0 loose mean mg mb h₀)
    (hbrk : ∀ h tk, j ≤ i + 1 → 0 < i ∨ j = i ∨ fk = true → Fr h₀ L h (kstB u [("i", .int i ti), ("j", .int j tj), ("first_key_inspected", .bool fk)]) → News h₀ L h led → Q .brk { s with heap := h, toks := tk })
    (hset : ∀ h tk, j ≤ i + 1 → ¬ 0 < i → j ≠ i → fk = false → Fr h₀ L h (kstB (kstB u [("i", .int i ti), ("j", .int j tj), ("first_key_inspected", .bool fk)]) [("first_key_inspected", .bool true)]) → News h₀ L h led → Q .next { s with heap := h, toks := tk })
    (hgo : ∀ h tk, ¬ j ≤ i + 1 → Fr h₀ L h (kstB u [("i", .int i ti), ("j", .int j tj), ("first_key_inspected", .bool fk)]) → News h₀ L h led → Q .next { s with heap := h, toks := tk }) :
    wpAny (MD w) A (exec (stA fabW 6) (fabE L)) Q E s := by
  revert F X N T
  unfold MD fabE
  k_fill
  intro F X N T
  conv in (exec _ _) => arg 1; whnf
  try dsimp only
  try k_fold
  (repeat' (first | (k_unfold; (try dsimp only)) | (k_end; wrow_close) | with_reducible ((with_reducible show wpAny _ _ (storeName _ _ (Value.int _ _)) _ _ _); k_dflt (refine' store_int ?k1 ?k2 ?_); (case k1 | k2 => k_asm); k_whole; intro h'q t9q tk9q F'q N'q; (try k_sweep); (try dsimp only)) | walk1 | (dsimp only; walk1) | (leave1; try dsimp only) | fail))
  all_goals first
    | exact hbrk _ _ (sub_le1.mp (by assumption)) (.inl (Int.natCast_pos.mp (by assumption))) (by assumption) (by assumption)
    | exact hbrk _ _ (sub_le1.mp (by assumption)) (.inr (.inl (Int.ofNat_inj.mp (by assumption)))) (by assumption) (by assumption)
    | exact hbrk _ _ (sub_le1.mp (by assumption)) (.inr (.inr (by assumption))) (by assumption) (by assumption)
    | exact hset _ _ (sub_le1.mp (by assumption)) (fun h => absurd (Int.natCast_pos.mpr h) (by assumption)) (fun h => absurd (congrArg Nat.cast h) (by assumption)) (by assumption) (by assumption) (by assumption)
    | exact hgo _ _ (fun h => absurd (sub_le1.mpr h) (by assumption)) (by assumption) (by assumption)
theorem seq_one {M : Model} {A : Around} {Q : Flow → Shared → Prop} {E : Value → Shared → Prop} {st : Stmt} {r : List Stmt} {env : Env} {s : Shared}
    (h : ∀ Q', (∀ s, wpAny M A (execs r env) Q E s → Q' .next s) → (∀ s, Q .brk s → Q' .brk s) → (∀ v s, Q (.ret v) s → Q' (.ret v) s) → wpAny M A (exec st env) Q' E s) : wpAny M A (execs (st :: r) env) Q E s := by
  have e1 : execs (st :: r) env = (exec st env >>= fun f => match f with | .next => execs r env | f => pure f) := rfl
  rw [e1]
  exact wpAny_bind (h _ (fun _ x => x) (fun _ x => wpAny_pure x) (fun _ _ x => wpAny_pure x))
theorem ij_fk {i j : Nat} {fk : Bool} (h : (i = 0 ∧ j = 1 ∧ fk = true) ∨ (i + 1 < j ∧ fk = false)) : i < j := by omega
theorem mid_ij {i j : Nat} (h : i < j) : i ≤ i + (j - i) / 2 ∧ i + (j - i) / 2 ≤ j := by omega
noncomputable def muF (i j : Nat) (fk : Bool) : Nat := 2 * (j - i) + (if fk then 0 else 1)
theorem mu_set {i j i1 j1 : Nat} (h : 2 ≤ j - i) (h1 : i1 = 0 ∧ j1 = 1) : muF i1 j1 true < muF i j false := by simp [muF]; omega
theorem mu_go {i j i1 j1 : Nat} (h : j1 - i1 < j - i) : muF i1 j1 false < muF i j false := by simp [muF]; omega
theorem fab_body {w : World} {loose : List Str} {mean : ExcName → Option Value} {mg mb : Str → Option Value} {p0 : Program} {h₀ : Heap} {L : Addr} {s : Shared} {Q : Flow → Shared → Prop} {E : Value → Shared → Prop} {A : Around} {u : Str → Option Value} {x dx : Addr} {ns : Nat} {rest : List (Addr × Obj)} {tail : List DictEntry} {a1 a2 a3 a4 a5 a6 t1 t2 t3 t4 t5 t6 : Tok} {cur : Str} {c lb : Nat} {l bra ket : Int} {u2 u4 : Tok} {v : Addr} {i j ci cj : Nat} {ti tj tci tcj : Tok} {fk : Bool} {TB : Tbl}
    (F : Fr h₀ L s.heap (kstB u [("self", .ref x), ("v", .ref v), ("c", .int c u2), ("lb", .int lb u4), ("i", .int i ti), ("j", .int j tj), ("common_i", .int ci tci), ("common_j", .int cj tcj), ("first_key_inspected", .bool fk)])) (X : (Kf w.params).In h₀) (N : News h₀ L s.heap (LED w.params x dx ns a1 a2 a3 a4 a5 a6 t1 t2 t3 t4 t5 t6 cur (c : Int) l (lb : Int) bra ket tail rest)) (T : Top p0 loose mean mg mb h₀) (hT : TabIn w.params h₀ v TB) (hA : A.handled = none) (hE : PassesOwn (MD w) A (fabE L) E) (h1 : lb ≤ c) (h2 : c ≤ cur.length) (h3 : cur.length < 100)
    (h4 : tblOk TB = true) (h5 : TB.length < 1000) (h7 : ∀ e ∈ TB, e.s.length < 100) (q1 : Inv TB ((((ls cur).take c).drop lb).reverse) i j ci cj) (hfk : (i = 0 ∧ j = 1 ∧ fk = true) ∨ (i + 1 < j ∧ fk = false))
    (hbrk : ∀ u (i j ci cj : Nat) ti tj tci tcj h tk, Stands TB ((((ls cur).take c).drop lb).reverse) (i : Nat) ci → Fr h₀ L h (kstB u [("self", .ref x), ("v", .ref v), ("c", .int c u2), ("lb", .int lb u4), ("i", .int i ti), ("j", .int j tj), ("common_i", .int ci tci), ("common_j", .int cj tcj), ("first_key_inspected", .bool fk)]) → News h₀ L h (LED w.params x dx ns a1 a2 a3 a4 a5 a6 t1 t2 t3 t4 t5 t6 cur (c : Int) l (lb : Int) bra ket tail rest) → Q .brk { s with heap := h, toks := tk })
    (hnext : ∀ u i' j' ci' cj' fk' ti' tj' tci' tcj' h tk, Inv TB ((((ls cur).take c).drop lb).reverse) i' j' ci' cj' → (i' = 0 ∧ j' = 1 ∧ fk' = true) ∨ (i' + 1 < j' ∧ fk' = false) → muF i' j' fk' < muF i j fk → Fr h₀ L h (kstB u [("self", .ref x), ("v", .ref v), ("c", .int c u2), ("lb", .int lb u4), ("i", .int i' ti'), ("j", .int j' tj'), ("common_i", .int ci' tci'), ("common_j", .int cj' tcj'), ("first_key_inspected", .bool fk')]) → News h₀ L h (LED w.params x dx ns a1 a2 a3 a4 a5 a6 t1 t2 t3 t4 t5 t6 cur (c : Int) l (lb : Int) bra ket tail rest) → Q .next { s with heap := h, toks := tk }) :
    wpAny (MD w) A (execs fabW (fabE L)) Q E s := by
  have hij := ij_fk hfk
  have hm := mid_ij hij
  have hkn := Int.ofNat_lt.mp (mid_lt hij q1.jn)
  refine fab_head (led := LED w.params x dx ns a1 a2 a3 a4 a5 a6 t1 t2 t3 t4 t5 t6 cur (c : Int) l (lb : Int) bra ket tail rest) (ci := ci) (cj := cj) (ti := ti) (tj := tj) (tci := tci) (tcj := tcj) (Fr.toM F (by kernel_rfl!)) X N T hT hA hij q1.jn h5 fun y td tk2 h tk tk3 a9 F N => ?_
  rw [show fabW.drop 4 = [stA fabW 4, stA fabW 5, stA fabW 6] from by kernel_rfl!]
  refine seq_one fun Q' hq _ _ => fab_for (k := i + (j - i) / 2) (cm := min ci cj) (i := i) (j := j) (ci := ci) (cj := cj) (ti := ti) (tj := tj) (tci := tci) (tcj := tcj) (fk := fk) (v := v) (u2 := u2) (u4 := u4) (tk0 := tk2) (td := td) (tc := tk3) (Fr.toM F (by kernel_rfl!)) X N T hA hE a9 h1 h2 h3 (h7 _ (Tbl.at_mem h4 hkn)) (turn_skip h4 q1 hm.1 hkn hm.2) fun u d td' tc' h tk e1 F N => hq _ ?_
  refine seq_one fun Q' hq _ _ => fab_if1 (led := LED w.params x dx ns a1 a2 a3 a4 a5 a6 t1 t2 t3 t4 t5 t6 cur (c : Int) l (lb : Int) bra ket tail rest) F X N T fun u i1 j1 ci1 cj1 b1 b2 b3 b4 h tk hN F N => hq _ ?_
  obtain ⟨Aq, B1, C, D, G⟩ := nx_facts h4 q1 hfk e1 rfl hN
  refine seq_one fun Q' hq hqb _ => fab_if2 (led := LED w.params x dx ns a1 a2 a3 a4 a5 a6 t1 t2 t3 t4 t5 t6 cur (c : Int) l (lb : Int) bra ket tail rest) (i := i1) (j := j1) (ti := b1) (tj := b2) (fk := fk) (Fr.toM F (by kernel_rfl!)) X N T (fun h tk g1 g2 F N => hqb _ ?_) (fun h tk g1 g2 g3 g4 F N => hq _ (wpAny_execs_nil ?_)) (fun h tk g1 F N => hq _ (wpAny_execs_nil ?_))
  · exact hbrk _ i1 j1 ci1 cj1 b1 b2 b3 b4 _ _ (B1 g1 g2) (Fr.toM F (by kernel_rfl!)) N
  · subst g4
    exact hnext _ i1 j1 ci1 cj1 true b1 b2 b3 b4 _ _ Aq (.inl ⟨(D g1 g2 g3 rfl).1, (D g1 g2 g3 rfl).2, rfl⟩) (mu_set (G rfl) (D g1 g2 g3 rfl)) (Fr.toM F (by kernel_rfl!)) N
  · obtain ⟨g4, g5⟩ := C g1
    subst g4
    exact hnext _ i1 j1 ci1 cj1 false b1 b2 b3 b4 _ _ Aq (.inr ⟨Nat.lt_of_not_le g1, rfl⟩) (mu_go g5) (Fr.toM F (by kernel_rfl!)) N

theorem wh_true {w : World} {A : Around} {E : Value → Shared → Prop} {Q : Flow → Shared → Prop} {s : Shared} {env : Env} {h₀ : Heap} {L : Addr} {body : List Stmt} {pos pos1 : Pos} {kk : Nat} {m : Str → Option Value} {led : List (Addr × Obj)} (J : Nat → (Str → Option Value) → Prop) {n₀ : Nat}
    (F : Fr h₀ L s.heap m) (N : News h₀ L s.heap led) (hJ : J n₀ m)
    (turn : ∀ n m₁ h tk Q', J n m₁ → Fr h₀ L h m₁ → News h₀ L h led → (∀ s', Q .next s' → Q' .brk s') → (∀ v s', Q (.ret v) s' → Q' (.ret v) s') →
      (∀ n' m' h' tk', n' < n → J n' m' → Fr h₀ L h' m' → News h₀ L h' led → Q' .next { s with heap := h', toks := tk' }) → wpAny (MD w) A (execs body env) Q' E { s with heap := h, toks := tk })
    (hE : PassesOwn (MD w) A env E) : wpAny (MD w) A (exec (.While (.Constant (.bool true) kk pos1) body [] pos) env) Q E s := by
  unfold MD at *
  refine While_inv2 (fun n m nx => nx = led ∧ J n m) F N ⟨rfl, hJ⟩ ?_ hE
  rintro n m₁ _ h tk F₁ N₁ ⟨rfl, J₁⟩
  k_steps
  exact turn n m₁ h _ _ J₁ F₁ N₁ (fun _ x => x) (fun _ _ x => x) (fun n' m' h' tk' l j F N => ⟨h', tk', m', _, n', rfl, F, N, l, rfl, j⟩)
inductive J1 (TB : Tbl) (tr : List Nat) (x v : Addr) (c lb : Nat) (u2 u4 : Tok) : Nat → (Str → Option Value) → Prop
  | mk (u : Str → Option Value) (i j ci cj : Nat) (fk : Bool) (ti tj tci tcj : Tok) (q1 : Inv TB tr i j ci cj) (q2 : (i = 0 ∧ j = 1 ∧ fk = true) ∨ (i + 1 < j ∧ fk = false)) : J1 TB tr x v c lb u2 u4 (muF i j fk) (kstB u [("self", .ref x), ("v", .ref v), ("c", .int c u2), ("lb", .int lb u4), ("i", .int i ti), ("j", .int j tj), ("common_i", .int ci tci), ("common_j", .int cj tcj), ("first_key_inspected", .bool fk)])
theorem fab_w1 {w : World} {loose : List Str} {mean : ExcName → Option Value} {mg mb : Str → Option Value} {p0 : Program} {h₀ : Heap} {L : Addr} {s : Shared} {Q : Flow → Shared → Prop} {E : Value → Shared → Prop} {A : Around} {u : Str → Option Value} {x dx : Addr} {ns : Nat} {rest : List (Addr × Obj)} {tail : List DictEntry} {a1 a2 a3 a4 a5 a6 t1 t2 t3 t4 t5 t6 : Tok} {cur : Str} {c lb : Nat} {l bra ket : Int} {u2 u4 : Tok} {v : Addr} {ti tj tci tcj : Tok} {TB : Tbl}
    (F : Fr h₀ L s.heap (kstB u [("self", .ref x), ("v", .ref v), ("c", .int c u2), ("lb", .int lb u4), ("i", .int 0 ti), ("j", .int TB.length tj), ("common_i", .int 0 tci), ("common_j", .int 0 tcj), ("first_key_inspected", .bool false)])) (X : (Kf w.params).In h₀) (N : News h₀ L s.heap (LED w.params x dx ns a1 a2 a3 a4 a5 a6 t1 t2 t3 t4 t5 t6 cur (c : Int) l (lb : Int) bra ket tail rest)) (T : Top p0 loose mean mg mb h₀) (hT : TabIn w.params h₀ v TB) (hA : A.handled = none) (hE : PassesOwn (MD w) A (fabE L) E) (h1 : lb ≤ c) (h2 : c ≤ cur.length) (h3 : cur.length < 100)
    (h4 : tblOk TB = true) (h5 : TB.length < 1000) (h6 : 2 ≤ TB.length) (h7 : ∀ e ∈ TB, e.s.length < 100)
    (hret : ∀ u (i ci : Nat) ti tci h tk, Stands TB ((((ls cur).take c).drop lb).reverse) (i : Nat) ci → Fr h₀ L h (kstB u [("self", .ref x), ("v", .ref v), ("c", .int c u2), ("i", .int i ti), ("common_i", .int ci tci)]) → News h₀ L h (LED w.params x dx ns a1 a2 a3 a4 a5 a6 t1 t2 t3 t4 t5 t6 cur (c : Int) l (lb : Int) bra ket tail rest) → Q .next { s with heap := h, toks := tk }) :
    wpAny (MD w) A (exec (stA fabB 7) (fabE L)) Q E s := by
  conv in (exec _ _) => arg 1; whnf
  refine wh_true (J1 TB ((((ls cur).take c).drop lb).reverse) x v c lb u2 u4) F N (J1.mk u 0 TB.length 0 0 false ti tj tci tcj ⟨Nat.zero_le _, Nat.le_refl _, Nat.lt_of_lt_of_le (by decide) h6, .inl ⟨rfl, rfl⟩, .inl ⟨rfl, rfl⟩⟩ (.inr ⟨Nat.lt_of_lt_of_le (by decide) h6, rfl⟩)) ?_ hE
  rintro _ _ h tk Q' ⟨u, i, j, ci, cj, fk, ti, tj, tci, tcj, q1, q2⟩ F N hb _ hn
  exact fab_body (s := { s with heap := h, toks := tk }) F X N T hT hA hE h1 h2 h3 h4 h5 h7 q1 q2 (fun u i j ci cj ti tj tci tcj h tk S F N => hb _ (hret _ i ci ti tci _ _ S (Fr.toM F (by kernel_rfl!)) N)) (fun u i j ci cj fk ti tj tci tcj h tk q1 q2 l F N => hn _ _ _ _ l (J1.mk u i j ci cj fk ti tj tci tcj q1 q2) F N)
noncomputable def fabV : List Stmt := whB (stA fabB 8)
theorem fab_v {w : World} {loose : List Str} {mean : ExcName → Option Value} {mg mb : Str → Option Value} {p0 : Program} {h₀ : Heap} {L : Addr} {s : Shared} {Q : Flow → Shared → Prop} {E : Value → Shared → Prop} {A : Around} {u : Str → Option Value} {x dx : Addr} {ns : Nat} {rest : List (Addr × Obj)} {tail : List DictEntry} {a1 a2 a3 a4 a5 a6 t1 t2 t3 t4 t5 t6 : Tok} {cur : Str} {c lb : Nat} {l bra ket : Int} {u2 : Tok} {v : Addr} {i ci : Nat} {ti tci : Tok} {TB : Tbl}
    (F : Fr h₀ L s.heap (kstB u [("self", .ref x), ("v", .ref v), ("c", .int c u2), ("i", .int i ti), ("common_i", .int ci tci)])) (X : (Kf w.params).In h₀) (N : News h₀ L s.heap (LED w.params x dx ns a1 a2 a3 a4 a5 a6 t1 t2 t3 t4 t5 t6 cur (c : Int) l (lb : Int) bra ket tail rest)) (T : Top p0 loose mean mg mb h₀) (hT : TabIn w.params h₀ v TB) (hx : x ≠ dx) (hrest : ∀ p ∈ rest, p.1 ≠ dx) (htl : tail.length ≤ 10)
    (h4 : tblOk TB = true) (h5 : TB.length < 1000) (h7 : ∀ e ∈ TB, e.s.length < 100) (S9 : Stands TB ((((ls cur).take c).drop lb).reverse) (i : Nat) ci)
    (hret : ∀ r (n : Nat) c' t t2' m h tk, Told TB ((((ls cur).take c).drop lb).reverse) r n → c' = (c : Int) - n → Fr h₀ L h m → News h₀ L h (LED w.params x dx ns a1 a2 a3 a4 a5 a6 t1 t2' t3 t4 t5 t6 cur c' l (lb : Int) bra ket tail rest) → Q (.ret (.int r t)) { s with heap := h, toks := tk })
    (hnext : ∀ u (i' : Nat) ti' h tk, i' < i → Stands TB ((((ls cur).take c).drop lb).reverse) (i' : Nat) ci → Fr h₀ L h (kstB u [("self", .ref x), ("v", .ref v), ("c", .int c u2), ("i", .int i' ti'), ("common_i", .int ci tci)]) → News h₀ L h (LED w.params x dx ns a1 a2 a3 a4 a5 a6 t1 t2 t3 t4 t5 t6 cur (c : Int) l (lb : Int) bra ket tail rest) → Q .next { s with heap := h, toks := tk }) :
    wpAny (MD w) A (execs fabV (fabE L)) Q E s := by
  revert F X N T
  unfold MD fabE
  k_fill
  intro F X N T
  conv in (execs _ _) => arg 1; whnf
  try dsimp only
  try k_fold
  have hi := (S9.2 (Int.natCast_nonneg _)).1
  change i < _ at hi
  have hw := h7 _ (Tbl.at_mem h4 hi)
  (repeat' (first | (k_unfold; (try dsimp only)) | (k_end; wrow_close) | with_reducible ((with_reducible show wpAny _ _ (subscriptTail (PySem.Expr.Name _ _) (PySem.Expr.Name _ _) (Value.ref _) (Value.int _ _)) _ _ _); (try dsimp only); refine Stop.intro ?_) | with_reducible ((with_reducible show wpAny _ _ (storeName _ _ (Value.int _ _)) _ _ _); k_dflt (refine' store_int ?k1 ?k2 ?_); (case k1 | k2 => k_asm); k_whole; intro h'q t9q tk9q F'q N'q; (try k_sweep); (try dsimp only)) | walk1 | (dsimp only; walk1) | (leave1; try dsimp only) | fail))
  unfold Stop
  refine tab_item (by assumption) hT (Int.natCast_nonneg _) (Int.ofNat_lt.mpr hi) h5 ?_
  intro y a9
  change AmIn _ _ _ (TB.at i) at a9
  (repeat' (first | (k_unfold; (try dsimp only)) | (k_end; wrow_close) | with_reducible ((with_reducible show wpAny _ _ (getAttr _ "s" _) _ _ _); refine' am_s ?k1 ?k2 ?k3 ?_; (case k1 | k2 => k_asm); (case k3 => assumption); k_whole; intro S9q t9q eS9q; (have lS8q := am_len eS9q); (have lS9q : S9q.length < 100 := am_len2 lS8q (by assumption)); (try dsimp only)) | with_reducible ((with_reducible show wpAny _ _ (getAttr _ "substring_i" _) _ _ _); refine' am_sub ?k1 ?k2 ?k3 ?_; (case k1 | k2 => k_asm); (case k3 => assumption); k_whole; intro t9q; (try dsimp only)) | with_reducible ((with_reducible show wpAny _ _ (getAttr _ "result" _) _ _ _); refine' am_res ?k1 ?k2 ?k3 ?_; (case k1 | k2 => k_asm); (case k3 => assumption); k_whole; intro t9q; (try dsimp only)) | with_reducible ((with_reducible show wpAny _ _ (getAttr (Value.ref _) _ _) _ _ _); (first | with_reducible refine' get_cur ?k1 ?k2 ?k3 ?_ | with_reducible refine' get_c ?k1 ?k2 ?k3 ?_ | with_reducible refine' get_lb ?k1 ?k2 ?k3 ?_); (case k1 | k2 | k3 => k_asm); k_whole; (try dsimp only)) | with_reducible ((with_reducible show wpAny _ _ (setAttr (Value.ref _) _ _) _ _ _); (with_reducible refine' set_c ?k0 ?kx ?kr ?k1 ?k2 ?k3 ?_); (case k1 | k2 | k3 => k_asm); (case kx | kr | k0 => assumption); k_whole; intro h'q F'q N'q; (try k_sweep); (try dsimp only)) | with_reducible ((with_reducible show wpAny _ _ (storeName _ _ (Value.int _ _)) _ _ _); k_dflt (refine' store_int ?k1 ?k2 ?_); (case k1 | k2 => k_asm); k_whole; intro h'q t9q tk9q F'q N'q; (try k_sweep); (try dsimp only)) | walk1 | (dsimp only; walk1) | (leave1; try dsimp only) | fail))
  · rename (((_ : Int) ≤ _)) => hc
    exact hret _ (TB.at i).s.length ((c : Int) - S9q.length) _ _ _ _ _ (told_here h4 (i := (i : Int)) (Int.natCast_nonneg _) S9 (by show (TB.at i).s.length ≤ ci; omega)) (by rw [lS8q]) (by assumption) (by assumption)
  · rename (¬ ((Str.length S9q : Int) ≤ (ci : Int))) => hc
    rename (Tbl.at TB i).sub < 0 => hs
    have S8 := stands_next h4 (i := (i : Int)) (Int.natCast_nonneg _) S9 (by show ¬ (TB.at i).s.length ≤ ci; rw [← lS8q]; exact fun h => hc (Int.ofNat_le.mpr h))
    change Stands TB _ (TB.at i).sub ci at S8
    exact hret 0 0 (c : Int) _ _ _ _ _ (told_none hs S8) (by simp) (by assumption) (by assumption)
  · rename (¬ ((Str.length S9q : Int) ≤ (ci : Int))) => hc
    rename (¬ (Tbl.at TB i).sub < 0) => hs
    have S8 := stands_next h4 (i := (i : Int)) (Int.natCast_nonneg _) S9 (by show ¬ (TB.at i).s.length ≤ ci; rw [← lS8q]; exact fun h => hc (Int.ofNat_le.mpr h))
    change Stands TB _ (TB.at i).sub ci at S8
    have hsub := (tbl_parts h4).2.2.1 i hi
    rename (Fr _ _ _ _) => F8
    obtain ⟨n', en⟩ := Int.eq_ofNat_of_zero_le (Int.not_lt.mp hs)
    rw [en] at F8 S8 hsub
    exact hnext _ n' t9q _ _ (Int.ofNat_lt.mp hsub) S8 (Fr.toM F8 (by kernel_rfl!)) (by assumption)
inductive J2 (TB : Tbl) (tr : List Nat) (x v : Addr) (c ci : Nat) (u2 tci : Tok) : Nat → (Str → Option Value) → Prop
  | mk (u : Str → Option Value) (i : Nat) (ti : Tok) (q : Stands TB tr (i : Nat) ci) : J2 TB tr x v c ci u2 tci i (kstB u [("self", .ref x), ("v", .ref v), ("c", .int c u2), ("i", .int i ti), ("common_i", .int ci tci)])
theorem fab_w2 {w : World} {loose : List Str} {mean : ExcName → Option Value} {mg mb : Str → Option Value} {p0 : Program} {h₀ : Heap} {L : Addr} {s : Shared} {Q : Flow → Shared → Prop} {E : Value → Shared → Prop} {A : Around} {u : Str → Option Value} {x dx : Addr} {ns : Nat} {rest : List (Addr × Obj)} {tail : List DictEntry} {a1 a2 a3 a4 a5 a6 t1 t2 t3 t4 t5 t6 : Tok} {cur : Str} {c lb : Nat} {l bra ket : Int} {u2 : Tok} {v : Addr} {i ci : Nat} {ti tci : Tok} {TB : Tbl}
    (F : Fr h₀ L s.heap (kstB u [("self", .ref x), ("v", .ref v), ("c", .int c u2), ("i", .int i ti), ("common_i", .int ci tci)])) (X : (Kf w.params).In h₀) (N : News h₀ L s.heap (LED w.params x dx ns a1 a2 a3 a4 a5 a6 t1 t2 t3 t4 t5 t6 cur (c : Int) l (lb : Int) bra ket tail rest)) (T : Top p0 loose mean mg mb h₀) (hT : TabIn w.params h₀ v TB) (hE : PassesOwn (MD w) A (fabE L) E) (hx : x ≠ dx) (hrest : ∀ p ∈ rest, p.1 ≠ dx) (htl : tail.length ≤ 10)
    (h4 : tblOk TB = true) (h5 : TB.length < 1000) (h7 : ∀ e ∈ TB, e.s.length < 100) (S9 : Stands TB ((((ls cur).take c).drop lb).reverse) (i : Nat) ci)
    (hret : ∀ r (n : Nat) c' t t2' m h tk, Told TB ((((ls cur).take c).drop lb).reverse) r n → c' = (c : Int) - n → Fr h₀ L h m → News h₀ L h (LED w.params x dx ns a1 a2 a3 a4 a5 a6 t1 t2' t3 t4 t5 t6 cur c' l (lb : Int) bra ket tail rest) → Q (.ret (.int r t)) { s with heap := h, toks := tk }) :
    wpAny (MD w) A (exec (stA fabB 8) (fabE L)) Q E s := by
  conv in (exec _ _) => arg 1; whnf
  refine wh_true (J2 TB ((((ls cur).take c).drop lb).reverse) x v c ci u2 tci) F N (J2.mk u i ti S9) ?_ hE
  rintro _ _ h tk Q' ⟨u, i, ti, S9⟩ F N _ hr hn
  exact fab_v (s := { s with heap := h, toks := tk }) F X N T hT hx hrest htl h4 h5 h7 S9 (fun r n c' t t2' m h tk g1 g2 F N => hr _ _ (hret r n c' t t2' m h tk g1 g2 F N)) (fun u i' ti' h tk l S F N => hn _ _ _ _ l (J2.mk u i' ti' S) F N)
theorem nat_le {a b : Nat} (h : (a : Int) ≤ (b : Int)) : a ≤ b := Int.ofNat_le.mp h
theorem find_among_b_spec {w : World} {v : Addr} {TB : Tbl} (σ : St) (h0 : 0 ≤ σ.lb) (h1 : σ.lb ≤ σ.c) (h2 : σ.c ≤ (σ.cur.length : Int)) (h3 : σ.cur.length < 100) (h4 : tblOk TB = true) (h5 : TB.length < 1000) (h6 : 2 ≤ TB.length) (h7 : ∀ e ∈ TB, e.s.length < 100) :
    Meth w 140 [.ref v] 1 (fun h => TabIn w.params h v TB) σ (fun v0 σ' => ∃ r n t, v0 = .int r t ∧ Told TB (((ls σ.cur).take σ.c.toNat).drop σ.lb.toNat).reverse r n ∧ σ' = { σ with c := σ.c - n }) := by
  unfold Meth MD
  k_fill
  intro loose mean mg mb p0 dp un gd cn cs a ccd cl outer A₀ base h₀ L m s Q E x dx ns rest a1 a2 a3 a4 a5 a6 a7 t1 t2 t3 t4 t5 t6 t7 B F X N T hk hd hu hx hrest hpre hret
  obtain ⟨cur, c, l, lb, bra, ket, p1⟩ := σ
  simp only at *
  obtain ⟨c, rfl⟩ := Int.eq_ofNat_of_zero_le (Int.le_trans h0 h1)
  obtain ⟨lb, rfl⟩ := Int.eq_ofNat_of_zero_le h0
  simp only [Int.toNat_natCast] at hret
  refine wpAny_call ?_
  k_dflt (refine' code_def (binds := [("self", .ref x), ("v", .ref v)]) ?k1 ?k2 ?k3 ?k4 ?k5 ?kA ?kF ?kK ?k6 ?k7 ?k8 ?k9 ?kB ?_ ?c2 ?c3 ?c4 ?c5; (case kA | kF => exact rfl); (case kK => assumption); (case k1 | k2 | k3 | k4 | k5 => k_asm); (case k6 | k7 => k_is); (case k8 => ktr_room); (case k9 => exact BindsTo.of_eq rfl); (case c5 => decide); (case kB => exact locs rfl); (case c2 | c3 | c4 => exact rfl))
  intro g' L' h' FG' F' N' B' X' T'
  have hpre' := hpre.keeps FG'.keep
  ((conv in (execs _ _) => arg 1; whnf); (try dsimp only); (show wpAny _ _ (execs _ _) _ _ _); k_fold)
  (repeat' (first | (k_unfold; (try dsimp only)) | (k_end; wrow_close) | with_reducible ((with_reducible show wpAny _ _ (execs (Stmt.While _ _ _ _ :: _) _) _ _ _); (try dsimp only); refine Stop.intro ?_) | with_reducible ((with_reducible show wpAny _ _ (getAttr (Value.ref _) _ _) _ _ _); (first | with_reducible refine' get_cur ?k1 ?k2 ?k3 ?_ | with_reducible refine' get_c ?k1 ?k2 ?k3 ?_ | with_reducible refine' get_lb ?k1 ?k2 ?k3 ?_); (case k1 | k2 | k3 => k_asm); k_whole; (try dsimp only)) | with_reducible ((with_reducible show wpAny _ _ (call (Value.builtin "len") _ _) _ _ _); refine' tab_len ?k1 ?k2 ?k3 ?_; (case k1 => k_asm); (case k2 | k3 => assumption); k_whole; (try dsimp only)) | with_reducible ((with_reducible show wpAny _ _ (storeName _ _ (Value.int _ _)) _ _ _); k_dflt (refine' store_int ?k1 ?k2 ?_); (case k1 | k2 => k_asm); k_whole; intro h'q t9q tk9q F'q N'q; (try k_sweep); (try dsimp only)) | walk1 | (dsimp only; walk1) | (leave1; try dsimp only) | fail))
  unfold Stop
  rename (Fr _ _ _ _) => F9
  rename (News _ _ _ _) => N9
  have F9 := Fr.toM F9 (ps := [("self", .ref x), ("v", .ref v), ("c", .int c _), ("lb", .int lb _), ("i", .int 0 _), ("j", .int TB.length _), ("common_i", .int 0 _), ("common_j", .int 0 _), ("first_key_inspected", .bool false)]) rfl
  have h1n := nat_le h1
  have h2n := nat_le h2
  refine seq_one (st := stA fabB 7) (r := [stA fabB 8, stA fabB 9]) fun Q1 hq _ _ => fab_w1 (TB := TB) (v := v) F9 X' N9 T' hpre' rfl (by passes_own) h1n h2n h3 h4 h5 h6 h7 fun u i ci ti tci h tk S F N => hq _ ?_
  clear hq
  clear F9 N9
  refine seq_one fun Q1 _ _ hr => fab_w2 F X' N T' hpre' (by passes_own) hx hrest (Nat.le_of_ble_eq_true rfl) h4 h5 h7 S fun r n c' t t2' m h tk g1 g2 F N => hr _ _ ?_
  clear hr S h7
  k_steps
  refine hret _ ⟨_, _, _, _, _, _, _⟩ _ _ _ _ _ _ _ _ _ _ ?_ (by assumption) (by assumption)
  exact ⟨_, n, _, rfl, g1, by rw [g2]⟩

inductive FabP (TB : Tbl) (tr : List Nat) (σ : St) : Value → St → Prop
  | mk (r : Int) (n : Nat) (t : Tok) (h : Told TB tr r n) : FabP TB tr σ (.int r t) { σ with c := σ.c - n }
theorem find_p {w : World} {v : Addr} {TB : Tbl} (σ : St) (h0 : 0 ≤ σ.lb) (h1 : σ.lb ≤ σ.c) (h2 : σ.c ≤ (σ.cur.length : Int)) (h3 : σ.cur.length < 100) (h4 : tblOk TB = true) (h5 : TB.length < 1000) (h6 : 2 ≤ TB.length) (h7 : ∀ e ∈ TB, e.s.length < 100) :
    Meth w 140 [.ref v] 1 (fun h => TabIn w.params h v TB) σ (FabP TB (((ls σ.cur).take σ.c.toNat).drop σ.lb.toNat).reverse σ) :=
  (find_among_b_spec σ h0 h1 h2 h3 h4 h5 h6 h7).mono fun _ _ q => by
    obtain ⟨r, n, t, rfl, h, rfl⟩ := q
    exact .mk _ _ _ h
end PartW7
section PartW8a
open PySem PySem.W PyProof.Rows PySem.Calls PySem.Spec
section
variable {prog : Program} {w : World} {A₀ : Around} {E : Value → Shared → Prop} {s' : Shared} {base g g₀ h : Heap} {outer : List Env} {L a e C : Addr} {m : Str → Option Value} {name : Str} {scope : Scope} {cd : Value}
  {vs : List Value} {b₀ : Stmt} {suite : List Stmt} {pos np : Pos} {rest : List ExceptHandler} {Q : Flow → Shared → Prop} {news : List (Addr × Obj)} {KF : Frag}
  {p : Program} {loose : List Str} {mean : ExcName → Option Value} {mg mb : Str → Option Value} {x : Str}
/-- an object of a class of the text is raised and caught in one and the same function, others waiting below -/
theorem catch_own (hx : Heap.MadeExcOf h s'.heap e (.ref C) vs) (F : Fr g L h m) (N : News g L h news) (K : Below A₀ base outer g) (XB : KF.In base) (TB : Top p loose mean mg mb base)
    (D : KtsDicts (outer.filterMap (·.frame)) g) (T0 : KtsTurn (outer.filterMap (·.frame)) g₀ g)
    (ex : nsIn KF mainGlobals x = some (some (.ref C))) (q : ktsIn KF C "BaseException" = true)
    (k : ∀ h' g', KtsTurn (outer.filterMap (·.frame)) g₀ g' → Fr g' L h' m → News g' L h' news → Below A₀ base outer g' → KF.In g' → Top p loose mean mg mb g' → KtsDicts (outer.filterMap (·.frame)) g' →
      wpAny (model prog w) ((A₀.deeper (envOf name scope L a cd)).mark (some (.ref e))) (execs (b₀ :: suite) (envOf name scope L a cd)) Q E { s' with heap := h' })
    (hk : scope.kind = .function := by rfl) (hxk : (envOf name scope L a cd).kindOf x = some .globalImplicit := by rfl) (hd : (x == ("__debug__" : Str)) = false := by decide)
    (hE : PassesOwnAt (model prog w) ((A₀.deeper (envOf name scope L a cd)).mark (some (.ref e))) (A₀.deeper (envOf name scope L a cd)) (envOf name scope L a cd) E := by passes_own) :
    wpAny (model prog w) (A₀.deeper (envOf name scope L a cd)) (noteFrame (.ref e) (envOf name scope L a cd))
      (fun _ s₂ => wpAny (model prog w) (A₀.deeper (envOf name scope L a cd)) (setFlight (.ref e) none) (fun _ s₃ =>
        wpAny (model prog w) (A₀.deeper (envOf name scope L a cd)) (handleBy (.ref e) (envOf name scope L a cd) (.ExceptHandler (some (.Name x np)) none (b₀ :: suite) pos :: rest)) Q E s₃) E s₂) E s' := by
  have FF := (K.push (name := name) (a := a) (cd := cd) F hk).frames
  have hide : ∀ b o, h.get? b = some o → b ∉ (envOf name scope L a cd :: outer).filterMap (·.frame) → (hideAll h ((envOf name scope L a cd :: outer).filterMap (·.frame))).get? b = some o := fun b o e₁ n => hideAll_get _ e₁ n
  have FH := funFrames_hide FF fun env he b hb => List.mem_filterMap.mpr ⟨env, he, hb⟩
  have inL : L ∈ (envOf name scope L a cd :: outer).filterMap (·.frame) := List.mem_filterMap.mpr ⟨_, .head _, rfl⟩
  have hL : (hideAll h ((envOf name scope L a cd :: outer).filterMap (·.frame))).get? L = none := hideAll_none _ inL
  have up : ∀ b o, (hideAll h ((envOf name scope L a cd :: outer).filterMap (·.frame))).get? b = some o → s'.heap.get? b = some o := fun b o e₁ => hx.keeps b o (of_hideAll _ e₁)
  have new : (hideAll h ((envOf name scope L a cd :: outer).filterMap (·.frame))).get? e = none := by
    cases z : (hideAll h ((envOf name scope L a cd :: outer).filterMap (·.frame))).get? e with
    | none => rfl
    | some o => have := of_hideAll _ z; rw [hx.new] at this; cases this
  have hl : ∀ p ∈ news, (hideAll h ((envOf name scope L a cd :: outer).filterMap (·.frame))).get? p.1 = some p.2 := fun p hp => by
    refine hide _ _ (N p hp).1 fun hm => ?_
    rcases kts_mem hm with z | z
    · exact (N p hp).2.1 z
    · obtain ⟨_, o, ho, _⟩ := K.frames.mem z
      rw [(N p hp).2.2] at ho; cases ho
  generalize hB : hideAll h ((envOf name scope L a cd :: outer).filterMap (·.frame)) = B at hide FH hL up new hl
  obtain ⟨t, he, _, _⟩ := hx.there
  unfold noteFrame
  simp only [show (envOf name scope L a cd).frame = some L from rfl]
  refine wpAny_bind (wpAny_field he rfl (x := .none) rfl ?_)
  rw [if_neg (by decide)]
  refine wpAny_entryW (base := B) (a0 := .ref t) (Around.frames_deeper K.stack) (FH.of_keeps fun b o hb _ => ⟨o, hx.keeps b o hb, rfl⟩) rfl he up new rfl (by show 1 < 6; decide) rfl fun h₄ hN => ?_
  obtain ⟨k1, k2, k3, k4⟩ := hN
  have up0 : h.UpToSlots s'.heap := Heap.UpToSlots.of_keeps hx.keeps
  refine wpAny_landsW (show Heap.HeldW B (envOf name scope L a cd :: outer) e (.ref C) (.ref t) L h₄ from ⟨k1, new, k2, k3⟩) fun h₅ H₅ u₅ => ?_
  have u5 := (up0.trans k4).trans u₅
  obtain ⟨g₅, T₅, F₅, K₅⟩ := kts_ground K F hide H₅.1 u5
  obtain ⟨ob, hob, hobc⟩ := H₅.there
  obtain ⟨nm, q', N₁, bs, bm, hdct, sn, sub, ab, col, dd, k0, k1', k2', k3', k5, newId, hC, hbase, hbT⟩ := kts_cls (XB.keeps K₅.stays) q
  refine wpAny_handleBy_cons (codeAny_handlers_test (name_K F₅ (XB.keeps K₅.stays) (topRead_of (TB.keeps K₅.stays)) ex ?_ hk hxk hd)) (by intro z; cases z)
  refine wpAny_excMatches_sub_self (F₅.keep _ _ hC) hob hobc hbase (codeAny_handlers_suite ?_)
  refine lands_againW H₅ fun h₆ H₆ u₆ => ?_
  obtain ⟨g₆, T₆, F₆, K₆⟩ := kts_ground K F hide H₆.1 (u5.trans u₆)
  refine wpAny_passesOwnAt hE (k h₆ g₆ (T0.trans T₆) F₆ (fun p hp => ⟨H₆.1 _ _ (hl p hp), (N p hp).2.1, T₆.none_ _ (N p hp).2.2⟩) K₆ (XB.keeps K₆.stays) (TB.keeps K₆.stays) (D.turn T₆))
end
/-- a method that may raise and catch -/
noncomputable def MethS (w : World) (f : Addr) (args : List Value) (need : Nat) (pre : Heap → Prop) (σ : St) (post : Value → St → Prop) : Prop :=
  ∀ (loose : List Str) (mean : ExcName → Option Value) (mg mb : Str → Option Value) (p0 : Program)
    (dp un : Nat) (gd : Option (List Code)) (cn : Str) (cs : Scope) (a : Addr) (ccd : Value) (outer : List Env) (A₀ : Around) (base g₀ h₀ : Heap) (L : Addr) (m : Str → Option Value) (s : Shared) (Q E : Value → Shared → Prop)
    (x dx : Addr) (ns : Nat) (rest : List (Addr × Obj)) (a1 a2 a3 a4 a5 a6 a7 t1 t2 t3 t4 t5 t6 t7 : Tok),
    Below A₀ base outer h₀ → Fr h₀ L s.heap m → (Kf w.params).In h₀ → News h₀ L s.heap (LED w.params x dx ns a1 a2 a3 a4 a5 a6 t1 t2 t3 t4 t5 t6 σ.cur σ.c σ.l σ.lb σ.bra σ.ket (ip w.params a7 σ.p1 t7) rest) → Top p0 loose mean mg mb h₀ → (Kf w.params).In base → Top p0 loose mean mg mb base → KtsDicts (outer.filterMap (·.frame)) h₀ → KtsTurn (outer.filterMap (·.frame)) g₀ h₀ → cs.kind = .function →
    dp + need < recursionLimit → un + 8 * need < cLine → x ≠ dx → (∀ p ∈ rest, p.1 ≠ dx) → pre base →
    (∀ v σ' h' tk' ns' t1' t2' t3' t4' t5' t6' t7' h₁, post v σ' → KtsTurn (outer.filterMap (·.frame)) g₀ h₁ → Fr h₁ L h' m → News h₁ L h' (LED w.params x dx ns' a1 a2 a3 a4 a5 a6 t1' t2' t3' t4' t5' t6' σ'.cur σ'.c σ'.l σ'.lb σ'.bra σ'.ket (ip w.params a7 σ'.p1 t7') rest) →
      Below A₀ base outer h₁ → (Kf w.params).In h₁ → Top p0 loose mean mg mb h₁ → KtsDicts (outer.filterMap (·.frame)) h₁ → Q v { s with heap := h', toks := tk' }) →
    wpAny (MD w) (ktrTop dp un gd cn cs L a ccd [] outer) (call (.ref f) (.ref x :: args)) Q E s
theorem MethS.mono {w : World} {f : Addr} {args : List Value} {need : Nat} {pre : Heap → Prop} {σ : St} {post post' : Value → St → Prop} (M : MethS w f args need pre σ post) (h : ∀ v σ', post v σ' → post' v σ') : MethS w f args need pre σ post' := by
  intro loose mean mg mb p0 dp un gd cn cs a ccd outer A₀ base g₀ h₀ L m s Q E x dx ns rest a1 a2 a3 a4 a5 a6 a7 t1 t2 t3 t4 t5 t6 t7 B F X N T XB TB D T0 hk hd hu hx hr hp H
  exact M loose mean mg mb p0 dp un gd cn cs a ccd outer A₀ base g₀ h₀ L m s Q E x dx ns rest a1 a2 a3 a4 a5 a6 a7 t1 t2 t3 t4 t5 t6 t7 B F X N T XB TB D T0 hk hd hu hx hr hp (fun v σ' h' tk' ns' t1' t2' t3' t4' t5' t6' t7' h₁ q => H v σ' h' tk' ns' t1' t2' t3' t4' t5' t6' t7' h₁ (h v σ' q))
theorem MethS.use {w : World} {f : Addr} {args : List Value} {need : Nat} {pre : Heap → Prop} {σ : St} {post : Value → St → Prop} (M : MethS w f args need pre σ post)
    {loose : List Str} {mean : ExcName → Option Value} {mg mb : Str → Option Value} {p0 : Program}
    {dp un : Nat} {gd : Option (List Code)} {cn : Str} {cs : Scope} {a : Addr} {ccd : Value} {outer : List Env} {A₀ : Around} {base g₀ h₀ : Heap} {L : Addr} {m : Str → Option Value} {s : Shared} {Q E : Value → Shared → Prop}
    {x dx : Addr} {ns : Nat} {rest : List (Addr × Obj)} {a1 a2 a3 a4 a5 a6 a7 t1 t2 t3 t4 t5 t6 t7 : Tok}
    (B : Below A₀ base outer h₀) (F : Fr h₀ L s.heap m) (X : (Kf w.params).In h₀) (N : News h₀ L s.heap (LED w.params x dx ns a1 a2 a3 a4 a5 a6 t1 t2 t3 t4 t5 t6 σ.cur σ.c σ.l σ.lb σ.bra σ.ket (ip w.params a7 σ.p1 t7) rest)) (T : Top p0 loose mean mg mb h₀)
    (XB : (Kf w.params).In base) (TB : Top p0 loose mean mg mb base) (D : KtsDicts (outer.filterMap (·.frame)) h₀) (T0 : KtsTurn (outer.filterMap (·.frame)) g₀ h₀) (hk : cs.kind = .function)
    (hd : dp + need < recursionLimit) (hu : un + 8 * need < cLine) (hx : x ≠ dx) (hr : ∀ p ∈ rest, p.1 ≠ dx) (hp : pre base)
    (h : ∀ v σ' h' tk' ns' t1' t2' t3' t4' t5' t6' t7' h₁, post v σ' → KtsTurn (outer.filterMap (·.frame)) g₀ h₁ → Fr h₁ L h' m → News h₁ L h' (LED w.params x dx ns' a1 a2 a3 a4 a5 a6 t1' t2' t3' t4' t5' t6' σ'.cur σ'.c σ'.l σ'.lb σ'.bra σ'.ket (ip w.params a7 σ'.p1 t7') rest) →
      Below A₀ base outer h₁ → (Kf w.params).In h₁ → Top p0 loose mean mg mb h₁ → KtsDicts (outer.filterMap (·.frame)) h₁ → Q v { s with heap := h', toks := tk' }) :
    wpAny (MD w) (ktrTop dp un gd cn cs L a ccd [] outer) (call (.ref f) (.ref x :: args)) Q E s :=
  M _ _ _ _ _ _ _ _ _ _ _ _ _ _ _ _ _ _ _ _ _ _ _ _ _ _ _ _ _ _ _ _ _ _ _ _ _ _ _ _ B F X N T XB TB D T0 hk hd hu hx hr hp h
theorem SetHas.below {w : World} {base h : Heap} {g : Addr} {f : Nat → Bool} {A : Around} {outer : List Env} (S : SetHas w base g f) (B : Below A base outer h) : SetHas w h g f := S.keeps B.stays
theorem TabIn.below {P : Params} {base h : Heap} {v : Addr} {T : Tbl} {A : Around} {outer : List Env} (S : TabIn P base v T) (B : Below A base outer h) : TabIn P h v T := S.keeps B.stays
end PartW8a
section PartW8
open PySem PySem.W PyProof.Rows PySem.Calls
theorem mark_end {b : Bool} {cur : Str} {c l lb bra ket p1 p1' : Int} (h : p1 = p1') : ∃ b' c' p', Value.bool b = .bool b' ∧ (⟨cur, c, l, lb, bra, ket, p1⟩ : St) = ⟨cur, c', l, lb, bra, ket, p'⟩ ∧ p' = p1' := ⟨b, c, p1, rfl, rfl, h⟩
theorem toNat_succ (n : Nat) : ((n : Int) + 1).toNat = n + 1 := by omega
theorem mark_spec {w : World}  (σ : St) (h0 : σ.c = 0) (h7 : σ.l = (σ.cur.length : Int)) (h3 : σ.cur.length < 100) :
    MethS w 239 [] 2 (fun h => SetHas w h 230 V) σ (fun v σ' => ∃ b c' p', v = .bool b ∧ σ' = { σ with c := c', p1 := p' } ∧ p' = regP (ls σ.cur)) := by
  unfold MethS MD
  k_fill
  intro loose mean mg mb p0 dp un gd cn cs a ccd outer A₀ base g₀ h₀ L m s Q E x dx ns rest a1 a2 a3 a4 a5 a6 a7 t1 t2 t3 t4 t5 t6 t7 B F X N T XB TB D T0 hk hd hu hx hrest hpre hret
  obtain ⟨cur, c, l, lb, bra, ket, p1⟩ := σ
  simp only at *
  refine wpAny_call ?_
  k_dflt (refine' code_defS (binds := [("self", .ref x)]) ?k1 ?k2 ?k3 ?k4 ?k5 ?XB ?TB ?D ?T0 ?kA ?k6 ?k7 ?k8 ?k9 ?kB ?_ ?cK ?c2 ?c3 ?c4 ?c5; (case kA => exact rfl); (case k2 | k1 => k_asm); (case XB | TB | D | T0 => assumption); (case k3 | k4 | k5 => k_asm); (case k6 | k7 => k_is); (case k8 => ktr_room); (case k9 => exact BindsTo.of_eq rfl); (case kB => exact locs rfl); (case cK => first | exact rfl | assumption); (case c2 | c3 | c4 => exact rfl); (case c5 => decide))
  intro g' L' h' FG' F' N' B' X' T' D'
  ((conv in (execs _ _) => arg 1; whnf); (try dsimp only); (show wpAny _ _ (execs _ _) _ _ _); k_fold)
  have fl := fi_le (p := V) (u := ls cur) (c := 0) (Nat.zero_le _)
  subst h0
  (repeat' (first | (k_unfold; (try dsimp only)) | (k_end; wrow_close) | ((with_reducible show wpAny _ _ (call (Value.ref _) _ _) _ _ _); ((with_reducible show wpAny _ _ (call (Value.ref 70) _) _ _ _); k_dflt (refine' Meth.use (go_in_spec ⟨_, _, _, _, _, _, _⟩ ?g0 ?g1 ?g2 ?g3) ?kB ?kF ?kX ?kN ?kT ?kk ?kd ?ku ?kx ?kr ?kp ?_); (case kB | kF | kX | kN | kT => k_asm); (case kk => first | exact rfl | assumption); (case kd => ktr_room); (case ku => ktr_units); (case kx | kr => assumption); (case kp => exact SetHas.below (by assumption) (by assumption)); (case g0 | g1 | g2 | g3 => ((try dsimp only) <;> (first | omega | assumption | exact rfl | decide +kernel))); intro v9q σ9 h9q tk9q ns9q b1q b2q b3q b4q b5q b6q b7q hp9q F9q N9q; rcases hp9q with ⟨e1, e2⟩; all_goals ((try subst e1); (try subst e2); (try k_sweep); (try dsimp only at N9q ⊢)))) | ((with_reducible show wpAny _ _ (call (Value.ref _) _ _) _ _ _); ((with_reducible show wpAny _ _ (call (Value.ref 98) _) _ _ _); k_dflt (refine' Meth.use (go_out_spec ⟨_, _, _, _, _, _, _⟩ ?g0 ?g1 ?g2 ?g3) ?kB ?kF ?kX ?kN ?kT ?kk ?kd ?ku ?kx ?kr ?kp ?_); (case kB | kF | kX | kN | kT => k_asm); (case kk => first | exact rfl | assumption); (case kd => ktr_room); (case ku => ktr_units); (case kx | kr => assumption); (case kp => exact SetHas.below (by assumption) (by assumption)); (case g0 | g1 | g2 | g3 => ((try dsimp only) <;> (first | omega | assumption | exact rfl | decide +kernel))); intro v9q σ9 h9q tk9q ns9q b1q b2q b3q b4q b5q b6q b7q hp9q F9q N9q; rcases hp9q with ⟨e1, e2⟩; all_goals ((try subst e1); (try subst e2); (try k_sweep); (try dsimp only at N9q ⊢)))) | ((with_reducible show wpAny _ _ (noteFrame (Value.ref _) _) _ _ _); (refine' catch_own ?k1 ?k2 ?k3 ?k4 ?k5 ?k6 ?k7 ?k8 ?k9 ?kq ?_; (case k1 => assumption); (case k2 | k3 => k_asm); (case k4 | k5 | k6 | k7 => assumption); (case k8 => first | assumption | exact KtsTurn.refl); (case k9 => k_is); (case kq => kts_isx); k_whole; intro h'q g'q T'q F'q N'q B'q X'q P'q D'q; (try k_sweep); (try dsimp only))) | with_reducible ((with_reducible show wpAny _ _ (setAttr (Value.ref _) _ _) _ _ _); (with_reducible refine' set_p1 ?kx ?kr ?k1 ?k2 ?k3 ?_; (case k1 | k2 | k3 => k_asm); (case kx | kr => assumption); k_whole; intro h'q F'q N'q; (try k_sweep); (try dsimp only))) | with_reducible ((with_reducible show wpAny _ _ (setAttr (Value.ref _) _ _) _ _ _); ((first | with_reducible refine' set_cur ?k0 ?kx ?kr ?k1 ?k2 ?k3 ?_ | with_reducible refine' set_c ?k0 ?kx ?kr ?k1 ?k2 ?k3 ?_ | with_reducible refine' set_l ?k0 ?kx ?kr ?k1 ?k2 ?k3 ?_ | with_reducible refine' set_lb ?k0 ?kx ?kr ?k1 ?k2 ?k3 ?_ | with_reducible refine' set_bra ?k0 ?kx ?kr ?k1 ?k2 ?k3 ?_ | with_reducible refine' set_ket ?k0 ?kx ?kr ?k1 ?k2 ?k3 ?_); (case k1 | k2 | k3 => k_asm); (case kx | kr => assumption); (case k0 => exact Nat.le_of_ble_eq_true rfl); k_whole; intro h'q F'q N'q; (try k_sweep); (try dsimp only))) | with_reducible ((with_reducible show wpAny _ _ (getAttr (Value.ref _) _ _) _ _ _); ((first | with_reducible refine' cls_g_v ?k1 ?k2 ?k3 ?_ | with_reducible refine' cls_g_s_ending ?k1 ?k2 ?k3 ?_ | with_reducible refine' cls_g_ost_ending ?k1 ?k2 ?k3 ?_); (case k1 | k2 => k_asm); (case k3 => exact SetHas.below (by assumption) (by assumption)); k_whole; (try dsimp only))) | with_reducible ((with_reducible show wpAny _ _ (getAttr (Value.ref _) _ _) _ _ _); ((first | with_reducible refine' get_cur ?k1 ?k2 ?k3 ?_ | with_reducible refine' get_c ?k1 ?k2 ?k3 ?_ | with_reducible refine' get_l ?k1 ?k2 ?k3 ?_ | with_reducible refine' get_lb ?k1 ?k2 ?k3 ?_ | with_reducible refine' get_bra ?k1 ?k2 ?k3 ?_ | with_reducible refine' get_ket ?k1 ?k2 ?k3 ?_ | with_reducible refine' get_p1 ?k1 ?k2 ?k3 ?_); (case k1 | k2 | k3 => k_asm); k_whole; (try dsimp only))) | walk1 | (dsimp only; walk1) | (leave1; try dsimp only) | fail))
  all_goals (refine hret _ ⟨_, _, _, _, _, _, _⟩ _ _ _ _ _ _ _ _ _ _ _ ?_ (by assumption) (by assumption) (by assumption) (by assumption) (by assumption) (by assumption) (by assumption))
  all_goals (
    refine mark_end ?_
    simp only [Int.toNat_zero, toNat_succ] at *
    unfold regP
    rw [ls_len]
    (repeat' split) <;> omega)
end PartW8
section PartW9
open PySem PySem.W PyProof.Rows PySem.Calls
theorem toNat_pred (b : Int) : b.toNat - 1 = (b - 1).toNat := (Int.pred_toNat b).symm
theorem toNat_pred2 (b : Int) : b.toNat - 2 = (b - 1 - 1).toNat := by
  show b.toNat - 1 - 1 = _
  rw [toNat_pred, toNat_pred]
theorem et_parts {u : List Nat} {k : Nat} (hk : k ≤ u.length) : etC (u.take k).reverse = (decide (3 ≤ k) && !V (u.getD (k - 1) 0) && V (u.getD (k - 2) 0) && A0.all fun e => !e.s.isPrefixOf (u.take k).reverse) := by
  have l : (u.take k).reverse.length = k := by rw [List.length_reverse, List.length_take]; omega
  have g : ∀ i, i < k → (u.take k).reverse.getD i 0 = u.getD (k - 1 - i) 0 := fun i hi => by
    have := win_getD u 0 k i (Nat.zero_le _) hk (by omega)
    simpa using this
  generalize (u.take k).reverse = r at l g ⊢
  match r, l with
  | [], l => simp at l; subst l; rfl
  | [a], l => simp at l; subst l; simp [etC]
  | [a, b], l => simp at l; subst l; simp [etC]
  | a :: b :: c :: q, l =>
    have k3 : 3 ≤ k := by rw [← l]; simp
    have g0 := g 0 (by omega)
    have g1 := g 1 (by omega)
    simp at g0 g1
    show (!V a && V b && A0.all fun e => !e.s.isPrefixOf (a :: b :: c :: q)) = _
    rw [g0, g1, decide_eq_true k3, show k - 1 - 1 = k - 2 from rfl]
    simp
theorem et_told {u : List Nat} {k : Nat} {r : Int} {n : Nat} (T : Told A0 (u.take k).reverse r n) : (A0.all fun e => !e.s.isPrefixOf (u.take k).reverse) = decide (r = 0) := by
  rcases T with ⟨rfl, _, h⟩ | ⟨e, he, hp, rfl, _⟩
  · simp only [decide_true, List.all_eq_true]
    intro e he; rw [h e he]; rfl
  · rw [decide_eq_false (res0 e he)]
    cases hq : A0.all fun e => !e.s.isPrefixOf (u.take k).reverse with
    | false => rfl
    | true => have := List.all_eq_true.mp hq e he; rw [hp] at this; cases this
section
variable {u : List Nat} {c : Int} {r : Int} {n : Nat} (h0 : 0 ≤ c) (hc : c ≤ (u.length : Int))
include h0 hc
theorem et_1 (h : c - 1 - 1 ≤ 0) : etC (u.take c.toNat).reverse = false := by rw [et_parts (by omega), decide_eq_false (by omega)]; rfl
theorem et_2 (h : ¬ c - 1 - 1 ≤ 0) (hV : V (u.getD (c - 1).toNat 0) = false) (hW : V (u.getD (c - 1 - 1).toNat 0) = true) {c2 : Int} (T : Told A0 ((u.take c2.toNat).drop (0 : Int).toNat).reverse r n) (hc2 : c2 = c) : etC (u.take c.toNat).reverse = decide (r = 0) := by
  obtain rfl := hc2.symm
  rw [et_parts (by omega), decide_eq_true (by omega), et_told (r := r) (n := n) (by simpa using T), toNat_pred c, toNat_pred2 c, hV, hW]
  simp
theorem et_4 (h : ¬ (0 < c - 1 ∧ V (u.getD (c - 1 - 1).toNat 0) = true)) : etC (u.take c.toNat).reverse = false := by
  rw [et_parts (by omega), toNat_pred2 c]
  by_cases h1 : 0 < c - 1
  · have : V (u.getD (c - 1 - 1).toNat 0) = false := by
      cases q : V (u.getD (c - 1 - 1).toNat 0) with
      | false => rfl
      | true => exact absurd ⟨h1, q⟩ h
    simp only [this, Bool.not_true, Bool.and_false, Bool.false_and]
  · rw [decide_eq_false (by omega)]; rfl
theorem et_5 (h : ¬ (0 < c ∧ V (u.getD (c - 1).toNat 0) = false)) : etC (u.take c.toNat).reverse = false := by
  rw [et_parts (by omega), toNat_pred c]
  by_cases h1 : 0 < c
  · have : V (u.getD (c - 1).toNat 0) = true := by
      cases q : V (u.getD (c - 1).toNat 0) with
      | true => rfl
      | false => exact absurd ⟨h1, q⟩ h
    simp only [this, Bool.not_true, Bool.and_false, Bool.false_and]
  · rw [decide_eq_false (by omega)]; rfl
end
theorem et_endF {cur : Str} {c c1 l lb bra ket p1 : Int} {r : List Nat} (h : etC r = false) : ∃ c', Value.bool false = .bool (etC r) ∧ (⟨cur, c1, l, lb, bra, ket, p1⟩ : St) = ⟨cur, c', l, lb, bra, ket, p1⟩ ∧ (etC r = true → c' = c) := ⟨c1, by rw [h], rfl, fun q => by rw [h] at q; cases q⟩
theorem et_endT {cur : Str} {c c1 l lb bra ket p1 : Int} {r : List Nat} (h : etC r = true) (hc : c1 = c) : ∃ c', Value.bool true = .bool (etC r) ∧ (⟨cur, c1, l, lb, bra, ket, p1⟩ : St) = ⟨cur, c', l, lb, bra, ket, p1⟩ ∧ (etC r = true → c' = c) := ⟨c1, by rw [h], rfl, fun _ => hc⟩
theorem et_spec {w : World}  (σ : St) (h0 : σ.lb = 0) (h1 : 0 ≤ σ.c) (h2 : σ.c ≤ (σ.cur.length : Int)) (h7 : σ.l = (σ.cur.length : Int)) (h3 : σ.cur.length < 100) :
    MethS w 246 [] 2 (fun h => SetHas w h 230 V ∧ TabIn w.params h 338 A0) σ (fun v σ' => ∃ c', v = .bool (etC ((ls σ.cur).take σ.c.toNat).reverse) ∧ σ' = { σ with c := c' } ∧ (etC ((ls σ.cur).take σ.c.toNat).reverse = true → c' = σ.c)) := by
  unfold MethS MD
  k_fill
  intro loose mean mg mb p0 dp un gd cn cs a ccd outer A₀ base g₀ h₀ L m s Q E x dx ns rest a1 a2 a3 a4 a5 a6 a7 t1 t2 t3 t4 t5 t6 t7 B F X N T XB TB D T0 hk hd hu hx hrest hpre hret
  obtain ⟨cur, c, l, lb, bra, ket, p1⟩ := σ
  simp only at *
  refine wpAny_call ?_
  k_dflt (refine' code_defS (binds := [("self", .ref x)]) ?k1 ?k2 ?k3 ?k4 ?k5 ?XB ?TB ?D ?T0 ?kA ?k6 ?k7 ?k8 ?k9 ?kB ?_ ?cK ?c2 ?c3 ?c4 ?c5; (case kA => exact rfl); (case k2 | k1 => k_asm); (case XB | TB | D | T0 => assumption); (case k3 | k4 | k5 => k_asm); (case k6 | k7 => k_is); (case k8 => ktr_room); (case k9 => exact BindsTo.of_eq rfl); (case kB => exact locs rfl); (case cK => first | exact rfl | assumption); (case c2 | c3 | c4 => exact rfl); (case c5 => decide))
  intro g' L' h' FG' F' N' B' X' T' D'
  ((conv in (execs _ _) => arg 1; whnf); (try dsimp only); (show wpAny _ _ (execs _ _) _ _ _); k_fold)
  subst h0
  obtain ⟨hpreV, hpreT⟩ := hpre
  (repeat' (first | (k_unfold; (try dsimp only)) | (k_end; wrow_close) | ((with_reducible show wpAny _ _ (call (Value.ref _) _ _) _ _ _); ((with_reducible show wpAny _ _ (call (Value.ref 140) _) _ _ _); k_dflt (refine' Meth.use (find_p (TB := A0) ⟨_, _, _, _, _, _, _⟩ ?g0 ?g1 ?g2 ?g3 ?g4 ?g5 ?g6 ?g7) ?kB ?kF ?kX ?kN ?kT ?kk ?kd ?ku ?kx ?kr ?kp ?_); (case kB | kF | kX | kN | kT => k_asm); (case kk => first | exact rfl | assumption); (case kd => ktr_room); (case ku => ktr_units); (case kx | kr => assumption); (case kp => first | exact trivial | exact SetHas.below (by assumption) (by assumption) | exact TabIn.below (by assumption) (by assumption)); (case g0 | g1 | g2 | g3 | g4 | g5 | g6 | g7 => ((try dsimp only); first | omega | assumption | exact rfl | exact ok0 | decide +kernel)); intro v9q σ9 h9q tk9q ns9q b1q b2q b3q b4q b5q b6q b7q hp9q; rcases hp9q with ⟨r9, n9, t9, k9⟩; all_goals (intro F9q N9q; (try k_sweep); (try dsimp only at N9q ⊢)))) | ((with_reducible show wpAny _ _ (call (Value.ref _) _ _) _ _ _); ((with_reducible show wpAny _ _ (call (Value.ref 77) _) _ _ _); k_dflt (refine' Meth.use (in_grouping_p ⟨_, _, _, _, _, _, _⟩ ?g0 ?g1 ?g2) ?kB ?kF ?kX ?kN ?kT ?kk ?kd ?ku ?kx ?kr ?kp ?_); (case kB | kF | kX | kN | kT => k_asm); (case kk => first | exact rfl | assumption); (case kd => ktr_room); (case ku => ktr_units); (case kx | kr => assumption); (case kp => first | exact trivial | exact SetHas.below (by assumption) (by assumption) | exact TabIn.below (by assumption) (by assumption)); (case g0 | g1 | g2 => ((try dsimp only); first | omega | assumption | exact rfl | decide +kernel)); intro v9q σ9 h9q tk9q ns9q b1q b2q b3q b4q b5q b6q b7q hp9q; rcases hp9q with (⟨l9, f9⟩ | ⟨f9⟩); all_goals (intro F9q N9q; (try k_sweep); (try dsimp only at N9q ⊢)))) | ((with_reducible show wpAny _ _ (call (Value.ref _) _ _) _ _ _); ((with_reducible show wpAny _ _ (call (Value.ref 105) _) _ _ _); k_dflt (refine' Meth.use (out_grouping_b_spec ⟨_, _, _, _, _, _, _⟩ ?g0 ?g1 ?g2) ?kB ?kF ?kX ?kN ?kT ?kk ?kd ?ku ?kx ?kr ?kp ?_); (case kB | kF | kX | kN | kT => k_asm); (case kk => first | exact rfl | assumption); (case kd => ktr_room); (case ku => ktr_units); (case kx | kr => assumption); (case kp => first | exact trivial | exact SetHas.below (by assumption) (by assumption) | exact TabIn.below (by assumption) (by assumption)); (case g0 | g1 | g2 => ((try dsimp only); first | omega | assumption | exact rfl | decide +kernel)); intro v9q σ9 h9q tk9q ns9q b1q b2q b3q b4q b5q b6q b7q hp9q F9q N9q; rcases hp9q with (⟨l9, f9, e1, e2⟩ | ⟨f9, e1, e2⟩); all_goals ((try subst e1); (try subst e2); (try k_sweep); (try dsimp only at N9q ⊢)))) | ((with_reducible show wpAny _ _ (noteFrame (Value.ref _) _) _ _ _); (refine' catch_own ?k1 ?k2 ?k3 ?k4 ?k5 ?k6 ?k7 ?k8 ?k9 ?kq ?_; (case k1 => assumption); (case k2 | k3 => k_asm); (case k4 | k5 | k6 | k7 => assumption); (case k8 => first | assumption | exact KtsTurn.refl); (case k9 => k_is); (case kq => kts_isx); k_whole; intro h'q g'q T'q F'q N'q B'q X'q P'q D'q; (try k_sweep); (try dsimp only))) | with_reducible ((with_reducible show wpAny _ _ (getAttr (Value.ref _) _ _) _ _ _); ((first | with_reducible refine' cls_g_v ?k1 ?k2 ?k3 ?_ | with_reducible refine' cls_g_s_ending ?k1 ?k2 ?k3 ?_ | with_reducible refine' cls_g_ost_ending ?k1 ?k2 ?k3 ?_); (case k1 | k2 => k_asm); (case k3 => first | exact SetHas.below (f := V) (by assumption) (by assumption) | exact SetHas.below (f := SE) (by assumption) (by assumption) | exact SetHas.below (f := OE) (by assumption) (by assumption)); k_whole; (try dsimp only))) | with_reducible ((with_reducible show wpAny _ _ (getAttr (Value.ref _) _ _) _ _ _); ((first | with_reducible refine' get_cur ?k1 ?k2 ?k3 ?_ | with_reducible refine' get_c ?k1 ?k2 ?k3 ?_ | with_reducible refine' get_l ?k1 ?k2 ?k3 ?_ | with_reducible refine' get_lb ?k1 ?k2 ?k3 ?_ | with_reducible refine' get_bra ?k1 ?k2 ?k3 ?_ | with_reducible refine' get_ket ?k1 ?k2 ?k3 ?_ | with_reducible refine' get_p1 ?k1 ?k2 ?k3 ?_); (case k1 | k2 | k3 => k_asm); k_whole; (try dsimp only))) | with_reducible ((with_reducible show wpAny _ _ (setAttr (Value.ref _) _ _) _ _ _); ((first | with_reducible refine' set_cur ?k0 ?kx ?kr ?k1 ?k2 ?k3 ?_ | with_reducible refine' set_c ?k0 ?kx ?kr ?k1 ?k2 ?k3 ?_ | with_reducible refine' set_l ?k0 ?kx ?kr ?k1 ?k2 ?k3 ?_ | with_reducible refine' set_lb ?k0 ?kx ?kr ?k1 ?k2 ?k3 ?_ | with_reducible refine' set_bra ?k0 ?kx ?kr ?k1 ?k2 ?k3 ?_ | with_reducible refine' set_ket ?k0 ?kx ?kr ?k1 ?k2 ?k3 ?_); (case k1 | k2 | k3 => k_asm); (case kx | kr => assumption); (case k0 => exact Nat.le_of_ble_eq_true rfl); k_whole; intro h'q F'q N'q; (try k_sweep); (try dsimp only))) | walk1 | (dsimp only; walk1) | (leave1; try dsimp only) | fail))
  all_goals (refine hret _ ⟨_, _, _, _, _, _, _⟩ _ _ _ _ _ _ _ _ _ _ _ ?_ (by assumption) (by assumption) (by assumption) (by assumption) (by assumption) (by assumption) (by assumption))
  all_goals have hcl : c ≤ ((ls cur).length : Int) := by rw [ls_len]; omega
  · exact et_endF (et_1 h1 hcl (by assumption))
  · exact et_endT ((et_2 h1 hcl (by assumption) (by assumption) (by assumption) (by assumption) (by dsimp only; omega)).trans (decide_eq_true (by assumption))) (by omega)
  · exact et_endF ((et_2 h1 hcl (by assumption) (by assumption) (by assumption) (by assumption) (by dsimp only; omega)).trans (decide_eq_false (by assumption)))
  · exact et_endF (et_4 h1 hcl (by assumption))
  · exact et_endF (et_5 h1 hcl (by assumption))
end PartW9
section PartW10
open PySem PySem.W PyProof.Rows PySem.Calls
theorem told_le {T : Tbl} {u : List Nat} {c lb : Int} {r : Int} {n : Nat} (h : Told T ((u.take c.toNat).drop lb.toNat).reverse r n) : n ≤ c.toNat - lb.toNat := by
  rcases h with ⟨_, rfl, _⟩ | ⟨e, _, hp, _, rfl, _⟩
  · exact Nat.zero_le _
  · have := (List.isPrefixOf_iff_prefix.mp hp).length_le
    rw [List.length_reverse, List.length_drop, List.length_take] at this
    exact Nat.le_trans this (Nat.sub_le_sub_right (Nat.min_le_left _ _) _)
theorem told_le2 {T : Tbl} {u : List Nat} {c lb : Int} {r : Int} {n : Nat} (h : Told T ((u.take c.toNat).drop lb.toNat).reverse r n) (h0 : 0 ≤ lb) (h1 : lb ≤ c) : (n : Int) + lb ≤ c := by
  have := told_le h
  omega
theorem ends_le {x y : Str} {i j : Int} (h0 : 0 ≤ i) (h1 : i ≤ j) (h2 : j ≤ x.length) (h : Txt.endswith (Txt.slice x (some i) (some j)) y = true) : (y.length : Int) ≤ j - i := by
  rw [ls_ends, ls_slice h0 h1 h2] at h
  have := (List.isPrefixOf_iff_prefix.mp h).length_le
  rw [List.length_reverse, List.length_reverse, List.length_drop, List.length_take, ls_len, ls_len] at this
  omega
theorem told_m {T : Tbl} {u : List Nat} {c p : Int} {r : Int} {n : Nat} (hc : c = (u.length : Int)) (h : Told T ((u.take c.toNat).drop p.toNat).reverse r n) : Told T (u.reverse.take (u.length - p.toNat)) r n := by
  subst hc
  rw [Int.toNat_natCast, List.take_length, List.reverse_drop] at h
  exact h
theorem tkd {u : List Nat} {b : Int} {n : Nat} (hb : b = (u.length : Int) - n) (hn : n ≤ u.length) : (u.take b.toNat).reverse = u.reverse.drop n := by
  rw [show b.toNat = u.length - n by omega]
  have := rev_take_len u (k := u.length - n) (by first | ((repeat (rename (_ ≠ _) => hzq; clear hzq)); omega) | omega)
  rw [show u.length - (u.length - n) = n by omega] at this
  exact this.symm
theorem eqs_of {cur : Str} {b : Int} (h0 : 0 ≤ b) (h1 : b ≤ cur.length) : Txt.endswith (Txt.slice cur (some 0) (some b)) "et" = ([116, 101] : List Nat).isPrefixOf ((ls cur).take b.toNat).reverse := by
  rw [ls_ends, ls_slice (Int.le_refl _) h0 h1]
  have : (ls (Str.ofString "et")).reverse = [116, 101] := by decide +kernel
  rw [this]; simp
theorem hd_take {f : Nat → Bool} {u : List Nat} {k : Nat} (hk : k ≤ u.length) : hd f (u.take k).reverse = (decide (0 < k) && f (u.getD (k - 1) 0)) := by
  have l : (u.take k).reverse.length = k := by rw [List.length_reverse, List.length_take]; omega
  have g : 0 < k → (u.take k).reverse.getD 0 0 = u.getD (k - 1) 0 := fun hi => by
    have := win_getD u 0 k 0 (Nat.zero_le _) hk (by first | ((repeat (rename (_ ≠ _) => hzq; clear hzq)); omega) | omega)
    simpa using this
  generalize (u.take k).reverse = r at l g ⊢
  match r, l with
  | [], l => simp at l; subst l; rfl
  | a :: q, l =>
    have k1 : 0 < k := by rw [← l]; simp
    have := g k1
    simp at this
    rw [decide_eq_true k1, ← (by simpa using this : a = u.getD (k - 1) 0)]; rfl
section
variable {u w : List Nat} {m n : Nat} {res b b1 b2 b3 : Int} (T : Told A1 (u.reverse.take m) res n)
include T
theorem mn_0 (h : res = 0) : Main u.reverse m u.reverse := ⟨res, n, T, .inl ⟨h, rfl⟩⟩
theorem mn_1 (hw : w = u.take b.toNat) (h : res = 1) (hb : b = (u.length : Int) - n) (hn : n ≤ u.length) : Main u.reverse m w.reverse :=
  ⟨res, n, T, .inr (.inl ⟨h, by rw [hw, tkd hb hn]⟩)⟩
theorem mn_2a (hw : w = u.take b.toNat) (h : res = 2) (e1 : ([116, 101] : List Nat).isPrefixOf (u.take b1.toNat).reverse = true) (e2 : etC (u.take b2.toNat).reverse = true) (hb : b = (u.length : Int) - (n + 2 : Nat)) (hn : n + 2 ≤ u.length) (hb1 : b1 = (u.length : Int) - n) (hb2 : b2 = (u.length : Int) - (n + 2 : Nat)) : Main u.reverse m w.reverse := by
  refine ⟨res, n, T, .inr (.inr (.inl ⟨h, ?_⟩))⟩
  rw [tkd hb1 (by first | ((repeat (rename (_ ≠ _) => hzq; clear hzq)); omega) | omega)] at e1
  rw [tkd hb2 hn] at e2
  rw [hw, tkd hb hn, e1, e2]; rfl
theorem not_et (e : ([116, 101] : List Nat).isPrefixOf (u.take b1.toNat).reverse = false ∨ (([116, 101] : List Nat).isPrefixOf (u.take b1.toNat).reverse = true ∧ n + 2 ≤ u.length ∧ etC (u.take b2.toNat).reverse = false ∧ b2 = (u.length : Int) - (n + 2 : Nat))) (hb1 : b1 = (u.length : Int) - n) (hn : n ≤ u.length) : (([116, 101] : List Nat).isPrefixOf (u.reverse.drop n) && etC (u.reverse.drop (n + 2))) = false := by
  rw [tkd hb1 hn] at e
  rcases e with e | ⟨_, h2, e, h4⟩
  · rw [e]; rfl
  · rw [tkd h4 h2] at e
    rw [e, Bool.and_false]
theorem mn_2b (hw : w = u.take b.toNat) (h : res = 2) (hn : n ≤ u.length) (e : (([116, 101] : List Nat).isPrefixOf (u.reverse.drop n) && etC (u.reverse.drop (n + 2))) = false) (hs : SE (u.getD (b3 - 1).toNat 0) = true) (h3 : 0 < b3) (hb : b = (u.length : Int) - n) (hb3 : b3 = (u.length : Int) - n) : Main u.reverse m w.reverse := by
  refine ⟨res, n, T, .inr (.inr (.inl ⟨h, ?_⟩))⟩
  have q : hd SE (u.reverse.drop n) = true := by
    rw [← tkd hb3 hn, hd_take (by first | ((repeat (rename (_ ≠ _) => hzq; clear hzq)); omega) | omega), decide_eq_true (by first | ((repeat (rename (_ ≠ _) => hzq; clear hzq)); omega) | omega), toNat_pred b3, hs]; rfl
  rw [hw, tkd hb hn, e, q]; simp
theorem mn_2c (h : res = 2) (hn : n ≤ u.length) (e : (([116, 101] : List Nat).isPrefixOf (u.reverse.drop n) && etC (u.reverse.drop (n + 2))) = false) (hs : ¬ (0 < b3 ∧ SE (u.getD (b3 - 1).toNat 0) = true)) (hb3 : b3 = (u.length : Int) - n) : Main u.reverse m u.reverse := by
  refine ⟨res, n, T, .inr (.inr (.inl ⟨h, ?_⟩))⟩
  have q : hd SE (u.reverse.drop n) = false := by
    rw [← tkd hb3 hn, hd_take (by first | ((repeat (rename (_ ≠ _) => hzq; clear hzq)); omega) | omega), toNat_pred b3]
    by_cases h3 : 0 < b3
    · cases z : SE (u.getD (b3 - 1).toNat 0) with
      | false => rw [Bool.and_false]
      | true => exact absurd ⟨h3, z⟩ hs
    · rw [decide_eq_false (by first | ((repeat (rename (_ ≠ _) => hzq; clear hzq)); omega) | omega)]; rfl
  rw [e, q]; simp
theorem mn_3 (hw : w = if etC (u.take b1.toNat).reverse then u.take b.toNat else u) (h0 : res ≠ 0) (h1 : res ≠ 1) (h2 : res ≠ 2) (hn : n ≤ u.length) (hb : b = (u.length : Int) - n) (hb1 : b1 = (u.length : Int) - n) : Main u.reverse m w.reverse := by
  refine ⟨res, n, T, .inr (.inr (.inr ⟨h0, h1, h2, ?_⟩))⟩
  rw [hw, tkd hb1 hn]
  cases etC (u.reverse.drop n) with
  | true => rw [if_pos rfl, if_pos rfl, tkd hb hn]
  | false => simp
end
theorem main_end {b : Bool} {cur cur' : Str} {c' l' bra' ket' p1 : Int} (hl : l' = (cur'.length : Int)) (hM : Main (ls cur).reverse ((ls cur).length - p1.toNat) (ls cur').reverse) :
    ∃ b' cur'' c'' l'' bra'' ket'', Value.bool b = .bool b' ∧ (⟨cur', c', l', 0, bra', ket', p1⟩ : St) = ⟨cur'', c'', l'', 0, bra'', ket'', p1⟩ ∧ l'' = (cur''.length : Int) ∧ Main (ls cur).reverse ((ls cur).length - p1.toNat) (ls cur'').reverse := ⟨b, cur', c', l', bra', ket', rfl, rfl, hl, hM⟩
theorem len_tk {cur cur' : Str} {b : Int} (h : ls cur' = (ls cur).take b.toNat) (h0 : 0 ≤ b) (h1 : b ≤ cur.length) : b = (cur'.length : Int) := by
  have := congrArg List.length h
  rw [List.length_take, ls_len, ls_len] at this
  omega
noncomputable def OnceP (Q : Flow → Shared → Prop) (f : Flow) (s : Shared) : Prop := match f with
  | .ret v => Q (.ret v) s
  | .brk => Q .next s
  | _ => False
theorem while_once {prog : Program} {w : World} {A : Around} {E : Value → Shared → Prop} {Q : Flow → Shared → Prop} {s : Shared} {env : Env} {h₀ : Heap} {L : Addr} {test : Expr} {body : List Stmt} {pos : Pos} {m₀ : Str → Option Value} {led : List (Addr × Obj)}
    (F : Fr h₀ L s.heap m₀) (N : News h₀ L s.heap led)
    (turn : ∀ h tk, Fr h₀ L h m₀ → News h₀ L h led → wpAny (model prog w) A (isTrue test env (eval test env)) (fun b s₂ => if b = true then wpAny (model prog w) A (execs body env) (OnceP Q) E s₂ else Q .next s₂) E { s with heap := h, toks := tk })
    (hE : PassesOwn (model prog w) A env E := by passes_own) : wpAny (model prog w) A (exec (.While test body [] pos) env) Q E s := by
  refine ksw_while (σ := Unit) (fun _ => led) (fun _ => []) (fun _ => True) [] (fun _ => True) (fun _ => 0) () F N trivial (fun p hp => nomatch hp) trivial ?_ hE
  rintro _ u h tk _ _ F' N'
  refine wpAny_mono (turn h tk F' N') (fun b s₂ p => ?_) fun _ _ x => x
  split at p
  · rename_i hb; rw [if_pos hb]
    refine wpAny_mono p (fun f s₃ q => ?_) fun _ _ x => x
    cases f with
    | ret v => exact q
    | brk => exact q
    | next => exact q.elim
    | cont => exact q.elim
  · rename_i hb; rw [if_neg hb]; exact p
theorem main_spec {w : World}  (σ : St) (h0 : σ.lb = 0) (h1 : σ.c = σ.l) (h7 : σ.l = (σ.cur.length : Int)) (h3 : σ.cur.length < 100) (h8 : 0 ≤ σ.p1) (h9 : σ.p1 ≤ σ.l) :
    MethS w 253 [] 4 (fun h => SetHas w h 230 V ∧ SetHas w h 231 SE ∧ SetHas w h 232 OE ∧ TabIn w.params h 338 A0 ∧ TabIn w.params h 453 A1 ∧ TabIn w.params h 475 A2 ∧ TabIn w.params h 491 A3) σ (fun v σ' => ∃ b cur' c' l' bra' ket', v = .bool b ∧ σ' = ⟨cur', c', l', 0, bra', ket', σ.p1⟩ ∧ l' = (cur'.length : Int) ∧ Main (ls σ.cur).reverse ((ls σ.cur).length - σ.p1.toNat) (ls cur').reverse) := by
  unfold MethS MD
  k_fill
  intro loose mean mg mb p0 dp un gd cn cs a ccd outer A₀ base g₀ h₀ L m s Q E x dx ns rest a1 a2 a3 a4 a5 a6 a7 t1 t2 t3 t4 t5 t6 t7 B F X N T XB TB D T0 hk hd hu hx hrest hpre hret
  obtain ⟨cur, c, l, lb, bra, ket, p1⟩ := σ
  simp only at *
  refine wpAny_call ?_
  k_dflt (refine' code_defS (binds := [("self", .ref x)]) ?k1 ?k2 ?k3 ?k4 ?k5 ?XB ?TB ?D ?T0 ?kA ?k6 ?k7 ?k8 ?k9 ?kB ?_ ?cK ?c2 ?c3 ?c4 ?c5; (case kA => exact rfl); (case k2 | k1 => k_asm); (case XB | TB | D | T0 => assumption); (case k3 | k4 | k5 => k_asm); (case k6 | k7 => k_is); (case k8 => ktr_room); (case k9 => exact BindsTo.of_eq rfl); (case kB => exact locs rfl); (case cK => first | exact rfl | assumption); (case c2 | c3 | c4 => exact rfl); (case c5 => decide))
  intro g' L' h' FG' F' N' B' X' T' D'
  ((conv in (execs _ _) => arg 1; whnf); (try dsimp only); (show wpAny _ _ (execs _ _) _ _ _); k_fold)
  subst h0
  subst h1
  have et2 : (Str.ofString "et").length = 2 := by decide +kernel
  obtain ⟨hpV, hpS, hpO, hp0, hp1, hp2, hp3⟩ := hpre
  have hlc := ls_len cur
  (repeat' (first | (k_unfold; (try dsimp only)) | (k_end; wrow_close) | with_reducible ((with_reducible show wpAny _ _ (exec (Stmt.While (PySem.Expr.Constant _ _ _) (_ :: _) [] _) _) _ _ _); (refine' while_once ?k1 ?k2 ?_; (case k1 | k2 => k_asm); k_whole; intro h'q tk'q F'q N'q; (try k_fold); (try k_sweep); (try dsimp only))) | ((with_reducible show wpAny _ _ (call (Value.ref _) _ _) _ _ _); ((with_reducible show wpAny _ _ (call (Value.ref 246) _) _ _ _); k_dflt (refine' MethS.use (et_spec ⟨_, _, _, _, _, _, _⟩ ?g0 ?g1 ?g2 ?g3 ?g4) ?kB ?kF ?kX ?kN ?kT ?kXB ?kTB ?kD ?kT0 ?kk ?kd ?ku ?kx ?kr ?kp ?_); (case kB => assumption); (case kF => k_asm); (case kX => assumption); (case kN => k_asm); (case kT | kXB | kTB | kD => assumption); (case kT0 => first | assumption | exact KtsTurn.refl); (case kk => first | exact rfl | assumption); (case kd => ktr_room); (case ku => ktr_units); (case kx | kr => assumption); (case kp => first | exact trivial | assumption | exact ⟨by assumption, by assumption⟩); (case g0 | g1 | g2 | g3 | g4 => ((try dsimp only) <;> (first | assumption | exact rfl | exact Int.le_refl _ | ((repeat (rename (_ ≠ _) => hzq; clear hzq)); omega) | omega | decide +kernel))); intro v9q σ9 h9q tk9q ns9q b1q b2q b3q b4q b5q b6q b7q g9q hp9q T9q F9q N9q B9q X9q P9q D9q; rcases hp9q with ⟨c9, e1, e2, p9⟩; all_goals ((try subst e1); (try subst e2); (try k_sweep); (try dsimp only at N9q p9 ⊢)))) | ((with_reducible show wpAny _ _ (call (Value.ref _) _ _) _ _ _); ((with_reducible show wpAny _ _ (call (Value.ref 140) _) _ _ _); k_dflt (refine' Meth.use (find_p (TB := A1) ⟨_, _, _, _, _, _, _⟩ ?g0 ?g1 ?g2 ?g3 ?g4 ?g5 ?g6 ?g7) ?kB ?kF ?kX ?kN ?kT ?kk ?kd ?ku ?kx ?kr ?kp ?_); (case kB | kF | kX | kN | kT => k_asm); (case kk => first | exact rfl | assumption); (case kd => ktr_room); (case ku => ktr_units); (case kx | kr => assumption); (case kp => first | exact trivial | exact SetHas.below (by assumption) (by assumption) | exact TabIn.below (by assumption) (by assumption)); (case g0 | g1 | g2 | g3 | g4 | g5 | g6 | g7 => ((try dsimp only) <;> (first | assumption | exact rfl | exact Int.le_refl _ | ((repeat (rename (_ ≠ _) => hzq; clear hzq)); omega) | omega | exact ok1 | decide +kernel))); intro v9q σ9 h9q tk9q ns9q b1q b2q b3q b4q b5q b6q b7q hp9q; rcases hp9q with ⟨r9, n9, t9, k9⟩; all_goals (intro F9q N9q; (try k_sweep); (try dsimp only at N9q ⊢); (have l9q := told_le2 k9 (by first | ((repeat (rename (_ ≠ _) => hzq; clear hzq)); omega) | omega) (by first | ((repeat (rename (_ ≠ _) => hzq; clear hzq)); omega) | omega)); (try dsimp only at l9q)))) | ((with_reducible show wpAny _ _ (call (Value.ref _) _ _) _ _ _); ((with_reducible show wpAny _ _ (call (Value.ref 161) _) _ _ _); k_dflt (refine' Meth.use (slice_del_p ⟨_, _, _, _, _, _, _⟩ ?g0 ?g1 ?g2 ?g3 ?g4 ?g5 ?g6) ?kB ?kF ?kX ?kN ?kT ?kk ?kd ?ku ?kx ?kr ?kp ?_); (case kB | kF | kX | kN | kT => k_asm); (case kk => first | exact rfl | assumption); (case kd => ktr_room); (case ku => ktr_units); (case kx | kr => assumption); (case kp => first | exact trivial | exact SetHas.below (by assumption) (by assumption) | exact TabIn.below (by assumption) (by assumption)); (case g0 | g1 | g2 | g3 | g4 | g5 | g6 => ((try dsimp only) <;> (first | assumption | exact rfl | exact Int.le_refl _ | ((repeat (rename (_ ≠ _) => hzq; clear hzq)); omega) | omega | ((rename (_ = true → _ = _) => p8q); (have q8q := p8q (by assumption)); (try dsimp only at q8q); omega)))); intro v9q σ9 h9q tk9q ns9q b1q b2q b3q b4q b5q b6q b7q hp9q; rcases hp9q with ⟨c9, k9, p9⟩; all_goals (intro F9q N9q; (try k_sweep); (try dsimp only at N9q p9 ⊢)))) | ((with_reducible show wpAny _ _ (call (Value.ref _) _ _) _ _ _); ((with_reducible show wpAny _ _ (call (Value.ref 126) _) _ _ _); k_dflt (refine' Meth.use (eq_s_b_spec ⟨_, _, _, _, _, _, _⟩ ?g0 ?g1 ?g2 ?g3 ?g4 ?g5) ?kB ?kF ?kX ?kN ?kT ?kk ?kd ?ku ?kx ?kr ?kp ?_); (case kB | kF | kX | kN | kT => k_asm); (case kk => first | exact rfl | assumption); (case kd => ktr_room); (case ku => ktr_units); (case kx | kr => assumption); (case kp => first | exact trivial | exact SetHas.below (by assumption) (by assumption) | exact TabIn.below (by assumption) (by assumption)); (case g0 | g1 | g2 | g3 | g4 | g5 => ((try dsimp only) <;> (first | assumption | exact rfl | exact Int.le_refl _ | ((repeat (rename (_ ≠ _) => hzq; clear hzq)); omega) | omega | decide +kernel))); intro v9q σ9 h9q tk9q ns9q b1q b2q b3q b4q b5q b6q b7q hp9q F9q N9q; rcases hp9q with (⟨f9, e1, e2⟩ | ⟨f9, e1, e2⟩); all_goals ((try subst e1); (try subst e2); (try k_sweep); (try dsimp only at N9q f9 ⊢); (try (have l9q := ends_le (by first | ((repeat (rename (_ ≠ _) => hzq; clear hzq)); omega) | omega) (by first | ((repeat (rename (_ ≠ _) => hzq; clear hzq)); omega) | omega) (by first | ((repeat (rename (_ ≠ _) => hzq; clear hzq)); omega) | omega) f9))))) | ((with_reducible show wpAny _ _ (call (Value.ref _) _ _) _ _ _); ((with_reducible show wpAny _ _ (call (Value.ref 77) _) _ _ _); k_dflt (refine' Meth.use (in_grouping_p ⟨_, _, _, _, _, _, _⟩ ?g0 ?g1 ?g2) ?kB ?kF ?kX ?kN ?kT ?kk ?kd ?ku ?kx ?kr ?kp ?_); (case kB | kF | kX | kN | kT => k_asm); (case kk => first | exact rfl | assumption); (case kd => ktr_room); (case ku => ktr_units); (case kx | kr => assumption); (case kp => first | exact trivial | exact SetHas.below (by assumption) (by assumption) | exact TabIn.below (by assumption) (by assumption)); (case g0 | g1 | g2 => ((try dsimp only) <;> (first | assumption | exact rfl | exact Int.le_refl _ | ((repeat (rename (_ ≠ _) => hzq; clear hzq)); omega) | omega | decide +kernel))); intro v9q σ9 h9q tk9q ns9q b1q b2q b3q b4q b5q b6q b7q hp9q; rcases hp9q with (⟨l9, f9⟩ | ⟨f9⟩); all_goals (intro F9q N9q; (try k_sweep); (try dsimp only at l9); (try dsimp only at f9); (try dsimp only at N9q ⊢)))) | ((with_reducible show wpAny _ _ (noteFrame (Value.ref _) _) _ _ _); (refine' catch_own ?k1 ?k2 ?k3 ?k4 ?k5 ?k6 ?k7 ?k8 ?k9 ?kq ?_; (case k1 => assumption); (case k2 | k3 => k_asm); (case k4 | k5 | k6 | k7 => assumption); (case k8 => first | assumption | exact KtsTurn.refl); (case k9 => k_is); (case kq => kts_isx); k_whole; intro h'q g'q T'q F'q N'q B'q X'q P'q D'q; (try k_sweep); (try dsimp only))) | with_reducible ((with_reducible show wpAny _ _ (getAttr (Value.ref _) _ _) _ _ _); ((first | with_reducible refine' cls_g_v ?k1 ?k2 ?k3 ?_ | with_reducible refine' cls_g_s_ending ?k1 ?k2 ?k3 ?_ | with_reducible refine' cls_g_ost_ending ?k1 ?k2 ?k3 ?_); (case k1 | k2 => k_asm); (case k3 => first | exact SetHas.below (f := V) (by assumption) (by assumption) | exact SetHas.below (f := SE) (by assumption) (by assumption) | exact SetHas.below (f := OE) (by assumption) (by assumption)); k_whole; (try dsimp only))) | with_reducible ((with_reducible show wpAny _ _ (getAttr (Value.ref _) _ _) _ _ _); ((first | with_reducible refine' get_cur ?k1 ?k2 ?k3 ?_ | with_reducible refine' get_c ?k1 ?k2 ?k3 ?_ | with_reducible refine' get_l ?k1 ?k2 ?k3 ?_ | with_reducible refine' get_lb ?k1 ?k2 ?k3 ?_ | with_reducible refine' get_bra ?k1 ?k2 ?k3 ?_ | with_reducible refine' get_ket ?k1 ?k2 ?k3 ?_ | with_reducible refine' get_p1 ?k1 ?k2 ?k3 ?_); (case k1 | k2 | k3 => k_asm); k_whole; (try dsimp only))) | with_reducible ((with_reducible show wpAny _ _ (setAttr (Value.ref _) _ _) _ _ _); ((first | with_reducible refine' set_cur ?k0 ?kx ?kr ?k1 ?k2 ?k3 ?_ | with_reducible refine' set_c ?k0 ?kx ?kr ?k1 ?k2 ?k3 ?_ | with_reducible refine' set_l ?k0 ?kx ?kr ?k1 ?k2 ?k3 ?_ | with_reducible refine' set_lb ?k0 ?kx ?kr ?k1 ?k2 ?k3 ?_ | with_reducible refine' set_bra ?k0 ?kx ?kr ?k1 ?k2 ?k3 ?_ | with_reducible refine' set_ket ?k0 ?kx ?kr ?k1 ?k2 ?k3 ?_); (case k1 | k2 | k3 => k_asm); (case kx | kr => assumption); (case k0 => exact Nat.le_of_ble_eq_true rfl); k_whole; intro h'q F'q N'q; (try k_sweep); (try dsimp only))) | with_reducible ((with_reducible show OnceP _ _ _); (dsimp only [OnceP])) | walk1 | (dsimp only; walk1) | (leave1; try dsimp only) | fail))
  all_goals (try rename (Told _ _ _ _) => k8)
  all_goals (try have k7 := told_m (u := ls cur) (c := c) (p := p1) (by first | ((repeat (rename (_ ≠ _) => hzq; clear hzq)); omega) | omega) k8)
  all_goals (try clear k8)
  all_goals (refine hret _ ⟨_, _, _, _, _, _, _⟩ _ _ _ _ _ _ _ _ _ _ _ ?_ (by assumption) (by assumption) (by assumption) (by assumption) (by assumption) (by assumption) (by assumption))
  all_goals first
    | exact main_end (by first | ((repeat (rename (_ ≠ _) => hzq; clear hzq)); omega) | omega) (mn_0 k7 (by assumption))
    | (rename (ls _ = List.take _ (ls cur)) => hls
       exact main_end (len_tk hls (by first | ((repeat (rename (_ ≠ _) => hzq; clear hzq)); omega) | omega) (by first | ((repeat (rename (_ ≠ _) => hzq; clear hzq)); omega) | omega)) (mn_1 k7 hls (by assumption) (by first | ((repeat (rename (_ ≠ _) => hzq; clear hzq)); omega) | omega) (by first | ((repeat (rename (_ ≠ _) => hzq; clear hzq)); omega) | omega)))
    | (rename (ls _ = List.take _ (ls cur)) => hls
       rename (etC _ = true) => het
       rename (Txt.endswith _ _ = true) => heq
       rw [eqs_of (by first | ((repeat (rename (_ ≠ _) => hzq; clear hzq)); omega) | omega) (by first | ((repeat (rename (_ ≠ _) => hzq; clear hzq)); omega) | omega)] at heq
       rename (_ = true → _ = _) => p8
       have q8 := p8 het
       try dsimp only at q8
       exact main_end (len_tk hls (by first | ((repeat (rename (_ ≠ _) => hzq; clear hzq)); omega) | omega) (by first | ((repeat (rename (_ ≠ _) => hzq; clear hzq)); omega) | omega)) (mn_2a k7 hls (by assumption) heq het (by first | ((repeat (rename (_ ≠ _) => hzq; clear hzq)); omega) | omega) (by first | ((repeat (rename (_ ≠ _) => hzq; clear hzq)); omega) | omega) (by first | ((repeat (rename (_ ≠ _) => hzq; clear hzq)); omega) | omega) (by first | ((repeat (rename (_ ≠ _) => hzq; clear hzq)); omega) | omega)))
    | (rename (ls _ = List.take _ (ls cur)) => hls
       rename (Txt.endswith _ _ = false) => heq
       rw [eqs_of (by first | ((repeat (rename (_ ≠ _) => hzq; clear hzq)); omega) | omega) (by first | ((repeat (rename (_ ≠ _) => hzq; clear hzq)); omega) | omega)] at heq
       exact main_end (len_tk hls (by first | ((repeat (rename (_ ≠ _) => hzq; clear hzq)); omega) | omega) (by first | ((repeat (rename (_ ≠ _) => hzq; clear hzq)); omega) | omega)) (mn_2b k7 hls (by assumption) (by first | ((repeat (rename (_ ≠ _) => hzq; clear hzq)); omega) | omega) (not_et k7 (b2 := 0) (.inl heq) (by first | ((repeat (rename (_ ≠ _) => hzq; clear hzq)); omega) | omega) (by first | ((repeat (rename (_ ≠ _) => hzq; clear hzq)); omega) | omega)) (by assumption) (by first | ((repeat (rename (_ ≠ _) => hzq; clear hzq)); omega) | omega) (by first | ((repeat (rename (_ ≠ _) => hzq; clear hzq)); omega) | omega) (by first | ((repeat (rename (_ ≠ _) => hzq; clear hzq)); omega) | omega)))
    | (rename (ls _ = List.take _ (ls cur)) => hls
       rename (Txt.endswith _ _ = true) => heq
       rename (etC _ = false) => het
       rw [eqs_of (by first | ((repeat (rename (_ ≠ _) => hzq; clear hzq)); omega) | omega) (by first | ((repeat (rename (_ ≠ _) => hzq; clear hzq)); omega) | omega)] at heq
       exact main_end (len_tk hls (by first | ((repeat (rename (_ ≠ _) => hzq; clear hzq)); omega) | omega) (by first | ((repeat (rename (_ ≠ _) => hzq; clear hzq)); omega) | omega)) (mn_2b k7 hls (by assumption) (by first | ((repeat (rename (_ ≠ _) => hzq; clear hzq)); omega) | omega) (not_et k7 (.inr ⟨heq, by omega, het, by omega⟩) (by first | ((repeat (rename (_ ≠ _) => hzq; clear hzq)); omega) | omega) (by first | ((repeat (rename (_ ≠ _) => hzq; clear hzq)); omega) | omega)) (by assumption) (by first | ((repeat (rename (_ ≠ _) => hzq; clear hzq)); omega) | omega) (by first | ((repeat (rename (_ ≠ _) => hzq; clear hzq)); omega) | omega) (by first | ((repeat (rename (_ ≠ _) => hzq; clear hzq)); omega) | omega)))
    | (rename (Txt.endswith _ _ = false) => heq
       rw [eqs_of (by first | ((repeat (rename (_ ≠ _) => hzq; clear hzq)); omega) | omega) (by first | ((repeat (rename (_ ≠ _) => hzq; clear hzq)); omega) | omega)] at heq
       exact main_end (by first | ((repeat (rename (_ ≠ _) => hzq; clear hzq)); omega) | omega) (mn_2c k7 (by assumption) (by first | ((repeat (rename (_ ≠ _) => hzq; clear hzq)); omega) | omega) (not_et k7 (b2 := 0) (.inl heq) (by first | ((repeat (rename (_ ≠ _) => hzq; clear hzq)); omega) | omega) (by first | ((repeat (rename (_ ≠ _) => hzq; clear hzq)); omega) | omega)) (by assumption) (by first | ((repeat (rename (_ ≠ _) => hzq; clear hzq)); omega) | omega)))
    | (rename (Txt.endswith _ _ = true) => heq
       rename (etC _ = false) => het
       rw [eqs_of (by first | ((repeat (rename (_ ≠ _) => hzq; clear hzq)); omega) | omega) (by first | ((repeat (rename (_ ≠ _) => hzq; clear hzq)); omega) | omega)] at heq
       exact main_end (by first | ((repeat (rename (_ ≠ _) => hzq; clear hzq)); omega) | omega) (mn_2c k7 (by assumption) (by first | ((repeat (rename (_ ≠ _) => hzq; clear hzq)); omega) | omega) (not_et k7 (.inr ⟨heq, by omega, het, by omega⟩) (by first | ((repeat (rename (_ ≠ _) => hzq; clear hzq)); omega) | omega) (by first | ((repeat (rename (_ ≠ _) => hzq; clear hzq)); omega) | omega)) (by assumption) (by first | ((repeat (rename (_ ≠ _) => hzq; clear hzq)); omega) | omega)))
    | (rename (ls _ = List.take _ (ls cur)) => hls
       rename (etC _ = true) => het
       exact main_end (len_tk hls (by first | ((repeat (rename (_ ≠ _) => hzq; clear hzq)); omega) | omega) (by first | ((repeat (rename (_ ≠ _) => hzq; clear hzq)); omega) | omega)) (mn_3 k7 (by rw [if_pos het]; exact hls) (by assumption) (by assumption) (by assumption) (by first | ((repeat (rename (_ ≠ _) => hzq; clear hzq)); omega) | omega) (by first | ((repeat (rename (_ ≠ _) => hzq; clear hzq)); omega) | omega) (by first | ((repeat (rename (_ ≠ _) => hzq; clear hzq)); omega) | omega)))
    | (rename (etC _ = false) => het
       exact main_end (by first | ((repeat (rename (_ ≠ _) => hzq; clear hzq)); omega) | omega) (mn_3 k7 (b := (ls cur).length - _) (by rw [het, if_neg Bool.false_ne_true]) (by assumption) (by assumption) (by assumption) (by first | ((repeat (rename (_ ≠ _) => hzq; clear hzq)); omega) | omega) rfl (by first | ((repeat (rename (_ ≠ _) => hzq; clear hzq)); omega) | omega)))

inductive PostM (R : List Nat → Prop) (p1 : Int) : Value → St → Prop
  | mk (b : Bool) (cur' : Str) (c' l' bra' ket' : Int) (hl : l' = (cur'.length : Int)) (hM : R (ls cur').reverse) : PostM R p1 (.bool b) ⟨cur', c', l', 0, bra', ket', p1⟩
theorem main_p {w : World} (σ : St) (h0 : σ.lb = 0) (h1 : σ.c = σ.l) (h7 : σ.l = (σ.cur.length : Int)) (h3 : σ.cur.length < 100) (h8 : 0 ≤ σ.p1) (h9 : σ.p1 ≤ σ.l) :
    MethS w 253 [] 4 (fun h => SetHas w h 230 V ∧ SetHas w h 231 SE ∧ SetHas w h 232 OE ∧ TabIn w.params h 338 A0 ∧ TabIn w.params h 453 A1 ∧ TabIn w.params h 475 A2 ∧ TabIn w.params h 491 A3) σ (PostM (Main (ls σ.cur).reverse ((ls σ.cur).length - σ.p1.toNat)) σ.p1) :=
  (main_spec σ h0 h1 h7 h3 h8 h9).mono fun _ _ q => by
    obtain ⟨b, cur', c', l', bra', ket', rfl, rfl, hl, hM⟩ := q
    exact .mk _ _ _ _ _ _ hl hM
end PartW10
section PartW11
open PySem PySem.W PyProof.Rows PySem.Calls
theorem end_of {P : List Nat → Prop} {b : Bool} {cur' : Str} {c' l' lb' bra' ket' p1 : Int} (hlb : lb' = 0) (hl : l' = (cur'.length : Int)) (hM : P (ls cur').reverse) :
    ∃ b' cur'' c'' l'' bra'' ket'', Value.bool b = .bool b' ∧ (⟨cur', c', l', lb', bra', ket', p1⟩ : St) = ⟨cur'', c'', l'', 0, bra'', ket'', p1⟩ ∧ l'' = (cur''.length : Int) ∧ P (ls cur'').reverse := ⟨b, cur', c', l', bra', ket', rfl, by rw [hlb], hl, hM⟩
section
variable {u w : List Nat} {m n : Nat} {res b b1 b2 b3 : Int} (T : Told A2 (u.reverse.take m) res n)
include T
theorem cn_0 (h : res = 0) : Cons u.reverse m u.reverse := ⟨res, n, T, .inl ⟨h, rfl⟩⟩
theorem cn_n (h : res ≠ 0) (hm : m = 0) : Cons u.reverse m u.reverse := by
  subst hm
  rw [List.take_zero] at T
  exact absurd (told_nil ok2 T) h
theorem cn_1 (hw : w = u.take b.toNat) (h : res ≠ 0) (hb : b = (u.length : Int) - (1 : Nat)) (hn : 1 ≤ u.length) : Cons u.reverse m w.reverse :=
  ⟨res, n, T, .inr ⟨h, by rw [hw, tkd hb hn]⟩⟩
end
section
variable {u w : List Nat} {m n : Nat} {res b b1 b2 b3 : Int} (T : Told A3 (u.reverse.take m) res n)
include T
theorem on_0 (h : res = 0) : Oth u.reverse m u.reverse := ⟨res, n, T, .inl ⟨h, rfl⟩⟩
theorem on_1 (hw : w = u.take b.toNat) (h : res = 1) (hb : b = (u.length : Int) - n) (hn : n ≤ u.length) : Oth u.reverse m w.reverse :=
  ⟨res, n, T, .inr (.inl ⟨h, by rw [hw, tkd hb hn]⟩)⟩
theorem on_2a (hw : w = u.take b.toNat ++ ls (Str.ofString "ös")) (h : res = 2) (hs : OE (u.getD (b3 - 1).toNat 0) = true) (h3 : 0 < b3) (hb : b = (u.length : Int) - n) (hb3 : b3 = (u.length : Int) - n) (hn : n ≤ u.length) : Oth u.reverse m w.reverse := by
  refine ⟨res, n, T, .inr (.inr (.inl ⟨h, ?_⟩))⟩
  have q : hd OE (u.reverse.drop n) = true := by
    rw [← tkd hb3 hn, hd_take (by first | ((repeat (rename (_ ≠ _) => hzq; clear hzq)); omega) | omega), decide_eq_true (by first | ((repeat (rename (_ ≠ _) => hzq; clear hzq)); omega) | omega), show b3.toNat - 1 = (b3 - 1).toNat by omega, hs]; rfl
  have e : (ls (Str.ofString "ös")).reverse = [115, 246] := by decide +kernel
  rw [hw, List.reverse_append, tkd hb hn, q, if_pos rfl, e]
theorem on_2b (h : res = 2) (hs : ¬ (0 < b3 ∧ OE (u.getD (b3 - 1).toNat 0) = true)) (hb3 : b3 = (u.length : Int) - n) (hn : n ≤ u.length) : Oth u.reverse m u.reverse := by
  refine ⟨res, n, T, .inr (.inr (.inl ⟨h, ?_⟩))⟩
  have q : hd OE (u.reverse.drop n) = false := by
    rw [← tkd hb3 hn, hd_take (by first | ((repeat (rename (_ ≠ _) => hzq; clear hzq)); omega) | omega), show b3.toNat - 1 = (b3 - 1).toNat by omega]
    by_cases h3 : 0 < b3
    · cases z : OE (u.getD (b3 - 1).toNat 0) with
      | false => rw [Bool.and_false]
      | true => exact absurd ⟨h3, z⟩ hs
    · rw [decide_eq_false (by first | ((repeat (rename (_ ≠ _) => hzq; clear hzq)); omega) | omega)]; rfl
  rw [q]; simp
theorem on_3 (hw : w = u.take b.toNat ++ ls (Str.ofString "full")) (h0 : res ≠ 0) (h1 : res ≠ 1) (h2 : res ≠ 2) (hb : b = (u.length : Int) - n) (hn : n ≤ u.length) : Oth u.reverse m w.reverse := by
  refine ⟨res, n, T, .inr (.inr (.inr ⟨h0, h1, h2, ?_⟩))⟩
  have e : (ls (Str.ofString "full")).reverse = [108, 108, 117, 102] := by decide +kernel
  rw [hw, List.reverse_append, tkd hb hn, e]
end
theorem len_tk2 {cur cur' ss : Str} {b : Int} (h : ls cur' = (ls cur).take b.toNat ++ ls ss) (h0 : 0 ≤ b) (h1 : b ≤ cur.length) : b + ss.length = (cur'.length : Int) := by
  have := congrArg List.length h
  rw [List.length_append, List.length_take, ls_len, ls_len, ls_len] at this
  omega
theorem cons_spec {w : World}  (σ : St) (h0 : σ.lb = 0) (h1 : σ.c = σ.l) (h7 : σ.l = (σ.cur.length : Int)) (h3 : σ.cur.length < 100) (h8 : 0 ≤ σ.p1) (h9 : σ.p1 ≤ σ.l) :
    MethS w 260 [] 4 (fun h => SetHas w h 230 V ∧ SetHas w h 231 SE ∧ SetHas w h 232 OE ∧ TabIn w.params h 338 A0 ∧ TabIn w.params h 453 A1 ∧ TabIn w.params h 475 A2 ∧ TabIn w.params h 491 A3) σ (fun v σ' => ∃ b cur' c' l' bra' ket', v = .bool b ∧ σ' = ⟨cur', c', l', 0, bra', ket', σ.p1⟩ ∧ l' = (cur'.length : Int) ∧ Cons (ls σ.cur).reverse ((ls σ.cur).length - σ.p1.toNat) (ls cur').reverse) := by
  unfold MethS MD
  k_fill
  intro loose mean mg mb p0 dp un gd cn cs a ccd outer A₀ base g₀ h₀ L m s Q E x dx ns rest a1 a2 a3 a4 a5 a6 a7 t1 t2 t3 t4 t5 t6 t7 B F X N T XB TB D T0 hk hd hu hx hrest hpre hret
  obtain ⟨cur, c, l, lb, bra, ket, p1⟩ := σ
  simp only at *
  refine wpAny_call ?_
  k_dflt (refine' code_defS (binds := [("self", .ref x)]) ?k1 ?k2 ?k3 ?k4 ?k5 ?XB ?TB ?D ?T0 ?kA ?k6 ?k7 ?k8 ?k9 ?kB ?_ ?cK ?c2 ?c3 ?c4 ?c5; (case kA => exact rfl); (case k2 | k1 => k_asm); (case XB | TB | D | T0 => assumption); (case k3 | k4 | k5 => k_asm); (case k6 | k7 => k_is); (case k8 => ktr_room); (case k9 => exact BindsTo.of_eq rfl); (case kB => exact locs rfl); (case cK => first | exact rfl | assumption); (case c2 | c3 | c4 => exact rfl); (case c5 => decide))
  intro g' L' h' FG' F' N' B' X' T' D'
  ((conv in (execs _ _) => arg 1; whnf); (try dsimp only); (show wpAny _ _ (execs _ _) _ _ _); k_fold)
  subst h0
  subst h1
  obtain ⟨hpV, hpS, hpO, hp0, hp1, hp2, hp3⟩ := hpre
  have hlc := ls_len cur
  have el1 : (Str.ofString "ös").length = 2 := by decide +kernel
  have el2 : (Str.ofString "full").length = 4 := by decide +kernel
  (repeat' (first | (k_unfold; (try dsimp only)) | (k_end; wrow_close) | ((with_reducible show wpAny _ _ (call (Value.ref _) _ _) _ _ _); ((with_reducible show wpAny _ _ (call (Value.ref 140) _) _ _ _); k_dflt (refine' Meth.use (find_p (TB := A2) ⟨_, _, _, _, _, _, _⟩ ?g0 ?g1 ?g2 ?g3 ?g4 ?g5 ?g6 ?g7) ?kB ?kF ?kX ?kN ?kT ?kk ?kd ?ku ?kx ?kr ?kp ?_); (case kB | kF | kX | kN | kT => k_asm); (case kk => first | exact rfl | assumption); (case kd => ktr_room); (case ku => ktr_units); (case kx | kr => assumption); (case kp => first | exact trivial | exact SetHas.below (by assumption) (by assumption) | exact TabIn.below (by assumption) (by assumption)); (case g0 | g1 | g2 | g3 | g4 | g5 | g6 | g7 => ((try dsimp only) <;> (first | assumption | exact rfl | exact Int.le_refl _ | ((repeat (rename (_ ≠ _) => hzq; clear hzq)); omega) | omega | exact ok2 | decide +kernel))); intro v9q σ9 h9q tk9q ns9q b1q b2q b3q b4q b5q b6q b7q hp9q; rcases hp9q with ⟨r9, n9, t9, k9⟩; all_goals (intro F9q N9q; (try k_sweep); (try dsimp only at N9q ⊢); (have l9q := told_le2 k9 (by first | ((repeat (rename (_ ≠ _) => hzq; clear hzq)); omega) | omega) (by first | ((repeat (rename (_ ≠ _) => hzq; clear hzq)); omega) | omega)); (try dsimp only at l9q)))) | ((with_reducible show wpAny _ _ (call (Value.ref _) _ _) _ _ _); ((with_reducible show wpAny _ _ (call (Value.ref 161) _) _ _ _); k_dflt (refine' Meth.use (slice_del_p ⟨_, _, _, _, _, _, _⟩ ?g0 ?g1 ?g2 ?g3 ?g4 ?g5 ?g6) ?kB ?kF ?kX ?kN ?kT ?kk ?kd ?ku ?kx ?kr ?kp ?_); (case kB | kF | kX | kN | kT => k_asm); (case kk => first | exact rfl | assumption); (case kd => ktr_room); (case ku => ktr_units); (case kx | kr => assumption); (case kp => first | exact trivial | exact SetHas.below (by assumption) (by assumption) | exact TabIn.below (by assumption) (by assumption)); (case g0 | g1 | g2 | g3 | g4 | g5 | g6 => ((try dsimp only) <;> (first | assumption | exact rfl | exact Int.le_refl _ | ((repeat (rename (_ ≠ _) => hzq; clear hzq)); omega) | omega | decide +kernel))); intro v9q σ9 h9q tk9q ns9q b1q b2q b3q b4q b5q b6q b7q hp9q; rcases hp9q with ⟨c9, k9, p9⟩; all_goals (intro F9q N9q; (try k_sweep); (try dsimp only at N9q p9 ⊢)))) | with_reducible ((with_reducible show wpAny _ _ (getAttr (Value.ref _) _ _) _ _ _); ((first | with_reducible refine' get_cur ?k1 ?k2 ?k3 ?_ | with_reducible refine' get_c ?k1 ?k2 ?k3 ?_ | with_reducible refine' get_l ?k1 ?k2 ?k3 ?_ | with_reducible refine' get_lb ?k1 ?k2 ?k3 ?_ | with_reducible refine' get_bra ?k1 ?k2 ?k3 ?_ | with_reducible refine' get_ket ?k1 ?k2 ?k3 ?_ | with_reducible refine' get_p1 ?k1 ?k2 ?k3 ?_); (case k1 | k2 | k3 => k_asm); k_whole; (try dsimp only))) | with_reducible ((with_reducible show wpAny _ _ (setAttr (Value.ref _) _ _) _ _ _); ((first | with_reducible refine' set_cur ?k0 ?kx ?kr ?k1 ?k2 ?k3 ?_ | with_reducible refine' set_c ?k0 ?kx ?kr ?k1 ?k2 ?k3 ?_ | with_reducible refine' set_l ?k0 ?kx ?kr ?k1 ?k2 ?k3 ?_ | with_reducible refine' set_lb ?k0 ?kx ?kr ?k1 ?k2 ?k3 ?_ | with_reducible refine' set_bra ?k0 ?kx ?kr ?k1 ?k2 ?k3 ?_ | with_reducible refine' set_ket ?k0 ?kx ?kr ?k1 ?k2 ?k3 ?_); (case k1 | k2 | k3 => k_asm); (case kx | kr => assumption); (case k0 => exact Nat.le_of_ble_eq_true rfl); k_whole; intro h'q F'q N'q; (try k_sweep); (try dsimp only))) | walk1 | (dsimp only; walk1) | (leave1; try dsimp only) | fail))
  all_goals (try rename (Told _ _ _ _) => k8)
  all_goals (try have k7 := told_m (u := ls cur) (c := c) (p := p1) (by first | ((repeat (rename (_ ≠ _) => hzq; clear hzq)); omega) | omega) k8)
  all_goals (try clear k8)
  all_goals (refine hret _ ⟨_, _, _, _, _, _, _⟩ _ _ _ _ _ _ _ _ _ _ _ ?_ (by assumption) (by assumption) (by assumption) (by assumption) (by assumption) (by assumption) (by assumption))
  all_goals first
    | exact end_of (P := Cons _ _) rfl (by first | ((repeat (rename (_ ≠ _) => hzq; clear hzq)); omega) | omega) (cn_0 k7 (by assumption))
    | exact end_of (P := Cons _ _) rfl (by first | ((repeat (rename (_ ≠ _) => hzq; clear hzq)); omega) | omega) (cn_n k7 (by assumption) (by first | ((repeat (rename (_ ≠ _) => hzq; clear hzq)); omega) | omega))
    | (rename (ls _ = List.take _ (ls cur)) => hls
       exact end_of (P := Cons _ _) rfl (len_tk hls (by first | ((repeat (rename (_ ≠ _) => hzq; clear hzq)); omega) | omega) (by first | ((repeat (rename (_ ≠ _) => hzq; clear hzq)); omega) | omega)) (cn_1 k7 hls (by assumption) (by first | ((repeat (rename (_ ≠ _) => hzq; clear hzq)); omega) | omega) (by first | ((repeat (rename (_ ≠ _) => hzq; clear hzq)); omega) | omega)))
    | (fail "left")
theorem oth_spec {w : World}  (σ : St) (h0 : σ.lb = 0) (h1 : σ.c = σ.l) (h7 : σ.l = (σ.cur.length : Int)) (h3 : σ.cur.length < 100) (h8 : 0 ≤ σ.p1) (h9 : σ.p1 ≤ σ.l) :
    MethS w 267 [] 4 (fun h => SetHas w h 230 V ∧ SetHas w h 231 SE ∧ SetHas w h 232 OE ∧ TabIn w.params h 338 A0 ∧ TabIn w.params h 453 A1 ∧ TabIn w.params h 475 A2 ∧ TabIn w.params h 491 A3) σ (fun v σ' => ∃ b cur' c' l' bra' ket', v = .bool b ∧ σ' = ⟨cur', c', l', 0, bra', ket', σ.p1⟩ ∧ l' = (cur'.length : Int) ∧ Oth (ls σ.cur).reverse ((ls σ.cur).length - σ.p1.toNat) (ls cur').reverse) := by
  unfold MethS MD
  k_fill
  intro loose mean mg mb p0 dp un gd cn cs a ccd outer A₀ base g₀ h₀ L m s Q E x dx ns rest a1 a2 a3 a4 a5 a6 a7 t1 t2 t3 t4 t5 t6 t7 B F X N T XB TB D T0 hk hd hu hx hrest hpre hret
  obtain ⟨cur, c, l, lb, bra, ket, p1⟩ := σ
  simp only at *
  refine wpAny_call ?_
  k_dflt (refine' code_defS (binds := [("self", .ref x)]) ?k1 ?k2 ?k3 ?k4 ?k5 ?XB ?TB ?D ?T0 ?kA ?k6 ?k7 ?k8 ?k9 ?kB ?_ ?cK ?c2 ?c3 ?c4 ?c5; (case kA => exact rfl); (case k2 | k1 => k_asm); (case XB | TB | D | T0 => assumption); (case k3 | k4 | k5 => k_asm); (case k6 | k7 => k_is); (case k8 => ktr_room); (case k9 => exact BindsTo.of_eq rfl); (case kB => exact locs rfl); (case cK => first | exact rfl | assumption); (case c2 | c3 | c4 => exact rfl); (case c5 => decide))
  intro g' L' h' FG' F' N' B' X' T' D'
  ((conv in (execs _ _) => arg 1; whnf); (try dsimp only); (show wpAny _ _ (execs _ _) _ _ _); k_fold)
  subst h0
  subst h1
  obtain ⟨hpV, hpS, hpO, hp0, hp1, hp2, hp3⟩ := hpre
  have hlc := ls_len cur
  have el1 : (Str.ofString "ös").length = 2 := by decide +kernel
  have el2 : (Str.ofString "full").length = 4 := by decide +kernel
  (repeat' (first | (k_unfold; (try dsimp only)) | (k_end; wrow_close) | ((with_reducible show wpAny _ _ (call (Value.ref _) _ _) _ _ _); ((with_reducible show wpAny _ _ (call (Value.ref 140) _) _ _ _); k_dflt (refine' Meth.use (find_p (TB := A3) ⟨_, _, _, _, _, _, _⟩ ?g0 ?g1 ?g2 ?g3 ?g4 ?g5 ?g6 ?g7) ?kB ?kF ?kX ?kN ?kT ?kk ?kd ?ku ?kx ?kr ?kp ?_); (case kB | kF | kX | kN | kT => k_asm); (case kk => first | exact rfl | assumption); (case kd => ktr_room); (case ku => ktr_units); (case kx | kr => assumption); (case kp => first | exact trivial | exact SetHas.below (by assumption) (by assumption) | exact TabIn.below (by assumption) (by assumption)); (case g0 | g1 | g2 | g3 | g4 | g5 | g6 | g7 => ((try dsimp only) <;> (first | assumption | exact rfl | exact Int.le_refl _ | ((repeat (rename (_ ≠ _) => hzq; clear hzq)); omega) | omega | exact ok3 | decide +kernel))); intro v9q σ9 h9q tk9q ns9q b1q b2q b3q b4q b5q b6q b7q hp9q; rcases hp9q with ⟨r9, n9, t9, k9⟩; all_goals (intro F9q N9q; (try k_sweep); (try dsimp only at N9q ⊢); (have l9q := told_le2 k9 (by first | ((repeat (rename (_ ≠ _) => hzq; clear hzq)); omega) | omega) (by first | ((repeat (rename (_ ≠ _) => hzq; clear hzq)); omega) | omega)); (try dsimp only at l9q)))) | ((with_reducible show wpAny _ _ (call (Value.ref _) _ _) _ _ _); ((with_reducible show wpAny _ _ (call (Value.ref 154) _) _ _ _); k_dflt (refine' Meth.use (slice_from_spec ⟨_, _, _, _, _, _, _⟩ ?g0 ?g1 ?g2 ?g3 ?g4 ?g5 ?g6 ?g7) ?kB ?kF ?kX ?kN ?kT ?kk ?kd ?ku ?kx ?kr ?kp ?_); (case kB | kF | kX | kN | kT => k_asm); (case kk => first | exact rfl | assumption); (case kd => ktr_room); (case ku => ktr_units); (case kx | kr => assumption); (case kp => first | exact trivial | exact SetHas.below (by assumption) (by assumption) | exact TabIn.below (by assumption) (by assumption)); (case g0 | g1 | g2 | g3 | g4 | g5 | g6 | g7 => ((try dsimp only) <;> (first | assumption | exact rfl | exact Int.le_refl _ | ((repeat (rename (_ ≠ _) => hzq; clear hzq)); omega) | omega | decide +kernel))); intro v9q σ9 h9q tk9q ns9q b1q b2q b3q b4q b5q b6q b7q hp9q F9q N9q; rcases hp9q with ⟨e1, c9, k9, e2, p9, q9⟩; all_goals ((try subst e1); (try subst e2); (try k_sweep); (try dsimp only at N9q p9 ⊢)))) | ((with_reducible show wpAny _ _ (call (Value.ref _) _ _) _ _ _); ((with_reducible show wpAny _ _ (call (Value.ref 161) _) _ _ _); k_dflt (refine' Meth.use (slice_del_p ⟨_, _, _, _, _, _, _⟩ ?g0 ?g1 ?g2 ?g3 ?g4 ?g5 ?g6) ?kB ?kF ?kX ?kN ?kT ?kk ?kd ?ku ?kx ?kr ?kp ?_); (case kB | kF | kX | kN | kT => k_asm); (case kk => first | exact rfl | assumption); (case kd => ktr_room); (case ku => ktr_units); (case kx | kr => assumption); (case kp => first | exact trivial | exact SetHas.below (by assumption) (by assumption) | exact TabIn.below (by assumption) (by assumption)); (case g0 | g1 | g2 | g3 | g4 | g5 | g6 => ((try dsimp only) <;> (first | assumption | exact rfl | exact Int.le_refl _ | ((repeat (rename (_ ≠ _) => hzq; clear hzq)); omega) | omega | decide +kernel))); intro v9q σ9 h9q tk9q ns9q b1q b2q b3q b4q b5q b6q b7q hp9q; rcases hp9q with ⟨c9, k9, p9⟩; all_goals (intro F9q N9q; (try k_sweep); (try dsimp only at N9q p9 ⊢)))) | ((with_reducible show wpAny _ _ (call (Value.ref _) _ _) _ _ _); ((with_reducible show wpAny _ _ (call (Value.ref 77) _) _ _ _); k_dflt (refine' Meth.use (in_grouping_p ⟨_, _, _, _, _, _, _⟩ ?g0 ?g1 ?g2) ?kB ?kF ?kX ?kN ?kT ?kk ?kd ?ku ?kx ?kr ?kp ?_); (case kB | kF | kX | kN | kT => k_asm); (case kk => first | exact rfl | assumption); (case kd => ktr_room); (case ku => ktr_units); (case kx | kr => assumption); (case kp => first | exact trivial | exact SetHas.below (by assumption) (by assumption) | exact TabIn.below (by assumption) (by assumption)); (case g0 | g1 | g2 => ((try dsimp only) <;> (first | assumption | exact rfl | exact Int.le_refl _ | ((repeat (rename (_ ≠ _) => hzq; clear hzq)); omega) | omega | decide +kernel))); intro v9q σ9 h9q tk9q ns9q b1q b2q b3q b4q b5q b6q b7q hp9q; rcases hp9q with (⟨l9, f9⟩ | ⟨f9⟩); all_goals (intro F9q N9q; (try k_sweep); (try dsimp only at l9); (try dsimp only at f9); (try dsimp only at N9q ⊢)))) | with_reducible ((with_reducible show wpAny _ _ (getAttr (Value.ref _) _ _) _ _ _); ((first | with_reducible refine' cls_g_v ?k1 ?k2 ?k3 ?_ | with_reducible refine' cls_g_s_ending ?k1 ?k2 ?k3 ?_ | with_reducible refine' cls_g_ost_ending ?k1 ?k2 ?k3 ?_); (case k1 | k2 => k_asm); (case k3 => first | exact SetHas.below (f := V) (by assumption) (by assumption) | exact SetHas.below (f := SE) (by assumption) (by assumption) | exact SetHas.below (f := OE) (by assumption) (by assumption)); k_whole; (try dsimp only))) | with_reducible ((with_reducible show wpAny _ _ (getAttr (Value.ref _) _ _) _ _ _); ((first | with_reducible refine' get_cur ?k1 ?k2 ?k3 ?_ | with_reducible refine' get_c ?k1 ?k2 ?k3 ?_ | with_reducible refine' get_l ?k1 ?k2 ?k3 ?_ | with_reducible refine' get_lb ?k1 ?k2 ?k3 ?_ | with_reducible refine' get_bra ?k1 ?k2 ?k3 ?_ | with_reducible refine' get_ket ?k1 ?k2 ?k3 ?_ | with_reducible refine' get_p1 ?k1 ?k2 ?k3 ?_); (case k1 | k2 | k3 => k_asm); k_whole; (try dsimp only))) | with_reducible ((with_reducible show wpAny _ _ (setAttr (Value.ref _) _ _) _ _ _); ((first | with_reducible refine' set_cur ?k0 ?kx ?kr ?k1 ?k2 ?k3 ?_ | with_reducible refine' set_c ?k0 ?kx ?kr ?k1 ?k2 ?k3 ?_ | with_reducible refine' set_l ?k0 ?kx ?kr ?k1 ?k2 ?k3 ?_ | with_reducible refine' set_lb ?k0 ?kx ?kr ?k1 ?k2 ?k3 ?_ | with_reducible refine' set_bra ?k0 ?kx ?kr ?k1 ?k2 ?k3 ?_ | with_reducible refine' set_ket ?k0 ?kx ?kr ?k1 ?k2 ?k3 ?_); (case k1 | k2 | k3 => k_asm); (case kx | kr => assumption); (case k0 => exact Nat.le_of_ble_eq_true rfl); k_whole; intro h'q F'q N'q; (try k_sweep); (try dsimp only))) | walk1 | (dsimp only; walk1) | (leave1; try dsimp only) | fail))
  all_goals (try rename (Told _ _ _ _) => k8)
  all_goals (try have k7 := told_m (u := ls cur) (c := c) (p := p1) (by first | ((repeat (rename (_ ≠ _) => hzq; clear hzq)); omega) | omega) k8)
  all_goals (try clear k8)
  all_goals (refine hret _ ⟨_, _, _, _, _, _, _⟩ _ _ _ _ _ _ _ _ _ _ _ ?_ (by assumption) (by assumption) (by assumption) (by assumption) (by assumption) (by assumption) (by assumption))
  all_goals first
    | exact end_of (P := Oth _ _) rfl (by first | ((repeat (rename (_ ≠ _) => hzq; clear hzq)); omega) | omega) (on_0 k7 (by assumption))
    | (rename (ls _ = List.take _ (ls cur)) => hls
       exact end_of (P := Oth _ _) rfl (len_tk hls (by first | ((repeat (rename (_ ≠ _) => hzq; clear hzq)); omega) | omega) (by first | ((repeat (rename (_ ≠ _) => hzq; clear hzq)); omega) | omega)) (on_1 k7 hls (by assumption) (by first | ((repeat (rename (_ ≠ _) => hzq; clear hzq)); omega) | omega) (by first | ((repeat (rename (_ ≠ _) => hzq; clear hzq)); omega) | omega)))
    | (rename (ls _ = _ ++ _) => hls
       exact end_of (P := Oth _ _) rfl (len_tk2 hls (by first | ((repeat (rename (_ ≠ _) => hzq; clear hzq)); omega) | omega) (by first | ((repeat (rename (_ ≠ _) => hzq; clear hzq)); omega) | omega)) (on_2a k7 hls (by assumption) (by assumption) (by first | ((repeat (rename (_ ≠ _) => hzq; clear hzq)); omega) | omega) (by first | ((repeat (rename (_ ≠ _) => hzq; clear hzq)); omega) | omega) (by first | ((repeat (rename (_ ≠ _) => hzq; clear hzq)); omega) | omega) (by first | ((repeat (rename (_ ≠ _) => hzq; clear hzq)); omega) | omega)))
    | (rename (ls _ = _ ++ _) => hls
       exact end_of (P := Oth _ _) rfl (len_tk2 hls (by first | ((repeat (rename (_ ≠ _) => hzq; clear hzq)); omega) | omega) (by first | ((repeat (rename (_ ≠ _) => hzq; clear hzq)); omega) | omega)) (on_3 k7 hls (by assumption) (by assumption) (by assumption) (by first | ((repeat (rename (_ ≠ _) => hzq; clear hzq)); omega) | omega) (by first | ((repeat (rename (_ ≠ _) => hzq; clear hzq)); omega) | omega)))
    | exact end_of (P := Oth _ _) rfl (by first | ((repeat (rename (_ ≠ _) => hzq; clear hzq)); omega) | omega) (on_2b k7 (by assumption) (by assumption) (by first | ((repeat (rename (_ ≠ _) => hzq; clear hzq)); omega) | omega) (by first | ((repeat (rename (_ ≠ _) => hzq; clear hzq)); omega) | omega))
    | (fail "left")
theorem cons_p {w : World} (σ : St) (h0 : σ.lb = 0) (h1 : σ.c = σ.l) (h7 : σ.l = (σ.cur.length : Int)) (h3 : σ.cur.length < 100) (h8 : 0 ≤ σ.p1) (h9 : σ.p1 ≤ σ.l) :
    MethS w 260 [] 4 (fun h => SetHas w h 230 V ∧ SetHas w h 231 SE ∧ SetHas w h 232 OE ∧ TabIn w.params h 338 A0 ∧ TabIn w.params h 453 A1 ∧ TabIn w.params h 475 A2 ∧ TabIn w.params h 491 A3) σ (PostM (Cons (ls σ.cur).reverse ((ls σ.cur).length - σ.p1.toNat)) σ.p1) :=
  (cons_spec σ h0 h1 h7 h3 h8 h9).mono fun _ _ q => by
    obtain ⟨b, cur', c', l', bra', ket', rfl, rfl, hl, hM⟩ := q
    exact .mk _ _ _ _ _ _ hl hM
theorem oth_p {w : World} (σ : St) (h0 : σ.lb = 0) (h1 : σ.c = σ.l) (h7 : σ.l = (σ.cur.length : Int)) (h3 : σ.cur.length < 100) (h8 : 0 ≤ σ.p1) (h9 : σ.p1 ≤ σ.l) :
    MethS w 267 [] 4 (fun h => SetHas w h 230 V ∧ SetHas w h 231 SE ∧ SetHas w h 232 OE ∧ TabIn w.params h 338 A0 ∧ TabIn w.params h 453 A1 ∧ TabIn w.params h 475 A2 ∧ TabIn w.params h 491 A3) σ (PostM (Oth (ls σ.cur).reverse ((ls σ.cur).length - σ.p1.toNat)) σ.p1) :=
  (oth_spec σ h0 h1 h7 h3 h8 h9).mono fun _ _ q => by
    obtain ⟨b, cur', c', l', bra', ket', rfl, rfl, hl, hM⟩ := q
    exact .mk _ _ _ _ _ _ hl hM
end PartW11
section PartW12
open PySem PySem.W PyProof.Rows PySem.Calls
/-- as MethS, the region not yet stored -/
noncomputable def MethN (w : World) (f : Addr) (args : List Value) (need : Nat) (pre : Heap → Prop) (σ : St) (post : Value → St → Prop) : Prop :=
  ∀ (loose : List Str) (mean : ExcName → Option Value) (mg mb : Str → Option Value) (p0 : Program)
    (dp un : Nat) (gd : Option (List Code)) (cn : Str) (cs : Scope) (a : Addr) (ccd : Value) (outer : List Env) (A₀ : Around) (base g₀ h₀ : Heap) (L : Addr) (m : Str → Option Value) (s : Shared) (Q E : Value → Shared → Prop)
    (x dx : Addr) (ns : Nat) (rest : List (Addr × Obj)) (a1 a2 a3 a4 a5 a6 t1 t2 t3 t4 t5 t6 : Tok),
    Below A₀ base outer h₀ → Fr h₀ L s.heap m → (Kf w.params).In h₀ → News h₀ L s.heap (LED w.params x dx ns a1 a2 a3 a4 a5 a6 t1 t2 t3 t4 t5 t6 σ.cur σ.c σ.l σ.lb σ.bra σ.ket [] rest) → Top p0 loose mean mg mb h₀ → (Kf w.params).In base → Top p0 loose mean mg mb base → KtsDicts (outer.filterMap (·.frame)) h₀ → KtsTurn (outer.filterMap (·.frame)) g₀ h₀ → cs.kind = .function →
    dp + need < recursionLimit → un + 8 * need < cLine → x ≠ dx → (∀ p ∈ rest, p.1 ≠ dx) → pre base →
    (∀ v σ' h' tk' ns' t1' t2' t3' t4' t5' t6' t7' h₁ a7', post v σ' → KtsTurn (outer.filterMap (·.frame)) g₀ h₁ → Fr h₁ L h' m → News h₁ L h' (LED w.params x dx ns' a1 a2 a3 a4 a5 a6 t1' t2' t3' t4' t5' t6' σ'.cur σ'.c σ'.l σ'.lb σ'.bra σ'.ket (ip w.params a7' σ'.p1 t7') rest) →
      Below A₀ base outer h₁ → (Kf w.params).In h₁ → Top p0 loose mean mg mb h₁ → KtsDicts (outer.filterMap (·.frame)) h₁ → Q v { s with heap := h', toks := tk' }) →
    wpAny (MD w) (ktrTop dp un gd cn cs L a ccd [] outer) (call (.ref f) (.ref x :: args)) Q E s
theorem MethN.use {w : World} {f : Addr} {args : List Value} {need : Nat} {pre : Heap → Prop} {σ : St} {post : Value → St → Prop} (M : MethN w f args need pre σ post)
    {loose : List Str} {mean : ExcName → Option Value} {mg mb : Str → Option Value} {p0 : Program}
    {dp un : Nat} {gd : Option (List Code)} {cn : Str} {cs : Scope} {a : Addr} {ccd : Value} {outer : List Env} {A₀ : Around} {base g₀ h₀ : Heap} {L : Addr} {m : Str → Option Value} {s : Shared} {Q E : Value → Shared → Prop}
    {x dx : Addr} {ns : Nat} {rest : List (Addr × Obj)} {a1 a2 a3 a4 a5 a6 t1 t2 t3 t4 t5 t6 : Tok}
    (B : Below A₀ base outer h₀) (F : Fr h₀ L s.heap m) (X : (Kf w.params).In h₀) (N : News h₀ L s.heap (LED w.params x dx ns a1 a2 a3 a4 a5 a6 t1 t2 t3 t4 t5 t6 σ.cur σ.c σ.l σ.lb σ.bra σ.ket [] rest)) (T : Top p0 loose mean mg mb h₀)
    (XB : (Kf w.params).In base) (TB : Top p0 loose mean mg mb base) (D : KtsDicts (outer.filterMap (·.frame)) h₀) (T0 : KtsTurn (outer.filterMap (·.frame)) g₀ h₀) (hk : cs.kind = .function)
    (hd : dp + need < recursionLimit) (hu : un + 8 * need < cLine) (hx : x ≠ dx) (hr : ∀ p ∈ rest, p.1 ≠ dx) (hp : pre base)
    (h : ∀ v σ' h' tk' ns' t1' t2' t3' t4' t5' t6' t7' h₁ a7', post v σ' → KtsTurn (outer.filterMap (·.frame)) g₀ h₁ → Fr h₁ L h' m → News h₁ L h' (LED w.params x dx ns' a1 a2 a3 a4 a5 a6 t1' t2' t3' t4' t5' t6' σ'.cur σ'.c σ'.l σ'.lb σ'.bra σ'.ket (ip w.params a7' σ'.p1 t7') rest) →
      Below A₀ base outer h₁ → (Kf w.params).In h₁ → Top p0 loose mean mg mb h₁ → KtsDicts (outer.filterMap (·.frame)) h₁ → Q v { s with heap := h', toks := tk' }) :
    wpAny (MD w) (ktrTop dp un gd cn cs L a ccd [] outer) (call (.ref f) (.ref x :: args)) Q E s :=
  M _ _ _ _ _ _ _ _ _ _ _ _ _ _ _ _ _ _ _ _ _ _ _ _ _ _ _ _ _ _ _ _ _ _ _ _ _ _ B F X N T XB TB D T0 hk hd hu hx hr hp h
theorem mark_n {w : World}  (σ : St) (h0 : σ.c = 0) (h7 : σ.l = (σ.cur.length : Int)) (h3 : σ.cur.length < 100) :
    MethN w 239 [] 2 (fun h => SetHas w h 230 V) σ (fun v σ' => ∃ b c' p', v = .bool b ∧ σ' = { σ with c := c', p1 := p' } ∧ p' = regP (ls σ.cur)) := by
  unfold MethN MD
  k_fill
  intro loose mean mg mb p0 dp un gd cn cs a ccd outer A₀ base g₀ h₀ L m s Q E x dx ns rest a1 a2 a3 a4 a5 a6 t1 t2 t3 t4 t5 t6 B F X N T XB TB D T0 hk hd hu hx hrest hpre hret
  obtain ⟨cur, c, l, lb, bra, ket, p1⟩ := σ
  simp only at *
  refine wpAny_call ?_
  k_dflt (refine' code_defS (binds := [("self", .ref x)]) ?k1 ?k2 ?k3 ?k4 ?k5 ?XB ?TB ?D ?T0 ?kA ?k6 ?k7 ?k8 ?k9 ?kB ?_ ?cK ?c2 ?c3 ?c4 ?c5; (case kA => exact rfl); (case k2 | k1 => k_asm); (case XB | TB | D | T0 => assumption); (case k3 | k4 | k5 => k_asm); (case k6 | k7 => k_is); (case k8 => ktr_room); (case k9 => exact BindsTo.of_eq rfl); (case kB => exact locs rfl); (case cK => first | exact rfl | assumption); (case c2 | c3 | c4 => exact rfl); (case c5 => decide))
  intro g' L' h' FG' F' N' B' X' T' D'
  ((conv in (execs _ _) => arg 1; whnf); (try dsimp only); (show wpAny _ _ (execs _ _) _ _ _); k_fold)
  have fl := fi_le (p := V) (u := ls cur) (c := 0) (Nat.zero_le _)
  subst h0
  (repeat' (first | (k_unfold; (try dsimp only)) | (k_end; wrow_close) | ((with_reducible show wpAny _ _ (call (Value.ref _) _ _) _ _ _); ((with_reducible show wpAny _ _ (call (Value.ref 70) _) _ _ _); k_dflt (refine' Meth.use (go_in_spec ⟨_, _, _, _, _, _, _⟩ ?g0 ?g1 ?g2 ?g3) ?kB ?kF ?kX ?kN ?kT ?kk ?kd ?ku ?kx ?kr ?kp ?_); (case kB | kF | kX | kN | kT => k_asm); (case kk => first | exact rfl | assumption); (case kd => ktr_room); (case ku => ktr_units); (case kx | kr => assumption); (case kp => first | exact trivial | exact SetHas.below (by assumption) (by assumption) | exact TabIn.below (by assumption) (by assumption)); (case g0 | g1 | g2 | g3 => ((try dsimp only) <;> (first | omega | assumption | exact rfl | decide +kernel))); intro v9q σ9 h9q tk9q ns9q b1q b2q b3q b4q b5q b6q b7q hp9q F9q N9q; rcases hp9q with ⟨e1, e2⟩; all_goals ((try subst e1); (try subst e2); (try k_sweep); (try dsimp only at N9q ⊢)))) | ((with_reducible show wpAny _ _ (call (Value.ref _) _ _) _ _ _); ((with_reducible show wpAny _ _ (call (Value.ref 98) _) _ _ _); k_dflt (refine' Meth.use (go_out_spec ⟨_, _, _, _, _, _, _⟩ ?g0 ?g1 ?g2 ?g3) ?kB ?kF ?kX ?kN ?kT ?kk ?kd ?ku ?kx ?kr ?kp ?_); (case kB | kF | kX | kN | kT => k_asm); (case kk => first | exact rfl | assumption); (case kd => ktr_room); (case ku => ktr_units); (case kx | kr => assumption); (case kp => first | exact trivial | exact SetHas.below (by assumption) (by assumption) | exact TabIn.below (by assumption) (by assumption)); (case g0 | g1 | g2 | g3 => ((try dsimp only) <;> (first | omega | assumption | exact rfl | decide +kernel))); intro v9q σ9 h9q tk9q ns9q b1q b2q b3q b4q b5q b6q b7q hp9q F9q N9q; rcases hp9q with ⟨e1, e2⟩; all_goals ((try subst e1); (try subst e2); (try k_sweep); (try dsimp only at N9q ⊢)))) | with_reducible ((with_reducible show wpAny _ _ (setAttr (Value.ref _) _ _) _ _ _); (with_reducible refine' set_p1 ?kx ?kr ?k1 ?k2 ?k3 ?_; (case k1 | k2 | k3 => k_asm); (case kx | kr => assumption); k_whole; intro h'q F'q N'q; (try k_sweep); (try dsimp only))) | with_reducible ((with_reducible show wpAny _ _ (setAttr (Value.ref _) _ _) _ _ _); (with_reducible refine' set_p1n ?kx ?kr ?k1 ?k2 ?k3 ?_; (case k1 | k2 | k3 => k_asm); (case kx | kr => assumption); k_whole; intro h'q a7nq F'q N'q; (try k_sweep); (try dsimp only))) | with_reducible ((with_reducible show wpAny _ _ (setAttr (Value.ref _) _ _) _ _ _); ((first | with_reducible refine' set_cur ?k0 ?kx ?kr ?k1 ?k2 ?k3 ?_ | with_reducible refine' set_c ?k0 ?kx ?kr ?k1 ?k2 ?k3 ?_ | with_reducible refine' set_l ?k0 ?kx ?kr ?k1 ?k2 ?k3 ?_ | with_reducible refine' set_lb ?k0 ?kx ?kr ?k1 ?k2 ?k3 ?_ | with_reducible refine' set_bra ?k0 ?kx ?kr ?k1 ?k2 ?k3 ?_ | with_reducible refine' set_ket ?k0 ?kx ?kr ?k1 ?k2 ?k3 ?_); (case k1 | k2 | k3 => k_asm); (case kx | kr => assumption); (case k0 => exact Nat.le_of_ble_eq_true rfl); k_whole; intro h'q F'q N'q; (try k_sweep); (try dsimp only))) | ((with_reducible show wpAny _ _ (noteFrame (Value.ref _) _) _ _ _); (refine' catch_own ?k1 ?k2 ?k3 ?k4 ?k5 ?k6 ?k7 ?k8 ?k9 ?kq ?_; (case k1 => assumption); (case k2 | k3 => k_asm); (case k4 | k5 | k6 | k7 => assumption); (case k8 => first | assumption | exact KtsTurn.refl); (case k9 => k_is); (case kq => kts_isx); k_whole; intro h'q g'q T'q F'q N'q B'q X'q P'q D'q; (try k_sweep); (try dsimp only))) | with_reducible ((with_reducible show wpAny _ _ (getAttr (Value.ref _) _ _) _ _ _); ((first | with_reducible refine' cls_g_v ?k1 ?k2 ?k3 ?_ | with_reducible refine' cls_g_s_ending ?k1 ?k2 ?k3 ?_ | with_reducible refine' cls_g_ost_ending ?k1 ?k2 ?k3 ?_); (case k1 | k2 => k_asm); (case k3 => first | exact SetHas.below (f := V) (by assumption) (by assumption) | exact SetHas.below (f := SE) (by assumption) (by assumption) | exact SetHas.below (f := OE) (by assumption) (by assumption)); k_whole; (try dsimp only))) | with_reducible ((with_reducible show wpAny _ _ (getAttr (Value.ref _) _ _) _ _ _); ((first | with_reducible refine' get_cur ?k1 ?k2 ?k3 ?_ | with_reducible refine' get_c ?k1 ?k2 ?k3 ?_ | with_reducible refine' get_l ?k1 ?k2 ?k3 ?_ | with_reducible refine' get_lb ?k1 ?k2 ?k3 ?_ | with_reducible refine' get_bra ?k1 ?k2 ?k3 ?_ | with_reducible refine' get_ket ?k1 ?k2 ?k3 ?_ | with_reducible refine' get_p1 ?k1 ?k2 ?k3 ?_); (case k1 | k2 | k3 => k_asm); k_whole; (try dsimp only))) | walk1 | (dsimp only; walk1) | (leave1; try dsimp only) | fail))
  all_goals (refine hret _ ⟨_, _, _, _, _, _, _⟩ _ _ _ _ _ _ _ _ _ _ _ _ ?_ (by assumption) (by assumption) (by assumption) (by assumption) (by assumption) (by assumption) (by assumption))
  all_goals (
    refine mark_end ?_
    simp only [Int.toNat_zero, toNat_succ] at *
    unfold regP
    rw [ls_len]
    (repeat' split) <;> omega)
theorem main_len {c1 c2 : Str} {p : Int} (h : Main (ls c1).reverse ((ls c1).length - p.toNat) (ls c2).reverse) (hp : p = regP (ls c1)) : p ≤ c2.length ∧ c2.length ≤ c1.length := by
  have hr := reg_le (ls c1)
  obtain ⟨k, _, hk, e⟩ := main_drop (by rw [List.length_reverse]; omega) (by rw [List.length_reverse, List.reverse_reverse, hp, Int.toNat_natCast]) h
  have l := congrArg List.length e
  rw [List.length_reverse, List.length_drop, List.length_reverse, ls_len, ls_len] at l
  rw [ls_len] at hr hk
  omega
theorem cons_len {c1 c2 : Str} {p : Int} (h : Cons (ls c1).reverse ((ls c1).length - p.toNat) (ls c2).reverse) (h0 : 0 ≤ p) (hp : p ≤ c1.length) : p ≤ c2.length ∧ c2.length ≤ c1.length := by
  obtain ⟨k, _, hk, e⟩ := cons_drop h
  have l := congrArg List.length e
  rw [List.length_reverse, List.length_drop, List.length_reverse, ls_len, ls_len] at l
  rw [ls_len] at hk
  omega
theorem stem_of {c0 c1 c2 c3 : Str} {p : Int} (hp : p = regP (ls c0)) (h1 : Main (ls c0).reverse ((ls c0).length - p.toNat) (ls c1).reverse) (h2 : Cons (ls c1).reverse ((ls c1).length - p.toNat) (ls c2).reverse) (h3 : Oth (ls c2).reverse ((ls c2).length - p.toNat) (ls c3).reverse) : Stem (ls c0) (ls c3) := by
  subst hp
  rw [Int.toNat_natCast] at h1 h2 h3
  exact ⟨_, _, _, h1, by rw [List.length_reverse]; exact h2, by rw [List.length_reverse]; exact h3, (List.reverse_reverse _).symm⟩
theorem stem_spec {w : World}  (σ : St) (h0 : σ.c = 0) (h7 : σ.l = (σ.cur.length : Int)) (h3 : σ.cur.length < 100) :
    MethS w 274 [] 5 (fun h => SetHas w h 230 V ∧ SetHas w h 231 SE ∧ SetHas w h 232 OE ∧ TabIn w.params h 338 A0 ∧ TabIn w.params h 453 A1 ∧ TabIn w.params h 475 A2 ∧ TabIn w.params h 491 A3) σ (fun v σ' => v = .bool true ∧ ∃ cur' l' bra' ket' p1', σ' = ⟨cur', 0, l', 0, bra', ket', p1'⟩ ∧ l' = (cur'.length : Int) ∧ Stem (ls σ.cur) (ls cur')) := by
  unfold MethS MD
  k_fill
  intro loose mean mg mb p0 dp un gd cn cs a ccd outer A₀ base g₀ h₀ L m s Q E x dx ns rest a1 a2 a3 a4 a5 a6 a7 t1 t2 t3 t4 t5 t6 t7 B F X N T XB TB D T0 hk hd hu hx hrest hpre hret
  obtain ⟨cur, c, l, lb, bra, ket, p1⟩ := σ
  simp only at *
  refine wpAny_call ?_
  k_dflt (refine' code_defS (binds := [("self", .ref x)]) ?k1 ?k2 ?k3 ?k4 ?k5 ?XB ?TB ?D ?T0 ?kA ?k6 ?k7 ?k8 ?k9 ?kB ?_ ?cK ?c2 ?c3 ?c4 ?c5; (case kA => exact rfl); (case k2 | k1 => k_asm); (case XB | TB | D | T0 => assumption); (case k3 | k4 | k5 => k_asm); (case k6 | k7 => k_is); (case k8 => ktr_room); (case k9 => exact BindsTo.of_eq rfl); (case kB => exact locs rfl); (case cK => first | exact rfl | assumption); (case c2 | c3 | c4 => exact rfl); (case c5 => decide))
  intro g' L' h' FG' F' N' B' X' T' D'
  ((conv in (execs _ _) => arg 1; whnf); (try dsimp only); (show wpAny _ _ (execs _ _) _ _ _); k_fold)
  subst h0
  have hrl := reg_le (ls cur)
  have hlc := ls_len cur
  have hpV := hpre.1
  (repeat' (first | (k_unfold; (try dsimp only)) | (k_end; wrow_close) | ((with_reducible show wpAny _ _ (call (Value.ref _) _ _) _ _ _); ((with_reducible show wpAny _ _ (call (Value.ref 267) _) _ _ _); k_dflt (refine' MethS.use (oth_p ⟨_, _, _, _, _, _, _⟩ ?g0 ?g1 ?g2 ?g3 ?g4 ?g5) ?kB ?kF ?kX ?kN ?kT ?kXB ?kTB ?kD ?kT0 ?kk ?kd ?ku ?kx ?kr ?kp ?_); (case kB => assumption); (case kF => k_asm); (case kX => assumption); (case kN => k_asm); (case kT | kXB | kTB | kD => assumption); (case kT0 => first | assumption | exact KtsTurn.refl); (case kk => first | exact rfl | assumption); (case kd => ktr_room); (case ku => ktr_units); (case kx | kr | kp => assumption); (case g0 | g1 | g2 | g3 | g4 | g5 => ((try dsimp only) <;> (first | omega | assumption | exact rfl | decide +kernel))); intro v9q σ9 h9q tk9q ns9q b1q b2q b3q b4q b5q b6q b7q g9q hp9q; rcases hp9q with ⟨b9, u9, c9, l8, r9, k9, hl9, hM9⟩; all_goals (intro T9q F9q N9q B9q X9q P9q D9q; (try k_sweep); (try dsimp only at N9q hM9 hl9 ⊢); skip))) | ((with_reducible show wpAny _ _ (call (Value.ref _) _ _) _ _ _); ((with_reducible show wpAny _ _ (call (Value.ref 260) _) _ _ _); k_dflt (refine' MethS.use (cons_p ⟨_, _, _, _, _, _, _⟩ ?g0 ?g1 ?g2 ?g3 ?g4 ?g5) ?kB ?kF ?kX ?kN ?kT ?kXB ?kTB ?kD ?kT0 ?kk ?kd ?ku ?kx ?kr ?kp ?_); (case kB => assumption); (case kF => k_asm); (case kX => assumption); (case kN => k_asm); (case kT | kXB | kTB | kD => assumption); (case kT0 => first | assumption | exact KtsTurn.refl); (case kk => first | exact rfl | assumption); (case kd => ktr_room); (case ku => ktr_units); (case kx | kr | kp => assumption); (case g0 | g1 | g2 | g3 | g4 | g5 => ((try dsimp only) <;> (first | omega | assumption | exact rfl | decide +kernel))); intro v9q σ9 h9q tk9q ns9q b1q b2q b3q b4q b5q b6q b7q g9q hp9q; rcases hp9q with ⟨b9, u9, c9, l8, r9, k9, hl9, hM9⟩; all_goals (intro T9q F9q N9q B9q X9q P9q D9q; (try k_sweep); (try dsimp only at N9q hM9 hl9 ⊢); (have l9q := cons_len hM9 (by omega) (by omega))))) | ((with_reducible show wpAny _ _ (call (Value.ref _) _ _) _ _ _); ((with_reducible show wpAny _ _ (call (Value.ref 253) _) _ _ _); k_dflt (refine' MethS.use (main_p ⟨_, _, _, _, _, _, _⟩ ?g0 ?g1 ?g2 ?g3 ?g4 ?g5) ?kB ?kF ?kX ?kN ?kT ?kXB ?kTB ?kD ?kT0 ?kk ?kd ?ku ?kx ?kr ?kp ?_); (case kB => assumption); (case kF => k_asm); (case kX => assumption); (case kN => k_asm); (case kT | kXB | kTB | kD => assumption); (case kT0 => first | assumption | exact KtsTurn.refl); (case kk => first | exact rfl | assumption); (case kd => ktr_room); (case ku => ktr_units); (case kx | kr | kp => assumption); (case g0 | g1 | g2 | g3 | g4 | g5 => ((try dsimp only) <;> (first | omega | assumption | exact rfl | decide +kernel))); intro v9q σ9 h9q tk9q ns9q b1q b2q b3q b4q b5q b6q b7q g9q hp9q; rcases hp9q with ⟨b9, u9, c9, l8, r9, k9, hl9, hM9⟩; all_goals (intro T9q F9q N9q B9q X9q P9q D9q; (try k_sweep); (try dsimp only at N9q hM9 hl9 ⊢); (have l9q := main_len hM9 (by assumption))))) | ((with_reducible show wpAny _ _ (call (Value.ref _) _ _) _ _ _); ((with_reducible show wpAny _ _ (call (Value.ref 239) _) _ _ _); k_dflt (refine' MethS.use (mark_spec ⟨_, _, _, _, _, _, _⟩ ?g0 ?g1 ?g2) ?kB ?kF ?kX ?kN ?kT ?kXB ?kTB ?kD ?kT0 ?kk ?kd ?ku ?kx ?kr ?kp ?_); (case kB => assumption); (case kF => k_asm); (case kX => assumption); (case kN => k_asm); (case kT | kXB | kTB | kD => assumption); (case kT0 => first | assumption | exact KtsTurn.refl); (case kk => first | exact rfl | assumption); (case kd => ktr_room); (case ku => ktr_units); (case kx | kr | kp => assumption); (case g0 | g1 | g2 => ((try dsimp only) <;> (first | omega | assumption | exact rfl | decide +kernel))); intro v9q σ9 h9q tk9q ns9q b1q b2q b3q b4q b5q b6q b7q g9q hp9q T9q F9q N9q B9q X9q P9q D9q; rcases hp9q with ⟨b9, c9, q9, e1, e2, r9⟩; all_goals ((try subst e1); (try subst e2); (try k_sweep); (try dsimp only at N9q r9 ⊢)))) | with_reducible ((with_reducible show wpAny _ _ (setAttr (Value.ref _) _ _) _ _ _); ((first | with_reducible refine' set_cur ?k0 ?kx ?kr ?k1 ?k2 ?k3 ?_ | with_reducible refine' set_c ?k0 ?kx ?kr ?k1 ?k2 ?k3 ?_ | with_reducible refine' set_l ?k0 ?kx ?kr ?k1 ?k2 ?k3 ?_ | with_reducible refine' set_lb ?k0 ?kx ?kr ?k1 ?k2 ?k3 ?_ | with_reducible refine' set_bra ?k0 ?kx ?kr ?k1 ?k2 ?k3 ?_ | with_reducible refine' set_ket ?k0 ?kx ?kr ?k1 ?k2 ?k3 ?_); (case k1 | k2 | k3 => k_asm); (case kx | kr => assumption); (case k0 => exact Nat.le_of_ble_eq_true rfl); k_whole; intro h'q F'q N'q; (try k_sweep); (try dsimp only))) | with_reducible ((with_reducible show wpAny _ _ (getAttr (Value.ref _) _ _) _ _ _); ((first | with_reducible refine' get_cur ?k1 ?k2 ?k3 ?_ | with_reducible refine' get_c ?k1 ?k2 ?k3 ?_ | with_reducible refine' get_l ?k1 ?k2 ?k3 ?_ | with_reducible refine' get_lb ?k1 ?k2 ?k3 ?_ | with_reducible refine' get_bra ?k1 ?k2 ?k3 ?_ | with_reducible refine' get_ket ?k1 ?k2 ?k3 ?_ | with_reducible refine' get_p1 ?k1 ?k2 ?k3 ?_); (case k1 | k2 | k3 => k_asm); k_whole; (try dsimp only))) | walk1 | (dsimp only; walk1) | (leave1; try dsimp only) | fail))
  all_goals (refine hret _ ⟨_, _, _, _, _, _, _⟩ _ _ _ _ _ _ _ _ _ _ _ ?_ (by assumption) (by assumption) (by assumption) (by assumption) (by assumption) (by assumption) (by assumption))
  all_goals (
    rename (Oth _ _ _) => hO
    rename (Cons _ _ _) => hC
    rename (Main _ _ _) => hM
    rename (_ = ((regP _ : Nat) : Int)) => hr8
    exact ⟨rfl, _, _, _, _, _, rfl, by assumption, stem_of hr8 hM hC hO⟩)
theorem stem_n {w : World}  (σ : St) (h0 : σ.c = 0) (h7 : σ.l = (σ.cur.length : Int)) (h3 : σ.cur.length < 100) :
    MethN w 274 [] 5 (fun h => SetHas w h 230 V ∧ SetHas w h 231 SE ∧ SetHas w h 232 OE ∧ TabIn w.params h 338 A0 ∧ TabIn w.params h 453 A1 ∧ TabIn w.params h 475 A2 ∧ TabIn w.params h 491 A3) σ (fun v σ' => v = .bool true ∧ ∃ cur' l' bra' ket' p1', σ' = ⟨cur', 0, l', 0, bra', ket', p1'⟩ ∧ l' = (cur'.length : Int) ∧ Stem (ls σ.cur) (ls cur')) := by
  unfold MethN MD
  k_fill
  intro loose mean mg mb p0 dp un gd cn cs a ccd outer A₀ base g₀ h₀ L m s Q E x dx ns rest a1 a2 a3 a4 a5 a6 t1 t2 t3 t4 t5 t6 B F X N T XB TB D T0 hk hd hu hx hrest hpre hret
  obtain ⟨cur, c, l, lb, bra, ket, p1⟩ := σ
  simp only at *
  refine wpAny_call ?_
  k_dflt (refine' code_defS (binds := [("self", .ref x)]) ?k1 ?k2 ?k3 ?k4 ?k5 ?XB ?TB ?D ?T0 ?kA ?k6 ?k7 ?k8 ?k9 ?kB ?_ ?cK ?c2 ?c3 ?c4 ?c5; (case kA => exact rfl); (case k2 | k1 => k_asm); (case XB | TB | D | T0 => assumption); (case k3 | k4 | k5 => k_asm); (case k6 | k7 => k_is); (case k8 => ktr_room); (case k9 => exact BindsTo.of_eq rfl); (case kB => exact locs rfl); (case cK => first | exact rfl | assumption); (case c2 | c3 | c4 => exact rfl); (case c5 => decide))
  intro g' L' h' FG' F' N' B' X' T' D'
  ((conv in (execs _ _) => arg 1; whnf); (try dsimp only); (show wpAny _ _ (execs _ _) _ _ _); k_fold)
  subst h0
  have hrl := reg_le (ls cur)
  have hlc := ls_len cur
  have hpV := hpre.1
  (repeat' (first | (k_unfold; (try dsimp only)) | (k_end; wrow_close) | ((with_reducible show wpAny _ _ (call (Value.ref _) _ _) _ _ _); ((with_reducible show wpAny _ _ (call (Value.ref 267) _) _ _ _); k_dflt (refine' MethS.use (oth_p ⟨_, _, _, _, _, _, _⟩ ?g0 ?g1 ?g2 ?g3 ?g4 ?g5) ?kB ?kF ?kX ?kN ?kT ?kXB ?kTB ?kD ?kT0 ?kk ?kd ?ku ?kx ?kr ?kp ?_); (case kB => assumption); (case kF => k_asm); (case kX => assumption); (case kN => k_asm); (case kT | kXB | kTB | kD => assumption); (case kT0 => first | assumption | exact KtsTurn.refl); (case kk => first | exact rfl | assumption); (case kd => ktr_room); (case ku => ktr_units); (case kx | kr | kp => assumption); (case g0 | g1 | g2 | g3 | g4 | g5 => ((try dsimp only) <;> (first | omega | assumption | exact rfl | decide +kernel))); intro v9q σ9 h9q tk9q ns9q b1q b2q b3q b4q b5q b6q b7q g9q hp9q; rcases hp9q with ⟨b9, u9, c9, l8, r9, k9, hl9, hM9⟩; all_goals (intro T9q F9q N9q B9q X9q P9q D9q; (try k_sweep); (try dsimp only at N9q hM9 hl9 ⊢); skip))) | ((with_reducible show wpAny _ _ (call (Value.ref _) _ _) _ _ _); ((with_reducible show wpAny _ _ (call (Value.ref 260) _) _ _ _); k_dflt (refine' MethS.use (cons_p ⟨_, _, _, _, _, _, _⟩ ?g0 ?g1 ?g2 ?g3 ?g4 ?g5) ?kB ?kF ?kX ?kN ?kT ?kXB ?kTB ?kD ?kT0 ?kk ?kd ?ku ?kx ?kr ?kp ?_); (case kB => assumption); (case kF => k_asm); (case kX => assumption); (case kN => k_asm); (case kT | kXB | kTB | kD => assumption); (case kT0 => first | assumption | exact KtsTurn.refl); (case kk => first | exact rfl | assumption); (case kd => ktr_room); (case ku => ktr_units); (case kx | kr | kp => assumption); (case g0 | g1 | g2 | g3 | g4 | g5 => ((try dsimp only) <;> (first | omega | assumption | exact rfl | decide +kernel))); intro v9q σ9 h9q tk9q ns9q b1q b2q b3q b4q b5q b6q b7q g9q hp9q; rcases hp9q with ⟨b9, u9, c9, l8, r9, k9, hl9, hM9⟩; all_goals (intro T9q F9q N9q B9q X9q P9q D9q; (try k_sweep); (try dsimp only at N9q hM9 hl9 ⊢); (have l9q := cons_len hM9 (by omega) (by omega))))) | ((with_reducible show wpAny _ _ (call (Value.ref _) _ _) _ _ _); ((with_reducible show wpAny _ _ (call (Value.ref 253) _) _ _ _); k_dflt (refine' MethS.use (main_p ⟨_, _, _, _, _, _, _⟩ ?g0 ?g1 ?g2 ?g3 ?g4 ?g5) ?kB ?kF ?kX ?kN ?kT ?kXB ?kTB ?kD ?kT0 ?kk ?kd ?ku ?kx ?kr ?kp ?_); (case kB => assumption); (case kF => k_asm); (case kX => assumption); (case kN => k_asm); (case kT | kXB | kTB | kD => assumption); (case kT0 => first | assumption | exact KtsTurn.refl); (case kk => first | exact rfl | assumption); (case kd => ktr_room); (case ku => ktr_units); (case kx | kr | kp => assumption); (case g0 | g1 | g2 | g3 | g4 | g5 => ((try dsimp only) <;> (first | omega | assumption | exact rfl | decide +kernel))); intro v9q σ9 h9q tk9q ns9q b1q b2q b3q b4q b5q b6q b7q g9q hp9q; rcases hp9q with ⟨b9, u9, c9, l8, r9, k9, hl9, hM9⟩; all_goals (intro T9q F9q N9q B9q X9q P9q D9q; (try k_sweep); (try dsimp only at N9q hM9 hl9 ⊢); (have l9q := main_len hM9 (by assumption))))) | ((with_reducible show wpAny _ _ (call (Value.ref _) _ _) _ _ _); ((with_reducible show wpAny _ _ (call (Value.ref 239) _) _ _ _); k_dflt (refine' MethN.use (mark_n ⟨_, _, _, _, _, _, 0⟩ ?g0 ?g1 ?g2) ?kB ?kF ?kX ?kN ?kT ?kXB ?kTB ?kD ?kT0 ?kk ?kd ?ku ?kx ?kr ?kp ?_); (case kB => assumption); (case kF => k_asm); (case kX => assumption); (case kN => k_asm); (case kT | kXB | kTB | kD => assumption); (case kT0 => first | assumption | exact KtsTurn.refl); (case kk => first | exact rfl | assumption); (case kd => ktr_room); (case ku => ktr_units); (case kx | kr | kp => assumption); (case g0 | g1 | g2 => ((try dsimp only) <;> (first | omega | assumption | exact rfl | decide +kernel))); intro v9q σ9 h9q tk9q ns9q b1q b2q b3q b4q b5q b6q b7q g9q b8q hp9q T9q F9q N9q B9q X9q P9q D9q; rcases hp9q with ⟨b9, c9, q9, e1, e2, r9⟩; all_goals ((try subst e1); (try subst e2); (try k_sweep); (try dsimp only at N9q r9 ⊢)))) | with_reducible ((with_reducible show wpAny _ _ (setAttr (Value.ref _) _ _) _ _ _); ((first | with_reducible refine' set_cur ?k0 ?kx ?kr ?k1 ?k2 ?k3 ?_ | with_reducible refine' set_c ?k0 ?kx ?kr ?k1 ?k2 ?k3 ?_ | with_reducible refine' set_l ?k0 ?kx ?kr ?k1 ?k2 ?k3 ?_ | with_reducible refine' set_lb ?k0 ?kx ?kr ?k1 ?k2 ?k3 ?_ | with_reducible refine' set_bra ?k0 ?kx ?kr ?k1 ?k2 ?k3 ?_ | with_reducible refine' set_ket ?k0 ?kx ?kr ?k1 ?k2 ?k3 ?_); (case k1 | k2 | k3 => k_asm); (case kx | kr => assumption); (case k0 => exact Nat.le_of_ble_eq_true rfl); k_whole; intro h'q F'q N'q; (try k_sweep); (try dsimp only))) | with_reducible ((with_reducible show wpAny _ _ (getAttr (Value.ref _) _ _) _ _ _); ((first | with_reducible refine' get_cur ?k1 ?k2 ?k3 ?_ | with_reducible refine' get_c ?k1 ?k2 ?k3 ?_ | with_reducible refine' get_l ?k1 ?k2 ?k3 ?_ | with_reducible refine' get_lb ?k1 ?k2 ?k3 ?_ | with_reducible refine' get_bra ?k1 ?k2 ?k3 ?_ | with_reducible refine' get_ket ?k1 ?k2 ?k3 ?_ | with_reducible refine' get_p1 ?k1 ?k2 ?k3 ?_); (case k1 | k2 | k3 => k_asm); k_whole; (try dsimp only))) | walk1 | (dsimp only; walk1) | (leave1; try dsimp only) | fail))
  all_goals (refine hret _ ⟨_, _, _, _, _, _, _⟩ _ _ _ _ _ _ _ _ _ _ _ _ ?_ (by assumption) (by assumption) (by assumption) (by assumption) (by assumption) (by assumption) (by assumption))
  all_goals (
    rename (Oth _ _ _) => hO
    rename (Cons _ _ _) => hC
    rename (Main _ _ _) => hM
    rename (_ = ((regP _ : Nat) : Int)) => hr8
    exact ⟨rfl, _, _, _, _, _, rfl, by assumption, stem_of hr8 hM hC hO⟩)
end PartW12
section PartW13
open PySem PySem.W PyProof.Rows PySem.Calls
noncomputable def MethG (w : World) (f : Addr) (args : List Value) (need : Nat) (pre : Heap → Prop) (σ : St) (post : Value → St → Prop) : Prop :=
  ∀ (loose : List Str) (mean : ExcName → Option Value) (mg mb : Str → Option Value) (p0 : Program)
    (dp un : Nat) (gd : Option (List Code)) (cn : Str) (cs : Scope) (a : Addr) (ccd : Value) (cl : List (Str × Addr)) (outer : List Env) (A₀ : Around) (base h₀ : Heap) (L : Addr) (m : Str → Option Value) (s : Shared) (Q E : Value → Shared → Prop)
    (x dx : Addr) (ns : Nat) (rest : List (Addr × Obj)) (a1 a2 a3 a4 a5 a6 t1 t2 t3 t4 t5 t6 : Tok) (tl : List DictEntry), tl.length ≤ 10 →
    Below A₀ base outer h₀ → Fr h₀ L s.heap m → (Kf w.params).In h₀ → News h₀ L s.heap (LED w.params x dx ns a1 a2 a3 a4 a5 a6 t1 t2 t3 t4 t5 t6 σ.cur σ.c σ.l σ.lb σ.bra σ.ket tl rest) → Top p0 loose mean mg mb h₀ → cs.kind = .function →
    dp + need < recursionLimit → un + 8 * need < cLine → x ≠ dx → (∀ p ∈ rest, p.1 ≠ dx) → pre h₀ →
    (∀ v σ' h' tk' ns' t1' t2' t3' t4' t5' t6', post v σ' → Fr h₀ L h' m → News h₀ L h' (LED w.params x dx ns' a1 a2 a3 a4 a5 a6 t1' t2' t3' t4' t5' t6' σ'.cur σ'.c σ'.l σ'.lb σ'.bra σ'.ket tl rest) → Q v { s with heap := h', toks := tk' }) →
    wpAny (MD w) (ktrTop dp un gd cn cs L a ccd cl outer) (call (.ref f) (.ref x :: args)) Q E s
theorem MethG.use {w : World} {f : Addr} {args : List Value} {need : Nat} {pre : Heap → Prop} {σ : St} {post : Value → St → Prop} (M : MethG w f args need pre σ post)
    {loose : List Str} {mean : ExcName → Option Value} {mg mb : Str → Option Value} {p0 : Program}
    {dp un : Nat} {gd : Option (List Code)} {cn : Str} {cs : Scope} {a : Addr} {ccd : Value} {cl : List (Str × Addr)} {outer : List Env} {A₀ : Around} {base h₀ : Heap} {L : Addr} {m : Str → Option Value} {s : Shared} {Q E : Value → Shared → Prop}
    {x dx : Addr} {ns : Nat} {rest : List (Addr × Obj)} {a1 a2 a3 a4 a5 a6 t1 t2 t3 t4 t5 t6 : Tok} {tl : List DictEntry}
    (B : Below A₀ base outer h₀) (F : Fr h₀ L s.heap m) (X : (Kf w.params).In h₀) (N : News h₀ L s.heap (LED w.params x dx ns a1 a2 a3 a4 a5 a6 t1 t2 t3 t4 t5 t6 σ.cur σ.c σ.l σ.lb σ.bra σ.ket tl rest)) (T : Top p0 loose mean mg mb h₀) (hk : cs.kind = .function)
    (hd : dp + need < recursionLimit) (hu : un + 8 * need < cLine) (hx : x ≠ dx) (hr : ∀ p ∈ rest, p.1 ≠ dx) (hp : pre h₀) (htl : tl.length ≤ 10)
    (h : ∀ v σ' h' tk' ns' t1' t2' t3' t4' t5' t6', post v σ' → Fr h₀ L h' m → News h₀ L h' (LED w.params x dx ns' a1 a2 a3 a4 a5 a6 t1' t2' t3' t4' t5' t6' σ'.cur σ'.c σ'.l σ'.lb σ'.bra σ'.ket tl rest) → Q v { s with heap := h', toks := tk' }) :
    wpAny (MD w) (ktrTop dp un gd cn cs L a ccd cl outer) (call (.ref f) (.ref x :: args)) Q E s :=
  M _ _ _ _ _ _ _ _ _ _ _ _ _ _ _ _ _ _ _ _ _ _ _ _ _ _ _ _ _ _ _ _ _ _ _ _ _ _ _ htl B F X N T hk hd hu hx hr hp h
theorem set_current_spec {w : World} {wd : Str} {tw : Tok} (σ : St) (h3 : wd.length < 100) :
    MethG w 42 [.str wd tw] 1 (fun h => True) σ (fun v σ' => v = .none ∧ ∃ l', σ' = ⟨wd, 0, l', 0, 0, l', σ.p1⟩ ∧ l' = (wd.length : Int)) := by
  unfold MethG MD
  k_fill
  intro loose mean mg mb p0 dp un gd cn cs a ccd cl outer A₀ base h₀ L m s Q E x dx ns rest a1 a2 a3 a4 a5 a6 t1 t2 t3 t4 t5 t6 tl htl B F X N T hk hd hu hx hrest hpre hret
  obtain ⟨cur, c, l, lb, bra, ket, p1⟩ := σ
  simp only at *
  refine wpAny_call ?_
  k_dflt (refine' code_def (binds := [("self", .ref x), ("value", .str wd tw)]) ?k1 ?k2 ?k3 ?k4 ?k5 ?kA ?kF ?kK ?k6 ?k7 ?k8 ?k9 ?kB ?_ ?c2 ?c3 ?c4 ?c5; (case kA | kF => exact rfl); (case kK => assumption); (case k1 | k2 | k3 | k4 | k5 => k_asm); (case k6 | k7 => k_is); (case k8 => ktr_room); (case k9 => exact BindsTo.of_eq rfl); (case c5 => decide); (case kB => exact locs rfl); (case c2 | c3 | c4 => exact rfl))
  intro g' L' h' FG' F' N' B' X' T'
  ((conv in (execs _ _) => arg 1; whnf); (try dsimp only); (show wpAny _ _ (execs _ _) _ _ _); k_fold)
  (repeat' (first | (k_unfold; (try dsimp only)) | (k_end; wrow_close) | with_reducible ((with_reducible show wpAny _ _ (setAttr (Value.ref _) _ _) _ _ _); ((first | with_reducible refine' set_cur ?k0 ?kx ?kr ?k1 ?k2 ?k3 ?_ | with_reducible refine' set_c ?k0 ?kx ?kr ?k1 ?k2 ?k3 ?_ | with_reducible refine' set_l ?k0 ?kx ?kr ?k1 ?k2 ?k3 ?_ | with_reducible refine' set_lb ?k0 ?kx ?kr ?k1 ?k2 ?k3 ?_ | with_reducible refine' set_bra ?k0 ?kx ?kr ?k1 ?k2 ?k3 ?_ | with_reducible refine' set_ket ?k0 ?kx ?kr ?k1 ?k2 ?k3 ?_); (case k1 | k2 | k3 => k_asm); (case kx | kr => assumption); (case k0 => first | assumption | exact Nat.le_of_ble_eq_true rfl); k_whole; intro h'q F'q N'q; (try k_sweep); (try dsimp only))) | with_reducible ((with_reducible show wpAny _ _ (getAttr (Value.ref _) _ _) _ _ _); ((first | with_reducible refine' get_cur ?k1 ?k2 ?k3 ?_ | with_reducible refine' get_c ?k1 ?k2 ?k3 ?_ | with_reducible refine' get_l ?k1 ?k2 ?k3 ?_ | with_reducible refine' get_lb ?k1 ?k2 ?k3 ?_ | with_reducible refine' get_bra ?k1 ?k2 ?k3 ?_ | with_reducible refine' get_ket ?k1 ?k2 ?k3 ?_ | with_reducible refine' get_p1 ?k1 ?k2 ?k3 ?_); (case k1 | k2 | k3 => k_asm); k_whole; (try dsimp only))) | walk1 | (dsimp only; walk1) | (leave1; try dsimp only) | fail))
  all_goals (refine hret _ ⟨_, _, _, _, _, _, p1⟩ _ _ _ _ _ _ _ _ _ ?_ (by assumption) (by assumption))
  all_goals exact ⟨rfl, _, rfl, rfl⟩
theorem get_current_spec {w : World}  (σ : St)  :
    MethG w 49 [] 1 (fun h => True) σ (fun v σ' => ∃ t, v = .str σ.cur t ∧ σ' = σ) := by
  unfold MethG MD
  k_fill
  intro loose mean mg mb p0 dp un gd cn cs a ccd cl outer A₀ base h₀ L m s Q E x dx ns rest a1 a2 a3 a4 a5 a6 t1 t2 t3 t4 t5 t6 tl htl B F X N T hk hd hu hx hrest hpre hret
  obtain ⟨cur, c, l, lb, bra, ket, p1⟩ := σ
  simp only at *
  refine wpAny_call ?_
  k_dflt (refine' code_def (binds := [("self", .ref x)]) ?k1 ?k2 ?k3 ?k4 ?k5 ?kA ?kF ?kK ?k6 ?k7 ?k8 ?k9 ?kB ?_ ?c2 ?c3 ?c4 ?c5; (case kA | kF => exact rfl); (case kK => assumption); (case k1 | k2 | k3 | k4 | k5 => k_asm); (case k6 | k7 => k_is); (case k8 => ktr_room); (case k9 => exact BindsTo.of_eq rfl); (case c5 => decide); (case kB => exact locs rfl); (case c2 | c3 | c4 => exact rfl))
  intro g' L' h' FG' F' N' B' X' T'
  ((conv in (execs _ _) => arg 1; whnf); (try dsimp only); (show wpAny _ _ (execs _ _) _ _ _); k_fold)
  (repeat' (first | (k_unfold; (try dsimp only)) | (k_end; wrow_close) | with_reducible ((with_reducible show wpAny _ _ (getAttr (Value.ref _) _ _) _ _ _); ((first | with_reducible refine' get_cur ?k1 ?k2 ?k3 ?_ | with_reducible refine' get_c ?k1 ?k2 ?k3 ?_ | with_reducible refine' get_l ?k1 ?k2 ?k3 ?_ | with_reducible refine' get_lb ?k1 ?k2 ?k3 ?_ | with_reducible refine' get_bra ?k1 ?k2 ?k3 ?_ | with_reducible refine' get_ket ?k1 ?k2 ?k3 ?_ | with_reducible refine' get_p1 ?k1 ?k2 ?k3 ?_); (case k1 | k2 | k3 => k_asm); k_whole; (try dsimp only))) | walk1 | (dsimp only; walk1) | (leave1; try dsimp only) | fail))
  all_goals (refine hret _ ⟨_, _, _, _, _, _, p1⟩ _ _ _ _ _ _ _ _ _ ?_ (by assumption) (by assumption))
  all_goals exact ⟨_, rfl, rfl⟩
theorem stemWord_s {w : World} {wd : Str} {tw : Tok} (σ : St) (h3 : wd.length < 100) :
    MethS w 189 [.str wd tw] 6 (fun h => SetHas w h 230 V ∧ SetHas w h 231 SE ∧ SetHas w h 232 OE ∧ TabIn w.params h 338 A0 ∧ TabIn w.params h 453 A1 ∧ TabIn w.params h 475 A2 ∧ TabIn w.params h 491 A3) σ (fun v σ' => ∃ r t, v = .str r t ∧ Stem (ls wd) (ls r)) := by
  unfold MethS MD
  k_fill
  intro loose mean mg mb p0 dp un gd cn cs a ccd outer A₀ base g₀ h₀ L m s Q E x dx ns rest a1 a2 a3 a4 a5 a6 a7 t1 t2 t3 t4 t5 t6 t7 B F X N T XB TB D T0 hk hd hu hx hrest hpre hret
  obtain ⟨cur, c, l, lb, bra, ket, p1⟩ := σ
  simp only at *
  refine wpAny_call ?_
  k_dflt (refine' code_defS (binds := [("self", .ref x), ("word", .str wd tw)]) ?k1 ?k2 ?k3 ?k4 ?k5 ?XB ?TB ?D ?T0 ?kA ?k6 ?k7 ?k8 ?k9 ?kB ?_ ?cK ?c2 ?c3 ?c4 ?c5; (case kA => exact rfl); (case k2 | k1 => k_asm); (case XB | TB | D | T0 => assumption); (case k3 | k4 | k5 => k_asm); (case k6 | k7 => k_is); (case k8 => ktr_room); (case k9 => exact BindsTo.of_eq rfl); (case kB => exact locs rfl); (case cK => first | exact rfl | assumption); (case c2 | c3 | c4 => exact rfl); (case c5 => decide))
  intro g' L' h' FG' F' N' B' X' T' D'
  ((conv in (execs _ _) => arg 1; whnf); (try dsimp only); (show wpAny _ _ (execs _ _) _ _ _); k_fold)
  (repeat' (first | (k_unfold; (try dsimp only)) | (k_end; wrow_close) | ((with_reducible show wpAny _ _ (call (Value.ref _) _ _) _ _ _); ((with_reducible show wpAny _ _ (call (Value.ref 274) _) _ _ _); k_dflt (refine' MethS.use (stem_spec ⟨_, _, _, _, _, _, _⟩ ?g0 ?g1 ?g2) ?kB ?kF ?kX ?kN ?kT ?kXB ?kTB ?kD ?kT0 ?kk ?kd ?ku ?kx ?kr ?kp ?_); (case kB => assumption); (case kF => k_asm); (case kX => assumption); (case kN => k_asm); (case kT | kXB | kTB | kD => assumption); (case kT0 => first | assumption | exact KtsTurn.refl); (case kk => first | exact rfl | assumption); (case kd => ktr_room); (case ku => ktr_units); (case kx | kr | kp => assumption); (case g0 | g1 | g2 => ((try dsimp only) <;> (first | omega | assumption | exact rfl | decide +kernel))); intro v9q σ9 h9q tk9q ns9q b1q b2q b3q b4q b5q b6q b7q g9q hp9q T9q F9q N9q B9q X9q P9q D9q; rcases hp9q with ⟨e1, c9, l8, k9, r9, p9, e2, hl9, hS9⟩; all_goals ((try subst e1); (try subst e2); (try k_sweep); (try dsimp only at N9q hl9 hS9 ⊢)))) | ((with_reducible show wpAny _ _ (call (Value.ref _) _ _) _ _ _); ((with_reducible show wpAny _ _ (call (Value.ref 49) _) _ _ _); k_dflt (refine' MethG.use (get_current_spec ⟨_, _, _, _, _, _, 0⟩ ) ?kB ?kF ?kX ?kN ?kT ?kk ?kd ?ku ?kx ?kr ?kp ?ktl ?_); (case kB | kF | kX | kN | kT => k_asm); (case kk => first | exact rfl | assumption); (case kd => ktr_room); (case ku => ktr_units); (case kx | kr => assumption); (case ktl => first | assumption | exact Nat.le_of_ble_eq_true rfl); (case kp => first | exact trivial | assumption); intro v9q σ9 h9q tk9q ns9q b1q b2q b3q b4q b5q b6q hp9q F9q N9q; rcases hp9q with ⟨t9, e1, e2⟩; all_goals ((try subst e1); (try subst e2); (try k_sweep); (try dsimp only at N9q ⊢)))) | ((with_reducible show wpAny _ _ (call (Value.ref _) _ _) _ _ _); ((with_reducible show wpAny _ _ (call (Value.ref 42) _) _ _ _); k_dflt (refine' MethG.use (set_current_spec (wd := _) (tw := _) ⟨_, _, _, _, _, _, 0⟩ ?g0) ?kB ?kF ?kX ?kN ?kT ?kk ?kd ?ku ?kx ?kr ?kp ?ktl ?_); (case kB | kF | kX | kN | kT => k_asm); (case kk => first | exact rfl | assumption); (case kd => ktr_room); (case ku => ktr_units); (case kx | kr => assumption); (case ktl => first | assumption | exact Nat.le_of_ble_eq_true rfl); (case kp => first | exact trivial | assumption); (case g0 => ((try dsimp only) <;> (first | omega | assumption | exact rfl | decide +kernel))); intro v9q σ9 h9q tk9q ns9q b1q b2q b3q b4q b5q b6q hp9q F9q N9q; rcases hp9q with ⟨e1, l9, e2, q9⟩; all_goals ((try subst e1); (try subst e2); (try k_sweep); (try dsimp only at N9q q9 ⊢)))) | walk1 | (dsimp only; walk1) | (leave1; try dsimp only) | fail))
  all_goals (refine hret _ ⟨_, _, _, _, _, _, _⟩ _ _ _ _ _ _ _ _ _ _ _ ?_ (by assumption) (by assumption) (by assumption) (by assumption) (by assumption) (by assumption) (by assumption))
  all_goals (rename (Stem _ _) => hS; exact ⟨_, _, rfl, hS⟩)
theorem stemWord_n {w : World} {wd : Str} {tw : Tok} (σ : St) (h3 : wd.length < 100) :
    MethN w 189 [.str wd tw] 6 (fun h => SetHas w h 230 V ∧ SetHas w h 231 SE ∧ SetHas w h 232 OE ∧ TabIn w.params h 338 A0 ∧ TabIn w.params h 453 A1 ∧ TabIn w.params h 475 A2 ∧ TabIn w.params h 491 A3) σ (fun v σ' => ∃ r t, v = .str r t ∧ Stem (ls wd) (ls r)) := by
  unfold MethN MD
  k_fill
  intro loose mean mg mb p0 dp un gd cn cs a ccd outer A₀ base g₀ h₀ L m s Q E x dx ns rest a1 a2 a3 a4 a5 a6 t1 t2 t3 t4 t5 t6 B F X N T XB TB D T0 hk hd hu hx hrest hpre hret
  obtain ⟨cur, c, l, lb, bra, ket, p1⟩ := σ
  simp only at *
  refine wpAny_call ?_
  k_dflt (refine' code_defS (binds := [("self", .ref x), ("word", .str wd tw)]) ?k1 ?k2 ?k3 ?k4 ?k5 ?XB ?TB ?D ?T0 ?kA ?k6 ?k7 ?k8 ?k9 ?kB ?_ ?cK ?c2 ?c3 ?c4 ?c5; (case kA => exact rfl); (case k2 | k1 => k_asm); (case XB | TB | D | T0 => assumption); (case k3 | k4 | k5 => k_asm); (case k6 | k7 => k_is); (case k8 => ktr_room); (case k9 => exact BindsTo.of_eq rfl); (case kB => exact locs rfl); (case cK => first | exact rfl | assumption); (case c2 | c3 | c4 => exact rfl); (case c5 => decide))
  intro g' L' h' FG' F' N' B' X' T' D'
  ((conv in (execs _ _) => arg 1; whnf); (try dsimp only); (show wpAny _ _ (execs _ _) _ _ _); k_fold)
  (repeat' (first | (k_unfold; (try dsimp only)) | (k_end; wrow_close) | ((with_reducible show wpAny _ _ (call (Value.ref _) _ _) _ _ _); ((with_reducible show wpAny _ _ (call (Value.ref 274) _) _ _ _); k_dflt (refine' MethN.use (stem_n ⟨_, _, _, _, _, _, 0⟩ ?g0 ?g1 ?g2) ?kB ?kF ?kX ?kN ?kT ?kXB ?kTB ?kD ?kT0 ?kk ?kd ?ku ?kx ?kr ?kp ?_); (case kB => assumption); (case kF => k_asm); (case kX => assumption); (case kN => k_asm); (case kT | kXB | kTB | kD => assumption); (case kT0 => first | assumption | exact KtsTurn.refl); (case kk => first | exact rfl | assumption); (case kd => ktr_room); (case ku => ktr_units); (case kx | kr | kp => assumption); (case g0 | g1 | g2 => ((try dsimp only) <;> (first | omega | assumption | exact rfl | decide +kernel))); intro v9q σ9 h9q tk9q ns9q b1q b2q b3q b4q b5q b6q b7q g9q b8q hp9q T9q F9q N9q B9q X9q P9q D9q; rcases hp9q with ⟨e1, c9, l8, k9, r9, p9, e2, hl9, hS9⟩; all_goals ((try subst e1); (try subst e2); (try k_sweep); (try dsimp only at N9q hl9 hS9 ⊢)))) | ((with_reducible show wpAny _ _ (call (Value.ref _) _ _) _ _ _); ((with_reducible show wpAny _ _ (call (Value.ref 49) _) _ _ _); k_dflt (refine' MethG.use (get_current_spec ⟨_, _, _, _, _, _, 0⟩ ) ?kB ?kF ?kX ?kN ?kT ?kk ?kd ?ku ?kx ?kr ?kp ?ktl ?_); (case kB | kF | kX | kN | kT => k_asm); (case kk => first | exact rfl | assumption); (case kd => ktr_room); (case ku => ktr_units); (case kx | kr => assumption); (case ktl => first | assumption | exact Nat.le_of_ble_eq_true rfl); (case kp => first | exact trivial | assumption); intro v9q σ9 h9q tk9q ns9q b1q b2q b3q b4q b5q b6q hp9q F9q N9q; rcases hp9q with ⟨t9, e1, e2⟩; all_goals ((try subst e1); (try subst e2); (try k_sweep); (try dsimp only at N9q ⊢)))) | ((with_reducible show wpAny _ _ (call (Value.ref _) _ _) _ _ _); ((with_reducible show wpAny _ _ (call (Value.ref 42) _) _ _ _); k_dflt (refine' MethG.use (set_current_spec (wd := _) (tw := _) ⟨_, _, _, _, _, _, 0⟩ ?g0) ?kB ?kF ?kX ?kN ?kT ?kk ?kd ?ku ?kx ?kr ?kp ?ktl ?_); (case kB | kF | kX | kN | kT => k_asm); (case kk => first | exact rfl | assumption); (case kd => ktr_room); (case ku => ktr_units); (case kx | kr => assumption); (case ktl => first | assumption | exact Nat.le_of_ble_eq_true rfl); (case kp => first | exact trivial | assumption); (case g0 => ((try dsimp only) <;> (first | omega | assumption | exact rfl | decide +kernel))); intro v9q σ9 h9q tk9q ns9q b1q b2q b3q b4q b5q b6q hp9q F9q N9q; rcases hp9q with ⟨e1, l9, e2, q9⟩; all_goals ((try subst e1); (try subst e2); (try k_sweep); (try dsimp only at N9q q9 ⊢)))) | walk1 | (dsimp only; walk1) | (leave1; try dsimp only) | fail))
  all_goals (refine hret _ ⟨_, _, _, _, _, _, _⟩ _ _ _ _ _ _ _ _ _ _ _ _ ?_ (by assumption) (by assumption) (by assumption) (by assumption) (by assumption) (by assumption) (by assumption))
  all_goals (rename (Stem _ _) => hS; exact ⟨_, _, rfl, hS⟩)
end PartW13
section PartWT
open PySem PySem.W PyProof.Rows PySem.Calls
noncomputable def AllAm (P : Params) (h : Heap) : List Value → Tbl → Prop
  | [], [] => True
  | v :: vs, e :: es => (∃ x, v = .ref x ∧ AmIn P h x e) ∧ AllAm P h vs es
  | _, _ => False
theorem AllAm.at {P : Params} {h : Heap} : ∀ {vs : List Value} {T : Tbl}, AllAm P h vs T → vs.length = T.length ∧ ∀ i, i < T.length → ∃ x, vs[i]? = some (.ref x) ∧ AmIn P h x (T.at i)
  | [], [], _ => ⟨rfl, fun i hi => by simp at hi⟩
  | v :: vs, e :: es, ⟨⟨x, hv, hx⟩, r⟩ => by
    obtain ⟨l, f⟩ := AllAm.at r
    refine ⟨by simp [l], fun i hi => ?_⟩
    cases i with
    | zero => exact ⟨x, by rw [hv]; rfl, hx⟩
    | succ i => exact f i (by simpa using hi)
  | [], _ :: _, q => q.elim
  | _ :: _, [], q => q.elim
theorem am_of {P : Params} {h : Heap} (X : (Kf P).In h) {x dx n k1 k2 k3 u1 u2 u3 : Nat} {S : Str} {e : Ent} (h1 : (Kf P).lookup x = some (instObj 218 dx))
    (h2 : (Kf P).lookup dx = some (dictOf [⟨PyData.keyHash P "s", .str "s" k1, .str S u1⟩, ⟨PyData.keyHash P "substring_i", .str "substring_i" k2, .int e.sub u2⟩, ⟨PyData.keyHash P "result", .str "result" k3, .int e.res u3⟩] n)) (h3 : ls S = e.s.reverse) : AmIn P h x e :=
  ⟨dx, n, k1, k2, k3, u1, u2, u3, S, X _ _ h1, X _ _ h2, h3⟩
theorem tab_338 {P : Params} {h : Heap} (X : (Kf P).In h) : TabIn P h 338 A0 := by
  have a : AllAm P h (.ref 276 :: .ref 279 :: .ref 282 :: .ref 285 :: .ref 288 :: .ref 291 :: .ref 294 :: .ref 297 :: .ref 300 :: .ref 303 :: .ref 306 :: .ref 309 :: .ref 312 :: .ref 315 :: .ref 318 :: .ref 321 :: .ref 324 :: .ref 327 :: .ref 330 :: .ref 333 :: .ref 336 :: []) A0 := by
    unfold A0
    refine ⟨⟨_, rfl, am_of X (dx := 275) (n := 3) (k1 := 615) (k2 := 617) (k3 := 619) (u1 := 605) (u2 := 607) (u3 := 609) (S := "fab") (by kernel_rfl!) (by kernel_rfl!) (by decide +kernel)⟩, ?_⟩
    refine ⟨⟨_, rfl, am_of X (dx := 278) (n := 3) (k1 := 630) (k2 := 632) (k3 := 634) (u1 := 620) (u2 := 622) (u3 := 624) (S := "h") (by kernel_rfl!) (by kernel_rfl!) (by decide +kernel)⟩, ?_⟩
    refine ⟨⟨_, rfl, am_of X (dx := 281) (n := 3) (k1 := 645) (k2 := 647) (k3 := 649) (u1 := 635) (u2 := 637) (u3 := 639) (S := "pak") (by kernel_rfl!) (by kernel_rfl!) (by decide +kernel)⟩, ?_⟩
    refine ⟨⟨_, rfl, am_of X (dx := 284) (n := 3) (k1 := 660) (k2 := 662) (k3 := 664) (u1 := 650) (u2 := 652) (u3 := 654) (S := "rak") (by kernel_rfl!) (by kernel_rfl!) (by decide +kernel)⟩, ?_⟩
    refine ⟨⟨_, rfl, am_of X (dx := 287) (n := 3) (k1 := 675) (k2 := 677) (k3 := 679) (u1 := 665) (u2 := 667) (u3 := 669) (S := "stak") (by kernel_rfl!) (by kernel_rfl!) (by decide +kernel)⟩, ?_⟩
    refine ⟨⟨_, rfl, am_of X (dx := 290) (n := 3) (k1 := 690) (k2 := 692) (k3 := 694) (u1 := 680) (u2 := 682) (u3 := 684) (S := "kom") (by kernel_rfl!) (by kernel_rfl!) (by decide +kernel)⟩, ?_⟩
    refine ⟨⟨_, rfl, am_of X (dx := 293) (n := 3) (k1 := 705) (k2 := 707) (k3 := 709) (u1 := 695) (u2 := 697) (u3 := 699) (S := "iet") (by kernel_rfl!) (by kernel_rfl!) (by decide +kernel)⟩, ?_⟩
    refine ⟨⟨_, rfl, am_of X (dx := 296) (n := 3) (k1 := 720) (k2 := 722) (k3 := 724) (u1 := 710) (u2 := 712) (u3 := 714) (S := "cit") (by kernel_rfl!) (by kernel_rfl!) (by decide +kernel)⟩, ?_⟩
    refine ⟨⟨_, rfl, am_of X (dx := 299) (n := 3) (k1 := 735) (k2 := 737) (k3 := 739) (u1 := 725) (u2 := 727) (u3 := 729) (S := "dit") (by kernel_rfl!) (by kernel_rfl!) (by decide +kernel)⟩, ?_⟩
    refine ⟨⟨_, rfl, am_of X (dx := 302) (n := 3) (k1 := 750) (k2 := 752) (k3 := 754) (u1 := 740) (u2 := 742) (u3 := 744) (S := "alit") (by kernel_rfl!) (by kernel_rfl!) (by decide +kernel)⟩, ?_⟩
    refine ⟨⟨_, rfl, am_of X (dx := 305) (n := 3) (k1 := 765) (k2 := 767) (k3 := 769) (u1 := 755) (u2 := 757) (u3 := 759) (S := "ilit") (by kernel_rfl!) (by kernel_rfl!) (by decide +kernel)⟩, ?_⟩
    refine ⟨⟨_, rfl, am_of X (dx := 308) (n := 3) (k1 := 780) (k2 := 782) (k3 := 784) (u1 := 770) (u2 := 772) (u3 := 774) (S := "mit") (by kernel_rfl!) (by kernel_rfl!) (by decide +kernel)⟩, ?_⟩
    refine ⟨⟨_, rfl, am_of X (dx := 311) (n := 3) (k1 := 795) (k2 := 797) (k3 := 799) (u1 := 785) (u2 := 787) (u3 := 789) (S := "nit") (by kernel_rfl!) (by kernel_rfl!) (by decide +kernel)⟩, ?_⟩
    refine ⟨⟨_, rfl, am_of X (dx := 314) (n := 3) (k1 := 810) (k2 := 812) (k3 := 814) (u1 := 800) (u2 := 802) (u3 := 804) (S := "pit") (by kernel_rfl!) (by kernel_rfl!) (by decide +kernel)⟩, ?_⟩
    refine ⟨⟨_, rfl, am_of X (dx := 317) (n := 3) (k1 := 825) (k2 := 827) (k3 := 829) (u1 := 815) (u2 := 817) (u3 := 819) (S := "rit") (by kernel_rfl!) (by kernel_rfl!) (by decide +kernel)⟩, ?_⟩
    refine ⟨⟨_, rfl, am_of X (dx := 320) (n := 3) (k1 := 840) (k2 := 842) (k3 := 844) (u1 := 830) (u2 := 832) (u3 := 834) (S := "sit") (by kernel_rfl!) (by kernel_rfl!) (by decide +kernel)⟩, ?_⟩
    refine ⟨⟨_, rfl, am_of X (dx := 323) (n := 3) (k1 := 855) (k2 := 857) (k3 := 859) (u1 := 845) (u2 := 847) (u3 := 849) (S := "tit") (by kernel_rfl!) (by kernel_rfl!) (by decide +kernel)⟩, ?_⟩
    refine ⟨⟨_, rfl, am_of X (dx := 326) (n := 3) (k1 := 870) (k2 := 872) (k3 := 874) (u1 := 860) (u2 := 862) (u3 := 864) (S := "uit") (by kernel_rfl!) (by kernel_rfl!) (by decide +kernel)⟩, ?_⟩
    refine ⟨⟨_, rfl, am_of X (dx := 329) (n := 3) (k1 := 885) (k2 := 887) (k3 := 889) (u1 := 875) (u2 := 877) (u3 := 879) (S := "ivit") (by kernel_rfl!) (by kernel_rfl!) (by decide +kernel)⟩, ?_⟩
    refine ⟨⟨_, rfl, am_of X (dx := 332) (n := 3) (k1 := 900) (k2 := 902) (k3 := 904) (u1 := 890) (u2 := 892) (u3 := 894) (S := "kvit") (by kernel_rfl!) (by kernel_rfl!) (by decide +kernel)⟩, ?_⟩
    refine ⟨⟨_, rfl, am_of X (dx := 335) (n := 3) (k1 := 915) (k2 := 917) (k3 := 919) (u1 := 905) (u2 := 907) (u3 := 909) (S := "xit") (by kernel_rfl!) (by kernel_rfl!) (by decide +kernel)⟩, ?_⟩
    exact trivial
  obtain ⟨l, f⟩ := a.at
  exact ⟨_, ⟨_, X 338 ⟨.type "list", none, .seq #[.ref 276, .ref 279, .ref 282, .ref 285, .ref 288, .ref 291, .ref 294, .ref 297, .ref 300, .ref 303, .ref 306, .ref 309, .ref 312, .ref 315, .ref 318, .ref 321, .ref 324, .ref 327, .ref 330, .ref 333, .ref 336] 0, #[]⟩ (by kernel_rfl!), rfl, _, rfl⟩, l, f⟩
theorem tab_453 {P : Params} {h : Heap} (X : (Kf P).In h) : TabIn P h 453 A1 := by
  have a : AllAm P h (.ref 340 :: .ref 343 :: .ref 346 :: .ref 349 :: .ref 352 :: .ref 355 :: .ref 358 :: .ref 361 :: .ref 364 :: .ref 367 :: .ref 370 :: .ref 373 :: .ref 376 :: .ref 379 :: .ref 382 :: .ref 385 :: .ref 388 :: .ref 391 :: .ref 394 :: .ref 397 :: .ref 400 :: .ref 403 :: .ref 406 :: .ref 409 :: .ref 412 :: .ref 415 :: .ref 418 :: .ref 421 :: .ref 424 :: .ref 427 :: .ref 430 :: .ref 433 :: .ref 436 :: .ref 439 :: .ref 442 :: .ref 445 :: .ref 448 :: .ref 451 :: []) A1 := by
    unfold A1
    refine ⟨⟨_, rfl, am_of X (dx := 339) (n := 3) (k1 := 930) (k2 := 932) (k3 := 934) (u1 := 921) (u2 := 923) (u3 := 924) (S := "a") (by kernel_rfl!) (by kernel_rfl!) (by decide +kernel)⟩, ?_⟩
    refine ⟨⟨_, rfl, am_of X (dx := 342) (n := 3) (k1 := 943) (k2 := 945) (k3 := 947) (u1 := 935) (u2 := 936) (u3 := 937) (S := "arna") (by kernel_rfl!) (by kernel_rfl!) (by decide +kernel)⟩, ?_⟩
    refine ⟨⟨_, rfl, am_of X (dx := 345) (n := 3) (k1 := 956) (k2 := 958) (k3 := 960) (u1 := 948) (u2 := 949) (u3 := 950) (S := "erna") (by kernel_rfl!) (by kernel_rfl!) (by decide +kernel)⟩, ?_⟩
    refine ⟨⟨_, rfl, am_of X (dx := 348) (n := 3) (k1 := 969) (k2 := 971) (k3 := 973) (u1 := 961) (u2 := 962) (u3 := 963) (S := "heterna") (by kernel_rfl!) (by kernel_rfl!) (by decide +kernel)⟩, ?_⟩
    refine ⟨⟨_, rfl, am_of X (dx := 351) (n := 3) (k1 := 982) (k2 := 984) (k3 := 986) (u1 := 974) (u2 := 975) (u3 := 976) (S := "orna") (by kernel_rfl!) (by kernel_rfl!) (by decide +kernel)⟩, ?_⟩
    refine ⟨⟨_, rfl, am_of X (dx := 354) (n := 3) (k1 := 996) (k2 := 998) (k3 := 1000) (u1 := 987) (u2 := 989) (u3 := 990) (S := "ad") (by kernel_rfl!) (by kernel_rfl!) (by decide +kernel)⟩, ?_⟩
    refine ⟨⟨_, rfl, am_of X (dx := 357) (n := 3) (k1 := 1010) (k2 := 1012) (k3 := 1014) (u1 := 1001) (u2 := 1003) (u3 := 1004) (S := "e") (by kernel_rfl!) (by kernel_rfl!) (by decide +kernel)⟩, ?_⟩
    refine ⟨⟨_, rfl, am_of X (dx := 360) (n := 3) (k1 := 1023) (k2 := 1025) (k3 := 1027) (u1 := 1015) (u2 := 1016) (u3 := 1017) (S := "ade") (by kernel_rfl!) (by kernel_rfl!) (by decide +kernel)⟩, ?_⟩
    refine ⟨⟨_, rfl, am_of X (dx := 363) (n := 3) (k1 := 1036) (k2 := 1038) (k3 := 1040) (u1 := 1028) (u2 := 1029) (u3 := 1030) (S := "ande") (by kernel_rfl!) (by kernel_rfl!) (by decide +kernel)⟩, ?_⟩
    refine ⟨⟨_, rfl, am_of X (dx := 366) (n := 3) (k1 := 1049) (k2 := 1051) (k3 := 1053) (u1 := 1041) (u2 := 1042) (u3 := 1043) (S := "arne") (by kernel_rfl!) (by kernel_rfl!) (by decide +kernel)⟩, ?_⟩
    refine ⟨⟨_, rfl, am_of X (dx := 369) (n := 3) (k1 := 1062) (k2 := 1064) (k3 := 1066) (u1 := 1054) (u2 := 1055) (u3 := 1056) (S := "are") (by kernel_rfl!) (by kernel_rfl!) (by decide +kernel)⟩, ?_⟩
    refine ⟨⟨_, rfl, am_of X (dx := 372) (n := 3) (k1 := 1075) (k2 := 1077) (k3 := 1079) (u1 := 1067) (u2 := 1068) (u3 := 1069) (S := "aste") (by kernel_rfl!) (by kernel_rfl!) (by decide +kernel)⟩, ?_⟩
    refine ⟨⟨_, rfl, am_of X (dx := 375) (n := 3) (k1 := 1089) (k2 := 1091) (k3 := 1093) (u1 := 1080) (u2 := 1082) (u3 := 1083) (S := "en") (by kernel_rfl!) (by kernel_rfl!) (by decide +kernel)⟩, ?_⟩
    refine ⟨⟨_, rfl, am_of X (dx := 378) (n := 3) (k1 := 1102) (k2 := 1104) (k3 := 1106) (u1 := 1094) (u2 := 1095) (u3 := 1096) (S := "anden") (by kernel_rfl!) (by kernel_rfl!) (by decide +kernel)⟩, ?_⟩
    refine ⟨⟨_, rfl, am_of X (dx := 381) (n := 3) (k1 := 1115) (k2 := 1117) (k3 := 1119) (u1 := 1107) (u2 := 1108) (u3 := 1109) (S := "aren") (by kernel_rfl!) (by kernel_rfl!) (by decide +kernel)⟩, ?_⟩
    refine ⟨⟨_, rfl, am_of X (dx := 384) (n := 3) (k1 := 1128) (k2 := 1130) (k3 := 1132) (u1 := 1120) (u2 := 1121) (u3 := 1122) (S := "heten") (by kernel_rfl!) (by kernel_rfl!) (by decide +kernel)⟩, ?_⟩
    refine ⟨⟨_, rfl, am_of X (dx := 387) (n := 3) (k1 := 1142) (k2 := 1144) (k3 := 1146) (u1 := 1133) (u2 := 1135) (u3 := 1136) (S := "ern") (by kernel_rfl!) (by kernel_rfl!) (by decide +kernel)⟩, ?_⟩
    refine ⟨⟨_, rfl, am_of X (dx := 390) (n := 3) (k1 := 1156) (k2 := 1158) (k3 := 1160) (u1 := 1147) (u2 := 1149) (u3 := 1150) (S := "ar") (by kernel_rfl!) (by kernel_rfl!) (by decide +kernel)⟩, ?_⟩
    refine ⟨⟨_, rfl, am_of X (dx := 393) (n := 3) (k1 := 1170) (k2 := 1172) (k3 := 1174) (u1 := 1161) (u2 := 1163) (u3 := 1164) (S := "er") (by kernel_rfl!) (by kernel_rfl!) (by decide +kernel)⟩, ?_⟩
    refine ⟨⟨_, rfl, am_of X (dx := 396) (n := 3) (k1 := 1183) (k2 := 1185) (k3 := 1187) (u1 := 1175) (u2 := 1176) (u3 := 1177) (S := "heter") (by kernel_rfl!) (by kernel_rfl!) (by decide +kernel)⟩, ?_⟩
    refine ⟨⟨_, rfl, am_of X (dx := 399) (n := 3) (k1 := 1197) (k2 := 1199) (k3 := 1201) (u1 := 1188) (u2 := 1190) (u3 := 1191) (S := "or") (by kernel_rfl!) (by kernel_rfl!) (by decide +kernel)⟩, ?_⟩
    refine ⟨⟨_, rfl, am_of X (dx := 402) (n := 3) (k1 := 1211) (k2 := 1213) (k3 := 1215) (u1 := 1202) (u2 := 1204) (u3 := 1205) (S := "s") (by kernel_rfl!) (by kernel_rfl!) (by decide +kernel)⟩, ?_⟩
    refine ⟨⟨_, rfl, am_of X (dx := 405) (n := 3) (k1 := 1224) (k2 := 1226) (k3 := 1228) (u1 := 1216) (u2 := 1217) (u3 := 1218) (S := "as") (by kernel_rfl!) (by kernel_rfl!) (by decide +kernel)⟩, ?_⟩
    refine ⟨⟨_, rfl, am_of X (dx := 408) (n := 3) (k1 := 1237) (k2 := 1239) (k3 := 1241) (u1 := 1229) (u2 := 1230) (u3 := 1231) (S := "arnas") (by kernel_rfl!) (by kernel_rfl!) (by decide +kernel)⟩, ?_⟩
    refine ⟨⟨_, rfl, am_of X (dx := 411) (n := 3) (k1 := 1250) (k2 := 1252) (k3 := 1254) (u1 := 1242) (u2 := 1243) (u3 := 1244) (S := "ernas") (by kernel_rfl!) (by kernel_rfl!) (by decide +kernel)⟩, ?_⟩
    refine ⟨⟨_, rfl, am_of X (dx := 414) (n := 3) (k1 := 1263) (k2 := 1265) (k3 := 1267) (u1 := 1255) (u2 := 1256) (u3 := 1257) (S := "ornas") (by kernel_rfl!) (by kernel_rfl!) (by decide +kernel)⟩, ?_⟩
    refine ⟨⟨_, rfl, am_of X (dx := 417) (n := 3) (k1 := 1276) (k2 := 1278) (k3 := 1280) (u1 := 1268) (u2 := 1269) (u3 := 1270) (S := "es") (by kernel_rfl!) (by kernel_rfl!) (by decide +kernel)⟩, ?_⟩
    refine ⟨⟨_, rfl, am_of X (dx := 420) (n := 3) (k1 := 1289) (k2 := 1291) (k3 := 1293) (u1 := 1281) (u2 := 1282) (u3 := 1283) (S := "ades") (by kernel_rfl!) (by kernel_rfl!) (by decide +kernel)⟩, ?_⟩
    refine ⟨⟨_, rfl, am_of X (dx := 423) (n := 3) (k1 := 1302) (k2 := 1304) (k3 := 1306) (u1 := 1294) (u2 := 1295) (u3 := 1296) (S := "andes") (by kernel_rfl!) (by kernel_rfl!) (by decide +kernel)⟩, ?_⟩
    refine ⟨⟨_, rfl, am_of X (dx := 426) (n := 3) (k1 := 1315) (k2 := 1317) (k3 := 1319) (u1 := 1307) (u2 := 1308) (u3 := 1309) (S := "ens") (by kernel_rfl!) (by kernel_rfl!) (by decide +kernel)⟩, ?_⟩
    refine ⟨⟨_, rfl, am_of X (dx := 429) (n := 3) (k1 := 1328) (k2 := 1330) (k3 := 1332) (u1 := 1320) (u2 := 1321) (u3 := 1322) (S := "arens") (by kernel_rfl!) (by kernel_rfl!) (by decide +kernel)⟩, ?_⟩
    refine ⟨⟨_, rfl, am_of X (dx := 432) (n := 3) (k1 := 1341) (k2 := 1343) (k3 := 1345) (u1 := 1333) (u2 := 1334) (u3 := 1335) (S := "hetens") (by kernel_rfl!) (by kernel_rfl!) (by decide +kernel)⟩, ?_⟩
    refine ⟨⟨_, rfl, am_of X (dx := 435) (n := 3) (k1 := 1354) (k2 := 1356) (k3 := 1358) (u1 := 1346) (u2 := 1347) (u3 := 1348) (S := "erns") (by kernel_rfl!) (by kernel_rfl!) (by decide +kernel)⟩, ?_⟩
    refine ⟨⟨_, rfl, am_of X (dx := 438) (n := 3) (k1 := 1368) (k2 := 1370) (k3 := 1372) (u1 := 1359) (u2 := 1361) (u3 := 1362) (S := "at") (by kernel_rfl!) (by kernel_rfl!) (by decide +kernel)⟩, ?_⟩
    refine ⟨⟨_, rfl, am_of X (dx := 441) (n := 3) (k1 := 1382) (k2 := 1384) (k3 := 1386) (u1 := 1373) (u2 := 1375) (u3 := 1376) (S := "et") (by kernel_rfl!) (by kernel_rfl!) (by decide +kernel)⟩, ?_⟩
    refine ⟨⟨_, rfl, am_of X (dx := 444) (n := 3) (k1 := 1395) (k2 := 1397) (k3 := 1399) (u1 := 1387) (u2 := 1388) (u3 := 1389) (S := "andet") (by kernel_rfl!) (by kernel_rfl!) (by decide +kernel)⟩, ?_⟩
    refine ⟨⟨_, rfl, am_of X (dx := 447) (n := 3) (k1 := 1408) (k2 := 1410) (k3 := 1412) (u1 := 1400) (u2 := 1401) (u3 := 1402) (S := "het") (by kernel_rfl!) (by kernel_rfl!) (by decide +kernel)⟩, ?_⟩
    refine ⟨⟨_, rfl, am_of X (dx := 450) (n := 3) (k1 := 1422) (k2 := 1424) (k3 := 1426) (u1 := 1413) (u2 := 1415) (u3 := 1416) (S := "ast") (by kernel_rfl!) (by kernel_rfl!) (by decide +kernel)⟩, ?_⟩
    exact trivial
  obtain ⟨l, f⟩ := a.at
  exact ⟨_, ⟨_, X 453 ⟨.type "list", none, .seq #[.ref 340, .ref 343, .ref 346, .ref 349, .ref 352, .ref 355, .ref 358, .ref 361, .ref 364, .ref 367, .ref 370, .ref 373, .ref 376, .ref 379, .ref 382, .ref 385, .ref 388, .ref 391, .ref 394, .ref 397, .ref 400, .ref 403, .ref 406, .ref 409, .ref 412, .ref 415, .ref 418, .ref 421, .ref 424, .ref 427, .ref 430, .ref 433, .ref 436, .ref 439, .ref 442, .ref 445, .ref 448, .ref 451] 0, #[]⟩ (by kernel_rfl!), rfl, _, rfl⟩, l, f⟩
theorem tab_475 {P : Params} {h : Heap} (X : (Kf P).In h) : TabIn P h 475 A2 := by
  have a : AllAm P h (.ref 455 :: .ref 458 :: .ref 461 :: .ref 464 :: .ref 467 :: .ref 470 :: .ref 473 :: []) A2 := by
    unfold A2
    refine ⟨⟨_, rfl, am_of X (dx := 454) (n := 3) (k1 := 1438) (k2 := 1440) (k3 := 1442) (u1 := 1428) (u2 := 1430) (u3 := 1432) (S := "dd") (by kernel_rfl!) (by kernel_rfl!) (by decide +kernel)⟩, ?_⟩
    refine ⟨⟨_, rfl, am_of X (dx := 457) (n := 3) (k1 := 1453) (k2 := 1455) (k3 := 1457) (u1 := 1443) (u2 := 1445) (u3 := 1447) (S := "gd") (by kernel_rfl!) (by kernel_rfl!) (by decide +kernel)⟩, ?_⟩
    refine ⟨⟨_, rfl, am_of X (dx := 460) (n := 3) (k1 := 1468) (k2 := 1470) (k3 := 1472) (u1 := 1458) (u2 := 1460) (u3 := 1462) (S := "nn") (by kernel_rfl!) (by kernel_rfl!) (by decide +kernel)⟩, ?_⟩
    refine ⟨⟨_, rfl, am_of X (dx := 463) (n := 3) (k1 := 1483) (k2 := 1485) (k3 := 1487) (u1 := 1473) (u2 := 1475) (u3 := 1477) (S := "dt") (by kernel_rfl!) (by kernel_rfl!) (by decide +kernel)⟩, ?_⟩
    refine ⟨⟨_, rfl, am_of X (dx := 466) (n := 3) (k1 := 1498) (k2 := 1500) (k3 := 1502) (u1 := 1488) (u2 := 1490) (u3 := 1492) (S := "gt") (by kernel_rfl!) (by kernel_rfl!) (by decide +kernel)⟩, ?_⟩
    refine ⟨⟨_, rfl, am_of X (dx := 469) (n := 3) (k1 := 1513) (k2 := 1515) (k3 := 1517) (u1 := 1503) (u2 := 1505) (u3 := 1507) (S := "kt") (by kernel_rfl!) (by kernel_rfl!) (by decide +kernel)⟩, ?_⟩
    refine ⟨⟨_, rfl, am_of X (dx := 472) (n := 3) (k1 := 1528) (k2 := 1530) (k3 := 1532) (u1 := 1518) (u2 := 1520) (u3 := 1522) (S := "tt") (by kernel_rfl!) (by kernel_rfl!) (by decide +kernel)⟩, ?_⟩
    exact trivial
  obtain ⟨l, f⟩ := a.at
  exact ⟨_, ⟨_, X 475 ⟨.type "list", none, .seq #[.ref 455, .ref 458, .ref 461, .ref 464, .ref 467, .ref 470, .ref 473] 0, #[]⟩ (by kernel_rfl!), rfl, _, rfl⟩, l, f⟩
theorem tab_491 {P : Params} {h : Heap} (X : (Kf P).In h) : TabIn P h 491 A3 := by
  have a : AllAm P h (.ref 477 :: .ref 480 :: .ref 483 :: .ref 486 :: .ref 489 :: []) A3 := by
    unfold A3
    refine ⟨⟨_, rfl, am_of X (dx := 476) (n := 3) (k1 := 1543) (k2 := 1545) (k3 := 1547) (u1 := 1534) (u2 := 1536) (u3 := 1537) (S := "ig") (by kernel_rfl!) (by kernel_rfl!) (by decide +kernel)⟩, ?_⟩
    refine ⟨⟨_, rfl, am_of X (dx := 479) (n := 3) (k1 := 1556) (k2 := 1558) (k3 := 1560) (u1 := 1548) (u2 := 1549) (u3 := 1550) (S := "lig") (by kernel_rfl!) (by kernel_rfl!) (by decide +kernel)⟩, ?_⟩
    refine ⟨⟨_, rfl, am_of X (dx := 482) (n := 3) (k1 := 1570) (k2 := 1572) (k3 := 1574) (u1 := 1561) (u2 := 1563) (u3 := 1564) (S := "els") (by kernel_rfl!) (by kernel_rfl!) (by decide +kernel)⟩, ?_⟩
    refine ⟨⟨_, rfl, am_of X (dx := 485) (n := 3) (k1 := 1584) (k2 := 1586) (k3 := 1588) (u1 := 1575) (u2 := 1577) (u3 := 1578) (S := "fullt") (by kernel_rfl!) (by kernel_rfl!) (by decide +kernel)⟩, ?_⟩
    refine ⟨⟨_, rfl, am_of X (dx := 488) (n := 3) (k1 := 1598) (k2 := 1600) (k3 := 1602) (u1 := 1589) (u2 := 1591) (u3 := 1592) (S := "öst") (by kernel_rfl!) (by kernel_rfl!) (by decide +kernel)⟩, ?_⟩
    exact trivial
  obtain ⟨l, f⟩ := a.at
  exact ⟨_, ⟨_, X 491 ⟨.type "list", none, .seq #[.ref 477, .ref 480, .ref 483, .ref 486, .ref 489] 0, #[]⟩ (by kernel_rfl!), rfl, _, rfl⟩, l, f⟩
end PartWT
section PartWI
open PySem PySem.W PyProof.Rows PySem.Calls PySem.Spec
section
variable {prog : Program} {w : World} {A : Around} {E : Value → Shared → Prop} {s : Shared} {env : Env} {h₀ : Heap} {x : Str} {body : List Stmt} {Q : Flow → Shared → Prop}
/-- a loop over a list of the ledger, of whatever values; the ledger stays -/
theorem iter_led {l : Addr} {vs : List Value} {nn : Nat} {m₀ : Str → Option Value} {news : List (Addr × Obj)} (J : Nat → (Str → Option Value) → Prop)
    (hh : A.handled = none) (hl : (l, listOf vs.toArray nn) ∈ news) (F : Fr h₀ env.locals s.heap m₀) (N : News h₀ env.locals s.heap news) (hj : J 0 m₀)
    (turn : ∀ i v m₁ h tk own, vs[i]? = some v → OwnOff own (news.map (·.1)) → J i m₁ → Fr h₀ env.locals h (fun y => if y = x then some v else m₁ y) → News h₀ env.locals h (news ++ own) →
      wpAny (model prog w) A (execs body env) (InvPostN h₀ env.locals (fun m' nx => nx = news ∧ J (i + 1) m') own (news.map (·.1)) { s with heap := h, toks := tk } Q) E { s with heap := h, toks := tk })
    (done : ∀ m₁ h tk, J vs.length m₁ → Fr h₀ env.locals h m₁ → News h₀ env.locals h news → Q .next { s with heap := h, toks := tk }) :
    wpAny (model prog w) A (pyIter (.ref l)) (fun it s₂ => LoopAtV prog w A h₀ env x body Q E it s₂) E s := by
  have here : s.heap.get? l = some (listOf vs.toArray nn) := (N _ hl).1
  have hls : s.heap.IsList l vs.toArray := ⟨_, here, rfl, nn, rfl⟩
  have hlt : l < s.heap.objs.size := Heap.lt_size here
  refine wpAny_pyIter_list hls ?_
  have W := Walks.list (prog := prog) (w := w) hh s.heap.objs.size l (Nat.ne_of_lt hlt) vs.toArray
  have hlen : vs.toArray.size = vs.length := by simp
  rw [hlen] at W
  have small : ∀ p ∈ news, p.1 ≠ s.heap.objs.size := fun p hp => Nat.ne_of_lt (Heap.lt_size (N p hp).1)
  refine ⟨_, _, _, vs.length, _, _, m₀, news, (fun i m nx => nx = news ∧ J i m), rfl, W, fun hm => ?_, fun b hb => ?_, fun p hp hI => small p hp (List.mem_singleton.mp hI),
    ⟨⟨_, Heap.get?_push_size _ rfl, rfl, rfl⟩, hls.at fun o e => Heap.get?_push_of_some _ e⟩, F.push _, (fun p hp => ⟨Heap.get?_push_of_some _ (N p hp).1, (N p hp).2⟩), ⟨rfl, hj⟩, ?_, ?_⟩
  · rcases List.mem_cons.mp hm with e | hm
    · exact absurd F.ns.lt (e ▸ Nat.lt_irrefl _)
    · exact (N _ hl).2.1 ((List.mem_singleton.mp hm).symm)
  · rw [List.mem_singleton.mp hb]; exact next_is_new F
  · rintro i v m₁ nw s₁ own ⟨h₁, tk₁, rfl⟩ hi hP ⟨rfl, hJ⟩ hoff hown hget hfp _ F₁ N₁
    have hv : vs[i]? = some v := by simpa using hP
    have list1 : h₁.get? l = some (listOf vs.toArray nn) := (N₁ _ (List.mem_append.mpr (.inr hl))).1
    have keep : ∀ p ∈ own.filter (fun p => decide (p.1 = s.heap.objs.size)), p ∈ own ∧ p.1 = s.heap.objs.size := fun p hp => ⟨(List.mem_filter.mp hp).1, by simpa using (List.mem_filter.mp hp).2⟩
    have sep : OwnOff (own.filter fun p => decide (p.1 = s.heap.objs.size)) (nw.map (·.1)) := fun p hp b hb e => by
      obtain ⟨q, hq, rfl⟩ := List.mem_map.mp hb
      exact small q hq (by rw [← e]; exact (keep p hp).2)
    have N₂ : News h₀ env.locals h₁ (nw ++ own.filter fun p => decide (p.1 = s.heap.objs.size)) := fun p hp => by
      rcases List.mem_append.mp hp with h | h
      · exact N₁ p (List.mem_append.mpr (.inr h))
      · exact N₁ p (List.mem_append.mpr (.inl (keep p h).1))
    refine wpAny_mono (turn i v m₁ h₁ tk₁ _ hv sep hJ F₁ N₂) (fun f s₂ p => ?_) fun _ _ e => e
    have fin : InvEndN h₀ env.locals (fun m' nx => nx = nw ∧ J (i + 1) m') (own.filter fun p => decide (p.1 = s.heap.objs.size)) (nw.map (·.1)) { s with heap := h₁, toks := tk₁ } s₂ →
        LoopStepU h₀ env.locals [s.heap.objs.size] own (fun m nx => nx = nw ∧ J (i + 1) m) { s with heap := h₁, toks := tk₁ } .next s₂ := by
      rintro ⟨h', tk, m', news', nx, e, F', N', hn, ho, ha, rfl, hm⟩
      refine ⟨rfl, h', tk, m', nx, e, F', fun p hp => ?_, fun p hp hI => small p hp (List.mem_singleton.mp hI), rfl, hm⟩
      rcases List.mem_append.mp hp with h | h
      · by_cases hI : p.1 = s.heap.objs.size
        · exact N' p (ho p (List.mem_filter.mpr ⟨h, by simpa using hI⟩))
        · have h1 : p.1 = l := by
            rcases List.mem_cons.mp (hown p h) with h2 | h2
            · exact absurd h2 hI
            · exact List.mem_singleton.mp h2
          have h2 : h₁.get? p.1 = some p.2 := hget p h
          rw [h1, list1] at h2
          rw [show p = (l, listOf vs.toArray nn) from Prod.ext h1 (Option.some.inj h2).symm]
          exact N' _ (hn _ hl)
      · exact N' p (hn p h)
    cases f with
    | ret v => exact .ret p
    | brk => exact .brk p
    | next => exact .next (fin p)
    | cont => exact .cont (fin p)
  · rintro h' tk m' nw F' N' _ ⟨rfl, hJ⟩
    exact done m' h' tk hJ F' N'
theorem strs_get {vs : List Value} {ys : List Str} (h : StrsAre vs ys) : vs.length = ys.length ∧ ∀ (i : Nat) (v : Value), vs[i]? = some v → ∃ (y : Str) (t : Tok), ys[i]? = some y ∧ v = Value.str y t := by
  induction h with
  | nil => exact ⟨rfl, fun i v h => by simp at h⟩
  | cons y t h ih =>
    obtain ⟨l, f⟩ := ih
    refine ⟨by simp [l], fun i v hv => ?_⟩
    cases i with
    | zero => exact ⟨y, t, rfl, (by simpa using hv.symm)⟩
    | succ i => exact f i v (by simpa using hv)
theorem iter_strs {l : Addr} {vs : List Value} {ys : List Str} {nn : Nat} {m₀ : Str → Option Value} {news : List (Addr × Obj)} (P : Nat → Prop)
    (hh : A.handled = none) (hl : (l, listOf vs.toArray nn) ∈ news) (hS : StrsAre vs ys) (F : Fr h₀ env.locals s.heap m₀) (N : News h₀ env.locals s.heap news) (h0 : P 0)
    (turn : ∀ i y t h tk own, ys[i]? = some y → OwnOff own (news.map (·.1)) → P i → Fr h₀ env.locals h (fun z => if z = x then some (.str y t) else m₀ z) → News h₀ env.locals h (news ++ own) →
      wpAny (model prog w) A (execs body env) (InvPostN h₀ env.locals (fun m' nx => nx = news ∧ (∀ z, z ≠ x → m' z = m₀ z) ∧ P (i + 1)) own (news.map (·.1)) { s with heap := h, toks := tk } Q) E { s with heap := h, toks := tk })
    (done : ∀ (u : Str → Option Value) h tk, P ys.length → Fr h₀ env.locals h (fun z => if z = x then u z else m₀ z) → News h₀ env.locals h news → Q .next { s with heap := h, toks := tk }) :
    wpAny (model prog w) A (pyIter (.ref l)) (fun it s₂ => LoopAtV prog w A h₀ env x body Q E it s₂) E s := by
  obtain ⟨len, get⟩ := strs_get hS
  have same : ∀ {m₁ : Str → Option Value} {v : Option Value}, (∀ z, z ≠ x → m₁ z = m₀ z) → (fun z => if z = x then v else m₁ z) = fun z => if z = x then v else m₀ z := fun h => by
    funext z
    by_cases e : z = x
    · simp [e]
    · simp only [if_neg e]; exact h z e
  refine iter_led (fun i m => (∀ z, z ≠ x → m z = m₀ z) ∧ P i) hh hl F N ⟨fun _ _ => rfl, h0⟩ ?_ ?_
  · rintro i v m₁ h tk own hv hoff ⟨hm, hp⟩ F₁ N₁
    obtain ⟨y, t, hy, rfl⟩ := get i v hv
    rw [same hm] at F₁
    exact turn i y t h tk own hy hoff hp F₁ N₁
  · rintro m₁ h tk ⟨hm, hp⟩ F₁ N₁
    rw [len] at hp
    refine done m₁ h tk hp ?_ N₁
    have e : (fun z => if z = x then m₁ z else m₀ z) = m₁ := by
      funext z
      by_cases e : z = x
      · simp [e]
      · simp only [if_neg e]; exact (hm z e).symm
    rw [e]; exact F₁
end
end PartWI
section PartWV
open PySem PySem.W PyProof.Rows PySem.Calls
theorem any_one {ys : List Str} {fs : List Nat} (h : ys.map ls = fs.map fun x => [x]) (c : Nat) : ys.any (fun y => y == (⟨#[c]⟩ : Str)) = fs.contains c := by
  induction ys generalizing fs with
  | nil => cases fs with
    | nil => rfl
    | cons => simp at h
  | cons y ys ih => cases fs with
    | nil => simp at h
    | cons f fs =>
      simp only [List.map_cons, List.cons.injEq] at h
      rw [List.any_cons, List.contains_cons, ih h.2]
      congr 1
      by_cases q : c = f
      · subst q
        have : y = (⟨#[c]⟩ : Str) := ls_inj (by rw [h.1]; rfl)
        rw [this]; simp
      · have : y ≠ (⟨#[c]⟩ : Str) := fun e => q (by
          have := h.1; rw [e] at this
          exact (List.cons.inj this).1)
        rw [beq_eq_false_iff_ne.mpr this, beq_eq_false_iff_ne.mpr q]
theorem item_any {ys : List Str} {fs : List Nat} (h : ys.map ls = fs.map fun x => [x]) {x : Str} {i : Int} (h0 : 0 ≤ i) (h1 : i < (x.length : Int)) : ys.any (fun y => y == Txt.item x i) = fs.contains ((ls x).getD i.toNat 0) := by
  show ys.any (fun y => y == (⟨#[(Txt.charAt x i).getD 0]⟩ : Str)) = _
  rw [any_one h, charAt_of h0 h1]; rfl
theorem drop_get (u : List Nat) {n : Nat} (h : n < u.length) : u.drop n = u.getD n 0 :: u.drop (n + 1) := by
  rw [List.drop_eq_getElem_cons h, List.getD_eq_getElem?_getD, List.getElem?_eq_getElem h]; rfl
theorem scan_at {u : List Nat} {n : Nat} {b : Bool} (h : n < u.length) : scan n b (u.drop n) = if V (u.getD n 0) then scan (n + 1) true (u.drop (n + 1)) else if b then max 3 ((n : Int) + 1) else scan (n + 1) b (u.drop (n + 1)) := by
  rw [drop_get u h]; rfl
theorem vow_map : (["a", "e", "i", "o", "u", "y", "å", "ä", "ö"] : List Str).map ls = vowels.map fun x => [x] := by decide +kernel
theorem int_end {i j : Int} {t : Tok} (h : i = j) : ∃ t' : Tok, Value.int i t = .int j t' := ⟨t, by rw [h]⟩
/-- a function that keeps the ledger -/
noncomputable def FunC (w : World) (f : Addr) (args : List Value) (need : Nat) (post : Value → Prop) : Prop :=
  ∀ (loose : List Str) (mean : ExcName → Option Value) (mg mb : Str → Option Value) (p0 : Program)
    (dp un : Nat) (gd : Option (List Code)) (cn : Str) (cs : Scope) (a : Addr) (ccd : Value) (cl : List (Str × Addr)) (outer : List Env) (A₀ : Around) (base h₀ : Heap) (L : Addr) (m : Str → Option Value) (s : Shared) (Q E : Value → Shared → Prop) (led : List (Addr × Obj)),
    Below A₀ base outer h₀ → Fr h₀ L s.heap m → (Kf w.params).In h₀ → News h₀ L s.heap led → Top p0 loose mean mg mb h₀ → cs.kind = .function →
    dp + need < recursionLimit → un + 8 * need < cLine →
    (∀ v h' tk', post v → Fr h₀ L h' m → News h₀ L h' led → Q v { s with heap := h', toks := tk' }) →
    wpAny (MD w) (ktrTop dp un gd cn cs L a ccd cl outer) (call (.ref f) args) Q E s
/-- a function that gives back a new list of strs -/
noncomputable def FunL (w : World) (f : Addr) (items : List Str) : Prop :=
  ∀ (loose : List Str) (mean : ExcName → Option Value) (mg mb : Str → Option Value) (p0 : Program)
    (dp un : Nat) (gd : Option (List Code)) (cn : Str) (cs : Scope) (a : Addr) (ccd : Value) (cl : List (Str × Addr)) (outer : List Env) (A₀ : Around) (base h₀ : Heap) (L : Addr) (m : Str → Option Value) (s : Shared) (Q E : Value → Shared → Prop) (led : List (Addr × Obj)),
    Below A₀ base outer h₀ → Fr h₀ L s.heap m → (Kf w.params).In h₀ → News h₀ L s.heap led → Top p0 loose mean mg mb h₀ → cs.kind = .function →
    dp + 1 < recursionLimit → un + 8 < cLine →
    (∀ D vs n h' tk', StrsAre vs items → Fr h₀ L h' m → News h₀ L h' ((D, W.listOf vs.toArray n) :: led) → Q (.ref D) { s with heap := h', toks := tk' }) →
    wpAny (MD w) (ktrTop dp un gd cn cs L a ccd cl outer) (call (.ref f) []) Q E s
theorem law_vowels_spec {w : World} : FunL w 516 ["a", "e", "i", "o", "u", "y", "å", "ä", "ö"] := by
  unfold FunL MD
  k_fill
  intro loose mean mg mb p0 dp un gd cn cs a ccd cl outer A₀ base h₀ L m s Q E led B F X N T hk hd hu hret
  refine wpAny_call ?_
  k_dflt (refine' code_def (binds := []) ?k1 ?k2 ?k3 ?k4 ?k5 ?kA ?kF ?kK ?k6 ?k7 ?k8 ?k9 ?kB ?_ ?c2 ?c3 ?c4 ?c5; (case kA | kF => exact rfl); (case kK => assumption); (case k1 | k2 | k3 | k4 | k5 => k_asm); (case k6 | k7 => k_is); (case k8 => ktr_room); (case k9 => exact BindsTo.of_eq rfl); (case c5 => decide); (case kB => exact locs rfl); (case c2 | c3 | c4 => exact rfl))
  intro g' L' h' FG' F' N' B' X' T'
  ((conv in (execs _ _) => arg 1; whnf); (try dsimp only); (show wpAny _ _ (execs _ _) _ _ _); k_fold)
  k_steps
  all_goals (refine hret _ _ _ _ _ ?_ (by assumption) (by assumption); repeat constructor)
theorem law_start_spec {w : World} {wd : Str} {tw : Tok} (h3 : wd.length < 100) :
    FunC w 559 [.str wd tw] 2 (fun v => ∃ t, v = .int (lawStart (ls wd)) t) := by
  unfold FunC MD
  k_fill
  intro loose mean mg mb p0 dp un gd cn cs a ccd cl outer A₀ base h₀ L m s Q E led B F X N T hk hd hu hret
  refine wpAny_call ?_
  k_dflt (refine' code_def (binds := [("word", .str wd tw)]) ?k1 ?k2 ?k3 ?k4 ?k5 ?kA ?kF ?kK ?k6 ?k7 ?k8 ?k9 ?kB ?_ ?c2 ?c3 ?c4 ?c5; (case kA | kF => exact rfl); (case kK => assumption); (case k1 | k2 | k3 | k4 | k5 => k_asm); (case k6 | k7 => k_is); (case k8 => ktr_room); (case k9 => exact BindsTo.of_eq rfl); (case c5 => decide); (case kB => exact locs rfl); (case c2 | c3 | c4 => exact rfl))
  intro g' L' h' FG' F' N' B' X' T'
  ((conv in (execs _ _) => arg 1; whnf); (try dsimp only); (show wpAny _ _ (execs _ _) _ _ _); k_fold)
  (repeat' (first | (k_unfold; (try dsimp only)) | (k_end; wrow_close) | with_reducible ((with_reducible show wpAny _ _ (pyIter (Value.ref _)) _ _ _); (refine Stop.intro ?_)) | walk1 | (dsimp only; walk1) | (leave1; try dsimp only) | fail))
  · refine hret _ _ _ (int_end ?_) (by assumption) (by assumption)
    unfold lawStart
    rw [ls_len, if_pos (by omega)]
  unfold Stop
  rename (IsRange _ _ _ _ _ _ _ _) => R9
  rename (Fr _ _ _ _) => F9
  rename (News _ _ _ _) => N9
  have hs0 : lawStart (ls wd) = scan 0 false (ls wd) := by unfold lawStart; rw [ls_len, if_neg (by omega)]
  refine kst_range (σ := Bool) (n := wd.length) (fun _ => led) (fun d => [("seen", .bool d)]) (fun _ => True) [] (fun pre d => lawStart (ls wd) = scan pre.length d ((ls wd).drop pre.length)) false rfl R9 (by first | exact small_one (by omega) (by omega) (by omega) (by omega) | omega) (by first | exact rangeSize_nat _ _ | omega) F9 N9 trivial (List.forall_mem_cons.mpr ⟨rfl, (fun _ h => nomatch h)⟩) hs0 ?_ ?_
  · rintro seen pre k2 t u h9 tk9 own ek3 hlen hoff _ p1 F9 N9
    try dsimp only at p1
    try dsimp only at F9
    try dsimp only at N9
    k_fold
    have hu := ls_len wd
    rw [scan_at (by omega)] at p1
    have e0 : k2.toNat = pre.length := by omega
    (repeat' (first | (k_unfold; (try dsimp only)) | (k_end; wrow_close) | ((with_reducible show wpAny _ _ (call (Value.ref _) _ _) _ _ _); ((with_reducible show wpAny _ _ (call (Value.ref 516) _) _ _ _); k_dflt (refine' law_vowels_spec _ _ _ _ _ _ _ _ _ _ _ _ _ _ _ _ _ _ _ _ _ _ _ ?kB ?kF ?kX ?kN ?kT ?kk ?kd ?ku ?_); (case kB | kF | kX | kN | kT => k_asm); (case kk => first | exact rfl | assumption); (case kd => ktr_room); (case ku => ktr_units); intro D9q v9q n9q h9q tk9q S9q F9q N9q; (try k_sweep))) | walk1 | (dsimp only; walk1) | (leave1; try dsimp only) | fail))
    all_goals (rename (List.any _ _ = _) => hv; rw [item_any vow_map (by omega) (by omega), e0] at hv)
    all_goals (change V _ = _ at hv)
    all_goals (rw [hv] at p1; try simp only [if_true, Bool.false_eq_true, if_false] at p1)
    · rename (Fr _ _ _ _) => F8
      rename (News _ _ _ _) => N8
      exact kst_end true F8 N8 (fun p hp => .tail _ (List.mem_append_left _ hp)) (fun p hp => .tail _ (List.mem_append_right _ hp)) rfl trivial (List.forall_mem_cons.mpr ⟨rfl, (fun _ h => nomatch h)⟩) (by intro z z1 z2 z3; have d1 := z2 _ (.head _); simp only [kstB, if_neg z1, if_neg d1, List.contains_nil, Bool.false_eq_true, if_false]) (by rw [List.length_append]; exact p1)
    · rename (seen = true) => hsn
      rw [hsn] at p1
      simp only [if_true] at p1
      refine hret _ _ _ (int_end ?_) (by assumption) ?_
      · rw [p1]; split <;> omega
      · rename (News _ _ _ _) => N8
        exact fun p hp => N8 p (.tail _ (List.mem_append_left _ hp))
    · rename (seen = false) => hsn
      rw [hsn] at p1
      simp only [Bool.false_eq_true, if_false] at p1
      rename (Fr _ _ _ _) => F8
      rename (News _ _ _ _) => N8
      rw [hsn] at F8
      exact kst_end false F8 N8 (fun p hp => .tail _ (List.mem_append_left _ hp)) (fun p hp => .tail _ (List.mem_append_right _ hp)) rfl trivial (List.forall_mem_cons.mpr ⟨rfl, (fun _ h => nomatch h)⟩) (by intro z z1 z2 z3; have d1 := z2 _ (.head _); simp only [kstB, if_neg z1, if_neg d1, List.contains_nil, Bool.false_eq_true, if_false]) (by rw [List.length_append]; exact p1)
  · rintro seen u h9 tk9 _ p1 F9 N9
    try dsimp only at p1
    try dsimp only at F9
    try dsimp only at N9
    rw [rangeKs_length, ← ls_len, List.drop_length] at p1
    k_steps
    refine hret _ _ _ (int_end ?_) (by assumption) (by assumption)
    rw [p1]; rfl
end PartWV
section PartWG
open PySem PySem.W PyProof.Rows PySem.Calls
/-- a list of strs, in the heap -/
noncomputable def GL (h : Heap) (a : Addr) (ys : List Str) : Prop := ∃ vs : List Value, h.IsList a vs.toArray ∧ StrsAre vs ys
theorem strs_app {vs ws : List Value} {xs ys : List Str} (h : StrsAre vs xs) (k : StrsAre ws ys) : StrsAre (vs ++ ws) (xs ++ ys) := by
  induction h with
  | nil => exact k
  | cons y t _ ih => exact .cons y t ih
section
variable {prog : Program} {w : World} {A : Around} {E : Value → Shared → Prop} {s : Shared} {h₀ : Heap} {L a b : Addr} {m : Str → Option Value} {news : List (Addr × Obj)} {xs ys : List Str} {Q : Value → Shared → Prop}
theorem GL.keeps {h : Heap} (G : GL h₀ a xs) (k : ∀ b o, h₀.get? b = some o → h.get? b = some o) : GL h a xs := let ⟨vs, ⟨o, ho, r⟩, hs⟩ := G; ⟨vs, ⟨o, k _ _ ho, r⟩, hs⟩
theorem GL.of_news {vs : List Value} {n : Nat} (N : News h₀ L s.heap news) (hm : (a, W.listOf vs.toArray n) ∈ news) (hs : StrsAre vs xs) : GL s.heap a xs := ⟨vs, News.isList N hm, hs⟩
theorem add_strs (F : Fr h₀ L s.heap m) (N : News h₀ L s.heap news) (ha : GL s.heap a xs) (hb : GL s.heap b ys)
    (h : ∀ D us h', Fr h₀ L h' m → News h₀ L h' ((D, W.listOf (List.toArray us) 0) :: news) → StrsAre us (xs ++ ys) → Q (.ref D) { s with heap := h' })
    (hz : xs.length + ys.length ≤ 1000) : wpAny (model prog w) A (binaryOp .Add (.ref a) (.ref b)) Q E s := by
  obtain ⟨vs, hl, hs⟩ := ha
  obtain ⟨ws, hl', hs'⟩ := hb
  refine add_lists F N hl hl' (fun h' F' N' => h _ _ h' F' N' (strs_app hs hs')) ?_
  rw [(strs_get hs).1, (strs_get hs').1]
  exact Nat.le_trans hz (by rw [PySem.sizeLine_eq]; decide)
end
noncomputable def Lforms : List Str := ["heterna", "hetens", "heten", "heter", "het", "arna", "arnas", "arne", "aren", "arens", "are", "ar", "orna", "ornas", "or", "ernas", "ern", "erns", "ande", "anden", "andes", "andet", "ade", "ades", "ad", "at", "ast", "aste"]
theorem gl_545 {P : Params} {h : Heap} (X : (Kf P).In h) : GL h 545 Lforms := by
  refine ⟨[.str "heterna" 1665, .str "hetens" 1666, .str "heten" 1667, .str "heter" 1668, .str "het" 1669, .str "arna" 1670, .str "arnas" 1671, .str "arne" 1672, .str "aren" 1673, .str "arens" 1674, .str "are" 1675, .str "ar" 1676, .str "orna" 1677, .str "ornas" 1678, .str "or" 1679, .str "ernas" 1680, .str "ern" 1681, .str "erns" 1682, .str "ande" 1683, .str "anden" 1684, .str "andes" 1685, .str "andet" 1686, .str "ade" 1687, .str "ades" 1688, .str "ad" 1689, .str "at" 1690, .str "ast" 1691, .str "aste" 1692], ⟨_, X 545 ⟨.type "list", none, .seq #[.str "heterna" 1665, .str "hetens" 1666, .str "heten" 1667, .str "heter" 1668, .str "het" 1669, .str "arna" 1670, .str "arnas" 1671, .str "arne" 1672, .str "aren" 1673, .str "arens" 1674, .str "are" 1675, .str "ar" 1676, .str "orna" 1677, .str "ornas" 1678, .str "or" 1679, .str "ernas" 1680, .str "ern" 1681, .str "erns" 1682, .str "ande" 1683, .str "anden" 1684, .str "andes" 1685, .str "andet" 1686, .str "ade" 1687, .str "ades" 1688, .str "ad" 1689, .str "at" 1690, .str "ast" 1691, .str "aste" 1692] 0, #[]⟩ (by kernel_rfl!), rfl, _, rfl⟩, ?_⟩
  unfold Lforms
  repeat constructor
noncomputable def Loften : List Str := ["ets", "a", "s", "et", "k", "lig", "t", "en", "å", "els", "r", "gt", "i", "öst", "e", "n", "fullt", "h", "ö", "d"]
theorem gl_546 {P : Params} {h : Heap} (X : (Kf P).In h) : GL h 546 Loften := by
  refine ⟨[.str "ets" 1694, .str "a" 1695, .str "s" 1696, .str "et" 1697, .str "k" 1698, .str "lig" 1699, .str "t" 1700, .str "en" 1701, .str "å" 1702, .str "els" 1703, .str "r" 1704, .str "gt" 1705, .str "i" 1706, .str "öst" 1707, .str "e" 1708, .str "n" 1709, .str "fullt" 1710, .str "h" 1711, .str "ö" 1712, .str "d" 1713], ⟨_, X 546 ⟨.type "list", none, .seq #[.str "ets" 1694, .str "a" 1695, .str "s" 1696, .str "et" 1697, .str "k" 1698, .str "lig" 1699, .str "t" 1700, .str "en" 1701, .str "å" 1702, .str "els" 1703, .str "r" 1704, .str "gt" 1705, .str "i" 1706, .str "öst" 1707, .str "e" 1708, .str "n" 1709, .str "fullt" 1710, .str "h" 1711, .str "ö" 1712, .str "d" 1713] 0, #[]⟩ (by kernel_rfl!), rfl, _, rfl⟩, ?_⟩
  unfold Loften
  repeat constructor
noncomputable def Lrest : List Str := ["b", "c", "f", "g", "j", "l", "m", "o", "p", "q", "u", "v", "w", "x", "y", "z", "ä"]
theorem gl_547 {P : Params} {h : Heap} (X : (Kf P).In h) : GL h 547 Lrest := by
  refine ⟨[.str "b" 1715, .str "c" 1716, .str "f" 1717, .str "g" 1718, .str "j" 1719, .str "l" 1720, .str "m" 1721, .str "o" 1722, .str "p" 1723, .str "q" 1724, .str "u" 1725, .str "v" 1726, .str "w" 1727, .str "x" 1728, .str "y" 1729, .str "z" 1730, .str "ä" 1731], ⟨_, X 547 ⟨.type "list", none, .seq #[.str "b" 1715, .str "c" 1716, .str "f" 1717, .str "g" 1718, .str "j" 1719, .str "l" 1720, .str "m" 1721, .str "o" 1722, .str "p" 1723, .str "q" 1724, .str "u" 1725, .str "v" 1726, .str "w" 1727, .str "x" 1728, .str "y" 1729, .str "z" 1730, .str "ä" 1731] 0, #[]⟩ (by kernel_rfl!), rfl, _, rfl⟩, ?_⟩
  unfold Lrest
  repeat constructor
noncomputable def Lsigns : List Str := ["é", "Å", "E", "æ", "ø", "ü", "-", "7"]
theorem gl_548 {P : Params} {h : Heap} (X : (Kf P).In h) : GL h 548 Lsigns := by
  refine ⟨[.str "é" 1733, .str "Å" 1734, .str "E" 1735, .str "æ" 1736, .str "ø" 1737, .str "ü" 1738, .str "-" 1739, .str "7" 1740], ⟨_, X 548 ⟨.type "list", none, .seq #[.str "é" 1733, .str "Å" 1734, .str "E" 1735, .str "æ" 1736, .str "ø" 1737, .str "ü" 1738, .str "-" 1739, .str "7" 1740] 0, #[]⟩ (by kernel_rfl!), rfl, _, rfl⟩, ?_⟩
  unfold Lsigns
  repeat constructor
noncomputable def Lbegins : List Str := ["hus", "land", "flick", "arbet", "rätt", "nyhet"]
theorem gl_549 {P : Params} {h : Heap} (X : (Kf P).In h) : GL h 549 Lbegins := by
  refine ⟨[.str "hus" 1742, .str "land" 1743, .str "flick" 1744, .str "arbet" 1745, .str "rätt" 1746, .str "nyhet" 1747], ⟨_, X 549 ⟨.type "list", none, .seq #[.str "hus" 1742, .str "land" 1743, .str "flick" 1744, .str "arbet" 1745, .str "rätt" 1746, .str "nyhet" 1747] 0, #[]⟩ (by kernel_rfl!), rfl, _, rfl⟩, ?_⟩
  unfold Lbegins
  repeat constructor
noncomputable def Lends : List Str := ["erna", "ens", "er", "as", "es"]
theorem gl_550 {P : Params} {h : Heap} (X : (Kf P).In h) : GL h 550 Lends := by
  refine ⟨[.str "erna" 1749, .str "ens" 1750, .str "er" 1751, .str "as" 1752, .str "es" 1753], ⟨_, X 550 ⟨.type "list", none, .seq #[.str "erna" 1749, .str "ens" 1750, .str "er" 1751, .str "as" 1752, .str "es" 1753] 0, #[]⟩ (by kernel_rfl!), rfl, _, rfl⟩, ?_⟩
  unfold Lends
  repeat constructor
noncomputable def Lpairs : List Str := ["dd", "gd", "nn", "dt", "gt", "kt", "tt"]
theorem gl_551 {P : Params} {h : Heap} (X : (Kf P).In h) : GL h 551 Lpairs := by
  refine ⟨[.str "dd" 1755, .str "gd" 1756, .str "nn" 1757, .str "dt" 1758, .str "gt" 1759, .str "kt" 1760, .str "tt" 1761], ⟨_, X 551 ⟨.type "list", none, .seq #[.str "dd" 1755, .str "gd" 1756, .str "nn" 1757, .str "dt" 1758, .str "gt" 1759, .str "kt" 1760, .str "tt" 1761] 0, #[]⟩ (by kernel_rfl!), rfl, _, rfl⟩, ?_⟩
  unfold Lpairs
  repeat constructor
noncomputable def Lthird : List Str := ["lig", "ig", "els", "öst", "fullt"]
theorem gl_552 {P : Params} {h : Heap} (X : (Kf P).In h) : GL h 552 Lthird := by
  refine ⟨[.str "lig" 1763, .str "ig" 1764, .str "els" 1765, .str "öst" 1766, .str "fullt" 1767], ⟨_, X 552 ⟨.type "list", none, .seq #[.str "lig" 1763, .str "ig" 1764, .str "els" 1765, .str "öst" 1766, .str "fullt" 1767] 0, #[]⟩ (by kernel_rfl!), rfl, _, rfl⟩, ?_⟩
  unfold Lthird
  repeat constructor
end PartWG
section PartWC
open PySem PySem.W PyProof.Rows PyProof.Rows.LCg PySem.Calls PySem.Spec
section
variable {prog : Program} {w : World} {A : Around} {E : Value → Shared → Prop} {s : Shared} {h₀ : Heap} {L : Addr} {m : Str → Option Value} {env : Env} {elt iter : Expr} {x : Str} {scope : Scope} {cl : List (Str × Addr)} {S : List (Addr × Obj) → Prop} {Fin : List Value → List (Addr × Obj) → Prop}
  {its : List Value} {ys : List Str} {f : Str → Str} {led : List (Addr × Obj)}
theorem strs_snoc {vs : List Value} {xs : List Str} {y : Str} {t : Tok} (h : StrsAre vs xs) : StrsAre (vs ++ [.str y t]) (xs ++ [y]) := strs_app h (.cons y t .nil)
/-- the turns of a list comprehension over strs whose element is a str and changes nothing -/
theorem comp_map (hS : S led) (hi : StrsAre its ys)
    (helt : ∀ y t C oC m₂ h tk (E' : Value → Shared → Prop), y ∈ ys → NsObj oC m₂ → m₂ x = some (.str y t) → h.get? C = some oC → (∀ p ∈ led, h.get? p.1 = some p.2) →
      wpAny (model prog w) A (eval elt (compEnvC scope cl C env)) (fun v s₂ => ∃ t' tk', v = .str (f y) t' ∧ s₂ = { s with heap := h, toks := tk' }) E' { s with heap := h, toks := tk })
    (fin : ∀ zs, StrsAre zs (ys.map f) → Fin zs led) :
    ∀ k i zs, i + k = ys.length → StrsAre zs ((ys.take i).map f) → CompRest prog w A h₀ L m env elt x scope cl s S (fun i v => its.toArray[i]? = some v) Fin k i zs led := by
  intro k
  induction k with
  | zero =>
    intro i zs e hz
    rw [List.take_of_length_le (by omega)] at hz
    exact CompRest.zero (fin zs hz)
  | succ k ih =>
    intro i zs e hz
    refine CompRest.succ fun v I oI C oC D m₂ h tk E' hv hC hx F N off hd => ?_
    obtain ⟨y, t, hy, rfl⟩ := (strs_get hi).2 i v (by simpa using hv)
    refine wpAny_mono (helt y t C oC m₂ h tk E' (List.mem_of_getElem? hy) hC hx (N (C, oC) (.tail _ (.head _))).1 fun p hp => (N p (.tail _ (.tail _ (.tail _ hp)))).1) (fun v s₂ q => ?_) fun _ _ e => e
    obtain ⟨t', tk', rfl, rfl⟩ := q
    refine CompEnd.intro F N led (fun p hp => hp) off hS (ih (i + 1) _ (by omega) ?_)
    rw [List.take_add_one, hy, List.map_append]
    exact strs_snoc hz
end
end PartWC
section PartWC2
open PySem PySem.W PyProof.Rows PyProof.Rows.LCg PyProof.Rows.LCt PySem.Calls PySem.Spec
section
variable {prog : Program} {w : World} {A : Around} {E : Value → Shared → Prop} {s : Shared} {h₀ : Heap} {L : Addr} {m : Str → Option Value} {env : Env} {ct elt iter : PySem.Expr} {x : Str} {scope : Scope} {cl : List (Str × Addr)} {S : List (Addr × Obj) → Prop} {Fin : List Value → List (Addr × Obj) → Prop}
  {its : List Value} {ys : List Str} {f : Str → Bool} {led : List (Addr × Obj)}
/-- the turns of a list comprehension over strs with one test, the str itself taken -/
theorem comp_filter (hS : S led) (hi : StrsAre its ys)
    (htest : ∀ y t C oC m₂ h tk (E' : Value → Shared → Prop), y ∈ ys → NsObj oC m₂ → m₂ x = some (.str y t) → h.get? C = some oC → (∀ p ∈ led, h.get? p.1 = some p.2) → Fr h₀ L h m → News h₀ L h led →
      wpAny (model prog w) A (isTrue ct (compEnvC scope cl C env) (eval ct (compEnvC scope cl C env))) (fun ok s₂ => ok = f y ∧ ∃ tk', s₂ = { s with heap := h, toks := tk' }) E' { s with heap := h, toks := tk })
    (helt : ∀ y t C oC m₂ h tk (E' : Value → Shared → Prop), y ∈ ys → NsObj oC m₂ → m₂ x = some (.str y t) → h.get? C = some oC →
      wpAny (model prog w) A (eval elt (compEnvC scope cl C env)) (fun v s₂ => v = .str y t ∧ ∃ tk', s₂ = { s with heap := h, toks := tk' }) E' { s with heap := h, toks := tk })
    (fin : ∀ zs, StrsAre zs (ys.filter f) → Fin zs led) :
    ∀ k i zs, i + k = ys.length → StrsAre zs ((ys.take i).filter f) → CompRestT prog w A h₀ L m env ct elt x scope cl s S (fun i v => its.toArray[i]? = some v) Fin k i zs led := by
  intro k
  induction k with
  | zero =>
    intro i zs e hz
    rw [List.take_of_length_le (by omega)] at hz
    exact CompRestT.zero (fin zs hz)
  | succ k ih =>
    intro i zs e hz
    refine CompRestT.succ fun v I oI C oC D m₂ h tk E' hv hC hx F N off hd => ?_
    obtain ⟨y, t, hy, rfl⟩ := (strs_get hi).2 i v (by simpa using hv)
    have hled : ∀ p ∈ led, h.get? p.1 = some p.2 := fun p hp => (N p (.tail _ (.tail _ (.tail _ hp)))).1
    have hgC := (N (C, oC) (.tail _ (.head _))).1
    have hmem := List.mem_of_getElem? hy
    refine wpAny_mono (htest y t C oC m₂ h tk E' hmem hC hx hgC hled F (fun p hp => N p (.tail _ (.tail _ (.tail _ hp))))) (fun ok s₂ q => ?_) fun _ _ e => e
    obtain ⟨rfl, tk', rfl⟩ := q
    cases hf : f y with
    | false =>
      rw [if_neg (by decide)]
      refine CompEnd.intro F N led (fun p hp => hp) off hS (ih (i + 1) _ (by omega) ?_)
      rw [List.take_add_one, hy, List.filter_append]
      have : ((some y).toList.filter f) = [] := by simp [hf]
      rw [this, List.append_nil]
      exact hz
    | true =>
      rw [if_pos rfl]
      refine wpAny_mono (helt y t C oC m₂ h tk' E' hmem hC hx hgC) (fun v s₂ q => ?_) fun _ _ e => e
      obtain ⟨rfl, tk2, rfl⟩ := q
      refine CompEnd.intro F N led (fun p hp => hp) off hS (ih (i + 1) _ (by omega) ?_)
      rw [List.take_add_one, hy, List.filter_append]
      have : ((some y).toList.filter f) = [y] := by simp [hf]
      rw [this]
      exact strs_snoc hz
end
end PartWC2
section PartWE
open PySem PySem.W PyProof.Rows PySem.Calls PySem.Spec
theorem st_can : ∀ xs : List Str, (∀ x ∈ xs, PyData.strOk x = true) → PyData.canLayAll0 (xs.map PyData.str) = true
  | [], _ => rfl
  | x :: r, h => by simp [PyData.canLayAll0, PyData.canLay0, st_can r fun y hy => h y (.tail _ hy), h x (.head _)]
theorem st_depth : ∀ xs : List Str, PyData.depthAll (xs.map PyData.str) = 0
  | [] => rfl
  | _ :: r => by simp [PyData.depthAll, PyData.depth, st_depth r]
theorem st_shaped (xs : List Str) (h : ∀ x ∈ xs, PyData.strOk x = true) : SeqAt.shaped (.list (xs.map PyData.str)) = true := by
  simp [SeqAt.shaped, PyData.canLay0, PyData.depth, st_can xs h, st_depth]
theorem st_sameAll : ∀ xs ys : List Str, PySem.Spec.sameAll (xs.map PyData.str) (ys.map PyData.str) = decide (xs = ys)
  | [], [] => by simp [PySem.Spec.sameAll]
  | [], _ :: _ => by simp [PySem.Spec.sameAll]
  | _ :: _, [] => by simp [PySem.Spec.sameAll]
  | a :: r, b :: t => by
    simp only [List.map_cons, PySem.Spec.sameAll, PySem.Spec.same, st_sameAll r t]
    by_cases h : a = b <;> by_cases h' : r = t <;> simp [h, h']
theorem st_same (xs ys : List Str) : PySem.Spec.same (.list (xs.map PyData.str)) (.list (ys.map PyData.str)) = decide (xs = ys) := by
  simp only [PySem.Spec.same]; exact st_sameAll xs ys
theorem st_carried : ∀ {vs : List Value} {xs : List Str}, StrsAre vs xs → CarriedAll vs (xs.map PyData.str)
  | _, _, .nil => .nil
  | _, _, .cons _ t r => .cons (.str _ t) (st_carried r)
section
variable {prog : Program} {w : World} {A : Around} {E : Value → Shared → Prop} {s : Shared} {a b : Addr} {vs us : List Value} {xs ys : List Str} {Q : Value → Shared → Prop}
theorem ne_strs (ha : s.heap.IsList a vs.toArray) (hb : s.heap.IsList b us.toArray) (hi : StrsAre vs xs) (hj : StrsAre us ys) (ox : ∀ x ∈ xs, PyData.strOk x = true) (oy : ∀ x ∈ ys, PyData.strOk x = true) (hu : A.units + 64 < cLine) (h : Q (.bool (!decide (xs = ys))) s) :
    wpAny (model prog w) A (compareOp .NotEq (.ref a) (.ref b)) Q E s :=
  ne_dataH_same (reads_newData ha (st_carried hi)) (reads_newData hb (st_carried hj)) (st_shaped _ ox) (st_shaped _ oy) hu (SeqAt.noMix_of_shape (.list .str) rfl _ _ (list_map_has fun _ => rfl) (list_map_has fun _ => rfl)) (by rw [st_same]; exact h)
theorem eq_strs_same (ha : s.heap.IsList a vs.toArray) (hb : s.heap.IsList b us.toArray) (hi : StrsAre vs xs) (hj : StrsAre us xs) (hu : A.units < cLine) (h : Q (.bool true) s) :
    wpAny (model prog w) A (compareOp .Eq (.ref a) (.ref b)) Q E s := by
  have l1 := (strs_get hi).1
  have l2 := (strs_get hj).1
  refine PySem.SeqAt.eq_listAt (e := fun _ => true) ha hb (by rw [List.size_toArray, List.size_toArray, l1, l2]) hu (fun j h1 h2 => ?_) (by rw [show ((List.range vs.toArray.size).all fun _ => true) = true by simp]; exact h)
  rw [List.size_toArray] at h1 h2
  obtain ⟨y, t, hy, ey⟩ := (strs_get hi).2 j vs[j] (List.getElem?_eq_getElem h1)
  obtain ⟨z, u, hz, ez⟩ := (strs_get hj).2 j us[j] (List.getElem?_eq_getElem h2)
  have : y = z := by rw [hy] at hz; exact Option.some.inj hz
  subst this
  have e1 : vs.toArray[j] = .str y t := by rw [List.getElem_toArray]; exact ey
  have e2 : us.toArray[j] = .str y u := by rw [List.getElem_toArray]; exact ez
  rw [e1, e2]
  have := PySem.SeqAt.EqAt.str_str (A := A.in1) (s := s) y t y u
  rwa [beq_self_eq_true] at this

end
end PartWE
section PartWR
open PySem PySem.W PyProof.Rows PySem.Calls
theorem rests_eq {u : List Nat} (z0 : 0 ≤ lawStart u) : rests u = restsR u.reverse (u.length - (lawStart u).toNat) := by unfold rests; rw [if_neg (by omega)]
section
variable {u : List Nat} (z0 : 0 ≤ lawStart u)
include z0
theorem rs_0 (h : loose.any (fun e => e.isPrefixOf (u.reverse.take (u.length - (lawStart u).toNat))) = true) : rests u = false := by
  rw [rests_eq z0]; unfold restsR; rw [if_pos h]
theorem rs_1 (h0 : loose.any (fun e => e.isPrefixOf (u.reverse.take (u.length - (lawStart u).toNat))) = false) (h : (([115] : List Nat).isPrefixOf (u.reverse.take (u.length - (lawStart u).toNat)) && SE (u.reverse.getD 1 0)) = true) : rests u = false := by
  rw [rests_eq z0]; unfold restsR; rw [if_neg (by rw [h0]; decide), if_pos h]
theorem rs_2 (h0 : loose.any (fun e => e.isPrefixOf (u.reverse.take (u.length - (lawStart u).toNat))) = false) (h1 : (([115] : List Nat).isPrefixOf (u.reverse.take (u.length - (lawStart u).toNat)) && SE (u.reverse.getD 1 0)) = false)
    (h : (([116, 115, 246] : List Nat).isPrefixOf (u.reverse.take (u.length - (lawStart u).toNat)) && OE (u.reverse.getD 3 0)) = true) : rests u = false := by
  rw [rests_eq z0]; unfold restsR; rw [if_neg (by rw [h0]; decide), if_neg (by rw [h1]; decide), if_pos h]
theorem rs_3 (h0 : loose.any (fun e => e.isPrefixOf (u.reverse.take (u.length - (lawStart u).toNat))) = false) (h1 : (([115] : List Nat).isPrefixOf (u.reverse.take (u.length - (lawStart u).toNat)) && SE (u.reverse.getD 1 0)) = false)
    (h2 : (([116, 115, 246] : List Nat).isPrefixOf (u.reverse.take (u.length - (lawStart u).toNat)) && OE (u.reverse.getD 3 0)) = false) :
    rests u = if (([116, 101] : List Nat).isPrefixOf (u.reverse.take (u.length - (lawStart u).toNat)) && !V (u.reverse.getD 2 0) && V (u.reverse.getD 3 0)) = true then stays.any (fun e => (116 :: 101 :: e).isPrefixOf u.reverse) else true := by
  rw [rests_eq z0]; unfold restsR; rw [if_neg (by rw [h0]; decide), if_neg (by rw [h1]; decide), if_neg (by rw [h2]; decide)]
end
structure Mark3 : Prop where
  out : True
theorem ends_len {x y : Str} {i : Int} (h0 : 0 ≤ i) (h1 : i ≤ x.length) (h : Txt.endswith (Txt.slice x (some i) none) y = true) : (y.length : Int) ≤ x.length - i := by
  rw [ls_ends, ls_from h0 h1] at h
  have := (List.isPrefixOf_iff_prefix.mp h).length_le
  rw [List.length_reverse, List.length_reverse, List.length_drop, ls_len, ls_len] at this
  omega
theorem ends_pre {x y : Str} {i : Int} (h0 : 0 ≤ i) (h1 : i ≤ x.length) : Txt.endswith (Txt.slice x (some i) none) y = (ls y).reverse.isPrefixOf ((ls x).reverse.take ((ls x).length - i.toNat)) := by
  rw [ls_ends, ls_from h0 h1, List.reverse_drop]
theorem lo_any {wd : Str} (z0 : 0 ≤ lawStart (ls wd)) (z1 : lawStart (ls wd) ≤ wd.length) : (["a", "e", "en", "ern", "ar", "er", "or", "ad", "at", "ast", "het", "andet", "as", "es", "dd", "gd", "nn", "dt", "gt", "kt", "tt", "ig", "fullt"] : List Str).any (fun y => Txt.endswith (Txt.slice wd (some (lawStart (ls wd))) none) y) = loose.any (fun e => e.isPrefixOf ((ls wd).reverse.take ((ls wd).length - (lawStart (ls wd)).toNat))) := by
  have hm : (["a", "e", "en", "ern", "ar", "er", "or", "ad", "at", "ast", "het", "andet", "as", "es", "dd", "gd", "nn", "dt", "gt", "kt", "tt", "ig", "fullt"] : List Str).map (fun y => (ls y).reverse) = loose := by decide +kernel
  rw [← hm, List.any_map]
  congr 1
  funext y
  exact ends_pre z0 z1
theorem eS {wd : Str} (z0 : 0 ≤ lawStart (ls wd)) (z1 : lawStart (ls wd) ≤ wd.length) : Txt.endswith (Txt.slice wd (some (lawStart (ls wd))) none) "s" = ([115] : List Nat).isPrefixOf ((ls wd).reverse.take ((ls wd).length - (lawStart (ls wd)).toNat)) := by
  rw [ends_pre z0 z1, show (ls (Str.ofString "s")).reverse = [115] by decide +kernel]
theorem eO {wd : Str} (z0 : 0 ≤ lawStart (ls wd)) (z1 : lawStart (ls wd) ≤ wd.length) : Txt.endswith (Txt.slice wd (some (lawStart (ls wd))) none) "öst" = ([116, 115, 246] : List Nat).isPrefixOf ((ls wd).reverse.take ((ls wd).length - (lawStart (ls wd)).toNat)) := by
  rw [ends_pre z0 z1, show (ls (Str.ofString "öst")).reverse = [116, 115, 246] by decide +kernel]
theorem eE {wd : Str} (z0 : 0 ≤ lawStart (ls wd)) (z1 : lawStart (ls wd) ≤ wd.length) : Txt.endswith (Txt.slice wd (some (lawStart (ls wd))) none) "et" = ([116, 101] : List Nat).isPrefixOf ((ls wd).reverse.take ((ls wd).length - (lawStart (ls wd)).toNat)) := by
  rw [ends_pre z0 z1, show (ls (Str.ofString "et")).reverse = [116, 101] by decide +kernel]
theorem rget {u : List Nat} {i : Nat} (hi : i < u.length) {k : Int} (hk : k = (u.length : Int) - (i + 1 : Nat)) : u.reverse.getD i 0 = u.getD k.toNat 0 := by
  rw [rev_getD _ _ hi]; congr 1; omega
theorem mS : (["b", "c", "d", "f", "g", "h", "j", "k", "l", "m", "n", "o", "p", "r", "t", "v", "y"] : List Str).map ls = befS.map fun x => [x] := by decide +kernel
theorem mO : (["i", "k", "l", "n", "p", "r", "t", "u", "v"] : List Str).map ls = befO.map fun x => [x] := by decide +kernel
theorem gS {wd : Str} (h : 2 ≤ wd.length) : (["b", "c", "d", "f", "g", "h", "j", "k", "l", "m", "n", "o", "p", "r", "t", "v", "y"] : List Str).any (fun y => y == Txt.item wd ((wd.length : Int) - 2)) = SE ((ls wd).reverse.getD 1 0) := by
  rw [item_any mS (by omega) (by omega), rget (k := (wd.length : Int) - 2) (by rw [ls_len]; omega) (by rw [ls_len]; omega)]; rfl
theorem gO {wd : Str} (h : 4 ≤ wd.length) : (["i", "k", "l", "n", "p", "r", "t", "u", "v"] : List Str).any (fun y => y == Txt.item wd ((wd.length : Int) - 4)) = OE ((ls wd).reverse.getD 3 0) := by
  rw [item_any mO (by omega) (by omega), rget (k := (wd.length : Int) - 4) (by rw [ls_len]; omega) (by rw [ls_len]; omega)]; rfl
theorem gV {wd : Str} {k : Nat} (h : k + 1 ≤ wd.length) {i : Int} (hi : i = (wd.length : Int) - (k + 1 : Nat)) : (["a", "e", "i", "o", "u", "y", "å", "ä", "ö"] : List Str).any (fun y => y == Txt.item wd i) = V ((ls wd).reverse.getD k 0) := by
  rw [item_any vow_map (by omega) (by omega), rget (k := i) (by rw [ls_len]; omega) (by rw [ls_len]; omega)]; rfl
noncomputable def Lstays : List Str := ["fab", "h", "pak", "rak", "stak", "kom", "iet", "cit", "dit", "alit", "ilit", "mit", "nit", "pit", "rit", "sit", "tit", "uit", "ivit", "kvit", "xit"]
theorem rests_stays {wd : Str} : (!decide (Lstays.filter (fun y => Txt.endswith wd (y ++ "et")) = [])) = stays.any (fun e => (116 :: 101 :: e).isPrefixOf (ls wd).reverse) := by
  have hm : Lstays.map (fun y => (ls y).reverse) = stays := by decide +kernel
  have het : (ls (Str.ofString "et")).reverse = [116, 101] := by decide +kernel
  rw [← hm, List.any_map]
  have e : ∀ l : List Str, (!decide (l.filter (fun y => Txt.endswith wd (y ++ "et")) = [])) = l.any (fun y => Txt.endswith wd (y ++ "et")) := fun l => by
    induction l with
    | nil => rfl
    | cons a l ih =>
      rw [List.filter_cons, List.any_cons]
      cases h : Txt.endswith wd (a ++ Str.ofString "et") with
      | true => simp
      | false => rw [if_neg (by decide), Bool.false_or]; exact ih
  rw [e]
  congr 1
  funext y
  rw [ls_ends, ls_app, List.reverse_append, het]
  rfl
theorem law_before_s_spec {w : World} : FunL w 523 ["b", "c", "d", "f", "g", "h", "j", "k", "l", "m", "n", "o", "p", "r", "t", "v", "y"] := by
  unfold FunL MD
  k_fill
  intro loose mean mg mb p0 dp un gd cn cs a ccd cl outer A₀ base h₀ L m s Q E led B F X N T hk hd hu hret
  refine wpAny_call ?_
  k_dflt (refine' code_def (binds := []) ?k1 ?k2 ?k3 ?k4 ?k5 ?kA ?kF ?kK ?k6 ?k7 ?k8 ?k9 ?kB ?_ ?c2 ?c3 ?c4 ?c5; (case kA | kF => exact rfl); (case kK => assumption); (case k1 | k2 | k3 | k4 | k5 => k_asm); (case k6 | k7 => k_is); (case k8 => ktr_room); (case k9 => exact BindsTo.of_eq rfl); (case c5 => decide); (case kB => exact locs rfl); (case c2 | c3 | c4 => exact rfl))
  intro g' L' h' FG' F' N' B' X' T'
  ((conv in (execs _ _) => arg 1; whnf); (try dsimp only); (show wpAny _ _ (execs _ _) _ _ _); k_fold)
  k_steps
  all_goals (refine hret _ _ _ _ _ ?_ (by assumption) (by assumption); repeat constructor)
theorem law_before_ost_spec {w : World} : FunL w 530 ["i", "k", "l", "n", "p", "r", "t", "u", "v"] := by
  unfold FunL MD
  k_fill
  intro loose mean mg mb p0 dp un gd cn cs a ccd cl outer A₀ base h₀ L m s Q E led B F X N T hk hd hu hret
  refine wpAny_call ?_
  k_dflt (refine' code_def (binds := []) ?k1 ?k2 ?k3 ?k4 ?k5 ?kA ?kF ?kK ?k6 ?k7 ?k8 ?k9 ?kB ?_ ?c2 ?c3 ?c4 ?c5; (case kA | kF => exact rfl); (case kK => assumption); (case k1 | k2 | k3 | k4 | k5 => k_asm); (case k6 | k7 => k_is); (case k8 => ktr_room); (case k9 => exact BindsTo.of_eq rfl); (case c5 => decide); (case kB => exact locs rfl); (case c2 | c3 | c4 => exact rfl))
  intro g' L' h' FG' F' N' B' X' T'
  ((conv in (execs _ _) => arg 1; whnf); (try dsimp only); (show wpAny _ _ (execs _ _) _ _ _); k_fold)
  k_steps
  all_goals (refine hret _ _ _ _ _ ?_ (by assumption) (by assumption); repeat constructor)
theorem law_stays_spec {w : World} : FunL w 537 ["fab", "h", "pak", "rak", "stak", "kom", "iet", "cit", "dit", "alit", "ilit", "mit", "nit", "pit", "rit", "sit", "tit", "uit", "ivit", "kvit", "xit"] := by
  unfold FunL MD
  k_fill
  intro loose mean mg mb p0 dp un gd cn cs a ccd cl outer A₀ base h₀ L m s Q E led B F X N T hk hd hu hret
  refine wpAny_call ?_
  k_dflt (refine' code_def (binds := []) ?k1 ?k2 ?k3 ?k4 ?k5 ?kA ?kF ?kK ?k6 ?k7 ?k8 ?k9 ?kB ?_ ?c2 ?c3 ?c4 ?c5; (case kA | kF => exact rfl); (case kK => assumption); (case k1 | k2 | k3 | k4 | k5 => k_asm); (case k6 | k7 => k_is); (case k8 => ktr_room); (case k9 => exact BindsTo.of_eq rfl); (case c5 => decide); (case kB => exact locs rfl); (case c2 | c3 | c4 => exact rfl))
  intro g' L' h' FG' F' N' B' X' T'
  ((conv in (execs _ _) => arg 1; whnf); (try dsimp only); (show wpAny _ _ (execs _ _) _ _ _); k_fold)
  k_steps
  all_goals (refine hret _ _ _ _ _ ?_ (by assumption) (by assumption); repeat constructor)
theorem law_loose_spec {w : World} : FunL w 544 ["a", "e", "en", "ern", "ar", "er", "or", "ad", "at", "ast", "het", "andet", "as", "es", "dd", "gd", "nn", "dt", "gt", "kt", "tt", "ig", "fullt"] := by
  unfold FunL MD
  k_fill
  intro loose mean mg mb p0 dp un gd cn cs a ccd cl outer A₀ base h₀ L m s Q E led B F X N T hk hd hu hret
  refine wpAny_call ?_
  k_dflt (refine' code_def (binds := []) ?k1 ?k2 ?k3 ?k4 ?k5 ?kA ?kF ?kK ?k6 ?k7 ?k8 ?k9 ?kB ?_ ?c2 ?c3 ?c4 ?c5; (case kA | kF => exact rfl); (case kK => assumption); (case k1 | k2 | k3 | k4 | k5 => k_asm); (case k6 | k7 => k_is); (case k8 => ktr_room); (case k9 => exact BindsTo.of_eq rfl); (case c5 => decide); (case kB => exact locs rfl); (case c2 | c3 | c4 => exact rfl))
  intro g' L' h' FG' F' N' B' X' T'
  ((conv in (execs _ _) => arg 1; whnf); (try dsimp only); (show wpAny _ _ (execs _ _) _ _ _); k_fold)
  k_steps
  all_goals (refine hret _ _ _ _ _ ?_ (by assumption) (by assumption); repeat constructor)
theorem law_rests_spec {w : World} {wd : Str} {tw : Tok} (h3 : wd.length < 100) :
    FunC w 564 [.str wd tw] 10 (fun v => v = .bool (rests (ls wd))) := by
  unfold FunC MD
  k_fill
  intro loose mean mg mb p0 dp un gd cn cs a ccd cl outer A₀ base h₀ L m s Q E led B F X N T hk hd hu hret
  refine wpAny_call ?_
  k_dflt (refine' code_defC (binds := [("word", .str wd tw)]) ?k1 ?k2 ?k3 ?k4 ?k5 ?kA ?kF ?kK ?k6 ?k7 ?k8 ?k9 ?kB ?kD ?_ ?c2 ?c3 ?c4; (case kA | kF => exact rfl); (case kK => assumption); (case k1 | k2 | k3 | k4 | k5 => k_asm); (case k6 | k7 => k_is); (case k8 => ktr_room); (case k9 => exact BindsTo.of_eq rfl); (case kB => exact rfl); (case kD => decide +kernel); (case c2 | c3 | c4 => exact rfl))
  intro g' L' h' tk' cells' FG' F' N' Y' B' X' T' l1
  (try k_lt l1)
  k_cells Y'
  (try simp only [List.cons_append, List.nil_append] at N')
  ((conv in (execs _ _) => arg 1; whnf); (try dsimp only); (show wpAny _ _ (execs _ _) _ _ _); k_fold)
  have hu := ls_len wd
  have hsr := start_reg (ls wd)
  have hrl := reg_le (ls wd)
  have es1 : (Str.ofString "s").length = 1 := by decide +kernel
  have es2 : (Str.ofString "öst").length = 3 := by decide +kernel
  have es3 : (Str.ofString "et").length = 2 := by decide +kernel
  (repeat' (first | (k_unfold; (try dsimp only)) | (k_end; wrow_close) | ((with_reducible show wpAny _ _ (call (Value.ref _) _ _) _ _ _); ((with_reducible show wpAny _ _ (call (Value.ref 544) _) _ _ _); k_dflt (refine' law_loose_spec _ _ _ _ _ _ _ _ _ _ _ _ _ _ _ _ _ _ _ _ _ _ _ ?kB ?kF ?kX ?kN ?kT ?kk ?kd ?ku ?_); (case kB | kF | kX | kN | kT => k_asm); (case kk => first | exact rfl | assumption); (case kd => ktr_room); (case ku => ktr_units); intro D9q v9q n9q h9q tk9q S9q F9q N9q; (try k_sweep))) | ((with_reducible show wpAny _ _ (call (Value.ref _) _ _) _ _ _); ((with_reducible show wpAny _ _ (call (Value.ref 559) _) _ _ _); k_dflt (refine' law_start_spec ?g0 _ _ _ _ _ _ _ _ _ _ _ _ _ _ _ _ _ _ _ _ _ _ _ ?kB ?kF ?kX ?kN ?kT ?kk ?kd ?ku ?_); (case kB | kF | kX | kN | kT => k_asm); (case kk => first | exact rfl | assumption); (case kd => ktr_room); (case ku => ktr_units); (case g0 => omega); intro v9q h9q tk9q hp9q F9q N9q; obtain ⟨t9, e9⟩ := hp9q; subst e9; (try k_sweep))) | with_reducible ((with_reducible show wpAny _ _ (pyIter (Value.ref _)) _ _ _); (refine Stop.intro ?_)) | walk1 | (dsimp only; walk1) | (leave1; try dsimp only) | fail))
  · refine hret _ _ _ ?_ (by assumption) (fun p hp => by rename (News h₀ _ _ _) => N8; exact N8 p (.tail _ hp))
    unfold rests; rw [if_pos (by assumption)]
  unfold Stop
  rename (Fr _ _ _ _) => F9
  rename (News _ _ _ _) => N9
  rename (StrsAre _ _) => S9
  have z0 : 0 ≤ lawStart (ls wd) := by omega
  have z1 : lawStart (ls wd) ≤ wd.length := by omega
  refine iter_strs (fun i => ((["a", "e", "en", "ern", "ar", "er", "or", "ad", "at", "ast", "het", "andet", "as", "es", "dd", "gd", "nn", "dt", "gt", "kt", "tt", "ig", "fullt"] : List Str).take i).any (fun y => Txt.endswith (Txt.slice wd (some (lawStart (ls wd))) none) y) = false) rfl (.head _) S9 F9 N9 rfl ?_ ?_
  · intro i y t h9 tk9 own hy hoff hp F9 N9
    k_fold
    k_steps
    · rename (Txt.endswith _ _ = true) => a1
      refine hret _ _ _ ?_ (by assumption) (fun p hp => by rename (News h₀ _ _ _) => N8; exact N8 p (.tail _ (.tail _ (List.mem_append_left _ hp))))
      rw [rs_0 z0]
      rw [← lo_any z0 z1]
      exact List.any_eq_true.mpr ⟨_, List.mem_of_getElem? hy, a1⟩
    · rename (Txt.endswith _ _ = false) => a1
      rename (Fr _ _ _ _) => F7
      rename (News _ _ _ _) => N7
      refine InvEndN.intro F7 N7 ⟨rfl, fun z hz => by simp only [if_neg hz], ?_⟩ rfl (fun p hp => List.mem_append_left _ hp) (fun p hp => List.mem_append_right _ hp)
      rw [List.take_add_one, hy, List.any_append, hp]
      simpa using a1
  · intro u h9 tk9 hp F9 N9
    rename Obj => oC
    have c0 := lo_any z0 z1
    rw [List.take_length] at hp
    rw [hp] at c0
    have c0 := c0.symm
    (repeat' (first | (k_unfold; (try dsimp only)) | (k_end; wrow_close) | with_reducible ((with_reducible show wpAny _ _ (exec (Stmt.If _ _ _ _) _) _ _ _); ((with_reducible show wpAny _ _ (exec (Stmt.If (Expr.BoolOp _ _ _) _ _ _) _) _ _ _); (fail_if_success (with_reducible show wpAny _ _ _ (fun _ _ => Held _) _ _)); (fail_if_success (with_reducible rename Mark3 => hm3q)); refine Stop.intro ?_)) | walk1 | (dsimp only; walk1) | (leave1; try dsimp only) | fail))
    unfold Stop
    rename (Fr _ _ _ _) => F8
    rename (News _ _ _ _) => N8
    have z0 : 0 ≤ lawStart (ls wd) := by omega
    have z1 : lawStart (ls wd) ≤ wd.length := by omega
    refine wpAny_mono (Q := fun f s' => Held (∃ (tk : Nat) (h : Heap) (m : Str → Option Value) (tz tr : Tok), s' = { s with heap := h, toks := tk } ∧ Fr g' L' h (kstB m [("size", .int wd.length tz), ("region", .str (Txt.slice wd (some (lawStart (ls wd))) none) tr)]) ∧ News g' L' h ((L' + 1, oC) :: led) ∧ ((f = Flow.next ∧ (([115] : List Nat).isPrefixOf ((ls wd).reverse.take ((ls wd).length - (lawStart (ls wd)).toNat)) && SE ((ls wd).reverse.getD 1 0)) = false) ∨ (f = Flow.ret (.bool false) ∧ (([115] : List Nat).isPrefixOf ((ls wd).reverse.take ((ls wd).length - (lawStart (ls wd)).toNat)) && SE ((ls wd).reverse.getD 1 0)) = true)))) ?_ ?_ (fun _ _ x => x)
    · (repeat' (first | (k_unfold; (try dsimp only)) | (k_end; wrow_close) | with_reducible ((with_reducible show wpAny _ _ (subscriptTail (PySem.Expr.Name _ _) (PySem.Expr.BinOp _ _ _ _) (Value.str _ _) (Value.int _ _)) _ _ _); ((rename (Txt.endswith _ _ = true) => hE9q); (have hE8q := ends_len (by omega) (by omega) hE9q); refine item_str (fitsSsize_of (N := 9223372036854775808) (by omega) (by omega) (Int.le_refl _)) (by omega) (by omega) ?_; intro _; (try dsimp only))) | ((with_reducible show wpAny _ _ (call (Value.ref _) _ _) _ _ _); ((with_reducible show wpAny _ _ (call (Value.ref 523) _) _ _ _); k_dflt (refine' law_before_s_spec _ _ _ _ _ _ _ _ _ _ _ _ _ _ _ _ _ _ _ _ _ _ _ ?kB ?kF ?kX ?kN ?kT ?kk ?kd ?ku ?_); (case kB | kF | kX | kN | kT => k_asm); (case kk => first | exact rfl | assumption); (case kd => ktr_room); (case ku => ktr_units); intro D9q v9q n9q h9q tk9q S9q F9q N9q; (try k_sweep))) | walk1 | (dsimp only; walk1) | (leave1; try dsimp only) | fail))
      all_goals rename (Fr _ _ _ _) => F7
      all_goals rename (News _ _ _ _) => N7
      all_goals first
        | (rename (Txt.endswith _ _ = false) => a1
           exact ⟨⟨_, _, _, _, _, rfl, Fr.toB F7 _ (List.forall_mem_cons.mpr ⟨rfl, (List.forall_mem_cons.mpr ⟨rfl, (fun _ h => nomatch h)⟩)⟩), (fun p hp => N7 p (by first | exact hp | exact .tail _ hp | exact .tail _ (.tail _ hp) | exact .tail _ (.tail _ (.tail _ hp)))), .inl ⟨rfl, by rw [← eS z0 z1, a1]; rfl⟩⟩⟩)
        | (rename (Txt.endswith _ _ = true) => a1
           rename (List.any _ _ = false) => b1
           exact ⟨⟨_, _, _, _, _, rfl, Fr.toB F7 _ (List.forall_mem_cons.mpr ⟨rfl, (List.forall_mem_cons.mpr ⟨rfl, (fun _ h => nomatch h)⟩)⟩), (fun p hp => N7 p (by first | exact hp | exact .tail _ hp | exact .tail _ (.tail _ hp) | exact .tail _ (.tail _ (.tail _ hp)))), .inl ⟨rfl, by rw [← eS z0 z1, a1, ← gS (by omega), b1]; rfl⟩⟩⟩)
        | (rename (Txt.endswith _ _ = true) => a1
           rename (List.any _ _ = true) => b1
           exact ⟨⟨_, _, _, _, _, rfl, Fr.toB F7 _ (List.forall_mem_cons.mpr ⟨rfl, (List.forall_mem_cons.mpr ⟨rfl, (fun _ h => nomatch h)⟩)⟩), (fun p hp => N7 p (by first | exact hp | exact .tail _ hp | exact .tail _ (.tail _ hp) | exact .tail _ (.tail _ (.tail _ hp)))), .inr ⟨rfl, by rw [← eS z0 z1, a1, ← gS (by omega), b1]; rfl⟩⟩⟩)
    rintro f s8 ⟨tk8, h8, m8, tz, tr, rfl, F8, N8, ⟨rfl, hC1⟩ | ⟨rfl, hC1⟩⟩
    rotate_left
    · k_steps
      refine hret _ _ _ ?_ (by assumption) (fun p hp => by rename (News h₀ _ _ _) => N6; exact N6 p (by first | exact .tail _ hp | exact .tail _ (.tail _ hp) | exact .tail _ (.tail _ (.tail _ hp)) | exact .tail _ (.tail _ (.tail _ (.tail _ hp)))))
      rw [rs_1 z0 c0 hC1]
    (repeat' (first | (k_unfold; (try dsimp only)) | (k_end; wrow_close) | with_reducible ((with_reducible show wpAny _ _ (exec (Stmt.If _ _ _ _) _) _ _ _); ((with_reducible show wpAny _ _ (exec (Stmt.If (Expr.BoolOp _ _ _) _ _ _) _) _ _ _); (fail_if_success (with_reducible show wpAny _ _ _ (fun _ _ => Held _) _ _)); (fail_if_success (with_reducible rename Mark3 => hm3q)); refine Stop.intro ?_)) | walk1 | (dsimp only; walk1) | (leave1; try dsimp only) | fail))
    unfold Stop
    refine wpAny_mono (Q := fun f s' => Held (∃ (tk : Nat) (h : Heap) (m : Str → Option Value) (tz tr : Tok), s' = { s with heap := h, toks := tk } ∧ Fr g' L' h (kstB m [("size", .int wd.length tz), ("region", .str (Txt.slice wd (some (lawStart (ls wd))) none) tr)]) ∧ News g' L' h ((L' + 1, oC) :: led) ∧ ((f = Flow.next ∧ (([116, 115, 246] : List Nat).isPrefixOf ((ls wd).reverse.take ((ls wd).length - (lawStart (ls wd)).toNat)) && OE ((ls wd).reverse.getD 3 0)) = false) ∨ (f = Flow.ret (.bool false) ∧ (([116, 115, 246] : List Nat).isPrefixOf ((ls wd).reverse.take ((ls wd).length - (lawStart (ls wd)).toNat)) && OE ((ls wd).reverse.getD 3 0)) = true)))) ?_ ?_ (fun _ _ x => x)
    · (repeat' (first | (k_unfold; (try dsimp only)) | (k_end; wrow_close) | with_reducible ((with_reducible show wpAny _ _ (subscriptTail (PySem.Expr.Name _ _) (PySem.Expr.BinOp _ _ _ _) (Value.str _ _) (Value.int _ _)) _ _ _); ((rename (Txt.endswith _ _ = true) => hE9q); (have hE8q := ends_len (by omega) (by omega) hE9q); refine item_str (fitsSsize_of (N := 9223372036854775808) (by omega) (by omega) (Int.le_refl _)) (by omega) (by omega) ?_; intro _; (try dsimp only))) | ((with_reducible show wpAny _ _ (call (Value.ref _) _ _) _ _ _); ((with_reducible show wpAny _ _ (call (Value.ref 530) _) _ _ _); k_dflt (refine' law_before_ost_spec _ _ _ _ _ _ _ _ _ _ _ _ _ _ _ _ _ _ _ _ _ _ _ ?kB ?kF ?kX ?kN ?kT ?kk ?kd ?ku ?_); (case kB | kF | kX | kN | kT => k_asm); (case kk => first | exact rfl | assumption); (case kd => ktr_room); (case ku => ktr_units); intro D9q v9q n9q h9q tk9q S9q F9q N9q; (try k_sweep))) | walk1 | (dsimp only; walk1) | (leave1; try dsimp only) | fail))
      all_goals rename (Fr _ _ _ _) => F7
      all_goals rename (News _ _ _ _) => N7
      all_goals first
        | (rename (Txt.endswith _ _ = false) => a1
           exact ⟨⟨_, _, _, _, _, rfl, Fr.toB F7 _ (List.forall_mem_cons.mpr ⟨rfl, (List.forall_mem_cons.mpr ⟨rfl, (fun _ h => nomatch h)⟩)⟩), (fun p hp => N7 p (by first | exact hp | exact .tail _ hp | exact .tail _ (.tail _ hp) | exact .tail _ (.tail _ (.tail _ hp)))), .inl ⟨rfl, by rw [← eO z0 z1, a1]; rfl⟩⟩⟩)
        | (rename (Txt.endswith _ _ = true) => a1
           rename (List.any _ _ = false) => b1
           exact ⟨⟨_, _, _, _, _, rfl, Fr.toB F7 _ (List.forall_mem_cons.mpr ⟨rfl, (List.forall_mem_cons.mpr ⟨rfl, (fun _ h => nomatch h)⟩)⟩), (fun p hp => N7 p (by first | exact hp | exact .tail _ hp | exact .tail _ (.tail _ hp) | exact .tail _ (.tail _ (.tail _ hp)))), .inl ⟨rfl, by rw [← eO z0 z1, a1, ← gO (by omega), b1]; rfl⟩⟩⟩)
        | (rename (Txt.endswith _ _ = true) => a1
           rename (List.any _ _ = true) => b1
           exact ⟨⟨_, _, _, _, _, rfl, Fr.toB F7 _ (List.forall_mem_cons.mpr ⟨rfl, (List.forall_mem_cons.mpr ⟨rfl, (fun _ h => nomatch h)⟩)⟩), (fun p hp => N7 p (by first | exact hp | exact .tail _ hp | exact .tail _ (.tail _ hp) | exact .tail _ (.tail _ (.tail _ hp)))), .inr ⟨rfl, by rw [← eO z0 z1, a1, ← gO (by omega), b1]; rfl⟩⟩⟩)
    rintro f s8 ⟨tk8, h8, m8, tz, tr, rfl, F8, N8, ⟨rfl, hC2⟩ | ⟨rfl, hC2⟩⟩
    rotate_left
    · k_steps
      refine hret _ _ _ ?_ (by assumption) (fun p hp => by rename (News h₀ _ _ _) => N6; exact N6 p (by first | exact .tail _ hp | exact .tail _ (.tail _ hp) | exact .tail _ (.tail _ (.tail _ hp)) | exact .tail _ (.tail _ (.tail _ (.tail _ hp)))))
      rw [rs_2 z0 c0 hC1 hC2]
    (repeat' (first | (k_unfold; (try dsimp only)) | (k_end; wrow_close) | with_reducible ((with_reducible show wpAny _ _ (exec (Stmt.If _ _ _ _) _) _ _ _); ((with_reducible show wpAny _ _ (exec (Stmt.If (Expr.BoolOp _ _ _) _ _ _) _) _ _ _); (fail_if_success (with_reducible show wpAny _ _ _ (fun _ _ => Held _) _ _)); (fail_if_success (with_reducible rename Mark3 => hm3q)); refine Stop.intro ?_)) | walk1 | (dsimp only; walk1) | (leave1; try dsimp only) | fail))
    unfold Stop
    have hm3 : Mark3 := ⟨trivial⟩
    have r3 := rs_3 z0 c0 hC1 hC2
    rw [← eE z0 z1] at r3
    (repeat' (first | (k_unfold; (try dsimp only)) | (k_end; wrow_close) | with_reducible ((with_reducible show wpAny _ _ (subscriptTail (PySem.Expr.Name _ _) (PySem.Expr.BinOp _ _ _ _) (Value.str _ _) (Value.int _ _)) _ _ _); ((rename (Txt.endswith _ _ = true) => hE9q); (have hE8q := ends_len (by omega) (by omega) hE9q); refine item_str (fitsSsize_of (N := 9223372036854775808) (by omega) (by omega) (Int.le_refl _)) (by omega) (by omega) ?_; intro _; (try dsimp only))) | ((with_reducible show wpAny _ _ (call (Value.ref _) _ _) _ _ _); ((with_reducible show wpAny _ _ (call (Value.ref 516) _) _ _ _); k_dflt (refine' law_vowels_spec _ _ _ _ _ _ _ _ _ _ _ _ _ _ _ _ _ _ _ _ _ _ _ ?kB ?kF ?kX ?kN ?kT ?kk ?kd ?ku ?_); (case kB | kF | kX | kN | kT => k_asm); (case kk => first | exact rfl | assumption); (case kd => ktr_room); (case ku => ktr_units); intro D9q v9q n9q h9q tk9q S9q F9q N9q; (try k_sweep))) | with_reducible ((with_reducible show wpAny _ _ (eval (PySem.Expr.ListComp _ _ _ _) _) _ _ _); (refine Stop.intro ?_)) | walk1 | (dsimp only; walk1) | (leave1; try dsimp only) | fail))
    · rename (Txt.endswith _ _ = true) => a1
      rename (List.any _ _ = _) => b1
      refine hret _ _ _ ?_ (by assumption) (fun p hp => by rename (News h₀ _ _ _) => N6; exact N6 p (by first | exact .tail _ hp | exact .tail _ (.tail _ hp) | exact .tail _ (.tail _ (.tail _ hp)) | exact .tail _ (.tail _ (.tail _ (.tail _ hp)))))
      rw [r3, a1, ← gV (k := 2) (i := (wd.length : Int) - 3) (by omega) (by omega), b1]; rfl
    · unfold Stop
      have hw5 : 5 ≤ wd.length := by omega
      clear hu hsr hrl es1 es2 es3 c0
      rename (Fr _ _ _ _) => F9
      rename (News _ _ _ _) => N9
      k_dflt (refine LCt.ListComp_T (cl := [("word", L' + 1)]) F9 (by with_unfolding_all rfl) (by decide) (by rfl) (by decide) (by rfl) ?_)
      refine wpAny_mono (Q := fun v s' => Held (∃ (D : Addr) (vs : List Value) (n : Nat) (h : Heap) (tk : Nat), v = .ref D ∧ s' = { s with heap := h, toks := tk } ∧ StrsAre vs Lstays ∧ Fr g' L' h (kstB m8 [("size", .int wd.length tz), ("region", .str (Txt.slice wd (some (lawStart (ls wd))) none) tr)]) ∧ News g' L' h ((D, W.listOf vs.toArray n) :: (L' + 1, oC) :: led))) ?_ ?_ (fun _ _ x => x)
      · (repeat' (first | (k_unfold; (try dsimp only)) | (k_end; wrow_close) | ((with_reducible show wpAny _ _ (call (Value.ref _) _ _) _ _ _); ((with_reducible show wpAny _ _ (call (Value.ref 537) _) _ _ _); k_dflt (refine' law_stays_spec _ _ _ _ _ _ _ _ _ _ _ _ _ _ _ _ _ _ _ _ _ _ _ ?kB ?kF ?kX ?kN ?kT ?kk ?kd ?ku ?_); (case kB | kF | kX | kN | kT => k_asm); (case kk => first | exact rfl | assumption); (case kd => ktr_room); (case ku => ktr_units); intro D9q v9q n9q h9q tk9q S9q F9q N9q; (try k_sweep))) | walk1 | (dsimp only; walk1) | (leave1; try dsimp only) | fail))
        rename (Fr _ _ _ _) => F7
        rename (News _ _ _ _) => N7
        rename (StrsAre _ _) => S7
        exact ⟨⟨_, _, _, _, _, rfl, rfl, (by unfold Lstays; exact S7), F7, fun p hp => N7 p (by rcases List.mem_cons.mp hp with rfl | hp; exact .head _; exact .tail _ (.tail _ (.tail _ hp)))⟩⟩
      rintro v s' ⟨D, vs, n, h7, tk7, rfl, rfl, S7, F7, N7⟩
      have hlen := (strs_get S7).1
      have hst : ∀ y ∈ Lstays, y.length ≤ 10 := by decide +kernel
      refine LCt.CompSrcT.ledger rfl F7 N7 (.head _) (by rw [List.size_toArray, hlen, PySem.sizeLine_eq]; decide) (fun g => ?_)
      refine comp_filter (f := fun y => Txt.endswith wd (y ++ "et")) (.inr ⟨_, .head _, rfl, _, rfl⟩) S7 ?_ ?_ ?_ _ 0 [] (by rw [List.size_toArray, hlen, Nat.zero_add]) .nil
      · intro y t C oC2 m₂ h9 tk9 E' hy hC hx hg hled F8 N8
        have hy2 := hst y hy
        (repeat' (first | (k_unfold; (try dsimp only)) | (k_end; wrow_close) | ((with_reducible show wpAny _ _ (eval (PySem.Expr.Name _ _) _) _ _ _); ((with_reducible show wpAny _ _ (eval (PySem.Expr.Name _ _) (PySem.compEnvC _ _ _ _)) _ _ _); rename (PyProof.Rows.LCg.NsObj _ _) => hC9; rename (_ = some (Value.str _ _)) => hx9; rename (Heap.get? _ _ = some _) => hg9; refine wpAny_Name (wpAny_loadName_local rfl rfl (hC9.ns hg9) hx9 ?_) (by decide))) | walk1 | (dsimp only; walk1) | (leave1; try dsimp only) | fail))
      · intro y t C oC2 m₂ h9 tk9 E' hy hC hx hg
        (repeat' (first | (k_unfold; (try dsimp only)) | (k_end; wrow_close) | ((with_reducible show wpAny _ _ (eval (PySem.Expr.Name _ _) _) _ _ _); ((with_reducible show wpAny _ _ (eval (PySem.Expr.Name _ _) (PySem.compEnvC _ _ _ _)) _ _ _); rename (PyProof.Rows.LCg.NsObj _ _) => hC9; rename (_ = some (Value.str _ _)) => hx9; rename (Heap.get? _ _ = some _) => hg9; refine wpAny_Name (wpAny_loadName_local rfl rfl (hC9.ns hg9) hx9 ?_) (by decide))) | walk1 | (dsimp only; walk1) | (leave1; try dsimp only) | fail))
      · intro zs hz D2 h9 tk9 F9 N9 off
        have hco : ∀ x ∈ Lstays.filter (fun y => Txt.endswith wd (y ++ "et")), PyData.strOk x = true := fun x hx => by
          have : ∀ x ∈ Lstays, PyData.strOk x = true := by decide +kernel
          exact this x (List.mem_filter.mp hx).1
        (repeat' (first | (k_unfold; (try dsimp only)) | (k_end; wrow_close) | with_reducible ((with_reducible show wpAny _ _ (compareOp CmpOp.NotEq (Value.ref _) (Value.ref _)) _ _ _); (refine Stop.intro ?_)) | walk1 | (dsimp only; walk1) | (leave1; try dsimp only) | fail))
        unfold Stop
        rename (Fr _ _ _ _) => F6
        rename (News _ _ _ _) => N6
        refine ne_strs (ys := []) (News.isList N6 (.tail _ (.head _))) (News.isList N6 (.head _)) hz .nil hco (fun _ h => nomatch h) (by simp only [units_in1, units_deeper, Around.mark_units]; omega) ?_
        k_steps
        rename (List.any _ _ = true) => b2
        rename (List.any _ _ = false) => b1
        rename (Txt.endswith _ _ = true) => a1
        refine hret _ _ _ ?_ (by assumption) (fun p hp => by rename (News h₀ _ _ _) => N6; exact N6 p (by first | exact .tail _ (.tail _ (.tail _ (.tail _ hp))) | exact .tail _ (.tail _ (.tail _ hp)) | exact .tail _ (.tail _ hp)))
        rw [r3, a1, ← gV (k := 2) (i := (wd.length : Int) - 3) (by omega) (by omega), b1, ← gV (k := 3) (i := (wd.length : Int) - 4) (by omega) (by omega), b2, rests_stays]
        rfl
    · rename (Txt.endswith _ _ = true) => a1
      rename (List.any _ _ = false) => b1
      refine hret _ _ _ ?_ (by assumption) (fun p hp => by rename (News h₀ _ _ _) => N6; exact N6 p (by first | exact .tail _ hp | exact .tail _ (.tail _ hp) | exact .tail _ (.tail _ (.tail _ hp)) | exact .tail _ (.tail _ (.tail _ (.tail _ hp)))))
      rw [r3, a1, ← gV (k := 3) (i := (wd.length : Int) - 4) (by omega) (by omega), b1, Bool.and_false]; rfl
    · rename (Txt.endswith _ _ = false) => a1
      refine hret _ _ _ ?_ (by assumption) (fun p hp => by rename (News h₀ _ _ _) => N6; exact N6 p (by first | exact .tail _ hp | exact .tail _ (.tail _ hp) | exact .tail _ (.tail _ (.tail _ hp)) | exact .tail _ (.tail _ (.tail _ (.tail _ hp)))))
      rw [r3, a1]; rfl
end PartWR
section PartWL1
open PySem PySem.W PyProof.Rows PySem.Calls
noncomputable def asV0 : Stmt → PySem.Expr | .Assign _ v _ => v | _ => .Name "" default
noncomputable abbrev AL (dp un : Nat) (gd : Option (List Code)) (L : Addr) : Around := ktrTop dp un gd "law" (fnS (stA tb0 24)) L 569 (.ref 568) [] []
noncomputable abbrev EL (L : Addr) : Env := envOf "law" (fnS (stA tb0 24)) L 569 (.ref 568)
noncomputable abbrev EX (w : World) (dp un : Nat) (gd : Option (List Code)) (L : Addr) (E0 : Value → Shared → Prop) : Value → Shared → Prop := fun e s' => wpAny (MD w) (AL dp un gd L) (leaving (EL L) e) (fun _ s'' => E0 e s'') (fun e' s'' => E0 e' s'') s'
noncomputable def Lstays2 : List Str := ["fab", "h", "pak", "rak", "stak", "kom", "iet", "cit", "dit", "alit", "ilit", "mit", "nit", "pit", "rit", "sit", "tit", "uit", "ivit", "kvit", "xit"]
noncomputable def Lpieces : List Str := Loften ++ Lrest ++ Lsigns ++ [Str.ofString ""] ++ Lbegins ++ Lforms ++ Lends ++ Lstays2.map (fun y => y ++ Str.ofString "et") ++ Lpairs ++ Lthird
theorem law_pieces {w : World} {loose : List Str} {mean : ExcName → Option Value} {mg mb : Str → Option Value} {p0 : Program} {h₀ : Heap} {L : Addr} {m : Str → Option Value} {led : List (Addr × Obj)} {s : Shared} {Q : Value → Shared → Prop} {E0 : Value → Shared → Prop} {dp un : Nat} {gd : Option (List Code)}
    (hd : dp + 20 < recursionLimit) (hu : un + 200 < cLine)
    (B : Below callerA h₀ [] h₀) (F : Fr h₀ L s.heap m) (X : (Kf w.params).In h₀) (N : News h₀ L s.heap led) (T : Top p0 loose mean mg mb h₀)
    (hret : ∀ D us n h tk, StrsAre us Lpieces → Fr h₀ L h m → News h₀ L h ((D, W.listOf us.toArray n) :: led) → Q (.ref D) { s with heap := h, toks := tk }) :
    wpAny (MD w) (AL dp un gd L) (eval (asV0 (stA (fnB (stA tb0 24)) 0)) (EL L)) Q (EX w dp un gd L E0) s := by
  revert B F X N T
  unfold MD
  k_fill
  intro B F X N T
  have g5 := gl_545 X
  have g6 := gl_546 X
  have g7 := gl_547 X
  have g8 := gl_548 X
  have g9 := gl_549 X
  have g10 := gl_550 X
  have g11 := gl_551 X
  have g12 := gl_552 X
  conv in (eval _ _) => arg 1; whnf
  try dsimp only
  try k_fold
  (repeat' (first | (k_unfold; (try dsimp only)) | (k_end; wrow_close) | with_reducible ((with_reducible show wpAny _ _ (binaryOp Operator.Add (Value.ref _) (Value.ref _)) _ _ _); (refine' add_strs ?F ?N ?a ?b ?_ ?z; (case F | N => k_asm); (case a | b => first | exact GL.keeps (by assumption) (Fr.keep (by assumption)) | ((rename News _ _ _ _ => nXq); exact GL.of_news nXq (.head _) (by first | assumption | (repeat constructor))) | ((rename News _ _ _ _ => nXq); exact GL.of_news nXq (.tail _ (.head _)) (by first | assumption | (repeat constructor))) | ((rename News _ _ _ _ => nXq); exact GL.of_news nXq (.tail _ (.tail _ (.head _))) (by first | assumption | (repeat constructor)))); (case z => decide +kernel); k_whole; intro D'q us'q h'q F'q N'q S'q; (try k_sweep); (try dsimp only))) | ((with_reducible show wpAny _ _ (binaryOp Operator.Add (Value.ref _) (Value.ref _)) _ _ _); (refine' add_strs ?F ?N ?a ?b ?_ ?z; (case F | N => k_asm); (case a | b => first | exact GL.keeps (by assumption) (Fr.keep (by assumption)) | ((rename News _ _ _ _ => nXq); exact GL.of_news nXq (.head _) (by first | assumption | (repeat constructor))) | ((rename News _ _ _ _ => nXq); exact GL.of_news nXq (.tail _ (.head _)) (by first | assumption | (repeat constructor))) | ((rename News _ _ _ _ => nXq); exact GL.of_news nXq (.tail _ (.tail _ (.head _))) (by first | assumption | (repeat constructor)))); (case z => decide +kernel); k_whole; intro D'q us'q h'q F'q N'q S'q; (try k_sweep); (try dsimp only))) | with_reducible ((with_reducible show wpAny _ _ (eval (PySem.Expr.ListComp _ _ _ _) _) _ _ _); (refine Stop.intro ?_)) | walk1 | (dsimp only; walk1) | (leave1; try dsimp only) | fail))
  unfold Stop
  rename (Fr _ _ _ _) => F9
  rename (News _ _ _ _) => N9
  rename (StrsAre _ _) => S9
  k_dflt (refine LCg.ListComp_U (cl := []) F9 (by rfl) (by decide) (by rfl) (by decide) (by rfl) ?_)
  refine wpAny_mono (Q := fun v s' => Held (∃ (D : Addr) (vs : List Value) (n : Nat) (h : Heap) (tk : Nat), v = .ref D ∧ s' = { s with heap := h, toks := tk } ∧ StrsAre vs Lstays2 ∧ Fr h₀ L h m ∧ News h₀ L h ((D, W.listOf vs.toArray n) :: (D'q, W.listOf us'q.toArray 0) :: led))) ?_ ?_ (fun _ _ x => x)
  · (repeat' (first | (k_unfold; (try dsimp only)) | (k_end; wrow_close) | ((with_reducible show wpAny _ _ (call (Value.ref _) _ _) _ _ _); ((with_reducible show wpAny _ _ (call (Value.ref 537) _) _ _ _); k_dflt (refine' law_stays_spec _ _ _ _ _ _ _ _ _ _ _ _ _ _ _ _ _ _ _ _ _ _ _ ?kB ?kF ?kX ?kN ?kT ?kk ?kd ?ku ?_); (case kB | kF | kX | kN | kT => k_asm); (case kk => first | exact rfl | assumption); (case kd => ktr_room); (case ku => ktr_units); intro D9q v9q n9q h9q tk9q S9q F9q N9q; (try k_sweep))) | walk1 | (dsimp only; walk1) | (leave1; try dsimp only) | fail))
    rename (Fr _ _ _ _) => F7
    rename (News _ _ _ _) => N7
    rename (StrsAre _ _) => S7
    exact ⟨⟨_, _, _, _, _, rfl, rfl, (by unfold Lstays2; exact S7), F7, fun p hp => N7 p (by rcases List.mem_cons.mp hp with rfl | hp; exact .head _; rcases List.mem_cons.mp hp with rfl | hp; exact .tail _ (.head _); exact .tail _ (.tail _ (.tail _ (.tail _ (.tail _ (.tail _ (.tail _ (.tail _ hp))))))))⟩⟩
  rintro v s' ⟨D, vs, n, h7, tk7, rfl, rfl, S7, F7, N7⟩
  have hlen := (strs_get S7).1
  have hst : ∀ y ∈ Lstays2, y.length ≤ 10 := by decide +kernel
  refine LCg.CompSrc.ledger rfl F7 N7 (.head _) (by rw [List.size_toArray, hlen, PySem.sizeLine_eq]; decide) (fun g => ?_)
  refine comp_map (f := fun y => y ++ Str.ofString "et") (.inr ⟨_, .head _, rfl, _, rfl⟩) S7 ?_ ?_ _ 0 [] (by rw [List.size_toArray, hlen, Nat.zero_add]) .nil
  · intro y t C oC m₂ h9 tk9 E' hy hC hx hg hled
    have hy2 := hst y hy
    (repeat' (first | (k_unfold; (try dsimp only)) | (k_end; wrow_close) | ((with_reducible show wpAny _ _ (eval (PySem.Expr.Name _ _) _) _ _ _); ((with_reducible show wpAny _ _ (eval (PySem.Expr.Name _ _) (PySem.compEnvC _ _ _ _)) _ _ _); rename (PyProof.Rows.LCg.NsObj _ _) => hC9; rename (_ = some (Value.str _ _)) => hx9; rename (Heap.get? _ _ = some _) => hg9; refine wpAny_Name (wpAny_loadName_local rfl rfl (hC9.ns hg9) hx9 ?_) (by decide))) | walk1 | (dsimp only; walk1) | (leave1; try dsimp only) | fail))
  · intro zs h'q D2 h9 tk9 F9 N9 off
    (repeat' (first | (k_unfold; (try dsimp only)) | (k_end; wrow_close) | ((with_reducible show wpAny _ _ (binaryOp Operator.Add (Value.ref _) (Value.ref _)) _ _ _); (refine' add_strs ?F ?N ?a ?b ?_ ?z; (case F | N => k_asm); (case a | b => first | exact GL.keeps (by assumption) (Fr.keep (by assumption)) | ((rename News _ _ _ _ => nXq); exact GL.of_news nXq (.head _) (by first | assumption | (repeat constructor))) | ((rename News _ _ _ _ => nXq); exact GL.of_news nXq (.tail _ (.head _)) (by first | assumption | (repeat constructor))) | ((rename News _ _ _ _ => nXq); exact GL.of_news nXq (.tail _ (.tail _ (.head _))) (by first | assumption | (repeat constructor)))); (case z => decide +kernel); k_whole; intro D'q us'q h'q F'q N'q S'q; (try k_sweep); (try dsimp only))) | walk1 | (dsimp only; walk1) | (leave1; try dsimp only) | fail))
    rename (StrsAre _ _) => S6
    rename (News _ _ _ _) => N6
    exact hret _ _ _ _ _ S6 (by assumption) (fun p hp => N6 p (by rcases List.mem_cons.mp hp with rfl | hp; exact .head _; exact .tail _ (.tail _ (.tail _ (.tail _ (.tail _ (.tail _ hp)))))))
end PartWL1
section PartWL2
open PySem PySem.W PyProof.Rows PySem.Calls
theorem pieces_len : Lpieces.length = 118 := by decide +kernel
theorem pieces_short : ∀ y ∈ Lpieces, Str.length y ≤ 10 := by decide +kernel
section
variable {prog : Program} {w : World} {A : Around} {E : Value → Shared → Prop} {s : Shared} {h₀ : Heap} {L D : Addr} {us : List Value} {n : Nat} {led : List (Addr × Obj)} {Q : Value → Shared → Prop}
theorem len_pieces (N : News h₀ L s.heap led) (hm : (D, W.listOf us.toArray n) ∈ led) (S : StrsAre us Lpieces) (h : Q (.int 118 (s.toks + 1)) { s with toks := s.toks + 1 + 1 }) : wpAny (model prog w) A (call (.builtin "len") [.ref D]) Q E s := by
  have e : us.toArray.size = 118 := by rw [List.size_toArray, (strs_get S).1, pieces_len]
  refine PyProof.Rows.len_list (News.isList N hm) ?_ ?_
  · rw [e]; decide
  · rw [e]; exact h
theorem item_pieces {value slice : PySem.Expr} {k : Int} {u : Tok} (N : News h₀ L s.heap led) (hm : (D, W.listOf us.toArray n) ∈ led) (S : StrsAre us Lpieces) (h0 : 0 ≤ k) (h1 : k < 118)
    (h : ∀ y t, Str.length y ≤ 10 → Q (.str y t) s)
    (hs : subscripted slice false (.ref D) (.int k u) = operate [.ref D, .int k u] (getItem (.ref D) (.int k u)) := by with_unfolding_all rfl) (hg : ∀ r, letTemporaryGo value (.ref D) r = pure () := by intro _; with_unfolding_all rfl) :
    wpAny (model prog w) A (subscriptTail value slice (.ref D) (.int k u)) Q E s := by
  have hlt : k.toNat < us.length := by rw [(strs_get S).1, pieces_len]; omega
  obtain ⟨y, t, hy, e⟩ := (strs_get S).2 k.toNat us[k.toNat] (List.getElem?_eq_getElem hlt)
  refine PyProof.Rows.item_list (News.isList N hm) h0 (by omega) (x := .str y t) ?_ (h y t (pieces_short y (List.mem_of_getElem? hy))) hs hg
  rw [List.getElem?_toArray, List.getElem?_eq_getElem hlt, e]
end
theorem law_word {w : World} {loose : List Str} {mean : ExcName → Option Value} {mg mb : Str → Option Value} {p0 : Program} {h₀ : Heap} {L lv D : Addr} {u : Str → Option Value} {s : Shared} {Q : Flow → Shared → Prop} {E0 : Value → Shared → Prop} {dp un n t1 t2 : Nat} {gd : Option (List Code)} {vs us : List Value} {ns : List Int}
    (hd : dp + 20 < recursionLimit) (hu : un + 200 < cLine)
    (B : Below callerA h₀ [] h₀) (F : Fr h₀ L s.heap (kstB u [("script", .ref lv), ("pieces", .ref D), ("word", .str "" t1), ("total", .int 0 t2)])) (X : (Kf w.params).In h₀) (N : News h₀ L s.heap [(D, W.listOf us.toArray n)]) (T : Top p0 loose mean mg mb h₀)
    (hS : StrsAre us Lpieces) (hl : h₀.IsList lv vs.toArray) (hi : IntsAre vs ns) (hn : ns.length ≤ 63)
    (hret : ∀ u wd tw tot tt h tk, Str.length wd ≤ 18 → Fr h₀ L h (kstB u [("script", .ref lv), ("word", .str wd tw), ("total", .int tot tt)]) → Q .next { s with heap := h, toks := tk }) :
    wpAny (MD w) (AL dp un gd L) (exec (stA (fnB (stA tb0 24)) 3) (EL L)) Q (EX w dp un gd L E0) s := by
  revert B F X N T
  unfold MD
  k_fill
  intro B F X N T
  conv in (exec _ _) => arg 1; whnf
  try dsimp only
  try k_fold
  (repeat' (first | (k_unfold; (try dsimp only)) | (k_end; wrow_close) | ((with_reducible show wpAny _ _ (exec (Stmt.For _ _ _ _ _) _) _ _ _); ((rename (Fr _ _ _ _) => F9q); (with_unfolding_all refine' For_invVF F9q ?k1 ?k2 ?_); (case k1 | k2 => exact rfl); k_whole)) | with_reducible ((with_reducible show wpAny _ _ (pyIter (Value.ref _)) _ _ _); (refine Stop.intro ?_)) | walk1 | (dsimp only; walk1) | (leave1; try dsimp only) | fail))
  unfold Stop
  rename (Fr _ _ _ _) => F9
  rename (News _ _ _ _) => N9
  rename (IntsAre _ (List.take _ _)) => I9
  rename_i D2 ws h2 hC hL l1
  refine kst_listL (σ := (Str × Tok) × (Int × Tok)) (fun _ => [(D2, W.listOf ws.toArray 0), (D, W.listOf us.toArray n)]) (fun c => [("script", .ref lv), ("pieces", .ref D), ("word", .str c.1.1 c.1.2), ("total", .int c.2.1 c.2.2)]) (fun _ => True) ["piece"] (fun _ c => Str.length c.1.1 ≤ 18) ((Str.ofString "", t1), (0, t2)) rfl (fun _ => .head _) I9 F9 N9 trivial (by intro p hp; simp only [List.mem_cons, List.not_mem_nil, or_false] at hp; rcases hp with rfl | rfl | rfl | rfl <;> rfl) (show Str.length (Str.ofString "") ≤ 18 by decide +kernel) ?_ ?_
  · rintro ⟨⟨wd, tw⟩, ⟨tot, tt⟩⟩ pre post k tk u2 h9 tk9 own he hk hoff _ p1 F9 N9
    try dsimp only at p1
    try dsimp only at F9
    try dsimp only at N9
    try simp only [List.cons_append, List.nil_append] at N9
    k_fold
    (repeat' (first | (k_unfold; (try dsimp only)) | (k_end; wrow_close) | ((with_reducible show wpAny _ _ (call (Value.builtin "len") _ _) _ _ _); ((with_reducible show wpAny _ _ (call (Value.builtin "len") [Value.ref _]) _ _ _); (rename (News _ _ _ _) => nXq); (rename (StrsAre _ Lpieces) => sXq); refine len_pieces nXq (.tail _ (.head _)) sXq ?_; k_whole)) | ((with_reducible show wpAny _ _ (subscriptTail _ _ _ _) _ _ _); ((with_reducible show wpAny _ _ (subscriptTail _ _ (Value.ref _) (Value.int _ _)) _ _ _); (rename (News _ _ _ _) => nXq); (rename (StrsAre _ Lpieces) => sXq); refine item_pieces nXq (.tail _ (.head _)) sXq (by first | omega | exact Int.fmod_nonneg_of_pos _ (by decide)) (by first | omega | exact Int.fmod_lt_of_pos _ (by decide)) ?_; k_whole; intro y9q t9q hy9q)) | walk1 | (dsimp only; walk1) | (leave1; try dsimp only) | fail))
    all_goals (rename (Fr _ _ _ _) => F8; rename (News _ _ _ _) => N8)
    all_goals refine kst_end ((_, _), (_, _)) F8 N8 (fun p hp => by rcases List.mem_cons.mp hp with rfl | hp; exact .head _; rcases List.mem_cons.mp hp with rfl | hp; exact .tail _ (.head _); cases hp) (fun p hp => .tail _ (.tail _ hp)) rfl trivial (by kst_all) ?_ ?_
    all_goals first
      | (intro z z1 z2 z3
         have d1 := z2 _ (.head _)
         have d2 := z2 _ (.tail _ (.head _))
         have d3 := z2 _ (.tail _ (.tail _ (.head _)))
         have d4 := z2 _ (.tail _ (.tail _ (.tail _ (.head _))))
         have d5 : z ≠ Str.ofString "piece" := fun e => by subst e; revert z3; decide +kernel
         simp only [kstB, if_neg z1, if_neg d1, if_neg d2, if_neg d3, if_neg d4, if_neg d5, z3, Bool.false_eq_true, if_false]; done)
      | (try dsimp only
         exact p1)
      | (try dsimp only
         omega)
      | (try dsimp only
         have q1 : ∀ c : Nat, Str.length ⟨#[c]⟩ = 1 := fun _ => rfl
         simp only [q1] at *
         omega)
  · rintro ⟨⟨wd, tw⟩, ⟨tot, tt⟩⟩ u2 h9 tk9 _ p1 F9 N9
    exact hret _ _ _ _ _ _ _ p1 (Fr.toB F9 _ (by kst_all))
end PartWL2
section PartWL3
open PySem PySem.W PyProof.Rows PySem.Calls
theorem law_new {w : World} {loose : List Str} {mean : ExcName → Option Value} {mg mb : Str → Option Value} {p0 : Program} {h₀ : Heap} {L : Addr} {m : Str → Option Value} {s : Shared} {Q E : Value → Shared → Prop} {dp un : Nat} {gd : Option (List Code)}
    (hd : dp + 20 < recursionLimit) (hu : un + 200 < cLine)
    (B : Below callerA h₀ [] h₀) (F : Fr h₀ L s.heap m) (X : (Kf w.params).In h₀) (N : News h₀ L s.heap []) (T : Top p0 loose mean mg mb h₀)
    (hret : ∀ x dx ns a1 a2 a3 a4 a5 a6 b1 b2 b3 b4 b5 b6 h tk, x ≠ dx → Fr h₀ L h m →
      News h₀ L h (LED w.params x dx ns a1 a2 a3 a4 a5 a6 b1 b2 b3 b4 b5 b6 "" 0 0 0 0 0 [] []) → Q (.ref x) { s with heap := h, toks := tk }) :
    wpAny (MD w) (AL dp un gd L) (call (.ref 494) []) Q E s := by
  revert B F X N T
  unfold MD
  k_fill
  intro B F X N T
  have hk : (fnS (stA tb0 24)).kind = .function := by kernel_rfl!
  refine wpAny_call ?_
  refine make_K F N (X.keeps F.keep) (C := 494) (fI := 35) (by kernel_rfl!) (by kernel_rfl!) (by kernel_rfl!) ?_
  intro x dx h1 F1 N1 l1 l2
  have hne : x ≠ dx := Ne.symm (Nat.ne_of_lt l2)
  change codeAny _ (ktrTop (dp + 1) (un + 1) gd "law" (fnS (stA tb0 24)) L 569 (.ref 568) [] []) (.call (.ref 35) ⟨[.ref x], []⟩) _ _
  k_dflt (refine' code_def (binds := [("self", .ref x)]) ?k1 ?k2 ?k3 ?k4 ?k5 ?kA ?kF ?kK ?k6 ?k7 ?k8 ?k9 ?kB ?_ ?c2 ?c3 ?c4 ?c5; (case kA | kF => exact rfl); (case kK => first | assumption | kernel_rfl!); (case k1 | k2 | k3 | k4 | k5 => k_asm); (case k6 | k7 => k_is); (case k8 => ktr_room); (case k9 => exact BindsTo.of_eq rfl); (case c5 => decide); (case kB => exact locs rfl); (case c2 | c3 | c4 => exact rfl))
  intro g' L' h' FG' F' N' B' X' T'
  ((conv in (execs _ _) => arg 1; whnf); (try dsimp only); (show wpAny _ _ (execs _ _) _ _ _); k_fold)
  k_steps
  refine wpAny_call ?_
  k_dflt (refine' code_def (binds := [("self", .ref x), ("value", .str "" tk)]) ?k1 ?k2 ?k3 ?k4 ?k5 ?kA ?kF ?kK ?k6 ?k7 ?k8 ?k9 ?kB ?_ ?c2 ?c3 ?c4 ?c5; (case kA | kF => exact rfl); (case kK => first | assumption | kernel_rfl!); (case k1 | k2 | k3 | k4 | k5 => k_asm); (case k6 | k7 => k_is); (case k8 => ktr_room); (case k9 => exact BindsTo.of_eq rfl); (case c5 => decide); (case kB => exact locs rfl); (case c2 | c3 | c4 => exact rfl))
  intro g2 L2 h2 FG2 F2 N2 B2 X2 T2
  ((conv in (execs _ _) => arg 1; whnf); (try dsimp only); (show wpAny _ _ (execs _ _) _ _ _); k_fold)
  k_steps
  rename (Fr _ _ _ _) => F9
  rename (News _ _ _ _) => N9
  exact hret _ _ _ _ _ _ _ _ _ _ _ _ _ _ _ _ _ hne F9 N9
end PartWL3
section PartWL4
open PySem PySem.W PyProof.Rows PySem.Calls
noncomputable def Tl (P : Params) (tl : List DictEntry) : Prop := tl = [] ∨ ∃ a7 p1 t7, tl = ip P a7 p1 t7
noncomputable def TlI (P : Params) (tl : List DictEntry) : Prop := ∃ a7 p1 t7, tl = ip P a7 p1 t7
theorem turn_back {h₀ h₁ h : Heap} {L : Addr} {m : Str → Option Value} (T : KtsTurn [] h₀ h₁) (F : Fr h₁ L h m) : Fr h₀ L h m :=
  ⟨F.ns, fun b o e => F.keep b o (T.other b o e (by simp)), by have := F.above; rw [T.size] at this; exact this⟩
theorem news_back {h₀ h₁ h : Heap} {L : Addr} {led : List (Addr × Obj)} (T : KtsTurn [] h₀ h₁) (N : News h₁ L h led) : News h₀ L h led :=
  fun p hp => ⟨(N p hp).1, (N p hp).2.1, by
    cases e : h₀.get? p.1 with
    | none => rfl
    | some o => have := T.other _ _ e (by simp); rw [(N p hp).2.2] at this; cases this⟩
theorem stem_call {w : World} {loose : List Str} {mean : ExcName → Option Value} {mg mb : Str → Option Value} {p0 : Program} {h₀ : Heap} {L x dx : Addr} {m : Str → Option Value} {s : Shared} {Q E : Value → Shared → Prop} {dp un ns a1 a2 a3 a4 a5 a6 t1 t2 t3 t4 t5 t6 tw : Nat} {gd : Option (List Code)} {cur la : Str} {c l lb bra ket : Int} {tl : List DictEntry} {rest : List (Addr × Obj)}
    (htl : Tl w.params tl) (h3 : la.length < 100) (hd : dp + 20 < recursionLimit) (hu : un + 200 < cLine)
    (B : Below callerA h₀ [] h₀) (F : Fr h₀ L s.heap m) (X : (Kf w.params).In h₀) (N : News h₀ L s.heap (LED w.params x dx ns a1 a2 a3 a4 a5 a6 t1 t2 t3 t4 t5 t6 cur c l lb bra ket tl rest)) (T : Top p0 loose mean mg mb h₀)
    (S1 : SetHas w h₀ 230 V) (S2 : SetHas w h₀ 231 SE) (S3 : SetHas w h₀ 232 OE) (hx : x ≠ dx) (hr : ∀ p ∈ rest, p.1 ≠ dx)
    (hret : ∀ r t ns t1 t2 t3 t4 t5 t6 cur c l lb bra ket tl h tk, TlI w.params tl → Stem (ls la) (ls r) → Fr h₀ L h m → News h₀ L h (LED w.params x dx ns a1 a2 a3 a4 a5 a6 t1 t2 t3 t4 t5 t6 cur c l lb bra ket tl rest) → Q (.str r t) { s with heap := h, toks := tk }) :
    wpAny (MD w) (AL dp un gd L) (call (.ref 189) [.ref x, .str la tw]) Q E s := by
  have pre : SetHas w h₀ 230 V ∧ SetHas w h₀ 231 SE ∧ SetHas w h₀ 232 OE ∧ TabIn w.params h₀ 338 A0 ∧ TabIn w.params h₀ 453 A1 ∧ TabIn w.params h₀ 475 A2 ∧ TabIn w.params h₀ 491 A3 := ⟨S1, S2, S3, tab_338 X, tab_453 X, tab_475 X, tab_491 X⟩
  rcases htl with rfl | ⟨a7, p1, t7, rfl⟩
  · refine MethN.use (stemWord_n ⟨cur, c, l, lb, bra, ket, 0⟩ h3) B F X N T X T ktsDicts_nil KtsTurn.refl rfl (by omega) (by omega) hx hr pre ?_
    rintro v σ' h' tk' ns' t1' t2' t3' t4' t5' t6' t7' h₁ a7' ⟨r, t, rfl, hS⟩ hT F' N' _ _ _ _
    exact hret r t _ _ _ _ _ _ _ _ _ _ _ _ _ _ _ _ ⟨_, _, _, rfl⟩ hS (turn_back hT F') (news_back hT N')
  · refine MethS.use (stemWord_s ⟨cur, c, l, lb, bra, ket, p1⟩ h3) B F X N T X T ktsDicts_nil KtsTurn.refl rfl (by omega) (by omega) hx hr pre ?_
    rintro v σ' h' tk' ns' t1' t2' t3' t4' t5' t6' t7' h₁ ⟨r, t, rfl, hS⟩ hT F' N' _ _ _ _
    exact hret r t _ _ _ _ _ _ _ _ _ _ _ _ _ _ _ _ ⟨_, _, _, rfl⟩ hS (turn_back hT F') (news_back hT N')
end PartWL4
section PartWS
open PySem PySem.W PyProof.Rows PySem.Calls PySem.Spec
section
variable {prog : Program} {w : World} {A₀ A : Around} {s : Shared} {base h₀ g₀ : Heap} {outer : List Env} {L a : Addr} {m : Str → Option Value} {env : Env} {news : List (Addr × Obj)} {K : Frag} {p : Program} {loose : List Str} {mean : ExcName → Option Value} {mg mb : Str → Option Value}
    {R : Result → Shared → Prop} {name qual : Str} {params : Arguments} {body : List Stmt} {scope : Scope} {dV kV doc pm cdv ct oc : Value} {an od : Option Addr} {osl : Array (Option Value)} {f : Addr} {args : Args} {binds : List (Str × Value)}
theorem mem_env {b : Addr} (hf : env.frame = some L) (hm : b ∈ (env :: outer).filterMap (·.frame)) : b = L ∨ b ∈ outer.filterMap (·.frame) := by
  obtain ⟨e, he, hfe⟩ := List.mem_filterMap.mp hm
  rcases List.mem_cons.mp he with rfl | he
  · rw [hf] at hfe; exact .inl (Option.some.inj hfe).symm
  · exact .inr (List.mem_filterMap.mpr ⟨e, he, hfe⟩)
/-- what holds of the ground that a call leaves behind it -/
theorem enterX (B : Below A₀ base outer h₀) (F : Fr h₀ L s.heap m) (N : News h₀ L s.heap news) (hA : A.frames = some (env :: outer)) (hf : env.frame = some L) (hke : env.scope.kind = .function) :
    ∃ oL es ep, (hideAll s.heap (news.map (·.1))).get? L = some oL ∧ oL.data = .dict es ep ∧ (∀ (sl : Array (Option Value)) h', h'.get? L = some { oL with slots := sl } → Heap.Ns h' L m) ∧
      h₀.StaysIn (hideAll s.heap (news.map (·.1))) ∧ Below A base (env :: outer) (hideAll s.heap (news.map (·.1))) ∧ Fr h₀ L (hideAll s.heap (news.map (·.1))) m := by
  obtain ⟨FG, BG, st, _⟩ := groundX (R := fun _ _ => True) B F N hA hf hke
  obtain ⟨oL, es, ep, hL, hLd, hLk, hLf⟩ := F.ns
  have nL : L ∉ news.map (·.1) := fun q => by
    obtain ⟨p, hp, e⟩ := List.mem_map.mp q
    exact (N p hp).2.1 e
  exact ⟨oL, es, ep, hideAll_get _ hL nL, hLd, fun sl h' e => ⟨_, es, ep, e, hLd, hLk, hLf⟩, st, BG, FG⟩
theorem below_turn {g : Heap} (B : Below A₀ base outer h₀) (T : KtsTurn (outer.filterMap (·.frame)) h₀ g) : Below A₀ base outer g :=
  ⟨B.stack, fun b o e => T.other b o (B.stays b o e) (fun hm => by rw [(B.frames.mem hm).1] at e; cases e), B.frames.of_keeps fun b o e _ => by
    obtain ⟨sl', hs'⟩ := T.up e
    exact ⟨_, hs', rfl⟩⟩
/-- a function is entered from a frame that may hold cells, what is called may raise and catch -/
theorem code_defSX (B : Below A₀ base outer h₀) (F : Fr h₀ L s.heap m) (X₀ : K.In h₀) (N : News h₀ L s.heap news) (T : Top p loose mean mg mb h₀) (XB : K.In base) (TB : Top p loose mean mg mb base) (D : KtsDicts (outer.filterMap (·.frame)) h₀)
    (T0 : KtsTurn (outer.filterMap (·.frame)) g₀ h₀) (hA : A.frames = some (env :: outer)) (hf : env.frame = some L) (hke : env.scope.kind = .function)
    (ho : K.lookup f = some ⟨oc, od, .func (fnOf name qual params body scope dV kV doc pm an cdv ct), osl⟩) (hcd : codeIn K cdv qual = true) (hroom : A.depth < recursionLimit)
    (hbind : BindsTo s (fnOf name qual params body scope dV kV doc pm an cdv ct) args binds) (hloc : ∀ y ∈ binds, scope.names.lookup y.1 = some .local)
    (h : ∀ g L' h₁, Fr h₀ L g m → Fr g L' h₁ (fun y => binds.reverse.lookup y) → News g L' h₁ news → Below A base (env :: outer) g → K.In g → Top p loose mean mg mb g → KtsDicts ((env :: outer).filterMap (·.frame)) g →
      wpAny (model prog w) (A.deeper (envOf qual scope L' f cdv)) (execs body (envOf qual scope L' f cdv))
        (fun fl s' => LeaveS ((env :: outer).filterMap (·.frame)) A₀ base outer K p loose mean mg mb g₀ h₀ L m g R (match fl with | .ret v => v | _ => .none) s')
        (fun e s' => wpAny (model prog w) (A.deeper (envOf qual scope L' f cdv)) (leaving (envOf qual scope L' f cdv) e) (fun _ s'' => R (.error e) s'') (fun e' s'' => R (.error e') s'') s')
        { s with heap := h₁, toks := s.toks + binds.length })
    (hco : scope.isCoroutine = false) (hgen : scope.isGenerator = false) (hk : scope.kind = .function)
    (hcell : ∀ x ∈ scope.names, x.2 ≠ .cell) : codeAny (model prog w) A (.call (.ref f) args) R s := by
  have X := X₀.keeps F.keep
  refine codeAny_call_def (fd := fnOf name qual params body scope dV kV doc pm an cdv ct) (body := body) (binds := binds) hroom (X _ _ ho) rfl (T.nolimit.keeps F.keep) (codeRec_of X hcd) rfl hbind hcell hloc (fun h₁ hns hk₁ => ?_) hco hgen hk
  obtain ⟨oL, es, ep, hLg, hLd, hNs, st, B₂, FG⟩ := enterX B F N hA hf hke
  refine wpAny_mono (h _ s.heap.objs.size h₁ FG ⟨hns, fun b o e => hk₁ b o (of_hideAll _ e), Nat.le_of_eq (hideAll_size _ _)⟩
    (fun p hp => ⟨hk₁ _ _ (N p hp).1, Nat.ne_of_lt (Heap.lt_size (N p hp).1), hideAll_none _ (List.mem_map_of_mem hp)⟩) B₂ (X₀.keeps st) (T.keeps st) (fun b hb => ?_)) (fun fl s' hl => ?_) fun _ _ y => y
  · rcases mem_env hf hb with rfl | hb
    · exact ⟨oL, es, ep, hLg, hLd⟩
    · obtain ⟨o, es', n', ho', hd'⟩ := D b hb
      exact ⟨o, es', n', st b o ho', hd'⟩
  have nL₀ : h₀.get? L = none := kts_self F
  have same : ∀ g', KtsTurn ((env :: outer).filterMap (·.frame)) (hideAll s.heap (news.map (·.1))) g' → ∀ b, g'.get? b = none → h₀.get? b = none := fun g' T' b e => by
    cases q : h₀.get? b with
    | none => rfl
    | some o =>
      obtain ⟨sl', hs'⟩ := T'.up (st _ _ q)
      rw [hs'] at e; cases e
  rcases hl with ⟨L', m', news', F', N', k⟩ | ⟨g', L', m', news', T', F', N', k⟩
  · refine k ⟨hNs oL.slots _ (F'.keep _ _ hLg), fun b o e => F'.keep b o (st b o e), F.above⟩ fun p hp => ⟨(N' p hp).1, fun q => ?_, same _ .refl _ (N' p hp).2.2⟩
    have := (N' p hp).2.2; rw [q, hLg] at this; cases this
  obtain ⟨sl, hs⟩ := T'.up hLg
  obtain ⟨T₁, S₁⟩ := kts_turn_at (h := s'.heap) (fs := outer.filterMap (·.frame)) (g := h₀)
    (fun b hb => by obtain ⟨_, o, ho', _⟩ := B.frames.mem hb; exact ⟨o, ho'⟩)
    (fun b o e nmem => F'.keep b o (T'.other b o (st b o e) (fun q => by
      rcases mem_env hf q with z | z
      · rw [z, nL₀] at e; cases e
      · exact nmem z)))
    (fun b o e hm => by obtain ⟨sl', hs'⟩ := T'.up (st b o e); exact ⟨sl', F'.keep _ _ hs'⟩)
  have B₃ := below_turn B T₁
  refine k _ (T0.trans T₁) ⟨hNs sl _ (F'.keep _ _ hs), S₁, by rw [T₁.size]; exact F.above⟩ (fun p hp => ⟨(N' p hp).1, fun q => ?_, T₁.none_ _ (same _ T' _ (N' p hp).2.2)⟩) B₃ (XB.keeps B₃.stays) (TB.keeps B₃.stays) (D.turn T₁)
  have := (N' p hp).2.2; rw [q, hs] at this; cases this
/-- a function with cells is entered from the law, what is called may raise and catch -/
theorem code_defC0 (B : Below A₀ base [] h₀) (F : Fr h₀ L s.heap m) (X₀ : K.In h₀) (N : News h₀ L s.heap news) (T : Top p loose mean mg mb h₀) (hA : A.frames = some [env]) (hf : env.frame = some L) (hke : env.scope.kind = .function)
    (ho : K.lookup f = some ⟨oc, od, .func (fnOf name qual params body scope dV kV doc pm an cdv ct), osl⟩) (hcd : codeIn K cdv qual = true) (hroom : A.depth < recursionLimit)
    (hbind : BindsTo s (fnOf name qual params body scope dV kV doc pm an cdv ct) args binds) (hkind : (binds.all fun y => scope.names.lookup y.1 == some .local || scope.names.lookup y.1 == some .cell) = true)
    (hnd : ((cellsFrom 0 scope.names []).map (·.1)).Nodup)
    (h : ∀ g L' h₁ tk cells oL es ep, Fr h₀ L g m → Fr g L' h₁ (bindL (envOfC qual scope L' f cdv).kindOf binds fun _ => none) → News g L' h₁ (cells ++ news) →
      CellsAre (bindC (envOfC qual scope L' f cdv).kindOf binds fun _ => none) (cellsFrom (L' + 1) scope.names []) cells → Below A base [env] g → K.In g → Top p loose mean mg mb g → (∀ p ∈ news, p.1 < L') → g.get? L = some oL → oL.data = .dict es ep →
      wpAny (model prog w) (A.deeper (envOfC qual scope L' f cdv)) (execs body (envOfC qual scope L' f cdv))
        (fun fl s' => LeaveS0 [L] h₀ L m g R (match fl with | .ret v => v | _ => .none) s')
        (fun e s' => wpAny (model prog w) (A.deeper (envOfC qual scope L' f cdv)) (leaving (envOfC qual scope L' f cdv) e) (fun _ s'' => R (.error e) s'') (fun e' s'' => R (.error e') s'') s')
        { s with heap := h₁, toks := tk })
    (hco : scope.isCoroutine = false) (hgen : scope.isGenerator = false) (hk : scope.kind = .function) : codeAny (model prog w) A (.call (.ref f) args) R s := by
  have X := X₀.keeps F.keep
  obtain ⟨oL, es, ep, hLg, hLd, hNs, st, B₂, FG⟩ := enterX B F N hA hf hke
  refine codeAny_call_function hroom (X _ _ ho) rfl hco hgen rfl (codeRec_of X hcd) (hbind _ _ _ _ ?_)
  refine wpAny_newFunctionEnv_cells hk (kindsX hkind _) fun env' he s' x => ?_
  subst he
  refine ⟨(T.nolimit.keeps F.keep).keeps x.toInCall.keep, codeAny_func ?_⟩
  obtain ⟨h₁, tk, rfl, _⟩ := x.done
  have hk₁ := x.toInCall.keep
  obtain ⟨cells, NC, Y⟩ := Cl.news (h₀ := s.heap) (Nat.le_refl _) fun n c hm => ⟨x.cell n c (lookup_of_mem_nodup (cellsFrom_names scope.names 0 (s.heap.objs.size + 1) [] [] rfl ▸ hnd) hm), x.above n c hm⟩
  refine wpAny_mono (h _ s.heap.objs.size h₁ tk cells oL es ep FG ⟨x.toInCall.ns, fun b o e => hk₁ b o (of_hideAll _ e), Nat.le_of_eq (hideAll_size _ _)⟩ (fun p hp => ?_) Y B₂ (X₀.keeps st) (T.keeps st) (fun p hp => Heap.lt_size (N p hp).1) hLg hLd) (fun fl s' hl => ?_) fun _ _ y => y
  · rcases List.mem_append.mp hp with hp | hp
    · refine ⟨(NC p hp).1, (NC p hp).2.1, ?_⟩
      cases q : (hideAll s.heap (news.map (·.1))).get? p.1 with
      | none => rfl
      | some o => have := of_hideAll _ q; rw [(NC p hp).2.2] at this; cases this
    · exact ⟨hk₁ _ _ (N p hp).1, Nat.ne_of_lt (Heap.lt_size (N p hp).1), hideAll_none _ (List.mem_map_of_mem hp)⟩
  · obtain ⟨g', L', m', news', T', F', N', k⟩ := hl
    have nL₀ : h₀.get? L = none := kts_self F
    obtain ⟨sl, hs⟩ := T'.up hLg
    refine k ⟨hNs sl _ (F'.keep _ _ hs), fun b o e => F'.keep b o (T'.other b o (st b o e) (fun q => by
      rw [List.mem_singleton.mp q, nL₀] at e; cases e)), F.above⟩ fun p hp => ⟨(N' p hp).1, fun q => ?_, ?_⟩
    · have := (N' p hp).2.2; rw [q, hs] at this; cases this
    · cases q : h₀.get? p.1 with
      | none => rfl
      | some o =>
        obtain ⟨sl', hs'⟩ := T'.up (st _ _ q)
        have := (N' p hp).2.2
        rw [hs'] at this; cases this
end
end PartWS
section PartW14
open PySem PySem.W PyProof.Rows PySem.Calls
noncomputable def MethSX (w : World) (f : Addr) (args : List Value) (need : Nat) (pre : Heap → Prop) (σ : St) (post : Value → St → Prop) : Prop :=
  ∀ (loose : List Str) (mean : ExcName → Option Value) (mg mb : Str → Option Value) (p0 : Program)
    (dp un : Nat) (gd : Option (List Code)) (cn : Str) (cs : Scope) (a : Addr) (ccd : Value) (cl : List (Str × Addr)) (outer : List Env) (A₀ : Around) (base g₀ h₀ : Heap) (L : Addr) (m : Str → Option Value) (s : Shared) (Q E : Value → Shared → Prop)
    (x dx : Addr) (ns : Nat) (rest : List (Addr × Obj)) (a1 a2 a3 a4 a5 a6 a7 t1 t2 t3 t4 t5 t6 t7 : Tok),
    Below A₀ base outer h₀ → Fr h₀ L s.heap m → (Kf w.params).In h₀ → News h₀ L s.heap (LED w.params x dx ns a1 a2 a3 a4 a5 a6 t1 t2 t3 t4 t5 t6 σ.cur σ.c σ.l σ.lb σ.bra σ.ket (ip w.params a7 σ.p1 t7) rest) → Top p0 loose mean mg mb h₀ → (Kf w.params).In base → Top p0 loose mean mg mb base → KtsDicts (outer.filterMap (·.frame)) h₀ → KtsTurn (outer.filterMap (·.frame)) g₀ h₀ → cs.kind = .function →
    dp + need < recursionLimit → un + 8 * need < cLine → x ≠ dx → (∀ p ∈ rest, p.1 ≠ dx) → pre base →
    (∀ v σ' h' tk' ns' t1' t2' t3' t4' t5' t6' t7' h₁, post v σ' → KtsTurn (outer.filterMap (·.frame)) g₀ h₁ → Fr h₁ L h' m → News h₁ L h' (LED w.params x dx ns' a1 a2 a3 a4 a5 a6 t1' t2' t3' t4' t5' t6' σ'.cur σ'.c σ'.l σ'.lb σ'.bra σ'.ket (ip w.params a7 σ'.p1 t7') rest) →
      Below A₀ base outer h₁ → (Kf w.params).In h₁ → Top p0 loose mean mg mb h₁ → KtsDicts (outer.filterMap (·.frame)) h₁ → Q v { s with heap := h', toks := tk' }) →
    wpAny (MD w) (ktrTop dp un gd cn cs L a ccd cl outer) (call (.ref f) (.ref x :: args)) Q E s
theorem MethSX.use {w : World} {f : Addr} {args : List Value} {need : Nat} {pre : Heap → Prop} {σ : St} {post : Value → St → Prop} (M : MethSX w f args need pre σ post)
    {loose : List Str} {mean : ExcName → Option Value} {mg mb : Str → Option Value} {p0 : Program}
    {dp un : Nat} {gd : Option (List Code)} {cn : Str} {cs : Scope} {a : Addr} {ccd : Value} {cl : List (Str × Addr)} {outer : List Env} {A₀ : Around} {base g₀ h₀ : Heap} {L : Addr} {m : Str → Option Value} {s : Shared} {Q E : Value → Shared → Prop}
    {x dx : Addr} {ns : Nat} {rest : List (Addr × Obj)} {a1 a2 a3 a4 a5 a6 a7 t1 t2 t3 t4 t5 t6 t7 : Tok}
    (B : Below A₀ base outer h₀) (F : Fr h₀ L s.heap m) (X : (Kf w.params).In h₀) (N : News h₀ L s.heap (LED w.params x dx ns a1 a2 a3 a4 a5 a6 t1 t2 t3 t4 t5 t6 σ.cur σ.c σ.l σ.lb σ.bra σ.ket (ip w.params a7 σ.p1 t7) rest)) (T : Top p0 loose mean mg mb h₀)
    (XB : (Kf w.params).In base) (TB : Top p0 loose mean mg mb base) (D : KtsDicts (outer.filterMap (·.frame)) h₀) (T0 : KtsTurn (outer.filterMap (·.frame)) g₀ h₀) (hk : cs.kind = .function)
    (hd : dp + need < recursionLimit) (hu : un + 8 * need < cLine) (hx : x ≠ dx) (hr : ∀ p ∈ rest, p.1 ≠ dx) (hp : pre base)
    (h : ∀ v σ' h' tk' ns' t1' t2' t3' t4' t5' t6' t7' h₁, post v σ' → KtsTurn (outer.filterMap (·.frame)) g₀ h₁ → Fr h₁ L h' m → News h₁ L h' (LED w.params x dx ns' a1 a2 a3 a4 a5 a6 t1' t2' t3' t4' t5' t6' σ'.cur σ'.c σ'.l σ'.lb σ'.bra σ'.ket (ip w.params a7 σ'.p1 t7') rest) →
      Below A₀ base outer h₁ → (Kf w.params).In h₁ → Top p0 loose mean mg mb h₁ → KtsDicts (outer.filterMap (·.frame)) h₁ → Q v { s with heap := h', toks := tk' }) :
    wpAny (MD w) (ktrTop dp un gd cn cs L a ccd cl outer) (call (.ref f) (.ref x :: args)) Q E s :=
  M _ _ _ _ _ _ _ _ _ _ _ _ _ _ _ _ _ _ _ _ _ _ _ _ _ _ _ _ _ _ _ _ _ _ _ _ _ _ _ _ _ B F X N T XB TB D T0 hk hd hu hx hr hp h
theorem stemWord_sx {w : World} {wd : Str} {tw : Tok} (σ : St) (h3 : wd.length < 100) :
    MethSX w 189 [.str wd tw] 6 (fun h => SetHas w h 230 V ∧ SetHas w h 231 SE ∧ SetHas w h 232 OE ∧ TabIn w.params h 338 A0 ∧ TabIn w.params h 453 A1 ∧ TabIn w.params h 475 A2 ∧ TabIn w.params h 491 A3) σ (fun v σ' => ∃ r t, v = .str r t ∧ Stem (ls wd) (ls r)) := by
  unfold MethSX MD
  k_fill
  intro loose mean mg mb p0 dp un gd cn cs a ccd cl outer A₀ base g₀ h₀ L m s Q E x dx ns rest a1 a2 a3 a4 a5 a6 a7 t1 t2 t3 t4 t5 t6 t7 B F X N T XB TB D T0 hk hd hu hx hrest hpre hret
  obtain ⟨cur, c, l, lb, bra, ket, p1⟩ := σ
  simp only at *
  refine wpAny_call ?_
  k_dflt (refine' code_defSX (binds := [("self", .ref x), ("word", .str wd tw)]) ?k1 ?k2 ?k3 ?k4 ?k5 ?XB ?TB ?D ?T0 ?kA ?kF ?kK ?k6 ?k7 ?k8 ?k9 ?kB ?_ ?c2 ?c3 ?c4 ?c5; (case kA | kF => exact rfl); (case kK => assumption); (case k2 | k1 => k_asm); (case XB | TB | D | T0 => assumption); (case k3 | k4 | k5 => k_asm); (case k6 | k7 => k_is); (case k8 => ktr_room); (case k9 => exact BindsTo.of_eq rfl); (case kB => exact locs rfl); (case c2 | c3 | c4 => exact rfl); (case c5 => decide))
  intro g' L' h' FG' F' N' B' X' T' D'
  ((conv in (execs _ _) => arg 1; whnf); (try dsimp only); (show wpAny _ _ (execs _ _) _ _ _); k_fold)
  (repeat' (first | (k_unfold; (try dsimp only)) | (k_end; wrow_close) | ((with_reducible show wpAny _ _ (call (Value.ref _) _ _) _ _ _); ((with_reducible show wpAny _ _ (call (Value.ref 274) _) _ _ _); k_dflt (refine' MethS.use (stem_spec ⟨_, _, _, _, _, _, _⟩ ?g0 ?g1 ?g2) ?kB ?kF ?kX ?kN ?kT ?kXB ?kTB ?kD ?kT0 ?kk ?kd ?ku ?kx ?kr ?kp ?_); (case kB => assumption); (case kF => k_asm); (case kX => assumption); (case kN => k_asm); (case kT | kXB | kTB | kD => assumption); (case kT0 => first | assumption | exact KtsTurn.refl); (case kk => first | exact rfl | assumption); (case kd => ktr_room); (case ku => ktr_units); (case kx | kr | kp => assumption); (case g0 | g1 | g2 => ((try dsimp only) <;> (first | omega | assumption | exact rfl | decide +kernel))); intro v9q σ9 h9q tk9q ns9q b1q b2q b3q b4q b5q b6q b7q g9q hp9q T9q F9q N9q B9q X9q P9q D9q; rcases hp9q with ⟨e1, c9, l8, k9, r9, p9, e2, hl9, hS9⟩; all_goals ((try subst e1); (try subst e2); (try k_sweep); (try dsimp only at N9q hl9 hS9 ⊢)))) | ((with_reducible show wpAny _ _ (call (Value.ref _) _ _) _ _ _); ((with_reducible show wpAny _ _ (call (Value.ref 49) _) _ _ _); k_dflt (refine' MethG.use (get_current_spec ⟨_, _, _, _, _, _, 0⟩ ) ?kB ?kF ?kX ?kN ?kT ?kk ?kd ?ku ?kx ?kr ?kp ?ktl ?_); (case kB | kF | kX | kN | kT => k_asm); (case kk => first | exact rfl | assumption); (case kd => ktr_room); (case ku => ktr_units); (case kx | kr => assumption); (case ktl => first | assumption | exact Nat.le_of_ble_eq_true rfl); (case kp => first | exact trivial | assumption); intro v9q σ9 h9q tk9q ns9q b1q b2q b3q b4q b5q b6q hp9q F9q N9q; rcases hp9q with ⟨t9, e1, e2⟩; all_goals ((try subst e1); (try subst e2); (try k_sweep); (try dsimp only at N9q ⊢)))) | ((with_reducible show wpAny _ _ (call (Value.ref _) _ _) _ _ _); ((with_reducible show wpAny _ _ (call (Value.ref 42) _) _ _ _); k_dflt (refine' MethG.use (set_current_spec (wd := _) (tw := _) ⟨_, _, _, _, _, _, 0⟩ ?g0) ?kB ?kF ?kX ?kN ?kT ?kk ?kd ?ku ?kx ?kr ?kp ?ktl ?_); (case kB | kF | kX | kN | kT => k_asm); (case kk => first | exact rfl | assumption); (case kd => ktr_room); (case ku => ktr_units); (case kx | kr => assumption); (case ktl => first | assumption | exact Nat.le_of_ble_eq_true rfl); (case kp => first | exact trivial | assumption); (case g0 => ((try dsimp only) <;> (first | omega | assumption | exact rfl | decide +kernel))); intro v9q σ9 h9q tk9q ns9q b1q b2q b3q b4q b5q b6q hp9q F9q N9q; rcases hp9q with ⟨e1, l9, e2, q9⟩; all_goals ((try subst e1); (try subst e2); (try k_sweep); (try dsimp only at N9q q9 ⊢)))) | walk1 | (dsimp only; walk1) | (leave1; try dsimp only) | fail))
  all_goals (refine hret _ ⟨_, _, _, _, _, _, _⟩ _ _ _ _ _ _ _ _ _ _ _ ?_ (by assumption) (by assumption) (by assumption) (by assumption) (by assumption) (by assumption) (by assumption))
  all_goals (rename (Stem _ _) => hS; exact ⟨_, _, rfl, hS⟩)
end PartW14
section PartWL5
open PySem PySem.W PyProof.Rows PySem.Calls
theorem stem_facts {la r : Str} (h : Stem (ls la) (ls r)) : r.length ≤ la.length ∧ la.length ≤ r.length + 11 ∧ ls r = (ls la).take r.length ∧ regP (ls la) ≤ r.length ∧ (r = la ↔ rests (ls la) = true) ∧ (0 < lawStart (ls la) → lawStart (ls r) = lawStart (ls la)) := by
  obtain ⟨k, h1, h2, h3⟩ := stem_take h
  have l1 := ls_len la
  have l2 := ls_len r
  have hreg := reg_le (ls la)
  have l3 : r.length = la.length - k := by rw [← l2, h3, List.length_take, l1]; omega
  have e : ls r = (ls la).take r.length := by rw [h3, l3, l1]
  refine ⟨by omega, by omega, e, by omega, ?_, fun h0 => ?_⟩
  · rw [← stem_rests h]
    exact ⟨fun q => by rw [q], fun q => ls_inj q⟩
  · rw [e]
    refine start_take h0 ?_
    rcases start_reg (ls la) with ⟨q, _⟩ | ⟨q, _⟩ <;> omega
theorem no0 {la r : Str} (h3 : ls r = (ls la).take r.length) (h1 : r.length ≤ la.length) : (r != Txt.slice la none (some (r.length : Int))) = false := by
  have e : Txt.slice la none (some (r.length : Int)) = Txt.slice la (some 0) (some (r.length : Int)) := rfl
  have : r = Txt.slice la none (some (r.length : Int)) := by
    refine ls_inj ?_
    rw [e, ls_slice (by omega) (by omega) (by omega), h3]
    simp
  rw [← this]
  simp
theorem no1 {la r : Str} {st : Int} (p2 : 0 < st → lawStart (ls la) = st) (h2 : la.length ≤ r.length + 11) (h4 : regP (ls la) ≤ r.length) : ¬ ((r.length : Int) < if (la.length : Int) - 11 > st then (la.length : Int) - 11 else st) := by
  have : st ≤ r.length := by
    by_cases h : 0 < st
    · have := p2 h
      rcases start_reg (ls la) with ⟨q, _⟩ | ⟨q, _⟩ <;> omega
    · omega
  split <;> omega
theorem no2 {la r : Str} (h : r = la ↔ rests (ls la) = true) : ((r == la) != rests (ls la)) = false := by
  by_cases e : r = la
  · rw [h.mp e, e]; simp
  · have : rests (ls la) = false := by
      cases q : rests (ls la) with
      | false => rfl
      | true => exact absurd (h.mpr q) e
    rw [this]; simp [e]
theorem lt4 {la r : Str} (h3 : ls r = (ls la).take r.length) (h1 : r.length ≤ la.length) (hne : (r == la) = false) : r.length < la.length := by
  rcases Nat.lt_or_eq_of_le h1 with h | h
  · exact h
  · exfalso
    have l1 := ls_len la
    have : r = la := ls_inj (by rw [h3, h, ← l1, List.take_length])
    rw [this] at hne
    simp at hne
structure LS where
  la : Str
  ta : Tok
  ns : Nat
  t1 : Tok
  t2 : Tok
  t3 : Tok
  t4 : Tok
  t5 : Tok
  t6 : Tok
  cur : Str
  c : Int
  l : Int
  lb : Int
  bra : Int
  ket : Int
  tl : List DictEntry
theorem end_LS {w : World} {h₀ : Heap} {L x dx a1 a2 a3 a4 a5 a6 q1 q2 q3 : Nat} {wd r9 : Str} {tot st : Int} {t9 ns9 u1 u2 u3 u4 u5 u6 : Nat} {cur9 : Str} {c9 l9 lb9 bra9 ket9 : Int} {tl9 : List DictEntry} {own : List (Addr × Obj)} {m' m₀ : Str → Option Value} {h' : Heap} {tk : Nat} {s₁ : Shared} {pre : List Int} {adr : List Addr}
    (F : Fr h₀ L h' m') (N : News h₀ L h' (LED w.params x dx ns9 a1 a2 a3 a4 a5 a6 u1 u2 u3 u4 u5 u6 cur9 c9 l9 lb9 bra9 ket9 tl9 own)) (hT : Tl w.params tl9) (ha : [x, dx] = adr)
    (hk : ∀ p ∈ ([("word", .str wd q1), ("total", .int tot q2), ("start", .int st q3), ("stemmer", .ref x), ("last", .str r9 t9)] : List (Str × Value)), m' p.1 = some p.2)
    (hr : ∀ z, z ≠ Str.ofString "turn" → (∀ p ∈ ([("word", .str wd q1), ("total", .int tot q2), ("start", .int st q3), ("stemmer", .ref x), ("last", .str r9 t9)] : List (Str × Value)), z ≠ p.1) → [Str.ofString "told"].contains z = false → m' z = m₀ z)
    (hp : r9.length + pre.length ≤ wd.length ∧ (0 < st → lawStart (ls r9) = st)) :
    InvEndN h₀ L (KstS (fun c : LS => LED w.params x dx c.ns a1 a2 a3 a4 a5 a6 c.t1 c.t2 c.t3 c.t4 c.t5 c.t6 c.cur c.c c.l c.lb c.bra c.ket c.tl []) (fun c => [("word", .str wd q1), ("total", .int tot q2), ("start", .int st q3), ("stemmer", .ref x), ("last", .str c.la c.ta)]) (fun c => Tl w.params c.tl) (Str.ofString "turn") [Str.ofString "told"] m₀
      (fun pre c => c.la.length + pre.length ≤ wd.length ∧ (0 < st → lawStart (ls c.la) = st)) pre) own adr s₁ { s₁ with heap := h', toks := tk } :=
  kst_end (⟨r9, t9, ns9, u1, u2, u3, u4, u5, u6, cur9, c9, l9, lb9, bra9, ket9, tl9⟩ : LS) F N (fun p hp => by rcases List.mem_cons.mp hp with rfl | hp; exact .head _; rcases List.mem_cons.mp hp with rfl | hp; exact .tail _ (.head _); cases hp) (fun p hp => .tail _ (.tail _ hp)) ha hT hk hr hp
theorem law_stems {w : World} {loose : List Str} {mean : ExcName → Option Value} {mg mb : Str → Option Value} {p0 : Program} {h₀ : Heap} {L x dx : Addr} {u : Str → Option Value} {s : Shared} {Q : Flow → Shared → Prop} {E0 : Value → Shared → Prop} {dp un ns a1 a2 a3 a4 a5 a6 t1 t2 t3 t4 t5 t6 q1 q2 q3 q4 : Nat} {tot st : Int} {gd : Option (List Code)} {cur wd : Str} {c l lb bra ket : Int} {tl : List DictEntry}
    (hd : dp + 20 < recursionLimit) (hu : un + 200 < cLine) (htl : Tl w.params tl) (hw : wd.length ≤ 18) (hst : st = lawStart (ls wd))
    (B : Below callerA h₀ [] h₀) (F : Fr h₀ L s.heap (kstB u [("word", .str wd q1), ("total", .int tot q2), ("start", .int st q3), ("stemmer", .ref x), ("last", .str wd q4)])) (X : (Kf w.params).In h₀) (N : News h₀ L s.heap (LED w.params x dx ns a1 a2 a3 a4 a5 a6 t1 t2 t3 t4 t5 t6 cur c l lb bra ket tl [])) (T : Top p0 loose mean mg mb h₀)
    (S1 : SetHas w h₀ 230 V) (S2 : SetHas w h₀ 231 SE) (S3 : SetHas w h₀ 232 OE) (hx : x ≠ dx)
    (hret : ∀ (u : Str → Option Value) (la : Str) (q2 q3 q4 ns t1 t2 t3 t4 t5 t6 : Nat) (cur : Str) (c l lb bra ket : Int) (tl : List DictEntry) (h : Heap) (tk : Nat), TlI w.params tl → Str.length la ≤ 18 → rests (ls la) = true → (0 < st → lawStart (ls la) = st) → Fr h₀ L h (kstB u [("total", .int tot q2), ("start", .int st q3), ("stemmer", .ref x), ("last", .str la q4)]) →
      News h₀ L h (LED w.params x dx ns a1 a2 a3 a4 a5 a6 t1 t2 t3 t4 t5 t6 cur c l lb bra ket tl []) → Q .next { s with heap := h, toks := tk }) :
    wpAny (MD w) (AL dp un gd L) (exec (stA (fnB (stA tb0 24)) 7) (EL L)) Q (EX w dp un gd L E0) s := by
  revert B F X N T S1 S2 S3
  unfold MD
  k_fill
  intro B F X N T S1 S2 S3
  conv in (exec _ _) => arg 1; whnf
  try dsimp only
  try k_fold
  (repeat' (first | (k_unfold; (try dsimp only)) | (k_end; wrow_close) | with_reducible ((with_reducible show wpAny _ _ (pyIter (Value.ref _)) _ _ _); (refine Stop.intro ?_)) | walk1 | (dsimp only; walk1) | (leave1; try dsimp only) | fail))
  unfold Stop
  rename (IsRange _ _ _ _ _ _ _ _) => R9
  rename (Fr _ _ _ _) => F9
  rename (News _ _ _ _) => N9
  refine kst_range (σ := LS) (n := wd.length + 1) (fun c => LED w.params x dx c.ns a1 a2 a3 a4 a5 a6 c.t1 c.t2 c.t3 c.t4 c.t5 c.t6 c.cur c.c c.l c.lb c.bra c.ket c.tl []) (fun c => [("word", .str wd q1), ("total", .int tot q2), ("start", .int st q3), ("stemmer", .ref x), ("last", .str c.la c.ta)]) (fun c => Tl w.params c.tl) ["told"]
    (fun pre c => c.la.length + pre.length ≤ wd.length ∧ (0 < st → lawStart (ls c.la) = st)) ⟨wd, q4, ns, t1, t2, t3, t4, t5, t6, cur, c, l, lb, bra, ket, tl⟩ rfl R9 (by first | exact small_one (by omega) (by omega) (by omega) (by omega) | omega) (by have := rangeSize_nat 0 (wd.length + 1); simpa using this) F9 N9 htl (by kst_all) ⟨by simp, fun _ => hst.symm⟩ ?_ ?_
  · rintro ⟨la, ta, ns, t1, t2, t3, t4, t5, t6, cur, c, l, lb, bra, ket, tl⟩ pre k2 t u2 h9 tk9 own ek3 hlen hoff htl2 ⟨p1, p2⟩ F9 N9
    try dsimp only at p1
    try dsimp only at p2
    try dsimp only at F9
    try dsimp only at N9
    try dsimp only at htl2
    try simp only [List.cons_append, List.nil_append] at N9
    have hro : ∀ p ∈ own, p.1 ≠ dx := fun p hp => hoff p hp dx (.tail _ (.head _))
    show wpAny _ _ (execs _ _) _ _ _
    k_fold
    (repeat' (first | (k_unfold; (try dsimp only)) | (k_end; wrow_close) | ((with_reducible show wpAny _ _ (call (Value.ref _) _ _) _ _ _); ((with_reducible show wpAny _ _ (call (Value.ref 564) _) _ _ _); k_dflt (refine' law_rests_spec ?g0 _ _ _ _ _ _ _ _ _ _ _ _ _ _ _ _ _ _ _ _ _ _ _ ?kB ?kF ?kX ?kN ?kT ?kk ?kd ?ku ?_); (case kB => assumption); (case kF => k_asm); (case kX => assumption); (case kN => k_asm); (case kT => assumption); (case kk => exact rfl); (case kd | ku | g0 => omega); intro v9q h9q tk9q hp9q F9q N9q; subst hp9q; (try k_sweep))) | ((with_reducible show wpAny _ _ (call (Value.ref _) _ _) _ _ _); ((with_reducible show wpAny _ _ (call (Value.ref 189) _) _ _ _); k_dflt (refine' stem_call ?tl ?h3 ?hd ?hu ?B ?F ?X ?N ?T ?S1 ?S2 ?S3 ?hx ?hr ?_); (case B => assumption); (case F => k_asm); (case X => assumption); (case N => k_asm); (case T | tl => assumption); (case h3 | hd | hu => omega); (case S1 | S2 | S3 | hx | hr => assumption); intro r9q t9q ns9q u1q u2q u3q u4q u5q u6q cur9q c9q l9q lb9q bra9q ket9q tl9q h9q tk9q hT9q hS9q F9q N9q; (have hq9q := stem_facts hS9q); obtain ⟨hq1, hq2, hq3, hq4, hq5, hq6⟩ := hq9q; (have hU9q : Tl _ _ := Or.inr hT9q); (try k_sweep))) | with_reducible ((with_reducible show wpAny _ _ (getMethod _ _ _) _ _ _); ((try dsimp only); (with_reducible show wpAny _ _ (getMethod (Value.ref _) (PySem.Str.ofString "stemWord") _) _ _ _); k_dflt (refine' m_stemWord ?tl ?F ?X ?N ?_; (case tl => assumption); (case F => k_asm); (case X => assumption); (case N => k_asm)); k_whole; (try dsimp only))) | walk1 | (dsimp only; walk1) | (leave1; try dsimp only) | fail))
    all_goals (rename (Stem _ _) => hS9; rename (Tl _ _) => hT9; rename (TlI _ _) => hI9; rename (ls _ = List.take _ _) => hq3; rename (regP _ ≤ _) => hq4; rename (_ ↔ _) => hq5; rename (0 < lawStart _ → _) => hq6)
    all_goals (have hq1 := (stem_facts hS9).1; have hq2 := (stem_facts hS9).2.1)
    · rename ((_ != Txt.slice _ _ _) = true) => z1
      rw [no0 hq3 hq1] at z1
      cases z1
    · rename (_ < ite _ _ _) => z1
      exact absurd z1 (no1 p2 hq2 hq4)
    · rename ((_ != rests _) = true) => z1
      rw [no2 hq5] at z1
      cases z1
    · rename ((_ == _) = true) => z1
      rename (Fr _ _ _ _) => F8
      rename (News _ _ _ _) => N8
      exact hret _ la _ _ _ _ _ _ _ _ _ _ _ _ _ _ _ _ _ _ _ hI9 (by omega) (hq5.mp (eq_of_beq z1)) p2 (Fr.toB F8 _ (by kst_all)) (fun p hp => N8 p (by rcases List.mem_cons.mp hp with rfl | hp; exact .head _; rcases List.mem_cons.mp hp with rfl | hp; exact .tail _ (.head _); cases hp))
    · rename ((_ == _) = false) => z1
      rename (Fr _ _ _ _) => F8
      rename (News _ _ _ _) => N8
      have hlt := lt4 hq3 hq1 z1
      refine end_LS F8 N8 hT9 rfl (by kst_all) ?_ ?_
      · intro z z1 z2 z3
        have d1 := z2 _ (.head _)
        have d2 := z2 _ (.tail _ (.head _))
        have d3 := z2 _ (.tail _ (.tail _ (.head _)))
        have d4 := z2 _ (.tail _ (.tail _ (.tail _ (.head _))))
        have d5 := z2 _ (.tail _ (.tail _ (.tail _ (.tail _ (.head _)))))
        have d6 : z ≠ Str.ofString "told" := fun e => by subst e; revert z3; decide +kernel
        simp only [kstB, if_neg z1, if_neg d1, if_neg d2, if_neg d3, if_neg d4, if_neg d5, if_neg d6, z3, Bool.false_eq_true, if_false]
      · refine ⟨by rw [List.length_append, List.length_singleton]; omega, fun h0 => ?_⟩
        rw [hq6 (by rw [p2 h0]; exact h0)]
        exact p2 h0
  · rintro ⟨la, ta, ns, t1, t2, t3, t4, t5, t6, cur, c, l, lb, bra, ket, tl⟩ u2 h9 tk9 htl2 ⟨p1, p2⟩ F9 N9
    try dsimp only at p1
    rw [rangeKs_length] at p1
    omega
end PartWL5
section PartWL6
open PySem PySem.W PyProof.Rows PySem.Calls
noncomputable abbrev scW : Scope := { kind := ScopeKind.function, names := [(".0", NameKind.local), ("word", NameKind.local), ("self", NameKind.free)], isGenerator := false, isCoroutine := false }
noncomputable abbrev envW (L' : Addr) : Env := envOfC "BaseStemmer.stemWords" (fnS (stA (clB (stA tb0 2)) 23)) L' 194 (.ref 193)
noncomputable def cmpE : Stmt → PySem.Expr | .Return (some (.ListComp e _ _ _)) _ => e | _ => .Name "" default
noncomputable def InvW (w : World) (L L' x dx Dt n a1 a2 a3 a4 a5 a6 : Nat) (oL oc : Obj) (ws : List Value) (news : List (Addr × Obj)) : Prop :=
  ∃ sl ns t1 t2 t3 t4 t5 t6 cur c l lb bra ket tl, TlI w.params tl ∧ news = (L, ({ oL with slots := sl } : Obj)) :: (L' + 1, oc) :: LED w.params x dx ns a1 a2 a3 a4 a5 a6 t1 t2 t3 t4 t5 t6 cur c l lb bra ket tl [(Dt, W.listOf ws.toArray n)]
theorem comp_stems {w : World} {loose : List Str} {mean : ExcName → Option Value} {mg mb : Str → Option Value} {p0 : Program} {h₀ g : Heap} {L L' x dx Dt : Addr} {m : Str → Option Value} {s : Shared} {dp un n a1 a2 a3 a4 a5 a6 ep : Nat} {gd : Option (List Code)} {oL oc : Obj} {es : Array DictEntry} {ws : List Value} {ys rs : List Str} {Fin : List Value → List (Addr × Obj) → Prop}
    (hd : dp + 20 < recursionLimit) (hu : un + 200 < cLine)
    (B : Below (AL dp un gd L) h₀ [envX "law" (fnS (stA tb0 24)) L 569 (.ref 568) []] g) (X : (Kf w.params).In h₀) (T : Top p0 loose mean mg mb h₀) (hL₀ : h₀.get? L = none) (hgL : g.get? L = some oL) (hoL : oL.data = .dict es ep)
    (ngx : g.get? x = none) (ngd : g.get? dx = none) (ngD : g.get? Dt = none) (ngc : g.get? (L' + 1) = none) (hLn : L ≠ x ∧ L ≠ dx ∧ L ≠ Dt ∧ L ≠ L' + 1 ∧ L ≠ L') (hgs : g.objs.size ≤ L')
    (S1 : SetHas w h₀ 230 V) (S2 : SetHas w h₀ 231 SE) (S3 : SetHas w h₀ 232 OE) (hx : x ≠ dx) (hD : Dt ≠ dx) (hcd : L' + 1 ≠ dx) (hoc : oc.data = .cell (some (.ref x)))
    (hS : StrsAre ws ys) (hlen : rs.length = ys.length) (hy : ∀ y ∈ ys, Str.length y < 100) (hrs : ∀ (i : Nat) (y r : Str), ys[i]? = some y → Stem (ls y) (ls r) → rs[i]? = some r)
    (fin : ∀ zs news, InvW w L L' x dx Dt n a1 a2 a3 a4 a5 a6 oL oc ws news → StrsAre zs rs → Fin zs news) :
    ∀ k i zs news, InvW w L L' x dx Dt n a1 a2 a3 a4 a5 a6 oL oc ws news → i + k = ys.length → StrsAre zs (rs.take i) →
      LCg.CompRest (PySem.Challenge.rw_is0010_01).prog w ((AL dp un gd L).deeper (envW L')) (hideAll g [L]) L' m (envW L') (cmpE (stA (fnB (stA (clB (stA tb0 2)) 23)) 0)) "word" scW [("self", L' + 1)] s (LCg.SrcAt (hideAll g [L]) Dt ws.toArray) (fun i v => ws.toArray[i]? = some v) Fin k i zs news := by
  revert X
  k_fill
  intro X k
  induction k with
  | zero =>
    intro i zs news hI e hz
    rw [List.take_of_length_le (by omega)] at hz
    exact LCg.CompRest.zero (fin zs news hI hz)
  | succ k ih =>
    rintro i zs news ⟨sl, ns, t1, t2, t3, t4, t5, t6, cur, c, l, lb, bra, ket, tl, hT, rfl⟩ e hz
    refine LCg.CompRest.succ fun v I oI C oC D m₂ h tk E' hv hC hxm F N off hd3 => ?_
    obtain ⟨y, t, hyi, rfl⟩ := (strs_get hS).2 i v (by simpa using hv)
    have hg0 : ∀ b, b ≠ L → (hideAll g [L]).get? b = g.get? b := fun b hb => by
      cases q : g.get? b with
      | none => cases q2 : (hideAll g [L]).get? b with
        | none => rfl
        | some o => rw [of_hideAll _ q2] at q; cases q
      | some o => exact hideAll_get _ q (by simpa using hb)
    have st0 : h₀.StaysIn (hideAll g [L]) := fun b o q => by
      have hb : b ≠ L := fun z => by rw [z, hL₀] at q; cases q
      rw [hg0 b hb]; exact B.stays b o q
    have X0 : (Kf w.params).In (hideAll g [L]) := X.keeps st0
    have T0 : Top p0 loose mean mg mb (hideAll g [L]) := T.keeps st0
    have hU : Tl w.params tl := .inr hT
    have hgC := (N (C, oC) (.tail _ (.head _))).1
    have NL := (N (L, ({ oL with slots := sl } : Obj)) (.tail _ (.tail _ (.tail _ (.head _))))).1
    have NB : News (hideAll g [L]) L' h (LED w.params x dx ns a1 a2 a3 a4 a5 a6 t1 t2 t3 t4 t5 t6 cur c l lb bra ket tl [(Dt, W.listOf ws.toArray n), (I, oI), (C, oC), (D, LCg.lst zs), (L' + 1, oc)]) := fun p hp => N p (by
      simp only [List.mem_cons, List.not_mem_nil, or_false] at hp ⊢
      rcases hp with rfl | rfl | rfl | rfl | rfl | rfl | rfl <;> simp)
    conv in (eval _ _) => arg 1; whnf
    try dsimp only
    (repeat' (first | (k_unfold; (try dsimp only)) | (k_end; wrow_close) | with_reducible ((with_reducible show wpAny _ _ (call (Value.ref _) _ _) _ _ _); ((with_reducible show wpAny _ _ (call (Value.ref 189) _) _ _ _); refine Stop.intro ?_)) | with_reducible ((with_reducible show wpAny _ _ (getMethod _ _ _) _ _ _); ((try dsimp only); (with_reducible show wpAny _ _ (getMethod (Value.ref _) (PySem.Str.ofString "stemWord") _) _ _ _); k_dflt (refine' m_stemWord ?tl ?F ?X ?N ?_; (case tl | F | X | N => assumption)); k_whole; (try dsimp only))) | walk1 | (dsimp only; walk1) | (leave1; try dsimp only) | fail))
    unfold Stop
    have hymem := List.mem_of_getElem? hyi
    have offL := off.mem _ (.head _)
    have nm : ∀ p ∈ LED w.params x dx ns a1 a2 a3 a4 a5 a6 t1 t2 t3 t4 t5 t6 cur c l lb bra ket tl [(Dt, W.listOf ws.toArray n), (I, oI), (C, oC), (D, LCg.lst zs), (L' + 1, oc)], p.1 ≠ L := fun p hp => by
      simp only [List.mem_cons, List.not_mem_nil, or_false] at hp
      rcases hp with rfl | rfl | rfl | rfl | rfl | rfl | rfl
      · exact Ne.symm hLn.1
      · exact Ne.symm hLn.2.1
      · exact Ne.symm hLn.2.2.1
      · exact Ne.symm offL.1
      · exact Ne.symm offL.2.1
      · exact Ne.symm offL.2.2
      · exact Ne.symm hLn.2.2.2.1
    have hLh : (hideAll g [L]).get? L = none := hideAll_none _ (.head _)
    have hDk : KtsDicts [L] g := fun b hb => by rw [List.mem_singleton.mp hb]; exact ⟨_, _, _, hgL, hoL⟩
    obtain ⟨T1, K1⟩ := kts_turn_at (fs := [L]) (g := g) (h := h) (fun b hb => by rw [List.mem_singleton.mp hb]; exact ⟨_, hgL⟩)
      (fun b o q hb => F.keep b o (by rw [hg0 b (by simpa using hb)]; exact q)) (fun b o q hb => by
        obtain rfl := List.mem_singleton.mp hb
        rw [hgL] at q
        cases q
        exact ⟨sl, NL⟩)
    have F1 : Fr (ktsHeap h [L] g) L' h m := ⟨F.ns, K1, by rw [T1.size]; exact hgs⟩
    have B1 := below_turn B T1
    have N1 : News (ktsHeap h [L] g) L' h (LED w.params x dx ns a1 a2 a3 a4 a5 a6 t1 t2 t3 t4 t5 t6 cur c l lb bra ket tl [(Dt, W.listOf ws.toArray n), (I, oI), (C, oC), (D, LCg.lst zs), (L' + 1, oc)]) := fun p hp => ⟨(NB p hp).1, (NB p hp).2.1, T1.none_ _ (by rw [← hg0 _ (nm p hp)]; exact (NB p hp).2.2)⟩
    have pre : SetHas w h₀ 230 V ∧ SetHas w h₀ 231 SE ∧ SetHas w h₀ 232 OE ∧ TabIn w.params h₀ 338 A0 ∧ TabIn w.params h₀ 453 A1 ∧ TabIn w.params h₀ 475 A2 ∧ TabIn w.params h₀ 491 A3 := ⟨S1, S2, S3, tab_338 X, tab_453 X, tab_475 X, tab_491 X⟩
    obtain ⟨a7, p1, t7, rfl⟩ := hT
    have offd := off.mem (dx, dictOf (sD w.params a1 a2 a3 a4 a5 a6 t1 t2 t3 t4 t5 t6 cur c l lb bra ket (ip w.params a7 p1 t7)) ns) (.tail _ (.tail _ (.tail _ (.head _))))
    have hk : (fnS (stA (clB (stA tb0 2)) 23)).kind = .function := by kernel_rfl!
    k_dflt (refine' MethSX.use (stemWord_sx ⟨cur, c, l, lb, bra, ket, p1⟩ (hy y hymem)) B1 F1 (X.keeps B1.stays) N1 (T.keeps B1.stays) X T (hDk.turn T1) T1 hk ?kd ?ku hx ?kr pre ?_)
    case kd => ktr_room
    case ku => ktr_units
    case kr =>
      intro p hp
      simp only [List.mem_cons, List.not_mem_nil, or_false] at hp
      rcases hp with rfl | rfl | rfl | rfl | rfl
      · exact hD
      · exact Ne.symm offd.1
      · exact Ne.symm offd.2.1
      · exact Ne.symm offd.2.2
      · exact hcd
    rintro v σ' h' tk' ns' t1' t2' t3' t4' t5' t6' t7' h₂ ⟨r, t', rfl, hSt⟩ hT2 F2 N2 _ _ _ _
    obtain ⟨sl2, hsl2⟩ := hT2.frame L oL hgL (.head _)
    have F3 : Fr (hideAll g [L]) L' h' m := ⟨F2.ns, fun b o q => F2.keep b o (hT2.other b o (of_hideAll _ q) (fun hb => by
      obtain rfl := List.mem_singleton.mp hb
      rw [hLh] at q; cases q)), by rw [hideAll_size]; exact hgs⟩
    have N3 : News (hideAll g [L]) L' h' ((I, oI) :: (C, oC) :: (D, LCg.lst zs) :: (L, ({ oL with slots := sl2 } : Obj)) :: (L' + 1, oc) :: LED w.params x dx ns' a1 a2 a3 a4 a5 a6 t1' t2' t3' t4' t5' t6' σ'.cur σ'.c σ'.l σ'.lb σ'.bra σ'.ket (ip w.params a7 σ'.p1 t7') [(Dt, W.listOf ws.toArray n)]) := fun p hp => by
      simp only [List.mem_cons, List.not_mem_nil, or_false] at hp
      rcases hp with rfl | rfl | rfl | rfl | rfl | rfl | rfl | rfl
      · have z := N2 (I, oI) (by simp)
        exact ⟨z.1, z.2.1, (NB (I, oI) (by simp)).2.2⟩
      · have z := N2 (C, oC) (by simp)
        exact ⟨z.1, z.2.1, (NB (C, oC) (by simp)).2.2⟩
      · have z := N2 (D, LCg.lst zs) (by simp)
        exact ⟨z.1, z.2.1, (NB (D, LCg.lst zs) (by simp)).2.2⟩
      · exact ⟨F2.keep _ _ hsl2, hLn.2.2.2.2, hLh⟩
      · have z := N2 (L' + 1, oc) (by simp)
        exact ⟨z.1, z.2.1, (NB (L' + 1, oc) (by simp)).2.2⟩
      · have z := N2 _ (.head _)
        exact ⟨z.1, z.2.1, (NB _ (.head _)).2.2⟩
      · have z := N2 _ (.tail _ (.head _))
        exact ⟨z.1, z.2.1, (NB _ (.tail _ (.head _))).2.2⟩
      · have z := N2 (Dt, W.listOf ws.toArray n) (by simp)
        exact ⟨z.1, z.2.1, (NB (Dt, W.listOf ws.toArray n) (by simp)).2.2⟩
    have offm := off.mem
    refine LCg.CompEnd.intro F3 N3 ((L, ({ oL with slots := sl2 } : Obj)) :: (L' + 1, oc) :: LED w.params x dx ns' a1 a2 a3 a4 a5 a6 t1' t2' t3' t4' t5' t6' σ'.cur σ'.c σ'.l σ'.lb σ'.bra σ'.ket (ip w.params a7 σ'.p1 t7') [(Dt, W.listOf ws.toArray n)]) (fun p hp => hp) (LCg.Off3.of fun p hp => ?_) (.inr ⟨_, by simp only [List.mem_cons]; exact .inr (.inr (.inr (.inr (.inl rfl)))), rfl, _, rfl⟩)
      (ih (i + 1) _ _ ⟨sl2, ns', t1', t2', t3', t4', t5', t6', σ'.cur, σ'.c, σ'.l, σ'.lb, σ'.bra, σ'.ket, _, ⟨a7, σ'.p1, t7', rfl⟩, rfl⟩ (by omega) ?_)
    · simp only [List.mem_cons, List.not_mem_nil, or_false] at hp
      rcases hp with rfl | rfl | rfl | rfl | rfl
      · exact offL
      · exact offm _ (.tail _ (.head _))
      · exact offm _ (.tail _ (.tail _ (.head _)))
      · exact offd
      · exact offm (Dt, W.listOf ws.toArray n) (by simp)
    · rw [List.take_add_one, hrs i y r hyi hSt]
      exact strs_snoc hz
theorem stems_call {w : World} {loose : List Str} {mean : ExcName → Option Value} {mg mb : Str → Option Value} {p0 : Program} {h₀ : Heap} {L x dx Dt : Addr} {m : Str → Option Value} {s : Shared} {Q E : Value → Shared → Prop} {dp un ns n a1 a2 a3 a4 a5 a6 t1 t2 t3 t4 t5 t6 : Nat} {gd : Option (List Code)} {cur : Str} {c l lb bra ket : Int} {tl : List DictEntry} {ws : List Value} {ys rs : List Str}
    (htl : TlI w.params tl) (hd : dp + 20 < recursionLimit) (hu : un + 200 < cLine)
    (B : Below callerA h₀ [] h₀) (F : Fr h₀ L s.heap m) (X : (Kf w.params).In h₀) (N : News h₀ L s.heap (LED w.params x dx ns a1 a2 a3 a4 a5 a6 t1 t2 t3 t4 t5 t6 cur c l lb bra ket tl [(Dt, W.listOf ws.toArray n)])) (T : Top p0 loose mean mg mb h₀)
    (S1 : SetHas w h₀ 230 V) (S2 : SetHas w h₀ 231 SE) (S3 : SetHas w h₀ 232 OE) (hx : x ≠ dx) (hD : Dt ≠ dx)
    (hS : StrsAre ws ys) (hlen : rs.length = ys.length) (hsz : ys.length ≤ 1000) (hy : ∀ y ∈ ys, Str.length y < 100) (hrs : ∀ (i : Nat) (y r : Str), ys[i]? = some y → Stem (ls y) (ls r) → rs[i]? = some r)
    (hret : ∀ (D : Addr) (zs : List Value) (h : Heap) (tk : Nat), StrsAre zs rs → Fr h₀ L h m → News h₀ L h [(D, LCg.lst zs), (Dt, W.listOf ws.toArray n)] → Q (.ref D) { s with heap := h, toks := tk }) :
    wpAny (MD w) (AL dp un gd L) (call (.ref 194) [.ref x, .ref Dt]) Q E s := by
  revert B F X N T S1 S2 S3
  unfold MD
  k_fill
  intro B F X N T S1 S2 S3
  refine wpAny_call ?_
  k_dflt (refine' code_defC0 (binds := [("self", .ref x), ("words", .ref Dt)]) ?k1 ?k2 ?k3 ?k4 ?k5 ?kA ?kF ?kK ?k6 ?k7 ?k8 ?k9 ?kB ?kD ?_ ?c2 ?c3 ?c4; (case kA | kF => exact rfl); (case kK => kernel_rfl!); (case k1 | k2 | k3 | k4 | k5 => k_asm); (case k6 | k7 => k_is); (case k8 => (show dp < _; omega)); (case k9 => exact BindsTo.of_eq rfl); (case kB => exact rfl); (case kD => decide +kernel); (case c2 | c3 | c4 => exact rfl))
  intro g' L' h1 tk1 cells' oL es ep FG' F' N' Y' B' X' T' l1 hgL hoL
  (try k_lt l1)
  k_cells Y'
  (try simp only [List.cons_append, List.nil_append] at N')
  ((conv in (execs _ _) => arg 1; whnf); (try dsimp only); (show wpAny _ _ (execs _ _) _ _ _); k_fold)
  (repeat' (first | (k_unfold; (try dsimp only)) | (k_end; wrow_close) | with_reducible ((with_reducible show wpAny _ _ (eval (PySem.Expr.ListComp _ _ _ _) _) _ _ _); (refine Stop.intro ?_)) | walk1 | (dsimp only; walk1) | (leave1; try dsimp only) | fail))
  unfold Stop
  rename Obj => oc
  have hL₀ : h₀.get? L = none := kts_self F
  have st0 : h₀.StaysIn (hideAll g' [L]) := fun b o q => by
    have hb : b ≠ L := fun z => by rw [z, hL₀] at q; cases q
    exact hideAll_get _ (B'.stays b o q) (by simpa using hb)
  have hLlt : L < L' := Nat.lt_of_lt_of_le (Heap.lt_size hgL) F'.above
  have ng : ∀ p ∈ (L' + 1, oc) :: LED w.params x dx ns a1 a2 a3 a4 a5 a6 t1 t2 t3 t4 t5 t6 cur c l lb bra ket tl [(Dt, W.listOf ws.toArray n)], L ≠ p.1 := fun p hp q => by
    have := (N' p hp).2.2
    rw [← q, hgL] at this; cases this
  have hLh : (hideAll g' [L]).get? L = none := hideAll_none _ (.head _)
  have F0 : Fr (hideAll g' [L]) L' h1 (bindL (envW L').kindOf [("self", .ref x), ("words", .ref Dt)] fun _ => none) := ⟨F'.ns, fun b o q => F'.keep b o (of_hideAll _ q), by rw [hideAll_size]; exact F'.above⟩
  have N0 : News (hideAll g' [L]) L' h1 ((L, ({ oL with slots := oL.slots } : Obj)) :: (L' + 1, oc) :: LED w.params x dx ns a1 a2 a3 a4 a5 a6 t1 t2 t3 t4 t5 t6 cur c l lb bra ket tl [(Dt, W.listOf ws.toArray n)]) := fun p hp => by
    rcases List.mem_cons.mp hp with rfl | hp
    · exact ⟨F'.keep _ _ hgL, Nat.ne_of_lt hLlt, hLh⟩
    · refine ⟨(N' p hp).1, (N' p hp).2.1, ?_⟩
      cases q : (hideAll g' [L]).get? p.1 with
      | none => rfl
      | some o => have := of_hideAll _ q; rw [(N' p hp).2.2] at this; cases this
  k_dflt (refine LCg.ListComp_U (cl := [("self", L' + 1)]) F0 (by with_unfolding_all rfl) (by decide) (by rfl) (by decide) (by rfl) ?_)
  refine wpAny_mono (Q := fun v s' => Held (v = .ref Dt ∧ ∃ tk, s' = { s with heap := h1, toks := tk })) ?_ ?_ (fun _ _ x => x)
  · k_steps
    exact ⟨⟨rfl, _, rfl⟩⟩
  rintro v s' ⟨rfl, tk2, rfl⟩
  have hwl := (strs_get hS).1
  refine LCg.CompSrc.ledger rfl F0 N0 (by simp only [List.mem_cons]; exact .inr (.inr (.inr (.inr (.inl rfl))))) (by rw [List.size_toArray, hwl, PySem.sizeLine_eq]; omega) (fun gg => ?_)
  refine comp_stems hd hu B' X T hL₀ hgL hoL (N' _ (.tail _ (.head _))).2.2 (N' _ (.tail _ (.tail _ (.head _)))).2.2 (N' (Dt, W.listOf ws.toArray n) (by simp)).2.2 (N' _ (.head _)).2.2
    ⟨ng _ (.tail _ (.head _)), ng _ (.tail _ (.tail _ (.head _))), ng (Dt, W.listOf ws.toArray n) (by simp), ng _ (.head _), Nat.ne_of_lt hLlt⟩ F'.above S1 S2 S3 hx hD (Nat.ne_of_gt (Nat.lt_succ_of_lt l1.2.1)) (by assumption) hS hlen hy hrs ?_ _ 0 [] _ ⟨oL.slots, ns, t1, t2, t3, t4, t5, t6, cur, c, l, lb, bra, ket, tl, htl, rfl⟩ (by rw [List.size_toArray, hwl, Nat.zero_add]) .nil
  rintro zs news ⟨sl, ns', t1', t2', t3', t4', t5', t6', cur', c', l', lb', bra', ket', tl', hT', rfl⟩ hz D h6 tk6 F6 N6 off6
  have nDL : D ≠ L := Ne.symm off6.1
  have hg0 : ∀ b, b ≠ L → (hideAll g' [L]).get? b = g'.get? b := fun b hb => by
    cases q : g'.get? b with
    | none => cases q2 : (hideAll g' [L]).get? b with
      | none => rfl
      | some o => rw [of_hideAll _ q2] at q; cases q
    | some o => exact hideAll_get _ q (by simpa using hb)
  obtain ⟨T1, K1⟩ := kts_turn_at (fs := [L]) (g := g') (h := h6) (fun b hb => by rw [List.mem_singleton.mp hb]; exact ⟨_, hgL⟩)
    (fun b o q hb => F6.keep b o (by rw [hg0 b (by simpa using hb)]; exact q)) (fun b o q hb => by
      obtain rfl := List.mem_singleton.mp hb
      rw [hgL] at q
      cases q
      exact ⟨sl, (N6 (b, ({ oL with slots := sl } : Obj)) (.tail _ (.head _))).1⟩)
  have F7 : Fr (ktsHeap h6 [L] g') L' h6 _ := ⟨F6.ns, K1, by rw [T1.size]; exact F'.above⟩
  have N7 : News (ktsHeap h6 [L] g') L' h6 [(D, LCg.lst zs), (Dt, W.listOf ws.toArray n)] := fun p hp => by
    rcases List.mem_cons.mp hp with rfl | hp
    · have z := N6 _ (.head _)
      exact ⟨z.1, z.2.1, T1.none_ _ (by rw [← hg0 _ nDL]; exact z.2.2)⟩
    · obtain rfl := List.mem_singleton.mp hp
      have z := N6 (Dt, W.listOf ws.toArray n) (by simp)
      exact ⟨z.1, z.2.1, T1.none_ _ (N' (Dt, W.listOf ws.toArray n) (by simp)).2.2⟩
  exact leaveS0_ F7 N7 T1 fun F8 N8 => hret D zs _ _ hz F8 N8
end PartWL6
section PartWL7
open PySem PySem.W PyProof.Rows PySem.Calls
theorem forms_len : Lforms.length = 28 := by decide +kernel
theorem forms_short : ∀ y ∈ Lforms, Str.length y ≤ 7 := by decide +kernel
/-- the tower: each next word is the last with a form behind it -/
inductive Tw (la : Str) : Nat → List Str → Prop
  | one : Tw la 0 [la]
  | up {n : Nat} {ys : List Str} {y f : Str} : Tw la n ys → ys.getLast? = some y → f ∈ Lforms → Tw la (n + 1) (ys ++ [y ++ f])
theorem Tw.len {la : Str} {n : Nat} {ys : List Str} (h : Tw la n ys) : ys.length = n + 1 := by
  induction h with
  | one => rfl
  | up _ _ _ ih => rw [List.length_append, ih]; rfl
theorem str_app_len (a b : Str) : Str.length (a ++ b) = Str.length a + Str.length b := by
  show (a ++ b).cps.size = a.cps.size + b.cps.size
  rw [Str.cps_append, Array.size_append]
theorem Tw.short {la : Str} {n : Nat} {ys : List Str} (h : Tw la n ys) (hl : la.length ≤ 18) : ∀ y ∈ ys, Str.length y ≤ 18 + 7 * n := by
  induction h with
  | one => intro y hy; rw [List.mem_singleton.mp hy]; omega
  | up _ hy hf ih =>
    intro z hz
    rcases List.mem_append.mp hz with hz | hz
    · have := ih z hz; omega
    · rw [List.mem_singleton.mp hz, str_app_len]
      have h1 := ih _ (List.mem_of_getLast? hy)
      have h2 := forms_short _ hf
      omega
section
variable {prog : Program} {w : World} {A : Around} {E : Value → Shared → Prop} {s : Shared} {h₀ : Heap} {L D : Addr} {us : List Value} {n k : Nat} {led : List (Addr × Obj)} {Q : Value → Shared → Prop} {la : Str} {ys : List Str}
theorem item_last {value slice : PySem.Expr} {u : Tok} (N : News h₀ L s.heap led) (hm : (D, W.listOf us.toArray n) ∈ led) (S : StrsAre us ys) (W : Tw la k ys) (hl : la.length ≤ 18)
    (h : ∀ y t, ys.getLast? = some y → Str.length y ≤ 18 + 7 * k → Q (.str y t) s)
    (hs : subscripted slice false (.ref D) (.int (-1) u) = operate [.ref D, .int (-1) u] (getItem (.ref D) (.int (-1) u)) := by with_unfolding_all rfl) (hg : ∀ r, letTemporaryGo value (.ref D) r = pure () := by intro _; with_unfolding_all rfl) :
    wpAny (model prog w) A (subscriptTail value slice (.ref D) (.int (-1) u)) Q E s := by
  have hlen := W.len
  have hul := (strs_get S).1
  have hsz : us.toArray.size = k + 1 := by rw [List.size_toArray, hul, hlen]
  have hlt : k < us.length := by rw [hul, hlen]; omega
  obtain ⟨y, t, hy, e⟩ := (strs_get S).2 k us[k] (List.getElem?_eq_getElem hlt)
  have hy2 : ys.getLast? = some y := by rw [List.getLast?_eq_getElem?, hlen]; exact hy
  refine subscriptTail_builtin (News.isList N hm).typeIs slot_list_getitem.lookup (wpAny_getItem_list_neg (News.isList N hm) (by decide) (by rw [hsz]; omega) (by decide) (x := .str y t) ?_ (h y t hy2 (W.short hl y (List.mem_of_getElem? hy)))) hs hg
  rw [hsz, List.getElem?_toArray, show ((-1 : Int) + ((k + 1 : Nat) : Int)).toNat = k by omega, List.getElem?_eq_getElem hlt, e]
theorem item_forms {value slice : PySem.Expr} {i : Int} {a : Addr} {u : Tok} (g : GL s.heap a Lforms) (h0 : 0 ≤ i) (h1 : i < 28)
    (h : ∀ y t, y ∈ Lforms → Str.length y ≤ 7 → Q (.str y t) s)
    (hs : subscripted slice false (.ref a) (.int i u) = operate [.ref a, .int i u] (getItem (.ref a) (.int i u)) := by with_unfolding_all rfl) (hg : ∀ r, letTemporaryGo value (.ref a) r = pure () := by intro _; with_unfolding_all rfl) :
    wpAny (model prog w) A (subscriptTail value slice (.ref a) (.int i u)) Q E s := by
  obtain ⟨vs, hl, hS⟩ := g
  have hlt : i.toNat < vs.length := by rw [(strs_get hS).1, forms_len]; omega
  obtain ⟨y, t, hy, e⟩ := (strs_get hS).2 i.toNat vs[i.toNat] (List.getElem?_eq_getElem hlt)
  have hm := List.mem_of_getElem? hy
  refine PyProof.Rows.item_list hl h0 (by omega) (x := .str y t) ?_ (h y t hm (forms_short y hm)) hs hg
  rw [List.getElem?_toArray, List.getElem?_eq_getElem hlt, e]
end
theorem end_TW {w : World} {h₀ : Heap} {L x dx Dt D2 a1 a2 a3 a4 a5 a6 q2 q3 q4 ns t1 t2 t3 t4 t5 t6 n : Nat} {oP : Obj} {us : List Value} {la : Str} {tot st : Int} {cur : Str} {c l lb bra ket : Int} {tl : List DictEntry} {own : List (Addr × Obj)} {m' m₀ : Str → Option Value} {h' : Heap} {tk : Nat} {s₁ : Shared} {pre : List Int} {adr : List Addr}
    (F : Fr h₀ L h' m') (N : News h₀ L h' ((D2, oP) :: LED w.params x dx ns a1 a2 a3 a4 a5 a6 t1 t2 t3 t4 t5 t6 cur c l lb bra ket tl ((Dt, W.listOf us.toArray n) :: own))) (ha : [D2, x, dx, Dt] = adr)
    (hk : ∀ p ∈ ([("total", .int tot q2), ("start", .int st q3), ("stemmer", .ref x), ("last", .str la q4), ("tower", .ref Dt)] : List (Str × Value)), m' p.1 = some p.2)
    (hr : ∀ z, z ≠ Str.ofString "pick" → (∀ p ∈ ([("total", .int tot q2), ("start", .int st q3), ("stemmer", .ref x), ("last", .str la q4), ("tower", .ref Dt)] : List (Str × Value)), z ≠ p.1) → List.contains [] z = false → m' z = m₀ z)
    (hp : ∃ ys, StrsAre us ys ∧ Tw la pre.length ys) :
    InvEndN h₀ L (KstS (fun z : List Value × Nat => (D2, oP) :: LED w.params x dx ns a1 a2 a3 a4 a5 a6 t1 t2 t3 t4 t5 t6 cur c l lb bra ket tl [(Dt, W.listOf z.1.toArray z.2)]) (fun _ => [("total", .int tot q2), ("start", .int st q3), ("stemmer", .ref x), ("last", .str la q4), ("tower", .ref Dt)]) (fun _ => True) (Str.ofString "pick") [] m₀
      (fun pre z => ∃ ys, StrsAre z.1 ys ∧ Tw la pre.length ys) pre) own adr s₁ { s₁ with heap := h', toks := tk } :=
  kst_end ((us, n)) F N (fun p hp => by rcases List.mem_cons.mp hp with rfl | hp; exact .head _; rcases List.mem_cons.mp hp with rfl | hp; exact .tail _ (.head _); rcases List.mem_cons.mp hp with rfl | hp; exact .tail _ (.tail _ (.head _)); rcases List.mem_cons.mp hp with rfl | hp; exact .tail _ (.tail _ (.tail _ (.head _))); cases hp) (fun p hp => .tail _ (.tail _ (.tail _ (.tail _ hp)))) ha trivial hk hr hp
theorem law_tower {w : World} {loose : List Str} {mean : ExcName → Option Value} {mg mb : Str → Option Value} {p0 : Program} {h₀ : Heap} {L x dx Dt : Addr} {u : Str → Option Value} {s : Shared} {Q : Flow → Shared → Prop} {E0 : Value → Shared → Prop} {dp un ns a1 a2 a3 a4 a5 a6 t1 t2 t3 t4 t5 t6 q2 q3 q4 n : Nat} {tot st : Int} {gd : Option (List Code)} {cur la : Str} {c l lb bra ket : Int} {tl : List DictEntry} {us : List Value}
    (hd : dp + 20 < recursionLimit) (hu : un + 200 < cLine) (hla : la.length ≤ 18) (hxD : x ≠ Dt) (hdD : dx ≠ Dt)
    (B : Below callerA h₀ [] h₀) (F : Fr h₀ L s.heap (kstB u [("total", .int tot q2), ("start", .int st q3), ("stemmer", .ref x), ("last", .str la q4), ("tower", .ref Dt)])) (X : (Kf w.params).In h₀) (N : News h₀ L s.heap (LED w.params x dx ns a1 a2 a3 a4 a5 a6 t1 t2 t3 t4 t5 t6 cur c l lb bra ket tl [(Dt, W.listOf us.toArray n)])) (T : Top p0 loose mean mg mb h₀)
    (hS : StrsAre us [la])
    (hret : ∀ (u : Str → Option Value) (us : List Value) (ys : List Str) (q4 n : Nat) (h : Heap) (tk : Nat), StrsAre us ys → ((¬ 0 < st ∧ Tw la 0 ys) ∨ (0 < st ∧ Tw la 3 ys)) → Fr h₀ L h (kstB u [("stemmer", .ref x), ("last", .str la q4), ("tower", .ref Dt)]) →
      News h₀ L h (LED w.params x dx ns a1 a2 a3 a4 a5 a6 t1 t2 t3 t4 t5 t6 cur c l lb bra ket tl [(Dt, W.listOf us.toArray n)]) → Q .next { s with heap := h, toks := tk }) :
    wpAny (MD w) (AL dp un gd L) (exec (stA (fnB (stA tb0 24)) 9) (EL L)) Q (EX w dp un gd L E0) s := by
  revert B F X N T
  unfold MD
  k_fill
  intro B F X N T
  have g5 := gl_545 X
  conv in (exec _ _) => arg 1; whnf
  try dsimp only
  try k_fold
  (repeat' (first | (k_unfold; (try dsimp only)) | (k_end; wrow_close) | with_reducible ((with_reducible show wpAny _ _ (pyIter (Value.ref _)) _ _ _); (refine Stop.intro ?_)) | walk1 | (dsimp only; walk1) | (leave1; try dsimp only) | fail))
  rotate_left
  · refine hret _ us [la] q4 n _ _ hS (.inl ⟨by assumption, .one⟩) (Fr.toB F _ (by kst_all)) N
  unfold Stop
  rename (Fr _ _ _ _) => F9
  rename (News _ _ _ _) => N9
  rename_i hst D2 h2 l1
  refine kst_listL (σ := List Value × Nat) (vs := [Value.int tot q2, Value.int (tot.fdiv 28 + 5) (tk + 1 + 1 + 1), Value.int (tot.fdiv 784 + 11) (tk + 1 + 1 + 1 + 1 + 1 + 1 + 1)]) (ns := [tot, tot.fdiv 28 + 5, tot.fdiv 784 + 11]) (fun z => (D2, W.listOf [Value.int tot q2, Value.int (tot.fdiv 28 + 5) (tk + 1 + 1 + 1), Value.int (tot.fdiv 784 + 11) (tk + 1 + 1 + 1 + 1 + 1 + 1 + 1)].toArray 0) :: LED w.params x dx ns a1 a2 a3 a4 a5 a6 t1 t2 t3 t4 t5 t6 cur c l lb bra ket tl [(Dt, W.listOf z.1.toArray z.2)]) (fun _ => [("total", .int tot q2), ("start", .int st q3), ("stemmer", .ref x), ("last", .str la q4), ("tower", .ref Dt)]) (fun _ => True) []
    (fun pre z => ∃ ys, StrsAre z.1 ys ∧ Tw la pre.length ys) (us, n) rfl (fun _ => .head _) (.cons _ _ (.cons _ _ (.cons _ _ .nil))) F9 N9 trivial (by kst_all) ⟨[la], hS, .one⟩ ?_ ?_
  · rintro ⟨us, n⟩ pre post k tk u2 h9 tk9 own he hk hoff _ ⟨ys, p1, p2⟩ F9 N9
    have hpl : pre.length ≤ 2 := by
      have := congrArg List.length he
      simp only [List.length_append, List.length_cons, List.length_nil] at this
      omega
    try dsimp only at p1
    try dsimp only at p2
    try dsimp only at F9
    try dsimp only at N9
    try simp only [List.cons_append, List.nil_append] at N9
    have hul := (strs_get p1).1
    have hyl := p2.len
    have h2D : D2 ≠ Dt := Nat.ne_of_gt l1.2.2
    have hoD : ∀ p ∈ own, p.1 ≠ Dt := fun p hp => hoff p hp Dt (.tail _ (.tail _ (.tail _ (.head _))))
    have hsz : us.toArray.size ≤ sizeLine := by rw [List.size_toArray, hul, hyl, PySem.sizeLine_eq]; omega
    show wpAny _ _ (execs _ _) _ _ _
    k_fold
    (repeat' (first | (k_unfold; (try dsimp only)) | (k_end; wrow_close) | with_reducible ((with_reducible show wpAny _ _ (subscriptTail _ _ _ _) _ _ _); ((with_reducible show wpAny _ _ (subscriptTail _ _ (Value.ref _) (Value.int _ _)) _ _ _); (rename (News _ _ _ _) => nXq); (rename (StrsAre _ _) => sXq); (rename (Tw _ _ _) => wXq); (first | (refine item_last nXq (.tail _ (.tail _ (.tail _ (.head _)))) sXq wXq (by assumption) ?_; k_whole; intro y9q t9q hy9q hy8q) | (refine item_forms (by first | assumption | exact GL.keeps (by assumption) (Fr.keep (by assumption))) (by first | omega | exact Int.fmod_nonneg_of_pos _ (by decide)) (by first | omega | exact Int.fmod_lt_of_pos _ (by decide)) ?_; k_whole; intro y7q t7q hy7q hy6q)))) | ((with_reducible show wpAny _ _ (subscriptTail _ _ _ _) _ _ _); ((with_reducible show wpAny _ _ (subscriptTail _ _ (Value.ref _) (Value.int _ _)) _ _ _); (rename (News _ _ _ _) => nXq); (rename (StrsAre _ _) => sXq); (rename (Tw _ _ _) => wXq); (first | (refine item_last nXq (.tail _ (.tail _ (.tail _ (.head _)))) sXq wXq (by assumption) ?_; k_whole; intro y9q t9q hy9q hy8q) | (refine item_forms (by first | assumption | exact GL.keeps (by assumption) (Fr.keep (by assumption))) (by first | omega | exact Int.fmod_nonneg_of_pos _ (by decide)) (by first | omega | exact Int.fmod_lt_of_pos _ (by decide)) ?_; k_whole; intro y7q t7q hy7q hy6q)))) | walk1 | (dsimp only; walk1) | (leave1; try dsimp only) | fail))
    rename (Fr _ _ _ _) => F8
    rename (News _ _ _ _) => N8
    rename (StrsAre _ _) => p1
    rename (Tw _ _ _) => p2
    rename (List.getLast? _ = _) => e8
    rename (_ ∈ Lforms) => f8
    rw [List.push_toArray] at N8
    refine end_TW F8 N8 rfl (by kst_all) ?_ ?_
    · intro z z1 z2 z3
      have d1 := z2 _ (.head _)
      have d2 := z2 _ (.tail _ (.head _))
      have d3 := z2 _ (.tail _ (.tail _ (.head _)))
      have d4 := z2 _ (.tail _ (.tail _ (.tail _ (.head _))))
      have d5 := z2 _ (.tail _ (.tail _ (.tail _ (.tail _ (.head _)))))
      simp only [kstB, if_neg z1, if_neg d1, if_neg d2, if_neg d3, if_neg d4, if_neg d5, z3, Bool.false_eq_true, if_false]
    · exact ⟨_, strs_snoc p1, by rw [List.length_append, List.length_singleton]; exact .up p2 e8 f8⟩
  · rintro ⟨us, n⟩ u2 h9 tk9 _ ⟨ys, p1, p2⟩ F9 N9
    show wpAny _ _ (execs _ _) _ _ _
    k_steps
    exact hret _ us ys _ n _ _ p1 (.inr ⟨hst, p2⟩) (Fr.toB F9 _ (by kst_all)) (fun p hp => N9 p (.tail _ hp))
end PartWL7
section PartWL8
open PySem PySem.W PyProof.Rows PySem.Calls
theorem forms_rev : ∀ f ∈ Lforms, (ls f).reverse ∈ forms := by decide +kernel
theorem tw_stem {la : Str} {n : Nat} {ys : List Str} (h : Tw la n ys) (h0 : 0 < lawStart (ls la)) (hr : rests (ls la) = true) :
    (∀ y, ys.getLast? = some y → 0 < lawStart (ls y) ∧ Quiet (ls y)) ∧ ∀ (i : Nat) (y r : Str), ys[i]? = some y → Stem (ls y) (ls r) → (la :: ys)[i]? = some r := by
  induction h with
  | one =>
    refine ⟨fun y hy => ?_, fun i y r hy hS => ?_⟩
    · obtain rfl : la = y := by simpa using hy
      exact ⟨h0, quiet_rests h0 hr⟩
    · cases i with
      | zero =>
        obtain rfl : la = y := by simpa using hy
        rw [ls_inj ((stem_rests hS).mpr hr)]
        rfl
      | succ i => simp at hy
  | @up n ys y f hT hy hf ih =>
    obtain ⟨q0, q1⟩ := ih.1 y hy
    have hlen := hT.len
    have hfr := forms_rev f hf
    have e : ls (y ++ f) = ls y ++ (ls f).reverse.reverse := by rw [ls_app, List.reverse_reverse]
    refine ⟨fun z hz => ?_, fun i z r hz hS => ?_⟩
    · obtain rfl : y ++ f = z := by simpa using hz
      rw [e]
      exact ⟨by rw [start_append q0]; exact q0, quiet_form q0 hfr⟩
    · rcases Nat.lt_trichotomy i ys.length with h | h | h
      · rw [List.getElem?_append_left h] at hz
        have := ih.2 i z r hz hS
        rw [← List.cons_append, List.getElem?_append_left (by rw [List.length_cons]; omega)]
        exact this
      · subst h
        rw [List.getElem?_append_right (Nat.le_refl _), Nat.sub_self] at hz
        obtain rfl : y ++ f = z := by simpa using hz
        rw [e] at hS
        have := ls_inj (stem_form q0 hfr q1 hS)
        subst this
        rw [← List.cons_append, List.getElem?_append_left (by rw [List.length_cons]; omega)]
        rw [hlen, List.getElem?_cons_succ]
        rw [List.getLast?_eq_getElem?, hlen] at hy
        exact hy
      · rw [List.getElem?_eq_none (by rw [List.length_append, List.length_singleton]; omega)] at hz
        cases hz
/-- what the tower's stems are -/
theorem tw_rs {la : Str} {st : Int} {ys : List Str} (hr : rests (ls la) = true) (hst : 0 < st → lawStart (ls la) = st) (h : (¬ 0 < st ∧ Tw la 0 ys) ∨ (0 < st ∧ Tw la 3 ys)) :
    ∀ (i : Nat) (y r : Str), ys[i]? = some y → Stem (ls y) (ls r) → (la :: ys.take (ys.length - 1))[i]? = some r := by
  intro i y r hy hS
  rcases h with ⟨_, hT⟩ | ⟨h0, hT⟩
  · cases hT
    cases i with
    | zero =>
      obtain rfl : la = y := by simpa using hy
      rw [ls_inj ((stem_rests hS).mpr hr)]
      rfl
    | succ i => simp at hy
  · have h1 : 0 < lawStart (ls la) := by rw [hst h0]; exact h0
    have := (tw_stem hT h1 hr).2 i y r hy hS
    have hi : i < ys.length := by
      rcases Nat.lt_or_ge i ys.length with h | h
      · exact h
      · rw [List.getElem?_eq_none h] at hy; cases hy
    cases i with
    | zero => exact this
    | succ i =>
      rw [List.getElem?_cons_succ] at this ⊢
      rw [List.getElem?_take, if_pos (by omega)]
      exact this
end PartWL8
section PartWL9
open PySem PySem.W PyProof.Rows PySem.Calls
theorem StrsAre.takeN : ∀ {vs : List Value} {ns : List Str}, StrsAre vs ns → ∀ k : Nat, StrsAre (vs.take k) (ns.take k)
  | _, _, _, 0 => .nil
  | _, _, .nil, _ + 1 => .nil
  | _, _, .cons n t h, k + 1 => .cons n t (StrsAre.takeN h k)
section
variable {prog : Program} {w : World} {A : Around} {E : Value → Shared → Prop} {s : Shared} {h₀ : Heap} {L D : Addr} {m : Str → Option Value} {us : List Value} {ys : List Str} {n : Nat} {led : List (Addr × Obj)} {Q : Value → Shared → Prop}
theorem len_strs (N : News h₀ L s.heap led) (hm : (D, W.listOf us.toArray n) ∈ led) (S : StrsAre us ys) (hs : ys.length ≤ 1000) (h : Q (.int ys.length (s.toks + 1)) { s with toks := s.toks + 1 + 1 }) : wpAny (model prog w) A (call (.builtin "len") [.ref D]) Q E s := by
  have e : us.toArray.size = ys.length := by rw [List.size_toArray, (strs_get S).1]
  refine PyProof.Rows.len_list (News.isList N hm) ?_ ?_
  · rw [e]; omega
  · rw [e]; exact h
theorem cut_strs {value slice : PySem.Expr} {y : Int} {t : Tok} (F : Fr h₀ L s.heap m) (N : News h₀ L s.heap led) (hm : (D, W.listOf us.toArray n) ∈ led) (S : StrsAre us ys) (hy : ys.length ≤ 1000) (h0 : 0 ≤ y) (h1 : y ≤ ys.length)
    (h : ∀ D2 h', StrsAre (us.take y.toNat) (ys.take y.toNat) → Fr h₀ L h' m → News h₀ L h' ((D2, W.listOf (us.take y.toNat).toArray 0) :: led) → (∀ p ∈ led, p.1 < D2) → Q (.ref D2) { s with heap := h' })
    (hs : subscripted slice false (.ref D) (.ref s.heap.objs.size) = operate [.ref s.heap.objs.size, .ref D] (getItem (.ref D) (.ref s.heap.objs.size))) (ht : ∀ r, letTemporaryGo value (.ref D) r = pure ()) :
    wpAny (model prog w) A (subscriptTail value slice (.ref D) (.ref s.heap.objs.size)) Q E { s with heap := s.heap.push { cls := .type "slice", data := .fields #[.none, .int y t, .none] } } := by
  have e : us.toArray.size = ys.length := by rw [List.size_toArray, (strs_get S).1]
  refine kmk_slice_lit F N (News.isList N hm) .none (.int _ _) (zs := us.take y.toNat) ?_ (fun D2 h' F' N' l => h D2 h' (StrsAre.takeN S _) F' N' l) hs ht (by rw [e, PySem.sizeLine_eq]; omega)
  have ey : y = (y.toNat : Int) := by omega
  have em : max y 0 = y := by omega
  rw [ey, slicePick_upto us.toArray y.toNat (by rw [e]; omega)]
  simp [em]
end
theorem law_result {w : World} {loose : List Str} {mean : ExcName → Option Value} {mg mb : Str → Option Value} {p0 : Program} {h₀ : Heap} {L x dx Dt : Addr} {u : Str → Option Value} {s : Shared} {Q : Flow → Shared → Prop} {E0 : Value → Shared → Prop} {dp un ns a1 a2 a3 a4 a5 a6 t1 t2 t3 t4 t5 t6 q4 n : Nat} {st : Int} {gd : Option (List Code)} {cur la : Str} {c l lb bra ket : Int} {tl : List DictEntry} {us : List Value} {ys : List Str}
    (hd : dp + 20 < recursionLimit) (hu : un + 200 < cLine) (hla : la.length ≤ 18) (hx : x ≠ dx) (hD : Dt ≠ dx) (htl : TlI w.params tl)
    (hS : StrsAre us ys) (hr : rests (ls la) = true) (hst : 0 < st → lawStart (ls la) = st) (hT : (¬ 0 < st ∧ Tw la 0 ys) ∨ (0 < st ∧ Tw la 3 ys))
    (B : Below callerA h₀ [] h₀) (F : Fr h₀ L s.heap (kstB u [("stemmer", .ref x), ("last", .str la q4), ("tower", .ref Dt)])) (X : (Kf w.params).In h₀) (N : News h₀ L s.heap (LED w.params x dx ns a1 a2 a3 a4 a5 a6 t1 t2 t3 t4 t5 t6 cur c l lb bra ket tl [(Dt, W.listOf us.toArray n)])) (T : Top p0 loose mean mg mb h₀)
    (S1 : SetHas w h₀ 230 V) (S2 : SetHas w h₀ 231 SE) (S3 : SetHas w h₀ 232 OE)
    (hret : ∀ (h : Heap) (tk : Nat) m, Fr h₀ L h m → Q (.ret (.bool true)) { s with heap := h, toks := tk }) :
    wpAny (MD w) (AL dp un gd L) (exec (stA (fnB (stA tb0 24)) 10) (EL L)) Q (EX w dp un gd L E0) s := by
  have hlen : 1 ≤ ys.length ∧ ys.length ≤ 4 := by
    rcases hT with ⟨_, h⟩ | ⟨_, h⟩ <;> have := h.len <;> omega
  have hsh : ∀ y ∈ ys, Str.length y < 100 := by
    intro y hy
    rcases hT with ⟨_, h⟩ | ⟨_, h⟩ <;> have := h.short hla y hy <;> omega
  have hrs := tw_rs hr hst hT
  revert B F X N T S1 S2 S3
  unfold MD
  k_fill
  intro B F X N T S1 S2 S3
  have hU : Tl w.params tl := .inr htl
  conv in (exec _ _) => arg 1; whnf
  try dsimp only
  try k_fold
  (repeat' (first | (k_unfold; (try dsimp only)) | (k_end; wrow_close) | with_reducible ((with_reducible show wpAny _ _ (call (Value.ref _) _ _) _ _ _); ((with_reducible show wpAny _ _ (call (Value.ref 194) _) _ _ _); refine Stop.intro ?_)) | with_reducible ((with_reducible show wpAny _ _ (getMethod _ _ _) _ _ _); ((try dsimp only); (with_reducible show wpAny _ _ (getMethod (Value.ref _) (PySem.Str.ofString "stemWords") _) _ _ _); k_dflt (refine' m_stemWords ?tl ?F ?X ?N ?_; (case tl => assumption); (case F => k_asm); (case X => assumption); (case N => k_asm)); k_whole; (try dsimp only))) | walk1 | (dsimp only; walk1) | (leave1; try dsimp only) | fail))
  unfold Stop
  refine stems_call (rs := la :: ys.take (ys.length - 1)) htl hd hu B (by assumption) X (by assumption) T S1 S2 S3 hx hD hS (by rw [List.length_cons, List.length_take]; omega) (by omega) hsh hrs ?_
  intro D zs h9 tk9 hz F9 N9
  (repeat' (first | (k_unfold; (try dsimp only)) | (k_end; wrow_close) | with_reducible ((with_reducible show wpAny _ _ (call (Value.builtin "len") _ _) _ _ _); (refine Stop.intro ?_)) | walk1 | (dsimp only; walk1) | (leave1; try dsimp only) | fail))
  unfold Stop
  rename (Fr _ _ _ _) => F8
  rename (News _ _ _ _) => N8
  refine len_strs N8 (.tail _ (.tail _ (.head _))) hS (by omega) ?_
  (repeat' (first | (k_unfold; (try dsimp only)) | (k_end; wrow_close) | with_reducible ((with_reducible show wpAny _ _ (subscriptTail (PySem.Expr.Name _ _) (PySem.Expr.Slice _ _ _ _) (Value.ref _) (Value.ref _)) _ _ _); (refine Stop.intro ?_)) | walk1 | (dsimp only; walk1) | (leave1; try dsimp only) | fail))
  unfold Stop
  refine cut_strs F8 N8 (.tail _ (.tail _ (.head _))) hS (by omega) (by omega) (by omega) ?_ (by with_unfolding_all rfl) (by intro _; with_unfolding_all rfl)
  intro D2 h7 S7 F7 N7 l7
  (repeat' (first | (k_unfold; (try dsimp only)) | (k_end; wrow_close) | with_reducible ((with_reducible show wpAny _ _ (binaryOp Operator.Add (Value.ref _) (Value.ref _)) _ _ _); (refine Stop.intro ?_)) | walk1 | (dsimp only; walk1) | (leave1; try dsimp only) | fail))
  unfold Stop
  have S6 : StrsAre [Value.str la q4] [la] := .cons _ _ .nil
  refine add_strs F7 N7 (GL.of_news N7 (.tail _ (.head _)) S6) (GL.of_news N7 (.head _) S7) ?_ (by rw [List.length_singleton, List.length_take]; omega)
  intro D3 us3 h6 F6 N6 S5
  (repeat' (first | (k_unfold; (try dsimp only)) | (k_end; wrow_close) | with_reducible ((with_reducible show wpAny _ _ (compareOp CmpOp.Eq (Value.ref _) (Value.ref _)) _ _ _); (refine Stop.intro ?_)) | walk1 | (dsimp only; walk1) | (leave1; try dsimp only) | fail))
  unfold Stop
  refine eq_strs_same (News.isList N6 (.tail _ (.tail _ (.tail _ (.head _))))) (News.isList N6 (.head _)) hz ?_ ?_ ?_
  · rw [show ys.length - 1 = ((ys.length : Int) - 1).toNat by omega]
    exact S5
  · ktr_units
  · exact hret _ _ _ F6
end PartWL9
section PartWL10
open PySem PySem.W PyProof.Rows PySem.Calls
theorem law_s0 {w : World} {loose : List Str} {mean : ExcName → Option Value} {mg mb : Str → Option Value} {p0 : Program} {h₀ : Heap} {L lv : Addr} {u : Str → Option Value} {s : Shared} {Q : Flow → Shared → Prop} {E0 : Value → Shared → Prop} {dp un : Nat} {gd : Option (List Code)} {led : List (Addr × Obj)}
    (hd : dp + 20 < recursionLimit) (hu : un + 200 < cLine) 
    (B : Below callerA h₀ [] h₀) (F : Fr h₀ L s.heap (kstB u [("script", .ref lv)])) (X : (Kf w.params).In h₀) (N : News h₀ L s.heap []) (T : Top p0 loose mean mg mb h₀)
    (hret : ∀ (u : Str → Option Value) D us n h tk, StrsAre us Lpieces → Fr h₀ L h (kstB u [("script", .ref lv), ("pieces", .ref D)]) → News h₀ L h [(D, W.listOf us.toArray n)] → Q .next { s with heap := h, toks := tk }) :
    wpAny (MD w) (AL dp un gd L) (exec (stA (fnB (stA tb0 24)) 0) (EL L)) Q (EX w dp un gd L E0) s := by
  revert B F X N T
  unfold MD
  k_fill
  intro B F X N T
  conv in (exec _ _) => arg 1; whnf
  try dsimp only
  try k_fold
  (repeat' (first | (k_unfold; (try dsimp only)) | (k_end; wrow_close) | with_reducible ((with_reducible show wpAny _ _ (eval (PySem.Expr.BinOp _ _ _ _) _) _ _ _); (refine Stop.intro ?_)) | walk1 | (dsimp only; walk1) | (leave1; try dsimp only) | fail))
  unfold Stop
  refine law_pieces hd hu B F X N T ?_
  intro D us n h tk hS F9 N9
  k_steps
  rename (Fr _ _ _ _) => F8
  rename (News _ _ _ _) => N8
  exact hret _ D us n _ _ hS (Fr.toB F8 _ (by kst_all)) N8
theorem law_s1 {w : World} {loose : List Str} {mean : ExcName → Option Value} {mg mb : Str → Option Value} {p0 : Program} {h₀ : Heap} {L lv : Addr} {u : Str → Option Value} {s : Shared} {Q : Flow → Shared → Prop} {E0 : Value → Shared → Prop} {dp un : Nat} {gd : Option (List Code)} {led : List (Addr × Obj)} {D : Addr}
    (hd : dp + 20 < recursionLimit) (hu : un + 200 < cLine) 
    (B : Below callerA h₀ [] h₀) (F : Fr h₀ L s.heap (kstB u [("script", .ref lv), ("pieces", .ref D)])) (X : (Kf w.params).In h₀) (N : News h₀ L s.heap led) (T : Top p0 loose mean mg mb h₀)
    (hret : ∀ (u : Str → Option Value) t h tk, Fr h₀ L h (kstB u [("script", .ref lv), ("pieces", .ref D), ("word", .str "" t)]) → News h₀ L h led → Q .next { s with heap := h, toks := tk }) :
    wpAny (MD w) (AL dp un gd L) (exec (stA (fnB (stA tb0 24)) 1) (EL L)) Q (EX w dp un gd L E0) s := by
  revert B F X N T
  unfold MD
  k_fill
  intro B F X N T
  conv in (exec _ _) => arg 1; whnf
  try dsimp only
  try k_fold
  k_steps
  rename (Fr _ _ _ _) => F8
  rename (News _ _ _ _) => N8
  exact hret _ _ _ _ (Fr.toB F8 _ (by kst_all)) N8
theorem law_s2 {w : World} {loose : List Str} {mean : ExcName → Option Value} {mg mb : Str → Option Value} {p0 : Program} {h₀ : Heap} {L lv : Addr} {u : Str → Option Value} {s : Shared} {Q : Flow → Shared → Prop} {E0 : Value → Shared → Prop} {dp un : Nat} {gd : Option (List Code)} {led : List (Addr × Obj)} {D : Addr} {t1 : Nat}
    (hd : dp + 20 < recursionLimit) (hu : un + 200 < cLine) 
    (B : Below callerA h₀ [] h₀) (F : Fr h₀ L s.heap (kstB u [("script", .ref lv), ("pieces", .ref D), ("word", .str "" t1)])) (X : (Kf w.params).In h₀) (N : News h₀ L s.heap led) (T : Top p0 loose mean mg mb h₀)
    (hret : ∀ (u : Str → Option Value) t h tk, Fr h₀ L h (kstB u [("script", .ref lv), ("pieces", .ref D), ("word", .str "" t1), ("total", .int 0 t)]) → News h₀ L h led → Q .next { s with heap := h, toks := tk }) :
    wpAny (MD w) (AL dp un gd L) (exec (stA (fnB (stA tb0 24)) 2) (EL L)) Q (EX w dp un gd L E0) s := by
  revert B F X N T
  unfold MD
  k_fill
  intro B F X N T
  conv in (exec _ _) => arg 1; whnf
  try dsimp only
  try k_fold
  k_steps
  rename (Fr _ _ _ _) => F8
  rename (News _ _ _ _) => N8
  exact hret _ _ _ _ (Fr.toB F8 _ (by kst_all)) N8
theorem law_s4 {w : World} {loose : List Str} {mean : ExcName → Option Value} {mg mb : Str → Option Value} {p0 : Program} {h₀ : Heap} {L lv : Addr} {u : Str → Option Value} {s : Shared} {Q : Flow → Shared → Prop} {E0 : Value → Shared → Prop} {dp un : Nat} {gd : Option (List Code)} {led : List (Addr × Obj)} {wd : Str} {tw tt : Nat} {tot : Int}
    (hd : dp + 20 < recursionLimit) (hu : un + 200 < cLine) (hw : wd.length ≤ 18)
    (B : Below callerA h₀ [] h₀) (F : Fr h₀ L s.heap (kstB u [("script", .ref lv), ("word", .str wd tw), ("total", .int tot tt)])) (X : (Kf w.params).In h₀) (N : News h₀ L s.heap []) (T : Top p0 loose mean mg mb h₀)
    (hret : ∀ (u : Str → Option Value) t h tk, Fr h₀ L h (kstB u [("word", .str wd tw), ("total", .int tot tt), ("start", .int (lawStart (ls wd)) t)]) → Q .next { s with heap := h, toks := tk }) :
    wpAny (MD w) (AL dp un gd L) (exec (stA (fnB (stA tb0 24)) 4) (EL L)) Q (EX w dp un gd L E0) s := by
  revert B F X N T
  unfold MD
  k_fill
  intro B F X N T
  conv in (exec _ _) => arg 1; whnf
  try dsimp only
  try k_fold
  (repeat' (first | (k_unfold; (try dsimp only)) | (k_end; wrow_close) | with_reducible ((with_reducible show wpAny _ _ (call (Value.ref _) _ _) _ _ _); (refine Stop.intro ?_)) | walk1 | (dsimp only; walk1) | (leave1; try dsimp only) | fail))
  unfold Stop
  refine law_start_spec (by omega) _ _ _ _ _ _ _ _ _ _ _ _ _ _ _ _ _ _ _ _ _ _ _ B F X N T rfl (by omega) (by omega) ?_
  rintro v9 h9 tk9 ⟨t, rfl⟩ F9 N9
  k_steps
  rename (Fr _ _ _ _) => F8
  rename (News _ _ _ _) => N8
  exact hret _ _ _ _ (Fr.toB F8 _ (by kst_all))
theorem law_s5 {w : World} {loose : List Str} {mean : ExcName → Option Value} {mg mb : Str → Option Value} {p0 : Program} {h₀ : Heap} {L lv : Addr} {u : Str → Option Value} {s : Shared} {Q : Flow → Shared → Prop} {E0 : Value → Shared → Prop} {dp un : Nat} {gd : Option (List Code)} {led : List (Addr × Obj)} {wd : Str} {tw tt t3 : Nat} {tot st : Int}
    (hd : dp + 20 < recursionLimit) (hu : un + 200 < cLine) 
    (B : Below callerA h₀ [] h₀) (F : Fr h₀ L s.heap (kstB u [("word", .str wd tw), ("total", .int tot tt), ("start", .int st t3)])) (X : (Kf w.params).In h₀) (N : News h₀ L s.heap []) (T : Top p0 loose mean mg mb h₀)
    (hret : ∀ (u : Str → Option Value) x dx ns a1 a2 a3 a4 a5 a6 b1 b2 b3 b4 b5 b6 h tk, x ≠ dx → Fr h₀ L h (kstB u [("word", .str wd tw), ("total", .int tot tt), ("start", .int st t3), ("stemmer", .ref x)]) → News h₀ L h (LED w.params x dx ns a1 a2 a3 a4 a5 a6 b1 b2 b3 b4 b5 b6 "" 0 0 0 0 0 [] []) → Q .next { s with heap := h, toks := tk }) :
    wpAny (MD w) (AL dp un gd L) (exec (stA (fnB (stA tb0 24)) 5) (EL L)) Q (EX w dp un gd L E0) s := by
  revert B F X N T
  unfold MD
  k_fill
  intro B F X N T
  conv in (exec _ _) => arg 1; whnf
  try dsimp only
  try k_fold
  (repeat' (first | (k_unfold; (try dsimp only)) | (k_end; wrow_close) | with_reducible ((with_reducible show wpAny _ _ (call (Value.ref _) _ _) _ _ _); (refine Stop.intro ?_)) | walk1 | (dsimp only; walk1) | (leave1; try dsimp only) | fail))
  unfold Stop
  refine law_new hd hu B F X N T ?_
  intro x dx ns a1 a2 a3 a4 a5 a6 b1 b2 b3 b4 b5 b6 h9 tk9 hne F9 N9
  k_steps
  rename (Fr _ _ _ _) => F8
  rename (News _ _ _ _) => N8
  exact hret _ x dx _ _ _ _ _ _ _ _ _ _ _ _ _ _ _ hne (Fr.toB F8 _ (by kst_all)) N8
theorem law_s6 {w : World} {loose : List Str} {mean : ExcName → Option Value} {mg mb : Str → Option Value} {p0 : Program} {h₀ : Heap} {L lv : Addr} {u : Str → Option Value} {s : Shared} {Q : Flow → Shared → Prop} {E0 : Value → Shared → Prop} {dp un : Nat} {gd : Option (List Code)} {led : List (Addr × Obj)} {wd : Str} {tw tt t3 : Nat} {tot st : Int} {x : Addr}
    (hd : dp + 20 < recursionLimit) (hu : un + 200 < cLine) 
    (B : Below callerA h₀ [] h₀) (F : Fr h₀ L s.heap (kstB u [("word", .str wd tw), ("total", .int tot tt), ("start", .int st t3), ("stemmer", .ref x)])) (X : (Kf w.params).In h₀) (N : News h₀ L s.heap led) (T : Top p0 loose mean mg mb h₀)
    (hret : ∀ (u : Str → Option Value) t h tk, Fr h₀ L h (kstB u [("word", .str wd tw), ("total", .int tot tt), ("start", .int st t3), ("stemmer", .ref x), ("last", .str wd t)]) → News h₀ L h led → Q .next { s with heap := h, toks := tk }) :
    wpAny (MD w) (AL dp un gd L) (exec (stA (fnB (stA tb0 24)) 6) (EL L)) Q (EX w dp un gd L E0) s := by
  revert B F X N T
  unfold MD
  k_fill
  intro B F X N T
  conv in (exec _ _) => arg 1; whnf
  try dsimp only
  try k_fold
  k_steps
  rename (Fr _ _ _ _) => F8
  rename (News _ _ _ _) => N8
  exact hret _ _ _ _ (Fr.toB F8 _ (by kst_all)) N8
theorem law_s8 {w : World} {loose : List Str} {mean : ExcName → Option Value} {mg mb : Str → Option Value} {p0 : Program} {h₀ : Heap} {L lv : Addr} {u : Str → Option Value} {s : Shared} {Q : Flow → Shared → Prop} {E0 : Value → Shared → Prop} {dp un : Nat} {gd : Option (List Code)} {led : List (Addr × Obj)} {la : Str} {q2 q3 q4 ns a1 a2 a3 a4 a5 a6 b1 b2 b3 b4 b5 b6 : Nat} {tot st : Int} {x dx : Addr} {cur : Str} {c l lb bra ket : Int} {tl : List DictEntry}
    (hd : dp + 20 < recursionLimit) (hu : un + 200 < cLine) 
    (B : Below callerA h₀ [] h₀) (F : Fr h₀ L s.heap (kstB u [("total", .int tot q2), ("start", .int st q3), ("stemmer", .ref x), ("last", .str la q4)])) (X : (Kf w.params).In h₀) (N : News h₀ L s.heap (LED w.params x dx ns a1 a2 a3 a4 a5 a6 b1 b2 b3 b4 b5 b6 cur c l lb bra ket tl [])) (T : Top p0 loose mean mg mb h₀)
    (hret : ∀ (u : Str → Option Value) D us n h tk, StrsAre us [la] → x ≠ D → dx ≠ D → Fr h₀ L h (kstB u [("total", .int tot q2), ("start", .int st q3), ("stemmer", .ref x), ("last", .str la q4), ("tower", .ref D)]) → News h₀ L h (LED w.params x dx ns a1 a2 a3 a4 a5 a6 b1 b2 b3 b4 b5 b6 cur c l lb bra ket tl [(D, W.listOf us.toArray n)]) → Q .next { s with heap := h, toks := tk }) :
    wpAny (MD w) (AL dp un gd L) (exec (stA (fnB (stA tb0 24)) 8) (EL L)) Q (EX w dp un gd L E0) s := by
  revert B F X N T
  unfold MD
  k_fill
  intro B F X N T
  conv in (exec _ _) => arg 1; whnf
  try dsimp only
  try k_fold
  k_steps
  rename (Fr _ _ _ _) => F8
  rename (News _ _ _ _) => N8
  rename_i D9 h8 l9 h7
  exact hret _ D9 [Value.str la q4] 0 _ _ (.cons _ _ .nil) (Nat.ne_of_lt l9.1) (Nat.ne_of_lt l9.2) (Fr.toB F8 _ (by kst_all)) (fun p hp => N8 p (by rcases List.mem_cons.mp hp with rfl | hp; exact .tail _ (.head _); rcases List.mem_cons.mp hp with rfl | hp; exact .tail _ (.tail _ (.head _)); rcases List.mem_cons.mp hp with rfl | hp; exact .head _; cases hp))
end PartWL10
section PartWL11
open PySem PySem.W PyProof.Rows PySem.Calls
theorem wpa_one {M : Model} {A : Around} {Q : Flow → Shared → Prop} {E : Value → Shared → Prop} {st : Stmt} {r : List Stmt} {env : Env} {s : Shared}
    (h : wpAny M A (exec st env) (fun f s => f = .next ∧ wpAny M A (execs r env) Q E s) E s) : wpAny M A (execs (st :: r) env) Q E s := by
  have e1 : execs (st :: r) env = (exec st env >>= fun f => match f with | .next => execs r env | f => pure f) := rfl
  rw [e1]
  refine wpAny_bind (wpAny_mono h (fun f s' h' => ?_) fun _ _ x => x)
  obtain ⟨rfl, h'⟩ := h'
  exact h'
theorem wpa_last {M : Model} {A : Around} {Q : Flow → Shared → Prop} {E : Value → Shared → Prop} {st : Stmt} {env : Env} {s : Shared} {v : Value}
    (h : wpAny M A (exec st env) (fun f s => f = .ret v ∧ Q (.ret v) s) E s) : wpAny M A (execs [st] env) Q E s := by
  have e1 : execs [st] env = (exec st env >>= fun f => match f with | .next => execs [] env | f => pure f) := rfl
  rw [e1]
  refine wpAny_bind (wpAny_mono h (fun f s' h' => ?_) fun _ _ x => x)
  obtain ⟨rfl, h'⟩ := h'
  exact wpAny_pure h'
theorem law_split : fnB (stA tb0 24) = [stA (fnB (stA tb0 24)) 0, stA (fnB (stA tb0 24)) 1, stA (fnB (stA tb0 24)) 2, stA (fnB (stA tb0 24)) 3, stA (fnB (stA tb0 24)) 4, stA (fnB (stA tb0 24)) 5, stA (fnB (stA tb0 24)) 6, stA (fnB (stA tb0 24)) 7, stA (fnB (stA tb0 24)) 8, stA (fnB (stA tb0 24)) 9, stA (fnB (stA tb0 24)) 10] := by kernel_rfl!
theorem law_body {w : World} {loose : List Str} {mean : ExcName → Option Value} {mg mb : Str → Option Value} {p0 : Program} {h₀ : Heap} {L lv : Addr} {u : Str → Option Value} {s : Shared} {Q : Flow → Shared → Prop} {E0 : Value → Shared → Prop} {dp un : Nat} {gd : Option (List Code)} {vs : List Value} {ns : List Int}
    (hd : dp + 20 < recursionLimit) (hu : un + 200 < cLine)
    (B : Below callerA h₀ [] h₀) (F : Fr h₀ L s.heap (kstB u [("script", .ref lv)])) (X : (Kf w.params).In h₀) (T : Top p0 loose mean mg mb h₀)
    (S1 : SetHas w h₀ 230 V) (S2 : SetHas w h₀ 231 SE) (S3 : SetHas w h₀ 232 OE)
    (hl : h₀.IsList lv vs.toArray) (hi : IntsAre vs ns) (hn : ns.length ≤ 63)
    (hret : ∀ (h : Heap) (tk : Nat) m, Fr h₀ L h m → Q (.ret (.bool true)) { s with heap := h, toks := tk }) :
    wpAny (MD w) (AL dp un gd L) (execs (fnB (stA tb0 24)) (EL L)) Q (EX w dp un gd L E0) s := by
  rw [law_split]
  refine wpa_one (law_s0 (led := []) hd hu B F X (fun p hp => nomatch hp) T fun u D us n h tk hS F N => ⟨rfl, ?_⟩)
  refine wpa_one (law_s1 hd hu B F X N T fun u t1 h tk F N => ⟨rfl, ?_⟩)
  refine wpa_one (law_s2 hd hu B F X N T fun u t2 h tk F N => ⟨rfl, ?_⟩)
  refine wpa_one (law_word hd hu B F X N T hS hl hi hn fun u wd tw tot tt h tk hw F => ⟨rfl, ?_⟩)
  refine wpa_one (law_s4 (led := []) hd hu hw B F X (fun p hp => nomatch hp) T fun u t3 h tk F => ⟨rfl, ?_⟩)
  refine wpa_one (law_s5 (led := []) (lv := lv) hd hu B F X (fun p hp => nomatch hp) T fun u x dx ns a1 a2 a3 a4 a5 a6 b1 b2 b3 b4 b5 b6 h tk hx F N => ⟨rfl, ?_⟩)
  refine wpa_one (law_s6 (lv := lv) hd hu B F X N T fun u t4 h tk F N => ⟨rfl, ?_⟩)
  refine wpa_one (law_stems hd hu (.inl rfl) hw rfl B F X N T S1 S2 S3 hx fun u la q2 q3 q4 ns b1 b2 b3 b4 b5 b6 cur c l lb bra ket tl h tk htl hla hr hst F N => ⟨rfl, ?_⟩)
  refine wpa_one (law_s8 (led := []) (lv := lv) hd hu B F X N T fun u D us n h tk hS hxD hdD F N => ⟨rfl, ?_⟩)
  refine wpa_one (law_tower hd hu hla hxD hdD B F X N T hS fun u us ys q4 n h tk hS hT F N => ⟨rfl, ?_⟩)
  refine wpa_last (law_result hd hu hla hx (Ne.symm hdD) htl hS hr hst hT B F X N T S1 S2 S3 fun h tk m F => ⟨rfl, hret h tk m F⟩)
end PartWL11
end Mine
end
end Walks
section PartHA
namespace Mine
open PySem PySem.W

/-- a call that is about to be made -/
structure Pend where
  c : Code
  h : Option Value
  k : Result → Sem Fin
  p : Pos
  s : SharedT

/-- as ev, up to the first call of a body -/
noncomputable def cut (tb : String → Option Builtin) (prog : Program) (w : World) : Nat → Ctx → Pos → Sem Fin → SharedT → Option Pend
  | 0, _, _, _, _ => none
  | n + 1, Γ, p, t, s => match t with
    | .rule _ k => cut tb prog w n Γ p (k ()) s
    | .at p' k => cut tb prog w n Γ p' (k ()) s
    | .point _ k => cut tb prog w n Γ p (k ()) s
    | .ask k => cut tb prog w n Γ p (k ⟨prog, w.params⟩) s
    | .handled own k => cut tb prog w n Γ p (k (match own with | true => Γ.own | false => Γ.handled)) s
    | .stack k => cut tb prog w n Γ p (k ((Γ.code, p) :: Γ.below)) s
    | .thread k => cut tb prog w n Γ p (k 0) s
    | .fresh k => match s with
      | ⟨T, m, life, gens, drawn, toks, os⟩ => cut tb prog w n Γ p (k toks) ⟨T, m, life, gens, drawn, toks + 1, os⟩
    | .load a _ k => match s with
      | ⟨T, m, life, gens, drawn, toks, os⟩ => match Nat.blt a m with
        | true => match T.get a with
          | some o => match alive o with
            | some o' => cut tb prog w n Γ p (k o') ⟨T, m, life, gens, drawn, toks, os⟩
            | none => none
          | none => none
        | false => none
    | .update a _ f k => match s with
      | ⟨T, m, life, gens, drawn, toks, os⟩ => match Nat.blt a m with
        | true => match T.get a with
          | some o => match alive o with
            | some _ => cut tb prog w n Γ p (k ()) ⟨T.set a f, m, life, gens, drawn, toks, os⟩
            | none => none
          | none => none
        | false => none
    | .loadIfAlive a k => match s with
      | ⟨T, m, life, gens, drawn, toks, os⟩ => match Nat.blt a m with
        | true => match T.get a with
          | some o => cut tb prog w n Γ p (k (alive o)) ⟨T, m, life, gens, drawn, toks, os⟩
          | none => none
        | false => cut tb prog w n Γ p (k none) ⟨T, m, life, gens, drawn, toks, os⟩
    | .alloc o k => match s with
      | ⟨T, m, life, gens, drawn, toks, os⟩ => match ((T.ins m o).get m).isSome with
        | true => cut tb prog w n Γ p (k m) ⟨T.ins m o, m + 1, life, gens, drawn, toks, os⟩
        | false => none
    | .call c h _ _ k => match c with
      | .body _ _ => some ⟨c, h, k, p, s⟩
      | _ => match ev tb prog w n (Γ.enter c h p) p (denote tb c) s with
        | some (r, _, s') => cut tb prog w n Γ p (k r) s'
        | none => none
    | _ => none

section
variable {prog : Program} {w : World}
theorem ev_code {n : Nat} {Γ : Ctx} {p : Pos} {s s' : SharedT} {r : Result} {p' : Pos} (h : ev table prog w n Γ p (denote table Γ.code) s = some (r, p', s')) : wpCode (model prog w) Γ (fun r' σ => r' = r ∧ σ = s'.abs) p s.abs :=
  ⟨r, s'.abs, ev_runs n _ _ _ _ _ _ _ h, rfl, rfl⟩
theorem cut_wp {α : Type} (emb : α → Flow) (R : Result → SharedT → Prop) : ∀ (n : Nat) (Γ : Ctx) (p : Pos) (x : Sem α) (s : SharedT) (q : Pend),
    cut table prog w n Γ p (x.bind fun a => .pure (.done (emb a))) s = some q →
    wpCode (model prog w) (Γ.enter q.c q.h q.p) (fun r σ => ∃ sT m r' p' s', σ = SharedT.abs sT ∧ ev table prog w m Γ q.p (q.k r) sT = some (r', p', s') ∧ R r' s') q.p q.s.abs →
    x.wp (model prog w) Γ (fun a _ σ => ∃ s', R (.ok (emb a)) s' ∧ σ = s'.abs) (fun e _ σ => ∃ s', R (.error e) s' ∧ σ = s'.abs) p s.abs
  | 0, _, _, _, _, _, h, _ => by cases h
  | n + 1, Γ, p, x, s, q, h, H => by
    obtain ⟨T, m, life, gens, drawn, toks, os⟩ := s
    cases x with
    | pure a => cases h
    | raise e => cases h
    | rule tag k => exact cut_wp emb R n _ _ (k ()) _ _ h H
    | «at» q k => exact cut_wp emb R n _ _ (k ()) _ _ h H
    | point l k => exact cut_wp emb R n _ _ (k ()) _ _ h H
    | ask k => exact cut_wp emb R n _ _ (k ⟨prog, w.params⟩) _ _ h H
    | handled own k =>
      conv at h => lhs; whnf
      have := cut_wp emb R n _ _ _ _ _ h H
      cases own <;> exact this
    | stack k => exact cut_wp emb R n _ _ (k ((Γ.code, p) :: Γ.below)) _ _ h H
    | thread k => exact cut_wp emb R n _ _ (k 0) _ _ h H
    | fresh k => exact cut_wp emb R n _ _ (k toks) _ _ h H
    | load a qq k =>
      conv at h => lhs; whnf
      cases e : Nat.blt a m with
      | false => rw [e] at h; cases h
      | true =>
        rw [e] at h
        cases g : T.get a with
        | none => simp only [g] at h; cases h
        | some o =>
          cases al : alive o with
          | none => simp only [g, al] at h; cases h
          | some o' =>
            simp only [g, al] at h
            exact ⟨o', get_of e g al, cut_wp emb R n _ _ _ _ _ h H⟩
    | update a qq f k =>
      conv at h => lhs; whnf
      cases e : Nat.blt a m with
      | false => rw [e] at h; cases h
      | true =>
        rw [e] at h
        cases g : T.get a with
        | none => simp only [g] at h; cases h
        | some o =>
          cases al : alive o with
          | none => simp only [g, al] at h; cases h
          | some o' =>
            simp only [g, al] at h
            refine ⟨by show ((absHeap T m life).get? a).isSome; rw [get_of e g al]; rfl, ?_⟩
            have := cut_wp emb R n _ _ _ _ _ h H
            unfold SharedT.abs at this ⊢
            rw [absHeap_set g] at this
            exact this
    | loadIfAlive a k =>
      conv at h => lhs; whnf
      show Sem.wp _ _ (k ((absHeap T m life).get? a)) _ _ _ _
      cases e : Nat.blt a m with
      | false =>
        rw [e] at h
        have lt : ¬ a < m := fun q => by rw [show Nat.blt a m = true from Nat.ble_eq_true_of_le q] at e; cases e
        rw [abs_get_none lt]
        exact cut_wp emb R n _ _ _ _ _ h H
      | true =>
        rw [e] at h
        cases g : T.get a with
        | none => simp only [g] at h; cases h
        | some o =>
          simp only [g] at h
          rw [abs_get (Nat.le_of_ble_eq_true e) g]
          exact cut_wp emb R n _ _ _ _ _ h H
    | alloc o k =>
      conv at h => lhs; whnf
      cases e : ((T.ins m o).get m).isSome with
      | false => rw [e] at h; cases h
      | true =>
        rw [e] at h
        have := cut_wp emb R n _ _ _ _ _ h H
        unfold SharedT.abs at this ⊢
        rw [absHeap_ins e] at this
        show Sem.wp _ _ (k (absHeap T m life).objs.size) _ _ _ _
        rw [absHeap_size]
        exact this
    | call c hd g l k =>
      have other : ∀ {t : Option Pend}, (match ev table prog w n (Γ.enter c hd p) p (denote table c) ⟨T, m, life, gens, drawn, toks, os⟩ with
          | some (r, _, s') => cut table prog w n Γ p ((k r).bind fun a => .pure (.done (emb a))) s'
          | none => none) = some q → (Sem.call c hd g l k).wp (model prog w) Γ (fun a _ σ => ∃ s', R (.ok (emb a)) s' ∧ σ = s'.abs) (fun e _ σ => ∃ s', R (.error e) s' ∧ σ = s'.abs) p (SharedT.abs ⟨T, m, life, gens, drawn, toks, os⟩) := fun {_} h => by
        cases e : ev table prog w n (Γ.enter c hd p) p (denote table c) ⟨T, m, life, gens, drawn, toks, os⟩ with
        | none => rw [e] at h; cases h
        | some y =>
          obtain ⟨r₁, p₁, s₁⟩ := y
          rw [e] at h
          exact ⟨r₁, s₁.abs, ev_runs n _ _ _ _ _ _ _ e, cut_wp emb R n _ _ _ _ _ h H⟩
      conv at h => lhs; whnf
      cases c with
      | body b env =>
        obtain rfl := Option.some.inj h
        refine wpCode_mono (fun r σ hr => ?_) H
        obtain ⟨sT, m', r', p', s', rfl, he, hR⟩ := hr
        refine Sem.wp_mono _ _ _ (fun a _ τ hq => ?_) (fun e _ τ hq => ?_) _ _ (ev_wp emb m' Γ p (k r) sT r' p' s' he)
        · obtain ⟨rfl, _, rfl⟩ := hq; exact ⟨s', hR, rfl⟩
        · obtain ⟨rfl, _, rfl⟩ := hq; exact ⟨s', hR, rfl⟩
      | _ => exact other (t := none) h
    | unsupported | finish | register | choose | os | newGen | genState | resume | «yield» | fork | await => cases h
end
end Mine
end PartHA
section PartHB
set_option maxRecDepth 100000
set_option maxHeartbeats 0
noncomputable section
namespace Mine
open PySem PySem.W
noncomputable def clS : Stmt → Scope
  | .ClassDef _ _ _ _ _ _ sc _ _ _ _ => sc
  | _ => default
noncomputable abbrev SetD := Array (Int × Value) × Nat × SetTable
noncomputable def sO (d : SetD) : Obj := ⟨.type "set", none, .set d.1 d.2.1 d.2.2, #[]⟩
noncomputable def T0 (P : Params) (d1 d2 d3 : SetD) : BT := (.node (boot_o_0 P) (.node (boot_o_1 P) (.node (boot_o_3 P) (.node (boot_o_7 P) .nil .nil) .nil) (.node (boot_o_5 P) (.node (boot_o_9 P) .nil .nil) .nil)) (.node (boot_o_2 P) (.node (boot_o_4 P) (.node (boot_o_8 P) .nil .nil) .nil) (.node (boot_o_6 P) (.node (boot_o_10 P) .nil .nil) .nil)))
noncomputable def S0 (P : Params) (os : OsState) (l : Life) (d1 d2 d3 : SetD) : SharedT := ⟨T0 P d1 d2 d3, 11, l, #[], boot_drawn, 181, os⟩
noncomputable def o11_0 (P : Params) : Obj := ⟨.type "tuple", none, .seq #[] 0, #[]⟩
noncomputable def o12_0 (P : Params) : Obj := ⟨.none, none, .fields #[], #[]⟩
noncomputable def o13_0 (P : Params) : Obj := ⟨.type "code", none, .fields #[.str "<module>" 182, .str "<module>" 183, .str "/claim/cut.py" 184, .int 1 0, .int 0 0, .int 0 0, .int 0 0, .int 0 0, .ref 11, .bool false, .int 181 0, .ref 12, .none, .none, .none, .none, .int 185 0, .int 1 0, .str "/claim/cut.py" 186], #[]⟩
noncomputable def o14_0 (P : Params) : Obj := ⟨.type "frame", none, .plain, #[(some (.ref 13)), (some (.ref 3)), (some (.ref 3)), none, (some (.str "__main__" 164)), none, (some (.ref 0))]⟩
noncomputable def tr1 (P : Params) (d1 d2 d3 : SetD) : BT := (.node (boot_o_1 P) (.node (boot_o_3 P) (.node (boot_o_7 P) .nil .nil) (.node (o11_0 P) .nil .nil)) (.node (boot_o_5 P) (.node (boot_o_9 P) .nil .nil) (.node (o13_0 P) .nil .nil)))
noncomputable def Ta (P : Params) (d1 d2 d3 : SetD) : BT := (.node (boot_o_0 P) (tr1 P d1 d2 d3) (.node (boot_o_2 P) (.node (boot_o_4 P) (.node (boot_o_8 P) .nil .nil) (.node (o12_0 P) .nil .nil)) (.node (boot_o_6 P) (.node (boot_o_10 P) .nil .nil) (.node (o14_0 P) .nil .nil))))
noncomputable def Sa (P : Params) (os : OsState) (l : Life) (d1 d2 d3 : SetD) : SharedT := ⟨Ta P d1 d2 d3, 15, l, #[], boot_drawn, 187, os⟩
noncomputable def o3_1 (P : Params) : Obj := ⟨.type "dict", none, .dict #[⟨PyData.keyHash P "__name__", .str "__name__" 165, .str "snowballstemmer.swedish_stemmer" 459⟩, ⟨PyData.keyHash P "__doc__", .str "__doc__" 166, .none⟩, ⟨PyData.keyHash P "__package__", .str "__package__" 167, .none⟩, ⟨PyData.keyHash P "__loader__", .str "__loader__" 168, .builtin "__main__.__loader__#opaque"⟩, ⟨PyData.keyHash P "__spec__", .str "__spec__" 169, .none⟩, ⟨PyData.keyHash P "__annotations__", .str "__annotations__" 170, .ref 6⟩, ⟨PyData.keyHash P "__builtins__", .str "__builtins__" 171, .ref 4⟩, ⟨PyData.keyHash P "__file__", .str "__file__" 173, .str "/claim/cut.py" 172⟩, ⟨PyData.keyHash P "__cached__", .str "__cached__" 174, .none⟩, ⟨PyData.keyHash P "_wall", .str "_wall" 193, .ref 21⟩, ⟨PyData.keyHash P "BaseStemmer", .str "BaseStemmer" 423, .ref 197⟩, ⟨PyData.keyHash P "Among", .str "Among" 458, .ref 218⟩] 12, #[]⟩
noncomputable def o12_1 (P : Params) : Obj := ⟨.none, none, .fields #[.int 1 0, .int 0 0, .ref 20, .int 5 0, .int 0 0, .ref 27, .int 161 0, .int 0 0, .ref 207], #[]⟩
noncomputable def o15_0 (P : Params) : Obj := ⟨.type "tuple", none, .seq #[] 0, #[]⟩
noncomputable def o16_0 (P : Params) : Obj := ⟨.none, none, .fields #[], #[]⟩
noncomputable def o17_0 (P : Params) : Obj := ⟨.type "tuple", none, .seq #[.str "k" 190] 0, #[]⟩
noncomputable def o18_0 (P : Params) : Obj := ⟨.type "tuple", none, .seq #[] 0, #[]⟩
noncomputable def o19_0 (P : Params) : Obj := ⟨.none, none, .func ⟨"_wall", "_wall", fnA (stA tb0 0), .stmts (fnB (stA tb0 0)), fnS (stA tb0 0), 0, [], .none, .none, .none, .none, none, .none, .none, 0⟩, #[]⟩
noncomputable def o20_0 (P : Params) : Obj := ⟨.type "code", none, .fields #[.str "_wall" 187, .str "_wall" 188, .str "/claim/cut.py" 189, .int 1 0, .int 1 0, .int 0 0, .int 0 0, .int 3 0, .ref 15, .bool true, .int 181 0, .ref 16, .none, .ref 17, .ref 18, .ref 19, .int 191 0, .int 1 0, .str "/claim/cut.py" 192], #[]⟩
noncomputable def o21_0 (P : Params) : Obj := ⟨.type "function", none, .func ⟨"_wall", "_wall", fnA (stA tb0 0), .stmts (fnB (stA tb0 0)), fnS (stA tb0 0), 3, [], .none, .none, .none, .str "__main__" 164, none, .ref 20, .none, 0⟩, #[]⟩
noncomputable def o22_0 (P : Params) : Obj := ⟨.type "tuple", none, .seq #[] 0, #[]⟩
noncomputable def o23_0 (P : Params) : Obj := ⟨.type "builtin_function_or_method", none, .fields #[.builtin "type.__prepare__", .type "type"], #[]⟩
noncomputable def o24_0 (P : Params) : Obj := ⟨.type "dict", none, .dict #[⟨PyData.keyHash P "__module__", .str "__module__" 203, .str "snowballstemmer.basestemmer" 194⟩, ⟨PyData.keyHash P "__qualname__", .str "__qualname__" 205, .str "BaseStemmer" 204⟩, ⟨PyData.keyHash P "__firstlineno__", .str "__firstlineno__" 207, .int 5 206⟩, ⟨PyData.keyHash P "__init__", .str "__init__" 214, .ref 35⟩, ⟨PyData.keyHash P "set_current", .str "set_current" 222, .ref 42⟩, ⟨PyData.keyHash P "get_current", .str "get_current" 229, .ref 49⟩, ⟨PyData.keyHash P "copy_from", .str "copy_from" 237, .ref 56⟩, ⟨PyData.keyHash P "in_grouping", .str "in_grouping" 245, .ref 63⟩, ⟨PyData.keyHash P "go_in_grouping", .str "go_in_grouping" 253, .ref 70⟩, ⟨PyData.keyHash P "in_grouping_b", .str "in_grouping_b" 261, .ref 77⟩, ⟨PyData.keyHash P "go_in_grouping_b", .str "go_in_grouping_b" 269, .ref 84⟩, ⟨PyData.keyHash P "out_grouping", .str "out_grouping" 277, .ref 91⟩, ⟨PyData.keyHash P "go_out_grouping", .str "go_out_grouping" 285, .ref 98⟩, ⟨PyData.keyHash P "out_grouping_b", .str "out_grouping_b" 293, .ref 105⟩, ⟨PyData.keyHash P "go_out_grouping_b", .str "go_out_grouping_b" 301, .ref 112⟩, ⟨PyData.keyHash P "eq_s", .str "eq_s" 309, .ref 119⟩, ⟨PyData.keyHash P "eq_s_b", .str "eq_s_b" 317, .ref 126⟩, ⟨PyData.keyHash P "find_among", .str "find_among" 325, .ref 133⟩, ⟨PyData.keyHash P "find_among_b", .str "find_among_b" 345, .ref 140⟩, ⟨PyData.keyHash P "replace_s", .str "replace_s" 356, .ref 147⟩, ⟨PyData.keyHash P "slice_from", .str "slice_from" 364, .ref 154⟩, ⟨PyData.keyHash P "slice_del", .str "slice_del" 371, .ref 161⟩, ⟨PyData.keyHash P "insert", .str "insert" 381, .ref 168⟩, ⟨PyData.keyHash P "slice_to", .str "slice_to" 388, .ref 175⟩, ⟨PyData.keyHash P "assign_to", .str "assign_to" 395, .ref 182⟩, ⟨PyData.keyHash P "stemWord", .str "stemWord" 403, .ref 189⟩, ⟨PyData.keyHash P "stemWords", .str "stemWords" 409, .ref 194⟩, ⟨PyData.keyHash P "__static_attributes__", .str "__static_attributes__" 416, .ref 195⟩] 28, #[]⟩
noncomputable def o25_0 (P : Params) : Obj := ⟨.type "tuple", none, .seq #[] 0, #[]⟩
noncomputable def o26_0 (P : Params) : Obj := ⟨.none, none, .fields #[.int 7 0, .int 4 0, .ref 34, .int 10 0, .int 4 0, .ref 41, .int 18 0, .int 4 0, .ref 48, .int 21 0, .int 4 0, .ref 55, .int 24 0, .int 4 0, .ref 62, .int 27 0, .int 4 0, .ref 69, .int 34 0, .int 4 0, .ref 76, .int 42 0, .int 4 0, .ref 83, .int 45 0, .int 4 0, .ref 90, .int 48 0, .int 4 0, .ref 97, .int 55 0, .int 4 0, .ref 104, .int 63 0, .int 4 0, .ref 111, .int 66 0, .int 4 0, .ref 118, .int 69 0, .int 4 0, .ref 125, .int 75 0, .int 4 0, .ref 132, .int 78 0, .int 4 0, .ref 139, .int 123 0, .int 4 0, .ref 146, .int 133 0, .int 4 0, .ref 153, .int 141 0, .int 4 0, .ref 160, .int 144 0, .int 4 0, .ref 167, .int 147 0, .int 4 0, .ref 174, .int 150 0, .int 4 0, .ref 181, .int 153 0, .int 4 0, .ref 188, .int 158 0, .int 4 0, .ref 193], #[]⟩
noncomputable def o27_0 (P : Params) : Obj := ⟨.type "code", none, .fields #[.str "BaseStemmer" 198, .str "BaseStemmer" 199, .str "/claim/cut.py" 200, .int 5 0, .int 0 0, .int 0 0, .int 0 0, .int 0 0, .ref 25, .bool false, .int 181 0, .ref 26, .none, .none, .none, .none, .int 201 0, .int 5 0, .str "/claim/cut.py" 202], #[]⟩
noncomputable def o28_0 (P : Params) : Obj := ⟨.type "frame", none, .plain, #[(some (.ref 27)), (some (.ref 3)), (some (.ref 24)), none, (some (.str "snowballstemmer.basestemmer" 194)), none, (some (.ref 0))]⟩
noncomputable def o29_0 (P : Params) : Obj := ⟨.type "tuple", none, .seq #[] 0, #[]⟩
noncomputable def o30_0 (P : Params) : Obj := ⟨.none, none, .fields #[], #[]⟩
noncomputable def o31_0 (P : Params) : Obj := ⟨.type "tuple", none, .seq #[.str "self" 211] 0, #[]⟩
noncomputable def o32_0 (P : Params) : Obj := ⟨.type "tuple", none, .seq #[] 0, #[]⟩
noncomputable def o33_0 (P : Params) : Obj := ⟨.none, none, .func ⟨"__init__", "BaseStemmer.__init__", fnA (stA (clB (stA tb0 2)) 0), .stmts (fnB (stA (clB (stA tb0 2)) 0)), fnS (stA (clB (stA tb0 2)) 0), 0, [], .none, .none, .none, .none, none, .none, .none, 0⟩, #[]⟩
noncomputable def o34_0 (P : Params) : Obj := ⟨.type "code", none, .fields #[.str "__init__" 208, .str "BaseStemmer.__init__" 209, .str "/claim/cut.py" 210, .int 7 0, .int 1 0, .int 0 0, .int 0 0, .int 3 0, .ref 29, .bool true, .int 181 0, .ref 30, .none, .ref 31, .ref 32, .ref 33, .int 212 0, .int 7 0, .str "/claim/cut.py" 213], #[]⟩
noncomputable def o35_0 (P : Params) : Obj := ⟨.type "function", none, .func ⟨"__init__", "BaseStemmer.__init__", fnA (stA (clB (stA tb0 2)) 0), .stmts (fnB (stA (clB (stA tb0 2)) 0)), fnS (stA (clB (stA tb0 2)) 0), 3, [], .none, .none, .none, .str "snowballstemmer.basestemmer" 194, none, .ref 34, .none, 0⟩, #[]⟩
noncomputable def o36_0 (P : Params) : Obj := ⟨.type "tuple", none, .seq #[] 0, #[]⟩
noncomputable def o37_0 (P : Params) : Obj := ⟨.none, none, .fields #[], #[]⟩
noncomputable def o38_0 (P : Params) : Obj := ⟨.type "tuple", none, .seq #[.str "self" 218, .str "value" 219] 0, #[]⟩
noncomputable def o39_0 (P : Params) : Obj := ⟨.type "tuple", none, .seq #[] 0, #[]⟩
noncomputable def o40_0 (P : Params) : Obj := ⟨.none, none, .func ⟨"set_current", "BaseStemmer.set_current", fnA (stA (clB (stA tb0 2)) 1), .stmts (fnB (stA (clB (stA tb0 2)) 1)), fnS (stA (clB (stA tb0 2)) 1), 0, [], .none, .none, .none, .none, none, .none, .none, 0⟩, #[]⟩
noncomputable def o41_0 (P : Params) : Obj := ⟨.type "code", none, .fields #[.str "set_current" 215, .str "BaseStemmer.set_current" 216, .str "/claim/cut.py" 217, .int 10 0, .int 2 0, .int 0 0, .int 0 0, .int 3 0, .ref 36, .bool true, .int 181 0, .ref 37, .none, .ref 38, .ref 39, .ref 40, .int 220 0, .int 10 0, .str "/claim/cut.py" 221], #[]⟩
noncomputable def o42_0 (P : Params) : Obj := ⟨.type "function", none, .func ⟨"set_current", "BaseStemmer.set_current", fnA (stA (clB (stA tb0 2)) 1), .stmts (fnB (stA (clB (stA tb0 2)) 1)), fnS (stA (clB (stA tb0 2)) 1), 3, [], .none, .none, .none, .str "snowballstemmer.basestemmer" 194, none, .ref 41, .none, 0⟩, #[]⟩
noncomputable def o43_0 (P : Params) : Obj := ⟨.type "tuple", none, .seq #[] 0, #[]⟩
noncomputable def o44_0 (P : Params) : Obj := ⟨.none, none, .fields #[], #[]⟩
noncomputable def o45_0 (P : Params) : Obj := ⟨.type "tuple", none, .seq #[.str "self" 226] 0, #[]⟩
noncomputable def o46_0 (P : Params) : Obj := ⟨.type "tuple", none, .seq #[] 0, #[]⟩
noncomputable def o47_0 (P : Params) : Obj := ⟨.none, none, .func ⟨"get_current", "BaseStemmer.get_current", fnA (stA (clB (stA tb0 2)) 2), .stmts (fnB (stA (clB (stA tb0 2)) 2)), fnS (stA (clB (stA tb0 2)) 2), 0, [], .none, .none, .none, .none, none, .none, .none, 0⟩, #[]⟩
noncomputable def o48_0 (P : Params) : Obj := ⟨.type "code", none, .fields #[.str "get_current" 223, .str "BaseStemmer.get_current" 224, .str "/claim/cut.py" 225, .int 18 0, .int 1 0, .int 0 0, .int 0 0, .int 3 0, .ref 43, .bool true, .int 181 0, .ref 44, .none, .ref 45, .ref 46, .ref 47, .int 227 0, .int 18 0, .str "/claim/cut.py" 228], #[]⟩
noncomputable def o49_0 (P : Params) : Obj := ⟨.type "function", none, .func ⟨"get_current", "BaseStemmer.get_current", fnA (stA (clB (stA tb0 2)) 2), .stmts (fnB (stA (clB (stA tb0 2)) 2)), fnS (stA (clB (stA tb0 2)) 2), 3, [], .none, .none, .none, .str "snowballstemmer.basestemmer" 194, none, .ref 48, .none, 0⟩, #[]⟩
noncomputable def o50_0 (P : Params) : Obj := ⟨.type "tuple", none, .seq #[] 0, #[]⟩
noncomputable def o51_0 (P : Params) : Obj := ⟨.none, none, .fields #[], #[]⟩
noncomputable def o52_0 (P : Params) : Obj := ⟨.type "tuple", none, .seq #[.str "self" 233, .str "other" 234] 0, #[]⟩
noncomputable def o53_0 (P : Params) : Obj := ⟨.type "tuple", none, .seq #[] 0, #[]⟩
noncomputable def o54_0 (P : Params) : Obj := ⟨.none, none, .func ⟨"copy_from", "BaseStemmer.copy_from", fnA (stA (clB (stA tb0 2)) 3), .stmts (fnB (stA (clB (stA tb0 2)) 3)), fnS (stA (clB (stA tb0 2)) 3), 0, [], .none, .none, .none, .none, none, .none, .none, 0⟩, #[]⟩
noncomputable def o55_0 (P : Params) : Obj := ⟨.type "code", none, .fields #[.str "copy_from" 230, .str "BaseStemmer.copy_from" 231, .str "/claim/cut.py" 232, .int 21 0, .int 2 0, .int 0 0, .int 0 0, .int 3 0, .ref 50, .bool true, .int 181 0, .ref 51, .none, .ref 52, .ref 53, .ref 54, .int 235 0, .int 21 0, .str "/claim/cut.py" 236], #[]⟩
noncomputable def o56_0 (P : Params) : Obj := ⟨.type "function", none, .func ⟨"copy_from", "BaseStemmer.copy_from", fnA (stA (clB (stA tb0 2)) 3), .stmts (fnB (stA (clB (stA tb0 2)) 3)), fnS (stA (clB (stA tb0 2)) 3), 3, [], .none, .none, .none, .str "snowballstemmer.basestemmer" 194, none, .ref 55, .none, 0⟩, #[]⟩
noncomputable def o57_0 (P : Params) : Obj := ⟨.type "tuple", none, .seq #[] 0, #[]⟩
noncomputable def o58_0 (P : Params) : Obj := ⟨.none, none, .fields #[], #[]⟩
noncomputable def o59_0 (P : Params) : Obj := ⟨.type "tuple", none, .seq #[.str "self" 241, .str "s" 242] 0, #[]⟩
noncomputable def o60_0 (P : Params) : Obj := ⟨.type "tuple", none, .seq #[] 0, #[]⟩
noncomputable def o61_0 (P : Params) : Obj := ⟨.none, none, .func ⟨"in_grouping", "BaseStemmer.in_grouping", fnA (stA (clB (stA tb0 2)) 4), .stmts (fnB (stA (clB (stA tb0 2)) 4)), fnS (stA (clB (stA tb0 2)) 4), 0, [], .none, .none, .none, .none, none, .none, .none, 0⟩, #[]⟩
noncomputable def o62_0 (P : Params) : Obj := ⟨.type "code", none, .fields #[.str "in_grouping" 238, .str "BaseStemmer.in_grouping" 239, .str "/claim/cut.py" 240, .int 24 0, .int 2 0, .int 0 0, .int 0 0, .int 3 0, .ref 57, .bool true, .int 181 0, .ref 58, .none, .ref 59, .ref 60, .ref 61, .int 243 0, .int 24 0, .str "/claim/cut.py" 244], #[]⟩
noncomputable def o63_0 (P : Params) : Obj := ⟨.type "function", none, .func ⟨"in_grouping", "BaseStemmer.in_grouping", fnA (stA (clB (stA tb0 2)) 4), .stmts (fnB (stA (clB (stA tb0 2)) 4)), fnS (stA (clB (stA tb0 2)) 4), 3, [], .none, .none, .none, .str "snowballstemmer.basestemmer" 194, none, .ref 62, .none, 0⟩, #[]⟩
noncomputable def o64_0 (P : Params) : Obj := ⟨.type "tuple", none, .seq #[] 0, #[]⟩
noncomputable def o65_0 (P : Params) : Obj := ⟨.none, none, .fields #[], #[]⟩
noncomputable def o66_0 (P : Params) : Obj := ⟨.type "tuple", none, .seq #[.str "self" 249, .str "s" 250] 0, #[]⟩
noncomputable def o67_0 (P : Params) : Obj := ⟨.type "tuple", none, .seq #[] 0, #[]⟩
noncomputable def o68_0 (P : Params) : Obj := ⟨.none, none, .func ⟨"go_in_grouping", "BaseStemmer.go_in_grouping", fnA (stA (clB (stA tb0 2)) 5), .stmts (fnB (stA (clB (stA tb0 2)) 5)), fnS (stA (clB (stA tb0 2)) 5), 0, [], .none, .none, .none, .none, none, .none, .none, 0⟩, #[]⟩
noncomputable def o69_0 (P : Params) : Obj := ⟨.type "code", none, .fields #[.str "go_in_grouping" 246, .str "BaseStemmer.go_in_grouping" 247, .str "/claim/cut.py" 248, .int 27 0, .int 2 0, .int 0 0, .int 0 0, .int 3 0, .ref 64, .bool true, .int 181 0, .ref 65, .none, .ref 66, .ref 67, .ref 68, .int 251 0, .int 27 0, .str "/claim/cut.py" 252], #[]⟩
noncomputable def o70_0 (P : Params) : Obj := ⟨.type "function", none, .func ⟨"go_in_grouping", "BaseStemmer.go_in_grouping", fnA (stA (clB (stA tb0 2)) 5), .stmts (fnB (stA (clB (stA tb0 2)) 5)), fnS (stA (clB (stA tb0 2)) 5), 3, [], .none, .none, .none, .str "snowballstemmer.basestemmer" 194, none, .ref 69, .none, 0⟩, #[]⟩
noncomputable def o71_0 (P : Params) : Obj := ⟨.type "tuple", none, .seq #[] 0, #[]⟩
noncomputable def o72_0 (P : Params) : Obj := ⟨.none, none, .fields #[], #[]⟩
noncomputable def o73_0 (P : Params) : Obj := ⟨.type "tuple", none, .seq #[.str "self" 257, .str "s" 258] 0, #[]⟩
noncomputable def o74_0 (P : Params) : Obj := ⟨.type "tuple", none, .seq #[] 0, #[]⟩
noncomputable def o75_0 (P : Params) : Obj := ⟨.none, none, .func ⟨"in_grouping_b", "BaseStemmer.in_grouping_b", fnA (stA (clB (stA tb0 2)) 6), .stmts (fnB (stA (clB (stA tb0 2)) 6)), fnS (stA (clB (stA tb0 2)) 6), 0, [], .none, .none, .none, .none, none, .none, .none, 0⟩, #[]⟩
noncomputable def o76_0 (P : Params) : Obj := ⟨.type "code", none, .fields #[.str "in_grouping_b" 254, .str "BaseStemmer.in_grouping_b" 255, .str "/claim/cut.py" 256, .int 34 0, .int 2 0, .int 0 0, .int 0 0, .int 3 0, .ref 71, .bool true, .int 181 0, .ref 72, .none, .ref 73, .ref 74, .ref 75, .int 259 0, .int 34 0, .str "/claim/cut.py" 260], #[]⟩
noncomputable def o77_0 (P : Params) : Obj := ⟨.type "function", none, .func ⟨"in_grouping_b", "BaseStemmer.in_grouping_b", fnA (stA (clB (stA tb0 2)) 6), .stmts (fnB (stA (clB (stA tb0 2)) 6)), fnS (stA (clB (stA tb0 2)) 6), 3, [], .none, .none, .none, .str "snowballstemmer.basestemmer" 194, none, .ref 76, .none, 0⟩, #[]⟩
noncomputable def o78_0 (P : Params) : Obj := ⟨.type "tuple", none, .seq #[] 0, #[]⟩
noncomputable def o79_0 (P : Params) : Obj := ⟨.none, none, .fields #[], #[]⟩
noncomputable def o80_0 (P : Params) : Obj := ⟨.type "tuple", none, .seq #[.str "self" 265, .str "s" 266] 0, #[]⟩
noncomputable def o81_0 (P : Params) : Obj := ⟨.type "tuple", none, .seq #[] 0, #[]⟩
noncomputable def o82_0 (P : Params) : Obj := ⟨.none, none, .func ⟨"go_in_grouping_b", "BaseStemmer.go_in_grouping_b", fnA (stA (clB (stA tb0 2)) 7), .stmts (fnB (stA (clB (stA tb0 2)) 7)), fnS (stA (clB (stA tb0 2)) 7), 0, [], .none, .none, .none, .none, none, .none, .none, 0⟩, #[]⟩
noncomputable def o83_0 (P : Params) : Obj := ⟨.type "code", none, .fields #[.str "go_in_grouping_b" 262, .str "BaseStemmer.go_in_grouping_b" 263, .str "/claim/cut.py" 264, .int 42 0, .int 2 0, .int 0 0, .int 0 0, .int 3 0, .ref 78, .bool true, .int 181 0, .ref 79, .none, .ref 80, .ref 81, .ref 82, .int 267 0, .int 42 0, .str "/claim/cut.py" 268], #[]⟩
noncomputable def o84_0 (P : Params) : Obj := ⟨.type "function", none, .func ⟨"go_in_grouping_b", "BaseStemmer.go_in_grouping_b", fnA (stA (clB (stA tb0 2)) 7), .stmts (fnB (stA (clB (stA tb0 2)) 7)), fnS (stA (clB (stA tb0 2)) 7), 3, [], .none, .none, .none, .str "snowballstemmer.basestemmer" 194, none, .ref 83, .none, 0⟩, #[]⟩
noncomputable def o85_0 (P : Params) : Obj := ⟨.type "tuple", none, .seq #[] 0, #[]⟩
noncomputable def o86_0 (P : Params) : Obj := ⟨.none, none, .fields #[], #[]⟩
noncomputable def o87_0 (P : Params) : Obj := ⟨.type "tuple", none, .seq #[.str "self" 273, .str "s" 274] 0, #[]⟩
noncomputable def o88_0 (P : Params) : Obj := ⟨.type "tuple", none, .seq #[] 0, #[]⟩
noncomputable def o89_0 (P : Params) : Obj := ⟨.none, none, .func ⟨"out_grouping", "BaseStemmer.out_grouping", fnA (stA (clB (stA tb0 2)) 8), .stmts (fnB (stA (clB (stA tb0 2)) 8)), fnS (stA (clB (stA tb0 2)) 8), 0, [], .none, .none, .none, .none, none, .none, .none, 0⟩, #[]⟩
noncomputable def o90_0 (P : Params) : Obj := ⟨.type "code", none, .fields #[.str "out_grouping" 270, .str "BaseStemmer.out_grouping" 271, .str "/claim/cut.py" 272, .int 45 0, .int 2 0, .int 0 0, .int 0 0, .int 3 0, .ref 85, .bool true, .int 181 0, .ref 86, .none, .ref 87, .ref 88, .ref 89, .int 275 0, .int 45 0, .str "/claim/cut.py" 276], #[]⟩
noncomputable def o91_0 (P : Params) : Obj := ⟨.type "function", none, .func ⟨"out_grouping", "BaseStemmer.out_grouping", fnA (stA (clB (stA tb0 2)) 8), .stmts (fnB (stA (clB (stA tb0 2)) 8)), fnS (stA (clB (stA tb0 2)) 8), 3, [], .none, .none, .none, .str "snowballstemmer.basestemmer" 194, none, .ref 90, .none, 0⟩, #[]⟩
noncomputable def o92_0 (P : Params) : Obj := ⟨.type "tuple", none, .seq #[] 0, #[]⟩
noncomputable def o93_0 (P : Params) : Obj := ⟨.none, none, .fields #[], #[]⟩
noncomputable def o94_0 (P : Params) : Obj := ⟨.type "tuple", none, .seq #[.str "self" 281, .str "s" 282] 0, #[]⟩
noncomputable def o95_0 (P : Params) : Obj := ⟨.type "tuple", none, .seq #[] 0, #[]⟩
noncomputable def o96_0 (P : Params) : Obj := ⟨.none, none, .func ⟨"go_out_grouping", "BaseStemmer.go_out_grouping", fnA (stA (clB (stA tb0 2)) 9), .stmts (fnB (stA (clB (stA tb0 2)) 9)), fnS (stA (clB (stA tb0 2)) 9), 0, [], .none, .none, .none, .none, none, .none, .none, 0⟩, #[]⟩
noncomputable def o97_0 (P : Params) : Obj := ⟨.type "code", none, .fields #[.str "go_out_grouping" 278, .str "BaseStemmer.go_out_grouping" 279, .str "/claim/cut.py" 280, .int 48 0, .int 2 0, .int 0 0, .int 0 0, .int 3 0, .ref 92, .bool true, .int 181 0, .ref 93, .none, .ref 94, .ref 95, .ref 96, .int 283 0, .int 48 0, .str "/claim/cut.py" 284], #[]⟩
noncomputable def o98_0 (P : Params) : Obj := ⟨.type "function", none, .func ⟨"go_out_grouping", "BaseStemmer.go_out_grouping", fnA (stA (clB (stA tb0 2)) 9), .stmts (fnB (stA (clB (stA tb0 2)) 9)), fnS (stA (clB (stA tb0 2)) 9), 3, [], .none, .none, .none, .str "snowballstemmer.basestemmer" 194, none, .ref 97, .none, 0⟩, #[]⟩
noncomputable def o99_0 (P : Params) : Obj := ⟨.type "tuple", none, .seq #[] 0, #[]⟩
noncomputable def o100_0 (P : Params) : Obj := ⟨.none, none, .fields #[], #[]⟩
noncomputable def o101_0 (P : Params) : Obj := ⟨.type "tuple", none, .seq #[.str "self" 289, .str "s" 290] 0, #[]⟩
noncomputable def o102_0 (P : Params) : Obj := ⟨.type "tuple", none, .seq #[] 0, #[]⟩
noncomputable def o103_0 (P : Params) : Obj := ⟨.none, none, .func ⟨"out_grouping_b", "BaseStemmer.out_grouping_b", fnA (stA (clB (stA tb0 2)) 10), .stmts (fnB (stA (clB (stA tb0 2)) 10)), fnS (stA (clB (stA tb0 2)) 10), 0, [], .none, .none, .none, .none, none, .none, .none, 0⟩, #[]⟩
noncomputable def o104_0 (P : Params) : Obj := ⟨.type "code", none, .fields #[.str "out_grouping_b" 286, .str "BaseStemmer.out_grouping_b" 287, .str "/claim/cut.py" 288, .int 55 0, .int 2 0, .int 0 0, .int 0 0, .int 3 0, .ref 99, .bool true, .int 181 0, .ref 100, .none, .ref 101, .ref 102, .ref 103, .int 291 0, .int 55 0, .str "/claim/cut.py" 292], #[]⟩
noncomputable def o105_0 (P : Params) : Obj := ⟨.type "function", none, .func ⟨"out_grouping_b", "BaseStemmer.out_grouping_b", fnA (stA (clB (stA tb0 2)) 10), .stmts (fnB (stA (clB (stA tb0 2)) 10)), fnS (stA (clB (stA tb0 2)) 10), 3, [], .none, .none, .none, .str "snowballstemmer.basestemmer" 194, none, .ref 104, .none, 0⟩, #[]⟩
noncomputable def o106_0 (P : Params) : Obj := ⟨.type "tuple", none, .seq #[] 0, #[]⟩
noncomputable def o107_0 (P : Params) : Obj := ⟨.none, none, .fields #[], #[]⟩
noncomputable def o108_0 (P : Params) : Obj := ⟨.type "tuple", none, .seq #[.str "self" 297, .str "s" 298] 0, #[]⟩
noncomputable def o109_0 (P : Params) : Obj := ⟨.type "tuple", none, .seq #[] 0, #[]⟩
noncomputable def o110_0 (P : Params) : Obj := ⟨.none, none, .func ⟨"go_out_grouping_b", "BaseStemmer.go_out_grouping_b", fnA (stA (clB (stA tb0 2)) 11), .stmts (fnB (stA (clB (stA tb0 2)) 11)), fnS (stA (clB (stA tb0 2)) 11), 0, [], .none, .none, .none, .none, none, .none, .none, 0⟩, #[]⟩
noncomputable def o111_0 (P : Params) : Obj := ⟨.type "code", none, .fields #[.str "go_out_grouping_b" 294, .str "BaseStemmer.go_out_grouping_b" 295, .str "/claim/cut.py" 296, .int 63 0, .int 2 0, .int 0 0, .int 0 0, .int 3 0, .ref 106, .bool true, .int 181 0, .ref 107, .none, .ref 108, .ref 109, .ref 110, .int 299 0, .int 63 0, .str "/claim/cut.py" 300], #[]⟩
noncomputable def o112_0 (P : Params) : Obj := ⟨.type "function", none, .func ⟨"go_out_grouping_b", "BaseStemmer.go_out_grouping_b", fnA (stA (clB (stA tb0 2)) 11), .stmts (fnB (stA (clB (stA tb0 2)) 11)), fnS (stA (clB (stA tb0 2)) 11), 3, [], .none, .none, .none, .str "snowballstemmer.basestemmer" 194, none, .ref 111, .none, 0⟩, #[]⟩
noncomputable def o113_0 (P : Params) : Obj := ⟨.type "tuple", none, .seq #[] 0, #[]⟩
noncomputable def o114_0 (P : Params) : Obj := ⟨.none, none, .fields #[], #[]⟩
noncomputable def o115_0 (P : Params) : Obj := ⟨.type "tuple", none, .seq #[.str "self" 305, .str "s" 306] 0, #[]⟩
noncomputable def o116_0 (P : Params) : Obj := ⟨.type "tuple", none, .seq #[] 0, #[]⟩
noncomputable def o117_0 (P : Params) : Obj := ⟨.none, none, .func ⟨"eq_s", "BaseStemmer.eq_s", fnA (stA (clB (stA tb0 2)) 12), .stmts (fnB (stA (clB (stA tb0 2)) 12)), fnS (stA (clB (stA tb0 2)) 12), 0, [], .none, .none, .none, .none, none, .none, .none, 0⟩, #[]⟩
noncomputable def o118_0 (P : Params) : Obj := ⟨.type "code", none, .fields #[.str "eq_s" 302, .str "BaseStemmer.eq_s" 303, .str "/claim/cut.py" 304, .int 66 0, .int 2 0, .int 0 0, .int 0 0, .int 3 0, .ref 113, .bool true, .int 181 0, .ref 114, .none, .ref 115, .ref 116, .ref 117, .int 307 0, .int 66 0, .str "/claim/cut.py" 308], #[]⟩
noncomputable def o119_0 (P : Params) : Obj := ⟨.type "function", none, .func ⟨"eq_s", "BaseStemmer.eq_s", fnA (stA (clB (stA tb0 2)) 12), .stmts (fnB (stA (clB (stA tb0 2)) 12)), fnS (stA (clB (stA tb0 2)) 12), 3, [], .none, .none, .none, .str "snowballstemmer.basestemmer" 194, none, .ref 118, .none, 0⟩, #[]⟩
noncomputable def o120_0 (P : Params) : Obj := ⟨.type "tuple", none, .seq #[] 0, #[]⟩
noncomputable def o121_0 (P : Params) : Obj := ⟨.none, none, .fields #[], #[]⟩
noncomputable def o122_0 (P : Params) : Obj := ⟨.type "tuple", none, .seq #[.str "self" 313, .str "s" 314] 0, #[]⟩
noncomputable def o123_0 (P : Params) : Obj := ⟨.type "tuple", none, .seq #[] 0, #[]⟩
noncomputable def o124_0 (P : Params) : Obj := ⟨.none, none, .func ⟨"eq_s_b", "BaseStemmer.eq_s_b", fnA (stA (clB (stA tb0 2)) 13), .stmts (fnB (stA (clB (stA tb0 2)) 13)), fnS (stA (clB (stA tb0 2)) 13), 0, [], .none, .none, .none, .none, none, .none, .none, 0⟩, #[]⟩
noncomputable def o125_0 (P : Params) : Obj := ⟨.type "code", none, .fields #[.str "eq_s_b" 310, .str "BaseStemmer.eq_s_b" 311, .str "/claim/cut.py" 312, .int 69 0, .int 2 0, .int 0 0, .int 0 0, .int 3 0, .ref 120, .bool true, .int 181 0, .ref 121, .none, .ref 122, .ref 123, .ref 124, .int 315 0, .int 69 0, .str "/claim/cut.py" 316], #[]⟩
noncomputable def o126_0 (P : Params) : Obj := ⟨.type "function", none, .func ⟨"eq_s_b", "BaseStemmer.eq_s_b", fnA (stA (clB (stA tb0 2)) 13), .stmts (fnB (stA (clB (stA tb0 2)) 13)), fnS (stA (clB (stA tb0 2)) 13), 3, [], .none, .none, .none, .str "snowballstemmer.basestemmer" 194, none, .ref 125, .none, 0⟩, #[]⟩
noncomputable def o127_0 (P : Params) : Obj := ⟨.type "tuple", none, .seq #[] 0, #[]⟩
noncomputable def o128_0 (P : Params) : Obj := ⟨.none, none, .fields #[], #[]⟩
noncomputable def o129_0 (P : Params) : Obj := ⟨.type "tuple", none, .seq #[.str "self" 321, .str "v" 322] 0, #[]⟩
noncomputable def o130_0 (P : Params) : Obj := ⟨.type "tuple", none, .seq #[] 0, #[]⟩
noncomputable def o131_0 (P : Params) : Obj := ⟨.none, none, .func ⟨"find_among", "BaseStemmer.find_among", fnA (stA (clB (stA tb0 2)) 14), .stmts (fnB (stA (clB (stA tb0 2)) 14)), fnS (stA (clB (stA tb0 2)) 14), 0, [], .none, .none, .none, .none, none, .none, .none, 0⟩, #[]⟩
noncomputable def o132_0 (P : Params) : Obj := ⟨.type "code", none, .fields #[.str "find_among" 318, .str "BaseStemmer.find_among" 319, .str "/claim/cut.py" 320, .int 75 0, .int 2 0, .int 0 0, .int 0 0, .int 3 0, .ref 127, .bool true, .int 181 0, .ref 128, .none, .ref 129, .ref 130, .ref 131, .int 323 0, .int 75 0, .str "/claim/cut.py" 324], #[]⟩
noncomputable def o133_0 (P : Params) : Obj := ⟨.type "function", none, .func ⟨"find_among", "BaseStemmer.find_among", fnA (stA (clB (stA tb0 2)) 14), .stmts (fnB (stA (clB (stA tb0 2)) 14)), fnS (stA (clB (stA tb0 2)) 14), 3, [], .none, .none, .none, .str "snowballstemmer.basestemmer" 194, none, .ref 132, .none, 0⟩, #[]⟩
noncomputable def o134_0 (P : Params) : Obj := ⟨.type "tuple", none, .seq #[] 0, #[]⟩
noncomputable def o135_0 (P : Params) : Obj := ⟨.none, none, .fields #[], #[]⟩
noncomputable def o136_0 (P : Params) : Obj := ⟨.type "tuple", none, .seq #[.str "self" 329, .str "v" 330, .str "i" 331, .str "j" 332, .str "c" 333, .str "lb" 334, .str "common_i" 335, .str "common_j" 336, .str "first_key_inspected" 337, .str "k" 338, .str "diff" 339, .str "common" 340, .str "w" 341, .str "i2" 342] 0, #[]⟩
noncomputable def o137_0 (P : Params) : Obj := ⟨.type "tuple", none, .seq #[] 0, #[]⟩
noncomputable def o138_0 (P : Params) : Obj := ⟨.none, none, .func ⟨"find_among_b", "BaseStemmer.find_among_b", fnA (stA (clB (stA tb0 2)) 15), .stmts (fnB (stA (clB (stA tb0 2)) 15)), fnS (stA (clB (stA tb0 2)) 15), 0, [], .none, .none, .none, .none, none, .none, .none, 0⟩, #[]⟩
noncomputable def o139_0 (P : Params) : Obj := ⟨.type "code", none, .fields #[.str "find_among_b" 326, .str "BaseStemmer.find_among_b" 327, .str "/claim/cut.py" 328, .int 78 0, .int 2 0, .int 0 0, .int 0 0, .int 3 0, .ref 134, .bool true, .int 181 0, .ref 135, .none, .ref 136, .ref 137, .ref 138, .int 343 0, .int 78 0, .str "/claim/cut.py" 344], #[]⟩
noncomputable def o140_0 (P : Params) : Obj := ⟨.type "function", none, .func ⟨"find_among_b", "BaseStemmer.find_among_b", fnA (stA (clB (stA tb0 2)) 15), .stmts (fnB (stA (clB (stA tb0 2)) 15)), fnS (stA (clB (stA tb0 2)) 15), 3, [], .none, .none, .none, .str "snowballstemmer.basestemmer" 194, none, .ref 139, .none, 0⟩, #[]⟩
noncomputable def o141_0 (P : Params) : Obj := ⟨.type "tuple", none, .seq #[] 0, #[]⟩
noncomputable def o142_0 (P : Params) : Obj := ⟨.none, none, .fields #[], #[]⟩
noncomputable def o143_0 (P : Params) : Obj := ⟨.type "tuple", none, .seq #[.str "self" 349, .str "c_bra" 350, .str "c_ket" 351, .str "s" 352, .str "adjustment" 353] 0, #[]⟩
noncomputable def o144_0 (P : Params) : Obj := ⟨.type "tuple", none, .seq #[] 0, #[]⟩
noncomputable def o145_0 (P : Params) : Obj := ⟨.none, none, .func ⟨"replace_s", "BaseStemmer.replace_s", fnA (stA (clB (stA tb0 2)) 16), .stmts (fnB (stA (clB (stA tb0 2)) 16)), fnS (stA (clB (stA tb0 2)) 16), 0, [], .none, .none, .none, .none, none, .none, .none, 0⟩, #[]⟩
noncomputable def o146_0 (P : Params) : Obj := ⟨.type "code", none, .fields #[.str "replace_s" 346, .str "BaseStemmer.replace_s" 347, .str "/claim/cut.py" 348, .int 123 0, .int 4 0, .int 0 0, .int 0 0, .int 3 0, .ref 141, .bool true, .int 181 0, .ref 142, .none, .ref 143, .ref 144, .ref 145, .int 354 0, .int 123 0, .str "/claim/cut.py" 355], #[]⟩
noncomputable def o147_0 (P : Params) : Obj := ⟨.type "function", none, .func ⟨"replace_s", "BaseStemmer.replace_s", fnA (stA (clB (stA tb0 2)) 16), .stmts (fnB (stA (clB (stA tb0 2)) 16)), fnS (stA (clB (stA tb0 2)) 16), 3, [], .none, .none, .none, .str "snowballstemmer.basestemmer" 194, none, .ref 146, .none, 0⟩, #[]⟩
noncomputable def o148_0 (P : Params) : Obj := ⟨.type "tuple", none, .seq #[] 0, #[]⟩
noncomputable def o149_0 (P : Params) : Obj := ⟨.none, none, .fields #[], #[]⟩
noncomputable def o150_0 (P : Params) : Obj := ⟨.type "tuple", none, .seq #[.str "self" 360, .str "s" 361] 0, #[]⟩
noncomputable def o151_0 (P : Params) : Obj := ⟨.type "tuple", none, .seq #[] 0, #[]⟩
noncomputable def o152_0 (P : Params) : Obj := ⟨.none, none, .func ⟨"slice_from", "BaseStemmer.slice_from", fnA (stA (clB (stA tb0 2)) 17), .stmts (fnB (stA (clB (stA tb0 2)) 17)), fnS (stA (clB (stA tb0 2)) 17), 0, [], .none, .none, .none, .none, none, .none, .none, 0⟩, #[]⟩
noncomputable def o153_0 (P : Params) : Obj := ⟨.type "code", none, .fields #[.str "slice_from" 357, .str "BaseStemmer.slice_from" 358, .str "/claim/cut.py" 359, .int 133 0, .int 2 0, .int 0 0, .int 0 0, .int 3 0, .ref 148, .bool true, .int 181 0, .ref 149, .none, .ref 150, .ref 151, .ref 152, .int 362 0, .int 133 0, .str "/claim/cut.py" 363], #[]⟩
noncomputable def o154_0 (P : Params) : Obj := ⟨.type "function", none, .func ⟨"slice_from", "BaseStemmer.slice_from", fnA (stA (clB (stA tb0 2)) 17), .stmts (fnB (stA (clB (stA tb0 2)) 17)), fnS (stA (clB (stA tb0 2)) 17), 3, [], .none, .none, .none, .str "snowballstemmer.basestemmer" 194, none, .ref 153, .none, 0⟩, #[]⟩
noncomputable def o155_0 (P : Params) : Obj := ⟨.type "tuple", none, .seq #[] 0, #[]⟩
noncomputable def o156_0 (P : Params) : Obj := ⟨.none, none, .fields #[], #[]⟩
noncomputable def o157_0 (P : Params) : Obj := ⟨.type "tuple", none, .seq #[.str "self" 368] 0, #[]⟩
noncomputable def o158_0 (P : Params) : Obj := ⟨.type "tuple", none, .seq #[] 0, #[]⟩
noncomputable def o159_0 (P : Params) : Obj := ⟨.none, none, .func ⟨"slice_del", "BaseStemmer.slice_del", fnA (stA (clB (stA tb0 2)) 18), .stmts (fnB (stA (clB (stA tb0 2)) 18)), fnS (stA (clB (stA tb0 2)) 18), 0, [], .none, .none, .none, .none, none, .none, .none, 0⟩, #[]⟩
noncomputable def o160_0 (P : Params) : Obj := ⟨.type "code", none, .fields #[.str "slice_del" 365, .str "BaseStemmer.slice_del" 366, .str "/claim/cut.py" 367, .int 141 0, .int 1 0, .int 0 0, .int 0 0, .int 3 0, .ref 155, .bool true, .int 181 0, .ref 156, .none, .ref 157, .ref 158, .ref 159, .int 369 0, .int 141 0, .str "/claim/cut.py" 370], #[]⟩
noncomputable def o161_0 (P : Params) : Obj := ⟨.type "function", none, .func ⟨"slice_del", "BaseStemmer.slice_del", fnA (stA (clB (stA tb0 2)) 18), .stmts (fnB (stA (clB (stA tb0 2)) 18)), fnS (stA (clB (stA tb0 2)) 18), 3, [], .none, .none, .none, .str "snowballstemmer.basestemmer" 194, none, .ref 160, .none, 0⟩, #[]⟩
noncomputable def o162_0 (P : Params) : Obj := ⟨.type "tuple", none, .seq #[] 0, #[]⟩
noncomputable def o163_0 (P : Params) : Obj := ⟨.none, none, .fields #[], #[]⟩
noncomputable def o164_0 (P : Params) : Obj := ⟨.type "tuple", none, .seq #[.str "self" 375, .str "c_bra" 376, .str "c_ket" 377, .str "s" 378] 0, #[]⟩
noncomputable def o165_0 (P : Params) : Obj := ⟨.type "tuple", none, .seq #[] 0, #[]⟩
noncomputable def o166_0 (P : Params) : Obj := ⟨.none, none, .func ⟨"insert", "BaseStemmer.insert", fnA (stA (clB (stA tb0 2)) 19), .stmts (fnB (stA (clB (stA tb0 2)) 19)), fnS (stA (clB (stA tb0 2)) 19), 0, [], .none, .none, .none, .none, none, .none, .none, 0⟩, #[]⟩
noncomputable def o167_0 (P : Params) : Obj := ⟨.type "code", none, .fields #[.str "insert" 372, .str "BaseStemmer.insert" 373, .str "/claim/cut.py" 374, .int 144 0, .int 4 0, .int 0 0, .int 0 0, .int 3 0, .ref 162, .bool true, .int 181 0, .ref 163, .none, .ref 164, .ref 165, .ref 166, .int 379 0, .int 144 0, .str "/claim/cut.py" 380], #[]⟩
noncomputable def o168_0 (P : Params) : Obj := ⟨.type "function", none, .func ⟨"insert", "BaseStemmer.insert", fnA (stA (clB (stA tb0 2)) 19), .stmts (fnB (stA (clB (stA tb0 2)) 19)), fnS (stA (clB (stA tb0 2)) 19), 3, [], .none, .none, .none, .str "snowballstemmer.basestemmer" 194, none, .ref 167, .none, 0⟩, #[]⟩
noncomputable def o169_0 (P : Params) : Obj := ⟨.type "tuple", none, .seq #[] 0, #[]⟩
noncomputable def o170_0 (P : Params) : Obj := ⟨.none, none, .fields #[], #[]⟩
noncomputable def o171_0 (P : Params) : Obj := ⟨.type "tuple", none, .seq #[.str "self" 385] 0, #[]⟩
noncomputable def o172_0 (P : Params) : Obj := ⟨.type "tuple", none, .seq #[] 0, #[]⟩
noncomputable def o173_0 (P : Params) : Obj := ⟨.none, none, .func ⟨"slice_to", "BaseStemmer.slice_to", fnA (stA (clB (stA tb0 2)) 20), .stmts (fnB (stA (clB (stA tb0 2)) 20)), fnS (stA (clB (stA tb0 2)) 20), 0, [], .none, .none, .none, .none, none, .none, .none, 0⟩, #[]⟩
noncomputable def o174_0 (P : Params) : Obj := ⟨.type "code", none, .fields #[.str "slice_to" 382, .str "BaseStemmer.slice_to" 383, .str "/claim/cut.py" 384, .int 147 0, .int 1 0, .int 0 0, .int 0 0, .int 3 0, .ref 169, .bool true, .int 181 0, .ref 170, .none, .ref 171, .ref 172, .ref 173, .int 386 0, .int 147 0, .str "/claim/cut.py" 387], #[]⟩
noncomputable def o175_0 (P : Params) : Obj := ⟨.type "function", none, .func ⟨"slice_to", "BaseStemmer.slice_to", fnA (stA (clB (stA tb0 2)) 20), .stmts (fnB (stA (clB (stA tb0 2)) 20)), fnS (stA (clB (stA tb0 2)) 20), 3, [], .none, .none, .none, .str "snowballstemmer.basestemmer" 194, none, .ref 174, .none, 0⟩, #[]⟩
noncomputable def o176_0 (P : Params) : Obj := ⟨.type "tuple", none, .seq #[] 0, #[]⟩
noncomputable def o177_0 (P : Params) : Obj := ⟨.none, none, .fields #[], #[]⟩
noncomputable def o178_0 (P : Params) : Obj := ⟨.type "tuple", none, .seq #[.str "self" 392] 0, #[]⟩
noncomputable def o179_0 (P : Params) : Obj := ⟨.type "tuple", none, .seq #[] 0, #[]⟩
noncomputable def o180_0 (P : Params) : Obj := ⟨.none, none, .func ⟨"assign_to", "BaseStemmer.assign_to", fnA (stA (clB (stA tb0 2)) 21), .stmts (fnB (stA (clB (stA tb0 2)) 21)), fnS (stA (clB (stA tb0 2)) 21), 0, [], .none, .none, .none, .none, none, .none, .none, 0⟩, #[]⟩
noncomputable def o181_0 (P : Params) : Obj := ⟨.type "code", none, .fields #[.str "assign_to" 389, .str "BaseStemmer.assign_to" 390, .str "/claim/cut.py" 391, .int 150 0, .int 1 0, .int 0 0, .int 0 0, .int 3 0, .ref 176, .bool true, .int 181 0, .ref 177, .none, .ref 178, .ref 179, .ref 180, .int 393 0, .int 150 0, .str "/claim/cut.py" 394], #[]⟩
noncomputable def o182_0 (P : Params) : Obj := ⟨.type "function", none, .func ⟨"assign_to", "BaseStemmer.assign_to", fnA (stA (clB (stA tb0 2)) 21), .stmts (fnB (stA (clB (stA tb0 2)) 21)), fnS (stA (clB (stA tb0 2)) 21), 3, [], .none, .none, .none, .str "snowballstemmer.basestemmer" 194, none, .ref 181, .none, 0⟩, #[]⟩
noncomputable def o183_0 (P : Params) : Obj := ⟨.type "tuple", none, .seq #[] 0, #[]⟩
noncomputable def o184_0 (P : Params) : Obj := ⟨.none, none, .fields #[], #[]⟩
noncomputable def o185_0 (P : Params) : Obj := ⟨.type "tuple", none, .seq #[.str "self" 399, .str "word" 400] 0, #[]⟩
noncomputable def o186_0 (P : Params) : Obj := ⟨.type "tuple", none, .seq #[] 0, #[]⟩
noncomputable def o187_0 (P : Params) : Obj := ⟨.none, none, .func ⟨"stemWord", "BaseStemmer.stemWord", fnA (stA (clB (stA tb0 2)) 22), .stmts (fnB (stA (clB (stA tb0 2)) 22)), fnS (stA (clB (stA tb0 2)) 22), 0, [], .none, .none, .none, .none, none, .none, .none, 0⟩, #[]⟩
noncomputable def o188_0 (P : Params) : Obj := ⟨.type "code", none, .fields #[.str "stemWord" 396, .str "BaseStemmer.stemWord" 397, .str "/claim/cut.py" 398, .int 153 0, .int 2 0, .int 0 0, .int 0 0, .int 3 0, .ref 183, .bool true, .int 181 0, .ref 184, .none, .ref 185, .ref 186, .ref 187, .int 401 0, .int 153 0, .str "/claim/cut.py" 402], #[]⟩
noncomputable def o189_0 (P : Params) : Obj := ⟨.type "function", none, .func ⟨"stemWord", "BaseStemmer.stemWord", fnA (stA (clB (stA tb0 2)) 22), .stmts (fnB (stA (clB (stA tb0 2)) 22)), fnS (stA (clB (stA tb0 2)) 22), 3, [], .none, .none, .none, .str "snowballstemmer.basestemmer" 194, none, .ref 188, .none, 0⟩, #[]⟩
noncomputable def o190_0 (P : Params) : Obj := ⟨.type "tuple", none, .seq #[] 0, #[]⟩
noncomputable def o191_0 (P : Params) : Obj := ⟨.none, none, .fields #[], #[]⟩
noncomputable def o192_0 (P : Params) : Obj := ⟨.none, none, .func ⟨"stemWords", "BaseStemmer.stemWords", fnA (stA (clB (stA tb0 2)) 23), .stmts (fnB (stA (clB (stA tb0 2)) 23)), fnS (stA (clB (stA tb0 2)) 23), 0, [], .none, .none, .none, .none, none, .none, .none, 0⟩, #[]⟩
noncomputable def o193_0 (P : Params) : Obj := ⟨.type "code", none, .fields #[.str "stemWords" 404, .str "BaseStemmer.stemWords" 405, .str "/claim/cut.py" 406, .int 158 0, .int 2 0, .int 0 0, .int 0 0, .int 3 0, .ref 190, .bool true, .int 181 0, .ref 191, .none, .none, .none, .ref 192, .int 407 0, .int 158 0, .str "/claim/cut.py" 408], #[]⟩
noncomputable def o194_0 (P : Params) : Obj := ⟨.type "function", none, .func ⟨"stemWords", "BaseStemmer.stemWords", fnA (stA (clB (stA tb0 2)) 23), .stmts (fnB (stA (clB (stA tb0 2)) 23)), fnS (stA (clB (stA tb0 2)) 23), 3, [], .none, .none, .none, .str "snowballstemmer.basestemmer" 194, none, .ref 193, .none, 0⟩, #[]⟩
noncomputable def o195_0 (P : Params) : Obj := ⟨.type "tuple", none, .seq #[.str "bra" 410, .str "current" 411, .str "cursor" 412, .str "ket" 413, .str "limit" 414, .str "limit_backward" 415] 0, #[]⟩
noncomputable def o196_0 (P : Params) : Obj := ⟨.type "dict", none, .dict #[⟨PyData.keyHash P "__module__", .str "__module__" 203, .str "snowballstemmer.basestemmer" 194⟩, ⟨PyData.keyHash P "__firstlineno__", .str "__firstlineno__" 207, .int 5 206⟩, ⟨PyData.keyHash P "__init__", .str "__init__" 214, .ref 35⟩, ⟨PyData.keyHash P "set_current", .str "set_current" 222, .ref 42⟩, ⟨PyData.keyHash P "get_current", .str "get_current" 229, .ref 49⟩, ⟨PyData.keyHash P "copy_from", .str "copy_from" 237, .ref 56⟩, ⟨PyData.keyHash P "in_grouping", .str "in_grouping" 245, .ref 63⟩, ⟨PyData.keyHash P "go_in_grouping", .str "go_in_grouping" 253, .ref 70⟩, ⟨PyData.keyHash P "in_grouping_b", .str "in_grouping_b" 261, .ref 77⟩, ⟨PyData.keyHash P "go_in_grouping_b", .str "go_in_grouping_b" 269, .ref 84⟩, ⟨PyData.keyHash P "out_grouping", .str "out_grouping" 277, .ref 91⟩, ⟨PyData.keyHash P "go_out_grouping", .str "go_out_grouping" 285, .ref 98⟩, ⟨PyData.keyHash P "out_grouping_b", .str "out_grouping_b" 293, .ref 105⟩, ⟨PyData.keyHash P "go_out_grouping_b", .str "go_out_grouping_b" 301, .ref 112⟩, ⟨PyData.keyHash P "eq_s", .str "eq_s" 309, .ref 119⟩, ⟨PyData.keyHash P "eq_s_b", .str "eq_s_b" 317, .ref 126⟩, ⟨PyData.keyHash P "find_among", .str "find_among" 325, .ref 133⟩, ⟨PyData.keyHash P "find_among_b", .str "find_among_b" 345, .ref 140⟩, ⟨PyData.keyHash P "replace_s", .str "replace_s" 356, .ref 147⟩, ⟨PyData.keyHash P "slice_from", .str "slice_from" 364, .ref 154⟩, ⟨PyData.keyHash P "slice_del", .str "slice_del" 371, .ref 161⟩, ⟨PyData.keyHash P "insert", .str "insert" 381, .ref 168⟩, ⟨PyData.keyHash P "slice_to", .str "slice_to" 388, .ref 175⟩, ⟨PyData.keyHash P "assign_to", .str "assign_to" 395, .ref 182⟩, ⟨PyData.keyHash P "stemWord", .str "stemWord" 403, .ref 189⟩, ⟨PyData.keyHash P "stemWords", .str "stemWords" 409, .ref 194⟩, ⟨PyData.keyHash P "__static_attributes__", .str "__static_attributes__" 416, .ref 195⟩, ⟨PyData.keyHash P "__dict__", .str "__dict__" 418, .ref 198⟩, ⟨PyData.keyHash P "__weakref__", .str "__weakref__" 420, .ref 199⟩, ⟨PyData.keyHash P "__doc__", .str "__doc__" 421, .none⟩] 4, #[]⟩
noncomputable def o197_0 (P : Params) : Obj := ⟨.type "type", none, .cls ⟨"BaseStemmer", [.type "object"], [.ref 197, .type "object"], 196, "BaseStemmer", true, [], [], false, none, false⟩, #[none, none, (some (.str "BaseStemmer" 196)), (some (.str "BaseStemmer" 204)), (some (.builtin "object.__new__")), (some (.bool true))]⟩
noncomputable def o198_0 (P : Params) : Obj := ⟨.type "getset_descriptor", none, .fields #[.str "__dict__" 417, .ref 197, .builtin "function.__dict__", .builtin "function.__dict__#set"], #[]⟩
noncomputable def o199_0 (P : Params) : Obj := ⟨.type "getset_descriptor", none, .fields #[.str "__weakref__" 419, .ref 197, .builtin "ExceptionGroup.__weakref__", .none], #[]⟩
noncomputable def o200_0 (P : Params) : Obj := ⟨.type "super", none, .fields #[.ref 197, .ref 197, .ref 197], #[]⟩
noncomputable def o201_0 (P : Params) : Obj := ⟨.type "builtin_function_or_method", none, .fields #[.builtin "object.__init_subclass__", .ref 197], #[]⟩
noncomputable def o202_0 (P : Params) : Obj := ⟨.type "tuple", none, .seq #[] 0, #[]⟩
noncomputable def o203_0 (P : Params) : Obj := ⟨.type "builtin_function_or_method", none, .fields #[.builtin "type.__prepare__", .type "type"], #[]⟩
noncomputable def o204_0 (P : Params) : Obj := ⟨.type "dict", none, .dict #[⟨PyData.keyHash P "__module__", .str "__module__" 433, .str "snowballstemmer.among" 424⟩, ⟨PyData.keyHash P "__qualname__", .str "__qualname__" 435, .str "Among" 434⟩, ⟨PyData.keyHash P "__firstlineno__", .str "__firstlineno__" 437, .int 161 436⟩, ⟨PyData.keyHash P "__init__", .str "__init__" 447, .ref 215⟩, ⟨PyData.keyHash P "__static_attributes__", .str "__static_attributes__" 451, .ref 216⟩] 5, #[]⟩
noncomputable def o205_0 (P : Params) : Obj := ⟨.type "tuple", none, .seq #[] 0, #[]⟩
noncomputable def o206_0 (P : Params) : Obj := ⟨.none, none, .fields #[.int 163 0, .int 4 0, .ref 214], #[]⟩
noncomputable def o207_0 (P : Params) : Obj := ⟨.type "code", none, .fields #[.str "Among" 428, .str "Among" 429, .str "/claim/cut.py" 430, .int 161 0, .int 0 0, .int 0 0, .int 0 0, .int 0 0, .ref 205, .bool false, .int 181 0, .ref 206, .none, .none, .none, .none, .int 431 0, .int 161 0, .str "/claim/cut.py" 432], #[]⟩
noncomputable def o208_0 (P : Params) : Obj := ⟨.type "frame", none, .plain, #[(some (.ref 207)), (some (.ref 3)), (some (.ref 204)), none, (some (.str "snowballstemmer.among" 424)), none, (some (.ref 0))]⟩
noncomputable def o209_0 (P : Params) : Obj := ⟨.type "tuple", none, .seq #[] 0, #[]⟩
noncomputable def o210_0 (P : Params) : Obj := ⟨.none, none, .fields #[], #[]⟩
noncomputable def o211_0 (P : Params) : Obj := ⟨.type "tuple", none, .seq #[.str "self" 441, .str "s" 442, .str "substring_i" 443, .str "result" 444] 0, #[]⟩
noncomputable def o212_0 (P : Params) : Obj := ⟨.type "tuple", none, .seq #[] 0, #[]⟩
noncomputable def o213_0 (P : Params) : Obj := ⟨.none, none, .func ⟨"__init__", "Among.__init__", fnA (stA (clB (stA tb0 4)) 0), .stmts (fnB (stA (clB (stA tb0 4)) 0)), fnS (stA (clB (stA tb0 4)) 0), 0, [], .none, .none, .none, .none, none, .none, .none, 0⟩, #[]⟩
noncomputable def o214_0 (P : Params) : Obj := ⟨.type "code", none, .fields #[.str "__init__" 438, .str "Among.__init__" 439, .str "/claim/cut.py" 440, .int 163 0, .int 4 0, .int 0 0, .int 0 0, .int 3 0, .ref 209, .bool true, .int 181 0, .ref 210, .none, .ref 211, .ref 212, .ref 213, .int 445 0, .int 163 0, .str "/claim/cut.py" 446], #[]⟩
noncomputable def o215_0 (P : Params) : Obj := ⟨.type "function", none, .func ⟨"__init__", "Among.__init__", fnA (stA (clB (stA tb0 4)) 0), .stmts (fnB (stA (clB (stA tb0 4)) 0)), fnS (stA (clB (stA tb0 4)) 0), 3, [], .none, .none, .none, .str "snowballstemmer.among" 424, none, .ref 214, .none, 0⟩, #[]⟩
noncomputable def o216_0 (P : Params) : Obj := ⟨.type "tuple", none, .seq #[.str "result" 448, .str "s" 449, .str "substring_i" 450] 0, #[]⟩
noncomputable def o217_0 (P : Params) : Obj := ⟨.type "dict", none, .dict #[⟨PyData.keyHash P "__module__", .str "__module__" 433, .str "snowballstemmer.among" 424⟩, ⟨PyData.keyHash P "__firstlineno__", .str "__firstlineno__" 437, .int 161 436⟩, ⟨PyData.keyHash P "__init__", .str "__init__" 447, .ref 215⟩, ⟨PyData.keyHash P "__static_attributes__", .str "__static_attributes__" 451, .ref 216⟩, ⟨PyData.keyHash P "__dict__", .str "__dict__" 453, .ref 219⟩, ⟨PyData.keyHash P "__weakref__", .str "__weakref__" 455, .ref 220⟩, ⟨PyData.keyHash P "__doc__", .str "__doc__" 456, .none⟩] 4, #[]⟩
noncomputable def o218_0 (P : Params) : Obj := ⟨.type "type", none, .cls ⟨"Among", [.type "object"], [.ref 218, .type "object"], 217, "Among", true, [], [], false, none, false⟩, #[none, none, (some (.str "Among" 426)), (some (.str "Among" 434)), (some (.builtin "object.__new__")), (some (.bool true))]⟩
noncomputable def o219_0 (P : Params) : Obj := ⟨.type "getset_descriptor", none, .fields #[.str "__dict__" 452, .ref 218, .builtin "function.__dict__", .builtin "function.__dict__#set"], #[]⟩
noncomputable def o220_0 (P : Params) : Obj := ⟨.type "getset_descriptor", none, .fields #[.str "__weakref__" 454, .ref 218, .builtin "ExceptionGroup.__weakref__", .none], #[]⟩
noncomputable def o221_0 (P : Params) : Obj := ⟨.type "super", none, .fields #[.ref 218, .ref 218, .ref 218], #[]⟩
noncomputable def o222_0 (P : Params) : Obj := ⟨.type "builtin_function_or_method", none, .fields #[.builtin "object.__init_subclass__", .ref 218], #[]⟩
noncomputable def tr2 (P : Params) (d1 d2 d3 : SetD) : BT := (.node (o15_0 P) (.node (o31_0 P) (.node (o63_0 P) (.node (o127_0 P) .nil .nil) (.node (o191_0 P) .nil .nil)) (.node (o95_0 P) (.node (o159_0 P) .nil .nil) .nil)) (.node (o47_0 P) (.node (o79_0 P) (.node (o143_0 P) .nil .nil) (.node (o207_0 P) .nil .nil)) (.node (o111_0 P) (.node (o175_0 P) .nil .nil) .nil)))
noncomputable def tr3 (P : Params) (d1 d2 d3 : SetD) : BT := (.node (o23_0 P) (.node (o39_0 P) (.node (o71_0 P) (.node (o135_0 P) .nil .nil) (.node (o199_0 P) .nil .nil)) (.node (o103_0 P) (.node (o167_0 P) .nil .nil) .nil)) (.node (o55_0 P) (.node (o87_0 P) (.node (o151_0 P) .nil .nil) (.node (o215_0 P) .nil .nil)) (.node (o119_0 P) (.node (o183_0 P) .nil .nil) .nil)))
noncomputable def tr4 (P : Params) (d1 d2 d3 : SetD) : BT := (.node (o19_0 P) (.node (o35_0 P) (.node (o67_0 P) (.node (o131_0 P) .nil .nil) (.node (o195_0 P) .nil .nil)) (.node (o99_0 P) (.node (o163_0 P) .nil .nil) .nil)) (.node (o51_0 P) (.node (o83_0 P) (.node (o147_0 P) .nil .nil) (.node (o211_0 P) .nil .nil)) (.node (o115_0 P) (.node (o179_0 P) .nil .nil) .nil)))
noncomputable def tr5 (P : Params) (d1 d2 d3 : SetD) : BT := (.node (o27_0 P) (.node (o43_0 P) (.node (o75_0 P) (.node (o139_0 P) .nil .nil) (.node (o203_0 P) .nil .nil)) (.node (o107_0 P) (.node (o171_0 P) .nil .nil) .nil)) (.node (o59_0 P) (.node (o91_0 P) (.node (o155_0 P) .nil .nil) (.node (o219_0 P) .nil .nil)) (.node (o123_0 P) (.node (o187_0 P) .nil .nil) .nil)))
noncomputable def tr6 (P : Params) (d1 d2 d3 : SetD) : BT := (.node (o17_0 P) (.node (o33_0 P) (.node (o65_0 P) (.node (o129_0 P) .nil .nil) (.node (o193_0 P) .nil .nil)) (.node (o97_0 P) (.node (o161_0 P) .nil .nil) .nil)) (.node (o49_0 P) (.node (o81_0 P) (.node (o145_0 P) .nil .nil) (.node (o209_0 P) .nil .nil)) (.node (o113_0 P) (.node (o177_0 P) .nil .nil) .nil)))
noncomputable def tr7 (P : Params) (d1 d2 d3 : SetD) : BT := (.node (o25_0 P) (.node (o41_0 P) (.node (o73_0 P) (.node (o137_0 P) .nil .nil) (.node (o201_0 P) .nil .nil)) (.node (o105_0 P) (.node (o169_0 P) .nil .nil) .nil)) (.node (o57_0 P) (.node (o89_0 P) (.node (o153_0 P) .nil .nil) (.node (o217_0 P) .nil .nil)) (.node (o121_0 P) (.node (o185_0 P) .nil .nil) .nil)))
noncomputable def tr8 (P : Params) (d1 d2 d3 : SetD) : BT := (.node (o21_0 P) (.node (o37_0 P) (.node (o69_0 P) (.node (o133_0 P) .nil .nil) (.node (o197_0 P) .nil .nil)) (.node (o101_0 P) (.node (o165_0 P) .nil .nil) .nil)) (.node (o53_0 P) (.node (o85_0 P) (.node (o149_0 P) .nil .nil) (.node (o213_0 P) .nil .nil)) (.node (o117_0 P) (.node (o181_0 P) .nil .nil) .nil)))
noncomputable def tr9 (P : Params) (d1 d2 d3 : SetD) : BT := (.node (o29_0 P) (.node (o45_0 P) (.node (o77_0 P) (.node (o141_0 P) .nil .nil) (.node (o205_0 P) .nil .nil)) (.node (o109_0 P) (.node (o173_0 P) .nil .nil) .nil)) (.node (o61_0 P) (.node (o93_0 P) (.node (o157_0 P) .nil .nil) (.node (o221_0 P) .nil .nil)) (.node (o125_0 P) (.node (o189_0 P) .nil .nil) .nil)))
noncomputable def tr10 (P : Params) (d1 d2 d3 : SetD) : BT := (.node (o3_1 P) (.node (boot_o_7 P) (tr2 P d1 d2 d3) (tr3 P d1 d2 d3)) (.node (o11_0 P) (tr4 P d1 d2 d3) (tr5 P d1 d2 d3)))
noncomputable def tr11 (P : Params) (d1 d2 d3 : SetD) : BT := (.node (o16_0 P) (.node (o32_0 P) (.node (o64_0 P) (.node (o128_0 P) .nil .nil) (.node (o192_0 P) .nil .nil)) (.node (o96_0 P) (.node (o160_0 P) .nil .nil) .nil)) (.node (o48_0 P) (.node (o80_0 P) (.node (o144_0 P) .nil .nil) (.node (o208_0 P) .nil .nil)) (.node (o112_0 P) (.node (o176_0 P) .nil .nil) .nil)))
noncomputable def tr12 (P : Params) (d1 d2 d3 : SetD) : BT := (.node (o24_0 P) (.node (o40_0 P) (.node (o72_0 P) (.node (o136_0 P) .nil .nil) (.node (o200_0 P) .nil .nil)) (.node (o104_0 P) (.node (o168_0 P) .nil .nil) .nil)) (.node (o56_0 P) (.node (o88_0 P) (.node (o152_0 P) .nil .nil) (.node (o216_0 P) .nil .nil)) (.node (o120_0 P) (.node (o184_0 P) .nil .nil) .nil)))
noncomputable def tr13 (P : Params) (d1 d2 d3 : SetD) : BT := (.node (o20_0 P) (.node (o36_0 P) (.node (o68_0 P) (.node (o132_0 P) .nil .nil) (.node (o196_0 P) .nil .nil)) (.node (o100_0 P) (.node (o164_0 P) .nil .nil) .nil)) (.node (o52_0 P) (.node (o84_0 P) (.node (o148_0 P) .nil .nil) (.node (o212_0 P) .nil .nil)) (.node (o116_0 P) (.node (o180_0 P) .nil .nil) .nil)))
noncomputable def tr14 (P : Params) (d1 d2 d3 : SetD) : BT := (.node (o28_0 P) (.node (o44_0 P) (.node (o76_0 P) (.node (o140_0 P) .nil .nil) (.node (o204_0 P) .nil .nil)) (.node (o108_0 P) (.node (o172_0 P) .nil .nil) .nil)) (.node (o60_0 P) (.node (o92_0 P) (.node (o156_0 P) .nil .nil) (.node (o220_0 P) .nil .nil)) (.node (o124_0 P) (.node (o188_0 P) .nil .nil) .nil)))
noncomputable def tr15 (P : Params) (d1 d2 d3 : SetD) : BT := (.node (o18_0 P) (.node (o34_0 P) (.node (o66_0 P) (.node (o130_0 P) .nil .nil) (.node (o194_0 P) .nil .nil)) (.node (o98_0 P) (.node (o162_0 P) .nil .nil) .nil)) (.node (o50_0 P) (.node (o82_0 P) (.node (o146_0 P) .nil .nil) (.node (o210_0 P) .nil .nil)) (.node (o114_0 P) (.node (o178_0 P) .nil .nil) .nil)))
noncomputable def tr16 (P : Params) (d1 d2 d3 : SetD) : BT := (.node (o26_0 P) (.node (o42_0 P) (.node (o74_0 P) (.node (o138_0 P) .nil .nil) (.node (o202_0 P) .nil .nil)) (.node (o106_0 P) (.node (o170_0 P) .nil .nil) .nil)) (.node (o58_0 P) (.node (o90_0 P) (.node (o154_0 P) .nil .nil) (.node (o218_0 P) .nil .nil)) (.node (o122_0 P) (.node (o186_0 P) .nil .nil) .nil)))
noncomputable def tr17 (P : Params) (d1 d2 d3 : SetD) : BT := (.node (o22_0 P) (.node (o38_0 P) (.node (o70_0 P) (.node (o134_0 P) .nil .nil) (.node (o198_0 P) .nil .nil)) (.node (o102_0 P) (.node (o166_0 P) .nil .nil) .nil)) (.node (o54_0 P) (.node (o86_0 P) (.node (o150_0 P) .nil .nil) (.node (o214_0 P) .nil .nil)) (.node (o118_0 P) (.node (o182_0 P) .nil .nil) .nil)))
noncomputable def tr18 (P : Params) (d1 d2 d3 : SetD) : BT := (.node (o30_0 P) (.node (o46_0 P) (.node (o78_0 P) (.node (o142_0 P) .nil .nil) (.node (o206_0 P) .nil .nil)) (.node (o110_0 P) (.node (o174_0 P) .nil .nil) .nil)) (.node (o62_0 P) (.node (o94_0 P) (.node (o158_0 P) .nil .nil) (.node (o222_0 P) .nil .nil)) (.node (o126_0 P) (.node (o190_0 P) .nil .nil) .nil)))
noncomputable def tr19 (P : Params) (d1 d2 d3 : SetD) : BT := (.node (boot_o_4 P) (.node (boot_o_8 P) (tr11 P d1 d2 d3) (tr12 P d1 d2 d3)) (.node (o12_1 P) (tr13 P d1 d2 d3) (tr14 P d1 d2 d3)))
noncomputable def tr20 (P : Params) (d1 d2 d3 : SetD) : BT := (.node (boot_o_1 P) (tr10 P d1 d2 d3) (.node (boot_o_5 P) (.node (boot_o_9 P) (tr6 P d1 d2 d3) (tr7 P d1 d2 d3)) (.node (o13_0 P) (tr8 P d1 d2 d3) (tr9 P d1 d2 d3))))
noncomputable def Tb (P : Params) (d1 d2 d3 : SetD) : BT := (.node (boot_o_0 P) (tr20 P d1 d2 d3) (.node (boot_o_2 P) (tr19 P d1 d2 d3) (.node (boot_o_6 P) (.node (boot_o_10 P) (tr15 P d1 d2 d3) (tr16 P d1 d2 d3)) (.node (o14_0 P) (tr17 P d1 d2 d3) (tr18 P d1 d2 d3)))))
noncomputable def Sb (P : Params) (os : OsState) (l : Life) (d1 d2 d3 : SetD) : SharedT := ⟨Tb P d1 d2 d3, 223, l, #[], boot_drawn, 461, os⟩
noncomputable def o12_2 (P : Params) : Obj := ⟨.none, none, .fields #[.int 1 0, .int 0 0, .ref 20, .int 5 0, .int 0 0, .ref 27, .int 161 0, .int 0 0, .ref 207, .int 168 0, .int 0 0, .ref 228], #[]⟩
noncomputable def o223_0 (P : Params) : Obj := ⟨.type "tuple", none, .seq #[.ref 197] 0, #[]⟩
noncomputable def o224_0 (P : Params) : Obj := ⟨.type "builtin_function_or_method", none, .fields #[.builtin "type.__prepare__", .type "type"], #[]⟩
noncomputable def o225_0 (P : Params) : Obj := ⟨.type "dict", none, .dict #[⟨PyData.keyHash P "__module__", .str "__module__" 468, .str "snowballstemmer.swedish_stemmer" 459⟩, ⟨PyData.keyHash P "__qualname__", .str "__qualname__" 470, .str "SwedishStemmer" 469⟩, ⟨PyData.keyHash P "__firstlineno__", .str "__firstlineno__" 472, .int 168 471⟩] 3, #[]⟩
noncomputable def o226_0 (P : Params) : Obj := ⟨.type "tuple", none, .seq #[] 0, #[]⟩
noncomputable def o227_0 (P : Params) : Obj := ⟨.none, none, .fields #[], #[]⟩
noncomputable def o228_0 (P : Params) : Obj := ⟨.type "code", none, .fields #[.str "SwedishStemmer" 463, .str "SwedishStemmer" 464, .str "/claim/cut.py" 465, .int 168 0, .int 0 0, .int 0 0, .int 0 0, .int 0 0, .ref 226, .bool false, .int 181 0, .ref 227, .none, .none, .none, .none, .int 466 0, .int 168 0, .str "/claim/cut.py" 467], #[]⟩
noncomputable def o229_0 (P : Params) : Obj := ⟨.type "frame", none, .plain, #[(some (.ref 228)), (some (.ref 3)), (some (.ref 225)), none, (some (.str "snowballstemmer.swedish_stemmer" 459)), none, (some (.ref 0))]⟩
noncomputable def tr21 (P : Params) (d1 d2 d3 : SetD) : BT := (.node (o15_0 P) (.node (o31_0 P) (.node (o63_0 P) (.node (o127_0 P) .nil .nil) (.node (o191_0 P) .nil .nil)) (.node (o95_0 P) (.node (o159_0 P) .nil .nil) (.node (o223_0 P) .nil .nil))) (.node (o47_0 P) (.node (o79_0 P) (.node (o143_0 P) .nil .nil) (.node (o207_0 P) .nil .nil)) (.node (o111_0 P) (.node (o175_0 P) .nil .nil) .nil)))
noncomputable def tr22 (P : Params) (d1 d2 d3 : SetD) : BT := (.node (o19_0 P) (.node (o35_0 P) (.node (o67_0 P) (.node (o131_0 P) .nil .nil) (.node (o195_0 P) .nil .nil)) (.node (o99_0 P) (.node (o163_0 P) .nil .nil) (.node (o227_0 P) .nil .nil))) (.node (o51_0 P) (.node (o83_0 P) (.node (o147_0 P) .nil .nil) (.node (o211_0 P) .nil .nil)) (.node (o115_0 P) (.node (o179_0 P) .nil .nil) .nil)))
noncomputable def tr23 (P : Params) (d1 d2 d3 : SetD) : BT := (.node (o17_0 P) (.node (o33_0 P) (.node (o65_0 P) (.node (o129_0 P) .nil .nil) (.node (o193_0 P) .nil .nil)) (.node (o97_0 P) (.node (o161_0 P) .nil .nil) (.node (o225_0 P) .nil .nil))) (.node (o49_0 P) (.node (o81_0 P) (.node (o145_0 P) .nil .nil) (.node (o209_0 P) .nil .nil)) (.node (o113_0 P) (.node (o177_0 P) .nil .nil) .nil)))
noncomputable def tr24 (P : Params) (d1 d2 d3 : SetD) : BT := (.node (o21_0 P) (.node (o37_0 P) (.node (o69_0 P) (.node (o133_0 P) .nil .nil) (.node (o197_0 P) .nil .nil)) (.node (o101_0 P) (.node (o165_0 P) .nil .nil) (.node (o229_0 P) .nil .nil))) (.node (o53_0 P) (.node (o85_0 P) (.node (o149_0 P) .nil .nil) (.node (o213_0 P) .nil .nil)) (.node (o117_0 P) (.node (o181_0 P) .nil .nil) .nil)))
noncomputable def tr25 (P : Params) (d1 d2 d3 : SetD) : BT := (.node (o3_1 P) (.node (boot_o_7 P) (tr21 P d1 d2 d3) (tr3 P d1 d2 d3)) (.node (o11_0 P) (tr22 P d1 d2 d3) (tr5 P d1 d2 d3)))
noncomputable def tr26 (P : Params) (d1 d2 d3 : SetD) : BT := (.node (o16_0 P) (.node (o32_0 P) (.node (o64_0 P) (.node (o128_0 P) .nil .nil) (.node (o192_0 P) .nil .nil)) (.node (o96_0 P) (.node (o160_0 P) .nil .nil) (.node (o224_0 P) .nil .nil))) (.node (o48_0 P) (.node (o80_0 P) (.node (o144_0 P) .nil .nil) (.node (o208_0 P) .nil .nil)) (.node (o112_0 P) (.node (o176_0 P) .nil .nil) .nil)))
noncomputable def tr27 (P : Params) (d1 d2 d3 : SetD) : BT := (.node (o20_0 P) (.node (o36_0 P) (.node (o68_0 P) (.node (o132_0 P) .nil .nil) (.node (o196_0 P) .nil .nil)) (.node (o100_0 P) (.node (o164_0 P) .nil .nil) (.node (o228_0 P) .nil .nil))) (.node (o52_0 P) (.node (o84_0 P) (.node (o148_0 P) .nil .nil) (.node (o212_0 P) .nil .nil)) (.node (o116_0 P) (.node (o180_0 P) .nil .nil) .nil)))
noncomputable def tr28 (P : Params) (d1 d2 d3 : SetD) : BT := (.node (o18_0 P) (.node (o34_0 P) (.node (o66_0 P) (.node (o130_0 P) .nil .nil) (.node (o194_0 P) .nil .nil)) (.node (o98_0 P) (.node (o162_0 P) .nil .nil) (.node (o226_0 P) .nil .nil))) (.node (o50_0 P) (.node (o82_0 P) (.node (o146_0 P) .nil .nil) (.node (o210_0 P) .nil .nil)) (.node (o114_0 P) (.node (o178_0 P) .nil .nil) .nil)))
noncomputable def tr29 (P : Params) (d1 d2 d3 : SetD) : BT := (.node (boot_o_4 P) (.node (boot_o_8 P) (tr26 P d1 d2 d3) (tr12 P d1 d2 d3)) (.node (o12_2 P) (tr27 P d1 d2 d3) (tr14 P d1 d2 d3)))
noncomputable def tr30 (P : Params) (d1 d2 d3 : SetD) : BT := (.node (boot_o_1 P) (tr25 P d1 d2 d3) (.node (boot_o_5 P) (.node (boot_o_9 P) (tr23 P d1 d2 d3) (tr7 P d1 d2 d3)) (.node (o13_0 P) (tr24 P d1 d2 d3) (tr9 P d1 d2 d3))))
noncomputable def Tc (P : Params) (d1 d2 d3 : SetD) : BT := (.node (boot_o_0 P) (tr30 P d1 d2 d3) (.node (boot_o_2 P) (tr29 P d1 d2 d3) (.node (boot_o_6 P) (.node (boot_o_10 P) (tr28 P d1 d2 d3) (tr16 P d1 d2 d3)) (.node (o14_0 P) (tr17 P d1 d2 d3) (tr18 P d1 d2 d3)))))
noncomputable def Sc (P : Params) (os : OsState) (l : Life) (d1 d2 d3 : SetD) : SharedT := ⟨Tc P d1 d2 d3, 230, l, #[], boot_drawn, 473, os⟩
noncomputable def o225_1 (P : Params) : Obj := ⟨.type "dict", none, .dict #[⟨PyData.keyHash P "__module__", .str "__module__" 468, .str "snowballstemmer.swedish_stemmer" 459⟩, ⟨PyData.keyHash P "__qualname__", .str "__qualname__" 470, .str "SwedishStemmer" 469⟩, ⟨PyData.keyHash P "__firstlineno__", .str "__firstlineno__" 472, .int 168 471⟩, ⟨PyData.keyHash P "g_v", .str "g_v" 491, .ref 230⟩] 4, #[]⟩
noncomputable def tr31 (P : Params) (d1 d2 d3 : SetD) : BT := (.node (o17_0 P) (.node (o33_0 P) (.node (o65_0 P) (.node (o129_0 P) .nil .nil) (.node (o193_0 P) .nil .nil)) (.node (o97_0 P) (.node (o161_0 P) .nil .nil) (.node (o225_1 P) .nil .nil))) (.node (o49_0 P) (.node (o81_0 P) (.node (o145_0 P) .nil .nil) (.node (o209_0 P) .nil .nil)) (.node (o113_0 P) (.node (o177_0 P) .nil .nil) .nil)))
noncomputable def tr32 (P : Params) (d1 d2 d3 : SetD) : BT := (.node (o22_0 P) (.node (o38_0 P) (.node (o70_0 P) (.node (o134_0 P) .nil .nil) (.node (o198_0 P) .nil .nil)) (.node (o102_0 P) (.node (o166_0 P) .nil .nil) (.node (sO d1) .nil .nil))) (.node (o54_0 P) (.node (o86_0 P) (.node (o150_0 P) .nil .nil) (.node (o214_0 P) .nil .nil)) (.node (o118_0 P) (.node (o182_0 P) .nil .nil) .nil)))
noncomputable def tr33 (P : Params) (d1 d2 d3 : SetD) : BT := (.node (boot_o_1 P) (tr25 P d1 d2 d3) (.node (boot_o_5 P) (.node (boot_o_9 P) (tr31 P d1 d2 d3) (tr7 P d1 d2 d3)) (.node (o13_0 P) (tr24 P d1 d2 d3) (tr9 P d1 d2 d3))))
noncomputable def Td0 (P : Params) (d1 d2 d3 : SetD) : BT := (.node (boot_o_0 P) (tr33 P d1 d2 d3) (.node (boot_o_2 P) (tr29 P d1 d2 d3) (.node (boot_o_6 P) (.node (boot_o_10 P) (tr28 P d1 d2 d3) (tr16 P d1 d2 d3)) (.node (o14_0 P) (tr32 P d1 d2 d3) (tr18 P d1 d2 d3)))))
noncomputable def Sd0 (P : Params) (os : OsState) (l : Life) (d1 d2 d3 : SetD) : SharedT := ⟨Td0 P d1 d2 d3, 231, l, #[], boot_drawn, 492, os⟩
noncomputable def o225_2 (P : Params) : Obj := ⟨.type "dict", none, .dict #[⟨PyData.keyHash P "__module__", .str "__module__" 468, .str "snowballstemmer.swedish_stemmer" 459⟩, ⟨PyData.keyHash P "__qualname__", .str "__qualname__" 470, .str "SwedishStemmer" 469⟩, ⟨PyData.keyHash P "__firstlineno__", .str "__firstlineno__" 472, .int 168 471⟩, ⟨PyData.keyHash P "g_v", .str "g_v" 491, .ref 230⟩, ⟨PyData.keyHash P "g_s_ending", .str "g_s_ending" 526, .ref 231⟩] 5, #[]⟩
noncomputable def tr34 (P : Params) (d1 d2 d3 : SetD) : BT := (.node (o23_0 P) (.node (o39_0 P) (.node (o71_0 P) (.node (o135_0 P) .nil .nil) (.node (o199_0 P) .nil .nil)) (.node (o103_0 P) (.node (o167_0 P) .nil .nil) (.node (sO d2) .nil .nil))) (.node (o55_0 P) (.node (o87_0 P) (.node (o151_0 P) .nil .nil) (.node (o215_0 P) .nil .nil)) (.node (o119_0 P) (.node (o183_0 P) .nil .nil) .nil)))
noncomputable def tr35 (P : Params) (d1 d2 d3 : SetD) : BT := (.node (o17_0 P) (.node (o33_0 P) (.node (o65_0 P) (.node (o129_0 P) .nil .nil) (.node (o193_0 P) .nil .nil)) (.node (o97_0 P) (.node (o161_0 P) .nil .nil) (.node (o225_2 P) .nil .nil))) (.node (o49_0 P) (.node (o81_0 P) (.node (o145_0 P) .nil .nil) (.node (o209_0 P) .nil .nil)) (.node (o113_0 P) (.node (o177_0 P) .nil .nil) .nil)))
noncomputable def tr36 (P : Params) (d1 d2 d3 : SetD) : BT := (.node (o3_1 P) (.node (boot_o_7 P) (tr21 P d1 d2 d3) (tr34 P d1 d2 d3)) (.node (o11_0 P) (tr22 P d1 d2 d3) (tr5 P d1 d2 d3)))
noncomputable def tr37 (P : Params) (d1 d2 d3 : SetD) : BT := (.node (boot_o_1 P) (tr36 P d1 d2 d3) (.node (boot_o_5 P) (.node (boot_o_9 P) (tr35 P d1 d2 d3) (tr7 P d1 d2 d3)) (.node (o13_0 P) (tr24 P d1 d2 d3) (tr9 P d1 d2 d3))))
noncomputable def Td1 (P : Params) (d1 d2 d3 : SetD) : BT := (.node (boot_o_0 P) (tr37 P d1 d2 d3) (.node (boot_o_2 P) (tr29 P d1 d2 d3) (.node (boot_o_6 P) (.node (boot_o_10 P) (tr28 P d1 d2 d3) (tr16 P d1 d2 d3)) (.node (o14_0 P) (tr32 P d1 d2 d3) (tr18 P d1 d2 d3)))))
noncomputable def Sd1 (P : Params) (os : OsState) (l : Life) (d1 d2 d3 : SetD) : SharedT := ⟨Td1 P d1 d2 d3, 232, l, #[], boot_drawn, 527, os⟩
noncomputable def o225_3 (P : Params) : Obj := ⟨.type "dict", none, .dict #[⟨PyData.keyHash P "__module__", .str "__module__" 468, .str "snowballstemmer.swedish_stemmer" 459⟩, ⟨PyData.keyHash P "__qualname__", .str "__qualname__" 470, .str "SwedishStemmer" 469⟩, ⟨PyData.keyHash P "__firstlineno__", .str "__firstlineno__" 472, .int 168 471⟩, ⟨PyData.keyHash P "g_v", .str "g_v" 491, .ref 230⟩, ⟨PyData.keyHash P "g_s_ending", .str "g_s_ending" 526, .ref 231⟩, ⟨PyData.keyHash P "g_ost_ending", .str "g_ost_ending" 545, .ref 232⟩] 6, #[]⟩
noncomputable def tr38 (P : Params) (d1 d2 d3 : SetD) : BT := (.node (o17_0 P) (.node (o33_0 P) (.node (o65_0 P) (.node (o129_0 P) .nil .nil) (.node (o193_0 P) .nil .nil)) (.node (o97_0 P) (.node (o161_0 P) .nil .nil) (.node (o225_3 P) .nil .nil))) (.node (o49_0 P) (.node (o81_0 P) (.node (o145_0 P) .nil .nil) (.node (o209_0 P) .nil .nil)) (.node (o113_0 P) (.node (o177_0 P) .nil .nil) .nil)))
noncomputable def tr39 (P : Params) (d1 d2 d3 : SetD) : BT := (.node (o24_0 P) (.node (o40_0 P) (.node (o72_0 P) (.node (o136_0 P) .nil .nil) (.node (o200_0 P) .nil .nil)) (.node (o104_0 P) (.node (o168_0 P) .nil .nil) (.node (sO d3) .nil .nil))) (.node (o56_0 P) (.node (o88_0 P) (.node (o152_0 P) .nil .nil) (.node (o216_0 P) .nil .nil)) (.node (o120_0 P) (.node (o184_0 P) .nil .nil) .nil)))
noncomputable def tr40 (P : Params) (d1 d2 d3 : SetD) : BT := (.node (boot_o_4 P) (.node (boot_o_8 P) (tr26 P d1 d2 d3) (tr39 P d1 d2 d3)) (.node (o12_2 P) (tr27 P d1 d2 d3) (tr14 P d1 d2 d3)))
noncomputable def tr41 (P : Params) (d1 d2 d3 : SetD) : BT := (.node (boot_o_1 P) (tr36 P d1 d2 d3) (.node (boot_o_5 P) (.node (boot_o_9 P) (tr38 P d1 d2 d3) (tr7 P d1 d2 d3)) (.node (o13_0 P) (tr24 P d1 d2 d3) (tr9 P d1 d2 d3))))
noncomputable def Td2 (P : Params) (d1 d2 d3 : SetD) : BT := (.node (boot_o_0 P) (tr41 P d1 d2 d3) (.node (boot_o_2 P) (tr40 P d1 d2 d3) (.node (boot_o_6 P) (.node (boot_o_10 P) (tr28 P d1 d2 d3) (tr16 P d1 d2 d3)) (.node (o14_0 P) (tr32 P d1 d2 d3) (tr18 P d1 d2 d3)))))
noncomputable def Sd2 (P : Params) (os : OsState) (l : Life) (d1 d2 d3 : SetD) : SharedT := ⟨Td2 P d1 d2 d3, 233, l, #[], boot_drawn, 546, os⟩
noncomputable def o225_4 (P : Params) : Obj := ⟨.type "dict", none, .dict #[⟨PyData.keyHash P "__module__", .str "__module__" 468, .str "snowballstemmer.swedish_stemmer" 459⟩, ⟨PyData.keyHash P "__qualname__", .str "__qualname__" 470, .str "SwedishStemmer" 469⟩, ⟨PyData.keyHash P "__firstlineno__", .str "__firstlineno__" 472, .int 168 471⟩, ⟨PyData.keyHash P "g_v", .str "g_v" 491, .ref 230⟩, ⟨PyData.keyHash P "g_s_ending", .str "g_s_ending" 526, .ref 231⟩, ⟨PyData.keyHash P "g_ost_ending", .str "g_ost_ending" 545, .ref 232⟩, ⟨PyData.keyHash P "I_p1", .str "I_p1" 547, .int 0 546⟩, ⟨PyData.keyHash P "r_mark_regions", .str "r_mark_regions" 556, .ref 239⟩, ⟨PyData.keyHash P "r_et_condition", .str "r_et_condition" 565, .ref 246⟩, ⟨PyData.keyHash P "r_main_suffix", .str "r_main_suffix" 575, .ref 253⟩, ⟨PyData.keyHash P "r_consonant_pair", .str "r_consonant_pair" 584, .ref 260⟩, ⟨PyData.keyHash P "r_other_suffix", .str "r_other_suffix" 593, .ref 267⟩, ⟨PyData.keyHash P "_stem", .str "_stem" 604, .ref 274⟩] 13, #[]⟩
noncomputable def o227_1 (P : Params) : Obj := ⟨.none, none, .fields #[.int 174 0, .int 4 0, .ref 238, .int 197 0, .int 4 0, .ref 245, .int 216 0, .int 4 0, .ref 252, .int 253 0, .int 4 0, .ref 259, .int 273 0, .int 4 0, .ref 266, .int 295 0, .int 4 0, .ref 273], #[]⟩
noncomputable def o233_0 (P : Params) : Obj := ⟨.type "tuple", none, .seq #[] 0, #[]⟩
noncomputable def o234_0 (P : Params) : Obj := ⟨.none, none, .fields #[], #[]⟩
noncomputable def o235_0 (P : Params) : Obj := ⟨.type "tuple", none, .seq #[.str "self" 551, .str "v_1" 552, .str "I_x" 553] 0, #[]⟩
noncomputable def o236_0 (P : Params) : Obj := ⟨.type "tuple", none, .seq #[] 0, #[]⟩
noncomputable def o237_0 (P : Params) : Obj := ⟨.none, none, .func ⟨"r_mark_regions", "SwedishStemmer.r_mark_regions", fnA (stA (clB (stA tb0 6)) 4), .stmts (fnB (stA (clB (stA tb0 6)) 4)), fnS (stA (clB (stA tb0 6)) 4), 0, [], .none, .none, .none, .none, none, .none, .none, 0⟩, #[]⟩
noncomputable def o238_0 (P : Params) : Obj := ⟨.type "code", none, .fields #[.str "r_mark_regions" 548, .str "SwedishStemmer.r_mark_regions" 549, .str "/claim/cut.py" 550, .int 174 0, .int 1 0, .int 0 0, .int 0 0, .int 3 0, .ref 233, .bool true, .int 181 0, .ref 234, .none, .ref 235, .ref 236, .ref 237, .int 554 0, .int 174 0, .str "/claim/cut.py" 555], #[]⟩
noncomputable def o239_0 (P : Params) : Obj := ⟨.type "function", none, .func ⟨"r_mark_regions", "SwedishStemmer.r_mark_regions", fnA (stA (clB (stA tb0 6)) 4), .stmts (fnB (stA (clB (stA tb0 6)) 4)), fnS (stA (clB (stA tb0 6)) 4), 3, [], .none, .none, .none, .str "snowballstemmer.swedish_stemmer" 459, none, .ref 238, .none, 0⟩, #[]⟩
noncomputable def o240_0 (P : Params) : Obj := ⟨.type "tuple", none, .seq #[] 0, #[]⟩
noncomputable def o241_0 (P : Params) : Obj := ⟨.none, none, .fields #[], #[]⟩
noncomputable def o242_0 (P : Params) : Obj := ⟨.type "tuple", none, .seq #[.str "self" 560, .str "v_1" 561, .str "v_2" 562] 0, #[]⟩
noncomputable def o243_0 (P : Params) : Obj := ⟨.type "tuple", none, .seq #[] 0, #[]⟩
noncomputable def o244_0 (P : Params) : Obj := ⟨.none, none, .func ⟨"r_et_condition", "SwedishStemmer.r_et_condition", fnA (stA (clB (stA tb0 6)) 5), .stmts (fnB (stA (clB (stA tb0 6)) 5)), fnS (stA (clB (stA tb0 6)) 5), 0, [], .none, .none, .none, .none, none, .none, .none, 0⟩, #[]⟩
noncomputable def o245_0 (P : Params) : Obj := ⟨.type "code", none, .fields #[.str "r_et_condition" 557, .str "SwedishStemmer.r_et_condition" 558, .str "/claim/cut.py" 559, .int 197 0, .int 1 0, .int 0 0, .int 0 0, .int 3 0, .ref 240, .bool true, .int 181 0, .ref 241, .none, .ref 242, .ref 243, .ref 244, .int 563 0, .int 197 0, .str "/claim/cut.py" 564], #[]⟩
noncomputable def o246_0 (P : Params) : Obj := ⟨.type "function", none, .func ⟨"r_et_condition", "SwedishStemmer.r_et_condition", fnA (stA (clB (stA tb0 6)) 5), .stmts (fnB (stA (clB (stA tb0 6)) 5)), fnS (stA (clB (stA tb0 6)) 5), 3, [], .none, .none, .none, .str "snowballstemmer.swedish_stemmer" 459, none, .ref 245, .none, 0⟩, #[]⟩
noncomputable def o247_0 (P : Params) : Obj := ⟨.type "tuple", none, .seq #[] 0, #[]⟩
noncomputable def o248_0 (P : Params) : Obj := ⟨.none, none, .fields #[], #[]⟩
noncomputable def o249_0 (P : Params) : Obj := ⟨.type "tuple", none, .seq #[.str "self" 569, .str "v_2" 570, .str "among_var" 571, .str "v_3" 572] 0, #[]⟩
noncomputable def o250_0 (P : Params) : Obj := ⟨.type "tuple", none, .seq #[] 0, #[]⟩
noncomputable def o251_0 (P : Params) : Obj := ⟨.none, none, .func ⟨"r_main_suffix", "SwedishStemmer.r_main_suffix", fnA (stA (clB (stA tb0 6)) 6), .stmts (fnB (stA (clB (stA tb0 6)) 6)), fnS (stA (clB (stA tb0 6)) 6), 0, [], .none, .none, .none, .none, none, .none, .none, 0⟩, #[]⟩
noncomputable def o252_0 (P : Params) : Obj := ⟨.type "code", none, .fields #[.str "r_main_suffix" 566, .str "SwedishStemmer.r_main_suffix" 567, .str "/claim/cut.py" 568, .int 216 0, .int 1 0, .int 0 0, .int 0 0, .int 3 0, .ref 247, .bool true, .int 181 0, .ref 248, .none, .ref 249, .ref 250, .ref 251, .int 573 0, .int 216 0, .str "/claim/cut.py" 574], #[]⟩
noncomputable def o253_0 (P : Params) : Obj := ⟨.type "function", none, .func ⟨"r_main_suffix", "SwedishStemmer.r_main_suffix", fnA (stA (clB (stA tb0 6)) 6), .stmts (fnB (stA (clB (stA tb0 6)) 6)), fnS (stA (clB (stA tb0 6)) 6), 3, [], .none, .none, .none, .str "snowballstemmer.swedish_stemmer" 459, none, .ref 252, .none, 0⟩, #[]⟩
noncomputable def o254_0 (P : Params) : Obj := ⟨.type "tuple", none, .seq #[] 0, #[]⟩
noncomputable def o255_0 (P : Params) : Obj := ⟨.none, none, .fields #[], #[]⟩
noncomputable def o256_0 (P : Params) : Obj := ⟨.type "tuple", none, .seq #[.str "self" 579, .str "v_2" 580, .str "v_3" 581] 0, #[]⟩
noncomputable def o257_0 (P : Params) : Obj := ⟨.type "tuple", none, .seq #[] 0, #[]⟩
noncomputable def o258_0 (P : Params) : Obj := ⟨.none, none, .func ⟨"r_consonant_pair", "SwedishStemmer.r_consonant_pair", fnA (stA (clB (stA tb0 6)) 7), .stmts (fnB (stA (clB (stA tb0 6)) 7)), fnS (stA (clB (stA tb0 6)) 7), 0, [], .none, .none, .none, .none, none, .none, .none, 0⟩, #[]⟩
noncomputable def o259_0 (P : Params) : Obj := ⟨.type "code", none, .fields #[.str "r_consonant_pair" 576, .str "SwedishStemmer.r_consonant_pair" 577, .str "/claim/cut.py" 578, .int 253 0, .int 1 0, .int 0 0, .int 0 0, .int 3 0, .ref 254, .bool true, .int 181 0, .ref 255, .none, .ref 256, .ref 257, .ref 258, .int 582 0, .int 253 0, .str "/claim/cut.py" 583], #[]⟩
noncomputable def o260_0 (P : Params) : Obj := ⟨.type "function", none, .func ⟨"r_consonant_pair", "SwedishStemmer.r_consonant_pair", fnA (stA (clB (stA tb0 6)) 7), .stmts (fnB (stA (clB (stA tb0 6)) 7)), fnS (stA (clB (stA tb0 6)) 7), 3, [], .none, .none, .none, .str "snowballstemmer.swedish_stemmer" 459, none, .ref 259, .none, 0⟩, #[]⟩
noncomputable def o261_0 (P : Params) : Obj := ⟨.type "tuple", none, .seq #[] 0, #[]⟩
noncomputable def o262_0 (P : Params) : Obj := ⟨.none, none, .fields #[], #[]⟩
noncomputable def o263_0 (P : Params) : Obj := ⟨.type "tuple", none, .seq #[.str "self" 588, .str "v_2" 589, .str "among_var" 590] 0, #[]⟩
noncomputable def o264_0 (P : Params) : Obj := ⟨.type "tuple", none, .seq #[] 0, #[]⟩
noncomputable def o265_0 (P : Params) : Obj := ⟨.none, none, .func ⟨"r_other_suffix", "SwedishStemmer.r_other_suffix", fnA (stA (clB (stA tb0 6)) 8), .stmts (fnB (stA (clB (stA tb0 6)) 8)), fnS (stA (clB (stA tb0 6)) 8), 0, [], .none, .none, .none, .none, none, .none, .none, 0⟩, #[]⟩
noncomputable def o266_0 (P : Params) : Obj := ⟨.type "code", none, .fields #[.str "r_other_suffix" 585, .str "SwedishStemmer.r_other_suffix" 586, .str "/claim/cut.py" 587, .int 273 0, .int 1 0, .int 0 0, .int 0 0, .int 3 0, .ref 261, .bool true, .int 181 0, .ref 262, .none, .ref 263, .ref 264, .ref 265, .int 591 0, .int 273 0, .str "/claim/cut.py" 592], #[]⟩
noncomputable def o267_0 (P : Params) : Obj := ⟨.type "function", none, .func ⟨"r_other_suffix", "SwedishStemmer.r_other_suffix", fnA (stA (clB (stA tb0 6)) 8), .stmts (fnB (stA (clB (stA tb0 6)) 8)), fnS (stA (clB (stA tb0 6)) 8), 3, [], .none, .none, .none, .str "snowballstemmer.swedish_stemmer" 459, none, .ref 266, .none, 0⟩, #[]⟩
noncomputable def o268_0 (P : Params) : Obj := ⟨.type "tuple", none, .seq #[] 0, #[]⟩
noncomputable def o269_0 (P : Params) : Obj := ⟨.none, none, .fields #[], #[]⟩
noncomputable def o270_0 (P : Params) : Obj := ⟨.type "tuple", none, .seq #[.str "self" 597, .str "v_1" 598, .str "v_2" 599, .str "v_3" 600, .str "v_4" 601] 0, #[]⟩
noncomputable def o271_0 (P : Params) : Obj := ⟨.type "tuple", none, .seq #[] 0, #[]⟩
noncomputable def o272_0 (P : Params) : Obj := ⟨.none, none, .func ⟨"_stem", "SwedishStemmer._stem", fnA (stA (clB (stA tb0 6)) 9), .stmts (fnB (stA (clB (stA tb0 6)) 9)), fnS (stA (clB (stA tb0 6)) 9), 0, [], .none, .none, .none, .none, none, .none, .none, 0⟩, #[]⟩
noncomputable def o273_0 (P : Params) : Obj := ⟨.type "code", none, .fields #[.str "_stem" 594, .str "SwedishStemmer._stem" 595, .str "/claim/cut.py" 596, .int 295 0, .int 1 0, .int 0 0, .int 0 0, .int 3 0, .ref 268, .bool true, .int 181 0, .ref 269, .none, .ref 270, .ref 271, .ref 272, .int 602 0, .int 295 0, .str "/claim/cut.py" 603], #[]⟩
noncomputable def o274_0 (P : Params) : Obj := ⟨.type "function", none, .func ⟨"_stem", "SwedishStemmer._stem", fnA (stA (clB (stA tb0 6)) 9), .stmts (fnB (stA (clB (stA tb0 6)) 9)), fnS (stA (clB (stA tb0 6)) 9), 3, [], .none, .none, .none, .str "snowballstemmer.swedish_stemmer" 459, none, .ref 273, .none, 0⟩, #[]⟩
noncomputable def tr42 (P : Params) (d1 d2 d3 : SetD) : BT := (.node (o31_0 P) (.node (o63_0 P) (.node (o127_0 P) (.node (o255_0 P) .nil .nil) .nil) (.node (o191_0 P) .nil .nil)) (.node (o95_0 P) (.node (o159_0 P) .nil .nil) (.node (o223_0 P) .nil .nil)))
noncomputable def tr43 (P : Params) (d1 d2 d3 : SetD) : BT := (.node (o39_0 P) (.node (o71_0 P) (.node (o135_0 P) (.node (o263_0 P) .nil .nil) .nil) (.node (o199_0 P) .nil .nil)) (.node (o103_0 P) (.node (o167_0 P) .nil .nil) (.node (sO d2) .nil .nil)))
noncomputable def tr44 (P : Params) (d1 d2 d3 : SetD) : BT := (.node (o15_0 P) (tr42 P d1 d2 d3) (.node (o47_0 P) (.node (o79_0 P) (.node (o143_0 P) (.node (o271_0 P) .nil .nil) .nil) (.node (o207_0 P) .nil .nil)) (.node (o111_0 P) (.node (o175_0 P) .nil .nil) (.node (o239_0 P) .nil .nil))))
noncomputable def tr45 (P : Params) (d1 d2 d3 : SetD) : BT := (.node (o35_0 P) (.node (o67_0 P) (.node (o131_0 P) (.node (o259_0 P) .nil .nil) .nil) (.node (o195_0 P) .nil .nil)) (.node (o99_0 P) (.node (o163_0 P) .nil .nil) (.node (o227_1 P) .nil .nil)))
noncomputable def tr46 (P : Params) (d1 d2 d3 : SetD) : BT := (.node (o43_0 P) (.node (o75_0 P) (.node (o139_0 P) (.node (o267_0 P) .nil .nil) .nil) (.node (o203_0 P) .nil .nil)) (.node (o107_0 P) (.node (o171_0 P) .nil .nil) (.node (o235_0 P) .nil .nil)))
noncomputable def tr47 (P : Params) (d1 d2 d3 : SetD) : BT := (.node (o19_0 P) (tr45 P d1 d2 d3) (.node (o51_0 P) (.node (o83_0 P) (.node (o147_0 P) .nil .nil) (.node (o211_0 P) .nil .nil)) (.node (o115_0 P) (.node (o179_0 P) .nil .nil) (.node (o243_0 P) .nil .nil))))
noncomputable def tr48 (P : Params) (d1 d2 d3 : SetD) : BT := (.node (boot_o_7 P) (tr44 P d1 d2 d3) (.node (o23_0 P) (tr43 P d1 d2 d3) (.node (o55_0 P) (.node (o87_0 P) (.node (o151_0 P) .nil .nil) (.node (o215_0 P) .nil .nil)) (.node (o119_0 P) (.node (o183_0 P) .nil .nil) (.node (o247_0 P) .nil .nil)))))
noncomputable def tr49 (P : Params) (d1 d2 d3 : SetD) : BT := (.node (o33_0 P) (.node (o65_0 P) (.node (o129_0 P) (.node (o257_0 P) .nil .nil) .nil) (.node (o193_0 P) .nil .nil)) (.node (o97_0 P) (.node (o161_0 P) .nil .nil) (.node (o225_4 P) .nil .nil)))
noncomputable def tr50 (P : Params) (d1 d2 d3 : SetD) : BT := (.node (o41_0 P) (.node (o73_0 P) (.node (o137_0 P) (.node (o265_0 P) .nil .nil) .nil) (.node (o201_0 P) .nil .nil)) (.node (o105_0 P) (.node (o169_0 P) .nil .nil) (.node (o233_0 P) .nil .nil)))
noncomputable def tr51 (P : Params) (d1 d2 d3 : SetD) : BT := (.node (o17_0 P) (tr49 P d1 d2 d3) (.node (o49_0 P) (.node (o81_0 P) (.node (o145_0 P) (.node (o273_0 P) .nil .nil) .nil) (.node (o209_0 P) .nil .nil)) (.node (o113_0 P) (.node (o177_0 P) .nil .nil) (.node (o241_0 P) .nil .nil))))
noncomputable def tr52 (P : Params) (d1 d2 d3 : SetD) : BT := (.node (o37_0 P) (.node (o69_0 P) (.node (o133_0 P) (.node (o261_0 P) .nil .nil) .nil) (.node (o197_0 P) .nil .nil)) (.node (o101_0 P) (.node (o165_0 P) .nil .nil) (.node (o229_0 P) .nil .nil)))
noncomputable def tr53 (P : Params) (d1 d2 d3 : SetD) : BT := (.node (o45_0 P) (.node (o77_0 P) (.node (o141_0 P) (.node (o269_0 P) .nil .nil) .nil) (.node (o205_0 P) .nil .nil)) (.node (o109_0 P) (.node (o173_0 P) .nil .nil) (.node (o237_0 P) .nil .nil)))
noncomputable def tr54 (P : Params) (d1 d2 d3 : SetD) : BT := (.node (o21_0 P) (tr52 P d1 d2 d3) (.node (o53_0 P) (.node (o85_0 P) (.node (o149_0 P) .nil .nil) (.node (o213_0 P) .nil .nil)) (.node (o117_0 P) (.node (o181_0 P) .nil .nil) (.node (o245_0 P) .nil .nil))))
noncomputable def tr55 (P : Params) (d1 d2 d3 : SetD) : BT := (.node (boot_o_9 P) (tr51 P d1 d2 d3) (.node (o25_0 P) (tr50 P d1 d2 d3) (.node (o57_0 P) (.node (o89_0 P) (.node (o153_0 P) .nil .nil) (.node (o217_0 P) .nil .nil)) (.node (o121_0 P) (.node (o185_0 P) .nil .nil) (.node (o249_0 P) .nil .nil)))))
noncomputable def tr56 (P : Params) (d1 d2 d3 : SetD) : BT := (.node (o3_1 P) (tr48 P d1 d2 d3) (.node (o11_0 P) (tr47 P d1 d2 d3) (.node (o27_0 P) (tr46 P d1 d2 d3) (.node (o59_0 P) (.node (o91_0 P) (.node (o155_0 P) .nil .nil) (.node (o219_0 P) .nil .nil)) (.node (o123_0 P) (.node (o187_0 P) .nil .nil) (.node (o251_0 P) .nil .nil))))))
noncomputable def tr57 (P : Params) (d1 d2 d3 : SetD) : BT := (.node (boot_o_5 P) (tr55 P d1 d2 d3) (.node (o13_0 P) (tr54 P d1 d2 d3) (.node (o29_0 P) (tr53 P d1 d2 d3) (.node (o61_0 P) (.node (o93_0 P) (.node (o157_0 P) .nil .nil) (.node (o221_0 P) .nil .nil)) (.node (o125_0 P) (.node (o189_0 P) .nil .nil) (.node (o253_0 P) .nil .nil))))))
noncomputable def tr58 (P : Params) (d1 d2 d3 : SetD) : BT := (.node (o32_0 P) (.node (o64_0 P) (.node (o128_0 P) (.node (o256_0 P) .nil .nil) .nil) (.node (o192_0 P) .nil .nil)) (.node (o96_0 P) (.node (o160_0 P) .nil .nil) (.node (o224_0 P) .nil .nil)))
noncomputable def tr59 (P : Params) (d1 d2 d3 : SetD) : BT := (.node (o40_0 P) (.node (o72_0 P) (.node (o136_0 P) (.node (o264_0 P) .nil .nil) .nil) (.node (o200_0 P) .nil .nil)) (.node (o104_0 P) (.node (o168_0 P) .nil .nil) (.node (sO d3) .nil .nil)))
noncomputable def tr60 (P : Params) (d1 d2 d3 : SetD) : BT := (.node (o16_0 P) (tr58 P d1 d2 d3) (.node (o48_0 P) (.node (o80_0 P) (.node (o144_0 P) (.node (o272_0 P) .nil .nil) .nil) (.node (o208_0 P) .nil .nil)) (.node (o112_0 P) (.node (o176_0 P) .nil .nil) (.node (o240_0 P) .nil .nil))))
noncomputable def tr61 (P : Params) (d1 d2 d3 : SetD) : BT := (.node (o36_0 P) (.node (o68_0 P) (.node (o132_0 P) (.node (o260_0 P) .nil .nil) .nil) (.node (o196_0 P) .nil .nil)) (.node (o100_0 P) (.node (o164_0 P) .nil .nil) (.node (o228_0 P) .nil .nil)))
noncomputable def tr62 (P : Params) (d1 d2 d3 : SetD) : BT := (.node (o44_0 P) (.node (o76_0 P) (.node (o140_0 P) (.node (o268_0 P) .nil .nil) .nil) (.node (o204_0 P) .nil .nil)) (.node (o108_0 P) (.node (o172_0 P) .nil .nil) (.node (o236_0 P) .nil .nil)))
noncomputable def tr63 (P : Params) (d1 d2 d3 : SetD) : BT := (.node (o20_0 P) (tr61 P d1 d2 d3) (.node (o52_0 P) (.node (o84_0 P) (.node (o148_0 P) .nil .nil) (.node (o212_0 P) .nil .nil)) (.node (o116_0 P) (.node (o180_0 P) .nil .nil) (.node (o244_0 P) .nil .nil))))
noncomputable def tr64 (P : Params) (d1 d2 d3 : SetD) : BT := (.node (boot_o_8 P) (tr60 P d1 d2 d3) (.node (o24_0 P) (tr59 P d1 d2 d3) (.node (o56_0 P) (.node (o88_0 P) (.node (o152_0 P) .nil .nil) (.node (o216_0 P) .nil .nil)) (.node (o120_0 P) (.node (o184_0 P) .nil .nil) (.node (o248_0 P) .nil .nil)))))
noncomputable def tr65 (P : Params) (d1 d2 d3 : SetD) : BT := (.node (o34_0 P) (.node (o66_0 P) (.node (o130_0 P) (.node (o258_0 P) .nil .nil) .nil) (.node (o194_0 P) .nil .nil)) (.node (o98_0 P) (.node (o162_0 P) .nil .nil) (.node (o226_0 P) .nil .nil)))
noncomputable def tr66 (P : Params) (d1 d2 d3 : SetD) : BT := (.node (o42_0 P) (.node (o74_0 P) (.node (o138_0 P) (.node (o266_0 P) .nil .nil) .nil) (.node (o202_0 P) .nil .nil)) (.node (o106_0 P) (.node (o170_0 P) .nil .nil) (.node (o234_0 P) .nil .nil)))
noncomputable def tr67 (P : Params) (d1 d2 d3 : SetD) : BT := (.node (o18_0 P) (tr65 P d1 d2 d3) (.node (o50_0 P) (.node (o82_0 P) (.node (o146_0 P) (.node (o274_0 P) .nil .nil) .nil) (.node (o210_0 P) .nil .nil)) (.node (o114_0 P) (.node (o178_0 P) .nil .nil) (.node (o242_0 P) .nil .nil))))
noncomputable def tr68 (P : Params) (d1 d2 d3 : SetD) : BT := (.node (o38_0 P) (.node (o70_0 P) (.node (o134_0 P) (.node (o262_0 P) .nil .nil) .nil) (.node (o198_0 P) .nil .nil)) (.node (o102_0 P) (.node (o166_0 P) .nil .nil) (.node (sO d1) .nil .nil)))
noncomputable def tr69 (P : Params) (d1 d2 d3 : SetD) : BT := (.node (o46_0 P) (.node (o78_0 P) (.node (o142_0 P) (.node (o270_0 P) .nil .nil) .nil) (.node (o206_0 P) .nil .nil)) (.node (o110_0 P) (.node (o174_0 P) .nil .nil) (.node (o238_0 P) .nil .nil)))
noncomputable def tr70 (P : Params) (d1 d2 d3 : SetD) : BT := (.node (o22_0 P) (tr68 P d1 d2 d3) (.node (o54_0 P) (.node (o86_0 P) (.node (o150_0 P) .nil .nil) (.node (o214_0 P) .nil .nil)) (.node (o118_0 P) (.node (o182_0 P) .nil .nil) (.node (o246_0 P) .nil .nil))))
noncomputable def tr71 (P : Params) (d1 d2 d3 : SetD) : BT := (.node (boot_o_10 P) (tr67 P d1 d2 d3) (.node (o26_0 P) (tr66 P d1 d2 d3) (.node (o58_0 P) (.node (o90_0 P) (.node (o154_0 P) .nil .nil) (.node (o218_0 P) .nil .nil)) (.node (o122_0 P) (.node (o186_0 P) .nil .nil) (.node (o250_0 P) .nil .nil)))))
noncomputable def tr72 (P : Params) (d1 d2 d3 : SetD) : BT := (.node (boot_o_4 P) (tr64 P d1 d2 d3) (.node (o12_2 P) (tr63 P d1 d2 d3) (.node (o28_0 P) (tr62 P d1 d2 d3) (.node (o60_0 P) (.node (o92_0 P) (.node (o156_0 P) .nil .nil) (.node (o220_0 P) .nil .nil)) (.node (o124_0 P) (.node (o188_0 P) .nil .nil) (.node (o252_0 P) .nil .nil))))))
noncomputable def tr73 (P : Params) (d1 d2 d3 : SetD) : BT := (.node (boot_o_6 P) (tr71 P d1 d2 d3) (.node (o14_0 P) (tr70 P d1 d2 d3) (.node (o30_0 P) (tr69 P d1 d2 d3) (.node (o62_0 P) (.node (o94_0 P) (.node (o158_0 P) .nil .nil) (.node (o222_0 P) .nil .nil)) (.node (o126_0 P) (.node (o190_0 P) .nil .nil) (.node (o254_0 P) .nil .nil))))))
noncomputable def Te (P : Params) (d1 d2 d3 : SetD) : BT := (.node (boot_o_0 P) (.node (boot_o_1 P) (tr56 P d1 d2 d3) (tr57 P d1 d2 d3)) (.node (boot_o_2 P) (tr72 P d1 d2 d3) (tr73 P d1 d2 d3)))
noncomputable def Se (P : Params) (os : OsState) (l : Life) (d1 d2 d3 : SetD) : SharedT := ⟨Te P d1 d2 d3, 275, l, #[], boot_drawn, 605, os⟩
noncomputable def o225_5 (P : Params) : Obj := ⟨.type "dict", none, .dict #[⟨PyData.keyHash P "__module__", .str "__module__" 468, .str "snowballstemmer.swedish_stemmer" 459⟩, ⟨PyData.keyHash P "__qualname__", .str "__qualname__" 470, .str "SwedishStemmer" 469⟩, ⟨PyData.keyHash P "__firstlineno__", .str "__firstlineno__" 472, .int 168 471⟩, ⟨PyData.keyHash P "g_v", .str "g_v" 491, .ref 230⟩, ⟨PyData.keyHash P "g_s_ending", .str "g_s_ending" 526, .ref 231⟩, ⟨PyData.keyHash P "g_ost_ending", .str "g_ost_ending" 545, .ref 232⟩, ⟨PyData.keyHash P "I_p1", .str "I_p1" 547, .int 0 546⟩, ⟨PyData.keyHash P "r_mark_regions", .str "r_mark_regions" 556, .ref 239⟩, ⟨PyData.keyHash P "r_et_condition", .str "r_et_condition" 565, .ref 246⟩, ⟨PyData.keyHash P "r_main_suffix", .str "r_main_suffix" 575, .ref 253⟩, ⟨PyData.keyHash P "r_consonant_pair", .str "r_consonant_pair" 584, .ref 260⟩, ⟨PyData.keyHash P "r_other_suffix", .str "r_other_suffix" 593, .ref 267⟩, ⟨PyData.keyHash P "_stem", .str "_stem" 604, .ref 274⟩, ⟨PyData.keyHash P "a_0", .str "a_0" 920, .ref 338⟩] 14, #[]⟩
noncomputable def o275_0 (P : Params) : Obj := ⟨.type "dict", none, .dict #[⟨PyData.keyHash P "s", .str "s" 615, .str "fab" 605⟩, ⟨PyData.keyHash P "substring_i", .str "substring_i" 617, .int (-1) 607⟩, ⟨PyData.keyHash P "result", .str "result" 619, .int (-1) 609⟩] 3, #[]⟩
noncomputable def o276_0 (P : Params) : Obj := ⟨.ref 218, some 275, .plain, #[]⟩
noncomputable def o277_0 (P : Params) : Obj := ⟨.type "frame", none, .dict #[⟨PyData.keyHash P "self", .str "self" 610, .ref 276⟩, ⟨PyData.keyHash P "s", .str "s" 611, .str "fab" 605⟩, ⟨PyData.keyHash P "substring_i", .str "substring_i" 612, .int (-1) 607⟩, ⟨PyData.keyHash P "result", .str "result" 613, .int (-1) 609⟩] 4, #[]⟩
noncomputable def o278_0 (P : Params) : Obj := ⟨.type "dict", none, .dict #[⟨PyData.keyHash P "s", .str "s" 630, .str "h" 620⟩, ⟨PyData.keyHash P "substring_i", .str "substring_i" 632, .int (-1) 622⟩, ⟨PyData.keyHash P "result", .str "result" 634, .int (-1) 624⟩] 3, #[]⟩
noncomputable def o279_0 (P : Params) : Obj := ⟨.ref 218, some 278, .plain, #[]⟩
noncomputable def o280_0 (P : Params) : Obj := ⟨.type "frame", none, .dict #[⟨PyData.keyHash P "self", .str "self" 625, .ref 279⟩, ⟨PyData.keyHash P "s", .str "s" 626, .str "h" 620⟩, ⟨PyData.keyHash P "substring_i", .str "substring_i" 627, .int (-1) 622⟩, ⟨PyData.keyHash P "result", .str "result" 628, .int (-1) 624⟩] 4, #[]⟩
noncomputable def o281_0 (P : Params) : Obj := ⟨.type "dict", none, .dict #[⟨PyData.keyHash P "s", .str "s" 645, .str "pak" 635⟩, ⟨PyData.keyHash P "substring_i", .str "substring_i" 647, .int (-1) 637⟩, ⟨PyData.keyHash P "result", .str "result" 649, .int (-1) 639⟩] 3, #[]⟩
noncomputable def o282_0 (P : Params) : Obj := ⟨.ref 218, some 281, .plain, #[]⟩
noncomputable def o283_0 (P : Params) : Obj := ⟨.type "frame", none, .dict #[⟨PyData.keyHash P "self", .str "self" 640, .ref 282⟩, ⟨PyData.keyHash P "s", .str "s" 641, .str "pak" 635⟩, ⟨PyData.keyHash P "substring_i", .str "substring_i" 642, .int (-1) 637⟩, ⟨PyData.keyHash P "result", .str "result" 643, .int (-1) 639⟩] 4, #[]⟩
noncomputable def o284_0 (P : Params) : Obj := ⟨.type "dict", none, .dict #[⟨PyData.keyHash P "s", .str "s" 660, .str "rak" 650⟩, ⟨PyData.keyHash P "substring_i", .str "substring_i" 662, .int (-1) 652⟩, ⟨PyData.keyHash P "result", .str "result" 664, .int (-1) 654⟩] 3, #[]⟩
noncomputable def o285_0 (P : Params) : Obj := ⟨.ref 218, some 284, .plain, #[]⟩
noncomputable def o286_0 (P : Params) : Obj := ⟨.type "frame", none, .dict #[⟨PyData.keyHash P "self", .str "self" 655, .ref 285⟩, ⟨PyData.keyHash P "s", .str "s" 656, .str "rak" 650⟩, ⟨PyData.keyHash P "substring_i", .str "substring_i" 657, .int (-1) 652⟩, ⟨PyData.keyHash P "result", .str "result" 658, .int (-1) 654⟩] 4, #[]⟩
noncomputable def o287_0 (P : Params) : Obj := ⟨.type "dict", none, .dict #[⟨PyData.keyHash P "s", .str "s" 675, .str "stak" 665⟩, ⟨PyData.keyHash P "substring_i", .str "substring_i" 677, .int (-1) 667⟩, ⟨PyData.keyHash P "result", .str "result" 679, .int (-1) 669⟩] 3, #[]⟩
noncomputable def o288_0 (P : Params) : Obj := ⟨.ref 218, some 287, .plain, #[]⟩
noncomputable def o289_0 (P : Params) : Obj := ⟨.type "frame", none, .dict #[⟨PyData.keyHash P "self", .str "self" 670, .ref 288⟩, ⟨PyData.keyHash P "s", .str "s" 671, .str "stak" 665⟩, ⟨PyData.keyHash P "substring_i", .str "substring_i" 672, .int (-1) 667⟩, ⟨PyData.keyHash P "result", .str "result" 673, .int (-1) 669⟩] 4, #[]⟩
noncomputable def o290_0 (P : Params) : Obj := ⟨.type "dict", none, .dict #[⟨PyData.keyHash P "s", .str "s" 690, .str "kom" 680⟩, ⟨PyData.keyHash P "substring_i", .str "substring_i" 692, .int (-1) 682⟩, ⟨PyData.keyHash P "result", .str "result" 694, .int (-1) 684⟩] 3, #[]⟩
noncomputable def o291_0 (P : Params) : Obj := ⟨.ref 218, some 290, .plain, #[]⟩
noncomputable def o292_0 (P : Params) : Obj := ⟨.type "frame", none, .dict #[⟨PyData.keyHash P "self", .str "self" 685, .ref 291⟩, ⟨PyData.keyHash P "s", .str "s" 686, .str "kom" 680⟩, ⟨PyData.keyHash P "substring_i", .str "substring_i" 687, .int (-1) 682⟩, ⟨PyData.keyHash P "result", .str "result" 688, .int (-1) 684⟩] 4, #[]⟩
noncomputable def o293_0 (P : Params) : Obj := ⟨.type "dict", none, .dict #[⟨PyData.keyHash P "s", .str "s" 705, .str "iet" 695⟩, ⟨PyData.keyHash P "substring_i", .str "substring_i" 707, .int (-1) 697⟩, ⟨PyData.keyHash P "result", .str "result" 709, .int (-1) 699⟩] 3, #[]⟩
noncomputable def o294_0 (P : Params) : Obj := ⟨.ref 218, some 293, .plain, #[]⟩
noncomputable def o295_0 (P : Params) : Obj := ⟨.type "frame", none, .dict #[⟨PyData.keyHash P "self", .str "self" 700, .ref 294⟩, ⟨PyData.keyHash P "s", .str "s" 701, .str "iet" 695⟩, ⟨PyData.keyHash P "substring_i", .str "substring_i" 702, .int (-1) 697⟩, ⟨PyData.keyHash P "result", .str "result" 703, .int (-1) 699⟩] 4, #[]⟩
noncomputable def o296_0 (P : Params) : Obj := ⟨.type "dict", none, .dict #[⟨PyData.keyHash P "s", .str "s" 720, .str "cit" 710⟩, ⟨PyData.keyHash P "substring_i", .str "substring_i" 722, .int (-1) 712⟩, ⟨PyData.keyHash P "result", .str "result" 724, .int (-1) 714⟩] 3, #[]⟩
noncomputable def o297_0 (P : Params) : Obj := ⟨.ref 218, some 296, .plain, #[]⟩
noncomputable def o298_0 (P : Params) : Obj := ⟨.type "frame", none, .dict #[⟨PyData.keyHash P "self", .str "self" 715, .ref 297⟩, ⟨PyData.keyHash P "s", .str "s" 716, .str "cit" 710⟩, ⟨PyData.keyHash P "substring_i", .str "substring_i" 717, .int (-1) 712⟩, ⟨PyData.keyHash P "result", .str "result" 718, .int (-1) 714⟩] 4, #[]⟩
noncomputable def o299_0 (P : Params) : Obj := ⟨.type "dict", none, .dict #[⟨PyData.keyHash P "s", .str "s" 735, .str "dit" 725⟩, ⟨PyData.keyHash P "substring_i", .str "substring_i" 737, .int (-1) 727⟩, ⟨PyData.keyHash P "result", .str "result" 739, .int (-1) 729⟩] 3, #[]⟩
noncomputable def o300_0 (P : Params) : Obj := ⟨.ref 218, some 299, .plain, #[]⟩
noncomputable def o301_0 (P : Params) : Obj := ⟨.type "frame", none, .dict #[⟨PyData.keyHash P "self", .str "self" 730, .ref 300⟩, ⟨PyData.keyHash P "s", .str "s" 731, .str "dit" 725⟩, ⟨PyData.keyHash P "substring_i", .str "substring_i" 732, .int (-1) 727⟩, ⟨PyData.keyHash P "result", .str "result" 733, .int (-1) 729⟩] 4, #[]⟩
noncomputable def o302_0 (P : Params) : Obj := ⟨.type "dict", none, .dict #[⟨PyData.keyHash P "s", .str "s" 750, .str "alit" 740⟩, ⟨PyData.keyHash P "substring_i", .str "substring_i" 752, .int (-1) 742⟩, ⟨PyData.keyHash P "result", .str "result" 754, .int (-1) 744⟩] 3, #[]⟩
noncomputable def o303_0 (P : Params) : Obj := ⟨.ref 218, some 302, .plain, #[]⟩
noncomputable def o304_0 (P : Params) : Obj := ⟨.type "frame", none, .dict #[⟨PyData.keyHash P "self", .str "self" 745, .ref 303⟩, ⟨PyData.keyHash P "s", .str "s" 746, .str "alit" 740⟩, ⟨PyData.keyHash P "substring_i", .str "substring_i" 747, .int (-1) 742⟩, ⟨PyData.keyHash P "result", .str "result" 748, .int (-1) 744⟩] 4, #[]⟩
noncomputable def o305_0 (P : Params) : Obj := ⟨.type "dict", none, .dict #[⟨PyData.keyHash P "s", .str "s" 765, .str "ilit" 755⟩, ⟨PyData.keyHash P "substring_i", .str "substring_i" 767, .int (-1) 757⟩, ⟨PyData.keyHash P "result", .str "result" 769, .int (-1) 759⟩] 3, #[]⟩
noncomputable def o306_0 (P : Params) : Obj := ⟨.ref 218, some 305, .plain, #[]⟩
noncomputable def o307_0 (P : Params) : Obj := ⟨.type "frame", none, .dict #[⟨PyData.keyHash P "self", .str "self" 760, .ref 306⟩, ⟨PyData.keyHash P "s", .str "s" 761, .str "ilit" 755⟩, ⟨PyData.keyHash P "substring_i", .str "substring_i" 762, .int (-1) 757⟩, ⟨PyData.keyHash P "result", .str "result" 763, .int (-1) 759⟩] 4, #[]⟩
noncomputable def o308_0 (P : Params) : Obj := ⟨.type "dict", none, .dict #[⟨PyData.keyHash P "s", .str "s" 780, .str "mit" 770⟩, ⟨PyData.keyHash P "substring_i", .str "substring_i" 782, .int (-1) 772⟩, ⟨PyData.keyHash P "result", .str "result" 784, .int (-1) 774⟩] 3, #[]⟩
noncomputable def o309_0 (P : Params) : Obj := ⟨.ref 218, some 308, .plain, #[]⟩
noncomputable def o310_0 (P : Params) : Obj := ⟨.type "frame", none, .dict #[⟨PyData.keyHash P "self", .str "self" 775, .ref 309⟩, ⟨PyData.keyHash P "s", .str "s" 776, .str "mit" 770⟩, ⟨PyData.keyHash P "substring_i", .str "substring_i" 777, .int (-1) 772⟩, ⟨PyData.keyHash P "result", .str "result" 778, .int (-1) 774⟩] 4, #[]⟩
noncomputable def o311_0 (P : Params) : Obj := ⟨.type "dict", none, .dict #[⟨PyData.keyHash P "s", .str "s" 795, .str "nit" 785⟩, ⟨PyData.keyHash P "substring_i", .str "substring_i" 797, .int (-1) 787⟩, ⟨PyData.keyHash P "result", .str "result" 799, .int (-1) 789⟩] 3, #[]⟩
noncomputable def o312_0 (P : Params) : Obj := ⟨.ref 218, some 311, .plain, #[]⟩
noncomputable def o313_0 (P : Params) : Obj := ⟨.type "frame", none, .dict #[⟨PyData.keyHash P "self", .str "self" 790, .ref 312⟩, ⟨PyData.keyHash P "s", .str "s" 791, .str "nit" 785⟩, ⟨PyData.keyHash P "substring_i", .str "substring_i" 792, .int (-1) 787⟩, ⟨PyData.keyHash P "result", .str "result" 793, .int (-1) 789⟩] 4, #[]⟩
noncomputable def o314_0 (P : Params) : Obj := ⟨.type "dict", none, .dict #[⟨PyData.keyHash P "s", .str "s" 810, .str "pit" 800⟩, ⟨PyData.keyHash P "substring_i", .str "substring_i" 812, .int (-1) 802⟩, ⟨PyData.keyHash P "result", .str "result" 814, .int (-1) 804⟩] 3, #[]⟩
noncomputable def o315_0 (P : Params) : Obj := ⟨.ref 218, some 314, .plain, #[]⟩
noncomputable def o316_0 (P : Params) : Obj := ⟨.type "frame", none, .dict #[⟨PyData.keyHash P "self", .str "self" 805, .ref 315⟩, ⟨PyData.keyHash P "s", .str "s" 806, .str "pit" 800⟩, ⟨PyData.keyHash P "substring_i", .str "substring_i" 807, .int (-1) 802⟩, ⟨PyData.keyHash P "result", .str "result" 808, .int (-1) 804⟩] 4, #[]⟩
noncomputable def o317_0 (P : Params) : Obj := ⟨.type "dict", none, .dict #[⟨PyData.keyHash P "s", .str "s" 825, .str "rit" 815⟩, ⟨PyData.keyHash P "substring_i", .str "substring_i" 827, .int (-1) 817⟩, ⟨PyData.keyHash P "result", .str "result" 829, .int (-1) 819⟩] 3, #[]⟩
noncomputable def o318_0 (P : Params) : Obj := ⟨.ref 218, some 317, .plain, #[]⟩
noncomputable def o319_0 (P : Params) : Obj := ⟨.type "frame", none, .dict #[⟨PyData.keyHash P "self", .str "self" 820, .ref 318⟩, ⟨PyData.keyHash P "s", .str "s" 821, .str "rit" 815⟩, ⟨PyData.keyHash P "substring_i", .str "substring_i" 822, .int (-1) 817⟩, ⟨PyData.keyHash P "result", .str "result" 823, .int (-1) 819⟩] 4, #[]⟩
noncomputable def o320_0 (P : Params) : Obj := ⟨.type "dict", none, .dict #[⟨PyData.keyHash P "s", .str "s" 840, .str "sit" 830⟩, ⟨PyData.keyHash P "substring_i", .str "substring_i" 842, .int (-1) 832⟩, ⟨PyData.keyHash P "result", .str "result" 844, .int (-1) 834⟩] 3, #[]⟩
noncomputable def o321_0 (P : Params) : Obj := ⟨.ref 218, some 320, .plain, #[]⟩
noncomputable def o322_0 (P : Params) : Obj := ⟨.type "frame", none, .dict #[⟨PyData.keyHash P "self", .str "self" 835, .ref 321⟩, ⟨PyData.keyHash P "s", .str "s" 836, .str "sit" 830⟩, ⟨PyData.keyHash P "substring_i", .str "substring_i" 837, .int (-1) 832⟩, ⟨PyData.keyHash P "result", .str "result" 838, .int (-1) 834⟩] 4, #[]⟩
noncomputable def o323_0 (P : Params) : Obj := ⟨.type "dict", none, .dict #[⟨PyData.keyHash P "s", .str "s" 855, .str "tit" 845⟩, ⟨PyData.keyHash P "substring_i", .str "substring_i" 857, .int (-1) 847⟩, ⟨PyData.keyHash P "result", .str "result" 859, .int (-1) 849⟩] 3, #[]⟩
noncomputable def o324_0 (P : Params) : Obj := ⟨.ref 218, some 323, .plain, #[]⟩
noncomputable def o325_0 (P : Params) : Obj := ⟨.type "frame", none, .dict #[⟨PyData.keyHash P "self", .str "self" 850, .ref 324⟩, ⟨PyData.keyHash P "s", .str "s" 851, .str "tit" 845⟩, ⟨PyData.keyHash P "substring_i", .str "substring_i" 852, .int (-1) 847⟩, ⟨PyData.keyHash P "result", .str "result" 853, .int (-1) 849⟩] 4, #[]⟩
noncomputable def o326_0 (P : Params) : Obj := ⟨.type "dict", none, .dict #[⟨PyData.keyHash P "s", .str "s" 870, .str "uit" 860⟩, ⟨PyData.keyHash P "substring_i", .str "substring_i" 872, .int (-1) 862⟩, ⟨PyData.keyHash P "result", .str "result" 874, .int (-1) 864⟩] 3, #[]⟩
noncomputable def o327_0 (P : Params) : Obj := ⟨.ref 218, some 326, .plain, #[]⟩
noncomputable def o328_0 (P : Params) : Obj := ⟨.type "frame", none, .dict #[⟨PyData.keyHash P "self", .str "self" 865, .ref 327⟩, ⟨PyData.keyHash P "s", .str "s" 866, .str "uit" 860⟩, ⟨PyData.keyHash P "substring_i", .str "substring_i" 867, .int (-1) 862⟩, ⟨PyData.keyHash P "result", .str "result" 868, .int (-1) 864⟩] 4, #[]⟩
noncomputable def o329_0 (P : Params) : Obj := ⟨.type "dict", none, .dict #[⟨PyData.keyHash P "s", .str "s" 885, .str "ivit" 875⟩, ⟨PyData.keyHash P "substring_i", .str "substring_i" 887, .int (-1) 877⟩, ⟨PyData.keyHash P "result", .str "result" 889, .int (-1) 879⟩] 3, #[]⟩
noncomputable def o330_0 (P : Params) : Obj := ⟨.ref 218, some 329, .plain, #[]⟩
noncomputable def o331_0 (P : Params) : Obj := ⟨.type "frame", none, .dict #[⟨PyData.keyHash P "self", .str "self" 880, .ref 330⟩, ⟨PyData.keyHash P "s", .str "s" 881, .str "ivit" 875⟩, ⟨PyData.keyHash P "substring_i", .str "substring_i" 882, .int (-1) 877⟩, ⟨PyData.keyHash P "result", .str "result" 883, .int (-1) 879⟩] 4, #[]⟩
noncomputable def o332_0 (P : Params) : Obj := ⟨.type "dict", none, .dict #[⟨PyData.keyHash P "s", .str "s" 900, .str "kvit" 890⟩, ⟨PyData.keyHash P "substring_i", .str "substring_i" 902, .int (-1) 892⟩, ⟨PyData.keyHash P "result", .str "result" 904, .int (-1) 894⟩] 3, #[]⟩
noncomputable def o333_0 (P : Params) : Obj := ⟨.ref 218, some 332, .plain, #[]⟩
noncomputable def o334_0 (P : Params) : Obj := ⟨.type "frame", none, .dict #[⟨PyData.keyHash P "self", .str "self" 895, .ref 333⟩, ⟨PyData.keyHash P "s", .str "s" 896, .str "kvit" 890⟩, ⟨PyData.keyHash P "substring_i", .str "substring_i" 897, .int (-1) 892⟩, ⟨PyData.keyHash P "result", .str "result" 898, .int (-1) 894⟩] 4, #[]⟩
noncomputable def o335_0 (P : Params) : Obj := ⟨.type "dict", none, .dict #[⟨PyData.keyHash P "s", .str "s" 915, .str "xit" 905⟩, ⟨PyData.keyHash P "substring_i", .str "substring_i" 917, .int (-1) 907⟩, ⟨PyData.keyHash P "result", .str "result" 919, .int (-1) 909⟩] 3, #[]⟩
noncomputable def o336_0 (P : Params) : Obj := ⟨.ref 218, some 335, .plain, #[]⟩
noncomputable def o337_0 (P : Params) : Obj := ⟨.type "frame", none, .dict #[⟨PyData.keyHash P "self", .str "self" 910, .ref 336⟩, ⟨PyData.keyHash P "s", .str "s" 911, .str "xit" 905⟩, ⟨PyData.keyHash P "substring_i", .str "substring_i" 912, .int (-1) 907⟩, ⟨PyData.keyHash P "result", .str "result" 913, .int (-1) 909⟩] 4, #[]⟩
noncomputable def o338_0 (P : Params) : Obj := ⟨.type "list", none, .seq #[.ref 276, .ref 279, .ref 282, .ref 285, .ref 288, .ref 291, .ref 294, .ref 297, .ref 300, .ref 303, .ref 306, .ref 309, .ref 312, .ref 315, .ref 318, .ref 321, .ref 324, .ref 327, .ref 330, .ref 333, .ref 336] 0, #[]⟩
noncomputable def tr74 (P : Params) (d1 d2 d3 : SetD) : BT := (.node (o31_0 P) (.node (o63_0 P) (.node (o127_0 P) (.node (o255_0 P) .nil .nil) .nil) (.node (o191_0 P) (.node (o319_0 P) .nil .nil) .nil)) (.node (o95_0 P) (.node (o159_0 P) (.node (o287_0 P) .nil .nil) .nil) (.node (o223_0 P) .nil .nil)))
noncomputable def tr75 (P : Params) (d1 d2 d3 : SetD) : BT := (.node (o39_0 P) (.node (o71_0 P) (.node (o135_0 P) (.node (o263_0 P) .nil .nil) .nil) (.node (o199_0 P) (.node (o327_0 P) .nil .nil) .nil)) (.node (o103_0 P) (.node (o167_0 P) (.node (o295_0 P) .nil .nil) .nil) (.node (sO d2) .nil .nil)))
noncomputable def tr76 (P : Params) (d1 d2 d3 : SetD) : BT := (.node (o15_0 P) (tr74 P d1 d2 d3) (.node (o47_0 P) (.node (o79_0 P) (.node (o143_0 P) (.node (o271_0 P) .nil .nil) .nil) (.node (o207_0 P) (.node (o335_0 P) .nil .nil) .nil)) (.node (o111_0 P) (.node (o175_0 P) (.node (o303_0 P) .nil .nil) .nil) (.node (o239_0 P) .nil .nil))))
noncomputable def tr77 (P : Params) (d1 d2 d3 : SetD) : BT := (.node (o35_0 P) (.node (o67_0 P) (.node (o131_0 P) (.node (o259_0 P) .nil .nil) .nil) (.node (o195_0 P) (.node (o323_0 P) .nil .nil) .nil)) (.node (o99_0 P) (.node (o163_0 P) (.node (o291_0 P) .nil .nil) .nil) (.node (o227_1 P) .nil .nil)))
noncomputable def tr78 (P : Params) (d1 d2 d3 : SetD) : BT := (.node (o43_0 P) (.node (o75_0 P) (.node (o139_0 P) (.node (o267_0 P) .nil .nil) .nil) (.node (o203_0 P) (.node (o331_0 P) .nil .nil) .nil)) (.node (o107_0 P) (.node (o171_0 P) (.node (o299_0 P) .nil .nil) .nil) (.node (o235_0 P) .nil .nil)))
noncomputable def tr79 (P : Params) (d1 d2 d3 : SetD) : BT := (.node (o19_0 P) (tr77 P d1 d2 d3) (.node (o51_0 P) (.node (o83_0 P) (.node (o147_0 P) (.node (o275_0 P) .nil .nil) .nil) (.node (o211_0 P) .nil .nil)) (.node (o115_0 P) (.node (o179_0 P) (.node (o307_0 P) .nil .nil) .nil) (.node (o243_0 P) .nil .nil))))
noncomputable def tr80 (P : Params) (d1 d2 d3 : SetD) : BT := (.node (boot_o_7 P) (tr76 P d1 d2 d3) (.node (o23_0 P) (tr75 P d1 d2 d3) (.node (o55_0 P) (.node (o87_0 P) (.node (o151_0 P) (.node (o279_0 P) .nil .nil) .nil) (.node (o215_0 P) .nil .nil)) (.node (o119_0 P) (.node (o183_0 P) (.node (o311_0 P) .nil .nil) .nil) (.node (o247_0 P) .nil .nil)))))
noncomputable def tr81 (P : Params) (d1 d2 d3 : SetD) : BT := (.node (o11_0 P) (tr79 P d1 d2 d3) (.node (o27_0 P) (tr78 P d1 d2 d3) (.node (o59_0 P) (.node (o91_0 P) (.node (o155_0 P) (.node (o283_0 P) .nil .nil) .nil) (.node (o219_0 P) .nil .nil)) (.node (o123_0 P) (.node (o187_0 P) (.node (o315_0 P) .nil .nil) .nil) (.node (o251_0 P) .nil .nil)))))
noncomputable def tr82 (P : Params) (d1 d2 d3 : SetD) : BT := (.node (o33_0 P) (.node (o65_0 P) (.node (o129_0 P) (.node (o257_0 P) .nil .nil) .nil) (.node (o193_0 P) (.node (o321_0 P) .nil .nil) .nil)) (.node (o97_0 P) (.node (o161_0 P) (.node (o289_0 P) .nil .nil) .nil) (.node (o225_5 P) .nil .nil)))
noncomputable def tr83 (P : Params) (d1 d2 d3 : SetD) : BT := (.node (o41_0 P) (.node (o73_0 P) (.node (o137_0 P) (.node (o265_0 P) .nil .nil) .nil) (.node (o201_0 P) (.node (o329_0 P) .nil .nil) .nil)) (.node (o105_0 P) (.node (o169_0 P) (.node (o297_0 P) .nil .nil) .nil) (.node (o233_0 P) .nil .nil)))
noncomputable def tr84 (P : Params) (d1 d2 d3 : SetD) : BT := (.node (o17_0 P) (tr82 P d1 d2 d3) (.node (o49_0 P) (.node (o81_0 P) (.node (o145_0 P) (.node (o273_0 P) .nil .nil) .nil) (.node (o209_0 P) (.node (o337_0 P) .nil .nil) .nil)) (.node (o113_0 P) (.node (o177_0 P) (.node (o305_0 P) .nil .nil) .nil) (.node (o241_0 P) .nil .nil))))
noncomputable def tr85 (P : Params) (d1 d2 d3 : SetD) : BT := (.node (o37_0 P) (.node (o69_0 P) (.node (o133_0 P) (.node (o261_0 P) .nil .nil) .nil) (.node (o197_0 P) (.node (o325_0 P) .nil .nil) .nil)) (.node (o101_0 P) (.node (o165_0 P) (.node (o293_0 P) .nil .nil) .nil) (.node (o229_0 P) .nil .nil)))
noncomputable def tr86 (P : Params) (d1 d2 d3 : SetD) : BT := (.node (o45_0 P) (.node (o77_0 P) (.node (o141_0 P) (.node (o269_0 P) .nil .nil) .nil) (.node (o205_0 P) (.node (o333_0 P) .nil .nil) .nil)) (.node (o109_0 P) (.node (o173_0 P) (.node (o301_0 P) .nil .nil) .nil) (.node (o237_0 P) .nil .nil)))
noncomputable def tr87 (P : Params) (d1 d2 d3 : SetD) : BT := (.node (o21_0 P) (tr85 P d1 d2 d3) (.node (o53_0 P) (.node (o85_0 P) (.node (o149_0 P) (.node (o277_0 P) .nil .nil) .nil) (.node (o213_0 P) .nil .nil)) (.node (o117_0 P) (.node (o181_0 P) (.node (o309_0 P) .nil .nil) .nil) (.node (o245_0 P) .nil .nil))))
noncomputable def tr88 (P : Params) (d1 d2 d3 : SetD) : BT := (.node (boot_o_9 P) (tr84 P d1 d2 d3) (.node (o25_0 P) (tr83 P d1 d2 d3) (.node (o57_0 P) (.node (o89_0 P) (.node (o153_0 P) (.node (o281_0 P) .nil .nil) .nil) (.node (o217_0 P) .nil .nil)) (.node (o121_0 P) (.node (o185_0 P) (.node (o313_0 P) .nil .nil) .nil) (.node (o249_0 P) .nil .nil)))))
noncomputable def tr89 (P : Params) (d1 d2 d3 : SetD) : BT := (.node (o13_0 P) (tr87 P d1 d2 d3) (.node (o29_0 P) (tr86 P d1 d2 d3) (.node (o61_0 P) (.node (o93_0 P) (.node (o157_0 P) (.node (o285_0 P) .nil .nil) .nil) (.node (o221_0 P) .nil .nil)) (.node (o125_0 P) (.node (o189_0 P) (.node (o317_0 P) .nil .nil) .nil) (.node (o253_0 P) .nil .nil)))))
noncomputable def tr90 (P : Params) (d1 d2 d3 : SetD) : BT := (.node (o32_0 P) (.node (o64_0 P) (.node (o128_0 P) (.node (o256_0 P) .nil .nil) .nil) (.node (o192_0 P) (.node (o320_0 P) .nil .nil) .nil)) (.node (o96_0 P) (.node (o160_0 P) (.node (o288_0 P) .nil .nil) .nil) (.node (o224_0 P) .nil .nil)))
noncomputable def tr91 (P : Params) (d1 d2 d3 : SetD) : BT := (.node (o40_0 P) (.node (o72_0 P) (.node (o136_0 P) (.node (o264_0 P) .nil .nil) .nil) (.node (o200_0 P) (.node (o328_0 P) .nil .nil) .nil)) (.node (o104_0 P) (.node (o168_0 P) (.node (o296_0 P) .nil .nil) .nil) (.node (sO d3) .nil .nil)))
noncomputable def tr92 (P : Params) (d1 d2 d3 : SetD) : BT := (.node (o16_0 P) (tr90 P d1 d2 d3) (.node (o48_0 P) (.node (o80_0 P) (.node (o144_0 P) (.node (o272_0 P) .nil .nil) .nil) (.node (o208_0 P) (.node (o336_0 P) .nil .nil) .nil)) (.node (o112_0 P) (.node (o176_0 P) (.node (o304_0 P) .nil .nil) .nil) (.node (o240_0 P) .nil .nil))))
noncomputable def tr93 (P : Params) (d1 d2 d3 : SetD) : BT := (.node (o36_0 P) (.node (o68_0 P) (.node (o132_0 P) (.node (o260_0 P) .nil .nil) .nil) (.node (o196_0 P) (.node (o324_0 P) .nil .nil) .nil)) (.node (o100_0 P) (.node (o164_0 P) (.node (o292_0 P) .nil .nil) .nil) (.node (o228_0 P) .nil .nil)))
noncomputable def tr94 (P : Params) (d1 d2 d3 : SetD) : BT := (.node (o44_0 P) (.node (o76_0 P) (.node (o140_0 P) (.node (o268_0 P) .nil .nil) .nil) (.node (o204_0 P) (.node (o332_0 P) .nil .nil) .nil)) (.node (o108_0 P) (.node (o172_0 P) (.node (o300_0 P) .nil .nil) .nil) (.node (o236_0 P) .nil .nil)))
noncomputable def tr95 (P : Params) (d1 d2 d3 : SetD) : BT := (.node (o20_0 P) (tr93 P d1 d2 d3) (.node (o52_0 P) (.node (o84_0 P) (.node (o148_0 P) (.node (o276_0 P) .nil .nil) .nil) (.node (o212_0 P) .nil .nil)) (.node (o116_0 P) (.node (o180_0 P) (.node (o308_0 P) .nil .nil) .nil) (.node (o244_0 P) .nil .nil))))
noncomputable def tr96 (P : Params) (d1 d2 d3 : SetD) : BT := (.node (boot_o_8 P) (tr92 P d1 d2 d3) (.node (o24_0 P) (tr91 P d1 d2 d3) (.node (o56_0 P) (.node (o88_0 P) (.node (o152_0 P) (.node (o280_0 P) .nil .nil) .nil) (.node (o216_0 P) .nil .nil)) (.node (o120_0 P) (.node (o184_0 P) (.node (o312_0 P) .nil .nil) .nil) (.node (o248_0 P) .nil .nil)))))
noncomputable def tr97 (P : Params) (d1 d2 d3 : SetD) : BT := (.node (o12_2 P) (tr95 P d1 d2 d3) (.node (o28_0 P) (tr94 P d1 d2 d3) (.node (o60_0 P) (.node (o92_0 P) (.node (o156_0 P) (.node (o284_0 P) .nil .nil) .nil) (.node (o220_0 P) .nil .nil)) (.node (o124_0 P) (.node (o188_0 P) (.node (o316_0 P) .nil .nil) .nil) (.node (o252_0 P) .nil .nil)))))
noncomputable def tr98 (P : Params) (d1 d2 d3 : SetD) : BT := (.node (o34_0 P) (.node (o66_0 P) (.node (o130_0 P) (.node (o258_0 P) .nil .nil) .nil) (.node (o194_0 P) (.node (o322_0 P) .nil .nil) .nil)) (.node (o98_0 P) (.node (o162_0 P) (.node (o290_0 P) .nil .nil) .nil) (.node (o226_0 P) .nil .nil)))
noncomputable def tr99 (P : Params) (d1 d2 d3 : SetD) : BT := (.node (o42_0 P) (.node (o74_0 P) (.node (o138_0 P) (.node (o266_0 P) .nil .nil) .nil) (.node (o202_0 P) (.node (o330_0 P) .nil .nil) .nil)) (.node (o106_0 P) (.node (o170_0 P) (.node (o298_0 P) .nil .nil) .nil) (.node (o234_0 P) .nil .nil)))
noncomputable def tr100 (P : Params) (d1 d2 d3 : SetD) : BT := (.node (o18_0 P) (tr98 P d1 d2 d3) (.node (o50_0 P) (.node (o82_0 P) (.node (o146_0 P) (.node (o274_0 P) .nil .nil) .nil) (.node (o210_0 P) (.node (o338_0 P) .nil .nil) .nil)) (.node (o114_0 P) (.node (o178_0 P) (.node (o306_0 P) .nil .nil) .nil) (.node (o242_0 P) .nil .nil))))
noncomputable def tr101 (P : Params) (d1 d2 d3 : SetD) : BT := (.node (o38_0 P) (.node (o70_0 P) (.node (o134_0 P) (.node (o262_0 P) .nil .nil) .nil) (.node (o198_0 P) (.node (o326_0 P) .nil .nil) .nil)) (.node (o102_0 P) (.node (o166_0 P) (.node (o294_0 P) .nil .nil) .nil) (.node (sO d1) .nil .nil)))
noncomputable def tr102 (P : Params) (d1 d2 d3 : SetD) : BT := (.node (o46_0 P) (.node (o78_0 P) (.node (o142_0 P) (.node (o270_0 P) .nil .nil) .nil) (.node (o206_0 P) (.node (o334_0 P) .nil .nil) .nil)) (.node (o110_0 P) (.node (o174_0 P) (.node (o302_0 P) .nil .nil) .nil) (.node (o238_0 P) .nil .nil)))
noncomputable def tr103 (P : Params) (d1 d2 d3 : SetD) : BT := (.node (o22_0 P) (tr101 P d1 d2 d3) (.node (o54_0 P) (.node (o86_0 P) (.node (o150_0 P) (.node (o278_0 P) .nil .nil) .nil) (.node (o214_0 P) .nil .nil)) (.node (o118_0 P) (.node (o182_0 P) (.node (o310_0 P) .nil .nil) .nil) (.node (o246_0 P) .nil .nil))))
noncomputable def tr104 (P : Params) (d1 d2 d3 : SetD) : BT := (.node (boot_o_10 P) (tr100 P d1 d2 d3) (.node (o26_0 P) (tr99 P d1 d2 d3) (.node (o58_0 P) (.node (o90_0 P) (.node (o154_0 P) (.node (o282_0 P) .nil .nil) .nil) (.node (o218_0 P) .nil .nil)) (.node (o122_0 P) (.node (o186_0 P) (.node (o314_0 P) .nil .nil) .nil) (.node (o250_0 P) .nil .nil)))))
noncomputable def tr105 (P : Params) (d1 d2 d3 : SetD) : BT := (.node (o14_0 P) (tr103 P d1 d2 d3) (.node (o30_0 P) (tr102 P d1 d2 d3) (.node (o62_0 P) (.node (o94_0 P) (.node (o158_0 P) (.node (o286_0 P) .nil .nil) .nil) (.node (o222_0 P) .nil .nil)) (.node (o126_0 P) (.node (o190_0 P) (.node (o318_0 P) .nil .nil) .nil) (.node (o254_0 P) .nil .nil)))))
noncomputable def tr106 (P : Params) (d1 d2 d3 : SetD) : BT := (.node (boot_o_1 P) (.node (o3_1 P) (tr80 P d1 d2 d3) (tr81 P d1 d2 d3)) (.node (boot_o_5 P) (tr88 P d1 d2 d3) (tr89 P d1 d2 d3)))
noncomputable def Tf (P : Params) (d1 d2 d3 : SetD) : BT := (.node (boot_o_0 P) (tr106 P d1 d2 d3) (.node (boot_o_2 P) (.node (boot_o_4 P) (tr96 P d1 d2 d3) (tr97 P d1 d2 d3)) (.node (boot_o_6 P) (tr104 P d1 d2 d3) (tr105 P d1 d2 d3))))
noncomputable def Sf (P : Params) (os : OsState) (l : Life) (d1 d2 d3 : SetD) : SharedT := ⟨Tf P d1 d2 d3, 339, l, #[], boot_drawn, 921, os⟩
noncomputable def o225_6 (P : Params) : Obj := ⟨.type "dict", none, .dict #[⟨PyData.keyHash P "__module__", .str "__module__" 468, .str "snowballstemmer.swedish_stemmer" 459⟩, ⟨PyData.keyHash P "__qualname__", .str "__qualname__" 470, .str "SwedishStemmer" 469⟩, ⟨PyData.keyHash P "__firstlineno__", .str "__firstlineno__" 472, .int 168 471⟩, ⟨PyData.keyHash P "g_v", .str "g_v" 491, .ref 230⟩, ⟨PyData.keyHash P "g_s_ending", .str "g_s_ending" 526, .ref 231⟩, ⟨PyData.keyHash P "g_ost_ending", .str "g_ost_ending" 545, .ref 232⟩, ⟨PyData.keyHash P "I_p1", .str "I_p1" 547, .int 0 546⟩, ⟨PyData.keyHash P "r_mark_regions", .str "r_mark_regions" 556, .ref 239⟩, ⟨PyData.keyHash P "r_et_condition", .str "r_et_condition" 565, .ref 246⟩, ⟨PyData.keyHash P "r_main_suffix", .str "r_main_suffix" 575, .ref 253⟩, ⟨PyData.keyHash P "r_consonant_pair", .str "r_consonant_pair" 584, .ref 260⟩, ⟨PyData.keyHash P "r_other_suffix", .str "r_other_suffix" 593, .ref 267⟩, ⟨PyData.keyHash P "_stem", .str "_stem" 604, .ref 274⟩, ⟨PyData.keyHash P "a_0", .str "a_0" 920, .ref 338⟩, ⟨PyData.keyHash P "a_1", .str "a_1" 1427, .ref 453⟩] 15, #[]⟩
noncomputable def o339_0 (P : Params) : Obj := ⟨.type "dict", none, .dict #[⟨PyData.keyHash P "s", .str "s" 930, .str "a" 921⟩, ⟨PyData.keyHash P "substring_i", .str "substring_i" 932, .int (-1) 923⟩, ⟨PyData.keyHash P "result", .str "result" 934, .int 1 924⟩] 3, #[]⟩
noncomputable def o340_0 (P : Params) : Obj := ⟨.ref 218, some 339, .plain, #[]⟩
noncomputable def o341_0 (P : Params) : Obj := ⟨.type "frame", none, .dict #[⟨PyData.keyHash P "self", .str "self" 925, .ref 340⟩, ⟨PyData.keyHash P "s", .str "s" 926, .str "a" 921⟩, ⟨PyData.keyHash P "substring_i", .str "substring_i" 927, .int (-1) 923⟩, ⟨PyData.keyHash P "result", .str "result" 928, .int 1 924⟩] 4, #[]⟩
noncomputable def o342_0 (P : Params) : Obj := ⟨.type "dict", none, .dict #[⟨PyData.keyHash P "s", .str "s" 943, .str "arna" 935⟩, ⟨PyData.keyHash P "substring_i", .str "substring_i" 945, .int 0 936⟩, ⟨PyData.keyHash P "result", .str "result" 947, .int 1 937⟩] 3, #[]⟩
noncomputable def o343_0 (P : Params) : Obj := ⟨.ref 218, some 342, .plain, #[]⟩
noncomputable def o344_0 (P : Params) : Obj := ⟨.type "frame", none, .dict #[⟨PyData.keyHash P "self", .str "self" 938, .ref 343⟩, ⟨PyData.keyHash P "s", .str "s" 939, .str "arna" 935⟩, ⟨PyData.keyHash P "substring_i", .str "substring_i" 940, .int 0 936⟩, ⟨PyData.keyHash P "result", .str "result" 941, .int 1 937⟩] 4, #[]⟩
noncomputable def o345_0 (P : Params) : Obj := ⟨.type "dict", none, .dict #[⟨PyData.keyHash P "s", .str "s" 956, .str "erna" 948⟩, ⟨PyData.keyHash P "substring_i", .str "substring_i" 958, .int 0 949⟩, ⟨PyData.keyHash P "result", .str "result" 960, .int 1 950⟩] 3, #[]⟩
noncomputable def o346_0 (P : Params) : Obj := ⟨.ref 218, some 345, .plain, #[]⟩
noncomputable def o347_0 (P : Params) : Obj := ⟨.type "frame", none, .dict #[⟨PyData.keyHash P "self", .str "self" 951, .ref 346⟩, ⟨PyData.keyHash P "s", .str "s" 952, .str "erna" 948⟩, ⟨PyData.keyHash P "substring_i", .str "substring_i" 953, .int 0 949⟩, ⟨PyData.keyHash P "result", .str "result" 954, .int 1 950⟩] 4, #[]⟩
noncomputable def o348_0 (P : Params) : Obj := ⟨.type "dict", none, .dict #[⟨PyData.keyHash P "s", .str "s" 969, .str "heterna" 961⟩, ⟨PyData.keyHash P "substring_i", .str "substring_i" 971, .int 2 962⟩, ⟨PyData.keyHash P "result", .str "result" 973, .int 1 963⟩] 3, #[]⟩
noncomputable def o349_0 (P : Params) : Obj := ⟨.ref 218, some 348, .plain, #[]⟩
noncomputable def o350_0 (P : Params) : Obj := ⟨.type "frame", none, .dict #[⟨PyData.keyHash P "self", .str "self" 964, .ref 349⟩, ⟨PyData.keyHash P "s", .str "s" 965, .str "heterna" 961⟩, ⟨PyData.keyHash P "substring_i", .str "substring_i" 966, .int 2 962⟩, ⟨PyData.keyHash P "result", .str "result" 967, .int 1 963⟩] 4, #[]⟩
noncomputable def o351_0 (P : Params) : Obj := ⟨.type "dict", none, .dict #[⟨PyData.keyHash P "s", .str "s" 982, .str "orna" 974⟩, ⟨PyData.keyHash P "substring_i", .str "substring_i" 984, .int 0 975⟩, ⟨PyData.keyHash P "result", .str "result" 986, .int 1 976⟩] 3, #[]⟩
noncomputable def o352_0 (P : Params) : Obj := ⟨.ref 218, some 351, .plain, #[]⟩
noncomputable def o353_0 (P : Params) : Obj := ⟨.type "frame", none, .dict #[⟨PyData.keyHash P "self", .str "self" 977, .ref 352⟩, ⟨PyData.keyHash P "s", .str "s" 978, .str "orna" 974⟩, ⟨PyData.keyHash P "substring_i", .str "substring_i" 979, .int 0 975⟩, ⟨PyData.keyHash P "result", .str "result" 980, .int 1 976⟩] 4, #[]⟩
noncomputable def o354_0 (P : Params) : Obj := ⟨.type "dict", none, .dict #[⟨PyData.keyHash P "s", .str "s" 996, .str "ad" 987⟩, ⟨PyData.keyHash P "substring_i", .str "substring_i" 998, .int (-1) 989⟩, ⟨PyData.keyHash P "result", .str "result" 1000, .int 1 990⟩] 3, #[]⟩
noncomputable def o355_0 (P : Params) : Obj := ⟨.ref 218, some 354, .plain, #[]⟩
noncomputable def o356_0 (P : Params) : Obj := ⟨.type "frame", none, .dict #[⟨PyData.keyHash P "self", .str "self" 991, .ref 355⟩, ⟨PyData.keyHash P "s", .str "s" 992, .str "ad" 987⟩, ⟨PyData.keyHash P "substring_i", .str "substring_i" 993, .int (-1) 989⟩, ⟨PyData.keyHash P "result", .str "result" 994, .int 1 990⟩] 4, #[]⟩
noncomputable def o357_0 (P : Params) : Obj := ⟨.type "dict", none, .dict #[⟨PyData.keyHash P "s", .str "s" 1010, .str "e" 1001⟩, ⟨PyData.keyHash P "substring_i", .str "substring_i" 1012, .int (-1) 1003⟩, ⟨PyData.keyHash P "result", .str "result" 1014, .int 1 1004⟩] 3, #[]⟩
noncomputable def o358_0 (P : Params) : Obj := ⟨.ref 218, some 357, .plain, #[]⟩
noncomputable def o359_0 (P : Params) : Obj := ⟨.type "frame", none, .dict #[⟨PyData.keyHash P "self", .str "self" 1005, .ref 358⟩, ⟨PyData.keyHash P "s", .str "s" 1006, .str "e" 1001⟩, ⟨PyData.keyHash P "substring_i", .str "substring_i" 1007, .int (-1) 1003⟩, ⟨PyData.keyHash P "result", .str "result" 1008, .int 1 1004⟩] 4, #[]⟩
noncomputable def o360_0 (P : Params) : Obj := ⟨.type "dict", none, .dict #[⟨PyData.keyHash P "s", .str "s" 1023, .str "ade" 1015⟩, ⟨PyData.keyHash P "substring_i", .str "substring_i" 1025, .int 6 1016⟩, ⟨PyData.keyHash P "result", .str "result" 1027, .int 1 1017⟩] 3, #[]⟩
noncomputable def o361_0 (P : Params) : Obj := ⟨.ref 218, some 360, .plain, #[]⟩
noncomputable def o362_0 (P : Params) : Obj := ⟨.type "frame", none, .dict #[⟨PyData.keyHash P "self", .str "self" 1018, .ref 361⟩, ⟨PyData.keyHash P "s", .str "s" 1019, .str "ade" 1015⟩, ⟨PyData.keyHash P "substring_i", .str "substring_i" 1020, .int 6 1016⟩, ⟨PyData.keyHash P "result", .str "result" 1021, .int 1 1017⟩] 4, #[]⟩
noncomputable def o363_0 (P : Params) : Obj := ⟨.type "dict", none, .dict #[⟨PyData.keyHash P "s", .str "s" 1036, .str "ande" 1028⟩, ⟨PyData.keyHash P "substring_i", .str "substring_i" 1038, .int 6 1029⟩, ⟨PyData.keyHash P "result", .str "result" 1040, .int 1 1030⟩] 3, #[]⟩
noncomputable def o364_0 (P : Params) : Obj := ⟨.ref 218, some 363, .plain, #[]⟩
noncomputable def o365_0 (P : Params) : Obj := ⟨.type "frame", none, .dict #[⟨PyData.keyHash P "self", .str "self" 1031, .ref 364⟩, ⟨PyData.keyHash P "s", .str "s" 1032, .str "ande" 1028⟩, ⟨PyData.keyHash P "substring_i", .str "substring_i" 1033, .int 6 1029⟩, ⟨PyData.keyHash P "result", .str "result" 1034, .int 1 1030⟩] 4, #[]⟩
noncomputable def o366_0 (P : Params) : Obj := ⟨.type "dict", none, .dict #[⟨PyData.keyHash P "s", .str "s" 1049, .str "arne" 1041⟩, ⟨PyData.keyHash P "substring_i", .str "substring_i" 1051, .int 6 1042⟩, ⟨PyData.keyHash P "result", .str "result" 1053, .int 1 1043⟩] 3, #[]⟩
noncomputable def o367_0 (P : Params) : Obj := ⟨.ref 218, some 366, .plain, #[]⟩
noncomputable def o368_0 (P : Params) : Obj := ⟨.type "frame", none, .dict #[⟨PyData.keyHash P "self", .str "self" 1044, .ref 367⟩, ⟨PyData.keyHash P "s", .str "s" 1045, .str "arne" 1041⟩, ⟨PyData.keyHash P "substring_i", .str "substring_i" 1046, .int 6 1042⟩, ⟨PyData.keyHash P "result", .str "result" 1047, .int 1 1043⟩] 4, #[]⟩
noncomputable def o369_0 (P : Params) : Obj := ⟨.type "dict", none, .dict #[⟨PyData.keyHash P "s", .str "s" 1062, .str "are" 1054⟩, ⟨PyData.keyHash P "substring_i", .str "substring_i" 1064, .int 6 1055⟩, ⟨PyData.keyHash P "result", .str "result" 1066, .int 1 1056⟩] 3, #[]⟩
noncomputable def o370_0 (P : Params) : Obj := ⟨.ref 218, some 369, .plain, #[]⟩
noncomputable def o371_0 (P : Params) : Obj := ⟨.type "frame", none, .dict #[⟨PyData.keyHash P "self", .str "self" 1057, .ref 370⟩, ⟨PyData.keyHash P "s", .str "s" 1058, .str "are" 1054⟩, ⟨PyData.keyHash P "substring_i", .str "substring_i" 1059, .int 6 1055⟩, ⟨PyData.keyHash P "result", .str "result" 1060, .int 1 1056⟩] 4, #[]⟩
noncomputable def o372_0 (P : Params) : Obj := ⟨.type "dict", none, .dict #[⟨PyData.keyHash P "s", .str "s" 1075, .str "aste" 1067⟩, ⟨PyData.keyHash P "substring_i", .str "substring_i" 1077, .int 6 1068⟩, ⟨PyData.keyHash P "result", .str "result" 1079, .int 1 1069⟩] 3, #[]⟩
noncomputable def o373_0 (P : Params) : Obj := ⟨.ref 218, some 372, .plain, #[]⟩
noncomputable def o374_0 (P : Params) : Obj := ⟨.type "frame", none, .dict #[⟨PyData.keyHash P "self", .str "self" 1070, .ref 373⟩, ⟨PyData.keyHash P "s", .str "s" 1071, .str "aste" 1067⟩, ⟨PyData.keyHash P "substring_i", .str "substring_i" 1072, .int 6 1068⟩, ⟨PyData.keyHash P "result", .str "result" 1073, .int 1 1069⟩] 4, #[]⟩
noncomputable def o375_0 (P : Params) : Obj := ⟨.type "dict", none, .dict #[⟨PyData.keyHash P "s", .str "s" 1089, .str "en" 1080⟩, ⟨PyData.keyHash P "substring_i", .str "substring_i" 1091, .int (-1) 1082⟩, ⟨PyData.keyHash P "result", .str "result" 1093, .int 1 1083⟩] 3, #[]⟩
noncomputable def o376_0 (P : Params) : Obj := ⟨.ref 218, some 375, .plain, #[]⟩
noncomputable def o377_0 (P : Params) : Obj := ⟨.type "frame", none, .dict #[⟨PyData.keyHash P "self", .str "self" 1084, .ref 376⟩, ⟨PyData.keyHash P "s", .str "s" 1085, .str "en" 1080⟩, ⟨PyData.keyHash P "substring_i", .str "substring_i" 1086, .int (-1) 1082⟩, ⟨PyData.keyHash P "result", .str "result" 1087, .int 1 1083⟩] 4, #[]⟩
noncomputable def o378_0 (P : Params) : Obj := ⟨.type "dict", none, .dict #[⟨PyData.keyHash P "s", .str "s" 1102, .str "anden" 1094⟩, ⟨PyData.keyHash P "substring_i", .str "substring_i" 1104, .int 12 1095⟩, ⟨PyData.keyHash P "result", .str "result" 1106, .int 1 1096⟩] 3, #[]⟩
noncomputable def o379_0 (P : Params) : Obj := ⟨.ref 218, some 378, .plain, #[]⟩
noncomputable def o380_0 (P : Params) : Obj := ⟨.type "frame", none, .dict #[⟨PyData.keyHash P "self", .str "self" 1097, .ref 379⟩, ⟨PyData.keyHash P "s", .str "s" 1098, .str "anden" 1094⟩, ⟨PyData.keyHash P "substring_i", .str "substring_i" 1099, .int 12 1095⟩, ⟨PyData.keyHash P "result", .str "result" 1100, .int 1 1096⟩] 4, #[]⟩
noncomputable def o381_0 (P : Params) : Obj := ⟨.type "dict", none, .dict #[⟨PyData.keyHash P "s", .str "s" 1115, .str "aren" 1107⟩, ⟨PyData.keyHash P "substring_i", .str "substring_i" 1117, .int 12 1108⟩, ⟨PyData.keyHash P "result", .str "result" 1119, .int 1 1109⟩] 3, #[]⟩
noncomputable def o382_0 (P : Params) : Obj := ⟨.ref 218, some 381, .plain, #[]⟩
noncomputable def o383_0 (P : Params) : Obj := ⟨.type "frame", none, .dict #[⟨PyData.keyHash P "self", .str "self" 1110, .ref 382⟩, ⟨PyData.keyHash P "s", .str "s" 1111, .str "aren" 1107⟩, ⟨PyData.keyHash P "substring_i", .str "substring_i" 1112, .int 12 1108⟩, ⟨PyData.keyHash P "result", .str "result" 1113, .int 1 1109⟩] 4, #[]⟩
noncomputable def o384_0 (P : Params) : Obj := ⟨.type "dict", none, .dict #[⟨PyData.keyHash P "s", .str "s" 1128, .str "heten" 1120⟩, ⟨PyData.keyHash P "substring_i", .str "substring_i" 1130, .int 12 1121⟩, ⟨PyData.keyHash P "result", .str "result" 1132, .int 1 1122⟩] 3, #[]⟩
noncomputable def o385_0 (P : Params) : Obj := ⟨.ref 218, some 384, .plain, #[]⟩
noncomputable def o386_0 (P : Params) : Obj := ⟨.type "frame", none, .dict #[⟨PyData.keyHash P "self", .str "self" 1123, .ref 385⟩, ⟨PyData.keyHash P "s", .str "s" 1124, .str "heten" 1120⟩, ⟨PyData.keyHash P "substring_i", .str "substring_i" 1125, .int 12 1121⟩, ⟨PyData.keyHash P "result", .str "result" 1126, .int 1 1122⟩] 4, #[]⟩
noncomputable def o387_0 (P : Params) : Obj := ⟨.type "dict", none, .dict #[⟨PyData.keyHash P "s", .str "s" 1142, .str "ern" 1133⟩, ⟨PyData.keyHash P "substring_i", .str "substring_i" 1144, .int (-1) 1135⟩, ⟨PyData.keyHash P "result", .str "result" 1146, .int 1 1136⟩] 3, #[]⟩
noncomputable def o388_0 (P : Params) : Obj := ⟨.ref 218, some 387, .plain, #[]⟩
noncomputable def o389_0 (P : Params) : Obj := ⟨.type "frame", none, .dict #[⟨PyData.keyHash P "self", .str "self" 1137, .ref 388⟩, ⟨PyData.keyHash P "s", .str "s" 1138, .str "ern" 1133⟩, ⟨PyData.keyHash P "substring_i", .str "substring_i" 1139, .int (-1) 1135⟩, ⟨PyData.keyHash P "result", .str "result" 1140, .int 1 1136⟩] 4, #[]⟩
noncomputable def o390_0 (P : Params) : Obj := ⟨.type "dict", none, .dict #[⟨PyData.keyHash P "s", .str "s" 1156, .str "ar" 1147⟩, ⟨PyData.keyHash P "substring_i", .str "substring_i" 1158, .int (-1) 1149⟩, ⟨PyData.keyHash P "result", .str "result" 1160, .int 1 1150⟩] 3, #[]⟩
noncomputable def o391_0 (P : Params) : Obj := ⟨.ref 218, some 390, .plain, #[]⟩
noncomputable def o392_0 (P : Params) : Obj := ⟨.type "frame", none, .dict #[⟨PyData.keyHash P "self", .str "self" 1151, .ref 391⟩, ⟨PyData.keyHash P "s", .str "s" 1152, .str "ar" 1147⟩, ⟨PyData.keyHash P "substring_i", .str "substring_i" 1153, .int (-1) 1149⟩, ⟨PyData.keyHash P "result", .str "result" 1154, .int 1 1150⟩] 4, #[]⟩
noncomputable def o393_0 (P : Params) : Obj := ⟨.type "dict", none, .dict #[⟨PyData.keyHash P "s", .str "s" 1170, .str "er" 1161⟩, ⟨PyData.keyHash P "substring_i", .str "substring_i" 1172, .int (-1) 1163⟩, ⟨PyData.keyHash P "result", .str "result" 1174, .int 1 1164⟩] 3, #[]⟩
noncomputable def o394_0 (P : Params) : Obj := ⟨.ref 218, some 393, .plain, #[]⟩
noncomputable def o395_0 (P : Params) : Obj := ⟨.type "frame", none, .dict #[⟨PyData.keyHash P "self", .str "self" 1165, .ref 394⟩, ⟨PyData.keyHash P "s", .str "s" 1166, .str "er" 1161⟩, ⟨PyData.keyHash P "substring_i", .str "substring_i" 1167, .int (-1) 1163⟩, ⟨PyData.keyHash P "result", .str "result" 1168, .int 1 1164⟩] 4, #[]⟩
noncomputable def o396_0 (P : Params) : Obj := ⟨.type "dict", none, .dict #[⟨PyData.keyHash P "s", .str "s" 1183, .str "heter" 1175⟩, ⟨PyData.keyHash P "substring_i", .str "substring_i" 1185, .int 18 1176⟩, ⟨PyData.keyHash P "result", .str "result" 1187, .int 1 1177⟩] 3, #[]⟩
noncomputable def o397_0 (P : Params) : Obj := ⟨.ref 218, some 396, .plain, #[]⟩
noncomputable def o398_0 (P : Params) : Obj := ⟨.type "frame", none, .dict #[⟨PyData.keyHash P "self", .str "self" 1178, .ref 397⟩, ⟨PyData.keyHash P "s", .str "s" 1179, .str "heter" 1175⟩, ⟨PyData.keyHash P "substring_i", .str "substring_i" 1180, .int 18 1176⟩, ⟨PyData.keyHash P "result", .str "result" 1181, .int 1 1177⟩] 4, #[]⟩
noncomputable def o399_0 (P : Params) : Obj := ⟨.type "dict", none, .dict #[⟨PyData.keyHash P "s", .str "s" 1197, .str "or" 1188⟩, ⟨PyData.keyHash P "substring_i", .str "substring_i" 1199, .int (-1) 1190⟩, ⟨PyData.keyHash P "result", .str "result" 1201, .int 1 1191⟩] 3, #[]⟩
noncomputable def o400_0 (P : Params) : Obj := ⟨.ref 218, some 399, .plain, #[]⟩
noncomputable def o401_0 (P : Params) : Obj := ⟨.type "frame", none, .dict #[⟨PyData.keyHash P "self", .str "self" 1192, .ref 400⟩, ⟨PyData.keyHash P "s", .str "s" 1193, .str "or" 1188⟩, ⟨PyData.keyHash P "substring_i", .str "substring_i" 1194, .int (-1) 1190⟩, ⟨PyData.keyHash P "result", .str "result" 1195, .int 1 1191⟩] 4, #[]⟩
noncomputable def o402_0 (P : Params) : Obj := ⟨.type "dict", none, .dict #[⟨PyData.keyHash P "s", .str "s" 1211, .str "s" 1202⟩, ⟨PyData.keyHash P "substring_i", .str "substring_i" 1213, .int (-1) 1204⟩, ⟨PyData.keyHash P "result", .str "result" 1215, .int 2 1205⟩] 3, #[]⟩
noncomputable def o403_0 (P : Params) : Obj := ⟨.ref 218, some 402, .plain, #[]⟩
noncomputable def o404_0 (P : Params) : Obj := ⟨.type "frame", none, .dict #[⟨PyData.keyHash P "self", .str "self" 1206, .ref 403⟩, ⟨PyData.keyHash P "s", .str "s" 1207, .str "s" 1202⟩, ⟨PyData.keyHash P "substring_i", .str "substring_i" 1208, .int (-1) 1204⟩, ⟨PyData.keyHash P "result", .str "result" 1209, .int 2 1205⟩] 4, #[]⟩
noncomputable def o405_0 (P : Params) : Obj := ⟨.type "dict", none, .dict #[⟨PyData.keyHash P "s", .str "s" 1224, .str "as" 1216⟩, ⟨PyData.keyHash P "substring_i", .str "substring_i" 1226, .int 21 1217⟩, ⟨PyData.keyHash P "result", .str "result" 1228, .int 1 1218⟩] 3, #[]⟩
noncomputable def o406_0 (P : Params) : Obj := ⟨.ref 218, some 405, .plain, #[]⟩
noncomputable def o407_0 (P : Params) : Obj := ⟨.type "frame", none, .dict #[⟨PyData.keyHash P "self", .str "self" 1219, .ref 406⟩, ⟨PyData.keyHash P "s", .str "s" 1220, .str "as" 1216⟩, ⟨PyData.keyHash P "substring_i", .str "substring_i" 1221, .int 21 1217⟩, ⟨PyData.keyHash P "result", .str "result" 1222, .int 1 1218⟩] 4, #[]⟩
noncomputable def o408_0 (P : Params) : Obj := ⟨.type "dict", none, .dict #[⟨PyData.keyHash P "s", .str "s" 1237, .str "arnas" 1229⟩, ⟨PyData.keyHash P "substring_i", .str "substring_i" 1239, .int 22 1230⟩, ⟨PyData.keyHash P "result", .str "result" 1241, .int 1 1231⟩] 3, #[]⟩
noncomputable def o409_0 (P : Params) : Obj := ⟨.ref 218, some 408, .plain, #[]⟩
noncomputable def o410_0 (P : Params) : Obj := ⟨.type "frame", none, .dict #[⟨PyData.keyHash P "self", .str "self" 1232, .ref 409⟩, ⟨PyData.keyHash P "s", .str "s" 1233, .str "arnas" 1229⟩, ⟨PyData.keyHash P "substring_i", .str "substring_i" 1234, .int 22 1230⟩, ⟨PyData.keyHash P "result", .str "result" 1235, .int 1 1231⟩] 4, #[]⟩
noncomputable def o411_0 (P : Params) : Obj := ⟨.type "dict", none, .dict #[⟨PyData.keyHash P "s", .str "s" 1250, .str "ernas" 1242⟩, ⟨PyData.keyHash P "substring_i", .str "substring_i" 1252, .int 22 1243⟩, ⟨PyData.keyHash P "result", .str "result" 1254, .int 1 1244⟩] 3, #[]⟩
noncomputable def o412_0 (P : Params) : Obj := ⟨.ref 218, some 411, .plain, #[]⟩
noncomputable def o413_0 (P : Params) : Obj := ⟨.type "frame", none, .dict #[⟨PyData.keyHash P "self", .str "self" 1245, .ref 412⟩, ⟨PyData.keyHash P "s", .str "s" 1246, .str "ernas" 1242⟩, ⟨PyData.keyHash P "substring_i", .str "substring_i" 1247, .int 22 1243⟩, ⟨PyData.keyHash P "result", .str "result" 1248, .int 1 1244⟩] 4, #[]⟩
noncomputable def o414_0 (P : Params) : Obj := ⟨.type "dict", none, .dict #[⟨PyData.keyHash P "s", .str "s" 1263, .str "ornas" 1255⟩, ⟨PyData.keyHash P "substring_i", .str "substring_i" 1265, .int 22 1256⟩, ⟨PyData.keyHash P "result", .str "result" 1267, .int 1 1257⟩] 3, #[]⟩
noncomputable def o415_0 (P : Params) : Obj := ⟨.ref 218, some 414, .plain, #[]⟩
noncomputable def o416_0 (P : Params) : Obj := ⟨.type "frame", none, .dict #[⟨PyData.keyHash P "self", .str "self" 1258, .ref 415⟩, ⟨PyData.keyHash P "s", .str "s" 1259, .str "ornas" 1255⟩, ⟨PyData.keyHash P "substring_i", .str "substring_i" 1260, .int 22 1256⟩, ⟨PyData.keyHash P "result", .str "result" 1261, .int 1 1257⟩] 4, #[]⟩
noncomputable def o417_0 (P : Params) : Obj := ⟨.type "dict", none, .dict #[⟨PyData.keyHash P "s", .str "s" 1276, .str "es" 1268⟩, ⟨PyData.keyHash P "substring_i", .str "substring_i" 1278, .int 21 1269⟩, ⟨PyData.keyHash P "result", .str "result" 1280, .int 1 1270⟩] 3, #[]⟩
noncomputable def o418_0 (P : Params) : Obj := ⟨.ref 218, some 417, .plain, #[]⟩
noncomputable def o419_0 (P : Params) : Obj := ⟨.type "frame", none, .dict #[⟨PyData.keyHash P "self", .str "self" 1271, .ref 418⟩, ⟨PyData.keyHash P "s", .str "s" 1272, .str "es" 1268⟩, ⟨PyData.keyHash P "substring_i", .str "substring_i" 1273, .int 21 1269⟩, ⟨PyData.keyHash P "result", .str "result" 1274, .int 1 1270⟩] 4, #[]⟩
noncomputable def o420_0 (P : Params) : Obj := ⟨.type "dict", none, .dict #[⟨PyData.keyHash P "s", .str "s" 1289, .str "ades" 1281⟩, ⟨PyData.keyHash P "substring_i", .str "substring_i" 1291, .int 26 1282⟩, ⟨PyData.keyHash P "result", .str "result" 1293, .int 1 1283⟩] 3, #[]⟩
noncomputable def o421_0 (P : Params) : Obj := ⟨.ref 218, some 420, .plain, #[]⟩
noncomputable def o422_0 (P : Params) : Obj := ⟨.type "frame", none, .dict #[⟨PyData.keyHash P "self", .str "self" 1284, .ref 421⟩, ⟨PyData.keyHash P "s", .str "s" 1285, .str "ades" 1281⟩, ⟨PyData.keyHash P "substring_i", .str "substring_i" 1286, .int 26 1282⟩, ⟨PyData.keyHash P "result", .str "result" 1287, .int 1 1283⟩] 4, #[]⟩
noncomputable def o423_0 (P : Params) : Obj := ⟨.type "dict", none, .dict #[⟨PyData.keyHash P "s", .str "s" 1302, .str "andes" 1294⟩, ⟨PyData.keyHash P "substring_i", .str "substring_i" 1304, .int 26 1295⟩, ⟨PyData.keyHash P "result", .str "result" 1306, .int 1 1296⟩] 3, #[]⟩
noncomputable def o424_0 (P : Params) : Obj := ⟨.ref 218, some 423, .plain, #[]⟩
noncomputable def o425_0 (P : Params) : Obj := ⟨.type "frame", none, .dict #[⟨PyData.keyHash P "self", .str "self" 1297, .ref 424⟩, ⟨PyData.keyHash P "s", .str "s" 1298, .str "andes" 1294⟩, ⟨PyData.keyHash P "substring_i", .str "substring_i" 1299, .int 26 1295⟩, ⟨PyData.keyHash P "result", .str "result" 1300, .int 1 1296⟩] 4, #[]⟩
noncomputable def o426_0 (P : Params) : Obj := ⟨.type "dict", none, .dict #[⟨PyData.keyHash P "s", .str "s" 1315, .str "ens" 1307⟩, ⟨PyData.keyHash P "substring_i", .str "substring_i" 1317, .int 21 1308⟩, ⟨PyData.keyHash P "result", .str "result" 1319, .int 1 1309⟩] 3, #[]⟩
noncomputable def o427_0 (P : Params) : Obj := ⟨.ref 218, some 426, .plain, #[]⟩
noncomputable def o428_0 (P : Params) : Obj := ⟨.type "frame", none, .dict #[⟨PyData.keyHash P "self", .str "self" 1310, .ref 427⟩, ⟨PyData.keyHash P "s", .str "s" 1311, .str "ens" 1307⟩, ⟨PyData.keyHash P "substring_i", .str "substring_i" 1312, .int 21 1308⟩, ⟨PyData.keyHash P "result", .str "result" 1313, .int 1 1309⟩] 4, #[]⟩
noncomputable def o429_0 (P : Params) : Obj := ⟨.type "dict", none, .dict #[⟨PyData.keyHash P "s", .str "s" 1328, .str "arens" 1320⟩, ⟨PyData.keyHash P "substring_i", .str "substring_i" 1330, .int 29 1321⟩, ⟨PyData.keyHash P "result", .str "result" 1332, .int 1 1322⟩] 3, #[]⟩
noncomputable def o430_0 (P : Params) : Obj := ⟨.ref 218, some 429, .plain, #[]⟩
noncomputable def o431_0 (P : Params) : Obj := ⟨.type "frame", none, .dict #[⟨PyData.keyHash P "self", .str "self" 1323, .ref 430⟩, ⟨PyData.keyHash P "s", .str "s" 1324, .str "arens" 1320⟩, ⟨PyData.keyHash P "substring_i", .str "substring_i" 1325, .int 29 1321⟩, ⟨PyData.keyHash P "result", .str "result" 1326, .int 1 1322⟩] 4, #[]⟩
noncomputable def o432_0 (P : Params) : Obj := ⟨.type "dict", none, .dict #[⟨PyData.keyHash P "s", .str "s" 1341, .str "hetens" 1333⟩, ⟨PyData.keyHash P "substring_i", .str "substring_i" 1343, .int 29 1334⟩, ⟨PyData.keyHash P "result", .str "result" 1345, .int 1 1335⟩] 3, #[]⟩
noncomputable def o433_0 (P : Params) : Obj := ⟨.ref 218, some 432, .plain, #[]⟩
noncomputable def o434_0 (P : Params) : Obj := ⟨.type "frame", none, .dict #[⟨PyData.keyHash P "self", .str "self" 1336, .ref 433⟩, ⟨PyData.keyHash P "s", .str "s" 1337, .str "hetens" 1333⟩, ⟨PyData.keyHash P "substring_i", .str "substring_i" 1338, .int 29 1334⟩, ⟨PyData.keyHash P "result", .str "result" 1339, .int 1 1335⟩] 4, #[]⟩
noncomputable def o435_0 (P : Params) : Obj := ⟨.type "dict", none, .dict #[⟨PyData.keyHash P "s", .str "s" 1354, .str "erns" 1346⟩, ⟨PyData.keyHash P "substring_i", .str "substring_i" 1356, .int 21 1347⟩, ⟨PyData.keyHash P "result", .str "result" 1358, .int 1 1348⟩] 3, #[]⟩
noncomputable def o436_0 (P : Params) : Obj := ⟨.ref 218, some 435, .plain, #[]⟩
noncomputable def o437_0 (P : Params) : Obj := ⟨.type "frame", none, .dict #[⟨PyData.keyHash P "self", .str "self" 1349, .ref 436⟩, ⟨PyData.keyHash P "s", .str "s" 1350, .str "erns" 1346⟩, ⟨PyData.keyHash P "substring_i", .str "substring_i" 1351, .int 21 1347⟩, ⟨PyData.keyHash P "result", .str "result" 1352, .int 1 1348⟩] 4, #[]⟩
noncomputable def o438_0 (P : Params) : Obj := ⟨.type "dict", none, .dict #[⟨PyData.keyHash P "s", .str "s" 1368, .str "at" 1359⟩, ⟨PyData.keyHash P "substring_i", .str "substring_i" 1370, .int (-1) 1361⟩, ⟨PyData.keyHash P "result", .str "result" 1372, .int 1 1362⟩] 3, #[]⟩
noncomputable def o439_0 (P : Params) : Obj := ⟨.ref 218, some 438, .plain, #[]⟩
noncomputable def o440_0 (P : Params) : Obj := ⟨.type "frame", none, .dict #[⟨PyData.keyHash P "self", .str "self" 1363, .ref 439⟩, ⟨PyData.keyHash P "s", .str "s" 1364, .str "at" 1359⟩, ⟨PyData.keyHash P "substring_i", .str "substring_i" 1365, .int (-1) 1361⟩, ⟨PyData.keyHash P "result", .str "result" 1366, .int 1 1362⟩] 4, #[]⟩
noncomputable def o441_0 (P : Params) : Obj := ⟨.type "dict", none, .dict #[⟨PyData.keyHash P "s", .str "s" 1382, .str "et" 1373⟩, ⟨PyData.keyHash P "substring_i", .str "substring_i" 1384, .int (-1) 1375⟩, ⟨PyData.keyHash P "result", .str "result" 1386, .int 3 1376⟩] 3, #[]⟩
noncomputable def o442_0 (P : Params) : Obj := ⟨.ref 218, some 441, .plain, #[]⟩
noncomputable def o443_0 (P : Params) : Obj := ⟨.type "frame", none, .dict #[⟨PyData.keyHash P "self", .str "self" 1377, .ref 442⟩, ⟨PyData.keyHash P "s", .str "s" 1378, .str "et" 1373⟩, ⟨PyData.keyHash P "substring_i", .str "substring_i" 1379, .int (-1) 1375⟩, ⟨PyData.keyHash P "result", .str "result" 1380, .int 3 1376⟩] 4, #[]⟩
noncomputable def o444_0 (P : Params) : Obj := ⟨.type "dict", none, .dict #[⟨PyData.keyHash P "s", .str "s" 1395, .str "andet" 1387⟩, ⟨PyData.keyHash P "substring_i", .str "substring_i" 1397, .int 34 1388⟩, ⟨PyData.keyHash P "result", .str "result" 1399, .int 1 1389⟩] 3, #[]⟩
noncomputable def o445_0 (P : Params) : Obj := ⟨.ref 218, some 444, .plain, #[]⟩
noncomputable def o446_0 (P : Params) : Obj := ⟨.type "frame", none, .dict #[⟨PyData.keyHash P "self", .str "self" 1390, .ref 445⟩, ⟨PyData.keyHash P "s", .str "s" 1391, .str "andet" 1387⟩, ⟨PyData.keyHash P "substring_i", .str "substring_i" 1392, .int 34 1388⟩, ⟨PyData.keyHash P "result", .str "result" 1393, .int 1 1389⟩] 4, #[]⟩
noncomputable def o447_0 (P : Params) : Obj := ⟨.type "dict", none, .dict #[⟨PyData.keyHash P "s", .str "s" 1408, .str "het" 1400⟩, ⟨PyData.keyHash P "substring_i", .str "substring_i" 1410, .int 34 1401⟩, ⟨PyData.keyHash P "result", .str "result" 1412, .int 1 1402⟩] 3, #[]⟩
noncomputable def o448_0 (P : Params) : Obj := ⟨.ref 218, some 447, .plain, #[]⟩
noncomputable def o449_0 (P : Params) : Obj := ⟨.type "frame", none, .dict #[⟨PyData.keyHash P "self", .str "self" 1403, .ref 448⟩, ⟨PyData.keyHash P "s", .str "s" 1404, .str "het" 1400⟩, ⟨PyData.keyHash P "substring_i", .str "substring_i" 1405, .int 34 1401⟩, ⟨PyData.keyHash P "result", .str "result" 1406, .int 1 1402⟩] 4, #[]⟩
noncomputable def o450_0 (P : Params) : Obj := ⟨.type "dict", none, .dict #[⟨PyData.keyHash P "s", .str "s" 1422, .str "ast" 1413⟩, ⟨PyData.keyHash P "substring_i", .str "substring_i" 1424, .int (-1) 1415⟩, ⟨PyData.keyHash P "result", .str "result" 1426, .int 1 1416⟩] 3, #[]⟩
noncomputable def o451_0 (P : Params) : Obj := ⟨.ref 218, some 450, .plain, #[]⟩
noncomputable def o452_0 (P : Params) : Obj := ⟨.type "frame", none, .dict #[⟨PyData.keyHash P "self", .str "self" 1417, .ref 451⟩, ⟨PyData.keyHash P "s", .str "s" 1418, .str "ast" 1413⟩, ⟨PyData.keyHash P "substring_i", .str "substring_i" 1419, .int (-1) 1415⟩, ⟨PyData.keyHash P "result", .str "result" 1420, .int 1 1416⟩] 4, #[]⟩
noncomputable def o453_0 (P : Params) : Obj := ⟨.type "list", none, .seq #[.ref 340, .ref 343, .ref 346, .ref 349, .ref 352, .ref 355, .ref 358, .ref 361, .ref 364, .ref 367, .ref 370, .ref 373, .ref 376, .ref 379, .ref 382, .ref 385, .ref 388, .ref 391, .ref 394, .ref 397, .ref 400, .ref 403, .ref 406, .ref 409, .ref 412, .ref 415, .ref 418, .ref 421, .ref 424, .ref 427, .ref 430, .ref 433, .ref 436, .ref 439, .ref 442, .ref 445, .ref 448, .ref 451] 0, #[]⟩
noncomputable def tr107 (P : Params) (d1 d2 d3 : SetD) : BT := (.node (o31_0 P) (.node (o63_0 P) (.node (o127_0 P) (.node (o255_0 P) .nil .nil) (.node (o383_0 P) .nil .nil)) (.node (o191_0 P) (.node (o319_0 P) .nil .nil) (.node (o447_0 P) .nil .nil))) (.node (o95_0 P) (.node (o159_0 P) (.node (o287_0 P) .nil .nil) (.node (o415_0 P) .nil .nil)) (.node (o223_0 P) (.node (o351_0 P) .nil .nil) .nil)))
noncomputable def tr108 (P : Params) (d1 d2 d3 : SetD) : BT := (.node (o47_0 P) (.node (o79_0 P) (.node (o143_0 P) (.node (o271_0 P) .nil .nil) (.node (o399_0 P) .nil .nil)) (.node (o207_0 P) (.node (o335_0 P) .nil .nil) .nil)) (.node (o111_0 P) (.node (o175_0 P) (.node (o303_0 P) .nil .nil) (.node (o431_0 P) .nil .nil)) (.node (o239_0 P) (.node (o367_0 P) .nil .nil) .nil)))
noncomputable def tr109 (P : Params) (d1 d2 d3 : SetD) : BT := (.node (o39_0 P) (.node (o71_0 P) (.node (o135_0 P) (.node (o263_0 P) .nil .nil) (.node (o391_0 P) .nil .nil)) (.node (o199_0 P) (.node (o327_0 P) .nil .nil) .nil)) (.node (o103_0 P) (.node (o167_0 P) (.node (o295_0 P) .nil .nil) (.node (o423_0 P) .nil .nil)) (.node (sO d2) (.node (o359_0 P) .nil .nil) .nil)))
noncomputable def tr110 (P : Params) (d1 d2 d3 : SetD) : BT := (.node (o55_0 P) (.node (o87_0 P) (.node (o151_0 P) (.node (o279_0 P) .nil .nil) (.node (o407_0 P) .nil .nil)) (.node (o215_0 P) (.node (o343_0 P) .nil .nil) .nil)) (.node (o119_0 P) (.node (o183_0 P) (.node (o311_0 P) .nil .nil) (.node (o439_0 P) .nil .nil)) (.node (o247_0 P) (.node (o375_0 P) .nil .nil) .nil)))
noncomputable def tr111 (P : Params) (d1 d2 d3 : SetD) : BT := (.node (o35_0 P) (.node (o67_0 P) (.node (o131_0 P) (.node (o259_0 P) .nil .nil) (.node (o387_0 P) .nil .nil)) (.node (o195_0 P) (.node (o323_0 P) .nil .nil) (.node (o451_0 P) .nil .nil))) (.node (o99_0 P) (.node (o163_0 P) (.node (o291_0 P) .nil .nil) (.node (o419_0 P) .nil .nil)) (.node (o227_1 P) (.node (o355_0 P) .nil .nil) .nil)))
noncomputable def tr112 (P : Params) (d1 d2 d3 : SetD) : BT := (.node (o51_0 P) (.node (o83_0 P) (.node (o147_0 P) (.node (o275_0 P) .nil .nil) (.node (o403_0 P) .nil .nil)) (.node (o211_0 P) (.node (o339_0 P) .nil .nil) .nil)) (.node (o115_0 P) (.node (o179_0 P) (.node (o307_0 P) .nil .nil) (.node (o435_0 P) .nil .nil)) (.node (o243_0 P) (.node (o371_0 P) .nil .nil) .nil)))
noncomputable def tr113 (P : Params) (d1 d2 d3 : SetD) : BT := (.node (o43_0 P) (.node (o75_0 P) (.node (o139_0 P) (.node (o267_0 P) .nil .nil) (.node (o395_0 P) .nil .nil)) (.node (o203_0 P) (.node (o331_0 P) .nil .nil) .nil)) (.node (o107_0 P) (.node (o171_0 P) (.node (o299_0 P) .nil .nil) (.node (o427_0 P) .nil .nil)) (.node (o235_0 P) (.node (o363_0 P) .nil .nil) .nil)))
noncomputable def tr114 (P : Params) (d1 d2 d3 : SetD) : BT := (.node (o59_0 P) (.node (o91_0 P) (.node (o155_0 P) (.node (o283_0 P) .nil .nil) (.node (o411_0 P) .nil .nil)) (.node (o219_0 P) (.node (o347_0 P) .nil .nil) .nil)) (.node (o123_0 P) (.node (o187_0 P) (.node (o315_0 P) .nil .nil) (.node (o443_0 P) .nil .nil)) (.node (o251_0 P) (.node (o379_0 P) .nil .nil) .nil)))
noncomputable def tr115 (P : Params) (d1 d2 d3 : SetD) : BT := (.node (boot_o_7 P) (.node (o15_0 P) (tr107 P d1 d2 d3) (tr108 P d1 d2 d3)) (.node (o23_0 P) (tr109 P d1 d2 d3) (tr110 P d1 d2 d3)))
noncomputable def tr116 (P : Params) (d1 d2 d3 : SetD) : BT := (.node (o33_0 P) (.node (o65_0 P) (.node (o129_0 P) (.node (o257_0 P) .nil .nil) (.node (o385_0 P) .nil .nil)) (.node (o193_0 P) (.node (o321_0 P) .nil .nil) (.node (o449_0 P) .nil .nil))) (.node (o97_0 P) (.node (o161_0 P) (.node (o289_0 P) .nil .nil) (.node (o417_0 P) .nil .nil)) (.node (o225_6 P) (.node (o353_0 P) .nil .nil) .nil)))
noncomputable def tr117 (P : Params) (d1 d2 d3 : SetD) : BT := (.node (o49_0 P) (.node (o81_0 P) (.node (o145_0 P) (.node (o273_0 P) .nil .nil) (.node (o401_0 P) .nil .nil)) (.node (o209_0 P) (.node (o337_0 P) .nil .nil) .nil)) (.node (o113_0 P) (.node (o177_0 P) (.node (o305_0 P) .nil .nil) (.node (o433_0 P) .nil .nil)) (.node (o241_0 P) (.node (o369_0 P) .nil .nil) .nil)))
noncomputable def tr118 (P : Params) (d1 d2 d3 : SetD) : BT := (.node (o41_0 P) (.node (o73_0 P) (.node (o137_0 P) (.node (o265_0 P) .nil .nil) (.node (o393_0 P) .nil .nil)) (.node (o201_0 P) (.node (o329_0 P) .nil .nil) .nil)) (.node (o105_0 P) (.node (o169_0 P) (.node (o297_0 P) .nil .nil) (.node (o425_0 P) .nil .nil)) (.node (o233_0 P) (.node (o361_0 P) .nil .nil) .nil)))
noncomputable def tr119 (P : Params) (d1 d2 d3 : SetD) : BT := (.node (o57_0 P) (.node (o89_0 P) (.node (o153_0 P) (.node (o281_0 P) .nil .nil) (.node (o409_0 P) .nil .nil)) (.node (o217_0 P) (.node (o345_0 P) .nil .nil) .nil)) (.node (o121_0 P) (.node (o185_0 P) (.node (o313_0 P) .nil .nil) (.node (o441_0 P) .nil .nil)) (.node (o249_0 P) (.node (o377_0 P) .nil .nil) .nil)))
noncomputable def tr120 (P : Params) (d1 d2 d3 : SetD) : BT := (.node (o37_0 P) (.node (o69_0 P) (.node (o133_0 P) (.node (o261_0 P) .nil .nil) (.node (o389_0 P) .nil .nil)) (.node (o197_0 P) (.node (o325_0 P) .nil .nil) (.node (o453_0 P) .nil .nil))) (.node (o101_0 P) (.node (o165_0 P) (.node (o293_0 P) .nil .nil) (.node (o421_0 P) .nil .nil)) (.node (o229_0 P) (.node (o357_0 P) .nil .nil) .nil)))
noncomputable def tr121 (P : Params) (d1 d2 d3 : SetD) : BT := (.node (o53_0 P) (.node (o85_0 P) (.node (o149_0 P) (.node (o277_0 P) .nil .nil) (.node (o405_0 P) .nil .nil)) (.node (o213_0 P) (.node (o341_0 P) .nil .nil) .nil)) (.node (o117_0 P) (.node (o181_0 P) (.node (o309_0 P) .nil .nil) (.node (o437_0 P) .nil .nil)) (.node (o245_0 P) (.node (o373_0 P) .nil .nil) .nil)))
noncomputable def tr122 (P : Params) (d1 d2 d3 : SetD) : BT := (.node (o45_0 P) (.node (o77_0 P) (.node (o141_0 P) (.node (o269_0 P) .nil .nil) (.node (o397_0 P) .nil .nil)) (.node (o205_0 P) (.node (o333_0 P) .nil .nil) .nil)) (.node (o109_0 P) (.node (o173_0 P) (.node (o301_0 P) .nil .nil) (.node (o429_0 P) .nil .nil)) (.node (o237_0 P) (.node (o365_0 P) .nil .nil) .nil)))
noncomputable def tr123 (P : Params) (d1 d2 d3 : SetD) : BT := (.node (o61_0 P) (.node (o93_0 P) (.node (o157_0 P) (.node (o285_0 P) .nil .nil) (.node (o413_0 P) .nil .nil)) (.node (o221_0 P) (.node (o349_0 P) .nil .nil) .nil)) (.node (o125_0 P) (.node (o189_0 P) (.node (o317_0 P) .nil .nil) (.node (o445_0 P) .nil .nil)) (.node (o253_0 P) (.node (o381_0 P) .nil .nil) .nil)))
noncomputable def tr124 (P : Params) (d1 d2 d3 : SetD) : BT := (.node (boot_o_9 P) (.node (o17_0 P) (tr116 P d1 d2 d3) (tr117 P d1 d2 d3)) (.node (o25_0 P) (tr118 P d1 d2 d3) (tr119 P d1 d2 d3)))
noncomputable def tr125 (P : Params) (d1 d2 d3 : SetD) : BT := (.node (o3_1 P) (tr115 P d1 d2 d3) (.node (o11_0 P) (.node (o19_0 P) (tr111 P d1 d2 d3) (tr112 P d1 d2 d3)) (.node (o27_0 P) (tr113 P d1 d2 d3) (tr114 P d1 d2 d3))))
noncomputable def tr126 (P : Params) (d1 d2 d3 : SetD) : BT := (.node (o32_0 P) (.node (o64_0 P) (.node (o128_0 P) (.node (o256_0 P) .nil .nil) (.node (o384_0 P) .nil .nil)) (.node (o192_0 P) (.node (o320_0 P) .nil .nil) (.node (o448_0 P) .nil .nil))) (.node (o96_0 P) (.node (o160_0 P) (.node (o288_0 P) .nil .nil) (.node (o416_0 P) .nil .nil)) (.node (o224_0 P) (.node (o352_0 P) .nil .nil) .nil)))
noncomputable def tr127 (P : Params) (d1 d2 d3 : SetD) : BT := (.node (o48_0 P) (.node (o80_0 P) (.node (o144_0 P) (.node (o272_0 P) .nil .nil) (.node (o400_0 P) .nil .nil)) (.node (o208_0 P) (.node (o336_0 P) .nil .nil) .nil)) (.node (o112_0 P) (.node (o176_0 P) (.node (o304_0 P) .nil .nil) (.node (o432_0 P) .nil .nil)) (.node (o240_0 P) (.node (o368_0 P) .nil .nil) .nil)))
noncomputable def tr128 (P : Params) (d1 d2 d3 : SetD) : BT := (.node (o40_0 P) (.node (o72_0 P) (.node (o136_0 P) (.node (o264_0 P) .nil .nil) (.node (o392_0 P) .nil .nil)) (.node (o200_0 P) (.node (o328_0 P) .nil .nil) .nil)) (.node (o104_0 P) (.node (o168_0 P) (.node (o296_0 P) .nil .nil) (.node (o424_0 P) .nil .nil)) (.node (sO d3) (.node (o360_0 P) .nil .nil) .nil)))
noncomputable def tr129 (P : Params) (d1 d2 d3 : SetD) : BT := (.node (o56_0 P) (.node (o88_0 P) (.node (o152_0 P) (.node (o280_0 P) .nil .nil) (.node (o408_0 P) .nil .nil)) (.node (o216_0 P) (.node (o344_0 P) .nil .nil) .nil)) (.node (o120_0 P) (.node (o184_0 P) (.node (o312_0 P) .nil .nil) (.node (o440_0 P) .nil .nil)) (.node (o248_0 P) (.node (o376_0 P) .nil .nil) .nil)))
noncomputable def tr130 (P : Params) (d1 d2 d3 : SetD) : BT := (.node (o36_0 P) (.node (o68_0 P) (.node (o132_0 P) (.node (o260_0 P) .nil .nil) (.node (o388_0 P) .nil .nil)) (.node (o196_0 P) (.node (o324_0 P) .nil .nil) (.node (o452_0 P) .nil .nil))) (.node (o100_0 P) (.node (o164_0 P) (.node (o292_0 P) .nil .nil) (.node (o420_0 P) .nil .nil)) (.node (o228_0 P) (.node (o356_0 P) .nil .nil) .nil)))
noncomputable def tr131 (P : Params) (d1 d2 d3 : SetD) : BT := (.node (o52_0 P) (.node (o84_0 P) (.node (o148_0 P) (.node (o276_0 P) .nil .nil) (.node (o404_0 P) .nil .nil)) (.node (o212_0 P) (.node (o340_0 P) .nil .nil) .nil)) (.node (o116_0 P) (.node (o180_0 P) (.node (o308_0 P) .nil .nil) (.node (o436_0 P) .nil .nil)) (.node (o244_0 P) (.node (o372_0 P) .nil .nil) .nil)))
noncomputable def tr132 (P : Params) (d1 d2 d3 : SetD) : BT := (.node (o44_0 P) (.node (o76_0 P) (.node (o140_0 P) (.node (o268_0 P) .nil .nil) (.node (o396_0 P) .nil .nil)) (.node (o204_0 P) (.node (o332_0 P) .nil .nil) .nil)) (.node (o108_0 P) (.node (o172_0 P) (.node (o300_0 P) .nil .nil) (.node (o428_0 P) .nil .nil)) (.node (o236_0 P) (.node (o364_0 P) .nil .nil) .nil)))
noncomputable def tr133 (P : Params) (d1 d2 d3 : SetD) : BT := (.node (o60_0 P) (.node (o92_0 P) (.node (o156_0 P) (.node (o284_0 P) .nil .nil) (.node (o412_0 P) .nil .nil)) (.node (o220_0 P) (.node (o348_0 P) .nil .nil) .nil)) (.node (o124_0 P) (.node (o188_0 P) (.node (o316_0 P) .nil .nil) (.node (o444_0 P) .nil .nil)) (.node (o252_0 P) (.node (o380_0 P) .nil .nil) .nil)))
noncomputable def tr134 (P : Params) (d1 d2 d3 : SetD) : BT := (.node (boot_o_8 P) (.node (o16_0 P) (tr126 P d1 d2 d3) (tr127 P d1 d2 d3)) (.node (o24_0 P) (tr128 P d1 d2 d3) (tr129 P d1 d2 d3)))
noncomputable def tr135 (P : Params) (d1 d2 d3 : SetD) : BT := (.node (o34_0 P) (.node (o66_0 P) (.node (o130_0 P) (.node (o258_0 P) .nil .nil) (.node (o386_0 P) .nil .nil)) (.node (o194_0 P) (.node (o322_0 P) .nil .nil) (.node (o450_0 P) .nil .nil))) (.node (o98_0 P) (.node (o162_0 P) (.node (o290_0 P) .nil .nil) (.node (o418_0 P) .nil .nil)) (.node (o226_0 P) (.node (o354_0 P) .nil .nil) .nil)))
noncomputable def tr136 (P : Params) (d1 d2 d3 : SetD) : BT := (.node (o50_0 P) (.node (o82_0 P) (.node (o146_0 P) (.node (o274_0 P) .nil .nil) (.node (o402_0 P) .nil .nil)) (.node (o210_0 P) (.node (o338_0 P) .nil .nil) .nil)) (.node (o114_0 P) (.node (o178_0 P) (.node (o306_0 P) .nil .nil) (.node (o434_0 P) .nil .nil)) (.node (o242_0 P) (.node (o370_0 P) .nil .nil) .nil)))
noncomputable def tr137 (P : Params) (d1 d2 d3 : SetD) : BT := (.node (o42_0 P) (.node (o74_0 P) (.node (o138_0 P) (.node (o266_0 P) .nil .nil) (.node (o394_0 P) .nil .nil)) (.node (o202_0 P) (.node (o330_0 P) .nil .nil) .nil)) (.node (o106_0 P) (.node (o170_0 P) (.node (o298_0 P) .nil .nil) (.node (o426_0 P) .nil .nil)) (.node (o234_0 P) (.node (o362_0 P) .nil .nil) .nil)))
noncomputable def tr138 (P : Params) (d1 d2 d3 : SetD) : BT := (.node (o58_0 P) (.node (o90_0 P) (.node (o154_0 P) (.node (o282_0 P) .nil .nil) (.node (o410_0 P) .nil .nil)) (.node (o218_0 P) (.node (o346_0 P) .nil .nil) .nil)) (.node (o122_0 P) (.node (o186_0 P) (.node (o314_0 P) .nil .nil) (.node (o442_0 P) .nil .nil)) (.node (o250_0 P) (.node (o378_0 P) .nil .nil) .nil)))
noncomputable def tr139 (P : Params) (d1 d2 d3 : SetD) : BT := (.node (o38_0 P) (.node (o70_0 P) (.node (o134_0 P) (.node (o262_0 P) .nil .nil) (.node (o390_0 P) .nil .nil)) (.node (o198_0 P) (.node (o326_0 P) .nil .nil) .nil)) (.node (o102_0 P) (.node (o166_0 P) (.node (o294_0 P) .nil .nil) (.node (o422_0 P) .nil .nil)) (.node (sO d1) (.node (o358_0 P) .nil .nil) .nil)))
noncomputable def tr140 (P : Params) (d1 d2 d3 : SetD) : BT := (.node (o54_0 P) (.node (o86_0 P) (.node (o150_0 P) (.node (o278_0 P) .nil .nil) (.node (o406_0 P) .nil .nil)) (.node (o214_0 P) (.node (o342_0 P) .nil .nil) .nil)) (.node (o118_0 P) (.node (o182_0 P) (.node (o310_0 P) .nil .nil) (.node (o438_0 P) .nil .nil)) (.node (o246_0 P) (.node (o374_0 P) .nil .nil) .nil)))
noncomputable def tr141 (P : Params) (d1 d2 d3 : SetD) : BT := (.node (o46_0 P) (.node (o78_0 P) (.node (o142_0 P) (.node (o270_0 P) .nil .nil) (.node (o398_0 P) .nil .nil)) (.node (o206_0 P) (.node (o334_0 P) .nil .nil) .nil)) (.node (o110_0 P) (.node (o174_0 P) (.node (o302_0 P) .nil .nil) (.node (o430_0 P) .nil .nil)) (.node (o238_0 P) (.node (o366_0 P) .nil .nil) .nil)))
noncomputable def tr142 (P : Params) (d1 d2 d3 : SetD) : BT := (.node (o62_0 P) (.node (o94_0 P) (.node (o158_0 P) (.node (o286_0 P) .nil .nil) (.node (o414_0 P) .nil .nil)) (.node (o222_0 P) (.node (o350_0 P) .nil .nil) .nil)) (.node (o126_0 P) (.node (o190_0 P) (.node (o318_0 P) .nil .nil) (.node (o446_0 P) .nil .nil)) (.node (o254_0 P) (.node (o382_0 P) .nil .nil) .nil)))
noncomputable def tr143 (P : Params) (d1 d2 d3 : SetD) : BT := (.node (boot_o_10 P) (.node (o18_0 P) (tr135 P d1 d2 d3) (tr136 P d1 d2 d3)) (.node (o26_0 P) (tr137 P d1 d2 d3) (tr138 P d1 d2 d3)))
noncomputable def tr144 (P : Params) (d1 d2 d3 : SetD) : BT := (.node (boot_o_4 P) (tr134 P d1 d2 d3) (.node (o12_2 P) (.node (o20_0 P) (tr130 P d1 d2 d3) (tr131 P d1 d2 d3)) (.node (o28_0 P) (tr132 P d1 d2 d3) (tr133 P d1 d2 d3))))
noncomputable def tr145 (P : Params) (d1 d2 d3 : SetD) : BT := (.node (boot_o_1 P) (tr125 P d1 d2 d3) (.node (boot_o_5 P) (tr124 P d1 d2 d3) (.node (o13_0 P) (.node (o21_0 P) (tr120 P d1 d2 d3) (tr121 P d1 d2 d3)) (.node (o29_0 P) (tr122 P d1 d2 d3) (tr123 P d1 d2 d3)))))
noncomputable def Tg (P : Params) (d1 d2 d3 : SetD) : BT := (.node (boot_o_0 P) (tr145 P d1 d2 d3) (.node (boot_o_2 P) (tr144 P d1 d2 d3) (.node (boot_o_6 P) (tr143 P d1 d2 d3) (.node (o14_0 P) (.node (o22_0 P) (tr139 P d1 d2 d3) (tr140 P d1 d2 d3)) (.node (o30_0 P) (tr141 P d1 d2 d3) (tr142 P d1 d2 d3))))))
noncomputable def Sg (P : Params) (os : OsState) (l : Life) (d1 d2 d3 : SetD) : SharedT := ⟨Tg P d1 d2 d3, 454, l, #[], boot_drawn, 1428, os⟩
noncomputable def o225_7 (P : Params) : Obj := ⟨.type "dict", none, .dict #[⟨PyData.keyHash P "__module__", .str "__module__" 468, .str "snowballstemmer.swedish_stemmer" 459⟩, ⟨PyData.keyHash P "__qualname__", .str "__qualname__" 470, .str "SwedishStemmer" 469⟩, ⟨PyData.keyHash P "__firstlineno__", .str "__firstlineno__" 472, .int 168 471⟩, ⟨PyData.keyHash P "g_v", .str "g_v" 491, .ref 230⟩, ⟨PyData.keyHash P "g_s_ending", .str "g_s_ending" 526, .ref 231⟩, ⟨PyData.keyHash P "g_ost_ending", .str "g_ost_ending" 545, .ref 232⟩, ⟨PyData.keyHash P "I_p1", .str "I_p1" 547, .int 0 546⟩, ⟨PyData.keyHash P "r_mark_regions", .str "r_mark_regions" 556, .ref 239⟩, ⟨PyData.keyHash P "r_et_condition", .str "r_et_condition" 565, .ref 246⟩, ⟨PyData.keyHash P "r_main_suffix", .str "r_main_suffix" 575, .ref 253⟩, ⟨PyData.keyHash P "r_consonant_pair", .str "r_consonant_pair" 584, .ref 260⟩, ⟨PyData.keyHash P "r_other_suffix", .str "r_other_suffix" 593, .ref 267⟩, ⟨PyData.keyHash P "_stem", .str "_stem" 604, .ref 274⟩, ⟨PyData.keyHash P "a_0", .str "a_0" 920, .ref 338⟩, ⟨PyData.keyHash P "a_1", .str "a_1" 1427, .ref 453⟩, ⟨PyData.keyHash P "a_2", .str "a_2" 1533, .ref 475⟩, ⟨PyData.keyHash P "a_3", .str "a_3" 1603, .ref 491⟩] 17, #[]⟩
noncomputable def o454_0 (P : Params) : Obj := ⟨.type "dict", none, .dict #[⟨PyData.keyHash P "s", .str "s" 1438, .str "dd" 1428⟩, ⟨PyData.keyHash P "substring_i", .str "substring_i" 1440, .int (-1) 1430⟩, ⟨PyData.keyHash P "result", .str "result" 1442, .int (-1) 1432⟩] 3, #[]⟩
noncomputable def o455_0 (P : Params) : Obj := ⟨.ref 218, some 454, .plain, #[]⟩
noncomputable def o456_0 (P : Params) : Obj := ⟨.type "frame", none, .dict #[⟨PyData.keyHash P "self", .str "self" 1433, .ref 455⟩, ⟨PyData.keyHash P "s", .str "s" 1434, .str "dd" 1428⟩, ⟨PyData.keyHash P "substring_i", .str "substring_i" 1435, .int (-1) 1430⟩, ⟨PyData.keyHash P "result", .str "result" 1436, .int (-1) 1432⟩] 4, #[]⟩
noncomputable def o457_0 (P : Params) : Obj := ⟨.type "dict", none, .dict #[⟨PyData.keyHash P "s", .str "s" 1453, .str "gd" 1443⟩, ⟨PyData.keyHash P "substring_i", .str "substring_i" 1455, .int (-1) 1445⟩, ⟨PyData.keyHash P "result", .str "result" 1457, .int (-1) 1447⟩] 3, #[]⟩
noncomputable def o458_0 (P : Params) : Obj := ⟨.ref 218, some 457, .plain, #[]⟩
noncomputable def o459_0 (P : Params) : Obj := ⟨.type "frame", none, .dict #[⟨PyData.keyHash P "self", .str "self" 1448, .ref 458⟩, ⟨PyData.keyHash P "s", .str "s" 1449, .str "gd" 1443⟩, ⟨PyData.keyHash P "substring_i", .str "substring_i" 1450, .int (-1) 1445⟩, ⟨PyData.keyHash P "result", .str "result" 1451, .int (-1) 1447⟩] 4, #[]⟩
noncomputable def o460_0 (P : Params) : Obj := ⟨.type "dict", none, .dict #[⟨PyData.keyHash P "s", .str "s" 1468, .str "nn" 1458⟩, ⟨PyData.keyHash P "substring_i", .str "substring_i" 1470, .int (-1) 1460⟩, ⟨PyData.keyHash P "result", .str "result" 1472, .int (-1) 1462⟩] 3, #[]⟩
noncomputable def o461_0 (P : Params) : Obj := ⟨.ref 218, some 460, .plain, #[]⟩
noncomputable def o462_0 (P : Params) : Obj := ⟨.type "frame", none, .dict #[⟨PyData.keyHash P "self", .str "self" 1463, .ref 461⟩, ⟨PyData.keyHash P "s", .str "s" 1464, .str "nn" 1458⟩, ⟨PyData.keyHash P "substring_i", .str "substring_i" 1465, .int (-1) 1460⟩, ⟨PyData.keyHash P "result", .str "result" 1466, .int (-1) 1462⟩] 4, #[]⟩
noncomputable def o463_0 (P : Params) : Obj := ⟨.type "dict", none, .dict #[⟨PyData.keyHash P "s", .str "s" 1483, .str "dt" 1473⟩, ⟨PyData.keyHash P "substring_i", .str "substring_i" 1485, .int (-1) 1475⟩, ⟨PyData.keyHash P "result", .str "result" 1487, .int (-1) 1477⟩] 3, #[]⟩
noncomputable def o464_0 (P : Params) : Obj := ⟨.ref 218, some 463, .plain, #[]⟩
noncomputable def o465_0 (P : Params) : Obj := ⟨.type "frame", none, .dict #[⟨PyData.keyHash P "self", .str "self" 1478, .ref 464⟩, ⟨PyData.keyHash P "s", .str "s" 1479, .str "dt" 1473⟩, ⟨PyData.keyHash P "substring_i", .str "substring_i" 1480, .int (-1) 1475⟩, ⟨PyData.keyHash P "result", .str "result" 1481, .int (-1) 1477⟩] 4, #[]⟩
noncomputable def o466_0 (P : Params) : Obj := ⟨.type "dict", none, .dict #[⟨PyData.keyHash P "s", .str "s" 1498, .str "gt" 1488⟩, ⟨PyData.keyHash P "substring_i", .str "substring_i" 1500, .int (-1) 1490⟩, ⟨PyData.keyHash P "result", .str "result" 1502, .int (-1) 1492⟩] 3, #[]⟩
noncomputable def o467_0 (P : Params) : Obj := ⟨.ref 218, some 466, .plain, #[]⟩
noncomputable def o468_0 (P : Params) : Obj := ⟨.type "frame", none, .dict #[⟨PyData.keyHash P "self", .str "self" 1493, .ref 467⟩, ⟨PyData.keyHash P "s", .str "s" 1494, .str "gt" 1488⟩, ⟨PyData.keyHash P "substring_i", .str "substring_i" 1495, .int (-1) 1490⟩, ⟨PyData.keyHash P "result", .str "result" 1496, .int (-1) 1492⟩] 4, #[]⟩
noncomputable def o469_0 (P : Params) : Obj := ⟨.type "dict", none, .dict #[⟨PyData.keyHash P "s", .str "s" 1513, .str "kt" 1503⟩, ⟨PyData.keyHash P "substring_i", .str "substring_i" 1515, .int (-1) 1505⟩, ⟨PyData.keyHash P "result", .str "result" 1517, .int (-1) 1507⟩] 3, #[]⟩
noncomputable def o470_0 (P : Params) : Obj := ⟨.ref 218, some 469, .plain, #[]⟩
noncomputable def o471_0 (P : Params) : Obj := ⟨.type "frame", none, .dict #[⟨PyData.keyHash P "self", .str "self" 1508, .ref 470⟩, ⟨PyData.keyHash P "s", .str "s" 1509, .str "kt" 1503⟩, ⟨PyData.keyHash P "substring_i", .str "substring_i" 1510, .int (-1) 1505⟩, ⟨PyData.keyHash P "result", .str "result" 1511, .int (-1) 1507⟩] 4, #[]⟩
noncomputable def o472_0 (P : Params) : Obj := ⟨.type "dict", none, .dict #[⟨PyData.keyHash P "s", .str "s" 1528, .str "tt" 1518⟩, ⟨PyData.keyHash P "substring_i", .str "substring_i" 1530, .int (-1) 1520⟩, ⟨PyData.keyHash P "result", .str "result" 1532, .int (-1) 1522⟩] 3, #[]⟩
noncomputable def o473_0 (P : Params) : Obj := ⟨.ref 218, some 472, .plain, #[]⟩
noncomputable def o474_0 (P : Params) : Obj := ⟨.type "frame", none, .dict #[⟨PyData.keyHash P "self", .str "self" 1523, .ref 473⟩, ⟨PyData.keyHash P "s", .str "s" 1524, .str "tt" 1518⟩, ⟨PyData.keyHash P "substring_i", .str "substring_i" 1525, .int (-1) 1520⟩, ⟨PyData.keyHash P "result", .str "result" 1526, .int (-1) 1522⟩] 4, #[]⟩
noncomputable def o475_0 (P : Params) : Obj := ⟨.type "list", none, .seq #[.ref 455, .ref 458, .ref 461, .ref 464, .ref 467, .ref 470, .ref 473] 0, #[]⟩
noncomputable def o476_0 (P : Params) : Obj := ⟨.type "dict", none, .dict #[⟨PyData.keyHash P "s", .str "s" 1543, .str "ig" 1534⟩, ⟨PyData.keyHash P "substring_i", .str "substring_i" 1545, .int (-1) 1536⟩, ⟨PyData.keyHash P "result", .str "result" 1547, .int 1 1537⟩] 3, #[]⟩
noncomputable def o477_0 (P : Params) : Obj := ⟨.ref 218, some 476, .plain, #[]⟩
noncomputable def o478_0 (P : Params) : Obj := ⟨.type "frame", none, .dict #[⟨PyData.keyHash P "self", .str "self" 1538, .ref 477⟩, ⟨PyData.keyHash P "s", .str "s" 1539, .str "ig" 1534⟩, ⟨PyData.keyHash P "substring_i", .str "substring_i" 1540, .int (-1) 1536⟩, ⟨PyData.keyHash P "result", .str "result" 1541, .int 1 1537⟩] 4, #[]⟩
noncomputable def o479_0 (P : Params) : Obj := ⟨.type "dict", none, .dict #[⟨PyData.keyHash P "s", .str "s" 1556, .str "lig" 1548⟩, ⟨PyData.keyHash P "substring_i", .str "substring_i" 1558, .int 0 1549⟩, ⟨PyData.keyHash P "result", .str "result" 1560, .int 1 1550⟩] 3, #[]⟩
noncomputable def o480_0 (P : Params) : Obj := ⟨.ref 218, some 479, .plain, #[]⟩
noncomputable def o481_0 (P : Params) : Obj := ⟨.type "frame", none, .dict #[⟨PyData.keyHash P "self", .str "self" 1551, .ref 480⟩, ⟨PyData.keyHash P "s", .str "s" 1552, .str "lig" 1548⟩, ⟨PyData.keyHash P "substring_i", .str "substring_i" 1553, .int 0 1549⟩, ⟨PyData.keyHash P "result", .str "result" 1554, .int 1 1550⟩] 4, #[]⟩
noncomputable def o482_0 (P : Params) : Obj := ⟨.type "dict", none, .dict #[⟨PyData.keyHash P "s", .str "s" 1570, .str "els" 1561⟩, ⟨PyData.keyHash P "substring_i", .str "substring_i" 1572, .int (-1) 1563⟩, ⟨PyData.keyHash P "result", .str "result" 1574, .int 1 1564⟩] 3, #[]⟩
noncomputable def o483_0 (P : Params) : Obj := ⟨.ref 218, some 482, .plain, #[]⟩
noncomputable def o484_0 (P : Params) : Obj := ⟨.type "frame", none, .dict #[⟨PyData.keyHash P "self", .str "self" 1565, .ref 483⟩, ⟨PyData.keyHash P "s", .str "s" 1566, .str "els" 1561⟩, ⟨PyData.keyHash P "substring_i", .str "substring_i" 1567, .int (-1) 1563⟩, ⟨PyData.keyHash P "result", .str "result" 1568, .int 1 1564⟩] 4, #[]⟩
noncomputable def o485_0 (P : Params) : Obj := ⟨.type "dict", none, .dict #[⟨PyData.keyHash P "s", .str "s" 1584, .str "fullt" 1575⟩, ⟨PyData.keyHash P "substring_i", .str "substring_i" 1586, .int (-1) 1577⟩, ⟨PyData.keyHash P "result", .str "result" 1588, .int 3 1578⟩] 3, #[]⟩
noncomputable def o486_0 (P : Params) : Obj := ⟨.ref 218, some 485, .plain, #[]⟩
noncomputable def o487_0 (P : Params) : Obj := ⟨.type "frame", none, .dict #[⟨PyData.keyHash P "self", .str "self" 1579, .ref 486⟩, ⟨PyData.keyHash P "s", .str "s" 1580, .str "fullt" 1575⟩, ⟨PyData.keyHash P "substring_i", .str "substring_i" 1581, .int (-1) 1577⟩, ⟨PyData.keyHash P "result", .str "result" 1582, .int 3 1578⟩] 4, #[]⟩
noncomputable def o488_0 (P : Params) : Obj := ⟨.type "dict", none, .dict #[⟨PyData.keyHash P "s", .str "s" 1598, .str "öst" 1589⟩, ⟨PyData.keyHash P "substring_i", .str "substring_i" 1600, .int (-1) 1591⟩, ⟨PyData.keyHash P "result", .str "result" 1602, .int 2 1592⟩] 3, #[]⟩
noncomputable def o489_0 (P : Params) : Obj := ⟨.ref 218, some 488, .plain, #[]⟩
noncomputable def o490_0 (P : Params) : Obj := ⟨.type "frame", none, .dict #[⟨PyData.keyHash P "self", .str "self" 1593, .ref 489⟩, ⟨PyData.keyHash P "s", .str "s" 1594, .str "öst" 1589⟩, ⟨PyData.keyHash P "substring_i", .str "substring_i" 1595, .int (-1) 1591⟩, ⟨PyData.keyHash P "result", .str "result" 1596, .int 2 1592⟩] 4, #[]⟩
noncomputable def o491_0 (P : Params) : Obj := ⟨.type "list", none, .seq #[.ref 477, .ref 480, .ref 483, .ref 486, .ref 489] 0, #[]⟩
noncomputable def tr146 (P : Params) (d1 d2 d3 : SetD) : BT := (.node (o63_0 P) (.node (o127_0 P) (.node (o255_0 P) .nil .nil) (.node (o383_0 P) .nil .nil)) (.node (o191_0 P) (.node (o319_0 P) .nil .nil) (.node (o447_0 P) .nil .nil)))
noncomputable def tr147 (P : Params) (d1 d2 d3 : SetD) : BT := (.node (o47_0 P) (.node (o79_0 P) (.node (o143_0 P) (.node (o271_0 P) .nil .nil) (.node (o399_0 P) .nil .nil)) (.node (o207_0 P) (.node (o335_0 P) .nil .nil) (.node (o463_0 P) .nil .nil))) (.node (o111_0 P) (.node (o175_0 P) (.node (o303_0 P) .nil .nil) (.node (o431_0 P) .nil .nil)) (.node (o239_0 P) (.node (o367_0 P) .nil .nil) .nil)))
noncomputable def tr148 (P : Params) (d1 d2 d3 : SetD) : BT := (.node (o71_0 P) (.node (o135_0 P) (.node (o263_0 P) .nil .nil) (.node (o391_0 P) .nil .nil)) (.node (o199_0 P) (.node (o327_0 P) .nil .nil) (.node (o455_0 P) .nil .nil)))
noncomputable def tr149 (P : Params) (d1 d2 d3 : SetD) : BT := (.node (o55_0 P) (.node (o87_0 P) (.node (o151_0 P) (.node (o279_0 P) .nil .nil) (.node (o407_0 P) .nil .nil)) (.node (o215_0 P) (.node (o343_0 P) .nil .nil) (.node (o471_0 P) .nil .nil))) (.node (o119_0 P) (.node (o183_0 P) (.node (o311_0 P) .nil .nil) (.node (o439_0 P) .nil .nil)) (.node (o247_0 P) (.node (o375_0 P) .nil .nil) .nil)))
noncomputable def tr150 (P : Params) (d1 d2 d3 : SetD) : BT := (.node (o15_0 P) (.node (o31_0 P) (tr146 P d1 d2 d3) (.node (o95_0 P) (.node (o159_0 P) (.node (o287_0 P) .nil .nil) (.node (o415_0 P) .nil .nil)) (.node (o223_0 P) (.node (o351_0 P) .nil .nil) (.node (o479_0 P) .nil .nil)))) (tr147 P d1 d2 d3))
noncomputable def tr151 (P : Params) (d1 d2 d3 : SetD) : BT := (.node (o67_0 P) (.node (o131_0 P) (.node (o259_0 P) .nil .nil) (.node (o387_0 P) .nil .nil)) (.node (o195_0 P) (.node (o323_0 P) .nil .nil) (.node (o451_0 P) .nil .nil)))
noncomputable def tr152 (P : Params) (d1 d2 d3 : SetD) : BT := (.node (o51_0 P) (.node (o83_0 P) (.node (o147_0 P) (.node (o275_0 P) .nil .nil) (.node (o403_0 P) .nil .nil)) (.node (o211_0 P) (.node (o339_0 P) .nil .nil) (.node (o467_0 P) .nil .nil))) (.node (o115_0 P) (.node (o179_0 P) (.node (o307_0 P) .nil .nil) (.node (o435_0 P) .nil .nil)) (.node (o243_0 P) (.node (o371_0 P) .nil .nil) .nil)))
noncomputable def tr153 (P : Params) (d1 d2 d3 : SetD) : BT := (.node (o75_0 P) (.node (o139_0 P) (.node (o267_0 P) .nil .nil) (.node (o395_0 P) .nil .nil)) (.node (o203_0 P) (.node (o331_0 P) .nil .nil) (.node (o459_0 P) .nil .nil)))
noncomputable def tr154 (P : Params) (d1 d2 d3 : SetD) : BT := (.node (o59_0 P) (.node (o91_0 P) (.node (o155_0 P) (.node (o283_0 P) .nil .nil) (.node (o411_0 P) .nil .nil)) (.node (o219_0 P) (.node (o347_0 P) .nil .nil) (.node (o475_0 P) .nil .nil))) (.node (o123_0 P) (.node (o187_0 P) (.node (o315_0 P) .nil .nil) (.node (o443_0 P) .nil .nil)) (.node (o251_0 P) (.node (o379_0 P) .nil .nil) .nil)))
noncomputable def tr155 (P : Params) (d1 d2 d3 : SetD) : BT := (.node (o19_0 P) (.node (o35_0 P) (tr151 P d1 d2 d3) (.node (o99_0 P) (.node (o163_0 P) (.node (o291_0 P) .nil .nil) (.node (o419_0 P) .nil .nil)) (.node (o227_1 P) (.node (o355_0 P) .nil .nil) (.node (o483_0 P) .nil .nil)))) (tr152 P d1 d2 d3))
noncomputable def tr156 (P : Params) (d1 d2 d3 : SetD) : BT := (.node (boot_o_7 P) (tr150 P d1 d2 d3) (.node (o23_0 P) (.node (o39_0 P) (tr148 P d1 d2 d3) (.node (o103_0 P) (.node (o167_0 P) (.node (o295_0 P) .nil .nil) (.node (o423_0 P) .nil .nil)) (.node (sO d2) (.node (o359_0 P) .nil .nil) (.node (o487_0 P) .nil .nil)))) (tr149 P d1 d2 d3)))
noncomputable def tr157 (P : Params) (d1 d2 d3 : SetD) : BT := (.node (o11_0 P) (tr155 P d1 d2 d3) (.node (o27_0 P) (.node (o43_0 P) (tr153 P d1 d2 d3) (.node (o107_0 P) (.node (o171_0 P) (.node (o299_0 P) .nil .nil) (.node (o427_0 P) .nil .nil)) (.node (o235_0 P) (.node (o363_0 P) .nil .nil) (.node (o491_0 P) .nil .nil)))) (tr154 P d1 d2 d3)))
noncomputable def tr158 (P : Params) (d1 d2 d3 : SetD) : BT := (.node (o65_0 P) (.node (o129_0 P) (.node (o257_0 P) .nil .nil) (.node (o385_0 P) .nil .nil)) (.node (o193_0 P) (.node (o321_0 P) .nil .nil) (.node (o449_0 P) .nil .nil)))
noncomputable def tr159 (P : Params) (d1 d2 d3 : SetD) : BT := (.node (o49_0 P) (.node (o81_0 P) (.node (o145_0 P) (.node (o273_0 P) .nil .nil) (.node (o401_0 P) .nil .nil)) (.node (o209_0 P) (.node (o337_0 P) .nil .nil) (.node (o465_0 P) .nil .nil))) (.node (o113_0 P) (.node (o177_0 P) (.node (o305_0 P) .nil .nil) (.node (o433_0 P) .nil .nil)) (.node (o241_0 P) (.node (o369_0 P) .nil .nil) .nil)))
noncomputable def tr160 (P : Params) (d1 d2 d3 : SetD) : BT := (.node (o73_0 P) (.node (o137_0 P) (.node (o265_0 P) .nil .nil) (.node (o393_0 P) .nil .nil)) (.node (o201_0 P) (.node (o329_0 P) .nil .nil) (.node (o457_0 P) .nil .nil)))
noncomputable def tr161 (P : Params) (d1 d2 d3 : SetD) : BT := (.node (o57_0 P) (.node (o89_0 P) (.node (o153_0 P) (.node (o281_0 P) .nil .nil) (.node (o409_0 P) .nil .nil)) (.node (o217_0 P) (.node (o345_0 P) .nil .nil) (.node (o473_0 P) .nil .nil))) (.node (o121_0 P) (.node (o185_0 P) (.node (o313_0 P) .nil .nil) (.node (o441_0 P) .nil .nil)) (.node (o249_0 P) (.node (o377_0 P) .nil .nil) .nil)))
noncomputable def tr162 (P : Params) (d1 d2 d3 : SetD) : BT := (.node (o17_0 P) (.node (o33_0 P) (tr158 P d1 d2 d3) (.node (o97_0 P) (.node (o161_0 P) (.node (o289_0 P) .nil .nil) (.node (o417_0 P) .nil .nil)) (.node (o225_7 P) (.node (o353_0 P) .nil .nil) (.node (o481_0 P) .nil .nil)))) (tr159 P d1 d2 d3))
noncomputable def tr163 (P : Params) (d1 d2 d3 : SetD) : BT := (.node (o69_0 P) (.node (o133_0 P) (.node (o261_0 P) .nil .nil) (.node (o389_0 P) .nil .nil)) (.node (o197_0 P) (.node (o325_0 P) .nil .nil) (.node (o453_0 P) .nil .nil)))
noncomputable def tr164 (P : Params) (d1 d2 d3 : SetD) : BT := (.node (o53_0 P) (.node (o85_0 P) (.node (o149_0 P) (.node (o277_0 P) .nil .nil) (.node (o405_0 P) .nil .nil)) (.node (o213_0 P) (.node (o341_0 P) .nil .nil) (.node (o469_0 P) .nil .nil))) (.node (o117_0 P) (.node (o181_0 P) (.node (o309_0 P) .nil .nil) (.node (o437_0 P) .nil .nil)) (.node (o245_0 P) (.node (o373_0 P) .nil .nil) .nil)))
noncomputable def tr165 (P : Params) (d1 d2 d3 : SetD) : BT := (.node (o45_0 P) (.node (o77_0 P) (.node (o141_0 P) (.node (o269_0 P) .nil .nil) (.node (o397_0 P) .nil .nil)) (.node (o205_0 P) (.node (o333_0 P) .nil .nil) (.node (o461_0 P) .nil .nil))) (.node (o109_0 P) (.node (o173_0 P) (.node (o301_0 P) .nil .nil) (.node (o429_0 P) .nil .nil)) (.node (o237_0 P) (.node (o365_0 P) .nil .nil) .nil)))
noncomputable def tr166 (P : Params) (d1 d2 d3 : SetD) : BT := (.node (o61_0 P) (.node (o93_0 P) (.node (o157_0 P) (.node (o285_0 P) .nil .nil) (.node (o413_0 P) .nil .nil)) (.node (o221_0 P) (.node (o349_0 P) .nil .nil) (.node (o477_0 P) .nil .nil))) (.node (o125_0 P) (.node (o189_0 P) (.node (o317_0 P) .nil .nil) (.node (o445_0 P) .nil .nil)) (.node (o253_0 P) (.node (o381_0 P) .nil .nil) .nil)))
noncomputable def tr167 (P : Params) (d1 d2 d3 : SetD) : BT := (.node (o21_0 P) (.node (o37_0 P) (tr163 P d1 d2 d3) (.node (o101_0 P) (.node (o165_0 P) (.node (o293_0 P) .nil .nil) (.node (o421_0 P) .nil .nil)) (.node (o229_0 P) (.node (o357_0 P) .nil .nil) (.node (o485_0 P) .nil .nil)))) (tr164 P d1 d2 d3))
noncomputable def tr168 (P : Params) (d1 d2 d3 : SetD) : BT := (.node (boot_o_9 P) (tr162 P d1 d2 d3) (.node (o25_0 P) (.node (o41_0 P) (tr160 P d1 d2 d3) (.node (o105_0 P) (.node (o169_0 P) (.node (o297_0 P) .nil .nil) (.node (o425_0 P) .nil .nil)) (.node (o233_0 P) (.node (o361_0 P) .nil .nil) (.node (o489_0 P) .nil .nil)))) (tr161 P d1 d2 d3)))
noncomputable def tr169 (P : Params) (d1 d2 d3 : SetD) : BT := (.node (o64_0 P) (.node (o128_0 P) (.node (o256_0 P) .nil .nil) (.node (o384_0 P) .nil .nil)) (.node (o192_0 P) (.node (o320_0 P) .nil .nil) (.node (o448_0 P) .nil .nil)))
noncomputable def tr170 (P : Params) (d1 d2 d3 : SetD) : BT := (.node (o48_0 P) (.node (o80_0 P) (.node (o144_0 P) (.node (o272_0 P) .nil .nil) (.node (o400_0 P) .nil .nil)) (.node (o208_0 P) (.node (o336_0 P) .nil .nil) (.node (o464_0 P) .nil .nil))) (.node (o112_0 P) (.node (o176_0 P) (.node (o304_0 P) .nil .nil) (.node (o432_0 P) .nil .nil)) (.node (o240_0 P) (.node (o368_0 P) .nil .nil) .nil)))
noncomputable def tr171 (P : Params) (d1 d2 d3 : SetD) : BT := (.node (o72_0 P) (.node (o136_0 P) (.node (o264_0 P) .nil .nil) (.node (o392_0 P) .nil .nil)) (.node (o200_0 P) (.node (o328_0 P) .nil .nil) (.node (o456_0 P) .nil .nil)))
noncomputable def tr172 (P : Params) (d1 d2 d3 : SetD) : BT := (.node (o56_0 P) (.node (o88_0 P) (.node (o152_0 P) (.node (o280_0 P) .nil .nil) (.node (o408_0 P) .nil .nil)) (.node (o216_0 P) (.node (o344_0 P) .nil .nil) (.node (o472_0 P) .nil .nil))) (.node (o120_0 P) (.node (o184_0 P) (.node (o312_0 P) .nil .nil) (.node (o440_0 P) .nil .nil)) (.node (o248_0 P) (.node (o376_0 P) .nil .nil) .nil)))
noncomputable def tr173 (P : Params) (d1 d2 d3 : SetD) : BT := (.node (o16_0 P) (.node (o32_0 P) (tr169 P d1 d2 d3) (.node (o96_0 P) (.node (o160_0 P) (.node (o288_0 P) .nil .nil) (.node (o416_0 P) .nil .nil)) (.node (o224_0 P) (.node (o352_0 P) .nil .nil) (.node (o480_0 P) .nil .nil)))) (tr170 P d1 d2 d3))
noncomputable def tr174 (P : Params) (d1 d2 d3 : SetD) : BT := (.node (o68_0 P) (.node (o132_0 P) (.node (o260_0 P) .nil .nil) (.node (o388_0 P) .nil .nil)) (.node (o196_0 P) (.node (o324_0 P) .nil .nil) (.node (o452_0 P) .nil .nil)))
noncomputable def tr175 (P : Params) (d1 d2 d3 : SetD) : BT := (.node (o52_0 P) (.node (o84_0 P) (.node (o148_0 P) (.node (o276_0 P) .nil .nil) (.node (o404_0 P) .nil .nil)) (.node (o212_0 P) (.node (o340_0 P) .nil .nil) (.node (o468_0 P) .nil .nil))) (.node (o116_0 P) (.node (o180_0 P) (.node (o308_0 P) .nil .nil) (.node (o436_0 P) .nil .nil)) (.node (o244_0 P) (.node (o372_0 P) .nil .nil) .nil)))
noncomputable def tr176 (P : Params) (d1 d2 d3 : SetD) : BT := (.node (o44_0 P) (.node (o76_0 P) (.node (o140_0 P) (.node (o268_0 P) .nil .nil) (.node (o396_0 P) .nil .nil)) (.node (o204_0 P) (.node (o332_0 P) .nil .nil) (.node (o460_0 P) .nil .nil))) (.node (o108_0 P) (.node (o172_0 P) (.node (o300_0 P) .nil .nil) (.node (o428_0 P) .nil .nil)) (.node (o236_0 P) (.node (o364_0 P) .nil .nil) .nil)))
noncomputable def tr177 (P : Params) (d1 d2 d3 : SetD) : BT := (.node (o60_0 P) (.node (o92_0 P) (.node (o156_0 P) (.node (o284_0 P) .nil .nil) (.node (o412_0 P) .nil .nil)) (.node (o220_0 P) (.node (o348_0 P) .nil .nil) (.node (o476_0 P) .nil .nil))) (.node (o124_0 P) (.node (o188_0 P) (.node (o316_0 P) .nil .nil) (.node (o444_0 P) .nil .nil)) (.node (o252_0 P) (.node (o380_0 P) .nil .nil) .nil)))
noncomputable def tr178 (P : Params) (d1 d2 d3 : SetD) : BT := (.node (o20_0 P) (.node (o36_0 P) (tr174 P d1 d2 d3) (.node (o100_0 P) (.node (o164_0 P) (.node (o292_0 P) .nil .nil) (.node (o420_0 P) .nil .nil)) (.node (o228_0 P) (.node (o356_0 P) .nil .nil) (.node (o484_0 P) .nil .nil)))) (tr175 P d1 d2 d3))
noncomputable def tr179 (P : Params) (d1 d2 d3 : SetD) : BT := (.node (boot_o_8 P) (tr173 P d1 d2 d3) (.node (o24_0 P) (.node (o40_0 P) (tr171 P d1 d2 d3) (.node (o104_0 P) (.node (o168_0 P) (.node (o296_0 P) .nil .nil) (.node (o424_0 P) .nil .nil)) (.node (sO d3) (.node (o360_0 P) .nil .nil) (.node (o488_0 P) .nil .nil)))) (tr172 P d1 d2 d3)))
noncomputable def tr180 (P : Params) (d1 d2 d3 : SetD) : BT := (.node (o66_0 P) (.node (o130_0 P) (.node (o258_0 P) .nil .nil) (.node (o386_0 P) .nil .nil)) (.node (o194_0 P) (.node (o322_0 P) .nil .nil) (.node (o450_0 P) .nil .nil)))
noncomputable def tr181 (P : Params) (d1 d2 d3 : SetD) : BT := (.node (o50_0 P) (.node (o82_0 P) (.node (o146_0 P) (.node (o274_0 P) .nil .nil) (.node (o402_0 P) .nil .nil)) (.node (o210_0 P) (.node (o338_0 P) .nil .nil) (.node (o466_0 P) .nil .nil))) (.node (o114_0 P) (.node (o178_0 P) (.node (o306_0 P) .nil .nil) (.node (o434_0 P) .nil .nil)) (.node (o242_0 P) (.node (o370_0 P) .nil .nil) .nil)))
noncomputable def tr182 (P : Params) (d1 d2 d3 : SetD) : BT := (.node (o74_0 P) (.node (o138_0 P) (.node (o266_0 P) .nil .nil) (.node (o394_0 P) .nil .nil)) (.node (o202_0 P) (.node (o330_0 P) .nil .nil) (.node (o458_0 P) .nil .nil)))
noncomputable def tr183 (P : Params) (d1 d2 d3 : SetD) : BT := (.node (o58_0 P) (.node (o90_0 P) (.node (o154_0 P) (.node (o282_0 P) .nil .nil) (.node (o410_0 P) .nil .nil)) (.node (o218_0 P) (.node (o346_0 P) .nil .nil) (.node (o474_0 P) .nil .nil))) (.node (o122_0 P) (.node (o186_0 P) (.node (o314_0 P) .nil .nil) (.node (o442_0 P) .nil .nil)) (.node (o250_0 P) (.node (o378_0 P) .nil .nil) .nil)))
noncomputable def tr184 (P : Params) (d1 d2 d3 : SetD) : BT := (.node (o18_0 P) (.node (o34_0 P) (tr180 P d1 d2 d3) (.node (o98_0 P) (.node (o162_0 P) (.node (o290_0 P) .nil .nil) (.node (o418_0 P) .nil .nil)) (.node (o226_0 P) (.node (o354_0 P) .nil .nil) (.node (o482_0 P) .nil .nil)))) (tr181 P d1 d2 d3))
noncomputable def tr185 (P : Params) (d1 d2 d3 : SetD) : BT := (.node (o70_0 P) (.node (o134_0 P) (.node (o262_0 P) .nil .nil) (.node (o390_0 P) .nil .nil)) (.node (o198_0 P) (.node (o326_0 P) .nil .nil) (.node (o454_0 P) .nil .nil)))
noncomputable def tr186 (P : Params) (d1 d2 d3 : SetD) : BT := (.node (o54_0 P) (.node (o86_0 P) (.node (o150_0 P) (.node (o278_0 P) .nil .nil) (.node (o406_0 P) .nil .nil)) (.node (o214_0 P) (.node (o342_0 P) .nil .nil) (.node (o470_0 P) .nil .nil))) (.node (o118_0 P) (.node (o182_0 P) (.node (o310_0 P) .nil .nil) (.node (o438_0 P) .nil .nil)) (.node (o246_0 P) (.node (o374_0 P) .nil .nil) .nil)))
noncomputable def tr187 (P : Params) (d1 d2 d3 : SetD) : BT := (.node (o46_0 P) (.node (o78_0 P) (.node (o142_0 P) (.node (o270_0 P) .nil .nil) (.node (o398_0 P) .nil .nil)) (.node (o206_0 P) (.node (o334_0 P) .nil .nil) (.node (o462_0 P) .nil .nil))) (.node (o110_0 P) (.node (o174_0 P) (.node (o302_0 P) .nil .nil) (.node (o430_0 P) .nil .nil)) (.node (o238_0 P) (.node (o366_0 P) .nil .nil) .nil)))
noncomputable def tr188 (P : Params) (d1 d2 d3 : SetD) : BT := (.node (o62_0 P) (.node (o94_0 P) (.node (o158_0 P) (.node (o286_0 P) .nil .nil) (.node (o414_0 P) .nil .nil)) (.node (o222_0 P) (.node (o350_0 P) .nil .nil) (.node (o478_0 P) .nil .nil))) (.node (o126_0 P) (.node (o190_0 P) (.node (o318_0 P) .nil .nil) (.node (o446_0 P) .nil .nil)) (.node (o254_0 P) (.node (o382_0 P) .nil .nil) .nil)))
noncomputable def tr189 (P : Params) (d1 d2 d3 : SetD) : BT := (.node (o22_0 P) (.node (o38_0 P) (tr185 P d1 d2 d3) (.node (o102_0 P) (.node (o166_0 P) (.node (o294_0 P) .nil .nil) (.node (o422_0 P) .nil .nil)) (.node (sO d1) (.node (o358_0 P) .nil .nil) (.node (o486_0 P) .nil .nil)))) (tr186 P d1 d2 d3))
noncomputable def tr190 (P : Params) (d1 d2 d3 : SetD) : BT := (.node (boot_o_10 P) (tr184 P d1 d2 d3) (.node (o26_0 P) (.node (o42_0 P) (tr182 P d1 d2 d3) (.node (o106_0 P) (.node (o170_0 P) (.node (o298_0 P) .nil .nil) (.node (o426_0 P) .nil .nil)) (.node (o234_0 P) (.node (o362_0 P) .nil .nil) (.node (o490_0 P) .nil .nil)))) (tr183 P d1 d2 d3)))
noncomputable def tr191 (P : Params) (d1 d2 d3 : SetD) : BT := (.node (boot_o_4 P) (tr179 P d1 d2 d3) (.node (o12_2 P) (tr178 P d1 d2 d3) (.node (o28_0 P) (tr176 P d1 d2 d3) (tr177 P d1 d2 d3))))
noncomputable def tr192 (P : Params) (d1 d2 d3 : SetD) : BT := (.node (boot_o_1 P) (.node (o3_1 P) (tr156 P d1 d2 d3) (tr157 P d1 d2 d3)) (.node (boot_o_5 P) (tr168 P d1 d2 d3) (.node (o13_0 P) (tr167 P d1 d2 d3) (.node (o29_0 P) (tr165 P d1 d2 d3) (tr166 P d1 d2 d3)))))
noncomputable def Th (P : Params) (d1 d2 d3 : SetD) : BT := (.node (boot_o_0 P) (tr192 P d1 d2 d3) (.node (boot_o_2 P) (tr191 P d1 d2 d3) (.node (boot_o_6 P) (tr190 P d1 d2 d3) (.node (o14_0 P) (tr189 P d1 d2 d3) (.node (o30_0 P) (tr187 P d1 d2 d3) (tr188 P d1 d2 d3))))))
noncomputable def Sh (P : Params) (os : OsState) (l : Life) (d1 d2 d3 : SetD) : SharedT := ⟨Th P d1 d2 d3, 492, l, #[], boot_drawn, 1604, os⟩
noncomputable def o3_2 (P : Params) : Obj := ⟨.type "dict", none, .dict #[⟨PyData.keyHash P "__name__", .str "__name__" 165, .str "snowballstemmer.swedish_stemmer" 459⟩, ⟨PyData.keyHash P "__doc__", .str "__doc__" 166, .none⟩, ⟨PyData.keyHash P "__package__", .str "__package__" 167, .none⟩, ⟨PyData.keyHash P "__loader__", .str "__loader__" 168, .builtin "__main__.__loader__#opaque"⟩, ⟨PyData.keyHash P "__spec__", .str "__spec__" 169, .none⟩, ⟨PyData.keyHash P "__annotations__", .str "__annotations__" 170, .ref 6⟩, ⟨PyData.keyHash P "__builtins__", .str "__builtins__" 171, .ref 4⟩, ⟨PyData.keyHash P "__file__", .str "__file__" 173, .str "/claim/cut.py" 172⟩, ⟨PyData.keyHash P "__cached__", .str "__cached__" 174, .none⟩, ⟨PyData.keyHash P "_wall", .str "_wall" 193, .ref 21⟩, ⟨PyData.keyHash P "BaseStemmer", .str "BaseStemmer" 423, .ref 197⟩, ⟨PyData.keyHash P "Among", .str "Among" 458, .ref 218⟩, ⟨PyData.keyHash P "SwedishStemmer", .str "SwedishStemmer" 1612, .ref 494⟩] 13, #[]⟩
noncomputable def o197_1 (P : Params) : Obj := ⟨.type "type", none, .cls ⟨"BaseStemmer", [.type "object"], [.ref 197, .type "object"], 196, "BaseStemmer", true, [], [.ref 494], false, none, false⟩, #[none, none, (some (.str "BaseStemmer" 196)), (some (.str "BaseStemmer" 204)), (some (.builtin "object.__new__")), (some (.bool true))]⟩
noncomputable def o225_8 (P : Params) : Obj := ⟨.type "dict", none, .dict #[⟨PyData.keyHash P "__module__", .str "__module__" 468, .str "snowballstemmer.swedish_stemmer" 459⟩, ⟨PyData.keyHash P "__qualname__", .str "__qualname__" 470, .str "SwedishStemmer" 469⟩, ⟨PyData.keyHash P "__firstlineno__", .str "__firstlineno__" 472, .int 168 471⟩, ⟨PyData.keyHash P "g_v", .str "g_v" 491, .ref 230⟩, ⟨PyData.keyHash P "g_s_ending", .str "g_s_ending" 526, .ref 231⟩, ⟨PyData.keyHash P "g_ost_ending", .str "g_ost_ending" 545, .ref 232⟩, ⟨PyData.keyHash P "I_p1", .str "I_p1" 547, .int 0 546⟩, ⟨PyData.keyHash P "r_mark_regions", .str "r_mark_regions" 556, .ref 239⟩, ⟨PyData.keyHash P "r_et_condition", .str "r_et_condition" 565, .ref 246⟩, ⟨PyData.keyHash P "r_main_suffix", .str "r_main_suffix" 575, .ref 253⟩, ⟨PyData.keyHash P "r_consonant_pair", .str "r_consonant_pair" 584, .ref 260⟩, ⟨PyData.keyHash P "r_other_suffix", .str "r_other_suffix" 593, .ref 267⟩, ⟨PyData.keyHash P "_stem", .str "_stem" 604, .ref 274⟩, ⟨PyData.keyHash P "a_0", .str "a_0" 920, .ref 338⟩, ⟨PyData.keyHash P "a_1", .str "a_1" 1427, .ref 453⟩, ⟨PyData.keyHash P "a_2", .str "a_2" 1533, .ref 475⟩, ⟨PyData.keyHash P "a_3", .str "a_3" 1603, .ref 491⟩, ⟨PyData.keyHash P "__static_attributes__", .str "__static_attributes__" 1609, .ref 492⟩] 18, #[]⟩
noncomputable def o492_0 (P : Params) : Obj := ⟨.type "tuple", none, .seq #[.str "I_p1" 1604, .str "bra" 1605, .str "cursor" 1606, .str "ket" 1607, .str "limit_backward" 1608] 0, #[]⟩
noncomputable def o493_0 (P : Params) : Obj := ⟨.type "dict", none, .dict #[⟨PyData.keyHash P "__module__", .str "__module__" 468, .str "snowballstemmer.swedish_stemmer" 459⟩, ⟨PyData.keyHash P "__firstlineno__", .str "__firstlineno__" 472, .int 168 471⟩, ⟨PyData.keyHash P "g_v", .str "g_v" 491, .ref 230⟩, ⟨PyData.keyHash P "g_s_ending", .str "g_s_ending" 526, .ref 231⟩, ⟨PyData.keyHash P "g_ost_ending", .str "g_ost_ending" 545, .ref 232⟩, ⟨PyData.keyHash P "I_p1", .str "I_p1" 547, .int 0 546⟩, ⟨PyData.keyHash P "r_mark_regions", .str "r_mark_regions" 556, .ref 239⟩, ⟨PyData.keyHash P "r_et_condition", .str "r_et_condition" 565, .ref 246⟩, ⟨PyData.keyHash P "r_main_suffix", .str "r_main_suffix" 575, .ref 253⟩, ⟨PyData.keyHash P "r_consonant_pair", .str "r_consonant_pair" 584, .ref 260⟩, ⟨PyData.keyHash P "r_other_suffix", .str "r_other_suffix" 593, .ref 267⟩, ⟨PyData.keyHash P "_stem", .str "_stem" 604, .ref 274⟩, ⟨PyData.keyHash P "a_0", .str "a_0" 920, .ref 338⟩, ⟨PyData.keyHash P "a_1", .str "a_1" 1427, .ref 453⟩, ⟨PyData.keyHash P "a_2", .str "a_2" 1533, .ref 475⟩, ⟨PyData.keyHash P "a_3", .str "a_3" 1603, .ref 491⟩, ⟨PyData.keyHash P "__static_attributes__", .str "__static_attributes__" 1609, .ref 492⟩, ⟨PyData.keyHash P "__doc__", .str "__doc__" 1610, .none⟩] 2, #[]⟩
noncomputable def o494_0 (P : Params) : Obj := ⟨.type "type", none, .cls ⟨"SwedishStemmer", [.ref 197], [.ref 494, .ref 197, .type "object"], 493, "SwedishStemmer", true, [], [], false, none, false⟩, #[(some (.ref 223)), none, (some (.str "SwedishStemmer" 461)), (some (.str "SwedishStemmer" 469)), (some (.builtin "object.__new__")), (some (.bool true))]⟩
noncomputable def o495_0 (P : Params) : Obj := ⟨.type "super", none, .fields #[.ref 494, .ref 494, .ref 494], #[]⟩
noncomputable def o496_0 (P : Params) : Obj := ⟨.type "builtin_function_or_method", none, .fields #[.builtin "object.__init_subclass__", .ref 494], #[]⟩
noncomputable def tr193 (P : Params) (d1 d2 d3 : SetD) : BT := (.node (o79_0 P) (.node (o143_0 P) (.node (o271_0 P) .nil .nil) (.node (o399_0 P) .nil .nil)) (.node (o207_0 P) (.node (o335_0 P) .nil .nil) (.node (o463_0 P) .nil .nil)))
noncomputable def tr194 (P : Params) (d1 d2 d3 : SetD) : BT := (.node (o31_0 P) (tr146 P d1 d2 d3) (.node (o95_0 P) (.node (o159_0 P) (.node (o287_0 P) .nil .nil) (.node (o415_0 P) .nil .nil)) (.node (o223_0 P) (.node (o351_0 P) .nil .nil) (.node (o479_0 P) .nil .nil))))
noncomputable def tr195 (P : Params) (d1 d2 d3 : SetD) : BT := (.node (o15_0 P) (tr194 P d1 d2 d3) (.node (o47_0 P) (tr193 P d1 d2 d3) (.node (o111_0 P) (.node (o175_0 P) (.node (o303_0 P) .nil .nil) (.node (o431_0 P) .nil .nil)) (.node (o239_0 P) (.node (o367_0 P) .nil .nil) (.node (o495_0 P) .nil .nil)))))
noncomputable def tr196 (P : Params) (d1 d2 d3 : SetD) : BT := (.node (boot_o_7 P) (tr195 P d1 d2 d3) (.node (o23_0 P) (.node (o39_0 P) (tr148 P d1 d2 d3) (.node (o103_0 P) (.node (o167_0 P) (.node (o295_0 P) .nil .nil) (.node (o423_0 P) .nil .nil)) (.node (sO d2) (.node (o359_0 P) .nil .nil) (.node (o487_0 P) .nil .nil)))) (tr149 P d1 d2 d3)))
noncomputable def tr197 (P : Params) (d1 d2 d3 : SetD) : BT := (.node (o17_0 P) (.node (o33_0 P) (tr158 P d1 d2 d3) (.node (o97_0 P) (.node (o161_0 P) (.node (o289_0 P) .nil .nil) (.node (o417_0 P) .nil .nil)) (.node (o225_8 P) (.node (o353_0 P) .nil .nil) (.node (o481_0 P) .nil .nil)))) (tr159 P d1 d2 d3))
noncomputable def tr198 (P : Params) (d1 d2 d3 : SetD) : BT := (.node (o69_0 P) (.node (o133_0 P) (.node (o261_0 P) .nil .nil) (.node (o389_0 P) .nil .nil)) (.node (o197_1 P) (.node (o325_0 P) .nil .nil) (.node (o453_0 P) .nil .nil)))
noncomputable def tr199 (P : Params) (d1 d2 d3 : SetD) : BT := (.node (o77_0 P) (.node (o141_0 P) (.node (o269_0 P) .nil .nil) (.node (o397_0 P) .nil .nil)) (.node (o205_0 P) (.node (o333_0 P) .nil .nil) (.node (o461_0 P) .nil .nil)))
noncomputable def tr200 (P : Params) (d1 d2 d3 : SetD) : BT := (.node (o21_0 P) (.node (o37_0 P) (tr198 P d1 d2 d3) (.node (o101_0 P) (.node (o165_0 P) (.node (o293_0 P) .nil .nil) (.node (o421_0 P) .nil .nil)) (.node (o229_0 P) (.node (o357_0 P) .nil .nil) (.node (o485_0 P) .nil .nil)))) (tr164 P d1 d2 d3))
noncomputable def tr201 (P : Params) (d1 d2 d3 : SetD) : BT := (.node (boot_o_9 P) (tr197 P d1 d2 d3) (.node (o25_0 P) (.node (o41_0 P) (tr160 P d1 d2 d3) (.node (o105_0 P) (.node (o169_0 P) (.node (o297_0 P) .nil .nil) (.node (o425_0 P) .nil .nil)) (.node (o233_0 P) (.node (o361_0 P) .nil .nil) (.node (o489_0 P) .nil .nil)))) (tr161 P d1 d2 d3)))
noncomputable def tr202 (P : Params) (d1 d2 d3 : SetD) : BT := (.node (o13_0 P) (tr200 P d1 d2 d3) (.node (o29_0 P) (.node (o45_0 P) (tr199 P d1 d2 d3) (.node (o109_0 P) (.node (o173_0 P) (.node (o301_0 P) .nil .nil) (.node (o429_0 P) .nil .nil)) (.node (o237_0 P) (.node (o365_0 P) .nil .nil) (.node (o493_0 P) .nil .nil)))) (tr166 P d1 d2 d3)))
noncomputable def tr203 (P : Params) (d1 d2 d3 : SetD) : BT := (.node (o80_0 P) (.node (o144_0 P) (.node (o272_0 P) .nil .nil) (.node (o400_0 P) .nil .nil)) (.node (o208_0 P) (.node (o336_0 P) .nil .nil) (.node (o464_0 P) .nil .nil)))
noncomputable def tr204 (P : Params) (d1 d2 d3 : SetD) : BT := (.node (o32_0 P) (tr169 P d1 d2 d3) (.node (o96_0 P) (.node (o160_0 P) (.node (o288_0 P) .nil .nil) (.node (o416_0 P) .nil .nil)) (.node (o224_0 P) (.node (o352_0 P) .nil .nil) (.node (o480_0 P) .nil .nil))))
noncomputable def tr205 (P : Params) (d1 d2 d3 : SetD) : BT := (.node (o16_0 P) (tr204 P d1 d2 d3) (.node (o48_0 P) (tr203 P d1 d2 d3) (.node (o112_0 P) (.node (o176_0 P) (.node (o304_0 P) .nil .nil) (.node (o432_0 P) .nil .nil)) (.node (o240_0 P) (.node (o368_0 P) .nil .nil) (.node (o496_0 P) .nil .nil)))))
noncomputable def tr206 (P : Params) (d1 d2 d3 : SetD) : BT := (.node (o76_0 P) (.node (o140_0 P) (.node (o268_0 P) .nil .nil) (.node (o396_0 P) .nil .nil)) (.node (o204_0 P) (.node (o332_0 P) .nil .nil) (.node (o460_0 P) .nil .nil)))
noncomputable def tr207 (P : Params) (d1 d2 d3 : SetD) : BT := (.node (boot_o_8 P) (tr205 P d1 d2 d3) (.node (o24_0 P) (.node (o40_0 P) (tr171 P d1 d2 d3) (.node (o104_0 P) (.node (o168_0 P) (.node (o296_0 P) .nil .nil) (.node (o424_0 P) .nil .nil)) (.node (sO d3) (.node (o360_0 P) .nil .nil) (.node (o488_0 P) .nil .nil)))) (tr172 P d1 d2 d3)))
noncomputable def tr208 (P : Params) (d1 d2 d3 : SetD) : BT := (.node (o12_2 P) (tr178 P d1 d2 d3) (.node (o28_0 P) (.node (o44_0 P) (tr206 P d1 d2 d3) (.node (o108_0 P) (.node (o172_0 P) (.node (o300_0 P) .nil .nil) (.node (o428_0 P) .nil .nil)) (.node (o236_0 P) (.node (o364_0 P) .nil .nil) (.node (o492_0 P) .nil .nil)))) (tr177 P d1 d2 d3)))
noncomputable def tr209 (P : Params) (d1 d2 d3 : SetD) : BT := (.node (o78_0 P) (.node (o142_0 P) (.node (o270_0 P) .nil .nil) (.node (o398_0 P) .nil .nil)) (.node (o206_0 P) (.node (o334_0 P) .nil .nil) (.node (o462_0 P) .nil .nil)))
noncomputable def tr210 (P : Params) (d1 d2 d3 : SetD) : BT := (.node (o14_0 P) (tr189 P d1 d2 d3) (.node (o30_0 P) (.node (o46_0 P) (tr209 P d1 d2 d3) (.node (o110_0 P) (.node (o174_0 P) (.node (o302_0 P) .nil .nil) (.node (o430_0 P) .nil .nil)) (.node (o238_0 P) (.node (o366_0 P) .nil .nil) (.node (o494_0 P) .nil .nil)))) (tr188 P d1 d2 d3)))
noncomputable def tr211 (P : Params) (d1 d2 d3 : SetD) : BT := (.node (boot_o_1 P) (.node (o3_2 P) (tr196 P d1 d2 d3) (tr157 P d1 d2 d3)) (.node (boot_o_5 P) (tr201 P d1 d2 d3) (tr202 P d1 d2 d3)))
noncomputable def Ti (P : Params) (d1 d2 d3 : SetD) : BT := (.node (boot_o_0 P) (tr211 P d1 d2 d3) (.node (boot_o_2 P) (.node (boot_o_4 P) (tr207 P d1 d2 d3) (tr208 P d1 d2 d3)) (.node (boot_o_6 P) (tr190 P d1 d2 d3) (tr210 P d1 d2 d3))))
noncomputable def Si (P : Params) (os : OsState) (l : Life) (d1 d2 d3 : SetD) : SharedT := ⟨Ti P d1 d2 d3, 497, l, #[], boot_drawn, 1613, os⟩
noncomputable def o2_1 (P : Params) : Obj := ⟨.none, none, .dict #[⟨PyData.keyHash P "type.__subclasses__.Exception.0", .str "type.__subclasses__.Exception.0" 1629, .int 506 0⟩, ⟨PyData.keyHash P "type.__subclasses__.Exception.n", .str "type.__subclasses__.Exception.n" 1630, .int 1 0⟩] 2, #[]⟩
noncomputable def o3_3 (P : Params) : Obj := ⟨.type "dict", none, .dict #[⟨PyData.keyHash P "__name__", .str "__name__" 165, .str "law_is0010_01" 1633⟩, ⟨PyData.keyHash P "__doc__", .str "__doc__" 166, .none⟩, ⟨PyData.keyHash P "__package__", .str "__package__" 167, .none⟩, ⟨PyData.keyHash P "__loader__", .str "__loader__" 168, .builtin "__main__.__loader__#opaque"⟩, ⟨PyData.keyHash P "__spec__", .str "__spec__" 169, .none⟩, ⟨PyData.keyHash P "__annotations__", .str "__annotations__" 170, .ref 6⟩, ⟨PyData.keyHash P "__builtins__", .str "__builtins__" 171, .ref 4⟩, ⟨PyData.keyHash P "__file__", .str "__file__" 173, .str "/claim/cut.py" 172⟩, ⟨PyData.keyHash P "__cached__", .str "__cached__" 174, .none⟩, ⟨PyData.keyHash P "_wall", .str "_wall" 193, .ref 21⟩, ⟨PyData.keyHash P "BaseStemmer", .str "BaseStemmer" 423, .ref 197⟩, ⟨PyData.keyHash P "Among", .str "Among" 458, .ref 218⟩, ⟨PyData.keyHash P "SwedishStemmer", .str "SwedishStemmer" 1612, .ref 494⟩, ⟨PyData.keyHash P "lab0", .str "lab0" 1632, .ref 506⟩, ⟨PyData.keyHash P "_law_vowels", .str "_law_vowels" 1640, .ref 516⟩, ⟨PyData.keyHash P "_law_before_s", .str "_law_before_s" 1646, .ref 523⟩, ⟨PyData.keyHash P "_law_before_ost", .str "_law_before_ost" 1652, .ref 530⟩, ⟨PyData.keyHash P "_law_stays", .str "_law_stays" 1658, .ref 537⟩, ⟨PyData.keyHash P "_law_loose", .str "_law_loose" 1664, .ref 544⟩, ⟨PyData.keyHash P "_law_forms", .str "_law_forms" 1693, .ref 545⟩, ⟨PyData.keyHash P "_law_often", .str "_law_often" 1714, .ref 546⟩, ⟨PyData.keyHash P "_law_rest", .str "_law_rest" 1732, .ref 547⟩, ⟨PyData.keyHash P "_law_signs", .str "_law_signs" 1741, .ref 548⟩, ⟨PyData.keyHash P "_law_begins", .str "_law_begins" 1748, .ref 549⟩, ⟨PyData.keyHash P "_law_ends", .str "_law_ends" 1754, .ref 550⟩, ⟨PyData.keyHash P "_law_pairs", .str "_law_pairs" 1762, .ref 551⟩, ⟨PyData.keyHash P "_law_third", .str "_law_third" 1768, .ref 552⟩, ⟨PyData.keyHash P "_law_start", .str "_law_start" 1777, .ref 559⟩, ⟨PyData.keyHash P "_law_rests", .str "_law_rests" 1783, .ref 564⟩, ⟨PyData.keyHash P "law", .str "law" 1789, .ref 569⟩] 30, #[]⟩
noncomputable def o12_3 (P : Params) : Obj := ⟨.none, none, .fields #[.int 1 0, .int 0 0, .ref 20, .int 5 0, .int 0 0, .ref 27, .int 161 0, .int 0 0, .ref 207, .int 168 0, .int 0 0, .ref 228, .int 316 0, .int 0 0, .ref 502, .int 319 0, .int 0 0, .ref 515, .int 321 0, .int 0 0, .ref 522, .int 323 0, .int 0 0, .ref 529, .int 325 0, .int 0 0, .ref 536, .int 327 0, .int 0 0, .ref 543, .int 337 0, .int 0 0, .ref 558, .int 347 0, .int 0 0, .ref 563, .int 363 0, .int 0 0, .ref 568], #[]⟩
noncomputable def o497_0 (P : Params) : Obj := ⟨.type "tuple", none, .seq #[.type "Exception"] 0, #[]⟩
noncomputable def o498_0 (P : Params) : Obj := ⟨.type "builtin_function_or_method", none, .fields #[.builtin "type.__prepare__", .type "type"], #[]⟩
noncomputable def o499_0 (P : Params) : Obj := ⟨.type "dict", none, .dict #[⟨PyData.keyHash P "__module__", .str "__module__" 1620, .str "snowballstemmer.swedish_stemmer" 459⟩, ⟨PyData.keyHash P "__qualname__", .str "__qualname__" 1622, .str "lab0" 1621⟩, ⟨PyData.keyHash P "__firstlineno__", .str "__firstlineno__" 1624, .int 316 1623⟩, ⟨PyData.keyHash P "__static_attributes__", .str "__static_attributes__" 1625, .ref 504⟩] 4, #[]⟩
noncomputable def o500_0 (P : Params) : Obj := ⟨.type "tuple", none, .seq #[] 0, #[]⟩
noncomputable def o501_0 (P : Params) : Obj := ⟨.none, none, .fields #[], #[]⟩
noncomputable def o502_0 (P : Params) : Obj := ⟨.type "code", none, .fields #[.str "lab0" 1615, .str "lab0" 1616, .str "/claim/cut.py" 1617, .int 316 0, .int 0 0, .int 0 0, .int 0 0, .int 0 0, .ref 500, .bool false, .int 181 0, .ref 501, .none, .none, .none, .none, .int 1618 0, .int 316 0, .str "/claim/cut.py" 1619], #[]⟩
noncomputable def o503_0 (P : Params) : Obj := ⟨.type "frame", none, .plain, #[(some (.ref 502)), (some (.ref 3)), (some (.ref 499)), none, (some (.str "snowballstemmer.swedish_stemmer" 459)), none, (some (.ref 0))]⟩
noncomputable def o504_0 (P : Params) : Obj := ⟨.type "tuple", none, .seq #[] 0, #[]⟩
noncomputable def o505_0 (P : Params) : Obj := ⟨.type "dict", none, .dict #[⟨PyData.keyHash P "__module__", .str "__module__" 1620, .str "snowballstemmer.swedish_stemmer" 459⟩, ⟨PyData.keyHash P "__firstlineno__", .str "__firstlineno__" 1624, .int 316 1623⟩, ⟨PyData.keyHash P "__static_attributes__", .str "__static_attributes__" 1625, .ref 504⟩, ⟨PyData.keyHash P "__weakref__", .str "__weakref__" 1627, .ref 507⟩, ⟨PyData.keyHash P "__doc__", .str "__doc__" 1628, .none⟩] 3, #[]⟩
noncomputable def o506_0 (P : Params) : Obj := ⟨.type "type", none, .cls ⟨"lab0", [.type "Exception"], [.ref 506, .type "Exception", .type "BaseException", .type "object"], 505, "lab0", true, [], [], false, none, false⟩, #[(some (.ref 497)), none, (some (.str "lab0" 1613)), (some (.str "lab0" 1621)), (some (.builtin "Exception.__new__")), (some (.bool true))]⟩
noncomputable def o507_0 (P : Params) : Obj := ⟨.type "getset_descriptor", none, .fields #[.str "__weakref__" 1626, .ref 506, .builtin "ExceptionGroup.__weakref__", .none], #[]⟩
noncomputable def o508_0 (P : Params) : Obj := ⟨.type "super", none, .fields #[.ref 506, .ref 506, .ref 506], #[]⟩
noncomputable def o509_0 (P : Params) : Obj := ⟨.type "builtin_function_or_method", none, .fields #[.builtin "object.__init_subclass__", .ref 506], #[]⟩
noncomputable def o510_0 (P : Params) : Obj := ⟨.type "tuple", none, .seq #[] 0, #[]⟩
noncomputable def o511_0 (P : Params) : Obj := ⟨.none, none, .fields #[], #[]⟩
noncomputable def o512_0 (P : Params) : Obj := ⟨.type "tuple", none, .seq #[] 0, #[]⟩
noncomputable def o513_0 (P : Params) : Obj := ⟨.type "tuple", none, .seq #[] 0, #[]⟩
noncomputable def o514_0 (P : Params) : Obj := ⟨.none, none, .func ⟨"_law_vowels", "_law_vowels", fnA (stA tb0 9), .stmts (fnB (stA tb0 9)), fnS (stA tb0 9), 0, [], .none, .none, .none, .none, none, .none, .none, 0⟩, #[]⟩
noncomputable def o515_0 (P : Params) : Obj := ⟨.type "code", none, .fields #[.str "_law_vowels" 1635, .str "_law_vowels" 1636, .str "/claim/cut.py" 1637, .int 319 0, .int 0 0, .int 0 0, .int 0 0, .int 3 0, .ref 510, .bool true, .int 181 0, .ref 511, .none, .ref 512, .ref 513, .ref 514, .int 1638 0, .int 319 0, .str "/claim/cut.py" 1639], #[]⟩
noncomputable def o516_0 (P : Params) : Obj := ⟨.type "function", none, .func ⟨"_law_vowels", "_law_vowels", fnA (stA tb0 9), .stmts (fnB (stA tb0 9)), fnS (stA tb0 9), 3, [], .none, .none, .none, .str "law_is0010_01" 1633, none, .ref 515, .none, 0⟩, #[]⟩
noncomputable def o517_0 (P : Params) : Obj := ⟨.type "tuple", none, .seq #[] 0, #[]⟩
noncomputable def o518_0 (P : Params) : Obj := ⟨.none, none, .fields #[], #[]⟩
noncomputable def o519_0 (P : Params) : Obj := ⟨.type "tuple", none, .seq #[] 0, #[]⟩
noncomputable def o520_0 (P : Params) : Obj := ⟨.type "tuple", none, .seq #[] 0, #[]⟩
noncomputable def o521_0 (P : Params) : Obj := ⟨.none, none, .func ⟨"_law_before_s", "_law_before_s", fnA (stA tb0 10), .stmts (fnB (stA tb0 10)), fnS (stA tb0 10), 0, [], .none, .none, .none, .none, none, .none, .none, 0⟩, #[]⟩
noncomputable def o522_0 (P : Params) : Obj := ⟨.type "code", none, .fields #[.str "_law_before_s" 1641, .str "_law_before_s" 1642, .str "/claim/cut.py" 1643, .int 321 0, .int 0 0, .int 0 0, .int 0 0, .int 3 0, .ref 517, .bool true, .int 181 0, .ref 518, .none, .ref 519, .ref 520, .ref 521, .int 1644 0, .int 321 0, .str "/claim/cut.py" 1645], #[]⟩
noncomputable def o523_0 (P : Params) : Obj := ⟨.type "function", none, .func ⟨"_law_before_s", "_law_before_s", fnA (stA tb0 10), .stmts (fnB (stA tb0 10)), fnS (stA tb0 10), 3, [], .none, .none, .none, .str "law_is0010_01" 1633, none, .ref 522, .none, 0⟩, #[]⟩
noncomputable def o524_0 (P : Params) : Obj := ⟨.type "tuple", none, .seq #[] 0, #[]⟩
noncomputable def o525_0 (P : Params) : Obj := ⟨.none, none, .fields #[], #[]⟩
noncomputable def o526_0 (P : Params) : Obj := ⟨.type "tuple", none, .seq #[] 0, #[]⟩
noncomputable def o527_0 (P : Params) : Obj := ⟨.type "tuple", none, .seq #[] 0, #[]⟩
noncomputable def o528_0 (P : Params) : Obj := ⟨.none, none, .func ⟨"_law_before_ost", "_law_before_ost", fnA (stA tb0 11), .stmts (fnB (stA tb0 11)), fnS (stA tb0 11), 0, [], .none, .none, .none, .none, none, .none, .none, 0⟩, #[]⟩
noncomputable def o529_0 (P : Params) : Obj := ⟨.type "code", none, .fields #[.str "_law_before_ost" 1647, .str "_law_before_ost" 1648, .str "/claim/cut.py" 1649, .int 323 0, .int 0 0, .int 0 0, .int 0 0, .int 3 0, .ref 524, .bool true, .int 181 0, .ref 525, .none, .ref 526, .ref 527, .ref 528, .int 1650 0, .int 323 0, .str "/claim/cut.py" 1651], #[]⟩
noncomputable def o530_0 (P : Params) : Obj := ⟨.type "function", none, .func ⟨"_law_before_ost", "_law_before_ost", fnA (stA tb0 11), .stmts (fnB (stA tb0 11)), fnS (stA tb0 11), 3, [], .none, .none, .none, .str "law_is0010_01" 1633, none, .ref 529, .none, 0⟩, #[]⟩
noncomputable def o531_0 (P : Params) : Obj := ⟨.type "tuple", none, .seq #[] 0, #[]⟩
noncomputable def o532_0 (P : Params) : Obj := ⟨.none, none, .fields #[], #[]⟩
noncomputable def o533_0 (P : Params) : Obj := ⟨.type "tuple", none, .seq #[] 0, #[]⟩
noncomputable def o534_0 (P : Params) : Obj := ⟨.type "tuple", none, .seq #[] 0, #[]⟩
noncomputable def o535_0 (P : Params) : Obj := ⟨.none, none, .func ⟨"_law_stays", "_law_stays", fnA (stA tb0 12), .stmts (fnB (stA tb0 12)), fnS (stA tb0 12), 0, [], .none, .none, .none, .none, none, .none, .none, 0⟩, #[]⟩
noncomputable def o536_0 (P : Params) : Obj := ⟨.type "code", none, .fields #[.str "_law_stays" 1653, .str "_law_stays" 1654, .str "/claim/cut.py" 1655, .int 325 0, .int 0 0, .int 0 0, .int 0 0, .int 3 0, .ref 531, .bool true, .int 181 0, .ref 532, .none, .ref 533, .ref 534, .ref 535, .int 1656 0, .int 325 0, .str "/claim/cut.py" 1657], #[]⟩
noncomputable def o537_0 (P : Params) : Obj := ⟨.type "function", none, .func ⟨"_law_stays", "_law_stays", fnA (stA tb0 12), .stmts (fnB (stA tb0 12)), fnS (stA tb0 12), 3, [], .none, .none, .none, .str "law_is0010_01" 1633, none, .ref 536, .none, 0⟩, #[]⟩
noncomputable def o538_0 (P : Params) : Obj := ⟨.type "tuple", none, .seq #[] 0, #[]⟩
noncomputable def o539_0 (P : Params) : Obj := ⟨.none, none, .fields #[], #[]⟩
noncomputable def o540_0 (P : Params) : Obj := ⟨.type "tuple", none, .seq #[] 0, #[]⟩
noncomputable def o541_0 (P : Params) : Obj := ⟨.type "tuple", none, .seq #[] 0, #[]⟩
noncomputable def o542_0 (P : Params) : Obj := ⟨.none, none, .func ⟨"_law_loose", "_law_loose", fnA (stA tb0 13), .stmts (fnB (stA tb0 13)), fnS (stA tb0 13), 0, [], .none, .none, .none, .none, none, .none, .none, 0⟩, #[]⟩
noncomputable def o543_0 (P : Params) : Obj := ⟨.type "code", none, .fields #[.str "_law_loose" 1659, .str "_law_loose" 1660, .str "/claim/cut.py" 1661, .int 327 0, .int 0 0, .int 0 0, .int 0 0, .int 3 0, .ref 538, .bool true, .int 181 0, .ref 539, .none, .ref 540, .ref 541, .ref 542, .int 1662 0, .int 327 0, .str "/claim/cut.py" 1663], #[]⟩
noncomputable def o544_0 (P : Params) : Obj := ⟨.type "function", none, .func ⟨"_law_loose", "_law_loose", fnA (stA tb0 13), .stmts (fnB (stA tb0 13)), fnS (stA tb0 13), 3, [], .none, .none, .none, .str "law_is0010_01" 1633, none, .ref 543, .none, 0⟩, #[]⟩
noncomputable def o545_0 (P : Params) : Obj := ⟨.type "list", none, .seq #[.str "heterna" 1665, .str "hetens" 1666, .str "heten" 1667, .str "heter" 1668, .str "het" 1669, .str "arna" 1670, .str "arnas" 1671, .str "arne" 1672, .str "aren" 1673, .str "arens" 1674, .str "are" 1675, .str "ar" 1676, .str "orna" 1677, .str "ornas" 1678, .str "or" 1679, .str "ernas" 1680, .str "ern" 1681, .str "erns" 1682, .str "ande" 1683, .str "anden" 1684, .str "andes" 1685, .str "andet" 1686, .str "ade" 1687, .str "ades" 1688, .str "ad" 1689, .str "at" 1690, .str "ast" 1691, .str "aste" 1692] 0, #[]⟩
noncomputable def o546_0 (P : Params) : Obj := ⟨.type "list", none, .seq #[.str "ets" 1694, .str "a" 1695, .str "s" 1696, .str "et" 1697, .str "k" 1698, .str "lig" 1699, .str "t" 1700, .str "en" 1701, .str "å" 1702, .str "els" 1703, .str "r" 1704, .str "gt" 1705, .str "i" 1706, .str "öst" 1707, .str "e" 1708, .str "n" 1709, .str "fullt" 1710, .str "h" 1711, .str "ö" 1712, .str "d" 1713] 0, #[]⟩
noncomputable def o547_0 (P : Params) : Obj := ⟨.type "list", none, .seq #[.str "b" 1715, .str "c" 1716, .str "f" 1717, .str "g" 1718, .str "j" 1719, .str "l" 1720, .str "m" 1721, .str "o" 1722, .str "p" 1723, .str "q" 1724, .str "u" 1725, .str "v" 1726, .str "w" 1727, .str "x" 1728, .str "y" 1729, .str "z" 1730, .str "ä" 1731] 0, #[]⟩
noncomputable def o548_0 (P : Params) : Obj := ⟨.type "list", none, .seq #[.str "é" 1733, .str "Å" 1734, .str "E" 1735, .str "æ" 1736, .str "ø" 1737, .str "ü" 1738, .str "-" 1739, .str "7" 1740] 0, #[]⟩
noncomputable def o549_0 (P : Params) : Obj := ⟨.type "list", none, .seq #[.str "hus" 1742, .str "land" 1743, .str "flick" 1744, .str "arbet" 1745, .str "rätt" 1746, .str "nyhet" 1747] 0, #[]⟩
noncomputable def o550_0 (P : Params) : Obj := ⟨.type "list", none, .seq #[.str "erna" 1749, .str "ens" 1750, .str "er" 1751, .str "as" 1752, .str "es" 1753] 0, #[]⟩
noncomputable def o551_0 (P : Params) : Obj := ⟨.type "list", none, .seq #[.str "dd" 1755, .str "gd" 1756, .str "nn" 1757, .str "dt" 1758, .str "gt" 1759, .str "kt" 1760, .str "tt" 1761] 0, #[]⟩
noncomputable def o552_0 (P : Params) : Obj := ⟨.type "list", none, .seq #[.str "lig" 1763, .str "ig" 1764, .str "els" 1765, .str "öst" 1766, .str "fullt" 1767] 0, #[]⟩
noncomputable def o553_0 (P : Params) : Obj := ⟨.type "tuple", none, .seq #[] 0, #[]⟩
noncomputable def o554_0 (P : Params) : Obj := ⟨.none, none, .fields #[], #[]⟩
noncomputable def o555_0 (P : Params) : Obj := ⟨.type "tuple", none, .seq #[.str "word" 1772, .str "seen" 1773, .str "place" 1774] 0, #[]⟩
noncomputable def o556_0 (P : Params) : Obj := ⟨.type "tuple", none, .seq #[] 0, #[]⟩
noncomputable def o557_0 (P : Params) : Obj := ⟨.none, none, .func ⟨"_law_start", "_law_start", fnA (stA tb0 22), .stmts (fnB (stA tb0 22)), fnS (stA tb0 22), 0, [], .none, .none, .none, .none, none, .none, .none, 0⟩, #[]⟩
noncomputable def o558_0 (P : Params) : Obj := ⟨.type "code", none, .fields #[.str "_law_start" 1769, .str "_law_start" 1770, .str "/claim/cut.py" 1771, .int 337 0, .int 1 0, .int 0 0, .int 0 0, .int 3 0, .ref 553, .bool true, .int 181 0, .ref 554, .none, .ref 555, .ref 556, .ref 557, .int 1775 0, .int 337 0, .str "/claim/cut.py" 1776], #[]⟩
noncomputable def o559_0 (P : Params) : Obj := ⟨.type "function", none, .func ⟨"_law_start", "_law_start", fnA (stA tb0 22), .stmts (fnB (stA tb0 22)), fnS (stA tb0 22), 3, [], .none, .none, .none, .str "law_is0010_01" 1633, none, .ref 558, .none, 0⟩, #[]⟩
noncomputable def o560_0 (P : Params) : Obj := ⟨.type "tuple", none, .seq #[] 0, #[]⟩
noncomputable def o561_0 (P : Params) : Obj := ⟨.none, none, .fields #[], #[]⟩
noncomputable def o562_0 (P : Params) : Obj := ⟨.none, none, .func ⟨"_law_rests", "_law_rests", fnA (stA tb0 23), .stmts (fnB (stA tb0 23)), fnS (stA tb0 23), 0, [], .none, .none, .none, .none, none, .none, .none, 0⟩, #[]⟩
noncomputable def o563_0 (P : Params) : Obj := ⟨.type "code", none, .fields #[.str "_law_rests" 1778, .str "_law_rests" 1779, .str "/claim/cut.py" 1780, .int 347 0, .int 1 0, .int 0 0, .int 0 0, .int 3 0, .ref 560, .bool true, .int 181 0, .ref 561, .none, .none, .none, .ref 562, .int 1781 0, .int 347 0, .str "/claim/cut.py" 1782], #[]⟩
noncomputable def o564_0 (P : Params) : Obj := ⟨.type "function", none, .func ⟨"_law_rests", "_law_rests", fnA (stA tb0 23), .stmts (fnB (stA tb0 23)), fnS (stA tb0 23), 3, [], .none, .none, .none, .str "law_is0010_01" 1633, none, .ref 563, .none, 0⟩, #[]⟩
noncomputable def o565_0 (P : Params) : Obj := ⟨.type "tuple", none, .seq #[] 0, #[]⟩
noncomputable def o566_0 (P : Params) : Obj := ⟨.none, none, .fields #[], #[]⟩
noncomputable def o567_0 (P : Params) : Obj := ⟨.none, none, .func ⟨"law", "law", fnA (stA tb0 24), .stmts (fnB (stA tb0 24)), fnS (stA tb0 24), 0, [], .none, .none, .none, .none, none, .none, .none, 0⟩, #[]⟩
noncomputable def o568_0 (P : Params) : Obj := ⟨.type "code", none, .fields #[.str "law" 1784, .str "law" 1785, .str "/claim/cut.py" 1786, .int 363 0, .int 1 0, .int 0 0, .int 0 0, .int 3 0, .ref 565, .bool true, .int 181 0, .ref 566, .none, .none, .none, .ref 567, .int 1787 0, .int 363 0, .str "/claim/cut.py" 1788], #[]⟩
noncomputable def o569_0 (P : Params) : Obj := ⟨.type "function", none, .func ⟨"law", "law", fnA (stA tb0 24), .stmts (fnB (stA tb0 24)), fnS (stA tb0 24), 3, [], .none, .none, .none, .str "law_is0010_01" 1633, none, .ref 568, .none, 0⟩, #[]⟩
noncomputable def tr212 (P : Params) (d1 d2 d3 : SetD) : BT := (.node (o63_0 P) (.node (o127_0 P) (.node (o255_0 P) (.node (o511_0 P) .nil .nil) .nil) (.node (o383_0 P) .nil .nil)) (.node (o191_0 P) (.node (o319_0 P) .nil .nil) (.node (o447_0 P) .nil .nil)))
noncomputable def tr213 (P : Params) (d1 d2 d3 : SetD) : BT := (.node (o79_0 P) (.node (o143_0 P) (.node (o271_0 P) (.node (o527_0 P) .nil .nil) .nil) (.node (o399_0 P) .nil .nil)) (.node (o207_0 P) (.node (o335_0 P) .nil .nil) (.node (o463_0 P) .nil .nil)))
noncomputable def tr214 (P : Params) (d1 d2 d3 : SetD) : BT := (.node (o31_0 P) (tr212 P d1 d2 d3) (.node (o95_0 P) (.node (o159_0 P) (.node (o287_0 P) (.node (o543_0 P) .nil .nil) .nil) (.node (o415_0 P) .nil .nil)) (.node (o223_0 P) (.node (o351_0 P) .nil .nil) (.node (o479_0 P) .nil .nil))))
noncomputable def tr215 (P : Params) (d1 d2 d3 : SetD) : BT := (.node (o71_0 P) (.node (o135_0 P) (.node (o263_0 P) (.node (o519_0 P) .nil .nil) .nil) (.node (o391_0 P) .nil .nil)) (.node (o199_0 P) (.node (o327_0 P) .nil .nil) (.node (o455_0 P) .nil .nil)))
noncomputable def tr216 (P : Params) (d1 d2 d3 : SetD) : BT := (.node (o87_0 P) (.node (o151_0 P) (.node (o279_0 P) (.node (o535_0 P) .nil .nil) .nil) (.node (o407_0 P) .nil .nil)) (.node (o215_0 P) (.node (o343_0 P) .nil .nil) (.node (o471_0 P) .nil .nil)))
noncomputable def tr217 (P : Params) (d1 d2 d3 : SetD) : BT := (.node (o39_0 P) (tr215 P d1 d2 d3) (.node (o103_0 P) (.node (o167_0 P) (.node (o295_0 P) (.node (o551_0 P) .nil .nil) .nil) (.node (o423_0 P) .nil .nil)) (.node (sO d2) (.node (o359_0 P) .nil .nil) (.node (o487_0 P) .nil .nil))))
noncomputable def tr218 (P : Params) (d1 d2 d3 : SetD) : BT := (.node (o15_0 P) (tr214 P d1 d2 d3) (.node (o47_0 P) (tr213 P d1 d2 d3) (.node (o111_0 P) (.node (o175_0 P) (.node (o303_0 P) (.node (o559_0 P) .nil .nil) .nil) (.node (o431_0 P) .nil .nil)) (.node (o239_0 P) (.node (o367_0 P) .nil .nil) (.node (o495_0 P) .nil .nil)))))
noncomputable def tr219 (P : Params) (d1 d2 d3 : SetD) : BT := (.node (o67_0 P) (.node (o131_0 P) (.node (o259_0 P) (.node (o515_0 P) .nil .nil) .nil) (.node (o387_0 P) .nil .nil)) (.node (o195_0 P) (.node (o323_0 P) .nil .nil) (.node (o451_0 P) .nil .nil)))
noncomputable def tr220 (P : Params) (d1 d2 d3 : SetD) : BT := (.node (o83_0 P) (.node (o147_0 P) (.node (o275_0 P) (.node (o531_0 P) .nil .nil) .nil) (.node (o403_0 P) .nil .nil)) (.node (o211_0 P) (.node (o339_0 P) .nil .nil) (.node (o467_0 P) .nil .nil)))
noncomputable def tr221 (P : Params) (d1 d2 d3 : SetD) : BT := (.node (o35_0 P) (tr219 P d1 d2 d3) (.node (o99_0 P) (.node (o163_0 P) (.node (o291_0 P) (.node (o547_0 P) .nil .nil) .nil) (.node (o419_0 P) .nil .nil)) (.node (o227_1 P) (.node (o355_0 P) .nil .nil) (.node (o483_0 P) .nil .nil))))
noncomputable def tr222 (P : Params) (d1 d2 d3 : SetD) : BT := (.node (o75_0 P) (.node (o139_0 P) (.node (o267_0 P) (.node (o523_0 P) .nil .nil) .nil) (.node (o395_0 P) .nil .nil)) (.node (o203_0 P) (.node (o331_0 P) .nil .nil) (.node (o459_0 P) .nil .nil)))
noncomputable def tr223 (P : Params) (d1 d2 d3 : SetD) : BT := (.node (o91_0 P) (.node (o155_0 P) (.node (o283_0 P) (.node (o539_0 P) .nil .nil) .nil) (.node (o411_0 P) .nil .nil)) (.node (o219_0 P) (.node (o347_0 P) .nil .nil) (.node (o475_0 P) .nil .nil)))
noncomputable def tr224 (P : Params) (d1 d2 d3 : SetD) : BT := (.node (o43_0 P) (tr222 P d1 d2 d3) (.node (o107_0 P) (.node (o171_0 P) (.node (o299_0 P) (.node (o555_0 P) .nil .nil) .nil) (.node (o427_0 P) .nil .nil)) (.node (o235_0 P) (.node (o363_0 P) .nil .nil) (.node (o491_0 P) .nil .nil))))
noncomputable def tr225 (P : Params) (d1 d2 d3 : SetD) : BT := (.node (o19_0 P) (tr221 P d1 d2 d3) (.node (o51_0 P) (tr220 P d1 d2 d3) (.node (o115_0 P) (.node (o179_0 P) (.node (o307_0 P) (.node (o563_0 P) .nil .nil) .nil) (.node (o435_0 P) .nil .nil)) (.node (o243_0 P) (.node (o371_0 P) .nil .nil) (.node (o499_0 P) .nil .nil)))))
noncomputable def tr226 (P : Params) (d1 d2 d3 : SetD) : BT := (.node (boot_o_7 P) (tr218 P d1 d2 d3) (.node (o23_0 P) (tr217 P d1 d2 d3) (.node (o55_0 P) (tr216 P d1 d2 d3) (.node (o119_0 P) (.node (o183_0 P) (.node (o311_0 P) (.node (o567_0 P) .nil .nil) .nil) (.node (o439_0 P) .nil .nil)) (.node (o247_0 P) (.node (o375_0 P) .nil .nil) (.node (o503_0 P) .nil .nil))))))
noncomputable def tr227 (P : Params) (d1 d2 d3 : SetD) : BT := (.node (o11_0 P) (tr225 P d1 d2 d3) (.node (o27_0 P) (tr224 P d1 d2 d3) (.node (o59_0 P) (tr223 P d1 d2 d3) (.node (o123_0 P) (.node (o187_0 P) (.node (o315_0 P) .nil .nil) (.node (o443_0 P) .nil .nil)) (.node (o251_0 P) (.node (o379_0 P) .nil .nil) (.node (o507_0 P) .nil .nil))))))
noncomputable def tr228 (P : Params) (d1 d2 d3 : SetD) : BT := (.node (o65_0 P) (.node (o129_0 P) (.node (o257_0 P) (.node (o513_0 P) .nil .nil) .nil) (.node (o385_0 P) .nil .nil)) (.node (o193_0 P) (.node (o321_0 P) .nil .nil) (.node (o449_0 P) .nil .nil)))
noncomputable def tr229 (P : Params) (d1 d2 d3 : SetD) : BT := (.node (o81_0 P) (.node (o145_0 P) (.node (o273_0 P) (.node (o529_0 P) .nil .nil) .nil) (.node (o401_0 P) .nil .nil)) (.node (o209_0 P) (.node (o337_0 P) .nil .nil) (.node (o465_0 P) .nil .nil)))
noncomputable def tr230 (P : Params) (d1 d2 d3 : SetD) : BT := (.node (o33_0 P) (tr228 P d1 d2 d3) (.node (o97_0 P) (.node (o161_0 P) (.node (o289_0 P) (.node (o545_0 P) .nil .nil) .nil) (.node (o417_0 P) .nil .nil)) (.node (o225_8 P) (.node (o353_0 P) .nil .nil) (.node (o481_0 P) .nil .nil))))
noncomputable def tr231 (P : Params) (d1 d2 d3 : SetD) : BT := (.node (o73_0 P) (.node (o137_0 P) (.node (o265_0 P) (.node (o521_0 P) .nil .nil) .nil) (.node (o393_0 P) .nil .nil)) (.node (o201_0 P) (.node (o329_0 P) .nil .nil) (.node (o457_0 P) .nil .nil)))
noncomputable def tr232 (P : Params) (d1 d2 d3 : SetD) : BT := (.node (o89_0 P) (.node (o153_0 P) (.node (o281_0 P) (.node (o537_0 P) .nil .nil) .nil) (.node (o409_0 P) .nil .nil)) (.node (o217_0 P) (.node (o345_0 P) .nil .nil) (.node (o473_0 P) .nil .nil)))
noncomputable def tr233 (P : Params) (d1 d2 d3 : SetD) : BT := (.node (o41_0 P) (tr231 P d1 d2 d3) (.node (o105_0 P) (.node (o169_0 P) (.node (o297_0 P) (.node (o553_0 P) .nil .nil) .nil) (.node (o425_0 P) .nil .nil)) (.node (o233_0 P) (.node (o361_0 P) .nil .nil) (.node (o489_0 P) .nil .nil))))
noncomputable def tr234 (P : Params) (d1 d2 d3 : SetD) : BT := (.node (o17_0 P) (tr230 P d1 d2 d3) (.node (o49_0 P) (tr229 P d1 d2 d3) (.node (o113_0 P) (.node (o177_0 P) (.node (o305_0 P) (.node (o561_0 P) .nil .nil) .nil) (.node (o433_0 P) .nil .nil)) (.node (o241_0 P) (.node (o369_0 P) .nil .nil) (.node (o497_0 P) .nil .nil)))))
noncomputable def tr235 (P : Params) (d1 d2 d3 : SetD) : BT := (.node (o69_0 P) (.node (o133_0 P) (.node (o261_0 P) (.node (o517_0 P) .nil .nil) .nil) (.node (o389_0 P) .nil .nil)) (.node (o197_1 P) (.node (o325_0 P) .nil .nil) (.node (o453_0 P) .nil .nil)))
noncomputable def tr236 (P : Params) (d1 d2 d3 : SetD) : BT := (.node (o85_0 P) (.node (o149_0 P) (.node (o277_0 P) (.node (o533_0 P) .nil .nil) .nil) (.node (o405_0 P) .nil .nil)) (.node (o213_0 P) (.node (o341_0 P) .nil .nil) (.node (o469_0 P) .nil .nil)))
noncomputable def tr237 (P : Params) (d1 d2 d3 : SetD) : BT := (.node (o37_0 P) (tr235 P d1 d2 d3) (.node (o101_0 P) (.node (o165_0 P) (.node (o293_0 P) (.node (o549_0 P) .nil .nil) .nil) (.node (o421_0 P) .nil .nil)) (.node (o229_0 P) (.node (o357_0 P) .nil .nil) (.node (o485_0 P) .nil .nil))))
noncomputable def tr238 (P : Params) (d1 d2 d3 : SetD) : BT := (.node (o77_0 P) (.node (o141_0 P) (.node (o269_0 P) (.node (o525_0 P) .nil .nil) .nil) (.node (o397_0 P) .nil .nil)) (.node (o205_0 P) (.node (o333_0 P) .nil .nil) (.node (o461_0 P) .nil .nil)))
noncomputable def tr239 (P : Params) (d1 d2 d3 : SetD) : BT := (.node (o93_0 P) (.node (o157_0 P) (.node (o285_0 P) (.node (o541_0 P) .nil .nil) .nil) (.node (o413_0 P) .nil .nil)) (.node (o221_0 P) (.node (o349_0 P) .nil .nil) (.node (o477_0 P) .nil .nil)))
noncomputable def tr240 (P : Params) (d1 d2 d3 : SetD) : BT := (.node (o45_0 P) (tr238 P d1 d2 d3) (.node (o109_0 P) (.node (o173_0 P) (.node (o301_0 P) (.node (o557_0 P) .nil .nil) .nil) (.node (o429_0 P) .nil .nil)) (.node (o237_0 P) (.node (o365_0 P) .nil .nil) (.node (o493_0 P) .nil .nil))))
noncomputable def tr241 (P : Params) (d1 d2 d3 : SetD) : BT := (.node (o21_0 P) (tr237 P d1 d2 d3) (.node (o53_0 P) (tr236 P d1 d2 d3) (.node (o117_0 P) (.node (o181_0 P) (.node (o309_0 P) (.node (o565_0 P) .nil .nil) .nil) (.node (o437_0 P) .nil .nil)) (.node (o245_0 P) (.node (o373_0 P) .nil .nil) (.node (o501_0 P) .nil .nil)))))
noncomputable def tr242 (P : Params) (d1 d2 d3 : SetD) : BT := (.node (boot_o_9 P) (tr234 P d1 d2 d3) (.node (o25_0 P) (tr233 P d1 d2 d3) (.node (o57_0 P) (tr232 P d1 d2 d3) (.node (o121_0 P) (.node (o185_0 P) (.node (o313_0 P) (.node (o569_0 P) .nil .nil) .nil) (.node (o441_0 P) .nil .nil)) (.node (o249_0 P) (.node (o377_0 P) .nil .nil) (.node (o505_0 P) .nil .nil))))))
noncomputable def tr243 (P : Params) (d1 d2 d3 : SetD) : BT := (.node (o13_0 P) (tr241 P d1 d2 d3) (.node (o29_0 P) (tr240 P d1 d2 d3) (.node (o61_0 P) (tr239 P d1 d2 d3) (.node (o125_0 P) (.node (o189_0 P) (.node (o317_0 P) .nil .nil) (.node (o445_0 P) .nil .nil)) (.node (o253_0 P) (.node (o381_0 P) .nil .nil) (.node (o509_0 P) .nil .nil))))))
noncomputable def tr244 (P : Params) (d1 d2 d3 : SetD) : BT := (.node (o64_0 P) (.node (o128_0 P) (.node (o256_0 P) (.node (o512_0 P) .nil .nil) .nil) (.node (o384_0 P) .nil .nil)) (.node (o192_0 P) (.node (o320_0 P) .nil .nil) (.node (o448_0 P) .nil .nil)))
noncomputable def tr245 (P : Params) (d1 d2 d3 : SetD) : BT := (.node (o80_0 P) (.node (o144_0 P) (.node (o272_0 P) (.node (o528_0 P) .nil .nil) .nil) (.node (o400_0 P) .nil .nil)) (.node (o208_0 P) (.node (o336_0 P) .nil .nil) (.node (o464_0 P) .nil .nil)))
noncomputable def tr246 (P : Params) (d1 d2 d3 : SetD) : BT := (.node (o32_0 P) (tr244 P d1 d2 d3) (.node (o96_0 P) (.node (o160_0 P) (.node (o288_0 P) (.node (o544_0 P) .nil .nil) .nil) (.node (o416_0 P) .nil .nil)) (.node (o224_0 P) (.node (o352_0 P) .nil .nil) (.node (o480_0 P) .nil .nil))))
noncomputable def tr247 (P : Params) (d1 d2 d3 : SetD) : BT := (.node (o72_0 P) (.node (o136_0 P) (.node (o264_0 P) (.node (o520_0 P) .nil .nil) .nil) (.node (o392_0 P) .nil .nil)) (.node (o200_0 P) (.node (o328_0 P) .nil .nil) (.node (o456_0 P) .nil .nil)))
noncomputable def tr248 (P : Params) (d1 d2 d3 : SetD) : BT := (.node (o88_0 P) (.node (o152_0 P) (.node (o280_0 P) (.node (o536_0 P) .nil .nil) .nil) (.node (o408_0 P) .nil .nil)) (.node (o216_0 P) (.node (o344_0 P) .nil .nil) (.node (o472_0 P) .nil .nil)))
noncomputable def tr249 (P : Params) (d1 d2 d3 : SetD) : BT := (.node (o40_0 P) (tr247 P d1 d2 d3) (.node (o104_0 P) (.node (o168_0 P) (.node (o296_0 P) (.node (o552_0 P) .nil .nil) .nil) (.node (o424_0 P) .nil .nil)) (.node (sO d3) (.node (o360_0 P) .nil .nil) (.node (o488_0 P) .nil .nil))))
noncomputable def tr250 (P : Params) (d1 d2 d3 : SetD) : BT := (.node (o16_0 P) (tr246 P d1 d2 d3) (.node (o48_0 P) (tr245 P d1 d2 d3) (.node (o112_0 P) (.node (o176_0 P) (.node (o304_0 P) (.node (o560_0 P) .nil .nil) .nil) (.node (o432_0 P) .nil .nil)) (.node (o240_0 P) (.node (o368_0 P) .nil .nil) (.node (o496_0 P) .nil .nil)))))
noncomputable def tr251 (P : Params) (d1 d2 d3 : SetD) : BT := (.node (o68_0 P) (.node (o132_0 P) (.node (o260_0 P) (.node (o516_0 P) .nil .nil) .nil) (.node (o388_0 P) .nil .nil)) (.node (o196_0 P) (.node (o324_0 P) .nil .nil) (.node (o452_0 P) .nil .nil)))
noncomputable def tr252 (P : Params) (d1 d2 d3 : SetD) : BT := (.node (o84_0 P) (.node (o148_0 P) (.node (o276_0 P) (.node (o532_0 P) .nil .nil) .nil) (.node (o404_0 P) .nil .nil)) (.node (o212_0 P) (.node (o340_0 P) .nil .nil) (.node (o468_0 P) .nil .nil)))
noncomputable def tr253 (P : Params) (d1 d2 d3 : SetD) : BT := (.node (o36_0 P) (tr251 P d1 d2 d3) (.node (o100_0 P) (.node (o164_0 P) (.node (o292_0 P) (.node (o548_0 P) .nil .nil) .nil) (.node (o420_0 P) .nil .nil)) (.node (o228_0 P) (.node (o356_0 P) .nil .nil) (.node (o484_0 P) .nil .nil))))
noncomputable def tr254 (P : Params) (d1 d2 d3 : SetD) : BT := (.node (o76_0 P) (.node (o140_0 P) (.node (o268_0 P) (.node (o524_0 P) .nil .nil) .nil) (.node (o396_0 P) .nil .nil)) (.node (o204_0 P) (.node (o332_0 P) .nil .nil) (.node (o460_0 P) .nil .nil)))
noncomputable def tr255 (P : Params) (d1 d2 d3 : SetD) : BT := (.node (o92_0 P) (.node (o156_0 P) (.node (o284_0 P) (.node (o540_0 P) .nil .nil) .nil) (.node (o412_0 P) .nil .nil)) (.node (o220_0 P) (.node (o348_0 P) .nil .nil) (.node (o476_0 P) .nil .nil)))
noncomputable def tr256 (P : Params) (d1 d2 d3 : SetD) : BT := (.node (o44_0 P) (tr254 P d1 d2 d3) (.node (o108_0 P) (.node (o172_0 P) (.node (o300_0 P) (.node (o556_0 P) .nil .nil) .nil) (.node (o428_0 P) .nil .nil)) (.node (o236_0 P) (.node (o364_0 P) .nil .nil) (.node (o492_0 P) .nil .nil))))
noncomputable def tr257 (P : Params) (d1 d2 d3 : SetD) : BT := (.node (o20_0 P) (tr253 P d1 d2 d3) (.node (o52_0 P) (tr252 P d1 d2 d3) (.node (o116_0 P) (.node (o180_0 P) (.node (o308_0 P) (.node (o564_0 P) .nil .nil) .nil) (.node (o436_0 P) .nil .nil)) (.node (o244_0 P) (.node (o372_0 P) .nil .nil) (.node (o500_0 P) .nil .nil)))))
noncomputable def tr258 (P : Params) (d1 d2 d3 : SetD) : BT := (.node (boot_o_8 P) (tr250 P d1 d2 d3) (.node (o24_0 P) (tr249 P d1 d2 d3) (.node (o56_0 P) (tr248 P d1 d2 d3) (.node (o120_0 P) (.node (o184_0 P) (.node (o312_0 P) (.node (o568_0 P) .nil .nil) .nil) (.node (o440_0 P) .nil .nil)) (.node (o248_0 P) (.node (o376_0 P) .nil .nil) (.node (o504_0 P) .nil .nil))))))
noncomputable def tr259 (P : Params) (d1 d2 d3 : SetD) : BT := (.node (o12_3 P) (tr257 P d1 d2 d3) (.node (o28_0 P) (tr256 P d1 d2 d3) (.node (o60_0 P) (tr255 P d1 d2 d3) (.node (o124_0 P) (.node (o188_0 P) (.node (o316_0 P) .nil .nil) (.node (o444_0 P) .nil .nil)) (.node (o252_0 P) (.node (o380_0 P) .nil .nil) (.node (o508_0 P) .nil .nil))))))
noncomputable def tr260 (P : Params) (d1 d2 d3 : SetD) : BT := (.node (o66_0 P) (.node (o130_0 P) (.node (o258_0 P) (.node (o514_0 P) .nil .nil) .nil) (.node (o386_0 P) .nil .nil)) (.node (o194_0 P) (.node (o322_0 P) .nil .nil) (.node (o450_0 P) .nil .nil)))
noncomputable def tr261 (P : Params) (d1 d2 d3 : SetD) : BT := (.node (o82_0 P) (.node (o146_0 P) (.node (o274_0 P) (.node (o530_0 P) .nil .nil) .nil) (.node (o402_0 P) .nil .nil)) (.node (o210_0 P) (.node (o338_0 P) .nil .nil) (.node (o466_0 P) .nil .nil)))
noncomputable def tr262 (P : Params) (d1 d2 d3 : SetD) : BT := (.node (o34_0 P) (tr260 P d1 d2 d3) (.node (o98_0 P) (.node (o162_0 P) (.node (o290_0 P) (.node (o546_0 P) .nil .nil) .nil) (.node (o418_0 P) .nil .nil)) (.node (o226_0 P) (.node (o354_0 P) .nil .nil) (.node (o482_0 P) .nil .nil))))
noncomputable def tr263 (P : Params) (d1 d2 d3 : SetD) : BT := (.node (o74_0 P) (.node (o138_0 P) (.node (o266_0 P) (.node (o522_0 P) .nil .nil) .nil) (.node (o394_0 P) .nil .nil)) (.node (o202_0 P) (.node (o330_0 P) .nil .nil) (.node (o458_0 P) .nil .nil)))
noncomputable def tr264 (P : Params) (d1 d2 d3 : SetD) : BT := (.node (o90_0 P) (.node (o154_0 P) (.node (o282_0 P) (.node (o538_0 P) .nil .nil) .nil) (.node (o410_0 P) .nil .nil)) (.node (o218_0 P) (.node (o346_0 P) .nil .nil) (.node (o474_0 P) .nil .nil)))
noncomputable def tr265 (P : Params) (d1 d2 d3 : SetD) : BT := (.node (o42_0 P) (tr263 P d1 d2 d3) (.node (o106_0 P) (.node (o170_0 P) (.node (o298_0 P) (.node (o554_0 P) .nil .nil) .nil) (.node (o426_0 P) .nil .nil)) (.node (o234_0 P) (.node (o362_0 P) .nil .nil) (.node (o490_0 P) .nil .nil))))
noncomputable def tr266 (P : Params) (d1 d2 d3 : SetD) : BT := (.node (o18_0 P) (tr262 P d1 d2 d3) (.node (o50_0 P) (tr261 P d1 d2 d3) (.node (o114_0 P) (.node (o178_0 P) (.node (o306_0 P) (.node (o562_0 P) .nil .nil) .nil) (.node (o434_0 P) .nil .nil)) (.node (o242_0 P) (.node (o370_0 P) .nil .nil) (.node (o498_0 P) .nil .nil)))))
noncomputable def tr267 (P : Params) (d1 d2 d3 : SetD) : BT := (.node (o70_0 P) (.node (o134_0 P) (.node (o262_0 P) (.node (o518_0 P) .nil .nil) .nil) (.node (o390_0 P) .nil .nil)) (.node (o198_0 P) (.node (o326_0 P) .nil .nil) (.node (o454_0 P) .nil .nil)))
noncomputable def tr268 (P : Params) (d1 d2 d3 : SetD) : BT := (.node (o86_0 P) (.node (o150_0 P) (.node (o278_0 P) (.node (o534_0 P) .nil .nil) .nil) (.node (o406_0 P) .nil .nil)) (.node (o214_0 P) (.node (o342_0 P) .nil .nil) (.node (o470_0 P) .nil .nil)))
noncomputable def tr269 (P : Params) (d1 d2 d3 : SetD) : BT := (.node (o38_0 P) (tr267 P d1 d2 d3) (.node (o102_0 P) (.node (o166_0 P) (.node (o294_0 P) (.node (o550_0 P) .nil .nil) .nil) (.node (o422_0 P) .nil .nil)) (.node (sO d1) (.node (o358_0 P) .nil .nil) (.node (o486_0 P) .nil .nil))))
noncomputable def tr270 (P : Params) (d1 d2 d3 : SetD) : BT := (.node (o78_0 P) (.node (o142_0 P) (.node (o270_0 P) (.node (o526_0 P) .nil .nil) .nil) (.node (o398_0 P) .nil .nil)) (.node (o206_0 P) (.node (o334_0 P) .nil .nil) (.node (o462_0 P) .nil .nil)))
noncomputable def tr271 (P : Params) (d1 d2 d3 : SetD) : BT := (.node (o94_0 P) (.node (o158_0 P) (.node (o286_0 P) (.node (o542_0 P) .nil .nil) .nil) (.node (o414_0 P) .nil .nil)) (.node (o222_0 P) (.node (o350_0 P) .nil .nil) (.node (o478_0 P) .nil .nil)))
noncomputable def tr272 (P : Params) (d1 d2 d3 : SetD) : BT := (.node (o46_0 P) (tr270 P d1 d2 d3) (.node (o110_0 P) (.node (o174_0 P) (.node (o302_0 P) (.node (o558_0 P) .nil .nil) .nil) (.node (o430_0 P) .nil .nil)) (.node (o238_0 P) (.node (o366_0 P) .nil .nil) (.node (o494_0 P) .nil .nil))))
noncomputable def tr273 (P : Params) (d1 d2 d3 : SetD) : BT := (.node (o22_0 P) (tr269 P d1 d2 d3) (.node (o54_0 P) (tr268 P d1 d2 d3) (.node (o118_0 P) (.node (o182_0 P) (.node (o310_0 P) (.node (o566_0 P) .nil .nil) .nil) (.node (o438_0 P) .nil .nil)) (.node (o246_0 P) (.node (o374_0 P) .nil .nil) (.node (o502_0 P) .nil .nil)))))
noncomputable def tr274 (P : Params) (d1 d2 d3 : SetD) : BT := (.node (boot_o_10 P) (tr266 P d1 d2 d3) (.node (o26_0 P) (tr265 P d1 d2 d3) (.node (o58_0 P) (tr264 P d1 d2 d3) (.node (o122_0 P) (.node (o186_0 P) (.node (o314_0 P) .nil .nil) (.node (o442_0 P) .nil .nil)) (.node (o250_0 P) (.node (o378_0 P) .nil .nil) (.node (o506_0 P) .nil .nil))))))
noncomputable def tr275 (P : Params) (d1 d2 d3 : SetD) : BT := (.node (o14_0 P) (tr273 P d1 d2 d3) (.node (o30_0 P) (tr272 P d1 d2 d3) (.node (o62_0 P) (tr271 P d1 d2 d3) (.node (o126_0 P) (.node (o190_0 P) (.node (o318_0 P) .nil .nil) (.node (o446_0 P) .nil .nil)) (.node (o254_0 P) (.node (o382_0 P) .nil .nil) (.node (o510_0 P) .nil .nil))))))
noncomputable def tr276 (P : Params) (d1 d2 d3 : SetD) : BT := (.node (boot_o_1 P) (.node (o3_3 P) (tr226 P d1 d2 d3) (tr227 P d1 d2 d3)) (.node (boot_o_5 P) (tr242 P d1 d2 d3) (tr243 P d1 d2 d3)))
noncomputable def Tz (P : Params) (d1 d2 d3 : SetD) : BT := (.node (boot_o_0 P) (tr276 P d1 d2 d3) (.node (o2_1 P) (.node (boot_o_4 P) (tr258 P d1 d2 d3) (tr259 P d1 d2 d3)) (.node (boot_o_6 P) (tr274 P d1 d2 d3) (tr275 P d1 d2 d3))))
noncomputable def Sz (P : Params) (os : OsState) (l : Life) (d1 d2 d3 : SetD) : SharedT := ⟨Tz P d1 d2 d3, 570, l, #[], boot_drawn, 1790, os⟩

noncomputable abbrev G0 : Ctx := Ctx.of (.builtin "claim.caller" {}) []
noncomputable abbrev pz : Pos := ⟨0, 0, 0, 0⟩
noncomputable abbrev env1 : Env := { scope := pw.main.scope, locals := mainNs, globals := mainNs, cells := [], code := .ref 13, frame := some 14 }
noncomputable abbrev G1 : Ctx := G0.enter (.body tb0 env1) none pz
noncomputable def cb : List Stmt := clB (stA tb0 6)
noncomputable abbrev cenv : Env := { scope := clS (stA tb0 6), locals := 225, globals := mainNs, cells := [], qual := "SwedishStemmer.", code := .ref 228, frame := some 229 }
noncomputable abbrev pc : Pos := ⟨168, 0, 315, 116⟩
noncomputable abbrev G2 : Ctx := G1.enter (.body cb cenv) none pc
noncomputable abbrev fin1 (x : Sem Flow) : Sem Fin := x.bind fun f => .pure (.done f)
noncomputable def topXF (pr : Program) (tb : List Stmt) : Sem Value := do
  let code ← moduleCode pr.main
  let frame ← newBodyFrame code mainNs mainNs
  let _ ← run (.body tb { scope := pr.main.scope, locals := mainNs, globals := mainNs, cells := [], code, frame := some frame })
  pure .none
noncomputable def topX : Sem Value := topXF pw tb0
noncomputable def look4 (q : Pend) : Code × Option Value × Pos × SharedT := (q.c, q.h, q.p, q.s)
end Mine
end
end PartHB
section PartHD
set_option maxRecDepth 100000
noncomputable section
namespace Mine
open PySem PySem.W PyProof.Rows PySem.Calls PySem.Spec
noncomputable abbrev sK (w : World) := PySem.strKind pw w
noncomputable def cStr? : PySem.Expr → Option Str
  | .Constant (.str x) _ _ => some x
  | _ => none
noncomputable def strsFrom : List Str → Tok → List Value
  | [], _ => []
  | x :: xs, t => .str x t :: strsFrom xs (t + 1)
section
variable {w : World} {A : Around} {E : Value → Shared → Prop} {env : Env}
theorem kds_consts : ∀ (elts : List PySem.Expr) (xs : List Str) (s : Shared) (Q : List Value → Shared → Prop), elts.map cStr? = xs.map some →
    Q (strsFrom xs s.toks) { s with toks := s.toks + xs.length } → KdsAll (model pw w) A E env elts Q s
  | [], xs, s, Q, e, h => by
    cases xs with
    | nil => exact h
    | cons x xs => cases e
  | el :: elts, xs, s, Q, e, h => by
    cases xs with
    | nil => cases e
    | cons x xs =>
      rw [List.map_cons, List.map_cons, List.cons.injEq] at e
      obtain ⟨e1, e2⟩ := e
      cases el <;> try (cases e1; done)
      rename_i c k pos
      cases c <;> try (cases e1; done)
      obtain rfl := Option.some.inj e1
      refine wpAny_Constant_str (kds_consts elts xs _ _ e2 ?_)
      have : s.toks + 1 + xs.length = s.toks + (xs.length + 1) := by omega
      show Q (.str _ s.toks :: strsFrom xs (s.toks + 1)) { s with toks := s.toks + 1 + xs.length }
      rw [this]
      exact h
theorem kds_fills {n : Nat} {Q : Value → Shared → Prop} : ∀ (xs : List Str) (t : Tok) (s : Shared) (S : Str → Bool) (m : Nat), s.heap.SetOf (sK w) n S m → m + xs.length + 1 < scanBound →
    (∀ h' S' m', Heap.SameBut n s.heap h' → h'.SetOf (sK w) n S' m' → (∀ k, S' k = (S k || xs.contains k)) → Q (.ref n) { s with heap := h', toks := s.toks + xs.length }) →
    KdsFill (model pw w) A E true n Q (strsFrom xs t) s
  | [], t, s, S, m, hS, hb, h => by
    refine kds_fill_unled rfl ?_
    obtain ⟨o, es, ep, tb, ho, hex, hd, hel, hmem, hb0, hf, hn⟩ := hS
    have hf' : ({ tb with led := false } : SetTable).fits es.size = true := by cases tb; exact hf
    unfold setUnled
    refine wpAny_bind (wpAny_setState_of ho hd hf ?_)
    dsimp only
    refine wpAny_storeSet_of ho hd ?_ (fits_of_scanBound hb0)
    obtain ⟨_, hS'⟩ := SetOf_store (knd := sK w) ho hex hd hel hmem hb0 hf'
    have := h _ S _ (Heap.SameBut.update s.heap n (Obj.putSet es { tb with led := false })) hS' (fun k => by rw [List.contains_nil, Bool.or_false])
    exact this
  | x :: xs, t, s, S, m, hS, hb, h => by
    refine kds_fill_cons ?_
    unfold setAdd
    rw [List.length_cons] at hb
    refine wpAny_holding (wpAny_bind ((sK w).pyHash (strKind_is pw w x t) ?_))
    refine wpAny_setAddHashed_of (s := { s with toks := s.toks + 1 }) (strKind_is pw w x t) rfl hS (by omega) fun h' hsb hS' => ?_
    refine kds_fills xs (t + 1) _ _ _ hS' (by split <;> omega) fun h2 S2 m2 hsb2 hS2 hk => ?_
    have e : s.toks + 1 + xs.length = s.toks + (xs.length + 1) := by omega
    show Q (.ref n) { s with heap := h2, toks := s.toks + 1 + xs.length }
    rw [e]
    refine h h2 S2 m2 (hsb.trans hsb2) hS2 fun k => ?_
    rw [hk k, List.contains_cons, Bool.or_assoc]
    congr 2
end
/-- every object of the tree stands -/
noncomputable def allAlive (T : BT) : Nat → Bool
  | 0 => true
  | n + 1 => match T.get n with
    | some o => match alive o with
      | some _ => allAlive T n
      | none => false
    | none => false
theorem allAlive_spec {T : BT} : ∀ {n : Nat}, allAlive T n = true → ∀ b, b < n → ∃ o, T.get b = some o ∧ alive o = some o
  | 0, _, b, hb => absurd hb (Nat.not_lt_zero b)
  | n + 1, h, b, hb => by
    unfold allAlive at h
    cases g : T.get n with
    | none => rw [g] at h; cases h
    | some o =>
      rw [g] at h
      cases al : alive o with
      | none => simp only [al] at h; cases h
      | some o' =>
        simp only [al] at h
        by_cases e : b = n
        · subst e
          refine ⟨o, g, ?_⟩
          obtain ⟨c, d, dt, sl⟩ := o
          cases dt <;> first | rfl | cases al
        · exact allAlive_spec h b (by omega)
theorem heap_same {T : BT} {n : Nat} {l : Life} {h' : Heap} {o o₀ : Obj} (hal : allAlive T n = true) (hs : Heap.SameBut n ((absHeap T n l).push o₀) h') (ho : h'.get? n = some o) (hins : ((T.ins n o).get n).isSome = true) :
    h' = absHeap (T.ins n o) (n + 1) h'.life := by
  have key : h'.objs = (absHeap (T.ins n o) (n + 1) h'.life).objs := by
    apply Array.ext_getElem?
    intro b
    rw [absHeap_at, BT.get_ins o T n hins]
    by_cases e : b = n
    · subst e
      rw [if_pos (Nat.lt_succ_self _), if_pos rfl]
      exact (Heap.get?_some_iff.mp ho).1
    · rw [if_neg e]
      by_cases hb : b < n
      · obtain ⟨x, gx, ax⟩ := allAlive_spec hal b hb
        rw [if_pos (by omega), gx]
        have h1 : (absHeap T n l).get? b = some x := (abs_get hb gx).trans ax
        have h2 := hs.2 b e
        rw [Heap.get?_push_of_some o₀ h1] at h2
        exact (Heap.get?_some_iff.mp h2).1
      · rw [if_neg (by omega)]
        apply Array.getElem?_eq_none
        rw [hs.1, Heap.size_push, absHeap_size]
        omega
  obtain ⟨objs, life⟩ := h'
  exact congrArg (Heap.mk · life) key
theorem sO_of {o : Obj} {es : Array (Int × Value)} {ep : Nat} {t : SetTable} (hex : o.ExactSet) (hd : o.data = .set es ep t) : o = sO (es, ep, t) := by
  obtain ⟨c, d, dt, sl⟩ := o
  obtain ⟨e1, e2, e3⟩ := hex
  dsimp only at e1 e2 e3 hd
  subst e1 e2 e3 hd
  rfl
/-- the object bears the strs -/
noncomputable def Bears (w : World) (d : SetD) (xs : List Str) : Prop := ∀ h a, Heap.get? h a = some (sO d) → ∃ S m, h.SetOf (sK w) a S m ∧ ∀ k, S k = xs.contains k
theorem set_eval {w : World} {A : Around} {E : Value → Shared → Prop} {env : Env} {elts : List PySem.Expr} {k : Nat} {pos : Pos} {xs : List Str} {T : BT} {n : Nat} {l : Life} {tk : Nat} {os : OsState} {K : Frag} {Q : Value → Shared → Prop}
    (X : K.In (absHeap T n l)) (hc : kdsCode K env.code = true) (hroad : displayRoad k elts = .unsure) (hp : elts.all kdsPlain = true) (hlen : elts.length ≤ 30) (hx : elts.map cStr? = xs.map some)
    (hal : allAlive T n = true) (hins : ∀ o, ((T.ins n o).get n).isSome = true)
    (h : ∀ d l', Bears w d xs → Q (.ref n) (SharedT.abs ⟨T.ins n (sO d), n + 1, l', #[], boot_drawn, tk + xs.length + xs.length, os⟩)) :
    wpAny (model pw w) A (eval (.Set elts k pos) env) Q E (SharedT.abs ⟨T, n, l, #[], boot_drawn, tk, os⟩) := by
  have hl : elts.length = xs.length := by have := congrArg List.length hx; rwa [List.length_map, List.length_map] at this
  rw [arm_eval_Set]
  refine wpAny_bind (wpAny_standAt ?_)
  refine wpAny_bind (kds_main X hc fun b => ?_)
  rw [kds_star elts hp, List.map_map]
  refine kds_core (ts := (evalEach elts env).map fun t => do let v ← t; standAt pos; pure v) (by rw [hroad]; rfl) ?_ ?_ ?_ fun led => ?_
  · refine List.findIdx?_eq_none_iff.mpr fun x hx => ?_
    obtain ⟨t, _, rfl⟩ := List.mem_map.mp hx
    rfl
  · rw [List.length_map, kds_len]; exact hlen
  · rw [List.map_map]; try rfl
  · refine kds_all pos elts _ _ (kds_consts elts xs _ _ hx ?_)
    rw [hroad]
    have hn : (SharedT.abs ⟨T, n, l, #[], boot_drawn, tk, os⟩).heap.objs.size = n := absHeap_size T n l
    rw [hn]
    refine kds_fills xs _ _ (fun _ => false) 0 ?_ ?_ fun h' S' m' hsb hS' hk => ?_
    · have := (setObjOf_fresh (knd := sK w) led).setOf (h := (absHeap T n l).push _) (a := n) (by have := Heap.get?_push_size (absHeap T n l) (o := { cls := .type "set", dict := none, data := .set #[] 0 (.fresh 0 0 led) }) rfl; rwa [absHeap_size] at this) (by unfold scanBound; omega)
      exact this
    · unfold scanBound; omega
    · obtain ⟨o, es, ep, t, ho, hex, hd, hel, hmem, hb, hf, hm⟩ := hS'
      have eo := sO_of hex hd
      rw [eo] at ho
      have eh := heap_same hal hsb ho (hins _)
      have := h (es, ep, t) h'.life (fun h2 a2 hg => ⟨S', m', ⟨_, es, ep, t, hg, ⟨rfl, rfl, rfl⟩, rfl, hel, hmem, hb, hf, hm⟩, fun k => by rw [hk k, Bool.false_or]⟩)
      have e2 : (SharedT.abs ⟨T.ins n (sO (es, ep, t)), n + 1, h'.life, #[], boot_drawn, tk + xs.length + xs.length, os⟩) = { heap := h', gens := #[], drawn := boot_drawn, toks := tk + xs.length + xs.length, os := os } := by
        unfold SharedT.abs
        dsimp only
        rw [← eh]
      rw [e2] at this
      exact this
end Mine
end
end PartHD
section PartHC
set_option maxRecDepth 100000
set_option maxHeartbeats 0
noncomputable section
namespace Mine
open PySem PySem.W
noncomputable def seg0P : Prop := ∀ (w : World) (os : OsState) (l : Life) (d1 d2 d3 : SetD), (cut treeTable pw w 2000 G0 default (topX.bind fun v => .pure (.done (.ret v))) (S0 w.params os l d1 d2 d3)).map look4 = some (.body tb0 env1, none, pz, Sa w.params os l d1 d2 d3)
noncomputable def seg0F (pw : Program) (G0 : Ctx) (tb0 : List Stmt) (S0 : Params → OsState → Life → SetD → SetD → SetD → SharedT) (env1 : Env) (Sa : Params → OsState → Life → SetD → SetD → SetD → SharedT) : Prop := ∀ (w : World) (os : OsState) (l : Life) (d1 d2 d3 : SetD), (cut treeTable pw w 2000 G0 default ((topXF pw tb0).bind fun v => .pure (.done (.ret v))) (S0 w.params os l d1 d2 d3)).map look4 = some (.body tb0 env1, none, pz, Sa w.params os l d1 d2 d3)
noncomputable def seg1P : Prop := ∀ (w : World) (os : OsState) (l : Life) (d1 d2 d3 : SetD), ev treeTable pw w 4000 G1 pz (fin1 (do blockStart tb0 env1; execs (tb0.take 6) env1)) (Sa w.params os l d1 d2 d3) = some (.ok .next, ⟨167, 0, 167, 8⟩, Sb w.params os l d1 d2 d3)
noncomputable def seg1F (pw : Program) (G1 : Ctx) (tb0 : List Stmt) (env1 : Env) (Sa : Params → OsState → Life → SetD → SetD → SetD → SharedT) (Sb : Params → OsState → Life → SetD → SetD → SetD → SharedT) : Prop := ∀ (w : World) (os : OsState) (l : Life) (d1 d2 d3 : SetD), ev treeTable pw w 4000 G1 pz (fin1 (do blockStart tb0 env1; execs (tb0.take 6) env1)) (Sa w.params os l d1 d2 d3) = some (.ok .next, ⟨167, 0, 167, 8⟩, Sb w.params os l d1 d2 d3)
lay_quick Mine.seg0F
lay_quick Mine.seg1F
theorem seg0 : seg0P := by show seg0F pw G0 tb0 S0 env1 Sa; rw [PySem.W.Fast.te8954224832998201981]; intro w os l d1 d2 d3; kernel_rfl!
theorem seg1 : seg1P := by show seg1F pw G1 tb0 env1 Sa Sb; rw [PySem.W.Fast.te3635250298513831710]; intro w os l d1 d2 d3; kernel_rfl!
noncomputable def seg2P : Prop := ∀ (w : World) (os : OsState) (l : Life) (d1 d2 d3 : SetD) (p : Pos), (cut treeTable pw w 4000 G1 p (fin1 (exec (stA tb0 6) env1)) (Sb w.params os l d1 d2 d3)).map look4 = some (.body cb cenv, none, pc, (Sc w.params os l d1 d2 d3))
noncomputable def seg2F (pw : Program) (G1 : Ctx) (tb0 : List Stmt) (env1 : Env) (Sb : Params → OsState → Life → SetD → SetD → SetD → SharedT) (cb : List Stmt) (cenv : Env) (Sc : Params → OsState → Life → SetD → SetD → SetD → SharedT) : Prop := ∀ (w : World) (os : OsState) (l : Life) (d1 d2 d3 : SetD) (p : Pos), (cut treeTable pw w 4000 G1 p (fin1 (exec (stA tb0 6) env1)) (Sb w.params os l d1 d2 d3)).map look4 = some (.body cb cenv, none, pc, (Sc w.params os l d1 d2 d3))
noncomputable def seg3P : Prop := ∀ (w : World) (os : OsState) (l : Life) (d1 d2 d3 : SetD) (p : Pos), ev treeTable pw w 1000 G2 p (fin1 (do blockStart cb cenv; pure .next)) (Sc w.params os l d1 d2 d3) = some (.ok .next, p, (Sc w.params os l d1 d2 d3))
noncomputable def seg3F (pw : Program) (G2 : Ctx) (cb : List Stmt) (cenv : Env) (Sc : Params → OsState → Life → SetD → SetD → SetD → SharedT) : Prop := ∀ (w : World) (os : OsState) (l : Life) (d1 d2 d3 : SetD) (p : Pos), ev treeTable pw w 1000 G2 p (fin1 (do blockStart cb cenv; pure .next)) (Sc w.params os l d1 d2 d3) = some (.ok .next, p, (Sc w.params os l d1 d2 d3))
lay_quick Mine.seg2F
lay_quick Mine.seg3F
theorem seg2 : seg2P := by show seg2F pw G1 tb0 env1 Sb cb cenv Sc; rw [PySem.W.Fast.te12556650406128767658]; intro w os l d1 d2 d3 p; kernel_rfl!
theorem seg3 : seg3P := by show seg3F pw G2 cb cenv Sc; rw [PySem.W.Fast.te18272630251971097573]; intro w os l d1 d2 d3 p; kernel_rfl!
noncomputable def seg5eP : Prop := ∀ (w : World) (os : OsState) (l : Life) (d1 d2 d3 : SetD) (p : Pos), ev treeTable pw w 100000 G2 p (fin1 (execs ((cb.drop 3).take 7) cenv)) (Sd2 w.params os l d1 d2 d3) = some (.ok .next, ⟨295, 4, 311, 19⟩, (Se w.params os l d1 d2 d3))
noncomputable def seg5eF (pw : Program) (G2 : Ctx) (cb : List Stmt) (cenv : Env) (Sd2 : Params → OsState → Life → SetD → SetD → SetD → SharedT) (Se : Params → OsState → Life → SetD → SetD → SetD → SharedT) : Prop := ∀ (w : World) (os : OsState) (l : Life) (d1 d2 d3 : SetD) (p : Pos), ev treeTable pw w 100000 G2 p (fin1 (execs ((cb.drop 3).take 7) cenv)) (Sd2 w.params os l d1 d2 d3) = some (.ok .next, ⟨295, 4, 311, 19⟩, (Se w.params os l d1 d2 d3))
noncomputable def seg5fP : Prop := ∀ (w : World) (os : OsState) (l : Life) (d1 d2 d3 : SetD) (p : Pos), ev treeTable pw w 100000 G2 p (fin1 (execs ((cb.drop 10).take 1) cenv)) (Se w.params os l d1 d2 d3) = some (.ok .next, ⟨312, 4, 312, 7⟩, (Sf w.params os l d1 d2 d3))
noncomputable def seg5fF (pw : Program) (G2 : Ctx) (cb : List Stmt) (cenv : Env) (Se : Params → OsState → Life → SetD → SetD → SetD → SharedT) (Sf : Params → OsState → Life → SetD → SetD → SetD → SharedT) : Prop := ∀ (w : World) (os : OsState) (l : Life) (d1 d2 d3 : SetD) (p : Pos), ev treeTable pw w 100000 G2 p (fin1 (execs ((cb.drop 10).take 1) cenv)) (Se w.params os l d1 d2 d3) = some (.ok .next, ⟨312, 4, 312, 7⟩, (Sf w.params os l d1 d2 d3))
lay_quick Mine.seg5eF
lay_quick Mine.seg5fF
theorem seg5e : seg5eP := by show seg5eF pw G2 cb cenv Sd2 Se; rw [PySem.W.Fast.te15498236503308959217]; intro w os l d1 d2 d3 p; kernel_rfl!
theorem seg5f : seg5fP := by show seg5fF pw G2 cb cenv Se Sf; rw [PySem.W.Fast.te17818454684708522131]; intro w os l d1 d2 d3 p; kernel_rfl!
noncomputable def seg5gP : Prop := ∀ (w : World) (os : OsState) (l : Life) (d1 d2 d3 : SetD) (p : Pos), ev treeTable pw w 100000 G2 p (fin1 (execs ((cb.drop 11).take 1) cenv)) (Sf w.params os l d1 d2 d3) = some (.ok .next, ⟨313, 4, 313, 7⟩, (Sg w.params os l d1 d2 d3))
noncomputable def seg5gF (pw : Program) (G2 : Ctx) (cb : List Stmt) (cenv : Env) (Sf : Params → OsState → Life → SetD → SetD → SetD → SharedT) (Sg : Params → OsState → Life → SetD → SetD → SetD → SharedT) : Prop := ∀ (w : World) (os : OsState) (l : Life) (d1 d2 d3 : SetD) (p : Pos), ev treeTable pw w 100000 G2 p (fin1 (execs ((cb.drop 11).take 1) cenv)) (Sf w.params os l d1 d2 d3) = some (.ok .next, ⟨313, 4, 313, 7⟩, (Sg w.params os l d1 d2 d3))
lay_quick Mine.seg5gF
theorem seg5g : seg5gP := by show seg5gF pw G2 cb cenv Sf Sg; rw [PySem.W.Fast.te4378476323227654712]; intro w os l d1 d2 d3 p; kernel_rfl!
noncomputable def seg5hP : Prop := ∀ (w : World) (os : OsState) (l : Life) (d1 d2 d3 : SetD) (p : Pos), ev treeTable pw w 100000 G2 p (fin1 (execs ((cb.drop 12).take 2) cenv)) (Sg w.params os l d1 d2 d3) = some (.ok .next, ⟨315, 4, 315, 7⟩, (Sh w.params os l d1 d2 d3))
noncomputable def seg5hF (pw : Program) (G2 : Ctx) (cb : List Stmt) (cenv : Env) (Sg : Params → OsState → Life → SetD → SetD → SetD → SharedT) (Sh : Params → OsState → Life → SetD → SetD → SetD → SharedT) : Prop := ∀ (w : World) (os : OsState) (l : Life) (d1 d2 d3 : SetD) (p : Pos), ev treeTable pw w 100000 G2 p (fin1 (execs ((cb.drop 12).take 2) cenv)) (Sg w.params os l d1 d2 d3) = some (.ok .next, ⟨315, 4, 315, 7⟩, (Sh w.params os l d1 d2 d3))
noncomputable def seg7P : Prop := ∀ (w : World) (os : OsState) (l : Life) (d1 d2 d3 : SetD) (p : Pos), ev treeTable pw w 100000 G1 p (fin1 (execs (tb0.drop 7) env1)) (Si w.params os l d1 d2 d3) = some (.ok .next, ⟨363, 0, 390, 70⟩, (Sz w.params os l d1 d2 d3))
noncomputable def seg7F (pw : Program) (G1 : Ctx) (tb0 : List Stmt) (env1 : Env) (Si : Params → OsState → Life → SetD → SetD → SetD → SharedT) (Sz : Params → OsState → Life → SetD → SetD → SetD → SharedT) : Prop := ∀ (w : World) (os : OsState) (l : Life) (d1 d2 d3 : SetD) (p : Pos), ev treeTable pw w 100000 G1 p (fin1 (execs (tb0.drop 7) env1)) (Si w.params os l d1 d2 d3) = some (.ok .next, ⟨363, 0, 390, 70⟩, (Sz w.params os l d1 d2 d3))
lay_quick Mine.seg5hF
lay_quick Mine.seg7F
theorem seg5h : seg5hP := by show seg5hF pw G2 cb cenv Sg Sh; rw [PySem.W.Fast.te8405091501994377482]; intro w os l d1 d2 d3 p; kernel_rfl!
theorem seg7 : seg7P := by show seg7F pw G1 tb0 env1 Si Sz; rw [PySem.W.Fast.te1068078348617958076]; intro w os l d1 d2 d3 p; kernel_rfl!
noncomputable def seg6P : Prop := ∀ (w : World) (os : OsState) (l : Life) (d1 d2 d3 : SetD) (p : Pos), ∀ (l2 : Life) (e1 e2 e3 : SetD), (cut treeTable pw w 4000 G1 p (fin1 (exec (stA tb0 6) env1)) (Sb w.params os l d1 d2 d3)).bind (fun q => ev treeTable pw w 4000 G1 q.p (q.k (.ok .next)) (Sh w.params os l2 e1 e2 e3)) = some (.ok .next, pc, (Si w.params os l2 e1 e2 e3))
noncomputable def seg6F (pw : Program) (G1 : Ctx) (tb0 : List Stmt) (env1 : Env) (Sb : Params → OsState → Life → SetD → SetD → SetD → SharedT) (Sh : Params → OsState → Life → SetD → SetD → SetD → SharedT) (Si : Params → OsState → Life → SetD → SetD → SetD → SharedT) : Prop := ∀ (w : World) (os : OsState) (l : Life) (d1 d2 d3 : SetD) (p : Pos), ∀ (l2 : Life) (e1 e2 e3 : SetD), (cut treeTable pw w 4000 G1 p (fin1 (exec (stA tb0 6) env1)) (Sb w.params os l d1 d2 d3)).bind (fun q => ev treeTable pw w 4000 G1 q.p (q.k (.ok .next)) (Sh w.params os l2 e1 e2 e3)) = some (.ok .next, pc, (Si w.params os l2 e1 e2 e3))
noncomputable def seg0bP : Prop := ∀ (w : World) (os : OsState) (l : Life) (d1 d2 d3 : SetD) (p : Pos), ∀ sT : SharedT, (cut treeTable pw w 2000 G0 default (topX.bind fun v => .pure (.done (.ret v))) (S0 w.params os l d1 d2 d3)).bind (fun q => ev treeTable pw w 100 G0 q.p (q.k (.ok .next)) sT) = some (.ok (.ret .none), pz, sT)
noncomputable def seg0bF (pw : Program) (G0 : Ctx) (tb0 : List Stmt) (S0 : Params → OsState → Life → SetD → SetD → SetD → SharedT) : Prop := ∀ (w : World) (os : OsState) (l : Life) (d1 d2 d3 : SetD) (p : Pos), ∀ sT : SharedT, (cut treeTable pw w 2000 G0 default ((topXF pw tb0).bind fun v => .pure (.done (.ret v))) (S0 w.params os l d1 d2 d3)).bind (fun q => ev treeTable pw w 100 G0 q.p (q.k (.ok .next)) sT) = some (.ok (.ret .none), pz, sT)
lay_quick Mine.seg6F
lay_quick Mine.seg0bF
theorem seg6 : seg6P := by show seg6F pw G1 tb0 env1 Sb Sh Si; rw [PySem.W.Fast.te2332836752394875031]; intro w os l d1 d2 d3 p l2 e1 e2 e3; kernel_rfl!
theorem seg0b : seg0bP := by show seg0bF pw G0 tb0 S0; rw [PySem.W.Fast.te3666953072752428853]; intro w os l d1 d2 d3 p sT; kernel_rfl!
noncomputable def asT : Stmt → List PySem.Expr | .Assign t _ _ => t | _ => []
noncomputable def asV : Stmt → PySem.Expr | .Assign _ v _ => v | _ => .Name "" default
noncomputable def asP : Stmt → Pos | .Assign _ _ p => p | _ => default
noncomputable def seE : PySem.Expr → List PySem.Expr | .Set e _ _ => e | _ => []
noncomputable def seK : PySem.Expr → Nat | .Set _ k _ => k | _ => 0
noncomputable def seP : PySem.Expr → Pos | .Set _ _ p => p | _ => default
noncomputable def seg4aP : Prop := ∀ (w : World) (os : OsState) (l : Life) (d1 d2 d3 : SetD) (p : Pos), ev treeTable pw w 1000 G2 p ((assignAll (.ref 230) ((assignEach (asT (stA cb 0)) cenv).map (·.2))).bind fun _ => .pure (.done .next)) ⟨(Tc w.params d1 d2 d3).ins 230 (sO d1), 231, l, #[], boot_drawn, 491, os⟩ = some (.ok .next, ⟨169, 4, 169, 7⟩, Sd0 w.params os l d1 d2 d3)
noncomputable def seg4aF (pw : Program) (G2 : Ctx) (cb : List Stmt) (cenv : Env) (Tc : Params → SetD → SetD → SetD → BT) (boot_drawn : Drawn) (Sd0 : Params → OsState → Life → SetD → SetD → SetD → SharedT) : Prop := ∀ (w : World) (os : OsState) (l : Life) (d1 d2 d3 : SetD) (p : Pos), ev treeTable pw w 1000 G2 p ((assignAll (.ref 230) ((assignEach (asT (stA cb 0)) cenv).map (·.2))).bind fun _ => .pure (.done .next)) ⟨(Tc w.params d1 d2 d3).ins 230 (sO d1), 231, l, #[], boot_drawn, 491, os⟩ = some (.ok .next, ⟨169, 4, 169, 7⟩, Sd0 w.params os l d1 d2 d3)
noncomputable def seg4bP : Prop := ∀ (w : World) (os : OsState) (l : Life) (d1 d2 d3 : SetD) (p : Pos), ev treeTable pw w 1000 G2 p ((assignAll (.ref 231) ((assignEach (asT (stA cb 1)) cenv).map (·.2))).bind fun _ => .pure (.done .next)) ⟨(Td0 w.params d1 d2 d3).ins 231 (sO d2), 232, l, #[], boot_drawn, 526, os⟩ = some (.ok .next, ⟨170, 4, 170, 14⟩, Sd1 w.params os l d1 d2 d3)
noncomputable def seg4bF (pw : Program) (G2 : Ctx) (cb : List Stmt) (cenv : Env) (Td0 : Params → SetD → SetD → SetD → BT) (boot_drawn : Drawn) (Sd1 : Params → OsState → Life → SetD → SetD → SetD → SharedT) : Prop := ∀ (w : World) (os : OsState) (l : Life) (d1 d2 d3 : SetD) (p : Pos), ev treeTable pw w 1000 G2 p ((assignAll (.ref 231) ((assignEach (asT (stA cb 1)) cenv).map (·.2))).bind fun _ => .pure (.done .next)) ⟨(Td0 w.params d1 d2 d3).ins 231 (sO d2), 232, l, #[], boot_drawn, 526, os⟩ = some (.ok .next, ⟨170, 4, 170, 14⟩, Sd1 w.params os l d1 d2 d3)
noncomputable def seg4cP : Prop := ∀ (w : World) (os : OsState) (l : Life) (d1 d2 d3 : SetD) (p : Pos), ev treeTable pw w 1000 G2 p ((assignAll (.ref 232) ((assignEach (asT (stA cb 2)) cenv).map (·.2))).bind fun _ => .pure (.done .next)) ⟨(Td1 w.params d1 d2 d3).ins 232 (sO d3), 233, l, #[], boot_drawn, 545, os⟩ = some (.ok .next, ⟨171, 4, 171, 16⟩, Sd2 w.params os l d1 d2 d3)
noncomputable def seg4cF (pw : Program) (G2 : Ctx) (cb : List Stmt) (cenv : Env) (Td1 : Params → SetD → SetD → SetD → BT) (boot_drawn : Drawn) (Sd2 : Params → OsState → Life → SetD → SetD → SetD → SharedT) : Prop := ∀ (w : World) (os : OsState) (l : Life) (d1 d2 d3 : SetD) (p : Pos), ev treeTable pw w 1000 G2 p ((assignAll (.ref 232) ((assignEach (asT (stA cb 2)) cenv).map (·.2))).bind fun _ => .pure (.done .next)) ⟨(Td1 w.params d1 d2 d3).ins 232 (sO d3), 233, l, #[], boot_drawn, 545, os⟩ = some (.ok .next, ⟨171, 4, 171, 16⟩, Sd2 w.params os l d1 d2 d3)
lay_quick Mine.seg4aF
lay_quick Mine.seg4bF
lay_quick Mine.seg4cF
theorem seg4a : seg4aP := by show seg4aF pw G2 cb cenv Tc boot_drawn Sd0; rw [PySem.W.Fast.te17155245902328642143]; intro w os l d1 d2 d3 p; kernel_rfl!
theorem seg4b : seg4bP := by show seg4bF pw G2 cb cenv Td0 boot_drawn Sd1; rw [PySem.W.Fast.te12310856581750775935]; intro w os l d1 d2 d3 p; kernel_rfl!
theorem seg4c : seg4cP := by show seg4cF pw G2 cb cenv Td1 boot_drawn Sd2; rw [PySem.W.Fast.te9330554201857252695]; intro w os l d1 d2 d3 p; kernel_rfl!
theorem setform0 : stA cb 0 = .Assign (asT (stA cb 0)) (.Set (seE (asV (stA cb 0))) (seK (asV (stA cb 0))) (seP (asV (stA cb 0)))) (asP (stA cb 0)) := by kernel_rfl!
theorem setroad0 : displayRoad (seK (asV (stA cb 0))) (seE (asV (stA cb 0))) = .unsure := by kernel_rfl!
theorem setplain0 : (seE (asV (stA cb 0))).all kdsPlain = true := by kernel_rfl!
theorem setlen0 : (seE (asV (stA cb 0))).length ≤ 30 := Nat.le_of_ble_eq_true (by kernel_rfl!)
theorem setform1 : stA cb 1 = .Assign (asT (stA cb 1)) (.Set (seE (asV (stA cb 1))) (seK (asV (stA cb 1))) (seP (asV (stA cb 1)))) (asP (stA cb 1)) := by kernel_rfl!
theorem setroad1 : displayRoad (seK (asV (stA cb 1))) (seE (asV (stA cb 1))) = .unsure := by kernel_rfl!
theorem setplain1 : (seE (asV (stA cb 1))).all kdsPlain = true := by kernel_rfl!
theorem setlen1 : (seE (asV (stA cb 1))).length ≤ 30 := Nat.le_of_ble_eq_true (by kernel_rfl!)
theorem setform2 : stA cb 2 = .Assign (asT (stA cb 2)) (.Set (seE (asV (stA cb 2))) (seK (asV (stA cb 2))) (seP (asV (stA cb 2)))) (asP (stA cb 2)) := by kernel_rfl!
theorem setroad2 : displayRoad (seK (asV (stA cb 2))) (seE (asV (stA cb 2))) = .unsure := by kernel_rfl!
theorem setplain2 : (seE (asV (stA cb 2))).all kdsPlain = true := by kernel_rfl!
theorem setlen2 : (seE (asV (stA cb 2))).length ≤ 30 := Nat.le_of_ble_eq_true (by kernel_rfl!)
noncomputable def setX0 : List Str := ["a", "e", "i", "o", "u", "y", "ä", "å", "ö"]
theorem setstr0 : (seE (asV (stA cb 0))).map cStr? = setX0.map some := by kernel_rfl!
theorem alive0 (P : Params) (d1 d2 d3 : SetD) : allAlive (Tc P d1 d2 d3) 230 = true := by kernel_rfl!
theorem ins0 (P : Params) (d1 d2 d3 : SetD) (o : Obj) : (((Tc P d1 d2 d3).ins 230 o).get 230).isSome = true := by kernel_rfl!
theorem code0 (P : Params) (d1 d2 d3 : SetD) : (Tc P d1 d2 d3).get 228 = some (o228_0 P) := by kernel_rfl!
noncomputable def setX1 : List Str := ["b", "c", "d", "f", "g", "h", "j", "k", "l", "m", "n", "o", "p", "r", "t", "v", "y"]
theorem setstr1 : (seE (asV (stA cb 1))).map cStr? = setX1.map some := by kernel_rfl!
theorem alive1 (P : Params) (d1 d2 d3 : SetD) : allAlive (Td0 P d1 d2 d3) 231 = true := by kernel_rfl!
theorem ins1 (P : Params) (d1 d2 d3 : SetD) (o : Obj) : (((Td0 P d1 d2 d3).ins 231 o).get 231).isSome = true := by kernel_rfl!
theorem code1 (P : Params) (d1 d2 d3 : SetD) : (Td0 P d1 d2 d3).get 228 = some (o228_0 P) := by kernel_rfl!
noncomputable def setX2 : List Str := ["i", "k", "l", "n", "p", "r", "t", "u", "v"]
theorem setstr2 : (seE (asV (stA cb 2))).map cStr? = setX2.map some := by kernel_rfl!
theorem alive2 (P : Params) (d1 d2 d3 : SetD) : allAlive (Td1 P d1 d2 d3) 232 = true := by kernel_rfl!
theorem ins2 (P : Params) (d1 d2 d3 : SetD) (o : Obj) : (((Td1 P d1 d2 d3).ins 232 o).get 232).isSome = true := by kernel_rfl!
theorem code2 (P : Params) (d1 d2 d3 : SetD) : (Td1 P d1 d2 d3).get 228 = some (o228_0 P) := by kernel_rfl!
end Mine
end
end PartHC
section PartHF
set_option maxRecDepth 100000
noncomputable section
namespace Mine
open PySem PySem.W PyProof.Rows PySem.Calls PySem.Spec
section
variable {M : Model} {G : PySem.Ctx} {env : Env}
theorem wp_app {Q : Flow → Pos → Shared → Prop} {E : Value → Pos → Shared → Prop} : ∀ (l r : List Stmt) (p : Pos) (s : Shared),
    (execs l env).wp M G (fun f p s => f = .next ∧ (execs r env).wp M G Q E p s) E p s → (execs (l ++ r) env).wp M G Q E p s
  | [], r, p, s, h => by
    obtain ⟨_, h⟩ := h
    exact h
  | st :: l, r, p, s, h => by
    have e1 : ∀ l', execs (st :: l') env = (exec st env >>= fun f => match f with | .next => execs l' env | f => pure f) := fun _ => rfl
    rw [List.cons_append, e1, Sem.wp_bind']
    rw [e1, Sem.wp_bind'] at h
    refine Sem.wp_mono _ _ _ (fun f p' s' h' => ?_) (fun _ _ _ x => x) _ _ h
    cases f with
    | next => exact wp_app l r p' s' h'
    | _ => exact absurd h'.1 (by intro e; cases e)
theorem wp_one {Q : Flow → Pos → Shared → Prop} {E : Value → Pos → Shared → Prop} {st : Stmt} {r : List Stmt} {p : Pos} {s : Shared}
    (h : (exec st env).wp M G (fun f p s => f = .next ∧ (execs r env).wp M G Q E p s) E p s) : (execs (st :: r) env).wp M G Q E p s := by
  have e1 : execs (st :: r) env = (exec st env >>= fun f => match f with | .next => execs r env | f => pure f) := rfl
  rw [e1, Sem.wp_bind']
  refine Sem.wp_mono _ _ _ (fun f p' s' h' => ?_) (fun _ _ _ x => x) _ _ h
  obtain ⟨rfl, h'⟩ := h'
  exact h'
theorem wp_body {b : List Stmt} {R : Result → Shared → Prop} {prog : Program} {w : World} {p : Pos} {s : Shared} (hc : G.code = .body b env)
    (h : (blockStart b env).wp (model prog w) G (fun _ p s => (execs b env).wp (model prog w) G (fun f _ s => R (.ok f) s) (fun _ _ _ => False) p s) (fun _ _ _ => False) p s) : wpCode (model prog w) G R p s := by
  rw [wpCode_iff_wp, hc]
  have e : (model prog w).den (.body b env) = (blockStart b env >>= fun _ => ((execs b env).onRaise (leaving env)) >>= fun f => pure (.done f)) := rfl
  rw [e, Sem.wp_bind']
  refine Sem.wp_mono _ _ _ (fun _ p' s' h' => ?_) (fun _ _ _ x => x.elim) _ _ h
  rw [Sem.wp_bind', Sem.wp_onRaise]
  refine Sem.wp_mono _ _ _ (fun f p2 s2 h2 => ?_) (fun _ _ _ x => x.elim) _ _ h'
  rw [Sem.wp_pure']
  exact h2
end
section
variable {w : World} {os : OsState} {l : Life} {d1 d2 d3 : SetD} {p : Pos}
theorem ev_t {n : Nat} {G : PySem.Ctx} {t : Sem Fin} {s : SharedT} {r : Result × Pos × SharedT} (h : ev treeTable pw w n G p t s = some r) : ev table pw w n G p t s = some r := by rw [table_eq_tree]; exact h
theorem cut_t {n : Nat} {G : PySem.Ctx} {t : Sem Fin} {s : SharedT} : cut table pw w n G p t s = cut treeTable pw w n G p t s := by rw [table_eq_tree]
noncomputable abbrev NO : Value → Pos → Shared → Prop := fun _ _ _ => False
/-- a piece that was evaluated -/
theorem piece {α : Type} {emb : α → Flow} {n : Nat} {G : PySem.Ctx} {x : Sem α} {s s' : SharedT} {f : Flow} {p' : Pos} (h : ev treeTable pw w n G p (x.bind fun a => .pure (.done (emb a))) s = some (.ok f, p', s')) :
    x.wp (model pw w) G (fun a q σ => emb a = f ∧ q = p' ∧ σ = s'.abs) NO p s.abs :=
  Sem.wp_mono _ _ _ (fun a q σ ⟨e, hq, hs⟩ => ⟨(Except.ok.inj e).symm, hq, hs⟩) (fun _ _ _ ⟨e, _, _⟩ => by cases e) _ _ (ev_wp emb n G p x s (.ok f) p' s' (ev_t h))
theorem tc_any {P : Params} {e1 e2 e3 : SetD} : Tc P d1 d2 d3 = Tc P e1 e2 e3 := rfl
theorem td0_any {P : Params} {e2 e3 : SetD} : Td0 P d1 d2 d3 = Td0 P d1 e2 e3 := rfl
theorem td1_any {P : Params} {e3 : SetD} : Td1 P d1 d2 d3 = Td1 P d1 d2 e3 := rfl
noncomputable abbrev AG : Around := { handled := none, depth := frameCount G2.below + G2.code.weight, frames := none, guards := none, units := G2.units }
theorem g2_in : G2.In AG := ⟨rfl, Nat.le_refl _, fun l h => (nomatch h), fun l h => (nomatch h), Nat.le_refl _⟩
theorem frag_one {T : BT} {n : Nat} {a : Nat} {o : Obj} (h : Nat.blt a n = true) (g : T.get a = some o) (al : alive o = some o) : Frag.In [(a, o)] (absHeap T n l) := by
  intro b x e
  have e' : (if b == a then some o else none) = some x := by
    rw [← e]
    show _ = List.lookup b [(a, o)]
    unfold List.lookup
    cases b == a <;> rfl
  by_cases q : b = a
  · subst q
    rw [if_pos (beq_self_eq_true _)] at e'
    rw [get_of h g al]; exact e'
  · rw [if_neg (by simpa using q)] at e'
    cases e'
theorem alive228 (P : Params) : alive (o228_0 P) = some (o228_0 P) := rfl
theorem kcode (P : Params) : kdsCode [(228, o228_0 P)] cenv.code = true := by kernel_rfl!
theorem set_stmt {targets elts : List PySem.Expr} {k : Nat} {sp pos pp : Pos} {xs : List Str} {T : BT} {n tk : Nat} {S : Life → SetD → SharedT}
    (hc : Nat.blt 228 n = true) (hg : T.get 228 = some (o228_0 w.params)) (hroad : displayRoad k elts = .unsure) (hp : elts.all kdsPlain = true) (hlen : elts.length ≤ 30) (hx : elts.map cStr? = xs.map some)
    (hal : allAlive T n = true) (hins : ∀ o, ((T.ins n o).get n).isSome = true) (hsw : swapsWithSole targets (.Set elts k sp) pos.line cenv = pure false) (hst : swappedStores targets (.Set elts k sp) cenv = pure none)
    (seg : ∀ l d p, ev treeTable pw w 1000 G2 p ((assignAll (.ref n) ((assignEach targets cenv).map (·.2))).bind fun _ => .pure (.done .next)) ⟨T.ins n (sO d), n + 1, l, #[], boot_drawn, tk + xs.length + xs.length, os⟩ = some (.ok .next, pp, S l d)) :
    (exec (.Assign targets (.Set elts k sp) pos) cenv).wp (model pw w) G2 (fun f _ σ => f = .next ∧ ∃ l' d, Bears w d xs ∧ σ = (S l' d).abs) NO p (SharedT.abs ⟨T, n, l, #[], boot_drawn, tk, os⟩) := by
  rw [exec_Assign_arm, Sem.wp_bind', Sem.wp_cmd_standAt, hsw, Sem.wp_bind', Sem.wp_pure', if_neg (by decide), Sem.wp_bind']
  refine Sem.wp_mono _ _ _ (fun v p1 s1 h1 => ?_) (fun _ _ _ x => x) _ _ (set_eval (A := AG) (E := fun _ _ => False) (env := cenv) (pos := sp) (w := w) (tk := tk) (os := os)
    (Q := fun v σ => v = .ref n ∧ ∃ d l', Bears w d xs ∧ σ = SharedT.abs ⟨T.ins n (sO d), n + 1, l', #[], boot_drawn, tk + xs.length + xs.length, os⟩)
    (frag_one hc hg (alive228 _)) (kcode _) hroad hp hlen hx hal hins (fun d l' hd => ⟨rfl, d, l', hd, rfl⟩) G2 pos g2_in)
  obtain ⟨rfl, d, l', hd, rfl⟩ := h1
  rw [hst, Sem.wp_bind', Sem.wp_pure']
  show Sem.wp _ _ (assignAll (.ref n) ((assignEach targets cenv).map (·.2)) >>= fun _ => pure Flow.next) _ _ _ _
  rw [Sem.wp_bind']
  refine Sem.wp_mono _ _ _ (fun _ p2 s2 h2 => ?_) (fun _ _ _ x => x) _ _ (piece (emb := fun _ => Flow.next) (seg l' d p1))
  obtain ⟨_, _, rfl⟩ := h2
  rw [Sem.wp_pure']
  exact ⟨rfl, l', d, hd, rfl⟩
end
end Mine
end
end PartHF
section PartHG
set_option maxRecDepth 100000
noncomputable section
namespace Mine
open PySem PySem.W PyProof.Rows PySem.Calls PySem.Spec
section
variable {w : World} {os : OsState} {l : Life} {d1 d2 d3 : SetD} {p : Pos}
theorem set0 : (exec (stA cb 0) cenv).wp (model pw w) G2 (fun f _ σ => f = .next ∧ ∃ l' d, Bears w d setX0 ∧ σ = (Sd0 w.params os l' d d2 d3).abs) NO p (Sc w.params os l d1 d2 d3).abs := by
  rw [setform0]
  exact set_stmt (pp := ⟨169, 4, 169, 7⟩) (T := Tc w.params d1 d2 d3) (S := fun l' d => Sd0 w.params os l' d d2 d3) rfl (code0 _ _ _ _) setroad0 setplain0 setlen0 setstr0 (alive0 _ _ _ _) (ins0 _ _ _ _) rfl rfl (fun l d p => seg4a w os l d d2 d3 p)
theorem set1 : (exec (stA cb 1) cenv).wp (model pw w) G2 (fun f _ σ => f = .next ∧ ∃ l' d, Bears w d setX1 ∧ σ = (Sd1 w.params os l' d1 d d3).abs) NO p (Sd0 w.params os l d1 d2 d3).abs := by
  rw [setform1]
  exact set_stmt (pp := ⟨170, 4, 170, 14⟩) (T := Td0 w.params d1 d2 d3) (S := fun l' d => Sd1 w.params os l' d1 d d3) rfl (code1 _ _ _ _) setroad1 setplain1 setlen1 setstr1 (alive1 _ _ _ _) (ins1 _ _ _ _) rfl rfl (fun l d p => seg4b w os l d1 d d3 p)
theorem set2 : (exec (stA cb 2) cenv).wp (model pw w) G2 (fun f _ σ => f = .next ∧ ∃ l' d, Bears w d setX2 ∧ σ = (Sd2 w.params os l' d1 d2 d).abs) NO p (Sd1 w.params os l d1 d2 d3).abs := by
  rw [setform2]
  exact set_stmt (pp := ⟨171, 4, 171, 16⟩) (T := Td1 w.params d1 d2 d3) (S := fun l' d => Sd2 w.params os l' d1 d2 d) rfl (code2 _ _ _ _) setroad2 setplain2 setlen2 setstr2 (alive2 _ _ _ _) (ins2 _ _ _ _) rfl rfl (fun l d p => seg4c w os l d1 d2 d p)
theorem cb_split : cb = stA cb 0 :: stA cb 1 :: stA cb 2 :: ((cb.drop 3).take 7 ++ ((cb.drop 10).take 1 ++ ((cb.drop 11).take 1 ++ (cb.drop 12).take 2))) := by with_unfolding_all rfl
theorem tb_split : tb0 = tb0.take 6 ++ (stA tb0 6 :: tb0.drop 7) := by with_unfolding_all rfl
noncomputable def Sets (w : World) (d1 d2 d3 : SetD) : Prop := Bears w d1 setX0 ∧ Bears w d2 setX1 ∧ Bears w d3 setX2
theorem class_body : wpCode (model pw w) G2 (fun r σ => r = .ok .next ∧ ∃ l' d1 d2 d3, Sets w d1 d2 d3 ∧ σ = (Sh w.params os l' d1 d2 d3).abs) pc (Sc w.params os l d1 d2 d3).abs := by
  refine wp_body (b := cb) (env := cenv) rfl ?_
  have h3 := seg3 w os l d1 d2 d3 pc
  have h3' := piece (emb := id) (x := (blockStart cb cenv >>= fun _ => pure .next : Sem Flow)) h3
  rw [Sem.wp_bind'] at h3'
  refine Sem.wp_mono _ _ _ (fun _ p1 s1 h1 => ?_) (fun _ _ _ x => x) _ _ h3'
  rw [Sem.wp_pure'] at h1
  obtain ⟨_, _, rfl⟩ := h1
  rw [cb_split]
  refine wp_one (Sem.wp_mono _ _ _ (fun f p2 s2 h2 => ?_) (fun _ _ _ x => x) _ _ (set0 (d2 := d2) (d3 := d3)))
  obtain ⟨rfl, l1, a1, b1, rfl⟩ := h2
  refine ⟨rfl, wp_one (Sem.wp_mono _ _ _ (fun f p2 s2 h2 => ?_) (fun _ _ _ x => x) _ _ (set1 (d3 := d3)))⟩
  obtain ⟨rfl, l2, a2, b2, rfl⟩ := h2
  refine ⟨rfl, wp_one (Sem.wp_mono _ _ _ (fun f p2 s2 h2 => ?_) (fun _ _ _ x => x) _ _ set2)⟩
  obtain ⟨rfl, l3, a3, b3, rfl⟩ := h2
  refine ⟨rfl, wp_app _ _ _ _ (Sem.wp_mono _ _ _ (fun f p2 s2 h2 => ?_) (fun _ _ _ x => x) _ _ (piece (emb := id) (seg5e w os l3 a1 a2 a3 _)))⟩
  obtain ⟨rfl, _, rfl⟩ := h2
  refine ⟨rfl, wp_app _ _ _ _ (Sem.wp_mono _ _ _ (fun f p2 s2 h2 => ?_) (fun _ _ _ x => x) _ _ (piece (emb := id) (seg5f w os l3 a1 a2 a3 _)))⟩
  obtain ⟨rfl, _, rfl⟩ := h2
  refine ⟨rfl, wp_app _ _ _ _ (Sem.wp_mono _ _ _ (fun f p2 s2 h2 => ?_) (fun _ _ _ x => x) _ _ (piece (emb := id) (seg5g w os l3 a1 a2 a3 _)))⟩
  obtain ⟨rfl, _, rfl⟩ := h2
  refine ⟨rfl, Sem.wp_mono _ _ _ (fun f p2 s2 h2 => ?_) (fun _ _ _ x => x) _ _ (piece (emb := id) (seg5h w os l3 a1 a2 a3 _))⟩
  obtain ⟨rfl, _, rfl⟩ := h2
  exact ⟨rfl, l3, a1, a2, a3, ⟨b1, b2, b3⟩, rfl⟩
theorem look_eq {x : Option Pend} {a : Code × Option Value × Pos × SharedT} (h : x.map look4 = some a) : ∃ q, x = some q ∧ q.c = a.1 ∧ q.h = a.2.1 ∧ q.p = a.2.2.1 ∧ q.s = a.2.2.2 := by
  obtain ⟨q, e, rfl⟩ := Option.map_eq_some_iff.mp h
  exact ⟨q, e, rfl, rfl, rfl, rfl⟩
theorem class_stmt : (exec (stA tb0 6) env1).wp (model pw w) G1 (fun f _ σ => f = .next ∧ ∃ l' d1 d2 d3, Sets w d1 d2 d3 ∧ σ = (Si w.params os l' d1 d2 d3).abs) NO p (Sb w.params os l d1 d2 d3).abs := by
  obtain ⟨q, e, e1, e2, e3, e4⟩ := look_eq (seg2 w os l d1 d2 d3 p)
  refine Sem.wp_mono _ _ _ (fun f p2 s2 h2 => ?_) (fun _ _ _ h2 => ?_) _ _ (cut_wp (emb := id) (R := fun r s' => r = .ok .next ∧ ∃ l' d1 d2 d3, Sets w d1 d2 d3 ∧ s' = Si w.params os l' d1 d2 d3) 4000 G1 p (exec (stA tb0 6) env1) _ q (cut_t.trans e) ?_)
  · obtain ⟨s', ⟨hf, l', a1, a2, a3, hS, rfl⟩, rfl⟩ := h2
    exact ⟨Except.ok.inj hf, l', a1, a2, a3, hS, rfl⟩
  · obtain ⟨s', ⟨hf, _⟩, _⟩ := h2
    cases hf
  · rw [e1, e2, e3, e4]
    refine wpCode_mono (fun r σ hr => ?_) class_body
    obtain ⟨rfl, l', a1, a2, a3, hS, rfl⟩ := hr
    have h6 := seg6 w os l d1 d2 d3 p l' a1 a2 a3
    rw [e] at h6
    have h6' : ev treeTable pw w 4000 G1 q.p (q.k (.ok .next)) (Sh w.params os l' a1 a2 a3) = some (.ok .next, pc, Si w.params os l' a1 a2 a3) := h6
    rw [e3] at h6'
    exact ⟨_, _, _, _, _, rfl, ev_t h6', rfl, l', a1, a2, a3, hS, rfl⟩
theorem top_body : wpCode (model pw w) G1 (fun r σ => r = .ok .next ∧ ∃ l' d1 d2 d3, Sets w d1 d2 d3 ∧ σ = (Sz w.params os l' d1 d2 d3).abs) pz (Sa w.params os l d1 d2 d3).abs := by
  refine wp_body (b := tb0) (env := env1) rfl ?_
  have h1' := piece (emb := id) (x := (blockStart tb0 env1 >>= fun _ => execs (tb0.take 6) env1 : Sem Flow)) (seg1 w os l d1 d2 d3)
  rw [Sem.wp_bind'] at h1'
  refine Sem.wp_mono _ _ _ (fun _ p1 s1 h1 => ?_) (fun _ _ _ x => x) _ _ h1'
  rw [tb_split]
  refine wp_app _ _ _ _ (Sem.wp_mono _ _ _ (fun f p2 s2 h2 => ?_) (fun _ _ _ x => x) _ _ h1)
  obtain ⟨rfl, _, rfl⟩ := h2
  refine ⟨rfl, wp_one (Sem.wp_mono _ _ _ (fun f p2 s2 h2 => ?_) (fun _ _ _ x => x) _ _ class_stmt)⟩
  obtain ⟨rfl, l1, a1, a2, a3, hS, rfl⟩ := h2
  refine ⟨rfl, Sem.wp_mono _ _ _ (fun f p2 s2 h2 => ?_) (fun _ _ _ x => x) _ _ (piece (emb := id) (seg7 w os l1 a1 a2 a3 _))⟩
  obtain ⟨rfl, _, rfl⟩ := h2
  exact ⟨rfl, l1, a1, a2, a3, hS, rfl⟩
theorem top_tree : (topStub pw).cur = topX.bind fun v => .pure (.done (.ret v)) := by
  have hb : behindTheImports pw = tb0 := rfl
  unfold topStub topX topXF
  rw [hb]
  show (moduleCode pw.main).bind _ = ((moduleCode pw.main).bind _).bind _
  rw [Sem.bind_assoc]
  congr 1
  funext code
  show (newBodyFrame code mainNs mainNs).bind _ = ((newBodyFrame code mainNs mainNs).bind _).bind _
  rw [Sem.bind_assoc]
  congr 1
  funext frame
  show (run _).bind _ = ((run _).bind _).bind _
  rw [Sem.bind_assoc]
  rfl
theorem top_wp : (topStub pw).cur.wp (model pw w) G0 (fun f _ σ => f = .done (.ret .none) ∧ ∃ l' d1 d2 d3, Sets w d1 d2 d3 ∧ σ = (Sz w.params os l' d1 d2 d3).abs) NO default (S0 w.params os l d1 d2 d3).abs := by
  rw [top_tree]
  obtain ⟨q, e, e1, e2, e3, e4⟩ := look_eq (seg0 w os l d1 d2 d3)
  have hx := cut_wp (emb := fun v => Flow.ret v) (R := fun r s' => r = .ok (.ret .none) ∧ ∃ l' d1 d2 d3, Sets w d1 d2 d3 ∧ s' = Sz w.params os l' d1 d2 d3) 2000 G0 default topX _ q (cut_t.trans e) (by
    rw [e1, e2, e3, e4]
    refine wpCode_mono (fun r σ hr => ?_) top_body
    obtain ⟨rfl, l', a1, a2, a3, hS, rfl⟩ := hr
    have h6 := seg0b w os l d1 d2 d3 pz (Sz w.params os l' a1 a2 a3)
    rw [e] at h6
    have h6' : ev treeTable pw w 100 G0 q.p (q.k (.ok .next)) (Sz w.params os l' a1 a2 a3) = some (.ok (.ret .none), pz, Sz w.params os l' a1 a2 a3) := h6
    rw [e3] at h6'
    exact ⟨_, _, _, _, _, rfl, ev_t h6', rfl, l', a1, a2, a3, hS, rfl⟩)
  show Sem.wp _ _ (topX >>= fun v => pure (Fin.done (.ret v))) _ _ _ _
  rw [Sem.wp_bind']
  refine Sem.wp_mono _ _ _ (fun v p2 s2 h2 => ?_) (fun _ _ _ h2 => ?_) _ _ hx
  · obtain ⟨s', ⟨hf, l', a1, a2, a3, hS, rfl⟩, rfl⟩ := h2
    rw [Sem.wp_pure']
    have := Except.ok.inj hf
    rw [this]
    exact ⟨rfl, l', a1, a2, a3, hS, rfl⟩
  · obtain ⟨s', ⟨hf, _⟩, _⟩ := h2
    cases hf
end
end Mine
end
end PartHG
section PartHH
set_option maxRecDepth 100000
set_option maxHeartbeats 0
noncomputable section
namespace Mine
open PySem PySem.W
noncomputable def hz0 (P : Params) (d1 d2 d3 : SetD) (r : List Obj) : List Obj := (boot_o_0 P) :: (boot_o_1 P) :: (o2_1 P) :: (o3_3 P) :: (boot_o_4 P) :: (boot_o_5 P) :: (boot_o_6 P) :: (boot_o_7 P) :: (boot_o_8 P) :: (boot_o_9 P) :: (boot_o_10 P) :: (o11_0 P) :: (o12_3 P) :: (o13_0 P) :: r
noncomputable def hz1 (P : Params) (d1 d2 d3 : SetD) (r : List Obj) : List Obj := (o14_0 P) :: (o15_0 P) :: (o16_0 P) :: (o17_0 P) :: (o18_0 P) :: (o19_0 P) :: (o20_0 P) :: (o21_0 P) :: (o22_0 P) :: (o23_0 P) :: (o24_0 P) :: (o25_0 P) :: (o26_0 P) :: (o27_0 P) :: r
noncomputable def hz2 (P : Params) (d1 d2 d3 : SetD) (r : List Obj) : List Obj := (o28_0 P) :: (o29_0 P) :: (o30_0 P) :: (o31_0 P) :: (o32_0 P) :: (o33_0 P) :: (o34_0 P) :: (o35_0 P) :: (o36_0 P) :: (o37_0 P) :: (o38_0 P) :: (o39_0 P) :: (o40_0 P) :: (o41_0 P) :: r
noncomputable def hz3 (P : Params) (d1 d2 d3 : SetD) (r : List Obj) : List Obj := (o42_0 P) :: (o43_0 P) :: (o44_0 P) :: (o45_0 P) :: (o46_0 P) :: (o47_0 P) :: (o48_0 P) :: (o49_0 P) :: (o50_0 P) :: (o51_0 P) :: (o52_0 P) :: (o53_0 P) :: (o54_0 P) :: (o55_0 P) :: r
noncomputable def hz4 (P : Params) (d1 d2 d3 : SetD) (r : List Obj) : List Obj := (o56_0 P) :: (o57_0 P) :: (o58_0 P) :: (o59_0 P) :: (o60_0 P) :: (o61_0 P) :: (o62_0 P) :: (o63_0 P) :: (o64_0 P) :: (o65_0 P) :: (o66_0 P) :: (o67_0 P) :: (o68_0 P) :: (o69_0 P) :: r
noncomputable def hz5 (P : Params) (d1 d2 d3 : SetD) (r : List Obj) : List Obj := (o70_0 P) :: (o71_0 P) :: (o72_0 P) :: (o73_0 P) :: (o74_0 P) :: (o75_0 P) :: (o76_0 P) :: (o77_0 P) :: (o78_0 P) :: (o79_0 P) :: (o80_0 P) :: (o81_0 P) :: (o82_0 P) :: (o83_0 P) :: r
noncomputable def hz6 (P : Params) (d1 d2 d3 : SetD) (r : List Obj) : List Obj := (o84_0 P) :: (o85_0 P) :: (o86_0 P) :: (o87_0 P) :: (o88_0 P) :: (o89_0 P) :: (o90_0 P) :: (o91_0 P) :: (o92_0 P) :: (o93_0 P) :: (o94_0 P) :: (o95_0 P) :: (o96_0 P) :: (o97_0 P) :: r
noncomputable def hz7 (P : Params) (d1 d2 d3 : SetD) (r : List Obj) : List Obj := (o98_0 P) :: (o99_0 P) :: (o100_0 P) :: (o101_0 P) :: (o102_0 P) :: (o103_0 P) :: (o104_0 P) :: (o105_0 P) :: (o106_0 P) :: (o107_0 P) :: (o108_0 P) :: (o109_0 P) :: (o110_0 P) :: (o111_0 P) :: r
noncomputable def hz8 (P : Params) (d1 d2 d3 : SetD) (r : List Obj) : List Obj := (o112_0 P) :: (o113_0 P) :: (o114_0 P) :: (o115_0 P) :: (o116_0 P) :: (o117_0 P) :: (o118_0 P) :: (o119_0 P) :: (o120_0 P) :: (o121_0 P) :: (o122_0 P) :: (o123_0 P) :: (o124_0 P) :: (o125_0 P) :: r
noncomputable def hz9 (P : Params) (d1 d2 d3 : SetD) (r : List Obj) : List Obj := (o126_0 P) :: (o127_0 P) :: (o128_0 P) :: (o129_0 P) :: (o130_0 P) :: (o131_0 P) :: (o132_0 P) :: (o133_0 P) :: (o134_0 P) :: (o135_0 P) :: (o136_0 P) :: (o137_0 P) :: (o138_0 P) :: (o139_0 P) :: r
noncomputable def hz10 (P : Params) (d1 d2 d3 : SetD) (r : List Obj) : List Obj := (o140_0 P) :: (o141_0 P) :: (o142_0 P) :: (o143_0 P) :: (o144_0 P) :: (o145_0 P) :: (o146_0 P) :: (o147_0 P) :: (o148_0 P) :: (o149_0 P) :: (o150_0 P) :: (o151_0 P) :: (o152_0 P) :: (o153_0 P) :: r
noncomputable def hz11 (P : Params) (d1 d2 d3 : SetD) (r : List Obj) : List Obj := (o154_0 P) :: (o155_0 P) :: (o156_0 P) :: (o157_0 P) :: (o158_0 P) :: (o159_0 P) :: (o160_0 P) :: (o161_0 P) :: (o162_0 P) :: (o163_0 P) :: (o164_0 P) :: (o165_0 P) :: (o166_0 P) :: (o167_0 P) :: r
noncomputable def hz12 (P : Params) (d1 d2 d3 : SetD) (r : List Obj) : List Obj := (o168_0 P) :: (o169_0 P) :: (o170_0 P) :: (o171_0 P) :: (o172_0 P) :: (o173_0 P) :: (o174_0 P) :: (o175_0 P) :: (o176_0 P) :: (o177_0 P) :: (o178_0 P) :: (o179_0 P) :: (o180_0 P) :: (o181_0 P) :: r
noncomputable def hz13 (P : Params) (d1 d2 d3 : SetD) (r : List Obj) : List Obj := (o182_0 P) :: (o183_0 P) :: (o184_0 P) :: (o185_0 P) :: (o186_0 P) :: (o187_0 P) :: (o188_0 P) :: (o189_0 P) :: (o190_0 P) :: (o191_0 P) :: (o192_0 P) :: (o193_0 P) :: (o194_0 P) :: (o195_0 P) :: r
noncomputable def hz14 (P : Params) (d1 d2 d3 : SetD) (r : List Obj) : List Obj := (o196_0 P) :: (o197_1 P) :: (o198_0 P) :: (o199_0 P) :: (o200_0 P) :: (o201_0 P) :: (o202_0 P) :: (o203_0 P) :: (o204_0 P) :: (o205_0 P) :: (o206_0 P) :: (o207_0 P) :: (o208_0 P) :: (o209_0 P) :: r
noncomputable def hz15 (P : Params) (d1 d2 d3 : SetD) (r : List Obj) : List Obj := (o210_0 P) :: (o211_0 P) :: (o212_0 P) :: (o213_0 P) :: (o214_0 P) :: (o215_0 P) :: (o216_0 P) :: (o217_0 P) :: (o218_0 P) :: (o219_0 P) :: (o220_0 P) :: (o221_0 P) :: (o222_0 P) :: (o223_0 P) :: r
noncomputable def hz16 (P : Params) (d1 d2 d3 : SetD) (r : List Obj) : List Obj := (o224_0 P) :: (o225_8 P) :: (o226_0 P) :: (o227_1 P) :: (o228_0 P) :: (o229_0 P) :: (sO d1) :: (sO d2) :: (sO d3) :: (o233_0 P) :: (o234_0 P) :: (o235_0 P) :: (o236_0 P) :: (o237_0 P) :: r
noncomputable def hz17 (P : Params) (d1 d2 d3 : SetD) (r : List Obj) : List Obj := (o238_0 P) :: (o239_0 P) :: (o240_0 P) :: (o241_0 P) :: (o242_0 P) :: (o243_0 P) :: (o244_0 P) :: (o245_0 P) :: (o246_0 P) :: (o247_0 P) :: (o248_0 P) :: (o249_0 P) :: (o250_0 P) :: (o251_0 P) :: r
noncomputable def hz18 (P : Params) (d1 d2 d3 : SetD) (r : List Obj) : List Obj := (o252_0 P) :: (o253_0 P) :: (o254_0 P) :: (o255_0 P) :: (o256_0 P) :: (o257_0 P) :: (o258_0 P) :: (o259_0 P) :: (o260_0 P) :: (o261_0 P) :: (o262_0 P) :: (o263_0 P) :: (o264_0 P) :: (o265_0 P) :: r
noncomputable def hz19 (P : Params) (d1 d2 d3 : SetD) (r : List Obj) : List Obj := (o266_0 P) :: (o267_0 P) :: (o268_0 P) :: (o269_0 P) :: (o270_0 P) :: (o271_0 P) :: (o272_0 P) :: (o273_0 P) :: (o274_0 P) :: (o275_0 P) :: (o276_0 P) :: (o277_0 P) :: (o278_0 P) :: (o279_0 P) :: r
noncomputable def hz20 (P : Params) (d1 d2 d3 : SetD) (r : List Obj) : List Obj := (o280_0 P) :: (o281_0 P) :: (o282_0 P) :: (o283_0 P) :: (o284_0 P) :: (o285_0 P) :: (o286_0 P) :: (o287_0 P) :: (o288_0 P) :: (o289_0 P) :: (o290_0 P) :: (o291_0 P) :: (o292_0 P) :: (o293_0 P) :: r
noncomputable def hz21 (P : Params) (d1 d2 d3 : SetD) (r : List Obj) : List Obj := (o294_0 P) :: (o295_0 P) :: (o296_0 P) :: (o297_0 P) :: (o298_0 P) :: (o299_0 P) :: (o300_0 P) :: (o301_0 P) :: (o302_0 P) :: (o303_0 P) :: (o304_0 P) :: (o305_0 P) :: (o306_0 P) :: (o307_0 P) :: r
noncomputable def hz22 (P : Params) (d1 d2 d3 : SetD) (r : List Obj) : List Obj := (o308_0 P) :: (o309_0 P) :: (o310_0 P) :: (o311_0 P) :: (o312_0 P) :: (o313_0 P) :: (o314_0 P) :: (o315_0 P) :: (o316_0 P) :: (o317_0 P) :: (o318_0 P) :: (o319_0 P) :: (o320_0 P) :: (o321_0 P) :: r
noncomputable def hz23 (P : Params) (d1 d2 d3 : SetD) (r : List Obj) : List Obj := (o322_0 P) :: (o323_0 P) :: (o324_0 P) :: (o325_0 P) :: (o326_0 P) :: (o327_0 P) :: (o328_0 P) :: (o329_0 P) :: (o330_0 P) :: (o331_0 P) :: (o332_0 P) :: (o333_0 P) :: (o334_0 P) :: (o335_0 P) :: r
noncomputable def hz24 (P : Params) (d1 d2 d3 : SetD) (r : List Obj) : List Obj := (o336_0 P) :: (o337_0 P) :: (o338_0 P) :: (o339_0 P) :: (o340_0 P) :: (o341_0 P) :: (o342_0 P) :: (o343_0 P) :: (o344_0 P) :: (o345_0 P) :: (o346_0 P) :: (o347_0 P) :: (o348_0 P) :: (o349_0 P) :: r
noncomputable def hz25 (P : Params) (d1 d2 d3 : SetD) (r : List Obj) : List Obj := (o350_0 P) :: (o351_0 P) :: (o352_0 P) :: (o353_0 P) :: (o354_0 P) :: (o355_0 P) :: (o356_0 P) :: (o357_0 P) :: (o358_0 P) :: (o359_0 P) :: (o360_0 P) :: (o361_0 P) :: (o362_0 P) :: (o363_0 P) :: r
noncomputable def hz26 (P : Params) (d1 d2 d3 : SetD) (r : List Obj) : List Obj := (o364_0 P) :: (o365_0 P) :: (o366_0 P) :: (o367_0 P) :: (o368_0 P) :: (o369_0 P) :: (o370_0 P) :: (o371_0 P) :: (o372_0 P) :: (o373_0 P) :: (o374_0 P) :: (o375_0 P) :: (o376_0 P) :: (o377_0 P) :: r
noncomputable def hz27 (P : Params) (d1 d2 d3 : SetD) (r : List Obj) : List Obj := (o378_0 P) :: (o379_0 P) :: (o380_0 P) :: (o381_0 P) :: (o382_0 P) :: (o383_0 P) :: (o384_0 P) :: (o385_0 P) :: (o386_0 P) :: (o387_0 P) :: (o388_0 P) :: (o389_0 P) :: (o390_0 P) :: (o391_0 P) :: r
noncomputable def hz28 (P : Params) (d1 d2 d3 : SetD) (r : List Obj) : List Obj := (o392_0 P) :: (o393_0 P) :: (o394_0 P) :: (o395_0 P) :: (o396_0 P) :: (o397_0 P) :: (o398_0 P) :: (o399_0 P) :: (o400_0 P) :: (o401_0 P) :: (o402_0 P) :: (o403_0 P) :: (o404_0 P) :: (o405_0 P) :: r
noncomputable def hz29 (P : Params) (d1 d2 d3 : SetD) (r : List Obj) : List Obj := (o406_0 P) :: (o407_0 P) :: (o408_0 P) :: (o409_0 P) :: (o410_0 P) :: (o411_0 P) :: (o412_0 P) :: (o413_0 P) :: (o414_0 P) :: (o415_0 P) :: (o416_0 P) :: (o417_0 P) :: (o418_0 P) :: (o419_0 P) :: r
noncomputable def hz30 (P : Params) (d1 d2 d3 : SetD) (r : List Obj) : List Obj := (o420_0 P) :: (o421_0 P) :: (o422_0 P) :: (o423_0 P) :: (o424_0 P) :: (o425_0 P) :: (o426_0 P) :: (o427_0 P) :: (o428_0 P) :: (o429_0 P) :: (o430_0 P) :: (o431_0 P) :: (o432_0 P) :: (o433_0 P) :: r
noncomputable def hz31 (P : Params) (d1 d2 d3 : SetD) (r : List Obj) : List Obj := (o434_0 P) :: (o435_0 P) :: (o436_0 P) :: (o437_0 P) :: (o438_0 P) :: (o439_0 P) :: (o440_0 P) :: (o441_0 P) :: (o442_0 P) :: (o443_0 P) :: (o444_0 P) :: (o445_0 P) :: (o446_0 P) :: (o447_0 P) :: r
noncomputable def hz32 (P : Params) (d1 d2 d3 : SetD) (r : List Obj) : List Obj := (o448_0 P) :: (o449_0 P) :: (o450_0 P) :: (o451_0 P) :: (o452_0 P) :: (o453_0 P) :: (o454_0 P) :: (o455_0 P) :: (o456_0 P) :: (o457_0 P) :: (o458_0 P) :: (o459_0 P) :: (o460_0 P) :: (o461_0 P) :: r
noncomputable def hz33 (P : Params) (d1 d2 d3 : SetD) (r : List Obj) : List Obj := (o462_0 P) :: (o463_0 P) :: (o464_0 P) :: (o465_0 P) :: (o466_0 P) :: (o467_0 P) :: (o468_0 P) :: (o469_0 P) :: (o470_0 P) :: (o471_0 P) :: (o472_0 P) :: (o473_0 P) :: (o474_0 P) :: (o475_0 P) :: r
noncomputable def hz34 (P : Params) (d1 d2 d3 : SetD) (r : List Obj) : List Obj := (o476_0 P) :: (o477_0 P) :: (o478_0 P) :: (o479_0 P) :: (o480_0 P) :: (o481_0 P) :: (o482_0 P) :: (o483_0 P) :: (o484_0 P) :: (o485_0 P) :: (o486_0 P) :: (o487_0 P) :: (o488_0 P) :: (o489_0 P) :: r
noncomputable def hz35 (P : Params) (d1 d2 d3 : SetD) (r : List Obj) : List Obj := (o490_0 P) :: (o491_0 P) :: (o492_0 P) :: (o493_0 P) :: (o494_0 P) :: (o495_0 P) :: (o496_0 P) :: (o497_0 P) :: (o498_0 P) :: (o499_0 P) :: (o500_0 P) :: (o501_0 P) :: (o502_0 P) :: (o503_0 P) :: r
noncomputable def hz36 (P : Params) (d1 d2 d3 : SetD) (r : List Obj) : List Obj := (o504_0 P) :: (o505_0 P) :: (o506_0 P) :: (o507_0 P) :: (o508_0 P) :: (o509_0 P) :: (o510_0 P) :: (o511_0 P) :: (o512_0 P) :: (o513_0 P) :: (o514_0 P) :: (o515_0 P) :: (o516_0 P) :: (o517_0 P) :: r
noncomputable def hz37 (P : Params) (d1 d2 d3 : SetD) (r : List Obj) : List Obj := (o518_0 P) :: (o519_0 P) :: (o520_0 P) :: (o521_0 P) :: (o522_0 P) :: (o523_0 P) :: (o524_0 P) :: (o525_0 P) :: (o526_0 P) :: (o527_0 P) :: (o528_0 P) :: (o529_0 P) :: (o530_0 P) :: (o531_0 P) :: r
noncomputable def hz38 (P : Params) (d1 d2 d3 : SetD) (r : List Obj) : List Obj := (o532_0 P) :: (o533_0 P) :: (o534_0 P) :: (o535_0 P) :: (o536_0 P) :: (o537_0 P) :: (o538_0 P) :: (o539_0 P) :: (o540_0 P) :: (o541_0 P) :: (o542_0 P) :: (o543_0 P) :: (o544_0 P) :: (o545_0 P) :: r
noncomputable def hz39 (P : Params) (d1 d2 d3 : SetD) (r : List Obj) : List Obj := (o546_0 P) :: (o547_0 P) :: (o548_0 P) :: (o549_0 P) :: (o550_0 P) :: (o551_0 P) :: (o552_0 P) :: (o553_0 P) :: (o554_0 P) :: (o555_0 P) :: (o556_0 P) :: (o557_0 P) :: (o558_0 P) :: (o559_0 P) :: r
noncomputable def hz40 (P : Params) (d1 d2 d3 : SetD) (r : List Obj) : List Obj := (o560_0 P) :: (o561_0 P) :: (o562_0 P) :: (o563_0 P) :: (o564_0 P) :: (o565_0 P) :: (o566_0 P) :: (o567_0 P) :: (o568_0 P) :: (o569_0 P) :: r
noncomputable def Hz (P : Params) (l : Life) (d1 d2 d3 : SetD) : Heap := ⟨Array.mk (hz0 P d1 d2 d3 (hz1 P d1 d2 d3 (hz2 P d1 d2 d3 (hz3 P d1 d2 d3 (hz4 P d1 d2 d3 (hz5 P d1 d2 d3 (hz6 P d1 d2 d3 (hz7 P d1 d2 d3 (hz8 P d1 d2 d3 (hz9 P d1 d2 d3 (hz10 P d1 d2 d3 (hz11 P d1 d2 d3 (hz12 P d1 d2 d3 (hz13 P d1 d2 d3 (hz14 P d1 d2 d3 (hz15 P d1 d2 d3 (hz16 P d1 d2 d3 (hz17 P d1 d2 d3 (hz18 P d1 d2 d3 (hz19 P d1 d2 d3 (hz20 P d1 d2 d3 (hz21 P d1 d2 d3 (hz22 P d1 d2 d3 (hz23 P d1 d2 d3 (hz24 P d1 d2 d3 (hz25 P d1 d2 d3 (hz26 P d1 d2 d3 (hz27 P d1 d2 d3 (hz28 P d1 d2 d3 (hz29 P d1 d2 d3 (hz30 P d1 d2 d3 (hz31 P d1 d2 d3 (hz32 P d1 d2 d3 (hz33 P d1 d2 d3 (hz34 P d1 d2 d3 (hz35 P d1 d2 d3 (hz36 P d1 d2 d3 (hz37 P d1 d2 d3 (hz38 P d1 d2 d3 (hz39 P d1 d2 d3 (hz40 P d1 d2 d3 []))))))))))))))))))))))))))))))))))))))))), l⟩
theorem hz_eq (P : Params) (l : Life) (d1 d2 d3 : SetD) : absHeap (Tz P d1 d2 d3) 570 l = Hz P l d1 d2 d3 := by kernel_rfl!
theorem hb_eq (P : Params) (d1 d2 d3 : SetD) : absHeap (T0 P d1 d2 d3) 11 (boot_heap P).life = boot_heap P := by kernel_rfl!
noncomputable def qv : Program := { pw with main := { pw.main with body := [stA tb0 24] } }
noncomputable def looseV : List Str := ["_wall", "BaseStemmer", "Among", "SwedishStemmer", "lab0", "_law_vowels", "_law_before_s", "_law_before_ost", "_law_stays", "_law_loose", "_law_forms", "_law_often", "_law_rest", "_law_signs", "_law_begins", "_law_ends", "_law_pairs", "_law_third", "_law_start", "_law_rests"]
noncomputable def lkAP : Prop := ∀ (w : World) (os : OsState) (l : Life) (d1 d2 d3 : SetD), (staticsOk (importedModules pw.main.body) (boot_heap w.params) (Hz w.params l d1 d2 d3) && namesBound pw (Hz w.params l d1 d2 d3) && laidKept (boot_heap w.params) (Hz w.params l d1 d2 d3)) = true
noncomputable def lkAF (pw : Program) (boot_heap : Params → Heap) (Hz : Params → Life → SetD → SetD → SetD → Heap) : Prop := ∀ (w : World) (os : OsState) (l : Life) (d1 d2 d3 : SetD), (staticsOk (importedModules pw.main.body) (boot_heap w.params) (Hz w.params l d1 d2 d3) && namesBound pw (Hz w.params l d1 d2 d3) && laidKept (boot_heap w.params) (Hz w.params l d1 d2 d3)) = true
noncomputable def lkBP : Prop := ∀ (w : World) (os : OsState) (l : Life) (d1 d2 d3 : SetD), openSeen qv looseV (importedModules pw.main.body) (fun s => xlAt qv [] s) true ⟨(Hz w.params l d1 d2 d3), #[], boot_drawn, 1790, os⟩ = openGood qv looseV
noncomputable def lkBF (qv : Program) (looseV : List Str) (pw : Program) (Hz : Params → Life → SetD → SetD → SetD → Heap) (boot_drawn : Drawn) : Prop := ∀ (w : World) (os : OsState) (l : Life) (d1 d2 d3 : SetD), openSeen qv looseV (importedModules pw.main.body) (fun s => xlAt qv [] s) true ⟨(Hz w.params l d1 d2 d3), #[], boot_drawn, 1790, os⟩ = openGood qv looseV
lay_quick Mine.lkAF
lay_quick Mine.lkBF
theorem lkA : lkAP := by show lkAF pw boot_heap Hz; rw [PySem.W.Fast.te5200624190550225629]; intro w os l d1 d2 d3; kernel_rfl!
theorem lkB : lkBP := by show lkBF qv looseV pw Hz boot_drawn; rw [PySem.W.Fast.te5840999016139437445]; intro w os l d1 d2 d3; kernel_rfl!
end Mine
end
end PartHH
section PartHI
set_option maxRecDepth 100000
noncomputable section
namespace Mine
open PySem PySem.W PyProof.Rows PySem.Calls PySem.Spec
noncomputable def YPf (w : World) (h : Heap) : Prop := (Kf w.params).In h ∧ SetHas w h 230 V ∧ SetHas w h 231 SE ∧ SetHas w h 232 OE
theorem YPf.keeps (w : World) (h h' : Heap) (y : YPf w h) (k : ∀ b o, h.get? b = some o → h'.get? b = some o) : YPf w h' := ⟨y.1.keeps k, y.2.1.keeps k, y.2.2.1.keeps k, y.2.2.2.keeps k⟩
section
variable {w : World} {P : Params} {os : OsState} {l : Life} {d1 d2 d3 : SetD}
theorem kf_in : (Kf P).In (Hz P l d1 d2 d3) := Frag.in_of (as := (Kf P).map (·.1)) rfl (by kernel_rfl!)
theorem hz230 : (Hz P l d1 d2 d3).get? 230 = some (sO d1) := by kernel_rfl!
theorem hz231 : (Hz P l d1 d2 d3).get? 231 = some (sO d2) := by kernel_rfl!
theorem hz232 : (Hz P l d1 d2 d3).get? 232 = some (sO d3) := by kernel_rfl!
theorem has_of {xs : List Str} {cs : List Nat} {f : Nat → Bool} {h : Heap} {a : Addr} {d : SetD} (hb : Bears w d xs) (hg : h.get? a = some (sO d)) (hx : xs = cs.map fun c => ⟨#[c]⟩) (hf : ∀ c, f c = cs.contains c) : SetHas w h a f := by
  obtain ⟨S, m, hS, hk⟩ := hb h a hg
  refine ⟨S, m, hS, fun c => ?_⟩
  rw [hk, hf, hx, Bool.eq_iff_iff, List.contains_iff_mem, List.contains_iff_mem, List.mem_map]
  constructor
  · rintro ⟨c', hc', e⟩
    have : c' = c := by injection e with e; injection e with e; injection e
    exact this ▸ hc'
  · intro hc
    exact ⟨c, hc, rfl⟩
theorem y_z (hS : Sets w d1 d2 d3) : YPf w (Hz w.params l d1 d2 d3) :=
  ⟨kf_in, has_of (cs := [97, 101, 105, 111, 117, 121, 228, 229, 246]) hS.1 hz230 (by decide +kernel) (fun c => by
      unfold V vowels
      rw [Bool.eq_iff_iff, List.contains_iff_mem, List.contains_iff_mem]
      exact List.Perm.mem_iff (by decide +kernel)),
    has_of hS.2.1 hz231 (by decide +kernel) (fun c => rfl), has_of hS.2.2 hz232 (by decide +kernel) (fun c => rfl)⟩
end
theorem sched_of {den : Code → Sem Fin} {p : Program} {w : World} : ∀ {n : Nat} {s σ : Shared} {t τ : Thread}, s.asleep → (∀ k s₁ t₁, runN den p w k s t = .running s₁ t₁ → t₁.calm = true) → runN den p w n s t = .running σ τ →
    schedN den p w n (.single s t) = .running (.single σ τ)
  | 0, s, σ, t, τ, _, _, h => by
    have e : Run.running s t = .running σ τ := h
    injection e with e1 e2
    subst e1 e2; rfl
  | n + 1, s, σ, t, τ, hz, hc, h => by
    have e := sstep_single den p w s t (hc 0 s t rfl) hz
    simp only [runN] at h
    cases hs : step den p w s t with
    | halt o s₂ => rw [hs] at h; cases h
    | go s₂ t₂ =>
      rw [hs] at h e
      rcases e with e | e
      · simp only [schedN, e, Step.lift]
        exact sched_of (Shared.asleep_of_life (step_life den p w s s₂ t t₂ hs) hz) (fun k s₁ t₁ q => hc (k + 1) s₁ t₁ (by simp only [runN, hs]; exact q)) h
      · cases e
theorem ran {w : World} {os : OsState} {l : Life} {d1 d2 d3 : SetD} (hz : (S0 w.params os l d1 d2 d3).abs.asleep) : ∃ n t e1 e2 e3, Sets w e1 e2 e3 ∧
    schedN (denote table) pw w n (.single (S0 w.params os l d1 d2 d3).abs (topStub pw)) = .running (.single (Sz w.params os l e1 e2 e3).abs t) ∧ through t = true := by
  have h := top_wp (w := w) (os := os) (l := l) (d1 := d1) (d2 := d2) (d3 := d3)
  obtain ⟨n, s', σ, p', leaf, hr, hfo, hl, hmin⟩ := wp_reaches_first (M := model pw w) h
  rcases hl with ⟨a, rfl, rfl, l', e1, e2, e3, hS, rfl⟩ | ⟨_, _, hF⟩
  · obtain rfl := Shared.eq_of_forget_eq hfo rfl
    have hc : ∀ k s₁ t₁, runN (denote table) pw w k (S0 w.params os l d1 d2 d3).abs (topStub pw) = .running s₁ t₁ → t₁.calm = true := by
      have h2 : Sem.wp (model pw w) G0 (topStub pw).cur (Sem.finPost (model pw w) G0 fun r s' => True ∧ leftWithCleanup s'.gens = false) (fun e _ s' => True ∧ leftWithCleanup s'.gens = false) default (S0 w.params os l d1 d2 d3).abs := by
        refine Sem.wp_mono _ _ _ (fun a p s hq => ?_) (fun _ _ _ hq => hq.elim) _ _ h
        obtain ⟨rfl, l2, a1, a2, a3, _, rfl⟩ := hq
        exact ⟨trivial, by show leftWithCleanup #[] = false; simp [leftWithCleanup]⟩
      obtain ⟨m, r, s2, hm, _⟩ := (wp_iff_halts (M := model pw w) (R := fun _ _ => True) ..).mp h2
      obtain ⟨s3, _, _, hcalm⟩ := runNI_real _ _ _ hm (outcomeOf_ends r)
      exact hcalm
    have hlife : (Sz w.params os l' e1 e2 e3).abs.heap.life = (S0 w.params os l d1 d2 d3).abs.heap.life := runN_life_running hr
    obtain rfl : l' = l := hlife
    exact ⟨n, _, e1, e2, e3, hS, sched_of hz hc hr, rfl⟩
  · exact hF.elim
noncomputable abbrev XPf : (Str → Option Value) → Heap → Prop := XL qv []
theorem chains : chainsOk qv = true := by kernel_rfl!
theorem opening_eq : opening pw = plainProg pw.main.scope.names := rfl
theorem behind (w : World) : (∃ s, AfterRun (opening pw) w s) ∧ ∀ s, AfterRun (opening pw) w s → ∃ s₀, fenceModules? pw s = some s₀ ∧ s₀.gens = #[] ∧ ∃ s₁, TopRan pw w s₀ s₁ ∧ s₁.asleep ∧ s₁.gens = #[] ∧ s₁.heap.isNs mainGlobals = true ∧
    Ground qv looseV [] XPf w s₁ (s₁.heap.nsMap mainGlobals) (s₁.heap.nsMap builtinsNs) s₁.heap ∧ YPf w s₁.heap := by
  obtain ⟨s₀, h2, h3⟩ := Option.map_eq_some_iff.mp (boot_open (p := pw) (N := 600) opening_eq rfl (fun s => rfl) w)
  obtain ⟨s, h4, h5⟩ := Option.bind_eq_some_iff.mp h2
  rw [← table_eq_tree] at h4
  have A := AfterImport.of_importEnds h4
  refine ⟨⟨s, A⟩, fun s' hs' => ?_⟩
  obtain rfl : s' = s := AfterImport.unique hs' A
  have z : s₀.asleep := Shared.asleep_of_life (fence_lifeW h5) A.life
  obtain ⟨h0, gs0, dr0, tk0, os⟩ := s₀
  obtain ⟨rfl, rfl, rfl, rfl⟩ : h0 = boot_heap w.params ∧ gs0 = #[] ∧ dr0 = boot_drawn ∧ tk0 = boot_toks := by simpa only [Prod.mk.injEq] using h3
  have es : (⟨boot_heap w.params, #[], boot_drawn, boot_toks, os⟩ : Shared) = (S0 w.params os (boot_heap w.params).life default default default).abs := by
    unfold SharedT.abs S0
    dsimp only
    rw [hb_eq]
    rfl
  rw [es] at z
  obtain ⟨n, t, e1, e2, e3, hS, hn, ht⟩ := ran z
  rw [← es] at hn z
  have ez : (Sz w.params os (boot_heap w.params).life e1 e2 e3).abs = ⟨Hz w.params (boot_heap w.params).life e1 e2 e3, #[], boot_drawn, 1790, os⟩ := by
    unfold SharedT.abs Sz
    dsimp only
    rw [hz_eq]
  rw [ez] at hn
  obtain ⟨hA, hl⟩ := Bool.and_eq_true_iff.mp (lkA w os (boot_heap w.params).life e1 e2 e3)
  obtain ⟨hs, hnb⟩ := Bool.and_eq_true_iff.mp hA
  obtain ⟨G, g0, g1, g2, g3, g4, g5⟩ := ground_of_open (w := w) (XP := XPf) (g0 := true) (fun s e => xl_of s e) chains (lkB w os (boot_heap w.params).life e1 e2 e3)
  refine ⟨_, h5, rfl, _, ⟨⟨n, t, hn, ht⟩, rfl, Shared.rest_eq rfl, fun b o hb hn => ?_, g2, statics_of_ok hs, g3, g4, g5, gens_of_done rfl, names_of_bound hnb, laid_of_kept hl⟩, z, rfl, g1, G, y_z hS⟩
  have hlt := Heap.lt_size hb
  have h11 : (boot_heap w.params).objs.size = 11 := rfl
  rw [h11] at hlt
  unfold theTopsOwn at hn
  have hne : b ≠ 3 ∧ b ≠ 2 := ⟨fun q => hn (.inl q), fun q => hn (.inr (.inl q))⟩
  have key : ∀ b, b < 11 → b ≠ 3 → b ≠ 2 → (Hz w.params (boot_heap w.params).life e1 e2 e3).get? b = (boot_heap w.params).get? b := by
    intro b hb h3 h2
    match b, hb, h3, h2 with
    | 0, _, _, _ => rfl
    | 1, _, _, _ => rfl
    | 4, _, _, _ => rfl
    | 5, _, _, _ => rfl
    | 6, _, _, _ => rfl
    | 7, _, _, _ => rfl
    | 8, _, _, _ => rfl
    | 9, _, _, _ => rfl
    | 10, _, _, _ => rfl
  exact (key b hlt hne.1 hne.2).trans hb
end Mine
end
end PartHI
section PartHJ
set_option maxRecDepth 100000
noncomputable section
namespace Mine
open PySem PySem.W PyProof.Rows PySem.Calls PySem.Spec
/-- the claim, from the run of the top as shown by hand -/
theorem holds_by {r : OpenRow} {d : DefRec} {kwd : List (Str × PySem.Expr)} (hpw : r.prog = pw) (hrec : r.records = [])
    (hdef : defOf qv r.name = some (d, kwd)) (hp : r.prog.theDef r.name = some (d.params, d.body, d.scope)) (hk : kwWritten? d.params.kwonlyargs d.params.kw_defaults = some kwd)
    (k1 : r.wellSaid = true) (o1 : opensWell r.prog = true) (hfr : frees r.toRowW = true) (hwi : r.within = []) (hb : r.prog.bare) (hw : r.toRowW.promised)
    (call : WalkO qv looseV XPf YPf r.toRowW d kwd fun f vs => PySem.call f vs) : r.Holds := by
  obtain ⟨hsame, hu, ha, hap, hm⟩ := frees_parts hfr
  refine ⟨k1, hw, ⟨hb, o1, by show r.makers.map _ = []; rw [hm]; rfl⟩, hw.witness, fun w => ?_⟩
  have B := behind w
  rw [← hpw] at B
  refine ⟨B.1, fun s' hs' => ?_⟩
  obtain ⟨s₀, hf, hg0, s, hT, hz, hgens, hg, G0, Y⟩ := B.2 s' hs'
  have RF : RecFacts r.records s.heap := recFacts_nil hrec
  have G : Ground qv looseV r.records XPf w s _ _ s.heap := RF.ground G0
  refine ⟨s₀, hf, hg0, s, hT, fun n hn => ?_, RF.1, RF.2.1, ?_⟩
  · have : n = r.name := by split at hn <;> simp_all
    subst this
    exact pinned_of_view hg G0 hdef hp hk
  refine ClaimW.callFrom_of_specG (c := r.toRowW.claim) hz hgens fun args hpre hlay ord hord => ?_
  obtain ⟨⟨vs, s₁⟩, hlaid⟩ := Option.isSome_iff_exists.mp (layAllW_isSome (P := w.params) (ord := ord) G.has args r.args s (pre_splitW hpre).1)
  have keeps := layAllW_keeps _ _ _ hlaid
  have hal := layAllW_rest _ _ _ hlaid
  obtain ⟨as, hrd, hin, hold⟩ := reads_layAllW hord _ _ _ hlaid hlay s₁.heap (fun _ _ e => e)
  have L : Laid r.records w s s₁ args vs as := ⟨⟨ord, hord, hlaid⟩, hrd, hin, hold, keeps, hal.1.trans hgens, hal.2.2.1⟩
  have G₁ := G.keeps XL.keeps keeps
  obtain ⟨a, o, pm, cd, doc, dV, kV, f1, f2, f3, f4, f5⟩ := G₁.fn hdef
  have h := call w s s₁ _ _ G₁ (YPf.keeps _ _ _ Y keeps) a o pm cd doc dV kV f2 f3 f4 f5 (defOf_name hdef ▸ f1) L.gens args vs as hpre hlay L.reads L.well (L.low G.low)
  have hi := ident_freeW hu ha hap
  have hwr : (!r.writes || r.records.isEmpty) = true := by rw [hrec]; cases r.writes <;> rfl
  refine ⟨vs, s₁, hlaid, wpAny_bind (wpAny_nsGet G₁.T.g ?_)⟩
  rw [f1]
  refine wpAny_bind (wpAny_mono h (fun v s' g => ?_) fun e s' g => ?_)
  · have z := g.laid (c := r.toRowW.claim) hsame hwi hi L
    exact wpAny_pure ⟨_, rfl, z.1, z.2.1, z.2.2, fun q => ⟨namesKept_of hT hg r.keeps keeps g.2.1.old, noTable hwr q⟩⟩
  · have z := g.laid (c := r.toRowW.claim) hsame hwi hi L
    exact ⟨z.1, z.2.1, z.2.2, fun q => ⟨namesKept_of hT hg r.keeps keeps g.2.1.old, noTable hwr q⟩⟩
end Mine
end
end PartHJ
section PartHK
set_option maxRecDepth 100000
set_option maxHeartbeats 8000000
open PySem PySem.W PyProof.Rows
theorem Mine.end_law {w : World} {L lv : Addr} {s₁ : Shared} {mg mb : Str → Option Value} {loose : List Str} {mean : ExcName → Option Value} {p0 : Program} {h₁ : Heap} {tk : Nat} {c : ClaimW} {cl : Str → Option Addr} {mean2 : ExcName → Option Value} {args : List WData} {vs : List Value} {ns : List Int}
    (K : (Mine.Kf w.params).In s₁.heap) (T : Top p0 loose mean mg mb s₁.heap) (F : Fr s₁.heap L h₁ (fun x => [(Str.ofString "script", Value.ref lv)].lookup x)) (hl : s₁.heap.IsList lv vs.toArray) (hi : IntsAre vs ns) (hn : ns.length ≤ 63)
    (S1 : Mine.SetHas w s₁.heap 230 Mine.V) (S2 : Mine.SetHas w s₁.heap 231 Mine.SE) (S3 : Mine.SetHas w s₁.heap 232 Mine.OE) (hg : s₁.gens = #[])
    (hc1 : ∀ q, c.raises args q = false) (hc2 : c.post args (.bool true) args = true) (hc3 : c.unshared = true → True) (B : Below callerA s₁.heap [] s₁.heap) :
    wpAny (Mine.MD w) (callerA.deeper (Mine.EL L)) (execs (Mine.fnB (Mine.stA Mine.tb0 24)) (Mine.EL L)) (fun f s' => GoodW c cl mean2 args s₁ (Except.ok (Flow.ret (match f with | Flow.ret v => v | _ => Value.none))) s')
      (fun e s' => wpAny (Mine.MD w) (callerA.deeper (Mine.EL L)) (leaving (Mine.EL L) e) (fun _ s'' => GoodW c cl mean2 args s₁ (Except.error e) s'') (fun e' s'' => GoodW c cl mean2 args s₁ (Except.error e') s'') s')
      { heap := h₁, gens := s₁.gens, drawn := s₁.drawn, toks := tk, os := s₁.os } := by
  have e : Mine.AL (callerA.deeper (Mine.EL L)).depth (callerA.deeper (Mine.EL L)).units (callerA.deeper (Mine.EL L)).guards L = callerA.deeper (Mine.EL L) := rfl
  rw [← e]
  refine Mine.law_body (u := fun _ => none) (s := { heap := h₁, gens := s₁.gens, drawn := s₁.drawn, toks := tk, os := s₁.os }) (E0 := fun e s' => GoodW c cl mean2 args s₁ (Except.error e) s') (show callerA.depth + 1 + 20 < recursionLimit by decide +kernel) (by rw [units_deeper]; decide +kernel) B ?_ K T S1 S2 S3 hl hi hn ?_
  · refine cast (congrArg _ ?_) F
    funext x
    simp only [List.lookup, kstB]
    split <;> simp_all
  · intro h tk m F
    exact ⟨.inl ⟨_, .bool true, [], rfl, hc1, .bool true, hc2, fun _ => ⟨List.nodup_nil, fun _ h => nomatch h⟩⟩, F.keep, rfl, hg⟩
theorem Mine.law_b (p) : ((defOf Mine.qv (PySem.Challenge.rw_is0010_01).row.name).get p).1.body = Mine.fnB (Mine.stA Mine.tb0 24) := by kernel_rfl!
theorem Mine.law_s (p) : ((defOf Mine.qv (PySem.Challenge.rw_is0010_01).row.name).get p).1.scope = Mine.fnS (Mine.stA Mine.tb0 24) := by kernel_rfl!
theorem Mine.law_n (p) : ((defOf Mine.qv (PySem.Challenge.rw_is0010_01).row.name).get p).1.name = Str.ofString "law" := by kernel_rfl!
theorem Mine.law_post (args : List WData) : (PySem.Challenge.rw_is0010_01).row.claim.post args (.bool true) args = true := by
  have h1 : WShape.has [] (.bool true) .bool = true := by decide +kernel
  have h2 : same (WData.bool true) (WData.bool true) = true := by decide +kernel
  have h3 : WTm.holds [] (.eq .res (.lit (.bool true))) { args := args, res := some (.bool true), after := args } = true := by
    simp [WTm.holds, WTm.value, h2]
  show (WShape.has [] (.bool true) .bool && WTm.holds [] (.eq .res (.lit (.bool true))) { args := args, res := some (.bool true), after := args }) = true
  rw [h1, h3]; rfl
theorem Mine.walk_law : WalkO Mine.qv Mine.looseV Mine.XPf Mine.YPf (PySem.Challenge.rw_is0010_01).row.toRowW ((defOf Mine.qv (PySem.Challenge.rw_is0010_01).row.name).get (by decide +kernel)).1 ((defOf Mine.qv (PySem.Challenge.rw_is0010_01).row.name).get (by decide +kernel)).2 fun f vs => PySem.call f vs := by
  w_strict (intro w s₀ s₁ mg mb G Y fa o pm cd doc dV kV ho hd hcd hD hmg hg args vals as hpre hlay hrd hwl hlo; have KX := Y.1; have hmg' : mg (Str.ofString "law") = some (.ref fa) := hmg; have hcode : cd = .ref 568 := (by first | exact law_code (x := Str.ofString "law") (c := 568) (P := 567) KX G.T.g (by kernel_rfl!) hmg' ho hd | exact law_code (x := Str.ofString "law") (c := 568) (P := 566) KX G.T.g (by kernel_rfl!) hmg' ho hd | exact law_code (x := Str.ofString "law") (c := 568) (P := 565) KX G.T.g (by kernel_rfl!) hmg' ho hd | exact law_code (x := Str.ofString "law") (c := 568) (P := 570) KX G.T.g (by kernel_rfl!) hmg' ho hd | exact law_code (x := Str.ofString "law") (c := 568) (P := 571) KX G.T.g (by kernel_rfl!) hmg' ho hd); have hfa := mg_of KX G.T.g (n := Str.ofString "law") (v := .ref 569) (by kernel_rfl!); refine Ground.open G ?_; intro T Bd Dn TE TW; (try (refine guard_noD Dn (by decide +kernel) ?_; clear Dn)); (try (obtain ⟨_, _, he, B0⟩ := based_of_top T rfl hmg ho hd; have he' : cd = _ := he; subst he'; clear he)); clear hmg; wrow_args hpre hlay hrd hwl hlo; (first | refine callC_kw (enter_call ?_) | refine enter_call ?_ | refine callC_kw (enter_callW ?_) | refine enter_callW ?_); w_top on; (try refine codeAny_mono ?_ (fun _ _ g => GoodW.toG g)); have K0 := below_caller (Top.heap T); w_call any ho hd hcd hD T F; (try k_drop); (rename IntsAre _ _ => hI; rename Heap.IsList _ _ _ => hLst; rename Fr _ _ _ _ => F; rename Top _ _ _ _ _ _ => T; rename Below _ _ _ _ => K0); have efa : fa = 569 := Value.ref.inj (Option.some.inj (hmg'.symm.trans hfa)); subst efa; rename ¬ _ < _ => hcond; have ecd := Value.ref.inj hcode; rw [ecd, Mine.law_b, Mine.law_s, Mine.law_n]; obtain ⟨_, S1, S2, S3⟩ := Y; refine Mine.end_law KX T F hLst hI (by omega) S1 S2 S3 hg ?_ ?_ (fun _ => trivial) K0; (intro q; rfl); exact Mine.law_post _)
noncomputable def Mine.q1F (p : Program) : Bool := sreFenced p.main
noncomputable def Mine.q3F (p : Program) : Bool := namesResolve p
noncomputable def Mine.q5F (p : Program) : Bool := noRoadLSs { strict := !(importedModules p.main.body).all cThrough.contains, foot := none, bare := (["vars", "dir", "locals"] : List Str).filter (readsOut p p.main.body) } p.main.body
noncomputable def Mine.q6F (p : Program) : Bool := namesMeet p p.main.body fun _ n => attrL n
lay_quick Mine.q1F
lay_quick Mine.q3F
lay_quick Mine.q5F
lay_quick Mine.q6F
theorem Mine.look1 : sreFenced PySem.Challenge.rw_is0010_01.row.prog.main = true := by show Mine.q1F PySem.Challenge.rw_is0010_01.row.prog = true; rw [PySem.W.Fast.te4424384140971747260]; decide +kernel
theorem Mine.look3 : namesResolve PySem.Challenge.rw_is0010_01.row.prog = true := by show Mine.q3F PySem.Challenge.rw_is0010_01.row.prog = true; rw [PySem.W.Fast.te9764322514353846334]; decide +kernel
theorem Mine.look5 : noRoadLSs { strict := !(importedModules PySem.Challenge.rw_is0010_01.row.prog.main.body).all cThrough.contains, foot := none, bare := (["vars", "dir", "locals"] : List Str).filter (readsOut PySem.Challenge.rw_is0010_01.row.prog PySem.Challenge.rw_is0010_01.row.prog.main.body) } PySem.Challenge.rw_is0010_01.row.prog.main.body = true := by show Mine.q5F PySem.Challenge.rw_is0010_01.row.prog = true; rw [PySem.W.Fast.te4006455349289651615]; decide +kernel
theorem Mine.look6 : (namesMeet PySem.Challenge.rw_is0010_01.row.prog PySem.Challenge.rw_is0010_01.row.prog.main.body fun _ n => attrL n) = true := by show Mine.q6F PySem.Challenge.rw_is0010_01.row.prog = true; rw [PySem.W.Fast.te6012039097155351996]; decide +kernel
theorem Mine.said1 : PySem.Challenge.rw_is0010_01.wellSaid = true := by
  unfold OpenLaw.wellSaid OpenRow.wellSaid OpenRow.partSaid looksOpen
  simp only [Bool.and_eq_true]
  repeat' apply And.intro
  all_goals first | with_reducible exact Mine.look1 | with_reducible exact Mine.look3 | with_reducible exact Mine.look5 | with_reducible exact Mine.look6 | decide +kernel
theorem Mine.top_law : PySem.Challenge.rw_is0010_01.Holds := by
  refine holds_law Mine.said1 fun said => ?_
  refine Mine.holds_by (d := ((defOf Mine.qv (PySem.Challenge.rw_is0010_01).row.name).get (by decide +kernel)).1) (kwd := ((defOf Mine.qv (PySem.Challenge.rw_is0010_01).row.name).get (by decide +kernel)).2) rfl rfl ?hdef ?hp ?hk said (by decide +kernel) (by decide +kernel) rfl ⟨rfl, rfl, rfl, rfl, rfl, by decide +kernel⟩ ?hw Mine.walk_law
  case hdef => exact (Option.some_get (by decide +kernel)).symm
  case hp => rfl
  case hk => rfl
  case hw => w_witness2
end PartHK
set_option maxRecDepth 100000 in
set_option maxHeartbeats 8000000 in
theorem PySem.Challenge.cw_is0010_01_holds : PySem.Challenge.rw_is0010_01.Holds := by
  exact Mine.top_law
