import PyProof.Rows.All
import Wide.All
import OpenK.AllK
import Wide.FinOn
import KE.KItemsList
import KE.KSortKey
import KE.KLam
import PySem.Challenge.RW_ho0003_01
open PySem PySem.W PySem.Calls PyProof.Rows PySem.MeetsSeq PySem.SeqAt
set_option Elab.async false
set_option linter.all false
set_option compiler.extract_closed false
set_option genSizeOf false

namespace Mine.Internal
def au0 : Lean.Syntax := (Lean.Unhygienic.run `(Lean.Parser.Tactic.tacticSeq| decide)).raw
def au1 : Lean.Syntax := (Lean.Unhygienic.run `(Lean.Parser.Tactic.tacticSeq| with_unfolding_all rfl)).raw
def au2 : Lean.Syntax := (Lean.Unhygienic.run `(Lean.Parser.Tactic.tacticSeq| rfl)).raw
def au3 : Lean.Syntax := (Lean.Unhygienic.run `(Lean.Parser.Tactic.tacticSeq| intro _ _; rfl)).raw
def au4 : Lean.Syntax := (Lean.Unhygienic.run `(Lean.Parser.Tactic.tacticSeq| intro _; rfl)).raw
def au5 : Lean.Syntax := (Lean.Unhygienic.run `(Lean.Parser.Tactic.tacticSeq| simp)).raw
end Mine.Internal

section
namespace Mine.Internal

inductive PV where
  | none | bool (b : Bool) | int (i : Int) | str (x : Str) | tup (xs : List PV) | loc (a : Addr)

mutual
noncomputable def PV.beq : PV → PV → Bool
  | .none, .none => true
  | .bool a, .bool b => a == b
  | .int a, .int b => a == b
  | .str a, .str b => a == b
  | .tup a, .tup b => PV.beqs a b
  | .loc a, .loc b => a == b
  | _, _ => false
noncomputable def PV.beqs : List PV → List PV → Bool
  | [], [] => true
  | a :: as, b :: bs => PV.beq a b && PV.beqs as bs
  | _, _ => false
end
mutual
theorem PV.beq_iff : ∀ a b : PV, PV.beq a b = true ↔ a = b
  | .none, b => by cases b <;> first | exact ⟨fun _ => rfl, fun _ => rfl⟩ | exact ⟨fun h => absurd h Bool.false_ne_true, fun h => by cases h⟩
  | .bool a, b => by cases b <;> first | exact ⟨fun h => absurd h Bool.false_ne_true, fun h => by cases h⟩ | exact ⟨fun h => congrArg PV.bool (eq_of_beq (α := Bool) h), fun h => by cases h; exact beq_self_eq_true a⟩
  | .int a, b => by cases b <;> first | exact ⟨fun h => absurd h Bool.false_ne_true, fun h => by cases h⟩ | exact ⟨fun h => congrArg PV.int (eq_of_beq (α := Int) h), fun h => by cases h; exact beq_self_eq_true a⟩
  | .str a, b => by cases b <;> first | exact ⟨fun h => absurd h Bool.false_ne_true, fun h => by cases h⟩ | exact ⟨fun h => congrArg PV.str (eq_of_beq (α := Str) h), fun h => by cases h; exact beq_self_eq_true a⟩
  | .tup a, b => by cases b <;> first | exact ⟨fun h => absurd h Bool.false_ne_true, fun h => by cases h⟩ | exact ⟨fun h => congrArg PV.tup ((PV.beqs_iff a _).mp h), fun h => by injection h with e; exact (PV.beqs_iff a _).mpr e⟩
  | .loc a, b => by cases b <;> first | exact ⟨fun h => absurd h Bool.false_ne_true, fun h => by cases h⟩ | exact ⟨fun h => congrArg PV.loc (eq_of_beq (α := Nat) h), fun h => by cases h; exact beq_self_eq_true a⟩
theorem PV.beqs_iff : ∀ a b : List PV, PV.beqs a b = true ↔ a = b
  | [], b => by cases b <;> first | exact ⟨fun _ => rfl, fun _ => rfl⟩ | exact ⟨fun h => absurd h Bool.false_ne_true, fun h => by cases h⟩
  | a :: as, b => by
    cases b with
    | nil => exact ⟨fun h => absurd h Bool.false_ne_true, fun h => by cases h⟩
    | cons b bs =>
      refine ⟨fun h => ?_, fun h => ?_⟩
      · have h' := (Bool.and_eq_true _ _).mp (show (PV.beq a b && PV.beqs as bs) = true from h)
        rw [(PV.beq_iff a b).mp h'.1, (PV.beqs_iff as bs).mp h'.2]
      · injection h with e1 e2
        exact (Bool.and_eq_true _ _).mpr ⟨(PV.beq_iff a b).mpr e1, (PV.beqs_iff as bs).mpr e2⟩
end
@[reducible] noncomputable def PV.decEq : DecidableEq PV := fun a b => decidable_of_iff _ (PV.beq_iff a b)
@[reducible] noncomputable def PV.decEqs : DecidableEq (List PV) := fun a b => decidable_of_iff _ (PV.beqs_iff a b)

mutual
inductive Is (h : Heap) : Value → PV → Prop
  | none : Is h .none .none
  | bool (b : Bool) : Is h (.bool b) (.bool b)
  | int (i : Int) (t : Tok) : Is h (.int i t) (.int i)
  | str (x : Str) (t : Tok) : Is h (.str x t) (.str x)
  | tup {a : Addr} {n : Nat} {vs : List Value} {xs : List PV} : IsT h a vs.toArray n → IsAll h vs xs → Is h (.ref a) (.tup xs)
  | loc (a : Addr) : Is h (.ref a) (.loc a)
inductive IsAll (h : Heap) : List Value → List PV → Prop
  | nil : IsAll h [] []
  | cons {v : Value} {vs : List Value} {x : PV} {xs : List PV} : Is h v x → IsAll h vs xs → IsAll h (v :: vs) (x :: xs)
end

noncomputable def TupKeep (h h' : Heap) : Prop := ∀ a items n, IsT h a items n → IsT h' a items n
mutual
theorem Is.keep {h h' : Heap} (k : TupKeep h h') : ∀ {v : Value} {x : PV}, Is h v x → Is h' v x
  | _, _, .none => .none
  | _, _, .bool b => .bool b
  | _, _, .int i t => .int i t
  | _, _, .str x t => .str x t
  | _, _, .tup ht r => .tup (k _ _ _ ht) (IsAll.keep k r)
  | _, _, .loc a => .loc a
theorem IsAll.keep {h h' : Heap} (k : TupKeep h h') : ∀ {vs : List Value} {xs : List PV}, IsAll h vs xs → IsAll h' vs xs
  | _, _, .nil => .nil
  | _, _, .cons a r => .cons (Is.keep k a) (IsAll.keep k r)
end
section
variable {h : Heap} {vs ws : List Value} {xs ys : List PV} {v : Value} {x : PV}
theorem IsAll.length (H : IsAll h vs xs) : vs.length = xs.length := by
  induction vs generalizing xs with
  | nil => cases H; rfl
  | cons v vs ih => cases H with | cons _ r => simp [ih r]
theorem IsAll.two {h : Heap} {vs : List Value} {x y : PV} (i : IsAll h vs [x, y]) : ∃ u v, vs = [u, v] ∧ Is h u x ∧ Is h v y := by
  cases i with
  | cons a r => cases r with
    | cons b r => cases r; exact ⟨_, _, rfl, a, b⟩
theorem IsAll.append (H : IsAll h vs xs) (H' : IsAll h ws ys) : IsAll h (vs ++ ws) (xs ++ ys) := by
  induction vs generalizing xs with
  | nil => cases H; exact H'
  | cons v vs ih => cases H with | cons a r => exact .cons a (ih r)
theorem IsAll.snoc (H : IsAll h vs xs) (H' : Is h v x) : IsAll h (vs ++ [v]) (xs ++ [x]) := H.append (.cons H' .nil)
theorem IsAll.get (H : IsAll h vs xs) {i : Nat} {x : PV} (hi : xs[i]? = some x) : ∃ v, vs[i]? = some v ∧ Is h v x := by
  induction vs generalizing xs i with
  | nil => cases H; simp at hi
  | cons v vs ih =>
    cases H with
    | cons a r =>
      cases i with
      | zero => simp at hi; subst hi; exact ⟨v, rfl, a⟩
      | succ i => simp at hi; obtain ⟨w, e, q⟩ := ih r hi; exact ⟨w, by simpa using e, q⟩
theorem IsAll.get' (H : IsAll h vs xs) {i : Nat} {v : Value} (hi : vs[i]? = some v) : ∃ x, xs[i]? = some x ∧ Is h v x := by
  induction vs generalizing xs i with
  | nil => simp at hi
  | cons v vs ih =>
    cases H with
    | cons a r =>
      cases i with
      | zero => simp at hi; subst hi; exact ⟨_, rfl, a⟩
      | succ i => simp at hi; obtain ⟨w, e, q⟩ := ih r hi; exact ⟨w, by simpa using e, q⟩
theorem IsAll.take (H : IsAll h vs xs) (k : Nat) : IsAll h (vs.take k) (xs.take k) := by
  induction vs generalizing xs k with
  | nil => cases H; simp; exact .nil
  | cons v vs ih =>
    cases H with
    | cons a r =>
      cases k with
      | zero => simp; exact .nil
      | succ k => simp only [List.take_succ_cons]; exact .cons a (ih r k)
theorem IsAll.drop (H : IsAll h vs xs) (k : Nat) : IsAll h (vs.drop k) (xs.drop k) := by
  induction vs generalizing xs k with
  | nil => cases H; simp; exact .nil
  | cons v vs ih =>
    cases H with
    | cons a r =>
      cases k with
      | zero => simp; exact .cons a r
      | succ k => simp only [List.drop_succ_cons]; exact ih r k
theorem IsAll.mem (H : IsAll h vs xs) {v : Value} (hv : v ∈ vs) : ∃ x ∈ xs, Is h v x := by
  obtain ⟨i, hi⟩ := List.mem_iff_getElem?.mp hv
  obtain ⟨x, hx, q⟩ := H.get' hi
  exact ⟨x, List.mem_of_getElem? hx, q⟩
end

end Mine.Internal
end

section
namespace Mine.Internal

inductive Ty where
  | int | str | bool
  | tup (ts : List Ty)
  | seq (t : Ty)

mutual
noncomputable def HasTy : Ty → PV → Prop
  | .int, .int _ => True
  | .str, .str _ => True
  | .bool, .bool _ => True
  | .tup ts, .tup xs => HasTys ts xs
  | .seq t, .tup xs => AllTy t xs
  | _, _ => False
noncomputable def HasTys : List Ty → List PV → Prop
  | [], [] => True
  | t :: ts, x :: xs => HasTy t x ∧ HasTys ts xs
  | _, _ => False
noncomputable def AllTy : Ty → List PV → Prop
  | _, [] => True
  | t, x :: xs => HasTy t x ∧ AllTy t xs
end

mutual
noncomputable def Sim : PV → PV → Prop
  | .int _, .int _ => True
  | .str _, .str _ => True
  | .bool _, .bool _ => True
  | .tup xs, .tup ys => Sims xs ys
  | _, _ => False
noncomputable def Sims : List PV → List PV → Prop
  | x :: xs, y :: ys => Sim x y ∧ Sims xs ys
  | _, _ => True
end

mutual
theorem HasTy.sim : ∀ (t : Ty) (x y : PV), HasTy t x → HasTy t y → Sim x y
  | t, x, y, hx, hy => by
    cases x <;> cases y <;> cases t <;> first | exact False.elim hx | exact False.elim hy | exact True.intro | exact HasTys.sim _ _ _ hx hy | exact AllTy.sim _ _ _ hx hy
theorem HasTys.sim : ∀ (ts : List Ty) (xs ys : List PV), HasTys ts xs → HasTys ts ys → Sims xs ys
  | ts, [], ys, _, _ => by cases ys <;> exact True.intro
  | ts, x :: xs, [], _, _ => True.intro
  | [], x :: xs, y :: ys, hx, _ => False.elim hx
  | t :: ts, x :: xs, y :: ys, hx, hy => ⟨HasTy.sim t x y (And.left hx) (And.left hy), HasTys.sim ts xs ys (And.right hx) (And.right hy)⟩
theorem AllTy.sim : ∀ (t : Ty) (xs ys : List PV), AllTy t xs → AllTy t ys → Sims xs ys
  | t, [], ys, _, _ => by cases ys <;> exact True.intro
  | t, x :: xs, [], _, _ => True.intro
  | t, x :: xs, y :: ys, hx, hy => ⟨HasTy.sim t x y (And.left hx) (And.left hy), AllTy.sim t xs ys (And.right hx) (And.right hy)⟩
end
theorem AllTy.iff {t : Ty} {xs : List PV} : AllTy t xs ↔ ∀ x ∈ xs, HasTy t x := by
  induction xs with
  | nil => exact ⟨fun _ _ hx => (nomatch hx), fun _ => True.intro⟩
  | cons x xs ih => exact ⟨fun h y hy => (List.mem_cons.mp hy).elim (fun e => e ▸ h.1) (ih.mp h.2 y), fun h => ⟨h x (.head _), ih.mpr fun y hy => h y (.tail _ hy)⟩⟩

mutual
noncomputable def PV.deep : PV → Nat
  | .tup xs => PV.deeps xs + 1
  | _ => 0
noncomputable def PV.deeps : List PV → Nat
  | [] => 0
  | x :: xs => max (PV.deep x) (PV.deeps xs)
end
theorem PV.deep_le {xs : List PV} {x : PV} (h : x ∈ xs) : x.deep ≤ PV.deeps xs := by
  induction xs with
  | nil => cases h
  | cons y ys ih =>
    show _ ≤ max (PV.deep y) (PV.deeps ys)
    rcases List.mem_cons.mp h with rfl | h
    · exact Nat.le_max_left ..
    · exact Nat.le_trans (ih h) (Nat.le_max_right ..)

theorem IsTup_of {h : Heap} {a : Addr} {items : Array Value} {n : Nat} (x : IsT h a items n) : h.IsTuple a items := ⟨_, x, rfl, n, rfl⟩

theorem Sims.get {xs ys : List PV} (h : Sims xs ys) {i : Nat} {x y : PV} (hx : xs[i]? = some x) (hy : ys[i]? = some y) : Sim x y := by
  induction xs generalizing ys i with
  | nil => simp at hx
  | cons a xs ih =>
    cases ys with
    | nil => simp at hy
    | cons b ys =>
      cases i with
      | zero => simp at hx hy; subst hx hy; exact h.1
      | succ i => simp at hx hy; exact ih h.2 hx hy

theorem beqs_all (d : PV) : ∀ (xs ys : List PV), PV.beqs xs ys = ((List.range (min xs.length ys.length)).all (fun i => PV.beq (xs.getD i d) (ys.getD i d)) && xs.length == ys.length)
  | [], [] => rfl
  | [], y :: ys => by show false = _; simp
  | x :: xs, [] => by show false = _; simp
  | x :: xs, y :: ys => by
    show (PV.beq x y && PV.beqs xs ys) = _
    rw [beqs_all d xs ys, List.length_cons, List.length_cons]
    have e : min (xs.length + 1) (ys.length + 1) = min xs.length ys.length + 1 := by (first | lia | omega)
    rw [e, List.range_succ_eq_map, List.all_cons, List.all_map]
    simp [Function.comp_def, Bool.and_assoc]

mutual
theorem Is.simEq {h : Heap} : ∀ {v : Value} {x y : PV}, Is h v x → Is h v y → Sim x y → x = y
  | _, _, _, .none, q, f => by cases q; rfl
  | _, _, _, .bool b, q, f => by cases q; rfl
  | _, _, _, .int i t, q, f => by cases q; rfl
  | _, _, _, .str x t, q, f => by cases q; rfl
  | _, _, _, .tup ht r, q, f => by
    cases q with
    | tup ht' r' =>
      have e := ht.symm.trans ht'
      simp only [Option.some.injEq, Obj.mk.injEq, Data.seq.injEq, true_and, and_true] at e
      have e' := congrArg Array.toList e.1
      simp only at e'
      subst e'
      rw [IsAll.simEq r r' f]
    | loc a => exact f.elim
  | _, _, y, .loc a, q, f => by cases y <;> exact f.elim
theorem IsAll.simEq {h : Heap} : ∀ {vs : List Value} {xs ys : List PV}, IsAll h vs xs → IsAll h vs ys → Sims xs ys → xs = ys
  | _, _, _, .nil, q, _ => by cases q; rfl
  | _, _, _, .cons a r, q, f => by
    cases q with
    | cons a' r' => rw [Is.simEq a a' f.1, IsAll.simEq r r' f.2]
end

noncomputable def EqSimAt (n : Nat) : Prop := ∀ (A : Around) (s : Shared) (u v : Value) (x y : PV), x.deep ≤ n → A.units + n < cLine → Is s.heap u x → Is s.heap v y → Sim x y → EqAt A s u v (PV.beq x y)
theorem eqAt_step (n : Nat) (rec : ∀ m, n = m + 1 → EqSimAt m) : EqSimAt n := fun A s u v x y hn hu hx hy hs => by
    cases hx with
    | none => cases hy <;> exact hs.elim
    | bool b =>
      cases hy with
      | bool c =>
        show EqAt A s _ _ (b == c)
        intro prog w E Q h
        have e : (b == c) = decide (b = c) := by cases b <;> cases c <;> rfl
        rw [e] at h
        unfold eqBool
        refine wpAny_holding ?_
        refine wpAny_ite_split (fun hab => ?_) (fun hab => ?_)
        · have := eq_of_beq hab; injection this with e1; subst e1
          exact wpAny_bind (wpAny_rule (wpAny_pure (by simpa using h)))
        · refine wpAny_bind (PyProof.Rows.eq_bool (by
            refine wpAny_truthy_bool ?_
            have e2 : (b == c) = decide (b = c) := e
            rw [e2]; exact h))
      | _ => exact hs.elim
    | int i t =>
      cases hy with
      | int j t' => exact (MeetsSeq.EqGives.int i j t t').at A s
      | _ => exact hs.elim
    | str a t =>
      cases hy with
      | str b t' =>
        intro prog w E Q h
        refine wpAny_eqBool_str ?_
        have e : PV.beq (.str a) (.str b) = decide (a = b) := by
          show (a == b) = _
          by_cases hab : a = b
          · subst hab; simp
          · simp [hab]
        rw [e] at h; exact h
      | _ => exact hs.elim
    | loc a => cases hy <;> exact hs.elim
    | tup ht r =>
      rename_i a k vs xs
      cases hy with
      | tup ht' r' =>
        rename_i b k' ws ys
        by_cases hab : a = b
        · subst hab
          have e := ht.symm.trans ht'
          simp only [Option.some.injEq, Obj.mk.injEq, Data.seq.injEq, true_and, and_true] at e
          have e' := congrArg Array.toList e.1
          simp only at e'
          subst e'
          have e2 := IsAll.simEq r r' hs
          subst e2
          have e3 : PV.beq (.tup xs) (.tup xs) = true := (PV.beq_iff _ _).mpr rfl
          rw [e3]
          exact EqAt.same _
        · cases n with
          | zero => exact absurd hn (Nat.not_succ_le_zero _)
          | succ n =>
            have key := RcAt.tuples (A := A) (s := s) (e := fun i => PV.beq (xs.getD i .none) (ys.getD i .none)) (IsTup_of ht) (IsTup_of ht') (by (first | lia | omega)) (fun j h1 h2 => by
              simp only [List.size_toArray] at h1 h2
              have l1 := r.length
              have l2 := r'.length
              have h1' : j < xs.length := by (first | lia | omega)
              have h2' : j < ys.length := by (first | lia | omega)
              obtain ⟨p, hp, ip⟩ := r.get (List.getElem?_eq_getElem h1')
              obtain ⟨q, hq, iq⟩ := r'.get (List.getElem?_eq_getElem h2')
              have ep : vs.toArray[j] = p := by
                rw [List.getElem?_eq_getElem h1] at hp; simpa using hp
              have eq : ws.toArray[j] = q := by
                rw [List.getElem?_eq_getElem h2] at hq; simpa using hq
              rw [ep, eq]
              have g1 : xs.getD j .none = xs[j] := by simp [h1']
              have g2 : ys.getD j .none = ys[j] := by simp [h2']
              rw [g1, g2]
              replace hn : PV.deeps xs + 1 ≤ n + 1 := hn
              have := PV.deep_le (List.getElem_mem h1')
              exact rec n rfl A.in1 s p q _ _ (by (first | lia | omega)) (by simp; (first | lia | omega)) ip iq (Sims.get hs (List.getElem?_eq_getElem h1') (List.getElem?_eq_getElem h2')))
            simp only [List.size_toArray, r.length, r'.length] at key
            rw [← beqs_all] at key
            exact EqAt.of_refs hab key
      | _ => exact hs.elim
theorem eqAt_all : ∀ n, EqSimAt n
  | 0 => eqAt_step 0 fun _ e => nomatch e
  | n + 1 => eqAt_step (n + 1) fun m e => Nat.succ.inj e ▸ eqAt_all n
theorem eqAt_sim (n : Nat) (A : Around) (s : Shared) (u v : Value) (x y : PV) (h1 : x.deep ≤ n) (h2 : A.units + n < cLine) (h3 : Is s.heap u x) (h4 : Is s.heap v y) (h5 : Sim x y) : EqAt A s u v (PV.beq x y) := eqAt_all n A s u v x y h1 h2 h3 h4 h5

end Mine.Internal
end

section
open AutoSeq1 (wpAny_loadPart')
namespace Mine.Internal

mutual
noncomputable def PV.lt : PV → PV → Bool
  | .int a, .int b => decide (a < b)
  | .str a, .str b => decide (a.cps.toList < b.cps.toList)
  | .tup xs, .tup ys => PV.lts xs ys
  | _, _ => false
noncomputable def PV.lts : List PV → List PV → Bool
  | x :: xs, y :: ys => if PV.beq x y then PV.lts xs ys else PV.lt x y
  | [], _ :: _ => true
  | _, [] => false
end

theorem lts_cons (x y : PV) (xs ys : List PV) : PV.lts (x :: xs) (y :: ys) = if PV.beq x y = true then PV.lts xs ys else PV.lt x y := rfl

mutual
noncomputable def Ord : PV → PV → Prop
  | .int _, .int _ => True
  | .str _, .str _ => True
  | .tup xs, .tup ys => Ords xs ys
  | _, _ => False
noncomputable def Ords : List PV → List PV → Prop
  | x :: xs, y :: ys => Ord x y ∧ Ords xs ys
  | _, _ => True
end
mutual
theorem Ord.sim : ∀ (x y : PV), Ord x y → Sim x y
  | x, y, h => by
    cases x <;> cases y <;> first | exact False.elim h | exact True.intro | exact Ords.sim _ _ h
theorem Ords.sim : ∀ (xs ys : List PV), Ords xs ys → Sims xs ys
  | [], ys, _ => by cases ys <;> exact True.intro
  | x :: xs, [], _ => True.intro
  | x :: xs, y :: ys, h => ⟨Ord.sim x y h.1, Ords.sim xs ys h.2⟩
end

noncomputable def LtAt (A : Around) (s : Shared) (u v : Value) (b : Bool) : Prop :=
  ∀ (prog : Program) (w : World) (E : Value → Shared → Prop) (Q : Value → Shared → Prop), Q (.bool b) s → wpAny (model prog w) A (richCompare .Lt u v) Q E s

theorem tuple_lt_tree (A : Around) (s : Shared) (prog : Program) (w : World) (n : Nat) (a b : Addr) (ka kb : Nat) (vs ws : List Value) (xs ys : List PV) (P : Fin → Shared → Prop) (E : Value → Shared → Prop)
    (hu : A.units + n < cLine) (hd : PV.deeps xs ≤ n) (ha : IsT s.heap a vs.toArray ka) (hb : IsT s.heap b ws.toArray kb) (hx : IsAll s.heap vs xs) (hy : IsAll s.heap ws ys) (ho : Ords xs ys)
    (hlt : ∀ u v x y, Is s.heap u x → Is s.heap v y → Ord x y → x.deep ≤ n → LtAt A s u v (PV.lt x y))
    (h : P (.done (.ret (.bool (PV.lts xs ys)))) s) : wpAny (model prog w) A (Builtin.«tuple.__lt__» ⟨[.ref a, .ref b], []⟩) P E s := by
  have hTb : s.TypeIs (.ref b) "tuple" := ⟨_, hb, rfl⟩
  show wpAny _ _ (isInstance (.ref b) (.type "tuple") >>= _) _ _ s
  refine wpAny_bind (wpAny_isInstance hTb isSubtype_tuple_tuple ?_)
  simp only [Bool.not_true, Bool.false_eq_true, if_false]
  refine wpAny_bind (wpAny_tupleItemsOf ha rfl ?_)
  refine wpAny_bind (wpAny_tupleItemsOf hb rfl ?_)
  refine wpAny_bind ?_
  refine wpAny_forIn_list _
    (fun rest r s' => r.1 = none ∧ s' = s ∧ ∃ vs' ws' xs' ys', rest = List.zip vs' ws' ∧ IsAll s.heap vs' xs' ∧ IsAll s.heap ws' ys' ∧ Ords xs' ys' ∧ PV.deeps xs' ≤ n ∧ PV.lts xs' ys' = PV.lts xs ys ∧ (decide (vs'.length < ws'.length) = decide (vs.length < ws.length)))
    _ ?_ ?_ _ _ ⟨rfl, rfl, vs, ws, xs, ys, rfl, hx, hy, ho, hd, rfl, rfl⟩
  · rintro ⟨u, v⟩ rest r s' ⟨hr, rfl, vs', ws', xs', ys', hz, hx', hy', ho', hd', he, hl⟩
    cases hx' with
    | nil => simp at hz
    | cons hux hx'' =>
      cases hy' with
      | nil => simp at hz
      | cons hvy hy'' =>
        rename_i u' vs'' x xs'' v' ws'' y ys''
        simp only [List.zip_cons_cons, List.cons.injEq, Prod.mk.injEq] at hz
        obtain ⟨⟨rfl, rfl⟩, rfl⟩ := hz
        replace hd' : max (PV.deep x) (PV.deeps xs'') ≤ n := hd'
        refine wpAny_bind (eqAt_sim n A s' _ _ x y (by omega) hu hux hvy (Ord.sim _ _ ho'.1) prog w _ _ ?_)
        cases hk : PV.beq x y with
        | true =>
          simp only [Bool.not_true, Bool.false_eq_true, if_false]
          refine wpAny_pure ⟨rfl, rfl, vs'', ws'', xs'', ys'', rfl, hx'', hy'', ho'.2, by omega, ?_, by simpa using hl⟩
          rw [← he]; show _ = (if PV.beq x y = true then _ else _); rw [if_pos hk]
        | false =>
          simp only [Bool.not_false, if_true]
          refine wpAny_bind (wpAny_rule (wpAny_bind (hlt _ _ x y hux hvy ho'.1 (by omega) prog w _ _ ?_)))
          have e : PV.lt x y = PV.lts xs ys := by rw [← he]; show _ = (if PV.beq x y = true then _ else _); rw [if_neg (by rw [hk]; exact Bool.false_ne_true)]
          rw [e]
          exact wpAny_bind (wpAny_pure (wpAny_pure (wpAny_pure h)))
  · rintro ⟨r1, r2⟩ s' ⟨hr, rfl, vs', ws', xs', ys', hz, hx', hy', _, _, he, hl⟩
    simp only at hr
    subst hr
    refine wpAny_pure ?_
    show P (.done (.ret (.bool (decide (vs.toArray.size < ws.toArray.size))))) s'
    have e : decide (vs.toArray.size < ws.toArray.size) = PV.lts xs ys := by
      simp only [List.size_toArray]
      rw [← hl, ← he]
      cases hx' with
      | nil => cases hy' with
        | nil => rfl
        | cons _ _ => exact decide_eq_true (Nat.succ_pos _)
      | cons _ _ =>
        cases hy' with
        | nil => exact decide_eq_false (Nat.not_lt_zero _)
        | cons _ _ => simp at hz
    rw [e]; exact h

noncomputable def LtOrdAt (n : Nat) : Prop := ∀ (A : Around) (s : Shared) (u v : Value) (x y : PV), x.deep ≤ n → A.units + 2 * n < cLine → Is s.heap u x → Is s.heap v y → Ord x y → LtAt A s u v (PV.lt x y)
theorem ltAt_step (n : Nat) (rec : ∀ m, n = m + 1 → LtOrdAt m) : LtOrdAt n := fun A s u v x y hn hu hx hy ho => by
    cases hx with
    | none => cases hy <;> exact ho.elim
    | bool b => cases hy <;> exact ho.elim
    | loc a => cases hy <;> exact ho.elim
    | int i t =>
      cases hy with
      | int j t' =>
        intro prog w E Q h
        exact wpAny_lt_int h
      | _ => exact ho.elim
    | str a t =>
      cases hy with
      | str b t' =>
        intro prog w E Q h
        exact PyProof.Rows.lt_str h
      | _ => exact ho.elim
    | tup ht r =>
      cases hy with
      | tup ht' r' =>
        cases n with
        | zero => exact absurd hn (Nat.not_succ_le_zero _)
        | succ n =>
          intro prog w E Q h
          replace hn : PV.deeps _ + 1 ≤ n + 1 := hn
          have hT : s.TypeIs (.ref _) "tuple" := ⟨_, ht, rfl⟩
          have hT' : s.TypeIs (.ref _) "tuple" := ⟨_, ht', rfl⟩
          refine wpAny_richCompare_same_room (op := .Lt) hT hT' F.slot_tuple_lt (wpAny_call_entry F.slot_tuple_lt hT F.entry_tuple_lt ?_ (F.args_tuple_lt_2 _ _)) (by (first | lia | omega))
          exact tuple_lt_tree A.in1 s prog w n _ _ _ _ _ _ _ _ _ _ (by simp; (first | lia | omega)) (by (first | lia | omega)) ht ht' r r' ho
            (fun u v x y hux hvy hxy hdx => rec n rfl A.in1 s u v x y hdx (by simp; (first | lia | omega)) hux hvy hxy) ⟨_, rfl, (fun e => nomatch e), h⟩
      | _ => exact ho.elim
theorem ltAt_all : ∀ n, LtOrdAt n
  | 0 => ltAt_step 0 fun _ e => nomatch e
  | n + 1 => ltAt_step (n + 1) fun m e => Nat.succ.inj e ▸ ltAt_all n
theorem ltAt_ord (n : Nat) (A : Around) (s : Shared) (u v : Value) (x y : PV) (h1 : x.deep ≤ n) (h2 : A.units + 2 * n < cLine) (h3 : Is s.heap u x) (h4 : Is s.heap v y) (h5 : Ord x y) : LtAt A s u v (PV.lt x y) := ltAt_all n A s u v x y h1 h2 h3 h4 h5

mutual
noncomputable def Hsh : Nat → PV → Prop
  | _, .int _ => True
  | _, .str _ => True
  | n + 1, .tup xs => Hshs n xs
  | _, _ => False
noncomputable def Hshs : Nat → List PV → Prop
  | _, [] => True
  | n, x :: xs => Hsh n x ∧ Hshs n xs
end
mutual
noncomputable def hashPV (w : World) : PV → Int
  | .int i => hashInt i
  | .str x => hashStr w x
  | .tup xs => reduceHash (Builtin.Tuple.tupleHashOf (hashPVs w xs))
  | _ => 0
noncomputable def hashPVs (w : World) : List PV → List Int
  | [] => []
  | x :: xs => hashPV w x :: hashPVs w xs
end
mutual
noncomputable def drawsPV : PV → Nat
  | .tup xs => drawsPVs xs + 1
  | _ => 1
noncomputable def drawsPVs : List PV → Nat
  | [] => 0
  | x :: xs => drawsPV x + drawsPVs xs
end
noncomputable def HashAt (prog : Program) (w : World) (n : Nat) : Prop := ∀ (A : Around) (E : Value → Shared → Prop) (s : Shared) (v : Value) (x : PV) (Q : Int → Shared → Prop), A.units + n < cLine → Is s.heap v x → Hsh n x →
    Q (hashPV w x) { s with toks := s.toks + drawsPV x } → wpAny (model prog w) A (pyHash v) Q E s
theorem pyHash_step (prog : Program) (w : World) (n : Nat) (rec : ∀ m, n = m + 1 → HashAt prog w m) : HashAt prog w n := fun A E s v x Q hu hx hh h => by
    cases hx with
    | int i t => exact wpAny_pyHash_int h
    | str a t => exact wpAny_pyHash_str h
    | none => cases n <;> exact False.elim hh
    | bool b => cases n <;> exact False.elim hh
    | loc a => cases n <;> exact False.elim hh
    | tup ht r =>
      rename_i a k vs xs
      cases n with
      | zero => exact False.elim hh
      | succ n =>
        have hh : Hshs n xs := hh
        have hT : s.TypeIs (.ref a) "tuple" := ⟨_, ht, rfl⟩
        unfold pyHash
        first | unfold pyHashByItsType | skip
        first | refine wpAny_bind (wpAny_cRoomFor_or (.inr (by (first | lia | omega))) ?_) | skip
        refine wpAny_bind (wpAny_specialOf hT F.slot_tuple_hash.lookup ?_)
        show wpAny _ _ (if (some (Value.builtin "tuple.__hash__") == some Value.none) = true then _ else _) Q E s
        rw [if_neg (by rw [beq_builtin_none]; exact Bool.false_ne_true)]
        refine wpAny_bind (wpAny_specialOf hT F.slot_tuple_hash.lookup ?_)
        show wpAny _ _ (callSpecialIfBoundUnlessNone? (.ref a) "__hash__" _ >>= _) Q E s
        refine wpAny_bind (wpAny_callSpecialIfBoundUnlessNone?_slot hT F.slot_tuple_hash (wpAny_call_entry F.slot_tuple_hash hT F.entry_tuple_hash ?_ (F.args_tuple_hash_1 _)))
        show wpAny _ _ (Builtin.Tuple.tupleItemsOf (.ref a) >>= _) _ _ s
        refine wpAny_bind (wpAny_tupleItemsOf ht rfl ?_)
        refine wpAny_bind ?_
        rw [← Array.forIn_toList]
        refine wpAny_forIn_list _
          (fun rest (b : Array Int) s' => ∃ left tk, IsAll s.heap rest left ∧ Hshs n left ∧ b.toList ++ hashPVs w left = hashPVs w xs ∧ s' = { s with toks := tk } ∧ tk + drawsPVs left = s.toks + drawsPVs xs)
          _ ?_ ?_ _ _ ⟨xs, s.toks, r, hh, rfl, rfl, rfl⟩
        · rintro y rest b s' ⟨left, tk, hl, hk, hb, rfl, htk⟩
          cases hl with
          | cons h1 hl' =>
            replace htk : tk + (drawsPV _ + drawsPVs _) = s.toks + drawsPVs xs := htk
            refine wpAny_bind (rec n rfl A.in1 _ { s with toks := tk } y _ _ (by simp; (first | lia | omega)) h1 hk.1 ?_)
            first
              | exact wpAny_pure ⟨_, _, hl', hk.2, by rw [← hb]; show _ = b.toList ++ (hashPV w _ :: hashPVs w _); simp, rfl, by simp; (first | lia | omega)⟩
              | exact wpAny_bind (wpAny_pure (wpAny_pure ⟨_, _, hl', hk.2, by rw [← hb]; show _ = b.toList ++ (hashPV w _ :: hashPVs w _); simp, rfl, by simp; (first | lia | omega)⟩))
        · rintro b s' ⟨left, tk, hl, hk, hb, rfl, htk⟩
          cases hl
          replace hb : b.toList ++ [] = _ := hb
          rw [List.append_nil] at hb
          replace htk : tk = s.toks + drawsPVs xs := htk
          subst htk
          show wpAny _ _ (retInt (Builtin.Tuple.tupleHashOf b.toList)) _ _ _
          rw [hb]
          refine wpAny_ret_mkInt ?_
          show wpAny _ _ (if (decide (-(2 : Int) ^ 63 ≤ Builtin.Tuple.tupleHashOf (hashPVs w xs)) && decide (Builtin.Tuple.tupleHashOf (hashPVs w xs) < 2 ^ 63)) = true then _ else _) Q E _
          replace h : Q (reduceHash (Builtin.Tuple.tupleHashOf (hashPVs w xs))) { s with toks := s.toks + (drawsPVs xs + 1) } := h
          unfold reduceHash at h
          by_cases hr : (decide (-(2 : Int) ^ 63 ≤ Builtin.Tuple.tupleHashOf (hashPVs w xs)) && decide (Builtin.Tuple.tupleHashOf (hashPVs w xs) < 2 ^ 63)) = true
          · rw [if_pos hr]
            rw [if_pos hr] at h
            exact wpAny_pure h
          · rw [if_neg hr]
            rw [if_neg hr] at h
            exact wpAny_bind (wpAny_rule (wpAny_pure h))

theorem pyHash_pv (prog : Program) (w : World) : ∀ n, HashAt prog w n
  | 0 => pyHash_step prog w 0 fun _ e => nomatch e
  | n + 1 => pyHash_step prog w (n + 1) fun m e => Nat.succ.inj e ▸ pyHash_pv prog w n

noncomputable def QuietAt (prog : Program) (w : World) (n : Nat) : Prop := ∀ (m : Nat) (A : Around) (E : Value → Shared → Prop) (s : Shared) (v : Value) (x : PV) (Q : Bool → Shared → Prop), n + 1 ≤ m → Is s.heap v x → Hsh n x →
    Q true s → wpAny (model prog w) A (eqIsQuiet m v) Q E s
theorem quiet_step (prog : Program) (w : World) (n : Nat) (rec : ∀ m, n = m + 1 → QuietAt prog w m) : QuietAt prog w n := fun m A E s v x Q hm hx hh h => by
    cases hx with
    | int i t => rw [eqIsQuiet_byValue _ rfl]; exact wpAny_pure h
    | str a t => rw [eqIsQuiet_byValue _ rfl]; exact wpAny_pure h
    | none => cases n <;> exact False.elim hh
    | bool b => cases n <;> exact False.elim hh
    | loc a => cases n <;> exact False.elim hh
    | tup ht r =>
      rename_i a k vs xs
      cases n with
      | zero => exact False.elim hh
      | succ n =>
        cases m with
        | zero => (first | lia | omega)
        | succ m =>
          have hh : Hshs n xs := hh
          have hT : s.TypeIs (.ref a) "tuple" := ⟨_, ht, rfl⟩
          unfold eqIsQuiet
          refine wpAny_bind (wpAny_specialOf hT F.slot_tuple_eq.lookup ?_)
          show wpAny _ _ (isInstance (.ref a) (.type "tuple") >>= _) _ _ s
          refine wpAny_bind (wpAny_isInstance hT isSubtype_tuple_tuple ?_)
          simp only [Bool.not_true, Bool.false_eq_true, if_false]
          refine wpAny_bind (wpAny_seqItems ht rfl ?_)
          refine wpAny_bind ?_
          show wpAny _ _ (forIn vs.toArray _ _) _ _ s
          rw [← Array.forIn_toList]
          refine wpAny_forIn_list _ (fun rest r s' => r.1 = none ∧ s' = s ∧ ∃ left, IsAll s.heap rest left ∧ Hshs n left) _ ?_ ?_ _ _ ⟨rfl, rfl, xs, r, hh⟩
          · rintro v rest r s' ⟨hr, rfl, left, hl, hk⟩
            cases hl with
            | cons h1 hl' =>
              refine wpAny_bind (rec n rfl m A _ s' v _ _ (by (first | lia | omega)) h1 hk.1 ?_)
              simp only [Bool.not_true, Bool.false_eq_true, if_false]
              exact wpAny_pure ⟨rfl, rfl, _, hl', hk.2⟩
          · rintro ⟨r1, r2⟩ s' ⟨hr, rfl, _⟩
            simp only at hr
            subst hr
            exact wpAny_pure h

theorem quiet_pv (prog : Program) (w : World) : ∀ n, QuietAt prog w n
  | 0 => quiet_step prog w 0 fun _ e => nomatch e
  | n + 1 => quiet_step prog w (n + 1) fun m e => Nat.succ.inj e ▸ quiet_pv prog w n
theorem Hsh.deep : ∀ (n : Nat) (x : PV), Hsh n x → x.deep ≤ n := by
  intro n
  induction n with
  | zero => intro x h; cases x <;> first | exact Nat.le_refl 0 | exact False.elim h
  | succ n ih =>
    intro x h
    cases x with
    | tup xs =>
      replace h : Hshs n xs := h
      have : PV.deeps xs ≤ n := by
        induction xs with
        | nil => exact Nat.zero_le _
        | cons y ys ihy => exact Nat.max_le.mpr ⟨ih y h.1, ihy h.2⟩
      exact Nat.succ_le_succ this
    | _ => exact Nat.zero_le _

@[reducible] noncomputable def tupKind (prog : Program) (w : World) (T : Ty) : @HeapKind prog w PV PV.decEq :=
  letI := PV.decEq
  { is := fun h k a => Is h (.ref a) k ∧ HasTy T k ∧ Hsh 3 k
    hash := hashPV w
    draws := drawsPV
    room := fun A => A.units + 10 < cLine
    inj := fun hx hy => Is.simEq hx.1 hy.1 (HasTy.sim T _ _ hx.2.1 hy.2.1)
    keeps := fun {h h' k a d o es ep} x ho hd hs => ⟨Is.keep (fun b items n' e => (hs.2 b (fun q => by
      subst q
      have e2 : some o = some _ := ho.symm.trans e
      injection e2 with e3
      subst e3
      exact nomatch hd)).trans e) x.1, x.2⟩
    pyHash := fun {A E s k a Q} hu hk h => pyHash_pv prog w 3 A E s _ k Q (by (first | lia | omega)) hk.1 hk.2.2 h
    eqBool := fun {A E s x y a b Q} hu hx hy h => by
      refine eqAt_sim 3 A s _ _ x y (Hsh.deep _ _ hx.2.2) (by (first | lia | omega)) hx.1 hy.1 (HasTy.sim T x y hx.2.1 hy.2.1) prog w E Q ?_
      have e : PV.beq x y = decide (x = y) := by
        rw [Bool.eq_iff_iff, PV.beq_iff]; simp
      rw [e]; exact h
    quiet := fun {A E s k a Q} hk h => quiet_pv prog w 3 8 A E s _ k Q (by (first | lia | omega)) hk.1 hk.2.2 h }

end Mine.Internal
end

section
namespace Mine.Internal

noncomputable def isVal : PV → Value → Bool
  | .int i, .int j _ => j == i
  | .str x, .str y _ => y == x
  | _, _ => false
theorem isVal_int {i : Int} {v : Value} (h : isVal (.int i) v = true) : ∃ t, v = .int i t := by
  cases v <;> first | exact absurd h Bool.false_ne_true | exact ⟨_, by rw [eq_of_beq (α := Int) h]⟩
theorem isVal_str {x : Str} {v : Value} (h : isVal (.str x) v = true) : ∃ t, v = .str x t := by
  cases v <;> first | exact absurd h Bool.false_ne_true | exact ⟨_, by rw [eq_of_beq (α := Str) h]⟩
theorem isVal_cases {k : PV} {v : Value} (h : isVal k v = true) : (∃ i t, k = .int i ∧ v = .int i t) ∨ ∃ x t, k = .str x ∧ v = .str x t := by
  cases k with
  | int i => obtain ⟨t, rfl⟩ := isVal_int h; exact .inl ⟨i, t, rfl, rfl⟩
  | str x => obtain ⟨t, rfl⟩ := isVal_str h; exact .inr ⟨x, t, rfl, rfl⟩
  | _ => cases v <;> exact absurd h Bool.false_ne_true
theorem isVal_of_is {h : Heap} {v : Value} {k : PV} (H : Is h v k) (hk : Hsh 0 k) : isVal k v = true := by
  cases H with
  | int i t => exact beq_self_eq_true i
  | str x t => exact beq_self_eq_true x
  | _ => exact False.elim hk

theorem eqBool_int_str {prog : Program} {w : World} {A : Around} {E : Value → Shared → Prop} {s : Shared} {i : Int} {t : Tok} {x : Str} {u : Tok} {Q : Bool → Shared → Prop} (h : Q false s) : wpAny (model prog w) A (eqBool (.int i t) (.str x u)) Q E s := by
  unfold eqBool
  refine wpAny_holding ?_
  refine wpAny_ite_split (fun hab => by have := eq_of_beq hab; cases this) (fun _ => ?_)
  exact wpAny_bind (EqMixed.eq_int_str (wpAny_truthy_bool h))
theorem eqBool_str_int {prog : Program} {w : World} {A : Around} {E : Value → Shared → Prop} {s : Shared} {i : Int} {t : Tok} {x : Str} {u : Tok} {Q : Bool → Shared → Prop} (h : Q false s) : wpAny (model prog w) A (eqBool (.str x u) (.int i t)) Q E s := by
  unfold eqBool
  refine wpAny_holding ?_
  refine wpAny_ite_split (fun hab => by have := eq_of_beq hab; cases this) (fun _ => ?_)
  exact wpAny_bind (EqMixed.eq_str_int (wpAny_truthy_bool h))

@[reducible] noncomputable def valKind (prog : Program) (w : World) : @PySem.KeyKind prog w PV PV.decEq :=
  letI := PV.decEq
  { is := isVal
    hash := hashPV w
    inj := fun v a b ha hb => by
      rcases isVal_cases ha with ⟨i, t, rfl, rfl⟩ | ⟨x, t, rfl, rfl⟩
      · rcases isVal_cases hb with ⟨i', t', rfl, e⟩ | ⟨x', t', rfl, e⟩
        · injection e with e1 _; rw [e1]
        · cases e
      · rcases isVal_cases hb with ⟨i', t', rfl, e⟩ | ⟨x', t', rfl, e⟩
        · cases e
        · injection e with e1 _; rw [e1]
    byValue := fun k v h => by
      rcases isVal_cases h with ⟨i, t, rfl, rfl⟩ | ⟨x, t, rfl, rfl⟩ <;> rfl
    pyHash := fun {A E s k v Q} hv h => by
      rcases isVal_cases hv with ⟨i, t, rfl, rfl⟩ | ⟨x, t, rfl, rfl⟩
      · exact wpAny_pyHash_int h
      · exact wpAny_pyHash_str h
    eqBool := fun {A E s a b u v Q} hu hv h => by
      rcases isVal_cases hu with ⟨i, t, rfl, rfl⟩ | ⟨x, t, rfl, rfl⟩
      · rcases isVal_cases hv with ⟨i', t', rfl, rfl⟩ | ⟨x', t', rfl, rfl⟩
        · refine wpAny_eqBool_int ?_
          have e : decide (PV.int i = PV.int i') = (i == i') := by by_cases q : i = i' <;> simp [q]
          rw [e] at h; exact h
        · refine eqBool_int_str ?_
          have e : decide (PV.int i = PV.str x') = false := by simp
          rw [e] at h; exact h
      · rcases isVal_cases hv with ⟨i', t', rfl, rfl⟩ | ⟨x', t', rfl, rfl⟩
        · refine eqBool_str_int ?_
          have e : decide (PV.str x = PV.int i') = false := by simp
          rw [e] at h; exact h
        · refine wpAny_eqBool_str ?_
          have e : decide (PV.str x = PV.str x') = decide (x = x') := by by_cases q : x = x' <;> simp [q]
          rw [e] at h; exact h
    «strs» := fun k x t v h => by
      rcases isVal_cases h with ⟨i, t', rfl, e⟩ | ⟨y, t', rfl, e⟩
      · cases e
      · injection e with e1 _
        subst e1
        cases v <;> rfl }

inductive MObj where
  | lst (xs : List PV)
  | dv (es : List (PV × PV))
  | dt (T : Ty) (es : List (PV × PV))
  | dx (o : Obj) (T : Ty) (es : List (PV × PV))
  | raw (o : Obj)

abbrev Store := Addr → Option MObj
abbrev Loc := List (Str × PV)

section
variable (prog : Program) (w : World)
noncomputable def Rep (h : Heap) (a : Addr) : MObj → Prop
  | .lst xs => ∃ vs n, IsL h a (List.toArray vs) n ∧ IsAll h vs xs
  | .dv es => (a == sysModules) = false ∧ ∃ kvs : List (PV × Value), letI := PV.decEq; h.DictOf (valKind prog w) a kvs ∧ kvs.map (·.1) = es.map (·.1) ∧ IsAll h (kvs.map (·.2)) (es.map (·.2))
  | .dt T es => (a == sysModules) = false ∧ ∃ kvs : List (PV × Addr × Value), letI := PV.decEq; h.DictOfH (tupKind prog w T) a kvs ∧ kvs.map (·.1) = es.map (·.1) ∧ IsAll h (kvs.map (·.2.2)) (es.map (·.2))
  | .dx ob T es => h.get? a = some ob ∧ (a == sysModules) = false ∧ ∃ kvs : List (PV × Addr × Value), letI := PV.decEq; h.DictOfH (tupKind prog w T) a kvs ∧ kvs.map (·.1) = es.map (·.1) ∧ IsAll h (kvs.map (·.2.2)) (es.map (·.2))
  | .raw ob => h.get? a = some ob ∧ ob.cls ≠ .type "tuple"
variable {prog w}
theorem Rep.keep {h h' : Heap} {a : Addr} {o : MObj} (x : Rep prog w h a o) (k : TupKeep h h') (e : ∀ ob, h.get? a = some ob → h'.get? a = some ob) : Rep prog w h' a o := by
  cases o with
  | lst xs => obtain ⟨vs, n, hl, hv⟩ := x; exact ⟨vs, n, e _ hl, hv.keep k⟩
  | dv es =>
    obtain ⟨hs, kvs, ⟨ob, ents, ep, ho, r⟩, h1, h2⟩ := x
    exact ⟨hs, kvs, ⟨ob, ents, ep, e _ ho, r⟩, h1, h2.keep k⟩
  | dt T es =>
    obtain ⟨hs, kvs, ⟨ob, ents, ep, ho, hx, hd, he, his, hn⟩, h1, h2⟩ := x
    exact ⟨hs, kvs, ⟨ob, ents, ep, e _ ho, hx, hd, he, fun y hy => ⟨(his y hy).1.keep k, (his y hy).2⟩, hn⟩, h1, h2.keep k⟩
  | dx ob T es =>
    obtain ⟨hx', hs, kvs, ⟨ob, ents, ep, ho, hx, hd, he, his, hn⟩, h1, h2⟩ := x
    exact ⟨e _ hx', hs, kvs, ⟨ob, ents, ep, e _ ho, hx, hd, he, fun y hy => ⟨(his y hy).1.keep k, (his y hy).2⟩, hn⟩, h1, h2.keep k⟩
  | raw ob => exact ⟨e _ x.1, x.2⟩
theorem Rep.get {h : Heap} {a : Addr} {o : MObj} (x : Rep prog w h a o) : ∃ ob, h.get? a = some ob ∧ ob.cls ≠ .type "tuple" := by
  cases o with
  | lst xs => obtain ⟨vs, n, hl, hv⟩ := x; exact ⟨_, hl, by simp⟩
  | dv es => obtain ⟨hs, kvs, ⟨ob, ents, ep, ho, hx, r⟩, h1, h2⟩ := x; exact ⟨_, ho, by rw [hx.1]; decide⟩
  | dt T es => obtain ⟨hs, kvs, ⟨ob, ents, ep, ho, hx, r⟩, h1, h2⟩ := x; exact ⟨_, ho, by rw [hx.1]; decide⟩
  | dx ob T es => obtain ⟨_, hs, kvs, ⟨ob, ents, ep, ho, hx, r⟩, h1, h2⟩ := x; exact ⟨_, ho, by rw [hx.1]; decide⟩
  | raw ob => exact ⟨ob, x.1, x.2⟩
end

noncomputable def Pres (D : Addr → Prop) (h h' : Heap) : Prop := True ∧ ∀ b o, ¬ D b → h.get? b = some o → h'.get? b = some o
theorem Pres.refl {D h} : Pres D h h := ⟨trivial, fun _ _ _ e => e⟩
theorem fresh (h : Heap) : h.get? h.objs.size = none := Heap.get?_none_of_le (Nat.le_refl _)
theorem Pres.mono {D D' : Addr → Prop} {h h' : Heap} (x : Pres D h h') (hd : ∀ a, D a → D' a) : Pres D' h h' := ⟨x.1, fun b o n e => x.2 b o (fun q => n (hd b q)) e⟩
theorem Pres.push {D : Addr → Prop} {h h' : Heap} (x : Pres D h h') (o : Obj) : Pres D h (h'.push o) := ⟨trivial, fun b o' n e => Heap.get?_push_of_some _ (x.2 b o' n e)⟩
theorem Pres.same {D : Addr → Prop} {a : Addr} {h h' h'' : Heap} (x : Pres D h h') (hs : Heap.SameBut a h' h'') (ha : D a ∨ h.get? a = none) : Pres D h h'' :=
  ⟨trivial, fun b o n e => (hs.2 b (fun q => by
    subst q
    rcases ha with ha | ha
    · exact n ha
    · rw [ha] at e; cases e)).trans (x.2 b o n e)⟩
theorem Pres.ext {D : Addr → Prop} {a : Addr} {h h' : Heap} (hs : Heap.ExtBut a h h') (ha : D a) : Pres D h h' := ⟨trivial, fun b o n e => hs b o (fun q => n (q ▸ ha)) e⟩

noncomputable def Dom (σ : Store) : Addr → Prop := fun a => ∃ o, σ a = some o
noncomputable def upd (σ : Store) (a : Addr) (o : MObj) : Store := fun b => if b = a then some o else σ b
@[simp] theorem upd_same (σ : Store) (a : Addr) (o : MObj) : upd σ a o a = some o := by simp [upd]
theorem upd_ne (σ : Store) {a b : Addr} (o : MObj) (h : b ≠ a) : upd σ a o b = σ b := by simp [upd, h]
theorem ne_of_free {σ : Store} {a b : Addr} {o : MObj} (h : σ a = some o) (f : σ b = none) : a ≠ b := by rintro rfl; rw [h] at f; cases f
theorem upd_old {σ : Store} {a b : Addr} {o o' : MObj} (h : σ a = some o) (f : σ b = none) : upd σ b o' a = some o := by rw [upd_ne _ _ (ne_of_free h f)]; exact h
noncomputable def Weaker (o' o : MObj) : Prop := o' = o ∨ ∃ ob T es, o' = .dt T es ∧ o = .dx ob T es
theorem Weaker.trans {a b c : MObj} (x : Weaker a b) (y : Weaker b c) : Weaker a c := by
  rcases x with rfl | ⟨ob, T, es, rfl, rfl⟩
  · exact y
  · rcases y with rfl | ⟨ob', T', es', h, rfl⟩
    · exact .inr ⟨_, _, _, rfl, rfl⟩
    · cases h
noncomputable def Less (σ' σ : Store) : Prop := ∀ a o', σ' a = some o' → ∃ o, σ a = some o ∧ Weaker o' o
theorem Less.refl (σ : Store) : Less σ σ := fun _ _ e => ⟨_, e, .inl rfl⟩
theorem Less.trans {a b c : Store} (x : Less a b) (y : Less b c) : Less a c := fun p o e => by
  obtain ⟨o1, e1, w1⟩ := x p o e
  obtain ⟨o2, e2, w2⟩ := y p o1 e1
  exact ⟨o2, e2, w1.trans w2⟩
theorem Less.upd_free {σ : Store} {a : Addr} {o : MObj} (f : σ a = none) : Less σ (upd σ a o) := fun b o' e => ⟨o', upd_old e f, .inl rfl⟩
theorem Less.upd_both {σ σ' : Store} (h : Less σ' σ) (a : Addr) (o : MObj) : Less (upd σ' a o) (upd σ a o) := fun b o' e => by
  by_cases hb : b = a
  · subst hb; rw [upd_same] at e ⊢; exact ⟨_, rfl, .inl (by cases e; rfl)⟩
  · rw [upd_ne _ _ hb] at e ⊢; exact h b o' e
theorem Less.back {σ : Store} {a : Addr} {ob : Obj} {T : Ty} {es : List (PV × PV)} (e : σ a = some (.dt T es)) : Less σ (upd σ a (.dx ob T es)) := fun b o' e' => by
  by_cases hb : b = a
  · subst hb; rw [e] at e'; cases e'; exact ⟨_, upd_same _ _ _, .inr ⟨_, _, _, rfl, rfl⟩⟩
  · exact ⟨o', by rw [upd_ne _ _ hb]; exact e', .inl rfl⟩
theorem Less.lst {σ' σ : Store} (l : Less σ' σ) {a : Addr} {xs : List PV} (e : σ' a = some (.lst xs)) : σ a = some (.lst xs) := by
  obtain ⟨o, e1, h⟩ := l a _ e
  rcases h with rfl | ⟨ob, T, es, h, _⟩
  · exact e1
  · cases h
theorem Less.dv {σ' σ : Store} (l : Less σ' σ) {a : Addr} {es : List (PV × PV)} (e : σ' a = some (.dv es)) : σ a = some (.dv es) := by
  obtain ⟨o, e1, h⟩ := l a _ e
  rcases h with rfl | ⟨ob, T, es, h, _⟩
  · exact e1
  · cases h

section
variable (prog : Program) (w : World) (h₀ : Heap)
structure SRel (σ : Store) (h : Heap) : Prop where
  base : ∀ b o, h₀.get? b = some o → h.get? b = some o
  size : True
  objs : ∀ a o, σ a = some o → Rep prog w h a o
  off : ∀ a o, σ a = some o → h₀.get? a = none

noncomputable def VarIs (env : Env) (h : Heap) (x : Str) (v : Value) : Prop :=
  (env.kindOf x = some .local ∧ ∃ m, h.Ns env.locals m ∧ m x = some v) ∨
  ((env.kindOf x = some .cell ∨ env.kindOf x = some .free) ∧ ∃ c, env.cells.lookup x = some c ∧ h.IsCell c (some v))

structure ERel (env : Env) (ρ : Loc) (σ : Store) (h : Heap) : Prop where
  kind : env.scope.kind = .function
  glob : env.globals = mainGlobals
  bins : env.builtins = builtinsNs
  ns : ∃ m, h.Ns env.locals m
  nsoff : h₀.get? env.locals = none ∧ σ env.locals = none
  cells : ∀ p ∈ env.cells, (∃ v, h.IsCell p.2 v) ∧ h₀.get? p.2 = none ∧ σ p.2 = none ∧ p.2 ≠ env.locals
  apart : env.cells.Pairwise fun x y => x.2 ≠ y.2
  vars : ∀ x v, ρ.lookup x = some v → ∃ val, VarIs env h x val ∧ Is h val v
end

noncomputable def Held (H : List (Value × PV)) (h : Heap) : Prop := ∀ p ∈ H, Is h p.1 p.2
theorem Held.keep {H : List (Value × PV)} {h h' : Heap} (x : Held H h) (k : TupKeep h h') : Held H h' := fun p hp => (x p hp).keep k
theorem Held.cons {H : List (Value × PV)} {h : Heap} {v : Value} {x : PV} (y : Held H h) (i : Is h v x) : Held ((v, x) :: H) h := fun p hp => by
  rcases List.mem_cons.mp hp with rfl | hp
  · exact i
  · exact y p hp
theorem Held.all {H : List (Value × PV)} {h : Heap} {vs : List Value} {xs : List PV} (y : Held H h) (i : IsAll h vs xs) : Held (vs.zip xs ++ H) h := by
  induction vs generalizing xs with
  | nil => simpa using y
  | cons v vs ih =>
    cases i with
    | cons a r => simp only [List.zip_cons_cons, List.cons_append]; exact (ih r).cons a
theorem Held.isAll {H : List (Value × PV)} {h : Heap} : ∀ {vs : List Value} {xs : List PV}, vs.length = xs.length → Held (vs.zip xs ++ H) h → IsAll h vs xs
  | [], [], _, _ => .nil
  | v :: vs, x :: xs, e, y => .cons (y (v, x) (.head _)) (Held.isAll (by simpa using e) fun p hp => y p (.tail _ hp))
  | [], _ :: _, e, _ => by simp at e
  | _ :: _, [], e, _ => by simp at e

structure Ok (n : Nat) (A : Around) : Prop where
  handled : A.handled = none
  depth : A.depth + 2 * n ≤ 500
  units : A.units + 40 * n ≤ 9000
theorem Ok.mono {n m : Nat} {A : Around} (x : Ok n A) (h : m ≤ n) : Ok m A := ⟨x.handled, by have := x.depth; (first | lia | omega), by have := x.units; (first | lia | omega)⟩
theorem Ok.room {n : Nat} {A : Around} (x : Ok n A) : A.units + 800 < cLine := by have := x.units; rw [cLine_is]; (first | lia | omega)

section
variable {prog : Program} {w : World} {h₀ : Heap} {σ σ' : Store} {h h' : Heap} {env : Env} {ρ ρ' : Loc}
theorem SRel.tupKeep {D : Addr → Prop} (S : SRel prog w h₀ σ h) (p : Pres D h h') (hD : ∀ a, D a → Dom σ a ∨ ∀ items n, ¬ IsT h a items n) : TupKeep h h' := fun a items n e => by
  refine p.2 a _ (fun q => ?_) e
  rcases hD a q with ⟨o, ho⟩ | q
  · obtain ⟨ob, e2, hc⟩ := (S.objs a o ho).get
    rw [e] at e2; cases e2; exact hc rfl
  · exact q _ _ e
theorem Rep.weaker {a : Addr} {o' o : MObj} (x : Rep prog w h a o) (l : Weaker o' o) : Rep prog w h a o' := by
  rcases l with rfl | ⟨ob, T, es, rfl, rfl⟩
  · exact x
  · exact x.2
theorem SRel.less (S : SRel prog w h₀ σ h) (l : Less σ' σ) : SRel prog w h₀ σ' h := ⟨S.base, S.size, fun a o e => by obtain ⟨o1, e1, h1⟩ := l a o e; exact (S.objs a o1 e1).weaker h1, fun a o e => by obtain ⟨o1, e1, h1⟩ := l a o e; exact S.off a o1 e1⟩
theorem Less.dom (l : Less σ' σ) {a : Addr} (d : Dom σ' a) : Dom σ a := let ⟨o, e⟩ := d; let ⟨o1, e1, _⟩ := l a o e; ⟨o1, e1⟩
theorem none_of_less (l : Less σ' σ) {a : Addr} (e : σ a = none) : σ' a = none := by
  cases q : σ' a with
  | none => rfl
  | some o => obtain ⟨o1, e1, _⟩ := l a o q; rw [e1] at e; cases e
theorem ERel.less (X : ERel h₀ env ρ σ h) (l : Less σ' σ) : ERel h₀ env ρ σ' h :=
  ⟨X.kind, X.glob, X.bins, X.ns, ⟨X.nsoff.1, none_of_less l X.nsoff.2⟩, fun p hp => ⟨(X.cells p hp).1, (X.cells p hp).2.1, none_of_less l (X.cells p hp).2.2.1, (X.cells p hp).2.2.2⟩, X.apart, X.vars⟩
theorem ERel.forget (X : ERel h₀ env ρ σ h) (l : ∀ x v, ρ'.lookup x = some v → ρ.lookup x = some v) : ERel h₀ env ρ' σ h :=
  ⟨X.kind, X.glob, X.bins, X.ns, X.nsoff, X.cells, X.apart, fun x v e => X.vars x v (l x v e)⟩
theorem VarIs.keep {x : Str} {v : Value} (V : VarIs env h x v) (k1 : ∀ o, h.get? env.locals = some o → h'.get? env.locals = some o) (k2 : ∀ p ∈ env.cells, ∀ o, h.get? p.2 = some o → h'.get? p.2 = some o) : VarIs env h' x v := by
  rcases V with ⟨hk, m, hn, hm⟩ | ⟨hk, c, hc, o, ho, hd⟩
  · exact .inl ⟨hk, m, hn.at' k1, hm⟩
  · exact .inr ⟨hk, c, hc, o, k2 _ (mem_of_lookup hc) _ ho, hd⟩
theorem ERel.step {D : Addr → Prop} (X : ERel h₀ env ρ σ h) (p : Pres D h h') (k : TupKeep h h') (hL : ¬ D env.locals) (hC : ∀ q ∈ env.cells, ¬ D q.2)
    (sub : ∀ a, Dom σ' a → Dom σ a ∨ h.get? a = none) : ERel h₀ env ρ σ' h' := by
  have off : ∀ a ob, h.get? a = some ob → σ a = none → σ' a = none := fun a ob hl e => by
    cases q : σ' a with
    | none => rfl
    | some o =>
      rcases sub a ⟨o, q⟩ with ⟨o', e'⟩ | e'
      · rw [e'] at e; cases e
      · rw [e'] at hl; cases hl
  refine ⟨X.kind, X.glob, X.bins, ?_, ⟨X.nsoff.1, ?_⟩, fun q hq => ?_, X.apart, fun x v e => ?_⟩
  · obtain ⟨m, hm⟩ := X.ns; exact ⟨m, hm.at' fun o e => p.2 _ _ hL e⟩
  · obtain ⟨m, hm⟩ := X.ns
    obtain ⟨ob, es, ep, h1, _⟩ := hm
    exact off _ _ h1 X.nsoff.2
  · obtain ⟨⟨v, hv⟩, h1, h2, h3⟩ := X.cells q hq
    obtain ⟨o, ho, hd⟩ := hv
    exact ⟨⟨v, o, p.2 _ _ (hC q hq) ho, hd⟩, h1, off _ _ ho h2, h3⟩
  · obtain ⟨val, hv, hi⟩ := X.vars x v e
    exact ⟨val, hv.keep (fun o e => p.2 _ _ hL e) (fun q hq o e => p.2 _ _ (hC q hq) e), hi.keep k⟩
end

section
variable (prog : Program) (w : World) (h₀ : Heap)
noncomputable def Post {α β : Type} (Mod : Addr → Prop) (R : Heap → α → β → Prop) (env : Env) (σ : Store) (s : Shared) (Q : β → Loc → Store → Prop) (v : α) (s' : Shared) : Prop :=
  ∃ h' tk b ρ' σ', s' = { s with heap := h', toks := tk } ∧ Pres (fun a => Dom σ a ∨ Mod a) s.heap h' ∧ SRel prog w h₀ σ' h' ∧ ERel h₀ env ρ' σ' h' ∧
    (∀ a, Dom σ' a → Dom σ a ∨ s.heap.get? a = none) ∧ R h' v b ∧ Q b ρ' σ'

noncomputable def WP {α β : Type} (n : Nat) (Mod : Addr → Prop) (R : Heap → α → β → Prop) (env : Env) (H : List (Value × PV)) (t : Sem α) (ρ : Loc) (σ : Store) (Q : β → Loc → Store → Prop) : Prop :=
  ∀ A s, Ok n A → SRel prog w h₀ σ s.heap → ERel h₀ env ρ σ s.heap → Held H s.heap →
    wpAny (model prog w) A t (Post prog w h₀ Mod R env σ s Q) (fun _ _ => False) s
end

noncomputable def Own (env : Env) : Addr → Prop := fun a => a = env.locals ∨ ∃ p ∈ env.cells, p.2 = a

section
variable {prog : Program} {w : World} {h₀ : Heap} {α β γ δ : Type} {n : Nat} {Mod : Addr → Prop} {R : Heap → α → β → Prop} {R' : Heap → γ → δ → Prop} {env : Env} {H : List (Value × PV)} {ρ : Loc} {σ : Store}
noncomputable def NoTup (Mod : Addr → Prop) (env : Env) : Prop := ∀ a, Mod a → Own env a
theorem ERel.ownNoTup {h : Heap} (X : ERel h₀ env ρ σ h) {a : Addr} (o : Own env a) (items : Array Value) (k : Nat) : ¬ IsT h a items k := by
  intro e
  rcases o with rfl | ⟨p, hp, rfl⟩
  · obtain ⟨m, ob, es, ep, h1, h2, _⟩ := X.ns
    rw [e] at h1; cases h1; cases h2
  · obtain ⟨⟨v, ob, h1, h2⟩, _⟩ := X.cells p hp
    rw [e] at h1; cases h1; cases h2
theorem Post.elim {Q : β → Loc → Store → Prop} {s s' : Shared} {v : α} {C : Prop} (x : Post prog w h₀ Mod R env σ s Q v s') (k : ∀ h' tk b ρ' σ', s' = { s with heap := h', toks := tk } → Pres (fun a => Dom σ a ∨ Mod a) s.heap h' → SRel prog w h₀ σ' h' → ERel h₀ env ρ' σ' h' →
    (∀ a, Dom σ' a → Dom σ a ∨ s.heap.get? a = none) → R h' v b → Q b ρ' σ' → C) : C := by
  obtain ⟨h', tk, b, ρ', σ', e, p, S, X, sub, r, q⟩ := x
  exact k h' tk b ρ' σ' e p S X sub r q
theorem Post.trans {Q : δ → Loc → Store → Prop} {s s₁ : Shared} {h₁ : Heap} {tk : Nat} {σ₁ : Store} {ρ₁ : Loc} {c : γ} {s₂ : Shared} (hM : NoTup Mod env) (X₁ : ERel h₀ env ρ₁ σ₁ s₁.heap)
    (e : s₁ = { s with heap := h₁, toks := tk }) (p : Pres (fun a => Dom σ a ∨ Mod a) s.heap h₁) (sub : ∀ a, Dom σ₁ a → Dom σ a ∨ s.heap.get? a = none)
    (x : Post prog w h₀ Mod R' env σ₁ s₁ Q c s₂) : Post prog w h₀ Mod R' env σ s Q c s₂ := by
  refine x.elim fun h' tk' b ρ' σ' e p' S X sub' r q => ?_
  subst e
  subst e
  refine ⟨h', tk', b, ρ', σ', rfl, ⟨trivial, fun a o na ea => p'.2 a o (fun d => ?_) (p.2 a o na ea)⟩, S, X, fun a d => ?_, r, q⟩
  · rcases d with d | d
    · rcases sub a d with d | d
      · exact na (.inl d)
      · rw [d] at ea; cases ea
    · exact na (.inr d)
  · rcases sub' a d with d | d
    · exact sub a d
    · cases q : s.heap.get? a with
      | none => exact .inr rfl
      | some o =>
        by_cases hd : Dom σ a
        · exact .inl hd
        · by_cases hm : Mod a
          · exfalso
            rcases hM a hm with rfl | ⟨z, hz, rfl⟩
            · obtain ⟨m, ob, es, ep, h1, _⟩ := X₁.ns
              rw [show h₁.get? env.locals = none from d] at h1; cases h1
            · obtain ⟨⟨v, ob, h1, h2⟩, _⟩ := X₁.cells z hz
              rw [show h₁.get? z.2 = none from d] at h1; cases h1
          · have := p.2 a o (fun h => h.elim hd hm) q
            rw [show h₁.get? a = none from d] at this; cases this

theorem WP.mono {t : Sem α} {Q Q' : β → Loc → Store → Prop} (h : WP prog w h₀ n Mod R env H t ρ σ Q) (hq : ∀ b ρ' σ', Q b ρ' σ' → Q' b ρ' σ') : WP prog w h₀ n Mod R env H t ρ σ Q' := fun A s ok S X hh =>
  wpAny_mono (h A s ok S X hh) (fun v s' x => x.elim fun h' tk b ρ' σ' e p S' X' sub r q => ⟨h', tk, b, ρ', σ', e, p, S', X', sub, r, hq _ _ _ q⟩) fun _ _ e => e

theorem WP.seq (hM : NoTup Mod env) {m : Sem α} {t : Sem γ} {k : α → Sem γ} {Q : δ → Loc → Store → Prop} {HH : α → β → List (Value × PV)}
    (ht : ∀ A s Q' E, wpAny (model prog w) A m (fun v s₁ => wpAny (model prog w) A (k v) Q' E s₁) E s → wpAny (model prog w) A t Q' E s)
    (hR : ∀ h v b, R h v b → Held (HH v b) h)
    (h : WP prog w h₀ n Mod R env H m ρ σ (fun b ρ₁ σ₁ => ∀ v, (∃ h, R h v b) → WP prog w h₀ n Mod R' env (HH v b ++ H) (k v) ρ₁ σ₁ Q)) : WP prog w h₀ n Mod R' env H t ρ σ Q := fun A s ok S X hh => by
  refine ht A s _ _ (wpAny_mono (h A s ok S X hh) (fun v s₁ x => ?_) fun _ _ e => e)
  refine x.elim fun h' tk b ρ' σ' e p S' X' sub r q => ?_
  subst e
  have k := S.tupKeep p (fun a d => d.imp (fun q => q) fun d => X.ownNoTup (hM a d))
  refine wpAny_mono (q v ⟨_, r⟩ A _ ok S' X' (fun z hz => ?_)) (fun v' s₂ x => Post.trans hM X' rfl p sub x) fun _ _ e => e
  rcases List.mem_append.mp hz with hz | hz
  · exact hR _ _ _ r z hz
  · exact (hh z hz).keep k
end

end Mine.Internal
end

section
namespace Mine.Internal

noncomputable def NoMod : Addr → Prop := fun _ => False
theorem noMod (env : Env) : NoTup NoMod env := fun _ h => h.elim
theorem ownMod (env : Env) : NoTup (Own env) env := fun _ h => h

section
variable (prog : Program) (w : World) (h₀ : Heap)
noncomputable def WE {α β : Type} (n : Nat) (R : Heap → α → β → Prop) (env : Env) (H : List (Value × PV)) (t : Sem α) (ρ : Loc) (σ : Store) (Q : β → Store → Prop) : Prop :=
  WP prog w h₀ n NoMod R env H t ρ σ fun b ρ' σ' => ρ' = ρ ∧ Q b σ'
abbrev WV (n : Nat) (env : Env) (H : List (Value × PV)) (t : Sem Value) (ρ : Loc) (σ : Store) (Q : PV → Store → Prop) : Prop := WE prog w h₀ n Is env H t ρ σ Q
abbrev WL (n : Nat) (env : Env) (H : List (Value × PV)) (t : Sem (List Value)) (ρ : Loc) (σ : Store) (Q : List PV → Store → Prop) : Prop := WE prog w h₀ n IsAll env H t ρ σ Q
abbrev WB (n : Nat) (env : Env) (H : List (Value × PV)) (t : Sem Bool) (ρ : Loc) (σ : Store) (Q : Bool → Store → Prop) : Prop := WE prog w h₀ n (fun _ v b => v = b) env H t ρ σ Q

inductive PFlow where
  | next | brk | cont | ret (v : PV)
inductive FlowIs (h : Heap) : Flow → PFlow → Prop
  | next : FlowIs h .next .next
  | brk : FlowIs h .brk .brk
  | cont : FlowIs h .cont .cont
  | ret {v : Value} {x : PV} : Is h v x → FlowIs h (.ret v) (.ret x)
abbrev WS (n : Nat) (env : Env) (t : Sem Flow) (ρ : Loc) (σ : Store) (Q : PFlow → Loc → Store → Prop) : Prop := WP prog w h₀ n (Own env) FlowIs env [] t ρ σ Q
end

section
variable {prog : Program} {w : World} {h₀ : Heap} {α β γ δ : Type} {n : Nat} {Mod : Addr → Prop} {R : Heap → α → β → Prop} {R' : Heap → γ → δ → Prop} {env : Env} {H : List (Value × PV)} {ρ : Loc} {σ : Store}

theorem WE.mono {t : Sem α} {Q Q' : β → Store → Prop} (h : WE prog w h₀ n R env H t ρ σ Q) (hq : ∀ b σ', Q b σ' → Q' b σ') : WE prog w h₀ n R env H t ρ σ Q' := WP.mono h fun b ρ' σ' ⟨e, q⟩ => ⟨e, hq _ _ q⟩

theorem WP.held {t : Sem α} {Q : β → Loc → Store → Prop} {H' : List (Value × PV)} (h : WP prog w h₀ n Mod R env H' t ρ σ Q) (hs : ∀ p ∈ H', p ∈ H) : WP prog w h₀ n Mod R env H t ρ σ Q := fun A s ok S X hh => h A s ok S X fun p hp => hh p (hs p hp)
theorem WP.know {t : Sem α} {Q : β → Loc → Store → Prop} {ρ' : Loc} {σ' : Store} (h : WP prog w h₀ n Mod R env H t ρ' σ' Q) (l : Less σ' σ) (lr : ∀ x v, ρ'.lookup x = some v → ρ.lookup x = some v) : WP prog w h₀ n Mod R env H t ρ σ Q := fun A s ok S X hh =>
  wpAny_mono (h A s ok (S.less l) ((X.less l).forget lr) hh) (fun v s' x => x.elim fun h' tk b ρ' σ' e p S' X' sub r q => ⟨h', tk, b, ρ', σ', e, p.mono (fun a d => d.imp (l.dom ·) id), S', X', fun a d => (sub a d).imp (l.dom ·) id, r, q⟩) fun _ _ e => e
theorem WE.seq {m : Sem α} {t : Sem γ} {k : α → Sem γ} {Q : δ → Store → Prop} {HH : α → β → List (Value × PV)}
    (ht : ∀ A s Q' E, wpAny (model prog w) A m (fun v s₁ => wpAny (model prog w) A (k v) Q' E s₁) E s → wpAny (model prog w) A t Q' E s)
    (hR : ∀ h v b, R h v b → Held (HH v b) h)
    (h : WE prog w h₀ n R env H m ρ σ (fun b σ₁ => ∀ v, (∃ h, R h v b) → WE prog w h₀ n R' env (HH v b ++ H) (k v) ρ σ₁ Q)) : WE prog w h₀ n R' env H t ρ σ Q :=
  WP.seq (noMod env) ht hR (WP.mono h fun b ρ₁ σ₁ ⟨e, q⟩ v hv => by subst e; exact q v hv)
theorem WV.seq {m : Sem Value} {t : Sem γ} {k : Value → Sem γ} {Q : δ → Store → Prop}
    (ht : ∀ A s Q' E, wpAny (model prog w) A m (fun v s₁ => wpAny (model prog w) A (k v) Q' E s₁) E s → wpAny (model prog w) A t Q' E s)
    (h : WV prog w h₀ n env H m ρ σ (fun b σ₁ => ∀ v, WE prog w h₀ n R' env ((v, b) :: H) (k v) ρ σ₁ Q)) : WE prog w h₀ n R' env H t ρ σ Q :=
  WE.seq (HH := fun v b => [(v, b)]) ht (fun h v b r p hp => by rw [List.mem_singleton.mp hp]; exact r) (WE.mono h fun b σ₁ q v _ => q v)
theorem WB.seq {m : Sem Bool} {t : Sem γ} {k : Bool → Sem γ} {Q : δ → Store → Prop}
    (ht : ∀ A s Q' E, wpAny (model prog w) A m (fun v s₁ => wpAny (model prog w) A (k v) Q' E s₁) E s → wpAny (model prog w) A t Q' E s)
    (h : WB prog w h₀ n env H m ρ σ (fun b σ₁ => WE prog w h₀ n R' env H (k b) ρ σ₁ Q)) : WE prog w h₀ n R' env H t ρ σ Q :=
  WE.seq (HH := fun v b => []) ht (fun h v b r p hp => by cases hp) (WE.mono h fun b σ₁ q v hv => by obtain ⟨_, rfl⟩ := hv; simpa using q)
theorem WE.leaf {t : Sem α} {b : β} {Q : β → Store → Prop} (q : Q b σ)
    (ht : ∀ A s (Q' : α → Shared → Prop), Ok n A → SRel prog w h₀ σ s.heap → ERel h₀ env ρ σ s.heap → Held H s.heap → (∀ v tk, R s.heap v b → Q' v { s with toks := tk }) → wpAny (model prog w) A t Q' (fun _ _ => False) s) : WE prog w h₀ n R env H t ρ σ Q :=
  fun A s ok S X hh => ht A s _ ok S X hh fun v tk r => ⟨s.heap, tk, b, ρ, σ, rfl, Pres.refl, S, X, fun a d => .inl d, r, rfl, q⟩

theorem WE.newObj {t : Sem Value} {o : MObj} {Q : PV → Store → Prop} (q : ∀ a, σ a = none → Q (.loc a) (upd σ a o))
    (ht : ∀ A s (Q' : Value → Shared → Prop), Ok n A → SRel prog w h₀ σ s.heap → ERel h₀ env ρ σ s.heap → Held H s.heap →
      (∀ h' tk a, Pres NoMod s.heap h' → s.heap.get? a = none → Rep prog w h' a o → Q' (.ref a) { s with heap := h', toks := tk }) → wpAny (model prog w) A t Q' (fun _ _ => False) s) : WV prog w h₀ n env H t ρ σ Q := fun A s ok S X hh =>
  ht A s _ ok S X hh fun h' tk a p ha r => by
    have fr : σ a = none := by
      cases e : σ a with
      | none => rfl
      | some o' => obtain ⟨ob, e2, _⟩ := (S.objs _ _ e).get; rw [ha] at e2; cases e2
    have k : TupKeep s.heap h' := fun b items n' e => p.2 b _ (fun f => f) e
    have sub : ∀ b, Dom (upd σ a o) b → Dom σ b ∨ s.heap.get? b = none := fun b ⟨o', e⟩ => by
      by_cases hb : b = a
      · subst hb; exact .inr ha
      · rw [upd_ne _ _ hb] at e; exact .inl ⟨o', e⟩
    have X' := X.step (σ' := upd σ a o) p k (fun f => f) (fun _ _ f => f) sub
    refine ⟨h', tk, .loc a, ρ, upd σ a o, rfl, p.mono (fun b d => d.elim), ⟨fun b ob e => p.2 b ob (fun f => f) (S.base b ob e), trivial, fun b o' e => ?_, fun b o' e => ?_⟩, X', sub, .loc a, rfl, q a fr⟩
    · by_cases hb : b = a
      · subst hb; rw [upd_same] at e; cases e; exact r
      · rw [upd_ne _ _ hb] at e; exact (S.objs b o' e).keep k fun ob eo => p.2 b ob (fun f => f) eo
    · by_cases hb : b = a
      · subst hb
        cases q' : h₀.get? b with
        | none => rfl
        | some ob => have e2 := S.base _ _ q'; rw [ha] at e2; cases e2
      · rw [upd_ne _ _ hb] at e; exact S.off b o' e

theorem WE.newFirm {t : Sem α} {b : β} {Q : β → Store → Prop} (q : Q b σ)
    (ht : ∀ A s (Q' : α → Shared → Prop), Ok n A → SRel prog w h₀ σ s.heap → ERel h₀ env ρ σ s.heap → Held H s.heap →
      (∀ v h' tk, Pres NoMod s.heap h' → R h' v b → Q' v { s with heap := h', toks := tk }) → wpAny (model prog w) A t Q' (fun _ _ => False) s) : WE prog w h₀ n R env H t ρ σ Q := fun A s ok S X hh =>
  ht A s _ ok S X hh fun v h' tk p r => by
    have k : TupKeep s.heap h' := fun b items n' e => p.2 b _ (fun f => f) e
    exact ⟨h', tk, b, ρ, σ, rfl, p.mono (fun b d => d.elim), ⟨fun b ob e => p.2 b ob (fun f => f) (S.base b ob e), trivial, fun b o' e => (S.objs b o' e).keep k fun ob eo => p.2 b ob (fun f => f) eo, S.off⟩,
      X.step p k (fun f => f) (fun _ _ f => f) (fun _ d => .inl d), fun _ d => .inl d, r, rfl, q⟩

theorem WE.turn {t : Sem α} {b : β} {a : Addr} {o o' : MObj} {Q : β → Store → Prop} (e : σ a = some o) (q : Q b (upd σ a o'))
    (ht : ∀ A s (Q' : α → Shared → Prop), Ok n A → SRel prog w h₀ σ s.heap → ERel h₀ env ρ σ s.heap → Held H s.heap → Rep prog w s.heap a o →
      (∀ v h' tk, Pres (fun c => c = a) s.heap h' → (TupKeep s.heap h' → Rep prog w h' a o' ∧ R h' v b) → Q' v { s with heap := h', toks := tk }) → wpAny (model prog w) A t Q' (fun _ _ => False) s) : WE prog w h₀ n R env H t ρ σ Q := fun A s ok S X hh =>
  ht A s _ ok S X hh (S.objs a o e) fun v h' tk p r => by
    have k : TupKeep s.heap h' := S.tupKeep p fun c hc => .inl (by subst hc; exact ⟨o, e⟩)
    obtain ⟨r1, r2⟩ := r k
    have sub : ∀ b, Dom (upd σ a o') b → Dom σ b ∨ s.heap.get? b = none := fun b ⟨o2, e2⟩ => by
      by_cases hb : b = a
      · subst hb; exact .inl ⟨o, e⟩
      · rw [upd_ne _ _ hb] at e2; exact .inl ⟨o2, e2⟩
    have nL : env.locals ≠ a := fun h => by have := X.nsoff.2; rw [h, e] at this; cases this
    refine ⟨h', tk, b, ρ, upd σ a o', rfl, p.mono (fun c hc => .inl (by subst hc; exact ⟨o, e⟩)), ⟨fun c ob ec => p.2 c ob (fun h => ?_) (S.base c ob ec), trivial, fun c o2 ec => ?_, fun c o2 ec => ?_⟩,
      X.step p k nL (fun z hz h => ?_) sub, sub, r2, rfl, q⟩
    · subst h; rw [S.off _ _ e] at ec; cases ec
    · by_cases hb : c = a
      · subst hb; rw [upd_same] at ec; cases ec; exact r1
      · rw [upd_ne _ _ hb] at ec; exact (S.objs c o2 ec).keep k fun ob eo => p.2 c ob hb eo
    · by_cases hb : c = a
      · subst hb; exact S.off _ _ e
      · rw [upd_ne _ _ hb] at ec; exact S.off c o2 ec
    · have := (X.cells z hz).2.2.1; rw [h, e] at this; cases this
end

section
variable {prog : Program} {w : World} {h₀ : Heap} {n : Nat} {env : Env} {H : List (Value × PV)} {ρ : Loc} {σ : Store} {Q : PV → Store → Prop}

theorem we_int {i : Int} {k : Nat} {pos : Pos} (q : Q (.int i) σ) : WV prog w h₀ n env H (eval (.Constant (.int i) k pos) env) ρ σ Q := WE.leaf q fun A s Q' ok S X hh hQ => wpAny_Constant_int (hQ _ _ (.int _ _))
end

end Mine.Internal
end

section
namespace Mine.Internal

section
variable {prog : Program} {w : World} {h₀ : Heap} {α β γ δ : Type} {n : Nat} {Mod : Addr → Prop} {R : Heap → α → β → Prop} {R' : Heap → γ → δ → Prop} {env : Env} {H : List (Value × PV)} {ρ : Loc} {σ : Store}

theorem held_int {h : Heap} {v : Value} {i : Int} (x : Held H h) (m : (v, PV.int i) ∈ H) : ∃ t, v = .int i t := by
  have := x _ m; cases this; exact ⟨_, rfl⟩
theorem held_str {h : Heap} {v : Value} {i : Str} (x : Held H h) (m : (v, PV.str i) ∈ H) : ∃ t, v = .str i t := by
  have := x _ m; cases this; exact ⟨_, rfl⟩
theorem held_bool {h : Heap} {v : Value} {i : Bool} (x : Held H h) (m : (v, PV.bool i) ∈ H) : v = .bool i := by
  have := x _ m; cases this; rfl
theorem held_none {h : Heap} {v : Value} (x : Held H h) (m : (v, PV.none) ∈ H) : v = .none := by
  have := x _ m; cases this; rfl
theorem held_loc {h : Heap} {v : Value} {a : Addr} (x : Held H h) (m : (v, PV.loc a) ∈ H) : v = .ref a := by
  have := x _ m; cases this; rfl
theorem held_tup {h : Heap} {v : Value} {xs : List PV} (x : Held H h) (m : (v, PV.tup xs) ∈ H) : ∃ a n vs, v = .ref a ∧ IsT h a (List.toArray vs) n ∧ IsAll h vs xs := by
  have := x _ m; cases this with | tup t r => exact ⟨_, _, _, rfl, t, r⟩

theorem WV.seq2 {m1 m2 : Sem Value} {t : Sem γ} {k : Value → Value → Sem γ} {Q : δ → Store → Prop}
    (ht : ∀ A s Q' E, wpAny (model prog w) A m1 (fun a s₁ => wpAny (model prog w) A m2 (fun b s₂ => wpAny (model prog w) A (k a b) Q' E s₂) E s₁) E s → wpAny (model prog w) A t Q' E s)
    (h : WV prog w h₀ n env H m1 ρ σ (fun x σ₁ => ∀ a, WV prog w h₀ n env ((a, x) :: H) m2 ρ σ₁ (fun y σ₂ => ∀ b, WE prog w h₀ n R' env ((b, y) :: (a, x) :: H) (k a b) ρ σ₂ Q))) : WE prog w h₀ n R' env H t ρ σ Q := fun A s ok S X hh => by
  refine ht A s _ _ (wpAny_mono (h A s ok S X hh) (fun a s₁ x => ?_) fun _ _ e => e)
  refine x.elim fun h' tk b ρ' σ' e p S' X' sub r q => ?_
  obtain ⟨rfl, q⟩ := q
  subst e
  have k1 := S.tupKeep p (fun a d => d.imp (fun q => q) fun d => d.elim)
  have hh' := (hh.keep k1).cons r
  refine wpAny_mono (q a A _ ok S' X' hh') (fun c s₂ x => ?_) fun _ _ e => e
  obtain ⟨h2, tk2, b2, ρ2, σ2, rfl, p2, S2, X2, sub2, r2, rfl, q2⟩ := x
  have k2 := S'.tupKeep p2 (fun a d => d.imp (fun q => q) fun d => d.elim)
  refine wpAny_mono (q2 c A _ ok S2 X2 ((hh'.keep k2).cons r2)) (fun v s₃ x => ?_) fun _ _ e => e
  exact Post.trans (noMod env) X' rfl p sub (Post.trans (noMod env) X2 rfl p2 sub2 x)
theorem WE.run {m : Sem α} {Q1 : β → Store → Prop} (h : WE prog w h₀ n R env H m ρ σ Q1) {A : Around} {s : Shared} (ok : Ok n A) (S : SRel prog w h₀ σ s.heap) (X : ERel h₀ env ρ σ s.heap) (hh : Held H s.heap) {Q' : α → Shared → Prop}
    (hq : ∀ v s₁ b σ₁, SRel prog w h₀ σ₁ s₁.heap → ERel h₀ env ρ σ₁ s₁.heap → Held H s₁.heap → R s₁.heap v b → Q1 b σ₁ → (∀ (Q : δ → Loc → Store → Prop) c s₂, Post prog w h₀ NoMod R' env σ₁ s₁ Q c s₂ → Post prog w h₀ NoMod R' env σ s Q c s₂) → Q' v s₁) :
    wpAny (model prog w) A m Q' (fun _ _ => False) s :=
  wpAny_mono (h A s ok S X hh) (fun v s₁ x => by
    refine x.elim fun h' tk b ρ' σ' e p S' X' sub r q => ?_
    obtain ⟨e2, q⟩ := q
    subst e; subst e2
    exact hq v _ b σ' S' X' (hh.keep (S.tupKeep p (fun a d => d.imp (fun q => q) fun d => d.elim))) r q fun Q c s₂ x => Post.trans (noMod env) X' rfl p sub x) fun _ _ e => e
theorem Post.here {Q : β → Loc → Store → Prop} {s : Shared} {v : α} {b : β} (S : SRel prog w h₀ σ s.heap) (X : ERel h₀ env ρ σ s.heap) (r : R s.heap v b) (q : Q b ρ σ) : Post prog w h₀ Mod R env σ s Q v s :=
  ⟨s.heap, s.toks, b, ρ, σ, rfl, Pres.refl, S, X, fun _ d => .inl d, r, q⟩
theorem WE.more {t : Sem γ} {Q : δ → Store → Prop} (h : WE prog w h₀ n R' env [] t ρ σ Q) : WE prog w h₀ n R' env H t ρ σ Q := WP.held h fun _ hp => by cases hp
end

section
variable {prog : Program} {w : World} {h₀ : Heap} {n : Nat} {env : Env} {H : List (Value × PV)} {ρ : Loc} {σ : Store} {Q : PV → Store → Prop}

theorem we_str {x : Str} {k : Nat} {pos : Pos} (q : Q (.str x) σ) : WV prog w h₀ n env H (eval (.Constant (.str x) k pos) env) ρ σ Q := WE.leaf q fun A s Q' ok S X hh hQ => wpAny_Constant_str (hQ _ _ (.str _ _))
theorem we_bool {x : Bool} {k : Nat} {pos : Pos} (q : Q (.bool x) σ) : WV prog w h₀ n env H (eval (.Constant (.bool x) k pos) env) ρ σ Q := WE.leaf q fun A s Q' ok S X hh hQ => Constant_bool (hQ _ s.toks (.bool _))
theorem we_none {k : Nat} {pos : Pos} (q : Q .none σ) : WV prog w h₀ n env H (eval (.Constant .none k pos) env) ρ σ Q := WE.leaf q fun A s Q' ok S X hh hQ => Constant_none (hQ _ s.toks .none)
theorem wv_loadName {x : Str} {v : PV} (e : ρ.lookup x = some v) (q : Q v σ) (hc : autoParam ((x == ("__classdict__" : Str)) = false) Mine.Internal.au0) : WV prog w h₀ n env H (loadName env x) ρ σ Q := WE.leaf q fun A s Q' ok S X hh hQ => by
  obtain ⟨val, hv, hi⟩ := X.vars _ _ e
  rcases hv with ⟨hk, m, hn, hm⟩ | ⟨hk, c, hl, hcell⟩
  · exact wpAny_loadName_local X.kind hk hn hm (hQ val s.toks hi)
  · rcases hk with hk | hk
    · exact wpAny_loadName_cell X.kind hk hl hcell (hQ val s.toks hi)
    · exact wpAny_loadName_free X.kind hk hl hcell (hQ val s.toks hi) hc
theorem we_name {x : Str} {pos : Pos} {v : PV} (e : ρ.lookup x = some v) (q : Q v σ) (hd : autoParam ((x == ("__debug__" : Str)) = false) Mine.Internal.au0) (hc : autoParam ((x == ("__classdict__" : Str)) = false) Mine.Internal.au0) : WV prog w h₀ n env H (eval (.Name x pos) env) ρ σ Q :=
  fun A s ok S X hh => wpAny_Name (wv_loadName (prog := prog) (w := w) (h₀ := h₀) (n := n) (H := H) e q hc A s ok S X hh) hd

noncomputable def LBin (prog : Program) (w : World) (h₀ : Heap) (n : Nat) (op : Operator) (x y : PV) (σ : Store) (Q : PV → Store → Prop) : Prop :=
  ∀ env ρ H a b, (a, x) ∈ H → (b, y) ∈ H → WV prog w h₀ n env H (binaryOp op a b) ρ σ Q
theorem we_bin {l r : Expr} {op : Operator} {pos : Pos}
    (h : WV prog w h₀ n env [] (eval l env) ρ σ fun x σ₁ => WV prog w h₀ n env [] (eval r env) ρ σ₁ fun y σ₂ => LBin prog w h₀ n op x y σ₂ Q) :
    WV prog w h₀ n env [] (eval (.BinOp l op r pos) env) ρ σ Q :=
  WV.seq2 (fun A s Q' E hh => wpAny_BinOp hh) (WE.mono h fun x σ₁ q a => WE.more (WE.mono q fun y σ₂ q b => q _ _ _ _ _ (.tail _ (.head _)) (.head _)))

theorem lb_add_int {i j : Int} (q : Q (.int (i + j)) σ) : LBin prog w h₀ n .Add (.int i) (.int j) σ Q := fun env ρ H a b ha hb => WE.leaf q fun A s Q' ok S X hh hQ => by
  obtain ⟨t, rfl⟩ := held_int hh ha; obtain ⟨u, rfl⟩ := held_int hh hb; exact PyProof.Rows.add_int (hQ _ _ (.int _ _))
theorem lb_sub_int {i j : Int} (q : Q (.int (i - j)) σ) : LBin prog w h₀ n .Sub (.int i) (.int j) σ Q := fun env ρ H a b ha hb => WE.leaf q fun A s Q' ok S X hh hQ => by
  obtain ⟨t, rfl⟩ := held_int hh ha; obtain ⟨u, rfl⟩ := held_int hh hb; exact PyProof.Rows.sub_int (hQ _ _ (.int _ _))
theorem lb_div_int {i j : Int} (h0 : j ≠ 0) (hb : j.natAbs < 1073741824) (q : Q (.int (i.fdiv j)) σ) : LBin prog w h₀ n .FloorDiv (.int i) (.int j) σ Q := fun env ρ H a b ha hb' => WE.leaf q fun A s Q' ok S X hh hQ => by
  obtain ⟨t, rfl⟩ := held_int hh ha; obtain ⟨u, rfl⟩ := held_int hh hb'; exact PyProof.Rows.floordiv_int h0 (hQ _ _ (.int _ _)) (.inl (PyProof.noPylong_small hb))
theorem lb_mod_int {i j : Int} (h0 : j ≠ 0) (q : Q (.int (i.fmod j)) σ) : LBin prog w h₀ n .Mod (.int i) (.int j) σ Q := fun env ρ H a b ha hb' => WE.leaf q fun A s Q' ok S X hh hQ => by
  obtain ⟨t, rfl⟩ := held_int hh ha; obtain ⟨u, rfl⟩ := held_int hh hb'; exact PyProof.Rows.mod_int' h0 (hQ _ _ (.int _ _))
theorem lb_add_str {x y : Str} (hs : x.length + y.length ≤ 1000) (q : Q (.str (x ++ y)) σ) : LBin prog w h₀ n .Add (.str x) (.str y) σ Q := fun env ρ H a b ha hb => WE.leaf q fun A s Q' ok S X hh hQ => by
  obtain ⟨t, rfl⟩ := held_str hh ha; obtain ⟨u, rfl⟩ := held_str hh hb; exact PyProof.Rows.add_str (fun t' tk => hQ _ _ (.str _ _)) (by unfold sizeLine; (first | lia | omega))
theorem lb_add_list {a b : Addr} {xs ys : List PV} (ea : σ a = some (.lst xs)) (eb : σ b = some (.lst ys)) (hs : xs.length + ys.length ≤ 1000000) (q : ∀ c, σ c = none → Q (.loc c) (upd σ c (.lst (xs ++ ys)))) : LBin prog w h₀ n .Add (.loc a) (.loc b) σ Q := fun env ρ H u v ha hb => WE.newObj q fun A s Q' ok S X hh hQ => by
  have := held_loc hh ha; subst this; have := held_loc hh hb; subst this
  obtain ⟨vs, k, l1, i1⟩ := S.objs _ _ ea
  obtain ⟨ws, k2, l2, i2⟩ := S.objs _ _ eb
  have e1 := i1.length; have e2 := i2.length
  refine PySem.P.add_list l1 l2 ?_ (by simp only [List.size_toArray]; unfold sizeLine; (first | lia | omega))
  have p : Pres NoMod s.heap (s.heap.push { cls := .type "list", data := .seq (vs.toArray ++ ws.toArray) }) := Pres.refl.push _
  refine hQ _ s.toks _ p (fresh _) ⟨vs ++ ws, 0, ?_, ?_⟩
  · rw [← List.append_toArray]; exact IsL.new _ _
  · have k : TupKeep s.heap (s.heap.push { cls := .type "list", data := .seq (vs.toArray ++ ws.toArray) }) := fun b items n' e => p.2 b _ (fun f => f) e
    exact (i1.append i2).keep k

noncomputable def LCmp (prog : Program) (w : World) (h₀ : Heap) (op : CmpOp) (x y : PV) (σ : Store) (r : Bool) : Prop :=
  ∀ A s a b (Q : Value → Shared → Prop), Ok 0 A → SRel prog w h₀ σ s.heap → Is s.heap a x → Is s.heap b y → (∀ tk, Q (.bool r) { s with toks := tk }) → wpAny (model prog w) A (compareOp op a b) Q (fun _ _ => False) s
theorem we_cmp {l r : Expr} {op : CmpOp} {pos : Pos} 
    (h : WV prog w h₀ n env [] (eval l env) ρ σ fun x σ₁ => WV prog w h₀ n env [] (eval r env) ρ σ₁ fun y σ₂ => ∃ b, LCmp prog w h₀ op x y σ₂ b ∧ Q (.bool b) σ₂) 
    (hm : autoParam (behindInMarks op r = false) Mine.Internal.au1) :
    WV prog w h₀ n env [] (eval (.Compare l [op] [r] pos) env) ρ σ Q :=
  WV.seq2 (fun A s Q' E hh => wpAny_Compare1 hh hm) (WE.mono h fun x σ₁ q a => WE.more (WE.mono q fun y σ₂ ⟨r, c, q⟩ b => WE.leaf q fun A s Q' ok S X hh hQ =>
    c A s a b _ (ok.mono (Nat.zero_le _)) S (hh _ (.tail _ (.head _))) (hh _ (.head _)) fun tk => hQ _ _ (.bool _)))
variable {QB : Bool → Store → Prop}
theorem wt_cmp {l r : Expr} {op : CmpOp} {pos : Pos} {whole : Sem Value}
    (h : WV prog w h₀ n env [] (eval l env) ρ σ fun x σ₁ => WV prog w h₀ n env [] (eval r env) ρ σ₁ fun y σ₂ => ∃ b, LCmp prog w h₀ op x y σ₂ b ∧ QB b σ₂) 
    (hm : autoParam (behindInMarks op r = false) Mine.Internal.au1) :
    WB prog w h₀ n env [] (isTrue (.Compare l [op] [r] pos) env whole) ρ σ QB :=
  WV.seq2 (k := fun a b => compareOp op a b >>= truthy) (fun A s Q' E hh Γ p hΓ => by
      simp only [isTrue_Compare1, markedBehindIn_of_false hm, Sem.wp_bind', Sem.wp_holding, Sem.wp_cmd_standAt, Sem.wp_operate]
      exact Sem.wp_mono _ Γ _ (fun a p₁ s₁ h₁ => Sem.wp_mono _ Γ _ (fun b _ s₂ h₂ => by simpa only [Sem.wp_bind'] using h₂ Γ _ hΓ)
        (fun _ _ _ h' => h') _ _ (h₁ Γ p₁ hΓ)) (fun _ _ _ h' => h') _ _ (hh Γ p hΓ)) (WE.mono h fun x σ₁ q a => WE.more (WE.mono q fun y σ₂ ⟨r, c, q⟩ b => WE.leaf q fun A s Q' ok S X hh hQ =>
    wpAny_bind (c A s a b _ (ok.mono (Nat.zero_le _)) S (hh _ (.tail _ (.head _))) (hh _ (.head _)) fun tk => wpAny_truthy_bool (hQ _ _ rfl))))
theorem wt_or_nil {pos : Pos} {whole : Sem Value} (q : QB false σ) : WB prog w h₀ n env [] (isTrue (.BoolOp .Or [] pos) env whole) ρ σ QB := WE.leaf q fun A s Q' ok S X hh hQ => isTrue_or_nil (hQ _ _ rfl)
theorem wt_or {x : Expr} {rest : List Expr} {pos : Pos} {whole : Sem Value}
    (h : WB prog w h₀ n env [] (isTrue x env (eval x env)) ρ σ fun c σ₁ => if c then QB true σ₁ else WB prog w h₀ n env [] (isTrue (.BoolOp .Or rest pos) env whole) ρ σ₁ QB) :
    WB prog w h₀ n env [] (isTrue (.BoolOp .Or (x :: rest) pos) env whole) ρ σ QB := fun A s ok S X hh => isTrue_or (h.run ok S X hh fun v s₁ b σ₁ S₁ X₁ hh₁ r q tr => by
      subst r; cases v
      · exact wpAny_mono (q A s₁ ok S₁ X₁ hh₁) (fun v s₂ x => tr _ _ _ x) fun _ _ e => e
      · exact tr _ _ _ (Post.here S₁ X₁ rfl ⟨rfl, q⟩))
theorem wt_plain {e : Expr} {whole : Sem Value} (h : WV prog w h₀ n env [] whole ρ σ fun x σ₁ => ∃ b, x = .bool b ∧ QB b σ₁)
    (he : autoParam (isTrue e env whole = (do let v ← whole; standAt e.pos; holding [v] (truthy v))) Mine.Internal.au2) : WB prog w h₀ n env [] (isTrue e env whole) ρ σ QB :=
  WV.seq (fun A s Q' E hh => isTrue_plain hh he) (WE.mono h fun x σ₁ ⟨b, e, q⟩ v => by
    subst e; exact WE.leaf q fun A s Q' ok S X hh hQ => by have := held_bool hh (.head _); subst this; exact wpAny_truthy_bool (hQ _ s.toks rfl))
theorem we_if {test body orelse : Expr} {pos : Pos} (h : WB prog w h₀ n env [] (isTrue test env (eval test env)) ρ σ fun c σ₁ => if c then WV prog w h₀ n env [] (eval body env) ρ σ₁ Q else WV prog w h₀ n env [] (eval orelse env) ρ σ₁ Q) :
    WV prog w h₀ n env [] (eval (.IfExp test body orelse pos) env) ρ σ Q :=
  WB.seq (k := fun c => if c then eval body env else eval orelse env) (fun A s Q' E hh => IfExp_ (wpAny_mono hh (fun c s' h' => by cases c <;> exact h') fun _ _ e => e)) (WE.mono h fun c σ₁ q => by cases c <;> exact q)

variable {QL : List PV → Store → Prop}
theorem wl_nil {pos : Pos} (q : QL [] σ) : WL prog w h₀ n env [] (spliced (backTo pos (starEach [] env))) ρ σ QL := WE.leaf q fun A s Q' ok S X hh hQ => Calls.spliced_nil (hQ _ s.toks .nil)
theorem wl_cons {e : Expr} {es : List Expr} {pos : Pos} (h : WV prog w h₀ n env [] (eval e env) ρ σ fun x σ₁ => WL prog w h₀ n env [] (spliced (backTo pos (starEach es env))) ρ σ₁ fun xs σ₂ => QL (x :: xs) σ₂)
    (he : autoParam (starEach (e :: es) env = (false, eval e env) :: starEach es env) Mine.Internal.au2) : WL prog w h₀ n env [] (spliced (backTo pos (starEach (e :: es) env))) ρ σ QL := by
  rw [he]
  exact fun A s ok S X hh => Calls.spliced_cons (h.run ok S X hh fun v s₁ x σ₁ S₁ X₁ hh₁ r q tr => (WE.more (H := [(v, x)]) q).run ok S₁ X₁ (hh₁.cons r) fun vs s₂ xs σ₂ S₂ X₂ hh₂ r₂ q₂ tr₂ => 
    tr _ _ _ (tr₂ _ _ _ (Post.here S₂ X₂ (.cons (hh₂ _ (.head _)) r₂) ⟨rfl, q₂⟩)))
end

end Mine.Internal
end

section
namespace Mine.Internal

mutual
noncomputable def Ty.deep : Ty → Nat
  | .tup ts => Ty.deeps ts + 1
  | .seq t => t.deep + 1
  | _ => 0
noncomputable def Ty.deeps : List Ty → Nat
  | [] => 0
  | t :: ts => max t.deep (Ty.deeps ts)
end
mutual
theorem HasTy.deep : ∀ (t : Ty) (x : PV), HasTy t x → x.deep ≤ t.deep
  | t, x, h => by
    cases x <;> cases t <;> first | exact False.elim h | exact Nat.zero_le _ | exact Nat.succ_le_succ (HasTys.deep _ _ h) | exact Nat.succ_le_succ (AllTy.deep _ _ h)
theorem HasTys.deep : ∀ (ts : List Ty) (xs : List PV), HasTys ts xs → PV.deeps xs ≤ Ty.deeps ts
  | ts, [], h => Nat.zero_le _
  | [], x :: xs, h => False.elim h
  | t :: ts, x :: xs, h => Nat.max_le.mpr ⟨Nat.le_trans (HasTy.deep t x (And.left h)) (Nat.le_max_left ..), Nat.le_trans (HasTys.deep ts xs (And.right h)) (Nat.le_max_right ..)⟩
theorem AllTy.deep : ∀ (t : Ty) (xs : List PV), AllTy t xs → PV.deeps xs ≤ t.deep
  | t, [], h => Nat.zero_le _
  | t, x :: xs, h => Nat.max_le.mpr ⟨HasTy.deep t x (And.left h), AllTy.deep t xs (And.right h)⟩
end
section
variable {prog : Program} {w : World} {h₀ : Heap} {σ : Store}
theorem in1_units (A : Around) : A.in1.units ≤ A.units + 1 := Nat.le_refl _

theorem lc_lt {i j : Int} : LCmp prog w h₀ .Lt (.int i) (.int j) σ (decide (i < j)) := fun A s a b Q ok S ha hb hQ => by cases ha; cases hb; exact PyProof.Rows.lt_int (hQ s.toks)
theorem lc_eq {i j : Int} : LCmp prog w h₀ .Eq (.int i) (.int j) σ (decide (i = j)) := fun A s a b Q ok S ha hb hQ => by cases ha; cases hb; exact PyProof.Rows.eq_int (hQ s.toks)
theorem lc_ne {i j : Int} : LCmp prog w h₀ .NotEq (.int i) (.int j) σ (!decide (i = j)) := fun A s a b Q ok S ha hb hQ => by cases ha; cases hb; exact PyProof.Rows.ne_int (hQ s.toks)
theorem lc_ne_bool {i j : Bool} : LCmp prog w h₀ .NotEq (.bool i) (.bool j) σ (i != j) := fun A s a b Q ok S ha hb hQ => by cases ha; cases hb; exact PyProof.Rows.ne_bool (hQ s.toks)
theorem lc_eq_str {i j : Str} : LCmp prog w h₀ .Eq (.str i) (.str j) σ (decide (i = j)) := fun A s a b Q ok S ha hb hQ => by cases ha; cases hb; exact PyProof.Rows.eq_str (hQ s.toks)
theorem lc_is_none {x : PV} : LCmp prog w h₀ .Is x .none σ (match x with | .none => true | _ => false) := fun A s a b Q ok S ha hb hQ => by
  cases hb
  refine is_none ?_
  have := hQ s.toks
  cases ha <;> exact this
theorem lc_lt_ord {x y : PV} (T : Ty) (hd : T.deep ≤ 50) (hx : HasTy T x) (ho : Ord x y) : LCmp prog w h₀ .Lt x y σ (PV.lt x y) := fun A s a b Q ok S ha hb hQ =>
  (ltAt_ord 50 A s a b x y (Nat.le_trans (HasTy.deep _ _ hx) hd) (by have := ok.room; (first | lia | omega)) ha hb ho prog w _ Q (hQ s.toks) : _)
theorem seqEq {A : Around} {s : Shared} {vs ws : List Value} {xs ys : List PV} (hd : PV.deeps xs ≤ 50) (hu : A.units + 60 < cLine) (hx : IsAll s.heap vs xs) (hy : IsAll s.heap ws ys) (hs : Sims xs ys) :
    ∀ (j : Nat) (h1 : j < vs.toArray.size) (h2 : j < ws.toArray.size), EqAt A.in1 s vs.toArray[j] ws.toArray[j] (PV.beq (xs.getD j .none) (ys.getD j .none)) := fun j h1 h2 => by
  have l1 := hx.length; have l2 := hy.length
  simp only [List.size_toArray] at h1 h2
  obtain ⟨x, ex, ix⟩ := hx.get' (i := j) (List.getElem?_eq_getElem h1)
  obtain ⟨y, ey, iy⟩ := hy.get' (i := j) (List.getElem?_eq_getElem h2)
  have e1 : xs.getD j .none = x := by simp [List.getD, ex]
  have e2 : ys.getD j .none = y := by simp [List.getD, ey]
  rw [e1, e2]
  simp only [List.getElem_toArray]
  have := in1_units A
  exact eqAt_sim 50 _ s _ _ x y (Nat.le_trans (PV.deep_le (List.mem_of_getElem? ex)) hd) (by (first | lia | omega)) ix iy (hs.get ex ey)
theorem lc_ne_tup {xs ys : List PV} (hd : PV.deeps xs ≤ 50) (hs : Sims xs ys) : LCmp prog w h₀ .NotEq (.tup xs) (.tup ys) σ (!PV.beqs xs ys) := fun A s a b Q ok S ha hb hQ => by
  cases ha with | tup ta ra => cases hb with | tup tb rb => 
    show wpAny _ _ (richCompare .NotEq _ _) _ _ _
    have e := RcNeAt.tuples (IsTup_of ta) (IsTup_of tb) (A := A) (by have := ok.room; (first | lia | omega)) (seqEq hd (by have := ok.room; (first | lia | omega)) ra rb hs)
    have l1 := ra.length; have l2 := rb.length
    refine e prog w _ _ ?_
    have h2 := hQ s.toks
    rw [beqs_all .none] at h2
    simp only [List.size_toArray, l1, l2]
    exact h2
theorem IsL.isList {h : Heap} {a : Addr} {items : Array Value} {n : Nat} (x : IsL h a items n) : h.IsList a items := ⟨_, x, rfl, n, rfl⟩
theorem lc_eq_list {a b : Addr} {xs ys : List PV} (ea : σ a = some (.lst xs)) (eb : σ b = some (.lst ys)) (hd : PV.deeps xs ≤ 50) (hs : Sims xs ys) : LCmp prog w h₀ .Eq (.loc a) (.loc b) σ (PV.beqs xs ys) := fun A s u v Q ok S ha hb hQ => by
  cases ha; cases hb
  obtain ⟨vs, k, l1, i1⟩ := S.objs _ _ ea
  obtain ⟨ws, k2, l2, i2⟩ := S.objs _ _ eb
  have n1 := i1.length; have n2 := i2.length
  refine cmp_ofEq ?_
  have h2 := hQ s.toks
  rw [beqs_all .none] at h2
  by_cases e : xs.length = ys.length
  · refine RcAt.lists (IsL.isList l1) (IsL.isList l2) (by simp; (first | lia | omega)) (by have := ok.room; (first | lia | omega)) (seqEq hd (by have := ok.room; (first | lia | omega)) i1 i2 hs) prog w _ _ ?_
    have e1 : (xs.length == ys.length) = true := by simpa using e
    rw [e1, Bool.and_true, ← e, Nat.min_self] at h2
    simpa only [List.size_toArray, n1] using h2
  · refine RcAt.lists_lengths (IsL.isList l1) (IsL.isList l2) (by simp; (first | lia | omega)) (by have := ok.room; (first | lia | omega)) prog w _ _ ?_
    have e1 : (xs.length == ys.length) = false := by simpa using e
    rw [e1, Bool.and_false] at h2
    exact h2
theorem lc_ne_list {a b : Addr} {xs ys : List PV} (ea : σ a = some (.lst xs)) (eb : σ b = some (.lst ys)) (hd : PV.deeps xs ≤ 50) (hs : Sims xs ys) : LCmp prog w h₀ .NotEq (.loc a) (.loc b) σ (!PV.beqs xs ys) := fun A s u v Q ok S ha hb hQ => by
  cases ha; cases hb
  obtain ⟨vs, k, l1, i1⟩ := S.objs _ _ ea
  obtain ⟨ws, k2, l2, i2⟩ := S.objs _ _ eb
  have n1 := i1.length; have n2 := i2.length
  show wpAny _ _ (richCompare .NotEq _ _) _ _ _
  have h2 := hQ s.toks
  rw [beqs_all .none] at h2
  by_cases e : xs.length = ys.length
  · refine RcNeAt.lists (IsL.isList l1) (IsL.isList l2) (by simp; (first | lia | omega)) (by have := ok.room; (first | lia | omega)) (seqEq hd (by have := ok.room; (first | lia | omega)) i1 i2 hs) prog w _ _ ?_
    have e1 : (xs.length == ys.length) = true := by simpa using e
    rw [e1, Bool.and_true, ← e, Nat.min_self] at h2
    simpa only [List.size_toArray, n1] using h2
  · refine RcNeAt.lists_lengths (IsL.isList l1) (IsL.isList l2) (by simp; (first | lia | omega)) (by have := ok.room; (first | lia | omega)) prog w _ _ ?_
    have e1 : (xs.length == ys.length) = false := by simpa using e
    rw [e1, Bool.and_false] at h2
    exact h2

open Classical in
theorem anyIs {h : Heap} {vs : List Value} {xs : List PV} {u : Value} {k : PV} (H : IsAll h vs xs) (hu : Is h u k) (hs : ∀ x ∈ xs, Sim x k) (f : Value → Bool) (hf : ∀ v x, v ∈ vs → x ∈ xs → Is h v x → f v = PV.beq x k) : vs.toArray.any f = xs.any (PV.beq · k) := by
  rw [List.any_toArray]
  induction vs generalizing xs with
  | nil => cases H; rfl
  | cons v vs ih =>
    cases H with
    | cons a r =>
      simp only [List.any_cons]
      rw [hf _ _ (.head _) (.head _) a, ih r (fun x hx => hs x (.tail _ hx)) (fun v x hv hx => hf v x (.tail _ hv) (.tail _ hx))]
open Classical in
noncomputable def isk (h : Heap) (k : PV) (v : Value) : Bool := @decide (Is h v k) (Classical.propDecidable _)
theorem isk_beq {h : Heap} {v : Value} {x k : PV} (a : Is h v x) (s : Sim x k) : isk h k v = PV.beq x k := by
  unfold isk
  rw [Bool.eq_iff_iff, PV.beq_iff, @decide_eq_true_iff _ (Classical.propDecidable _)]
  exact ⟨fun b => Is.simEq a b s, fun e => e ▸ a⟩
theorem inSeq {A : Around} {s : Shared} {vs : List Value} {xs : List PV} {u : Value} {k : PV} (hu : A.units + 60 < cLine) (H : IsAll s.heap vs xs) (iu : Is s.heap u k) (hs : ∀ x ∈ xs, Sim x k) (hd : PV.deeps xs ≤ 50) :
    ∀ y ∈ vs.toArray, EqAt A.in1 s y u (isk s.heap k y) := fun y hy => by
  obtain ⟨x, hx, ix⟩ := H.mem (by simpa using hy)
  rw [isk_beq ix (hs x hx)]
  have := in1_units A
  exact eqAt_sim 50 _ s _ _ x k (Nat.le_trans (PV.deep_le hx) hd) (by (first | lia | omega)) ix iu (hs x hx)
theorem deeps_le {T : Ty} {xs : List PV} (hx : ∀ x ∈ xs, HasTy T x) (hd : T.deep ≤ 50) : PV.deeps xs ≤ 50 := Nat.le_trans (AllTy.deep T xs (AllTy.iff.mpr hx)) hd
theorem lc_in_list {a : Addr} {xs : List PV} {k : PV} (T : Ty) (ea : σ a = some (.lst xs)) (hx : ∀ x ∈ xs, HasTy T x) (hk : HasTy T k) (hd : T.deep ≤ 50) : LCmp prog w h₀ .In k (.loc a) σ (xs.any (PV.beq · k)) := fun A s u v Q ok S ha hb hQ => by
  cases hb
  obtain ⟨vs, n, l1, i1⟩ := S.objs _ _ ea
  have sm : ∀ x ∈ xs, Sim x k := fun x h => HasTy.sim T _ _ (hx x h) hk
  refine in_listAt (isk s.heap k) (IsL.isList l1) (inSeq (by have := ok.room; (first | lia | omega)) i1 ha sm (deeps_le hx hd)) ?_
  rw [anyIs i1 ha sm _ fun v x hv hx i => isk_beq i (sm x hx)]
  exact hQ s.toks
theorem lc_notin_list {a : Addr} {xs : List PV} {k : PV} (T : Ty) (ea : σ a = some (.lst xs)) (hx : ∀ x ∈ xs, HasTy T x) (hk : HasTy T k) (hd : T.deep ≤ 50) : LCmp prog w h₀ .NotIn k (.loc a) σ (!xs.any (PV.beq · k)) := fun A s u v Q ok S ha hb hQ => by
  cases hb
  obtain ⟨vs, n, l1, i1⟩ := S.objs _ _ ea
  have sm : ∀ x ∈ xs, Sim x k := fun x h => HasTy.sim T _ _ (hx x h) hk
  refine notIn_listAt (isk s.heap k) (IsL.isList l1) (inSeq (by have := ok.room; (first | lia | omega)) i1 ha sm (deeps_le hx hd)) ?_
  rw [anyIs i1 ha sm _ fun v x hv hx i => isk_beq i (sm x hx)]
  exact hQ s.toks
theorem lc_in_tup {xs : List PV} {k : PV} (T : Ty) (hx : ∀ x ∈ xs, HasTy T x) (hk : HasTy T k) (hd : T.deep ≤ 50) : LCmp prog w h₀ .In k (.tup xs) σ (xs.any (PV.beq · k)) := fun A s u v Q ok S ha hb hQ => by
  cases hb with | tup t i1 => 
  have sm : ∀ x ∈ xs, Sim x k := fun x h => HasTy.sim T _ _ (hx x h) hk
  refine in_tupleAt (isk s.heap k) (IsTup_of t) (inSeq (by have := ok.room; (first | lia | omega)) i1 ha sm (deeps_le hx hd)) ?_
  rw [anyIs i1 ha sm _ fun v x hv hx i => isk_beq i (sm x hx)]
  exact hQ s.toks

noncomputable def dget (es : List (PV × PV)) (k : PV) : Option PV := (es.find? fun e => PV.beq e.1 k).map (·.2)
theorem decide_beq (x k : PV) (i : Decidable (x = k)) : @decide (x = k) i = PV.beq x k := by rw [Bool.eq_iff_iff, PV.beq_iff, decide_eq_true_iff]
theorem dget_isSome (es : List (PV × PV)) (k : PV) : (dget es k).isSome = es.any fun e => PV.beq e.1 k := by
  unfold dget
  rw [Option.isSome_map]
  induction es with
  | nil => rfl
  | cons e es ih =>
    simp only [List.find?_cons, List.any_cons]
    cases h : PV.beq e.1 k
    · simpa using ih
    · simp
theorem dv_get {h : Heap} {k : PV} : ∀ {kvs : List (PV × Value)} {es : List (PV × PV)}, kvs.map (·.1) = es.map (·.1) → IsAll h (kvs.map (·.2)) (es.map (·.2)) →
    (dget es k = none → @valueAt PV PV.decEq kvs k = none) ∧ ∀ x, dget es k = some x → ∃ v, @valueAt PV PV.decEq kvs k = some v ∧ Is h v x
  | [], es, e, H => by
    cases es with
    | nil => exact ⟨fun _ => rfl, fun x hx => by simp [dget] at hx⟩
    | cons => simp at e
  | kv :: kvs, es, e, H => by
    cases es with
    | nil => simp at e
    | cons e1 es =>
      simp only [List.map_cons, List.cons.injEq] at e
      simp only [List.map_cons] at H
      cases H with
      | cons a r =>
        have ih := dv_get (k := k) e.2 r
        unfold dget valueAt at ih ⊢
        simp only [List.find?_cons]
        rw [e.1, decide_beq]
        cases q : PV.beq e1.1 k
        · exact ih
        · refine ⟨fun hx => by simp at hx, fun x hx => ?_⟩
          simp only [Option.map_some, Option.some.injEq] at hx ⊢
          exact ⟨_, rfl, hx ▸ a⟩
theorem dt_get {h : Heap} {k : PV} : ∀ {kvs : List (PV × Addr × Value)} {es : List (PV × PV)}, kvs.map (·.1) = es.map (·.1) → IsAll h (kvs.map (·.2.2)) (es.map (·.2)) →
    (dget es k = none → @atKey PV PV.decEq kvs k = none) ∧ ∀ x, dget es k = some x → ∃ v, @atKey PV PV.decEq kvs k = some v ∧ Is h v.2 x
  | [], es, e, H => by
    cases es with
    | nil => exact ⟨fun _ => rfl, fun x hx => by simp [dget] at hx⟩
    | cons => simp at e
  | kv :: kvs, es, e, H => by
    cases es with
    | nil => simp at e
    | cons e1 es =>
      simp only [List.map_cons, List.cons.injEq] at e
      simp only [List.map_cons] at H
      cases H with
      | cons a r =>
        have ih := dt_get (k := k) e.2 r
        unfold dget atKey at ih ⊢
        simp only [List.find?_cons]
        rw [e.1, decide_beq]
        cases q : PV.beq e1.1 k
        · exact ih
        · refine ⟨fun hx => by simp at hx, fun x hx => ?_⟩
          simp only [Option.map_some, Option.some.injEq] at hx ⊢
          exact ⟨_, rfl, hx ▸ a⟩
theorem lc_in_dv {a : Addr} {es : List (PV × PV)} {k : PV} (ea : σ a = some (.dv es)) (hk : Hsh 0 k) : LCmp prog w h₀ .In k (.loc a) σ (es.any fun e => PV.beq e.1 k) := fun A s u v Q ok S ha hb hQ => by
  cases hb
  obtain ⟨hs, kvs, D, e1, e2⟩ := S.objs _ _ ea
  obtain ⟨g1, g2⟩ := dv_get (k := k) e1 e2
  refine @wpAny_in_of _ _ _ PV.decEq (valKind prog w) _ _ _ _ _ _ _ _ (isVal_of_is ha hk) hs (@Heap.DictOf.mapOf _ _ _ PV.decEq _ _ _ _ D) ?_
  have e : (@valueAt PV PV.decEq kvs k).isSome = es.any fun e => PV.beq e.1 k := by
    rw [← dget_isSome]
    cases q : dget es k with
    | none => rw [g1 q]; rfl
    | some x => obtain ⟨v, e, _⟩ := g2 x q; rw [e]; rfl
  rw [e]
  exact hQ _
theorem Is.tup_ref {h : Heap} {v : Value} {xs : List PV} (a : Is h v (.tup xs)) : ∃ p, v = .ref p := by cases a; exact ⟨_, rfl⟩
theorem lc_in_dt {a : Addr} {T : Ty} {es : List (PV × PV)} {xs : List PV} (ea : σ a = some (.dt T es)) (hk : HasTy T (.tup xs)) (hh : Hsh 3 (.tup xs)) : LCmp prog w h₀ .In (.tup xs) (.loc a) σ (es.any fun e => PV.beq e.1 (.tup xs)) := fun A s u v Q ok S ha hb hQ => by
  cases hb
  obtain ⟨p, rfl⟩ := ha.tup_ref
  obtain ⟨hs, kvs, D, e1, e2⟩ := S.objs _ _ ea
  obtain ⟨g1, g2⟩ := dt_get (k := .tup xs) e1 e2
  refine @wpAny_in_heap _ _ _ PV.decEq (tupKind prog w T) _ _ _ _ _ _ _ _ (by have := ok.room; have := in1_units A; show A.in1.units + 10 < cLine; omega) ⟨ha, hk, hh⟩ hs D ?_
  have e : (@atKey PV PV.decEq kvs (.tup xs)).isSome = es.any fun e => PV.beq e.1 (.tup xs) := by
    rw [← dget_isSome]
    cases q : dget es (.tup xs) with
    | none => rw [g1 q]; rfl
    | some x => obtain ⟨v, e, _⟩ := g2 x q; rw [e]; rfl
  rw [e]
  exact hQ _
end

end Mine.Internal
end

section
namespace Mine.Internal

noncomputable def pures (vs : List Value) : List (Bool × Sem Value) := vs.map fun v => (false, pure v)
noncomputable def callTail (f : Value) (pos : Pos) (first vs : List Value) : Sem Value := do
  standAt pos
  let r ← match ← keeperOf f with
    | .frame | .boundFrame | .machine => call f (first ++ vs)
    | .caller => operate (f :: (first ++ vs)) (call f (first ++ vs))
  holding [r] point
  pure r
theorem wp_callWith (M : Model) (Γ : Ctx) (pos : Pos) (f : Value) (first : List Value) (args : List (Bool × Sem Value)) (hplain : args.any (·.1) = false) (Q : Value → Pos → Shared → Prop) (E : Value → Pos → Shared → Prop) (p : Pos) (s : Shared) :
    Sem.wp M Γ (callWith pos f first args []) Q E p s = Sem.wp M Γ (spliced args) (fun vs p s => Sem.wp M Γ (callTail f pos first vs) Q E p s) E p s := by
  have e : evalArgs f true args [] = (do let pos ← spliced args; holding (pos ++ []) (do
      let kw ← (pure [] : Sem (List Value))
      return ⟨pos, []⟩)) := by
    cases args with
    | nil => rfl
    | cons a rest =>
      obtain ⟨b, t⟩ := a
      have : b = false := by simpa using (show (b || rest.any (·.1)) = false from hplain) |> fun h => (Bool.or_eq_false_iff.mp h).1
      subst this
      rfl
  unfold callWith
  rw [e]
  simp -iota only [hplain, Sem.wp_bind', Sem.wp_holding, Sem.wp_pure', Sem.wp_cmd_standAt, callTail, List.any_nil, Bool.or_false]
  congr 1
  funext vs p' s'
  congr 1
  funext k p'' s''
  by_cases c : args.length + 2 * ([] : List (Option Str × Sem Value)).length > 30
  · cases k <;> simp only [Sem.wp_operate, callMarked, Sem.wp_keep, Sem.wp_bind', if_pos c]
  · cases k <;> simp only [Sem.wp_operate, callMarked, if_neg c, Sem.wp_bind', Sem.wp_keep]
theorem spliced_pures (vs : List Value) : ∀ (M : Model) (Γ : Ctx) (Q : List Value → Pos → Shared → Prop) (E : Value → Pos → Shared → Prop) (p : Pos) (s : Shared), Sem.wp M Γ (spliced (pures vs)) Q E p s = Q vs p s := by
  induction vs with
  | nil => intro M Γ Q E p s; simp [pures, spliced, Sem.wp_pure']
  | cons v vs ih =>
    intro M Γ Q E p s
    have e : pures (v :: vs) = (false, pure v) :: pures vs := rfl
    rw [e, spliced]
    simp only [Bool.false_eq_true, if_false, Sem.wp_bind', Sem.wp_holding, Sem.wp_pure', ih, List.cons_append, List.nil_append]
theorem callWith_split {M : Model} {A : Around} {E : Value → Shared → Prop} {s : Shared} {pos : Pos} {f : Value} {first : List Value} {args : List (Bool × Sem Value)} {Q : Value → Shared → Prop} (hplain : args.any (·.1) = false)
    (h : wpAny M A (spliced args) (fun vs s₁ => wpAny M A (callWith pos f first (pures vs) []) Q E s₁) E s) : wpAny M A (callWith pos f first args []) Q E s := fun Γ p hΓ => by
  rw [wp_callWith _ _ _ _ _ _ hplain]
  refine Sem.wp_mono M Γ _ (fun vs p₁ s₁ h₁ => ?_) (fun _ _ _ h' => h') _ _ (h Γ p hΓ)
  have h2 := h₁ Γ p₁ hΓ
  rw [wp_callWith _ _ _ _ _ _ (by simp [pures]), spliced_pures] at h2
  exact h2

section
variable {prog : Program} {w : World} {h₀ : Heap} {n : Nat} {env : Env} {ρ : Loc} {σ : Store} {Q : PV → Store → Prop}
noncomputable def LCall (prog : Program) (w : World) (h₀ : Heap) (n : Nat) (f : Value) (first xs : List PV) (σ : Store) (Q : PV → Store → Prop) : Prop :=
  ∀ env ρ H pos fs vs, fs.length = first.length → vs.length = xs.length → (∀ p ∈ fs.zip first ++ vs.zip xs, p ∈ H) → WV prog w h₀ n env H (callWith pos f fs (pures vs) []) ρ σ Q
noncomputable def GName (prog : Program) (w : World) (h₀ : Heap) (env : Env) (ρ : Loc) (x : Str) (f : Value) : Prop :=
  ∀ A s σ (p : Pos) (Q : Value → Shared → Prop), SRel prog w h₀ σ s.heap → ERel h₀ env ρ σ s.heap → Q f s → wpAny (model prog w) A (eval (.Name x p) env) Q (fun _ _ => False) s
theorem we_call {x : Str} {p pos : Pos} {f : Value} {args : List Expr} (g : GName prog w h₀ env ρ x f) (h : WL prog w h₀ n env [] (spliced (backTo pos (starEach args env))) ρ σ fun xs σ₁ => LCall prog w h₀ n f [] xs σ₁ Q)
    (hplain : autoParam ((backTo pos (starEach args env)).any (·.1) = false) Mine.Internal.au2) :
    WV prog w h₀ n env [] (eval (.Call (.Name x p) args [] pos) env) ρ σ Q := fun A s ok S X hh =>
  Call_Name rfl (g A s σ p _ S X (callWith_split hplain (h.run ok S X hh fun vs s₁ xs σ₁ S₁ X₁ hh₁ r q tr =>
    wpAny_mono (q env ρ (vs.zip xs) pos [] vs rfl r.length (fun p hp => by simpa using hp) A s₁ ok S₁ X₁ (by have := Held.all (H := []) hh₁ r; simpa using this)) (fun v s₂ x => tr _ _ _ x) fun _ _ e => e)))

noncomputable def MethIs (prog : Program) (w : World) (h₀ : Heap) (σ : Store) (x : PV) (name : Str) (id : String) : Prop :=
  ∃ T, PlainAttrs T ∧ Slot T name id ∧ typeOf (.builtin id) = pure (.type "method_descriptor") ∧ ∀ (s : Shared) (v : Value), SRel prog w h₀ σ s.heap → Is s.heap v x → s.TypeIs v T ∧ (∀ a, v = .ref a → ∃ ob, s.heap.get? a = some ob ∧ ob.dict = none)
theorem call_method_split {A : Around} {E : Value → Shared → Prop} {s : Shared} {o : Expr} {name : Str} {apos pos : Pos} {args : List Expr} {Q : Value → Shared → Prop}
    (hbase : attributeBase o name env (eval o env) = eval o env)
    (hfew : ((backTo pos (starEach args env)).all (fun x => !x.1) && (backToKw pos (keywordEach [] env)).all (fun x => x.1.isSome)
      && decide (args.length + ([] : List Keyword).length + (if ([] : List Keyword).isEmpty then 0 else 1) < 30)) = true)
    (hline : (apos.endLine == pos.line) = true) (hplain : (backTo pos (starEach args env)).any (·.1) = false)
    (h : wpAny (model prog w) A (eval o env) (fun ov s₁ => ∃ T id, PlainAttrs T ∧ Slot T name id ∧ typeOf (.builtin id) = pure (.type "method_descriptor") ∧ s₁.TypeIs ov T ∧ (∀ a, ov = .ref a → ∃ ob, s₁.heap.get? a = some ob ∧ ob.dict = none) ∧
      wpAny (model prog w) A (spliced (backTo pos (starEach args env))) (fun vs s₂ => wpAny (model prog w) A (callWith pos (.builtin id) [ov] (pures vs) []) Q E s₂) E s₁) E s) :
    wpAny (model prog w) A (eval (.Call (.Attribute o name apos) args [] pos) env) Q E s :=
  wpAny_Call_method_late hbase hfew hline rfl (wpAny_mono h (fun ov s₁ ⟨T, id, a, b, c, d, e, f⟩ => ⟨T, id, a, b, c, d, e, callWith_split hplain f⟩) fun _ _ e => e)
theorem we_method {o : Expr} {name : Str} {apos pos : Pos} {args : List Expr}
    (h : WV prog w h₀ n env [] (eval o env) ρ σ fun x σ₁ => ∃ id, MethIs prog w h₀ σ₁ x name id ∧ WL prog w h₀ n env [] (spliced (backTo pos (starEach args env))) ρ σ₁ fun xs σ₂ => LCall prog w h₀ n (.builtin id) [x] xs σ₂ Q)
    (hbase : autoParam (attributeBase o name env (eval o env) = eval o env) Mine.Internal.au2)
    (hfew : autoParam (((backTo pos (starEach args env)).all (fun x => !x.1) && (backToKw pos (keywordEach [] env)).all (fun x => x.1.isSome)
      && decide (args.length + ([] : List Keyword).length + (if ([] : List Keyword).isEmpty then 0 else 1) < 30)) = true) Mine.Internal.au2)
    (hline : autoParam ((apos.endLine == pos.line) = true) Mine.Internal.au2) (hplain : autoParam ((backTo pos (starEach args env)).any (·.1) = false) Mine.Internal.au2) :
    WV prog w h₀ n env [] (eval (.Call (.Attribute o name apos) args [] pos) env) ρ σ Q := fun A s ok S X hh =>
  call_method_split hbase hfew hline hplain (h.run ok S X hh fun v s₁ x σ₁ S₁ X₁ hh₁ r q tr => by
    obtain ⟨id, ⟨T, a, b, c, d⟩, q⟩ := q
    obtain ⟨d1, d2⟩ := d s₁ v S₁ r
    refine ⟨T, id, a, b, c, d1, d2, (WE.more (H := [(v, x)]) q).run (R' := Is) ok S₁ X₁ (hh₁.cons r) fun vs s₂ xs σ₂ S₂ X₂ hh₂ r₂ q₂ tr₂ => ?_⟩
    refine wpAny_mono (q₂ env ρ (vs.zip xs ++ [(v, x)]) pos [v] vs rfl r₂.length (fun p hp => ?_) A s₂ ok S₂ X₂ (Held.all hh₂ r₂)) (fun v s₃ x => tr _ _ _ (tr₂ _ _ _ x)) fun _ _ e => e
    rcases List.mem_append.mp hp with hp | hp
    · exact List.mem_append_right _ hp
    · exact List.mem_append_left _ hp)

theorem meth_list {σ : Store} {a : Addr} {xs : List PV} {name : Str} {id : String} (e : σ a = some (.lst xs)) (pa : PlainAttrs "list") (sl : Slot "list" name id) (ty : autoParam (typeOf (.builtin id) = pure (.type "method_descriptor")) Mine.Internal.au2) : MethIs prog w h₀ σ (.loc a) name id :=
  ⟨"list", pa, sl, ty, fun s v S r => by
    cases r
    obtain ⟨vs, n, l1, i1⟩ := S.objs _ _ e
    exact ⟨(IsL.isList l1).typeIs, fun b hb => by cases hb; exact ⟨_, l1, rfl⟩⟩⟩
theorem exact_dict {o : Obj} (x : o.ExactDict) : o.cls = .type "dict" ∧ o.dict = none := ⟨x.1, x.2.1⟩
theorem meth_dt {σ : Store} {a : Addr} {T : Ty} {es : List (PV × PV)} {name : Str} {id : String} (e : σ a = some (.dt T es)) (pa : PlainAttrs "dict") (sl : Slot "dict" name id) (ty : autoParam (typeOf (.builtin id) = pure (.type "method_descriptor")) Mine.Internal.au2) : MethIs prog w h₀ σ (.loc a) name id :=
  ⟨"dict", pa, sl, ty, fun s v S r => by
    cases r
    obtain ⟨hs, kvs, ⟨ob, ents, ep, ho, hx, r⟩, h1, h2⟩ := S.objs _ _ e
    exact ⟨⟨ob, ho, (exact_dict hx).1⟩, fun b hb => by cases hb; exact ⟨_, ho, (exact_dict hx).2⟩⟩⟩
end

end Mine.Internal
end

section
namespace Mine.Internal

section
variable {prog : Program} {w : World} {h₀ : Heap} {γ δ : Type} {R' : Heap → γ → δ → Prop} {n : Nat} {env : Env} {H : List (Value × PV)} {ρ : Loc} {σ : Store}
theorem free_of {s : Heap} (S : SRel prog w h₀ σ s) {a : Addr} (ha : s.get? a = none) : σ a = none := by
  cases e : σ a with
  | none => rfl
  | some o' => obtain ⟨ob, e2, _⟩ := (S.objs _ _ e).get; rw [ha] at e2; cases e2
theorem newStep {s : Shared} {h' : Heap} {a : Addr} {o : MObj} (S : SRel prog w h₀ σ s.heap) (X : ERel h₀ env ρ σ s.heap) (hh : Held H s.heap) (p : Pres NoMod s.heap h') (ha : s.heap.get? a = none) (r : Rep prog w h' a o) :
    SRel prog w h₀ (upd σ a o) h' ∧ ERel h₀ env ρ (upd σ a o) h' ∧ Held H h' ∧
      ∀ tk (Q : δ → Loc → Store → Prop) c s₂, Post prog w h₀ NoMod R' env (upd σ a o) { s with heap := h', toks := tk } Q c s₂ → Post prog w h₀ NoMod R' env σ s Q c s₂ := by
  have k : TupKeep s.heap h' := fun b items n' e => p.2 b _ (fun f => f) e
  have sub : ∀ b, Dom (upd σ a o) b → Dom σ b ∨ s.heap.get? b = none := fun b ⟨o', e⟩ => by
    by_cases hb : b = a
    · subst hb; exact .inr ha
    · rw [upd_ne _ _ hb] at e; exact .inl ⟨o', e⟩
  have X' := X.step (σ' := upd σ a o) p k (fun f => f) (fun _ _ f => f) sub
  refine ⟨⟨fun b ob e => p.2 b ob (fun f => f) (S.base b ob e), trivial, fun b o' e => ?_, fun b o' e => ?_⟩, X', hh.keep k, fun tk Q c s₂ x => Post.trans (noMod env) X' rfl (p.mono fun _ f => f.elim) sub x⟩
  · by_cases hb : b = a
    · subst hb; rw [upd_same] at e; cases e; exact r
    · rw [upd_ne _ _ hb] at e; exact (S.objs b o' e).keep k fun ob eo => p.2 b ob (fun f => f) eo
  · by_cases hb : b = a
    · subst hb
      cases q' : h₀.get? b with
      | none => rfl
      | some ob => have e2 := S.base _ _ q'; rw [ha] at e2; cases e2
    · rw [upd_ne _ _ hb] at e; exact S.off b o' e
theorem turnStep {s : Shared} {h' : Heap} {a : Addr} {o o' : MObj} (S : SRel prog w h₀ σ s.heap) (X : ERel h₀ env ρ σ s.heap) (hh : Held H s.heap) (e : σ a = some o) (p : Pres (fun c => c = a) s.heap h') (r : Rep prog w h' a o') :
    SRel prog w h₀ (upd σ a o') h' ∧ ERel h₀ env ρ (upd σ a o') h' ∧ Held H h' ∧
      ∀ tk (Q : δ → Loc → Store → Prop) c s₂, Post prog w h₀ NoMod R' env (upd σ a o') { s with heap := h', toks := tk } Q c s₂ → Post prog w h₀ NoMod R' env σ s Q c s₂ := by
  have k : TupKeep s.heap h' := S.tupKeep p fun c hc => .inl (by subst hc; exact ⟨o, e⟩)
  have sub : ∀ b, Dom (upd σ a o') b → Dom σ b ∨ s.heap.get? b = none := fun b ⟨o2, e2⟩ => by
    by_cases hb : b = a
    · subst hb; exact .inl ⟨o, e⟩
    · rw [upd_ne _ _ hb] at e2; exact .inl ⟨o2, e2⟩
  have nL : env.locals ≠ a := fun h => by have := X.nsoff.2; rw [h, e] at this; cases this
  have X' := X.step p k nL (fun z hz h => by have := (X.cells z hz).2.2.1; rw [h, e] at this; cases this) sub
  refine ⟨⟨fun c ob ec => p.2 c ob (fun h => ?_) (S.base c ob ec), trivial, fun c o2 ec => ?_, fun c o2 ec => ?_⟩,
      X', hh.keep k, fun tk Q c s₂ x => Post.trans (noMod env) X' rfl (p.mono fun c hc => .inl (by subst hc; exact ⟨o, e⟩)) sub x⟩
  · subst h; rw [S.off _ _ e] at ec; cases ec
  · by_cases hb : c = a
    · subst hb; rw [upd_same] at ec; cases ec; exact r
    · rw [upd_ne _ _ hb] at ec; exact (S.objs c o2 ec).keep k fun ob eo => p.2 c ob hb eo
  · by_cases hb : c = a
    · subst hb; exact S.off _ _ e
    · rw [upd_ne _ _ hb] at ec; exact S.off c o2 ec
end

noncomputable def dset (es : List (PV × PV)) (k v : PV) : List (PV × PV) :=
  if es.any (fun e => PV.beq e.1 k) then es.map (fun e => if PV.beq e.1 k then (e.1, v) else e) else es ++ [(k, v)]
theorem dset_length (es : List (PV × PV)) (k v : PV) : (dset es k v).length ≤ es.length + 1 := by
  unfold dset; split <;> simp
theorem dv_any {k : PV} : ∀ {kvs : List (PV × Value)} {es : List (PV × PV)}, kvs.map (·.1) = es.map (·.1) → (kvs.any fun kv => @decide (kv.1 = k) (PV.decEq kv.1 k)) = es.any fun e => PV.beq e.1 k
  | [], es, e => by cases es <;> simp_all
  | kv :: kvs, es, e => by
    cases es with
    | nil => simp at e
    | cons e1 es =>
      simp only [List.map_cons, List.cons.injEq] at e
      simp only [List.any_cons]
      rw [dv_any e.2, decide_beq, e.1]
theorem dv_set {h : Heap} {k x : PV} {v : Value} {kvs : List (PV × Value)} {es : List (PV × PV)} (e : kvs.map (·.1) = es.map (·.1)) (H : IsAll h (kvs.map (·.2)) (es.map (·.2))) (iv : Is h v x) :
    (@stored PV PV.decEq kvs k v).map (·.1) = (dset es k x).map (·.1) ∧ IsAll h ((@stored PV PV.decEq kvs k v).map (·.2)) ((dset es k x).map (·.2)) := by
  unfold stored dset
  rw [dv_any e]
  cases es.any fun e => PV.beq e.1 k
  · simp only [Bool.false_eq_true, if_false, List.map_append, List.map_cons, List.map_nil, e, true_and]
    exact H.snoc iv
  · simp only [if_true]
    induction kvs generalizing es with
    | nil =>
      cases es with
      | nil => exact ⟨rfl, .nil⟩
      | cons => simp at e
    | cons kv kvs ih =>
      cases es with
      | nil => simp at e
      | cons e1 es =>
        simp only [List.map_cons, List.cons.injEq] at e
        simp only [List.map_cons] at H
        cases H with
        | cons a r =>
          obtain ⟨i1, i2⟩ := ih e.2 r
          simp only [List.map_cons]
          rw [i1]
          by_cases q : kv.1 = k
          · have q2 : PV.beq e1.1 k = true := by rw [PV.beq_iff, ← e.1]; exact q
            simp only [if_pos q, q2, if_true, e.1, true_and]
            exact .cons iv i2
          · have q2 : PV.beq e1.1 k = false := by rw [Bool.eq_false_iff]; intro b; exact q (by rw [e.1]; exact (PV.beq_iff _ _).mp b)
            simp only [if_neg q, q2, Bool.false_eq_true, if_false, e.1, true_and]
            exact .cons a i2
theorem dt_some {h : Heap} {k : PV} {kvs : List (PV × Addr × Value)} {es : List (PV × PV)} (e1 : kvs.map (·.1) = es.map (·.1)) (e2 : IsAll h (kvs.map (·.2.2)) (es.map (·.2))) : (@atKey PV PV.decEq kvs k).isSome = es.any fun e => PV.beq e.1 k := by
  obtain ⟨g1, g2⟩ := dt_get (k := k) e1 e2
  rw [← dget_isSome]
  cases q : dget es k with
  | none => rw [g1 q]; rfl
  | some x => obtain ⟨v, e, _⟩ := g2 x q; rw [e]; rfl
theorem dt_set {h : Heap} {k x : PV} {p : Addr} {v : Value} {kvs : List (PV × Addr × Value)} {es : List (PV × PV)} (e : kvs.map (·.1) = es.map (·.1)) (H : IsAll h (kvs.map (·.2.2)) (es.map (·.2))) (iv : Is h v x) :
    (@storedH PV PV.decEq kvs k p v).map (·.1) = (dset es k x).map (·.1) ∧ IsAll h ((@storedH PV PV.decEq kvs k p v).map (·.2.2)) ((dset es k x).map (·.2)) := by
  unfold storedH dset
  rw [dt_some e H]
  cases es.any fun e => PV.beq e.1 k
  · simp only [Bool.false_eq_true, if_false, List.map_append, List.map_cons, List.map_nil, e, true_and]
    exact H.snoc iv
  · simp only [if_true]
    induction kvs generalizing es with
    | nil =>
      cases es with
      | nil => exact ⟨rfl, .nil⟩
      | cons => simp at e
    | cons kv kvs ih =>
      cases es with
      | nil => simp at e
      | cons e1 es =>
        simp only [List.map_cons, List.cons.injEq] at e
        simp only [List.map_cons] at H
        cases H with
        | cons a r =>
          obtain ⟨i1, i2⟩ := ih e.2 r
          simp only [List.map_cons]
          rw [i1]
          unfold putAt at i2 ⊢
          by_cases q : kv.1 = k
          · have q2 : PV.beq e1.1 k = true := by rw [PV.beq_iff, ← e.1]; exact q
            simp only [if_pos q, q2, if_true, e.1, true_and]
            exact .cons iv i2
          · have q2 : PV.beq e1.1 k = false := by rw [Bool.eq_false_iff]; intro b; exact q (by rw [e.1]; exact (PV.beq_iff _ _).mp b)
            simp only [if_neg q, q2, Bool.false_eq_true, if_false, e.1, true_and]
            exact .cons a i2

section
variable {prog : Program} {w : World} {h₀ : Heap} {n : Nat} {env : Env} {ρ : Loc} {σ : Store} {Q : PV → Store → Prop}
noncomputable def unitR (_ : Heap) (_ : Unit) (_ : Unit) : Prop := True
noncomputable def LSet (prog : Program) (w : World) (h₀ : Heap) (x k v : PV) (σ : Store) (Q : Store → Prop) : Prop :=
  ∀ n env ρ H a b c, (a, x) ∈ H → (b, k) ∈ H → (c, v) ∈ H → WE prog w h₀ n unitR env H (setItem a b c) ρ σ (fun _ σ' => Q σ')
theorem Pres.sameBut {a : Addr} {h h' : Heap} (hs : Heap.SameBut a h h') : Pres (fun c => c = a) h h' := Pres.same Pres.refl hs (.inl rfl)
theorem kvs_size {α : Type} {kvs : List (PV × α)} {es : List (PV × PV)} (e : kvs.map (·.1) = es.map (·.1)) (hl : es.length ≤ 1000000) : kvs.length ≤ sizeLine := by
  have : kvs.length = es.length := by simpa using congrArg List.length e
  unfold sizeLine; (first | lia | omega)
theorem ls_dv {a : Addr} {es : List (PV × PV)} {k v : PV} {Q : Store → Prop} (e : σ a = some (.dv es)) (hk : Hsh 0 k) (hl : es.length ≤ 1000000) (q : Q (upd σ a (.dv (dset es k v)))) : LSet prog w h₀ (.loc a) k v σ Q :=
  fun n env ρ H u b c hu hb hc => WE.turn e (b := ()) q fun A s Q' ok S X hh hr hQ => by
    have := held_loc hh hu; subst this
    obtain ⟨hs, kvs, D, e1, e2⟩ := hr
    refine @wpAny_setItem_pairs _ _ _ PV.decEq (valKind prog w) _ _ _ _ k _ _ _ _ (isVal_of_is (hh _ hb) hk) D (fun h' D' hs' => ?_) (kvs_size e1 hl)
    refine hQ _ h' _ (Pres.sameBut hs') fun kp => ⟨⟨hs, _, D', ?_⟩, trivial⟩
    exact dv_set e1 (e2.keep kp) ((hh _ hc).keep kp)
theorem ls_dt {a : Addr} {T : Ty} {es : List (PV × PV)} {xs : List PV} {v : PV} {Q : Store → Prop} (e : σ a = some (.dt T es)) (hk : HasTy T (.tup xs)) (hh : Hsh 3 (.tup xs)) (hl : es.length ≤ 1000000) (q : Q (upd σ a (.dt T (dset es (.tup xs) v)))) : LSet prog w h₀ (.loc a) (.tup xs) v σ Q :=
  fun n env ρ H u b c hu hb hc => WE.turn e (b := ()) q fun A s Q' ok S X hh' hr hQ => by
    have := held_loc hh' hu; subst this
    obtain ⟨hs, kvs, D, e1, e2⟩ := hr
    have ib := hh' _ hb
    obtain ⟨p, rfl⟩ := ib.tup_ref
    refine @wpAny_setItem_heap _ _ _ PV.decEq (tupKind prog w T) _ _ _ _ _ _ _ _ _ (by have := ok.room; have := in1_units A; show A.in1.units + 10 < cLine; (first | lia | omega)) ⟨ib, hk, hh⟩ D (fun h' D' hs' => ?_) (kvs_size e1 hl)
    refine hQ _ h' _ (Pres.sameBut hs') fun kp => ⟨⟨hs, _, D', ?_⟩, trivial⟩
    exact dt_set e1 (e2.keep kp) ((hh' _ hc).keep kp)

noncomputable def LGet (prog : Program) (w : World) (h₀ : Heap) (x k : PV) (σ : Store) (r : PV) : Prop :=
  ∀ A s a b (Q : Value → Shared → Prop), Ok 0 A → SRel prog w h₀ σ s.heap → Is s.heap a x → Is s.heap b k → (∀ v tk, Is s.heap v r → Q v { s with toks := tk }) →
    (∃ T id, s.TypeIs a T ∧ typeLookup (.type T) "__getitem__" = pure (some (.builtin id))) ∧ wpAny (model prog w) A (getItem a b) Q (fun _ _ => False) s
theorem we_sub {value slice : Expr} {pos : Pos} (h : WV prog w h₀ n env [] (eval value env) ρ σ fun x σ₁ => WV prog w h₀ n env [] (eval slice env) ρ σ₁ fun y σ₂ => ∃ r, LGet prog w h₀ x y σ₂ r ∧ Q r σ₂)
    (hs : ∀ o i, subscripted slice false o i = operate [o, i] (getItem o i) := by intro _ _; with_unfolding_all rfl) : WV prog w h₀ n env [] (eval (.Subscript value slice pos) env) ρ σ Q :=
  WV.seq2 (fun A s Q' E hh => Subscript_ hh) (WE.mono h fun x σ₁ q a => WE.more (WE.mono q fun y σ₂ ⟨r, c, q⟩ b => WE.leaf q fun A s Q' ok S X hh hQ => by
    obtain ⟨⟨T, id, ht, hl⟩, hw⟩ := c A s a b Q' (ok.mono (Nat.zero_le _)) S (hh _ (.tail _ (.head _))) (hh _ (.head _)) fun v tk r => hQ v tk r
    exact tail_any ht hl hw (hs a b)))
theorem lg_list {a : Addr} {xs : List PV} {k : Int} {r : PV} (e : σ a = some (.lst xs)) (h0 : 0 ≤ k) (hk : k < 2 ^ 63) (hr : xs[k.toNat]? = some r) : LGet prog w h₀ (.loc a) (.int k) σ r := fun A s u v Q ok S ha hb hQ => by
  cases ha; cases hb
  obtain ⟨vs, n, l1, i1⟩ := S.objs _ _ e
  obtain ⟨x, ex, ix⟩ := i1.get hr
  exact ⟨⟨"list", _, (IsL.isList l1).typeIs, slot_list_getitem.lookup⟩, wpAny_getItem_list (IsL.isList l1) h0 hk (by simpa using ex) (hQ _ s.toks ix)⟩
theorem lg_dv {a : Addr} {es : List (PV × PV)} {k r : PV} (e : σ a = some (.dv es)) (hk : Hsh 0 k) (hr : dget es k = some r) : LGet prog w h₀ (.loc a) k σ r := fun A s u v Q ok S ha hb hQ => by
  cases ha
  obtain ⟨hs, kvs, D, e1, e2⟩ := S.objs _ _ e
  obtain ⟨v', ev, iv⟩ := (dv_get e1 e2).2 r hr
  refine ⟨⟨"dict", _, by obtain ⟨ob, ents, ep, ho, hx, _⟩ := D; exact ⟨ob, ho, hx.1⟩, slot_dict_getitem.lookup⟩, ?_⟩
  exact @wpAny_getItem_of _ _ _ PV.decEq (valKind prog w) _ _ _ _ _ _ _ _ _ (isVal_of_is hb hk) (@Heap.DictOf.mapOf _ _ _ PV.decEq _ _ _ _ D) ev (hQ _ _ iv)
theorem lg_dt {a : Addr} {T : Ty} {es : List (PV × PV)} {xs : List PV} {r : PV} (e : σ a = some (.dt T es)) (hk : HasTy T (.tup xs)) (hh : Hsh 3 (.tup xs)) (hr : dget es (.tup xs) = some r) : LGet prog w h₀ (.loc a) (.tup xs) σ r := fun A s u v Q ok S ha hb hQ => by
  cases ha
  obtain ⟨p, rfl⟩ := hb.tup_ref
  obtain ⟨hs, kvs, D, e1, e2⟩ := S.objs _ _ e
  obtain ⟨v', ev, iv⟩ := (dt_get e1 e2).2 r hr
  refine ⟨⟨"dict", _, by obtain ⟨ob, ents, ep, ho, hx, _⟩ := D; exact ⟨ob, ho, hx.1⟩, slot_dict_getitem.lookup⟩, ?_⟩
  exact @wpAny_getItem_heap _ _ _ PV.decEq (tupKind prog w T) _ _ _ _ _ _ _ _ _ (by have := ok.room; have := in1_units A; show A.in1.units + 10 < cLine; (first | lia | omega)) ⟨hb, hk, hh⟩ D ev (hQ _ _ iv)

theorem we_list {elts : List Expr} {pos : Pos} (h : WL prog w h₀ n env [] (spliced (backTo pos (starEach elts env))) ρ σ fun xs σ₁ => xs.length ≤ 1000000 ∧ ∀ c, σ₁ c = none → Q (.loc c) (upd σ₁ c (.lst xs))) :
    WV prog w h₀ n env [] (eval (.List elts pos) env) ρ σ Q := fun A s ok S X hh => List_ (h.run ok S X hh fun vs s₁ xs σ₁ S₁ X₁ hh₁ r q tr => by
  have hl := r.length
  refine wpAny_newObj_type ?_ (by show vs.toArray.size ≤ sizeLine; have := q.1; simp only [List.size_toArray]; unfold sizeLine; (first | lia | omega))
  have p : Pres NoMod s₁.heap (s₁.heap.push { cls := .type "list", data := .seq vs.toArray }) := Pres.refl.push _
  have kp : TupKeep s₁.heap (s₁.heap.push { cls := .type "list", data := .seq vs.toArray }) := fun b items n' e => p.2 b _ (fun f => f) e
  obtain ⟨S₂, X₂, hh₂, tr₂⟩ := newStep (γ := Value) (δ := PV) (R' := Is) (o := .lst xs) S₁ X₁ hh₁ p (fresh _) ⟨vs, 0, IsL.new _ _, r.keep kp⟩
  exact tr _ _ _ (tr₂ s₁.toks _ _ _ (Post.here S₂ X₂ (.loc _) ⟨rfl, q.2 _ (free_of S₁ (fresh _))⟩)))
theorem we_tup {elts : List Expr} {k : Nat} {pos : Pos} (h : WL prog w h₀ n env [] (spliced (backTo pos (starEach elts env))) ρ σ fun xs σ₁ => xs.length ≤ 1000000 ∧ Q (.tup xs) σ₁) :
    WV prog w h₀ n env [] (eval (.Tuple elts k pos) env) ρ σ Q := fun A s ok S X hh => Tuple_ (h.run ok S X hh fun vs s₁ xs σ₁ S₁ X₁ hh₁ r q tr => by
  have hl := r.length
  refine wpAny_newObj_type ?_ (by show vs.toArray.size ≤ sizeLine; have := q.1; simp only [List.size_toArray]; unfold sizeLine; omega)
  have p : Pres NoMod s₁.heap (s₁.heap.push { cls := .type "tuple", data := .seq vs.toArray }) := Pres.refl.push _
  have kp : TupKeep s₁.heap (s₁.heap.push { cls := .type "tuple", data := .seq vs.toArray }) := fun b items n' e => p.2 b _ (fun f => f) e
  have x := WE.newFirm (prog := prog) (w := w) (h₀ := h₀) (n := 0) (R := Is) (env := env) (H := []) (ρ := ρ) (σ := σ₁) (t := pure (.ref s₁.heap.objs.size)) (b := .tup xs) (Q := Q) q.2
  refine tr _ _ _ ⟨_, s₁.toks, .tup xs, ρ, σ₁, rfl, p.mono (fun b d => d.elim), ⟨fun b ob e => p.2 b ob (fun f => f) (S₁.base b ob e), trivial, fun b o' e => (S₁.objs b o' e).keep kp fun ob eo => p.2 b ob (fun f => f) eo, S₁.off⟩,
      X₁.step p kp (fun f => f) (fun _ _ f => f) (fun _ d => .inl d), fun _ d => .inl d, .tup (Heap.get?_push_size _ rfl) (r.keep kp), rfl, q.2⟩)
end

end Mine.Internal
end

section
namespace Mine.Internal

section
variable {prog : Program} {w : World} {K : Type} [DecidableEq K] {knd : HeapKind prog w K} {A : Around} {E : Value → Shared → Prop} {s : Shared}
theorem setDefault_heap {d a : Addr} {xs : List (K × Addr × Value)} {k : K} {v : Value} {Q : Value → Shared → Prop} (hu : knd.room A) (hkey : knd.is s.heap k a) (hm : s.heap.DictOfH knd d xs)
    (h1 : ∀ p, atKey xs k = some p → Q p.2 { s with toks := s.toks + knd.draws k })
    (h2 : atKey xs k = none → ∀ h', h'.DictOfH knd d (storedH xs k a v) → Heap.SameBut d s.heap h' → Q v { s with heap := h', toks := s.toks + knd.draws k })
    (hsz : xs.length ≤ sizeLine) :
    wpAny (model prog w) A (dictSetDefault d (.ref a) v) Q E s := by
  obtain ⟨o, es, ep, ho, hc, hd, he, his, hn⟩ := hm
  unfold dictSetDefault
  refine wpAny_holding ?_
  refine wpAny_bind (knd.pyHash hu hkey ?_)
  refine wpAny_bind (wpAny_dictFind_heap (s := { s with toks := s.toks + knd.draws k }) hu hkey ho hd he his hn ?_ ?_)
  · intro hno
    have hnot : k ∉ xs.map (·.1) := not_mem_keys_of_get hno
    have key := h2 (atKey_none_of_get hno)
    rw [storedH_new (atKey_none_of_get hno)] at key
    refine wpAny_bind (wpAny_rule (wpAny_bind (wpAny_updateDictKeys (hz := by have e := size_of_entries he; (first | lia | omega)) (s := { s with toks := s.toks + knd.draws k }) ho hd (wpAny_pure (key _ ⟨_, _, ep + 1, Heap.get?_update_self _ ho (Obj.isFreed_of_dict (Obj.data_mapDictKeys hd _)),
      hc.mapDictKeys _, Obj.data_mapDictKeys hd _, ?_, ?_, ?_⟩ (Heap.SameBut.update ..))))))
    · simp [he, entryOfKey]
    · intro x hx
      rcases List.mem_append.mp hx with hx | hx
      · exact knd.keeps (his x hx) ho hd (Heap.SameBut.update ..)
      · simp only [List.mem_singleton] at hx
        subst hx
        exact knd.keeps hkey ho hd (Heap.SameBut.update ..)
    · rw [List.map_append, List.nodup_append]
      refine ⟨hn, by simp, ?_⟩
      intro x hx y hy
      simp only [List.map_cons, List.map_nil, List.mem_singleton] at hy
      subst hy
      exact fun e => hnot (e ▸ hx)
  · intro j p hj
    refine wpAny_bind (wpAny_dictEntries (s := { s with toks := s.toks + knd.draws k }) ho hd ?_)
    rw [entry_at he j, hj]
    exact wpAny_bind (wpAny_rule (wpAny_pure (h1 p (atKey_of_get hn hj))))
theorem meets_setdefault_heap {d a : Addr} {k : K} (hd : (d == sysModules) = false) (dflt : Value) :
    MeetsIn prog w (Builtin.«dict.setdefault» ⟨[.ref d, .ref a, dflt], []⟩) (fun A R s => knd.room A.in1 ∧ knd.is s.heap k a ∧ ∃ xs, s.heap.DictOfH knd d xs ∧ xs.length ≤ sizeLine ∧
      (∀ p, atKey xs k = some p → R (.ok (.ret p.2)) { s with toks := s.toks + knd.draws k }) ∧
      (atKey xs k = none → ∀ h', h'.DictOfH knd d (storedH xs k a dflt) → Heap.SameBut d s.heap h' → R (.ok (.ret dflt)) { s with heap := h', toks := s.toks + knd.draws k })) :=
  .of_wp fun A R s ⟨hu, hk, xs, hm, hz, h1, h2⟩ => by
    unfold Builtin.«dict.setdefault»
    refine wpAny_bind ?_
    unfold Builtin.Dict.keyAndDefault
    refine wpAny_bind (wpAny_notOrdered_dict hm.typeIs ?_)
    show wpAny _ _ (pure (d, Value.ref a, some dflt)) _ _ s
    refine wpAny_pure ?_
    show wpAny _ _ (if (d == sysModules) = true then _ else (dictSetDefault d (.ref a) dflt >>= _)) _ _ s
    rw [if_neg (by rw [hd]; exact Bool.false_ne_true)]
    exact wpAny_bind (setDefault_heap hu hk hm (fun v hv => wpAny_pure ⟨_, rfl, h1 v hv⟩) (fun hn h' hm' hs' => wpAny_pure ⟨dflt, rfl, h2 hn h' hm' hs'⟩) hz)

noncomputable def Ents (h : Heap) (d : Addr) (es : Array DictEntry) (ep : Nat) : Prop := ∃ o, h.get? d = some o ∧ o.ExactDict ∧ o.data = .dict es ep
theorem Ents.typeIs {d : Addr} {es : Array DictEntry} {ep : Nat} (x : Ents s.heap d es ep) : s.TypeIs (.ref d) "dict" := let ⟨o, ho, hx, _⟩ := x; ⟨o, ho, hx.1⟩
theorem meets_len_ents {d : Addr} {es : Array DictEntry} {ep : Nat} (hd : (d == sysModules) = false) :
    MeetsIn prog w (Builtin.«dict.__len__» ⟨[.ref d], []⟩) (fun _ R s => Ents s.heap d es ep ∧ R (.ok (.ret (.int es.size s.toks))) { s with toks := s.toks + 1 }) :=
  .of_wp fun A R s ⟨⟨o, ho, hc, hdat⟩, h⟩ => by
    show wpAny _ _ (dictSize d >>= _) _ _ s
    unfold dictSize
    refine wpAny_bind (wpAny_bind (wpAny_dictEntries ho hdat (wpAny_pure ?_)))
    show wpAny _ _ (Builtin.Dict.pendingCount d >>= _) _ _ s
    refine wpAny_bind (wpAny_pendingCount_other hd ?_)
    refine wpAny_ret_mkInt ?_
    simpa using h
theorem call_len_ents {d : Addr} {es : Array DictEntry} {ep : Nat} {Q : Value → Shared → Prop} (hd : (d == sysModules) = false) (hm : Ents s.heap d es ep) (hfit : (es.size : Int) < 2 ^ 63)
    (h : Q (.int es.size (s.toks + 1)) { s with toks := s.toks + 1 + 1 }) : wpAny (model prog w) A (call (.builtin "len") [.ref d]) Q E s := by
  refine Calls.call_function_entry kind_len plain_len entry_len (args_len1 _) ?_
  unfold Builtin.«len»
  refine wpAny_bind (m := oneArg "len" _) (wpAny_pure ?_)
  refine wpAny_bind (m := callSpecial? (.ref d) (Str.ofString "__len__")) (wpAny_callSpecial?_slot (name := Str.ofString "__len__") hm.typeIs F.slot_dict_len
    (call_meetsIn F.slot_dict_len hm.typeIs F.entry_dict_len (F.args_dict_len_1 _) (meets_len_ents hd) ⟨hm, ?_⟩))
  show wpAny _ _ _ _ _ { s with toks := s.toks + 1 }
  refine wpAny_bind (wpAny_holding (wpAny_pure ?_))
  refine wpAny_bind (wpAny_letGo ?_)
  show wpAny _ _ (if ((es.size : Nat) : Int) < 0 then _ else _) _ _ _
  rw [if_neg (by (first | lia | omega))]
  show wpAny _ _ (if ((es.size : Nat) : Int) ≥ 2 ^ 63 then _ else _) _ _ _
  rw [if_neg (by (first | lia | omega))]
  exact wpAny_bind (wpAny_mkInt (wpAny_pure ⟨_, rfl, h⟩))
end

end Mine.Internal
end

section
namespace Mine.Internal

section
variable {prog : Program} {w : World} {h₀ : Heap} {n : Nat} {env : Env} {ρ : Loc} {σ : Store} {Q : PV → Store → Prop}

noncomputable def LFn (prog : Program) (w : World) (h₀ : Heap) (n : Nat) (f : Value) (xs : List PV) (σ : Store) (Q : PV → Store → Prop) : Prop :=
  ∀ env ρ H vs, vs.length = xs.length → (∀ p ∈ vs.zip xs, p ∈ H) → WV prog w h₀ n env H (call f vs) ρ σ Q
theorem evalArgs_pures {M : Model} {A : Around} {E : Value → Shared → Prop} {s : Shared} {f : Value} {vs : List Value} {Q : Args → Shared → Prop} (h : Q ⟨vs, []⟩ s) : wpAny M A (evalArgs f true (pures vs) []) Q E s := by
  cases vs with
  | nil => exact evalArgs_nil3 h
  | cons v vs =>
    refine evalArgs_plain (x := pure v) (rest := pures vs) ?_
    exact fun Γ p hΓ => by
      have := spliced_pures (v :: vs) M Γ (fun a p s => Q ⟨a, []⟩ s) (fun e p s => E e s) p s
      exact this ▸ h
theorem lcall_fn {id : String} {first xs : List PV} (h : LFn prog w h₀ n (.builtin id) (first ++ xs) σ Q) : LCall prog w h₀ n (.builtin id) first xs σ Q := fun env ρ H pos fs vs l1 l2 hp A s ok S X hh => by
  refine callWith_builtin (by simp [pures]) (evalArgs_pures ?_)
  refine h env ρ H (fs ++ vs) (by simp [l1, l2]) (fun p hp' => hp p ?_) A s ok S X hh
  rwa [List.zip_append l1] at hp'
theorem lcall_type {T : String} {xs : List PV} (h : LFn prog w h₀ n (.type T) xs σ Q) : LCall prog w h₀ n (.type T) [] xs σ Q := fun env ρ H pos fs vs l1 l2 hp A s ok S X hh => by
  have : fs = [] := List.length_eq_zero_iff.mp l1
  subst this
  exact PyProof.Rows.callWith_type (by simp [pures]) (evalArgs_pures (h env ρ H vs l2 (fun p hp' => hp p (by simpa using hp')) A s ok S X hh))

theorem Is.intEq {h : Heap} {i j : Int} {t : Tok} (e : i = j) : Is h (.int i t) (.int j) := e ▸ .int i t
theorem one_of {vs : List Value} {x : PV} (h : vs.length = [x].length) : ∃ v, vs = [v] := List.length_eq_one_iff.mp h
theorem two_of {vs : List Value} {x y : PV} (h : vs.length = [x, y].length) : ∃ u v, vs = [u, v] := by
  obtain ⟨u, r, rfl⟩ := List.exists_cons_of_length_eq_add_one h
  obtain ⟨v, rfl⟩ := List.length_eq_one_iff.mp (Nat.succ.inj h)
  exact ⟨u, v, rfl⟩
theorem three_of {vs : List Value} {x y z : PV} (h : vs.length = [x, y, z].length) : ∃ u v t, vs = [u, v, t] := by
  obtain ⟨u, r, rfl⟩ := List.exists_cons_of_length_eq_add_one h
  obtain ⟨v, t, rfl⟩ := two_of (x := y) (y := z) (Nat.succ.inj h)
  exact ⟨u, v, t, rfl⟩

theorem lf_len_list {a : Addr} {xs : List PV} (e : σ a = some (.lst xs)) (hl : xs.length ≤ 1000000) (q : Q (.int xs.length) σ) : LFn prog w h₀ n (.builtin "len") [.loc a] σ Q := fun env ρ H vs l hp => WE.leaf q fun A s Q' ok S X hh hQ => by
  obtain ⟨v, rfl⟩ := one_of l
  have := held_loc hh (hp _ (.head _)); subst this
  obtain ⟨ws, k, l1, i1⟩ := S.objs _ _ e
  have hl' := i1.length
  refine call_len_list (Mine.Internal.IsL.isList l1) (by simp; (first | lia | omega)) ?_
  exact hQ (.int ws.toArray.size (s.toks + 1)) (s.toks + 1 + 1) (.intEq (by simp [hl']))
theorem lf_len_str {x : Str} (hl : x.length ≤ 1000000) (q : Q (.int x.length) σ) : LFn prog w h₀ n (.builtin "len") [.str x] σ Q := fun env ρ H vs l hp => WE.leaf q fun A s Q' ok S X hh hQ => by
  obtain ⟨v, rfl⟩ := one_of l
  obtain ⟨t, rfl⟩ := held_str hh (hp _ (.head _))
  exact PySem.P.len_str (by (first | lia | omega)) (hQ _ _ (.int _ _))
theorem lf_len_dt {a : Addr} {T : Ty} {es : List (PV × PV)} (e : σ a = some (.dt T es)) (hl : es.length ≤ 1000000) (q : Q (.int es.length) σ) : LFn prog w h₀ n (.builtin "len") [.loc a] σ Q := fun env ρ H vs l hp => WE.leaf q fun A s Q' ok S X hh hQ => by
  obtain ⟨v, rfl⟩ := one_of l
  have := held_loc hh (hp _ (.head _)); subst this
  obtain ⟨hs, kvs, ⟨ob, ents, ep, ho, hx, hd, he, his⟩, e1, e2⟩ := S.objs _ _ e
  have hk : kvs.length = es.length := by simpa using congrArg List.length e1
  have hk2 : ents.size = es.length := by
    have : ents.toList.length = kvs.length := by rw [he]; simp
    simpa [hk] using this
  refine call_len_ents (es := ents) (ep := ep) hs ⟨ob, ho, hx, hd⟩ (by (first | lia | omega)) ?_
  exact hQ (.int ents.size (s.toks + 1)) (s.toks + 1 + 1) (.intEq (by simp [hk2]))

theorem update_same {a : Addr} {f : Obj → Obj} (h : Heap) : Pres (fun c => c = a) h (h.update a f) := Pres.sameBut (Heap.SameBut.update ..)
theorem lc_append {a : Addr} {xs : List PV} {x : PV} (e : σ a = some (.lst xs)) (hl : xs.length ≤ 1000000) (q : Q .none (upd σ a (.lst (xs ++ [x])))) : LCall prog w h₀ n (.builtin "list.append") [.loc a] [x] σ Q := fun env ρ H pos fs vs l1 l2 hp => WE.turn e (b := .none) q fun A s Q' ok S X hh hr hQ => by
  obtain ⟨f, rfl⟩ := one_of l1
  obtain ⟨v, rfl⟩ := one_of l2
  have := held_loc hh (hp _ (.head _)); subst this
  obtain ⟨ws, k, il, i1⟩ := hr
  have hl' := i1.length
  refine PySem.P.append_list (x := pure v) (wpAny_pure ⟨_, _, by simp; unfold sizeLine; (first | lia | omega), il, ?_⟩)
  have hu := IsL.update il (fun xs => xs.push v)
  have e1 : ws.toArray.push v = (ws ++ [v]).toArray := by simp
  rw [e1] at hu
  exact hQ .none _ s.toks (update_same _) fun kp => ⟨⟨ws ++ [v], _, hu, (i1.keep kp).snoc ((hh _ (hp _ (.tail _ (.head _)))).keep kp)⟩, .none⟩
theorem lc_extend {a b : Addr} {xs ys : List PV} (e : σ a = some (.lst xs)) (eb : σ b = some (.lst ys)) (hab : b ≠ a) (hl : xs.length + ys.length ≤ 1000000) (q : Q .none (upd σ a (.lst (xs ++ ys)))) : LCall prog w h₀ n (.builtin "list.extend") [.loc a] [.loc b] σ Q := fun env ρ H pos fs vs l1 l2 hp => WE.turn e (b := .none) q fun A s Q' ok S X hh hr hQ => by
  obtain ⟨f, rfl⟩ := one_of l1
  obtain ⟨v, rfl⟩ := one_of l2
  have := held_loc hh (hp _ (.head _)); subst this
  have := held_loc hh (hp _ (.tail _ (.head _))); subst this
  obtain ⟨ws, k, il, i1⟩ := hr
  obtain ⟨us, k2, il2, i2⟩ := S.objs _ _ eb
  have hl1 := i1.length; have hl2 := i2.length
  refine PySem.P.extend_list (x := pure (.ref b)) (wpAny_pure ⟨b, _, _, _, _, by simp; unfold sizeLine; (first | lia | omega), by simp; unfold sizeLine; (first | lia | omega), ?_, rfl, il, il2, ?_⟩)
  · have : Builtin.List.listTooLong (ws.toArray.size + us.toArray.size) = false := by
      unfold Builtin.List.listTooLong sizeLine; simp; (first | lia | omega)
    rw [this]; simp
  have hu := IsL.update il (fun xs => xs ++ us.toArray)
  have e1 : ws.toArray ++ us.toArray = (ws ++ us).toArray := by simp
  rw [e1] at hu
  exact hQ .none _ s.toks (update_same _) fun kp => ⟨⟨ws ++ us, _, hu, (i1.append i2).keep kp⟩, .none⟩
theorem IsAll.insert {h : Heap} {ws : List Value} {xs : List PV} {v : Value} {x : PV} (i : IsAll h ws xs) (iv : Is h v x) (k : Nat) : IsAll h (ws.take k ++ v :: ws.drop k) (xs.take k ++ x :: xs.drop k) := (i.take k).append (.cons iv (i.drop k))
theorem lc_insert {a : Addr} {xs : List PV} {x : PV} {k : Int} (e : σ a = some (.lst xs)) (h0 : 0 ≤ k) (hk : k.toNat ≤ xs.length) (hl : xs.length ≤ 1000000) (q : Q .none (upd σ a (.lst (xs.take k.toNat ++ x :: xs.drop k.toNat)))) :
    LCall prog w h₀ n (.builtin "list.insert") [.loc a] [.int k, x] σ Q := lcall_fn fun env ρ H vs l1 hp => WE.turn e (b := .none) q fun A s Q' ok S X hh hr hQ => by
  obtain ⟨f, i, v, rfl⟩ := three_of l1
  have := held_loc hh (hp _ (.head _)); subst this
  obtain ⟨t, rfl⟩ := held_int hh (hp _ (.tail _ (.head _)))
  obtain ⟨ws, m, il, i1⟩ := hr
  have hl' := i1.length
  refine call_meets F.slot_list_insert ⟨_, il, rfl⟩ F.entry_list_insert (F.args_list_insert_3 _ _ _) (AutoSeq1.list_insert_list_int_val_1 a ws.toArray m k t v ?_ (by simp; unfold sizeLine; (first | lia | omega))) ⟨il, ?_⟩
  · unfold Builtin.List.listFitsIndex
    simp; (first | lia | omega)
  have e1 : ∀ (ys : Array Value), ys = ws.toArray → (have j := if k < 0 then (k + (ys.size : Int)).toNat else min k.toNat ys.size; (ys.extract 0 j).push v ++ ys.extract j) = (ws.take k.toNat ++ v :: ws.drop k.toNat).toArray := by
    intro ys hy
    subst hy
    have : ¬ k < 0 := by (first | lia | omega)
    simp only [this, if_false, List.size_toArray]
    have e2 : min k.toNat ws.length = k.toNat := by (first | lia | omega)
    rw [e2]
    apply Array.toList_inj.mp
    simp [List.extract_eq_take_drop]
    exact List.take_of_length_le (by simp)
  have hu := IsL.update il (fun xs => have j := if k < 0 then (k + (xs.size : Int)).toNat else min k.toNat xs.size; (xs.extract 0 j).push v ++ xs.extract j)
  rw [e1 _ rfl] at hu
  exact hQ .none _ s.toks (update_same _) fun kp => ⟨⟨ws.take k.toNat ++ v :: ws.drop k.toNat, _, hu, (i1.keep kp).insert ((hh _ (hp _ (.tail _ (.tail _ (.head _))))).keep kp) _⟩, .none⟩

theorem lf_get_dt {a : Addr} {T : Ty} {es : List (PV × PV)} {ks : List PV} {d : PV} (e : σ a = some (.dt T es)) (hk : HasTy T (.tup ks)) (hs : Hsh 3 (.tup ks)) (q : Q ((dget es (.tup ks)).getD d) σ) :
    LCall prog w h₀ n (.builtin "dict.get") [.loc a] [.tup ks, d] σ Q := fun env ρ H pos fs vs l1 l2 hp => WE.leaf q fun A s Q' ok S X hh hQ => by
  obtain ⟨f, rfl⟩ := one_of l1
  obtain ⟨u, v, rfl⟩ := two_of l2
  have := held_loc hh (hp _ (.head _)); subst this
  obtain ⟨hm, kvs, D, e1, e2⟩ := S.objs _ _ e
  have iu := hh _ (hp _ (.tail _ (.head _)))
  have iv := hh _ (hp _ (.tail _ (.tail _ (.head _))))
  obtain ⟨p, rfl⟩ := iu.tup_ref
  refine @wpAny_dict_get2_heap _ _ _ PV.decEq (tupKind prog w T) _ _ _ _ _ (pure (.ref p)) (pure v) _ (by have := ok.room; have := in1_units A; show A.in1.units + 10 < cLine; (first | lia | omega)) hm (wpAny_pure (wpAny_pure ⟨p, .tup ks, kvs, rfl, ⟨iu, hk, hs⟩, D, ?_⟩))
  obtain ⟨g1, g2⟩ := dt_get (k := .tup ks) e1 e2
  cases q : dget es (.tup ks) with
  | none =>
    rw [g1 q]
    refine hQ _ _ ?_
    rw [q]; exact iv
  | some x =>
    obtain ⟨v', e3, e4⟩ := g2 x q
    rw [e3]
    refine hQ _ _ ?_
    rw [q]; exact e4
theorem lf_setdefault_dt {a : Addr} {T : Ty} {es : List (PV × PV)} {ks : List PV} {d : PV} (e : σ a = some (.dt T es)) (hk : HasTy T (.tup ks)) (hs : Hsh 3 (.tup ks)) (hl : es.length ≤ 1000000)
    (q1 : ∀ x, dget es (.tup ks) = some x → Q x σ) (q2 : dget es (.tup ks) = none → Q d (upd σ a (.dt T (dset es (.tup ks) d)))) :
    LCall prog w h₀ n (.builtin "dict.setdefault") [.loc a] [.tup ks, d] σ Q := lcall_fn fun env ρ H vs l1 hp => by
  obtain ⟨f, u, v, rfl⟩ := three_of l1
  cases qq : dget es (.tup ks) with
  | some x =>
    refine WE.leaf (q1 x qq) fun A s Q' ok S X hh hQ => ?_
    have := held_loc hh (hp _ (.head _)); subst this
    obtain ⟨hm, kvs, D, e1, e2⟩ := S.objs _ _ e
    have iu := hh _ (hp _ (.tail _ (.head _)))
    obtain ⟨p, rfl⟩ := iu.tup_ref
    obtain ⟨v', e3, e4⟩ := (dt_get (k := .tup ks) e1 e2).2 x qq
    refine call_meetsIn F.slot_dict_setdefault (@Heap.DictOfH.typeIs _ _ _ PV.decEq _ _ _ _ D) F.entry_dict_setdefault (F.args_dict_setdefault_3 _ _ _) (@meets_setdefault_heap _ _ _ PV.decEq (tupKind prog w T) a p (.tup ks) hm v)
      ⟨(by have := ok.room; have := in1_units A; show A.in1.units + 10 < cLine; (first | lia | omega)), ⟨iu, hk, hs⟩, kvs, D, kvs_size e1 hl, fun p' hp' => ?_, fun hn => ?_⟩
    · rw [e3] at hp'; cases hp'; exact hQ _ _ e4
    · rw [e3] at hn; cases hn
  | none =>
    refine WE.turn e (b := d) (q2 qq) fun A s Q' ok S X hh hr hQ => ?_
    have := held_loc hh (hp _ (.head _)); subst this
    obtain ⟨hm, kvs, D, e1, e2⟩ := hr
    have iu := hh _ (hp _ (.tail _ (.head _)))
    have iv := hh _ (hp _ (.tail _ (.tail _ (.head _))))
    obtain ⟨p, rfl⟩ := iu.tup_ref
    have e3 := (dt_get (k := .tup ks) e1 e2).1 qq
    refine call_meetsIn F.slot_dict_setdefault (@Heap.DictOfH.typeIs _ _ _ PV.decEq _ _ _ _ D) F.entry_dict_setdefault (F.args_dict_setdefault_3 _ _ _) (@meets_setdefault_heap _ _ _ PV.decEq (tupKind prog w T) a p (.tup ks) hm v)
      ⟨(by have := ok.room; have := in1_units A; show A.in1.units + 10 < cLine; (first | lia | omega)), ⟨iu, hk, hs⟩, kvs, D, kvs_size e1 hl, fun p' hp' => ?_, fun hn h' D' hs' => ?_⟩
    · rw [e3] at hp'; cases hp'
    · exact hQ _ h' _ (Pres.sameBut hs') fun kp => ⟨⟨hm, _, D', dt_set e1 (e2.keep kp) (iv.keep kp)⟩, iv.keep kp⟩
end

end Mine.Internal
end

section
namespace Mine.Internal

theorem pick_upto (items : Array Value) (k : Int) (h0 : 0 ≤ k) : slicePick items none (some k) none = (items.toList.take k.toNat).toArray := by
  have h1 : slicePick items none (some k) none = slicePick items (some ((0 : Nat) : Int)) (some ((min k.toNat items.size : Nat) : Int)) none := by
    have e1 : ¬ k < 0 := by (first | lia | omega)
    have e2 : max (0 : Int) (min k (items.size : Int)) = max 0 (min ((min k.toNat items.size : Nat) : Int) (items.size : Int)) := by
      clear e1
      rcases Nat.le_total k.toNat items.size with h | h
      · rw [Nat.min_eq_left h, Int.toNat_of_nonneg h0]
      · rw [Nat.min_eq_right h, Int.min_self, Int.min_eq_right (Int.ofNat_le.mpr h |> fun h => by rwa [Int.toNat_of_nonneg h0] at h)]
    have e3 : ¬ (((min k.toNat items.size : Nat) : Int) < 0) := by (first | lia | omega)
    have e4 : (0 : Int) = max 0 (min ((0 : Nat) : Int) (items.size : Int)) := by (first | lia | omega)
    have e5 : ¬ (((0 : Nat) : Int) < 0) := by (first | lia | omega)
    simp only [slicePick, sliceBounds, Option.getD_none, show ((1 : Int) > 0) = True from by simp, if_true, if_neg e1, e2, if_neg e3, if_neg e5]
    rw [← e4]
  rw [h1, slicePick_run _ _ _ (by (first | lia | omega)) (by (first | lia | omega))]
  congr 1
  simp only [List.drop_zero, Nat.sub_zero]
  rcases Nat.le_total k.toNat items.size with h | h
  · rw [Nat.min_eq_left h]
  · rw [Nat.min_eq_right h, List.take_of_length_le (by simp), List.take_of_length_le (by simpa using h)]

section
variable {prog : Program} {w : World} {h₀ : Heap} {n : Nat} {env : Env} {ρ : Loc} {σ : Store} {Q : PV → Store → Prop}

noncomputable def ListAt (prog : Program) (w : World) (h₀ : Heap) (σ : Store) (a : Addr) (xs : List PV) : Prop := ∀ h, SRel prog w h₀ σ h → ∃ vs : List Value, h.IsList a vs.toArray ∧ IsAll h vs xs
theorem we_slice_upto {value e : Expr} {p pos : Pos}
    (h : WV prog w h₀ n env [] (eval value env) ρ σ fun x σ₁ => WV prog w h₀ n env [] (eval e env) ρ σ₁ fun y σ₂ => ∃ a xs k, x = .loc a ∧ y = .int k ∧ 0 ≤ k ∧ ListAt prog w h₀ σ₂ a xs ∧ xs.length ≤ 1000000 ∧
      ∀ c, σ₂ c = none → Q (.loc c) (upd σ₂ c (.lst (xs.take k.toNat))))
    (ht : autoParam (∀ o r, letTemporaryGo value o r = pure ()) Mine.Internal.au3) :
    WV prog w h₀ n env [] (eval (.Subscript value (.Slice none (some e) none p) pos) env) ρ σ Q := fun A s ok S X hh =>
  wpAny_Subscript_list_slice (h.run (R' := Is) (γ := Value) (δ := PV) ok S X hh fun o s₁ x σ₁ S₁ X₁ hh₁ r₁ q₁ tr₁ => by
    rw [evalPart_none]
    refine wpAny_pure ?_
    rw [evalPart_some]
    refine (WE.more (H := [(o, x)]) q₁).run (R' := Is) (γ := Value) (δ := PV) ok S₁ X₁ (hh₁.cons r₁) fun vu s₂ y σ₂ S₂ X₂ hh₂ r₂ q₂ tr₂ => ?_
    obtain ⟨a, xs, k, rfl, rfl, h0, hl, hsz, q⟩ := q₂
    obtain ⟨vs, il, i⟩ := hl _ S₂
    have := held_loc hh₂ (.head _); subst this
    cases r₂ with | int _ t => 
    have len := i.length
    refine ⟨a, vs.toArray, none, some k, rfl, il, by simp; unfold sizeLine; (first | lia | omega), .none, .int _ _, ?_⟩
    rw [pick_upto _ _ h0]
    have p : Pres NoMod s₂.heap ((s₂.heap.push { cls := .type "slice", data := .fields #[.none, .int k t, .none] }).push { cls := .type "list", data := .seq (vs.take k.toNat).toArray }) := (Pres.refl.push _).push _
    have kp : TupKeep s₂.heap _ := fun b items n' e => p.2 b _ (fun f => f) e
    have rp : Rep prog w ((s₂.heap.push { cls := .type "slice", data := .fields #[.none, .int k t, .none] }).push { cls := .type "list", data := .seq (vs.take k.toNat).toArray }) (s₂.heap.objs.size + 1) (.lst (xs.take k.toNat)) := by
      refine ⟨vs.take k.toNat, 0, ?_, (i.take _).keep kp⟩
      have := IsL.new (s₂.heap.push { cls := .type "slice", data := .fields #[.none, .int k t, .none] }) (vs.take k.toNat).toArray
      rw [Heap.size_push] at this
      exact this
    obtain ⟨S₃, X₃, hh₃, tr₃⟩ := newStep (γ := Value) (δ := PV) (R' := Is) (o := .lst (xs.take k.toNat)) S₂ X₂ hh₂ p (Heap.get?_none_of_le (Nat.le_succ _)) rp
    exact tr₁ _ _ _ (tr₂ _ _ _ (tr₃ s₂.toks _ _ _ (Post.here S₃ X₃ (.loc _) ⟨rfl, q _ (free_of S₂ (Heap.get?_none_of_le (Nat.le_succ _)))⟩)))) ht

theorem firm_push {s : Shared} {γ δ : Type} {R' : Heap → γ → δ → Prop} {H : List (Value × PV)} {o : Obj} (S : SRel prog w h₀ σ s.heap) (X : ERel h₀ env ρ σ s.heap) (hh : Held H s.heap) :
    SRel prog w h₀ σ (s.heap.push o) ∧ ERel h₀ env ρ σ (s.heap.push o) ∧ Held H (s.heap.push o) ∧
      ∀ tk (Q : δ → Loc → Store → Prop) c s₂, Post prog w h₀ NoMod R' env σ { s with heap := s.heap.push o, toks := tk } Q c s₂ → Post prog w h₀ NoMod R' env σ s Q c s₂ := by
  have p : Pres NoMod s.heap (s.heap.push o) := Pres.refl.push _
  have k : TupKeep s.heap (s.heap.push o) := fun b items n' e => p.2 b _ (fun f => f) e
  exact ⟨⟨fun b ob e => p.2 b ob (fun f => f) (S.base b ob e), trivial, fun b o' e => (S.objs b o' e).keep k fun ob eo => p.2 b ob (fun f => f) eo, S.off⟩,
    X.step p k (fun f => f) (fun _ _ f => f) (fun _ d => .inl d), hh.keep k, fun tk Q c s₂ x => Post.trans (noMod env) (X.step p k (fun f => f) (fun _ _ f => f) (fun _ d => .inl d)) rfl (p.mono fun _ f => f.elim) (fun _ d => .inl d) x⟩
theorem we_str_slice {value : Expr} {lower upper : Option Expr} {p pos : Pos}
    (h : WV prog w h₀ n env [] (eval value env) ρ σ fun x σ₁ => WV prog w h₀ n env [] (evalPart lower env) ρ σ₁ fun l σ₂ => WV prog w h₀ n env [] (evalPart upper env) ρ σ₂ fun u σ₃ =>
      ∃ t lo hi, x = .str t ∧ l = (match lo with | none => PV.none | some i => .int i) ∧ u = (match hi with | none => PV.none | some i => .int i) ∧ t.length ≤ 1000000 ∧ Q (.str (Txt.slice t lo hi)) σ₃)
    (ht : autoParam (∀ o r, letTemporaryGo value o r = pure ()) Mine.Internal.au3) :
    WV prog w h₀ n env [] (eval (.Subscript value (.Slice lower upper none p) pos) env) ρ σ Q := fun A s ok S X hh =>
  wpAny_Subscript_str_slice (h.run (R' := Is) (γ := Value) (δ := PV) ok S X hh fun o s₁ x σ₁ S₁ X₁ hh₁ r₁ q₁ tr₁ => (WE.more (H := [(o, x)]) q₁).run (R' := Is) (γ := Value) (δ := PV) ok S₁ X₁ (hh₁.cons r₁) fun vl s₂ y σ₂ S₂ X₂ hh₂ r₂ q₂ tr₂ => 
    (WE.more (H := (vl, y) :: [(o, x)]) q₂).run (R' := Is) (γ := Value) (δ := PV) ok S₂ X₂ (hh₂.cons r₂) fun vu s₃ z σ₃ S₃ X₃ hh₃ r₃ q₃ tr₃ => by
    obtain ⟨t, lo, hi, rfl, e1, e2, hsz, q⟩ := q₃
    obtain ⟨tk, rfl⟩ := held_str hh₃ (.tail _ (.head _))
    have el : ∃ l, vl = partValue l ∧ l.map (·.1) = lo := by
      cases lo with
      | none => subst e1; have := held_none hh₃ (.head _); subst this; exact ⟨none, rfl, rfl⟩
      | some i => subst e1; obtain ⟨u, rfl⟩ := held_int hh₃ (.head _); exact ⟨some (i, u), rfl, rfl⟩
    have eu : ∃ l, vu = partValue l ∧ l.map (·.1) = hi := by
      cases hi with
      | none => subst e2; cases r₃; exact ⟨none, rfl, rfl⟩
      | some i => subst e2; cases r₃; exact ⟨some (i, _), rfl, rfl⟩
    obtain ⟨l, rfl, el⟩ := el
    obtain ⟨u, rfl, eu⟩ := eu
    refine ⟨t, tk, l, u, rfl, rfl, rfl, ?_⟩
    obtain ⟨S₄, X₄, hh₄, tr₄⟩ := firm_push (γ := Value) (δ := PV) (R' := Is) (o := { cls := .type "slice", data := .fields #[partValue l, partValue u, .none] }) S₃ X₃ hh₃
    have fin : ∀ t' tk, Post prog w h₀ NoMod Is env σ s (fun b ρ' σ' => ρ' = ρ ∧ Q b σ') (.str (Txt.slice t lo hi) t') { s₃ with heap := s₃.heap.push { cls := .type "slice", data := .fields #[partValue l, partValue u, .none] }, toks := tk } :=
      fun t' tk => tr₁ _ _ _ (tr₂ _ _ _ (tr₃ _ _ _ (tr₄ tk _ _ _ (Post.here (s := { s₃ with heap := s₃.heap.push { cls := .type "slice", data := .fields #[partValue l, partValue u, .none] }, toks := tk }) S₄ X₄ (.str _ _) ⟨rfl, q⟩))))
    subst el; subst eu
    exact post_val_or_str ⟨Nat.le_trans (Txt.slice_le t _ _) (by unfold sizeLine; (first | lia | omega)), fun t' k => fin t' k⟩) ht
theorem we_part_none (q : Q .none σ) : WV prog w h₀ n env [] (evalPart none env) ρ σ Q := WE.leaf q fun A s Q' ok S X hh hQ => by
  rw [evalPart_none]; exact wpAny_pure (hQ _ s.toks .none)
theorem we_part_some {e : Expr} (h : WV prog w h₀ n env [] (eval e env) ρ σ Q) : WV prog w h₀ n env [] (evalPart (some e) env) ρ σ Q := h

theorem notSys {s : Heap} (hbig : ∃ b o, sysModules < b ∧ h₀.get? b = some o) (S : SRel prog w h₀ σ s) : (s.objs.size == sysModules) = false := by
  obtain ⟨b, o, hb, ho⟩ := hbig
  exact beq_eq_false_iff_ne.mpr (Nat.ne_of_gt (Nat.lt_trans hb (Heap.lt_size (S.base _ _ ho))))
theorem rep_dv_new {s : Heap} (hbig : ∃ b o, sysModules < b ∧ h₀.get? b = some o) (S : SRel prog w h₀ σ s) : Rep prog w (s.push { cls := .type "dict", data := .dict #[] }) s.objs.size (.dv []) :=
  ⟨notSys hbig S, [], @Heap.DictOf.new _ _ _ PV.decEq (valKind prog w) s, rfl, .nil⟩
theorem rep_dt_new {T : Ty} {s : Heap} (hbig : ∃ b o, sysModules < b ∧ h₀.get? b = some o) (S : SRel prog w h₀ σ s) : Rep prog w (s.push { cls := .type "dict", data := .dict #[] }) s.objs.size (.dt T []) :=
  ⟨notSys hbig S, [], @Heap.DictOfH.new _ _ _ PV.decEq (tupKind prog w T) s, rfl, .nil⟩
theorem we_dict0_dv {pos : Pos} (hbig : ∃ b o, sysModules < b ∧ h₀.get? b = some o) (q : ∀ a, σ a = none → Q (.loc a) (upd σ a (.dv []))) : WV prog w h₀ n env [] (eval (.Dict [] [] pos) env) ρ σ Q :=
  WE.newObj q fun A s Q' ok S X hh hQ => wpAny_Dict_empty (hQ _ s.toks _ (Pres.refl.push _) (fresh _) (rep_dv_new hbig S))
theorem we_dict0_dt {pos : Pos} (T : Ty) (hbig : ∃ b o, sysModules < b ∧ h₀.get? b = some o) (q : ∀ a, σ a = none → Q (.loc a) (upd σ a (.dt T []))) : WV prog w h₀ n env [] (eval (.Dict [] [] pos) env) ρ σ Q :=
  WE.newObj q fun A s Q' ok S X hh hQ => wpAny_Dict_empty (hQ _ s.toks _ (Pres.refl.push _) (fresh _) (rep_dt_new hbig S))
theorem upd_upd (σ : Store) (a : Addr) (o o' : MObj) : upd (upd σ a o) a o' = upd σ a o' := by funext b; unfold upd; split <;> rfl
theorem we_dict1 {k v : Expr} {pos : Pos} (T : Ty) (hbig : ∃ b o, sysModules < b ∧ h₀.get? b = some o)
    (h : ∀ a, σ a = none → WV prog w h₀ n env [] (eval k env) ρ (upd σ a (.dt T [])) fun x σ₁ => WV prog w h₀ n env [] (eval v env) ρ σ₁ fun y σ₂ => ∃ ks, x = .tup ks ∧ HasTy T (.tup ks) ∧ Hsh 3 (.tup ks) ∧ σ₂ a = some (.dt T []) ∧ Q (.loc a) (upd σ₂ a (.dt T [(.tup ks, y)]))) :
    WV prog w h₀ n env [] (eval (.Dict [some k] [v] pos) env) ρ σ Q := fun A s ok S X hh => by
  refine wpAny_Dict_any rfl rfl (by simp) (by simp) ?_
  obtain ⟨S₀, X₀, hh₀, tr₀⟩ := newStep (γ := Value) (δ := PV) (R' := Is) (o := .dt T []) S X hh (Pres.refl.push _) (fresh _) (rep_dt_new (T := T) hbig S)
  have fr := free_of S (fresh s.heap)
  show wpAny _ _ (evalPairs [(eval k env, do let x ← eval v env; standAt pos; pure x)]) _ _ _
  unfold evalPairs
  refine wpAny_bind ((h _ fr).run (R' := Is) (γ := Value) (δ := PV) (s := { s with heap := s.heap.push { cls := .type "dict", data := .dict #[] } }) ok S₀ X₀ hh₀ fun kv s₁ x σ₁ S₁ X₁ hh₁ r₁ q₁ tr₁ => ?_)
  refine wpAny_bind (wpAny_holding (wpAny_bind ((WE.more (H := [(kv, x)]) q₁).run (R' := Is) (γ := Value) (δ := PV) ok S₁ X₁ (hh₁.cons r₁) fun vv s₂ y σ₂ S₂ X₂ hh₂ r₂ q₂ tr₂ => ?_)))
  refine wpAny_bind (wpAny_standAt (wpAny_pure (wpAny_bind (wpAny_holding (wpAny_pure (wpAny_pure ?_))))))
  obtain ⟨ks, rfl, hk, hs, e, q⟩ := q₂
  have ik := hh₂ _ (.head _)
  obtain ⟨p, rfl⟩ := ik.tup_ref
  unfold storeAll
  rw [List.forIn_cons]
  obtain ⟨hm, kvs, D, e1, e2⟩ := S₂.objs _ _ e
  refine wpAny_bind (wpAny_bind (@wpAny_dictSet_heap _ _ _ PV.decEq (tupKind prog w T) _ _ _ _ _ _ _ _ _ (by have := ok.room; show A.units + 10 < cLine; (first | lia | omega)) ⟨ik, hk, hs⟩ D (fun h' D' hs' => wpAny_pure ?_) (kvs_size e1 (by simp))))
  dsimp only
  rw [List.forIn_nil]
  refine wpAny_pure ?_
  have kp : TupKeep s₂.heap h' := S₂.tupKeep (Pres.sameBut hs') fun c hc => .inl (by subst hc; exact ⟨_, e⟩)
  obtain ⟨S₃, X₃, hh₃, tr₃⟩ := turnStep (γ := Value) (δ := PV) (R' := Is) (o' := .dt T [(.tup ks, y)]) S₂ X₂ hh₂ e (Pres.sameBut hs') ⟨hm, _, D', dt_set (es := []) e1 (e2.keep kp) (r₂.keep kp)⟩
  exact tr₀ s.toks _ _ _ (tr₁ _ _ _ (tr₂ _ _ _ (tr₃ _ _ _ _ (Post.here (s := { s₂ with heap := h', toks := s₂.toks + drawsPV (.tup ks) }) S₃ X₃ (.loc _) ⟨rfl, q⟩))))
end

end Mine.Internal
end

section
namespace Mine.Internal

theorem pairwise_ne {l : List (Str × Addr)} (h : l.Pairwise fun x y => x.2 ≠ y.2) {a b : Str × Addr} (ha : a ∈ l) (hb : b ∈ l) (hne : a ≠ b) : a.2 ≠ b.2 := by
  induction l with
  | nil => cases ha
  | cons x l ih =>
    obtain ⟨h1, h2⟩ := List.pairwise_cons.mp h
    rcases List.mem_cons.mp ha with rfl | ha
    · rcases List.mem_cons.mp hb with rfl | hb
      · exact absurd rfl hne
      · exact h1 _ hb
    · rcases List.mem_cons.mp hb with rfl | hb
      · exact fun e => h1 _ (by assumption) e.symm
      · exact ih h2 ha hb
theorem ns_unique {h : Heap} {a : Addr} {m m' : Str → Option Value} (x : h.Ns a m) (y : h.Ns a m') : m = m' := by
  obtain ⟨o, es, ep, h1, h2, h3, h4⟩ := x
  obtain ⟨o', es', ep', h1', h2', h3', h4'⟩ := y
  rw [h1] at h1'; cases h1'
  rw [h2] at h2'; cases h2'
  funext z; rw [← h4, ← h4']
structure Stp (Mod : Addr → Prop) (σ : Store) (s : Shared) (σ₁ : Store) (s₁ : Shared) : Prop where
  eq : ∃ h tk, s₁ = { s with heap := h, toks := tk }
  pres : Pres (fun a => Dom σ a ∨ Mod a) s.heap s₁.heap
  sub : ∀ a, Dom σ₁ a → Dom σ a ∨ s.heap.get? a = none
theorem Stp.refl {Mod : Addr → Prop} {σ : Store} {s : Shared} : Stp Mod σ s σ s := ⟨⟨s.heap, s.toks, rfl⟩, Pres.refl, fun _ d => .inl d⟩
theorem Stp.mono {Mod Mod' : Addr → Prop} {σ σ₁ : Store} {s s₁ : Shared} (x : Stp Mod σ s σ₁ s₁) (h : ∀ a, Mod a → Mod' a) : Stp Mod' σ s σ₁ s₁ := ⟨x.eq, x.pres.mono fun a d => d.imp id (h a), x.sub⟩
theorem Stp.trans {Mod : Addr → Prop} {σ σ₁ σ₂ : Store} {s s₁ s₂ : Shared} (x : Stp Mod σ s σ₁ s₁) (y : Stp Mod σ₁ s₁ σ₂ s₂) (al : ∀ a o, Mod a → s.heap.get? a = some o → ∃ o, s₁.heap.get? a = some o) : Stp Mod σ s σ₂ s₂ := by
  obtain ⟨⟨h, tk, rfl⟩, p, sub⟩ := x
  obtain ⟨⟨h', tk', rfl⟩, p', sub'⟩ := y
  refine ⟨⟨h', tk', rfl⟩, ⟨trivial, fun a o na ea => p'.2 a o (fun d => ?_) (p.2 a o na ea)⟩, fun a d => ?_⟩
  · rcases d with d | d
    · rcases sub a d with d | d
      · exact na (.inl d)
      · rw [d] at ea; cases ea
    · exact na (.inr d)
  · rcases sub' a d with d | d
    · exact sub a d
    · cases q : s.heap.get? a with
      | none => exact .inr rfl
      | some o =>
        by_cases hd : Dom σ a
        · exact .inl hd
        · exfalso
          have d' : h.get? a = none := d
          by_cases hm : Mod a
          · obtain ⟨o', e⟩ := al a o hm q
            rw [show h.get? a = none from d] at e; cases e
          · have := p.2 a o (fun h => h.elim hd hm) q
            rw [d'] at this; cases this

section
variable {prog : Program} {w : World} {h₀ : Heap} {α β γ δ : Type} {n : Nat} {Mod : Addr → Prop} {R : Heap → α → β → Prop} {R' : Heap → γ → δ → Prop} {env : Env} {H : List (Value × PV)} {ρ : Loc} {σ : Store}
theorem ERel.alive {h : Heap} (X : ERel h₀ env ρ σ h) {a : Addr} (o : Own env a) : ∃ ob, h.get? a = some ob := by
  rcases o with rfl | ⟨p, hp, rfl⟩
  · obtain ⟨m, ob, es, ep, h1, _⟩ := X.ns; exact ⟨_, h1⟩
  · obtain ⟨⟨v, ob, h1, h2⟩, _⟩ := X.cells p hp; exact ⟨_, h1⟩
theorem Post.of {Q : β → Loc → Store → Prop} {s s₁ : Shared} {σ₁ : Store} {ρ₁ : Loc} {v : α} {b : β} (x : Stp Mod σ s σ₁ s₁) (S : SRel prog w h₀ σ₁ s₁.heap) (X : ERel h₀ env ρ₁ σ₁ s₁.heap) (r : R s₁.heap v b) (q : Q b ρ₁ σ₁) : Post prog w h₀ Mod R env σ s Q v s₁ := by
  obtain ⟨⟨h, tk, rfl⟩, p, sub⟩ := x
  exact ⟨h, tk, b, ρ₁, σ₁, rfl, p, S, X, sub, r, q⟩
theorem Post.stp {Q : β → Loc → Store → Prop} {s s₁ : Shared} {v : α} (x : Post prog w h₀ Mod R env σ s Q v s₁) : ∃ b ρ₁ σ₁, Stp Mod σ s σ₁ s₁ ∧ SRel prog w h₀ σ₁ s₁.heap ∧ ERel h₀ env ρ₁ σ₁ s₁.heap ∧ R s₁.heap v b ∧ Q b ρ₁ σ₁ := by
  refine x.elim fun h' tk b ρ' σ' e p S X sub r q => ?_
  subst e
  exact ⟨b, ρ', σ', ⟨⟨_, _, rfl⟩, p, sub⟩, S, X, r, q⟩
theorem Stp.tupKeep {s s₁ : Shared} {σ₁ : Store} (hM : NoTup Mod env) (x : Stp Mod σ s σ₁ s₁) (S : SRel prog w h₀ σ s.heap) (X : ERel h₀ env ρ σ s.heap) : TupKeep s.heap s₁.heap :=
  S.tupKeep x.pres (fun a d => d.imp id fun d => X.ownNoTup (hM a d))
theorem Stp.andThen {s s₁ s₂ : Shared} {σ₁ σ₂ : Store} {ρ₁ : Loc} (hM : NoTup Mod env) (x : Stp Mod σ s σ₁ s₁) (y : Stp Mod σ₁ s₁ σ₂ s₂) (X₁ : ERel h₀ env ρ₁ σ₁ s₁.heap) : Stp Mod σ s σ₂ s₂ :=
  x.trans y fun a _ hm _ => X₁.alive (hM a hm)
theorem WP.go {m : Sem α} {Q1 : β → Loc → Store → Prop} (hM : NoTup Mod env) (h : WP prog w h₀ n Mod R env H m ρ σ Q1) {A : Around} {s : Shared} (ok : Ok n A) (S : SRel prog w h₀ σ s.heap) (X : ERel h₀ env ρ σ s.heap) (hh : Held H s.heap) {Q' : α → Shared → Prop} {E : Value → Shared → Prop}
    (hq : ∀ v s₁ b ρ₁ σ₁, Stp Mod σ s σ₁ s₁ → SRel prog w h₀ σ₁ s₁.heap → ERel h₀ env ρ₁ σ₁ s₁.heap → Held H s₁.heap → R s₁.heap v b → Q1 b ρ₁ σ₁ → Q' v s₁) :
    wpAny (model prog w) A m Q' E s :=
  wpAny_mono (h A s ok S X hh) (fun v s₁ x => by
    obtain ⟨b, ρ', σ', st, S', X', r, q⟩ := x.stp
    exact hq v _ b ρ' σ' st S' X' (hh.keep (st.tupKeep hM S X)) r q) fun _ _ e => e.elim

theorem lookup_cons_self (x : Str) (v : PV) (ρ : Loc) : List.lookup x ((x, v) :: ρ) = some v := by simp [List.lookup_cons]
noncomputable def StorM (Mod : Addr → Prop) (env : Env) (x : Str) : Prop := (env.kindOf x = some .local ∧ Mod env.locals) ∨ (env.kindOf x = some .cell ∧ ∃ c, env.cells.lookup x = some c ∧ Mod c)
theorem wp_storeM {x : Str} {val : Value} {v : PV} {Q : Unit → Loc → Store → Prop} (hM : NoTup Mod env) (hk : StorM Mod env x) (m : (val, v) ∈ H) (q : Q () ((x, v) :: ρ) σ) :
    WP prog w h₀ n Mod unitR env H (storeName env x val) ρ σ Q := fun A s ok S X hh => by
  have iv := hh _ m
  have other : ∀ (a : Addr) (h' : Heap), Mod a → Heap.SameBut a s.heap h' →
      (h' : Heap) = h' ∧ Pres (fun c => Dom σ c ∨ Mod c) s.heap h' ∧ SRel prog w h₀ σ h' ∧ TupKeep s.heap h' := fun a h' ha hs => by
    have p : Pres (fun c => Dom σ c ∨ Mod c) s.heap h' := Pres.same Pres.refl hs (.inl (.inr ha))
    have k : TupKeep s.heap h' := S.tupKeep p fun c d => d.imp id fun d => X.ownNoTup (hM c d)
    have ne : ∀ b o, h₀.get? b = some o → b ≠ a := fun b o e q => by
      subst q
      rcases hM _ ha with rfl | ⟨z, hz, rfl⟩
      · rw [X.nsoff.1] at e; cases e
      · rw [(X.cells z hz).2.1] at e; cases e
    have ne2 : ∀ b o, σ b = some o → b ≠ a := fun b o e q => by
      subst q
      rcases hM _ ha with rfl | ⟨z, hz, rfl⟩
      · rw [X.nsoff.2] at e; cases e
      · rw [(X.cells z hz).2.2.1] at e; cases e
    exact ⟨rfl, p, ⟨fun b o e => (hs.2 b (ne b o e)).trans (S.base b o e), trivial, fun b o e => (S.objs b o e).keep k fun ob eo => (hs.2 b (ne2 b o e)).trans eo, S.off⟩, k⟩
  rcases hk with ⟨hk, hml⟩ | ⟨hk, c, hc, hmc⟩
  · obtain ⟨m, hm⟩ := X.ns
    refine wpAny_storeName_local hk hm (fun h' hn hs => ?_) (by rw [X.kind]; rfl)
    obtain ⟨_, p, S', k⟩ := other env.locals h' hml hs
    refine ⟨h', _, (), (x, v) :: ρ, σ, rfl, p, S', ⟨X.kind, X.glob, X.bins, ⟨_, hn⟩, X.nsoff, fun z hz => ?_, X.apart, fun y u e => ?_⟩, fun _ d => .inl d, trivial, q⟩
    · obtain ⟨⟨cv, o, h1, h2⟩, r⟩ := X.cells z hz
      exact ⟨⟨cv, o, (hs.2 _ r.2.2).trans h1, h2⟩, r⟩
    · by_cases hy : y = x
      · subst hy
        rw [lookup_cons_self] at e; cases e
        exact ⟨val, .inl ⟨hk, _, hn, by simp⟩, iv.keep k⟩
      · have e' : ρ.lookup y = some u := by
          have hb : (y == x) = false := beq_eq_false_iff_ne.mpr hy
          simpa [List.lookup_cons, hb] using e
        obtain ⟨val', hv, hi⟩ := X.vars y u e'
        refine ⟨val', ?_, hi.keep k⟩
        rcases hv with ⟨hk', m', hn', hm'⟩ | ⟨hk', c, hc, o, ho, hd⟩
        · refine .inl ⟨hk', _, hn, ?_⟩
          simp only [if_neg hy]
          rw [ns_unique hm hn']; exact hm'
        · exact .inr ⟨hk', c, hc, o, (hs.2 _ (X.cells _ (mem_of_lookup hc)).2.2.2).trans ho, hd⟩
  · obtain ⟨⟨cv, hcv⟩, hc1, hc2, hc3⟩ := X.cells _ (mem_of_lookup hc)
    refine wpAny_storeName_cell X.kind hk hc hcv fun h' hn hs => ?_
    obtain ⟨_, p, S', k⟩ := other c h' hmc hs
    obtain ⟨m, hm⟩ := X.ns
    have hm' : h'.Ns env.locals m := hm.at' fun o e => (hs.2 _ (fun q => hc3 q.symm)).trans e
    refine ⟨h', s.toks, (), (x, v) :: ρ, σ, rfl, p, S', ⟨X.kind, X.glob, X.bins, ⟨_, hm'⟩, X.nsoff, fun z hz => ?_, X.apart, fun y u e => ?_⟩, fun _ d => .inl d, trivial, q⟩
    · obtain ⟨⟨zv, o, h1, h2⟩, r⟩ := X.cells z hz
      by_cases hz2 : z.2 = c
      · exact ⟨⟨_, hz2 ▸ hn⟩, r⟩
      · exact ⟨⟨zv, o, (hs.2 _ hz2).trans h1, h2⟩, r⟩
    · by_cases hy : y = x
      · subst hy
        rw [lookup_cons_self] at e; cases e
        exact ⟨val, .inr ⟨.inl hk, c, hc, hn⟩, iv.keep k⟩
      · have e' : ρ.lookup y = some u := by
          have hb : (y == x) = false := beq_eq_false_iff_ne.mpr hy
          simpa [List.lookup_cons, hb] using e
        obtain ⟨val', hv, hi⟩ := X.vars y u e'
        refine ⟨val', ?_, hi.keep k⟩
        rcases hv with ⟨hk', m', hn', hm2⟩ | ⟨hk', c', hc', o, ho, hd⟩
        · exact .inl ⟨hk', m', hn'.at' fun o e => (hs.2 _ (fun q => hc3 q.symm)).trans e, hm2⟩
        · refine .inr ⟨hk', c', hc', o, (hs.2 _ fun q => hy ?_).trans ho, hd⟩
          have h1 : (x, c) ∈ env.cells := PySem.mem_of_lookup hc
          have h2 : (y, c') ∈ env.cells := PySem.mem_of_lookup hc'
          by_cases h3 : ((y, c') : Str × Addr) = (x, c)
          · exact congrArg Prod.fst h3
          · exact absurd q (pairwise_ne X.apart h2 h1 h3)
theorem wp_store {x : Str} {val : Value} {v : PV} {Q : Unit → Loc → Store → Prop} (hk : env.kindOf x = some .local ∨ (env.kindOf x = some .cell ∧ ∃ c, env.cells.lookup x = some c)) (m : (val, v) ∈ H) (q : Q () ((x, v) :: ρ) σ) :
    WP prog w h₀ n (Own env) unitR env H (storeName env x val) ρ σ Q :=
  wp_storeM (ownMod env) (hk.imp (fun h => ⟨h, .inl rfl⟩) fun ⟨h, c, hc⟩ => ⟨h, c, hc, .inr ⟨_, PySem.mem_of_lookup hc, rfl⟩⟩) m q
end

end Mine.Internal
end

section
namespace Mine.Internal

noncomputable def Sub (ρ' ρ : Loc) : Prop := ∀ x v, ρ'.lookup x = some v → ρ.lookup x = some v
theorem Sub.refl (ρ : Loc) : Sub ρ ρ := fun _ _ e => e

section
variable {prog : Program} {w : World} {h₀ : Heap} {α β γ δ : Type} {n : Nat} {Mod : Addr → Prop} {R : Heap → α → β → Prop} {env : Env} {H : List (Value × PV)} {ρ : Loc} {σ : Store}

theorem firmStep {s : Shared} {h' : Heap} (S : SRel prog w h₀ σ s.heap) (X : ERel h₀ env ρ σ s.heap) (hh : Held H s.heap) (p : Pres NoMod s.heap h') :
    SRel prog w h₀ σ h' ∧ ERel h₀ env ρ σ h' ∧ Held H h' ∧ ∀ tk Mod, Stp Mod σ s σ { s with heap := h', toks := tk } := by
  have k : TupKeep s.heap h' := fun b items n' e => p.2 b _ (fun f => f) e
  exact ⟨⟨fun b ob e => p.2 b ob (fun f => f) (S.base b ob e), trivial, fun b o' e => (S.objs b o' e).keep k fun ob eo => p.2 b ob (fun f => f) eo, S.off⟩,
    X.step p k (fun f => f) (fun _ _ f => f) (fun _ d => .inl d), hh.keep k, fun tk Mod => ⟨⟨h', tk, rfl⟩, p.mono fun _ f => f.elim, fun _ d => .inl d⟩⟩

noncomputable def Stor (env : Env) (x : Str) : Prop := env.kindOf x = some .local ∨ (env.kindOf x = some .cell ∧ ∃ c, env.cells.lookup x = some c)
noncomputable def WT (prog : Program) (w : World) (h₀ : Heap) (n : Nat) (Mod : Addr → Prop) (env : Env) (target : Expr) (x : PV) (ρ : Loc) (σ : Store) (Q : Loc → Store → Prop) : Prop :=
  ∀ H v, (v, x) ∈ H → WP prog w h₀ n Mod unitR env H (assign target env v) ρ σ (fun _ ρ' σ' => Q ρ' σ')
theorem wt_name {x : Str} {p : Pos} {v : PV} {Q : Loc → Store → Prop} (hM : NoTup Mod env) (hk : StorM Mod env x) (q : Q ((x, v) :: ρ) σ) : WT prog w h₀ n Mod env (.Name x p) v ρ σ Q := fun H val m A s ok S X hh =>
  wpAny_assign_Name (wp_storeM hM hk m q A s ok S X hh)
theorem wt_pair {x y : Str} {p1 p2 pos : Pos} {k : Nat} {a b : PV} {Q : Loc → Store → Prop} (hM : NoTup Mod env) (hx : StorM Mod env x) (hy : StorM Mod env y) (q : Q ((y, b) :: (x, a) :: ρ) σ) :
    WT prog w h₀ n Mod env (.Tuple [.Name x p1, .Name y p2] k pos) (.tup [a, b]) ρ σ Q := fun H val m A s ok S X hh => by
  obtain ⟨t, kk, vs, rfl, it, i⟩ := held_tup hh m
  rw [PyProof.Rows.assign_Tuple]
  refine wpAny_bind (wpAny_standAt ?_)
  unfold unpack
  obtain ⟨va, vb, rfl, ia, ib⟩ := i.two
  show wpAny _ _ ((holding [.ref t] (unpackItems (.ref t) 2 none)) >>= fun items => assignInOrder [fun v => (do standAt p1; bindName env x v), fun v => (do standAt p2; bindName env y v)] items) _ _ _
  refine wpAny_bind (wpAny_holding (unpackItems_tuple (A := A) (t := t) (items := [va, vb].toArray) ok.handled ⟨_, it, rfl, _, rfl⟩ fun h' he => ?_))
  have p : Pres NoMod s.heap h' := ⟨trivial, fun c o _ e => he c o (fun q => by rw [q, fresh] at e; cases e) e⟩
  obtain ⟨S₁, X₁, hh₁, st⟩ := firmStep S X (H := (va, a) :: (vb, b) :: H) (fun z hz => by
    rcases List.mem_cons.mp hz with rfl | hz
    · exact ia
    · rcases List.mem_cons.mp hz with rfl | hz
      · exact ib
      · exact hh _ hz) p
  show wpAny _ _ (holding [vb] (do standAt p1; bindName env x va) >>= fun _ => (holding [] (do standAt p2; bindName env y vb) >>= fun _ => pure ())) _ _ _
  refine wpAny_bind (wpAny_holding (wpAny_bind (wpAny_standAt (wpAny_bindName ?_))))
  refine WP.go hM (wp_storeM hM (n := n) (Q := fun _ ρ' σ' => ρ' = (x, a) :: ρ ∧ σ' = σ) hx (.head _) ⟨rfl, rfl⟩) (s := { s with heap := h' }) ok S₁ X₁ hh₁ fun _ s₂ _ ρ₂ σ₂ st₂ S₂ X₂ hh₂ _ q₂ => ?_
  obtain ⟨rfl, rfl⟩ := q₂
  refine wpAny_bind (wpAny_holding (wpAny_bind (wpAny_standAt (wpAny_bindName ?_))))
  refine WP.go hM (wp_storeM hM (n := n) (Q := fun _ ρ' σ' => Q ρ' σ') hy (.tail _ (.head _)) q) ok S₂ X₂ hh₂ fun u s₃ _ ρ₃ σ₃ st₃ S₃ X₃ hh₃ _ q₃ => ?_
  exact wpAny_pure (Post.of (b := ()) (((st s.toks Mod).andThen hM st₂ X₁).andThen hM st₃ X₂) S₃ X₃ trivial q₃)

theorem Stor.own {x : Str} (h : Stor env x) : StorM (Own env) env x := h.imp (fun h => ⟨h, .inl rfl⟩) fun ⟨h, c, hc⟩ => ⟨h, c, hc, .inr ⟨_, PySem.mem_of_lookup hc, rfl⟩⟩
variable {Q : PFlow → Loc → Store → Prop}
theorem ws_nil (q : Q .next ρ σ) : WS prog w h₀ n env (execs [] env) ρ σ Q := fun A s ok S X hh => wpAny_execs_nil (Post.here S X .next q)
theorem ws_cons {st : Stmt} {rest : List Stmt} (h : WS prog w h₀ n env (exec st env) ρ σ fun f ρ₁ σ₁ => match f with | .next => WS prog w h₀ n env (execs rest env) ρ₁ σ₁ Q | f => Q f ρ₁ σ₁) :
    WS prog w h₀ n env (execs (st :: rest) env) ρ σ Q := fun A s ok S X hh => wpAny_execs_cons (WP.go (ownMod env) h ok S X hh fun f s₁ b ρ₁ σ₁ st S₁ X₁ hh₁ r q => by
  cases r with
  | next => exact wpAny_mono (q A s₁ ok S₁ X₁ hh₁) (fun v s₂ x => by
      obtain ⟨b, ρ₂, σ₂, st₂, S₂, X₂, r₂, q₂⟩ := x.stp
      exact Post.of (st.andThen (ownMod env) st₂ X₁) S₂ X₂ r₂ q₂) fun _ _ e => e
  | brk => exact Post.of st S₁ X₁ .brk q
  | cont => exact Post.of st S₁ X₁ .cont q
  | ret i => exact Post.of st S₁ X₁ (.ret i) q)
theorem WE.before {m : Sem α} {QE : β → Store → Prop} (h : WE prog w h₀ n R env H m ρ σ QE) {A : Around} {s : Shared} (ok : Ok n A) (S : SRel prog w h₀ σ s.heap) (X : ERel h₀ env ρ σ s.heap) (hh : Held H s.heap)
    {Q₂ : α → Shared → Prop} {E : Value → Shared → Prop} (hq : ∀ v s₁ b σ₁, Stp NoMod σ s σ₁ s₁ → SRel prog w h₀ σ₁ s₁.heap → ERel h₀ env ρ σ₁ s₁.heap → Held H s₁.heap → R s₁.heap v b → QE b σ₁ → Q₂ v s₁) : wpAny (model prog w) A m Q₂ E s :=
  WP.go (noMod env) h ok S X hh fun v s₁ b ρ₁ σ₁ st S₁ X₁ hh₁ r q => by obtain ⟨rfl, q⟩ := q; exact hq v s₁ b σ₁ st S₁ X₁ hh₁ r q
theorem Stp.own {s s₁ : Shared} {σ₁ : Store} (x : Stp NoMod σ s σ₁ s₁) : Stp (Own env) σ s σ₁ s₁ := x.mono fun _ f => f.elim
theorem Post.after {R' : Heap → γ → δ → Prop} {Q' : δ → Loc → Store → Prop} {t : Sem γ} {s s₁ : Shared} {σ₁ : Store} {ρ₁ : Loc} {A : Around} (st : Stp (Own env) σ s σ₁ s₁) (S₁ : SRel prog w h₀ σ₁ s₁.heap) (X₁ : ERel h₀ env ρ₁ σ₁ s₁.heap) (hh₁ : Held H s₁.heap) (ok : Ok n A)
    (q : WP prog w h₀ n (Own env) R' env H t ρ₁ σ₁ Q') {E : Value → Shared → Prop} : wpAny (model prog w) A t (Post prog w h₀ (Own env) R' env σ s Q') E s₁ :=
  wpAny_mono (q A s₁ ok S₁ X₁ hh₁) (fun v s₂ x => by
      obtain ⟨b, ρ₂, σ₂, st₂, S₂, X₂, r₂, q₂⟩ := x.stp
      exact Post.of (st.andThen (ownMod env) st₂ X₁) S₂ X₂ r₂ q₂) fun _ _ e => e.elim

theorem ws_assign {x : Str} {pos' pos : Pos} {value : Expr} (hk : Stor env x) (h : WV prog w h₀ n env [] (eval value env) ρ σ fun v σ₁ => Q .next ((x, v) :: ρ) σ₁)
    (hs : autoParam (swapsWith value (some (.Name x pos')) pos.line env = pure false) Mine.Internal.au2) : WS prog w h₀ n env (exec (.Assign [.Name x pos'] value pos) env) ρ σ Q := fun A s ok S X hh =>
  wpAny_Assign_Name (WP.go (noMod env) h ok S X hh fun v s₁ b ρ₁ σ₁ st S₁ X₁ hh₁ r q => by
    obtain ⟨rfl, q⟩ := q
    refine WP.go (ownMod env) (wp_store (n := n) (H := [(v, b)]) (Q := fun _ ρ' σ' => Q .next ρ' σ') hk (.head _) q) ok S₁ X₁ (hh₁.cons r) fun u s₂ c ρ₂ σ₂ st₂ S₂ X₂ hh₂ _ q₂ => ?_
    exact Post.of ((Stp.own st).andThen (ownMod env) st₂ X₁) S₂ X₂ .next q₂) hs
theorem ws_expr {e : Expr} {pos : Pos} (h : WV prog w h₀ n env [] (eval e env) ρ σ fun v σ₁ => v = .none ∧ Q .next ρ σ₁)
    (hi : autoParam (interactive env = false) Mine.Internal.au2) (hs : autoParam (swapsWith e none pos.line env = pure false) Mine.Internal.au2) : WS prog w h₀ n env (exec (.Expr e pos) env) ρ σ Q := fun A s ok S X hh =>
  wpAny_Expr (WP.go (noMod env) h ok S X hh fun v s₁ b ρ₁ σ₁ st S₁ X₁ hh₁ r q => by
    obtain ⟨rfl, rfl, q⟩ := q
    cases r
    exact Post.of (Stp.own st) S₁ X₁ .next q) hi hs
theorem ws_return {e : Expr} {pos : Pos} (h : WV prog w h₀ n env [] (eval e env) ρ σ fun v σ₁ => Q (.ret v) ρ σ₁) : WS prog w h₀ n env (exec (.Return (some e) pos) env) ρ σ Q := fun A s ok S X hh =>
  wpAny_Return_some (WP.go (noMod env) h ok S X hh fun v s₁ b ρ₁ σ₁ st S₁ X₁ hh₁ r q => by
    obtain ⟨rfl, q⟩ := q
    exact Post.of (Stp.own st) S₁ X₁ (.ret r) q)
theorem ws_if {test : Expr} {body orelse : List Stmt} {pos : Pos} (h : WB prog w h₀ n env [] (isTrue test env (eval test env)) ρ σ fun b σ₁ => if b then WS prog w h₀ n env (execs body env) ρ σ₁ Q else WS prog w h₀ n env (execs orelse env) ρ σ₁ Q) :
    WS prog w h₀ n env (exec (.If test body orelse pos) env) ρ σ Q := fun A s ok S X hh =>
  wpAny_If (WP.go (noMod env) h ok S X hh fun v s₁ b ρ₁ σ₁ st S₁ X₁ hh₁ r q => by
    obtain ⟨rfl, q⟩ := q
    subst r
    cases v
    · exact Post.after (Stp.own st) S₁ X₁ hh₁ ok q
    · exact Post.after (Stp.own st) S₁ X₁ hh₁ ok q)
theorem ws_iadd {x : Str} {pos' pos : Pos} {value : Expr} {i : Int} (hk : Stor env x) (e : ρ.lookup x = some (.int i)) (h : WV prog w h₀ n env [] (eval value env) ρ σ fun v σ₁ => ∃ j, v = .int j ∧ Q .next ((x, .int (i + j)) :: ρ) σ₁)
    (hc : autoParam ((x == ("__classdict__" : Str)) = false) Mine.Internal.au0) : WS prog w h₀ n env (exec (.AugAssign (.Name x pos') .Add value pos) env) ρ σ Q := fun A s ok S X hh =>
  wpAny_AugAssign_Name (WP.go (noMod env) (wv_loadName (prog := prog) (w := w) (h₀ := h₀) (n := n) (env := env) (H := []) (Q := fun v σ' => v = .int i ∧ σ' = σ) e ⟨rfl, rfl⟩ hc) ok S X hh fun v s₁ b ρ₁ σ₁ st S₁ X₁ hh₁ r q => by
    obtain ⟨rfl, rfl, rfl⟩ := q
    cases r
    refine WP.go (noMod env) h ok S₁ X₁ hh₁ fun v₂ s₂ b₂ ρ₂ σ₂ st₂ S₂ X₂ hh₂ r₂ q₂ => ?_
    obtain ⟨rfl, j, rfl, q⟩ := q₂
    cases r₂
    refine PyProof.Rows.iadd_int ?_
    refine WP.go (ownMod env) (wp_store (n := n) (H := [(.int (i + j) s₂.toks, .int (i + j))]) (Q := fun _ ρ' σ' => Q .next ρ' σ') hk (.head _) q) (s := { s₂ with toks := s₂.toks + 1 }) ok S₂ X₂ (hh₂.cons (.int _ _)) fun u s₃ c ρ₃ σ₃ st₃ S₃ X₃ hh₃ _ q₃ => ?_
    have st2' : Stp NoMod σ₁ s₁ σ₂ { s₂ with toks := s₂.toks + 1 } := by
      obtain ⟨⟨h, tk, e⟩, p, sub⟩ := st₂
      exact ⟨⟨s₂.heap, s₂.toks + 1, by rw [e]⟩, p, sub⟩
    exact Post.of (((Stp.own st).andThen (ownMod env) (Stp.own st2') X₁).andThen (ownMod env) st₃ X₂) S₃ X₃ .next q₃)

theorem Stp.tok {s s₁ : Shared} {σ₁ : Store} (x : Stp Mod σ s σ₁ s₁) (tk : Nat) : Stp Mod σ s σ₁ { s₁ with toks := tk } := by
  obtain ⟨⟨h, tk', e⟩, p, sub⟩ := x
  exact ⟨⟨s₁.heap, tk, by rw [e]⟩, p, sub⟩
theorem ws_set {o i value : Expr} {pos' pos : Pos} (h : WV prog w h₀ n env [] (eval value env) ρ σ fun v σ₁ => WV prog w h₀ n env [] (eval o env) ρ σ₁ fun x σ₂ => WV prog w h₀ n env [] (eval i env) ρ σ₂ fun k σ₃ => LSet prog w h₀ x k v σ₃ fun σ₄ => Q .next ρ σ₄)
    (hs : autoParam (swapsWith value (some (.Subscript o i pos')) pos.line env = pure false) Mine.Internal.au2) : WS prog w h₀ n env (exec (.Assign [.Subscript o i pos'] value pos) env) ρ σ Q := fun A s ok S X hh =>
  wpAny_Assign_Subscript (WE.before h ok S X hh fun v s₁ b σ₁ st₁ S₁ X₁ hh₁ r₁ q₁ =>
    WE.before (WE.more (H := [(v, b)]) q₁) ok S₁ X₁ (hh₁.cons r₁) fun v2 s₂ b2 σ₂ st₂ S₂ X₂ hh₂ r₂ q₂ =>
    WE.before (WE.more (H := [(v2, b2), (v, b)]) q₂) ok S₂ X₂ (hh₂.cons r₂) fun v3 s₃ b3 σ₃ st₃ S₃ X₃ hh₃ r₃ q₃ =>
    WE.before (q₃ n env ρ [(v3, b3), (v2, b2), (v, b)] v2 v3 v (.tail _ (.head _)) (.head _) (.tail _ (.tail _ (.head _)))) ok S₃ X₃ (hh₃.cons r₃) fun u s₄ b4 σ₄ st₄ S₄ X₄ hh₄ r₄ q₄ =>
    Post.of (Stp.own (((st₁.andThen (noMod env) st₂ X₁).andThen (noMod env) st₃ X₂).andThen (noMod env) st₄ X₃)) S₄ X₄ .next q₄) hs
theorem ws_iadd_sub {o i value : Expr} {pos' pos : Pos} (h : WV prog w h₀ n env [] (eval o env) ρ σ fun x σ₁ => WV prog w h₀ n env [] (eval i env) ρ σ₁ fun k σ₂ => ∃ a, LGet prog w h₀ x k σ₂ (.int a) ∧
      WV prog w h₀ n env [] (eval value env) ρ σ₂ fun v σ₃ => ∃ b, v = .int b ∧ LSet prog w h₀ x k (.int (a + b)) σ₃ fun σ₄ => Q .next ρ σ₄)
    (ha : ∀ ov iv new, augStore i ov iv new = (do holding [new, ov, iv] (setItem ov iv new); release [new, ov, iv] []; pure .next) := by intro _ _ _; rfl) :
    WS prog w h₀ n env (exec (.AugAssign (.Subscript o i pos') .Add value pos) env) ρ σ Q := fun A s ok S X hh =>
  wpAny_AugAssign_Subscript_any (WE.before h ok S X hh fun ov s₁ b σ₁ st₁ S₁ X₁ hh₁ r₁ q₁ =>
    WE.before (WE.more (H := [(ov, b)]) q₁) ok S₁ X₁ (hh₁.cons r₁) fun iv s₂ k σ₂ st₂ S₂ X₂ hh₂ r₂ q₂ => by
    obtain ⟨a, hg, q₂⟩ := q₂
    refine wpAny_mono (E := fun _ _ => False) (hg A s₂ ov iv (fun v s' => ∃ tk, s' = { s₂ with toks := tk } ∧ Is s₂.heap v (.int a)) (ok.mono (Nat.zero_le _)) S₂ (hh₂ _ (.head _)) r₂ fun v tk r => ⟨tk, rfl, r⟩).2 (fun old s' hx => ?_) fun _ _ e => e.elim
    obtain ⟨tk, rfl, ro⟩ := hx
    cases ro
    refine WE.before (WE.more (H := [(iv, k), (ov, b)]) q₂) (s := { s₂ with toks := tk }) ok S₂ X₂ (hh₂.cons r₂) fun v s₃ c σ₃ st₃ S₃ X₃ hh₃ r₃ q₃ => ?_
    obtain ⟨j, rfl, q₃⟩ := q₃
    cases r₃
    refine PyProof.Rows.iadd_int ?_
    refine WE.before (q₃ n env ρ [(.int (a + j) s₃.toks, .int (a + j)), (iv, k), (ov, b)] ov iv (.int (a + j) s₃.toks) (.tail _ (.tail _ (.head _))) (.tail _ (.head _)) (.head _)) (s := { s₃ with toks := s₃.toks + 1 }) ok S₃ X₃ (hh₃.cons (.int _ _)) fun u s₄ b4 σ₄ st₄ S₄ X₄ hh₄ r₄ q₄ => ?_
    exact Post.of (Stp.own (((st₁.andThen (noMod env) (st₂.tok tk) X₁).andThen (noMod env) (st₃.tok (s₃.toks + 1)) X₂).andThen (noMod env) st₄ X₃)) S₄ X₄ .next q₄) ha

theorem ws_while {test : Expr} {body : List Stmt} {pos : Pos} (Inv : Nat → Loc → Store → Prop) (N : Nat) (h0 : Inv N ρ σ)
    (h : ∀ k ρ' σ', Inv k ρ' σ' → WB prog w h₀ n env [] (isTrue test env (eval test env)) ρ' σ' fun b σ₂ => if b then WS prog w h₀ n env (execs body env) ρ' σ₂ fun f ρ₃ σ₃ => match f with
        | .next | .cont => ∃ m ρ₄, m < k ∧ Sub ρ₄ ρ₃ ∧ Inv m ρ₄ σ₃
        | .brk => Q .next ρ₃ σ₃
        | .ret v => Q (.ret v) ρ₃ σ₃
      else Q .next ρ' σ₂) :
    WS prog w h₀ n env (exec (.While test body [] pos) env) ρ σ Q := fun A s ok S X hh => by
  refine wpAny_While (codeAny_whileLoop (fun k s' => ∃ ρ' σ', Stp (Own env) σ s σ' s' ∧ SRel prog w h₀ σ' s'.heap ∧ ERel h₀ env ρ' σ' s'.heap ∧ Inv k ρ' σ') ?_ N ⟨ρ, σ, .refl, S, X, h0⟩)
  rintro k s' ⟨ρ', σ', st, S', X', inv⟩
  refine WE.before (h k ρ' σ' inv) ok S' X' (H := []) (fun _ hp => by cases hp) fun v s₂ b σ₂ st₂ S₂ X₂ hh₂ r q => ?_
  subst r
  have st12 := st.andThen (ownMod env) (Stp.own st₂) X'
  cases v
  · exact wpAny_execs_nil (Post.of st12 S₂ X₂ .next q)
  · refine WP.go (ownMod env) q ok S₂ X₂ hh₂ fun f s₃ b ρ₃ σ₃ st₃ S₃ X₃ hh₃ r q => ?_
    have st13 := st12.andThen (ownMod env) st₃ X₂
    cases r with
    | next => obtain ⟨m, ρ₄, hm, hs, inv'⟩ := q; exact ⟨m, hm, ρ₄, σ₃, st13, S₃, X₃.forget hs, inv'⟩
    | cont => obtain ⟨m, ρ₄, hm, hs, inv'⟩ := q; exact ⟨m, hm, ρ₄, σ₃, st13, S₃, X₃.forget hs, inv'⟩
    | brk => exact Post.of st13 S₃ X₃ .next q
    | ret i => exact Post.of st13 S₃ X₃ (.ret i) q
end

end Mine.Internal
end

section
namespace Mine.Internal

structure ItOk (prog : Program) (w : World) (h₀ : Heap) (target : Expr) (it : Value) (own : Addr → Prop) (K : Nat → Heap → Prop) (Md : Nat → Value → Heap → Prop) (elem : Store → Nat → Option PV) (good : Store → Prop) : Prop where
  keep : ∀ i h h', K i h → (∀ a o, own a → h.get? a = some o → h'.get? a = some o) → K i h'
  live : ∀ i h a, K i h → own a → ∃ o, h.get? a = some o ∧ o.cls ≠ .type "tuple"
  item : ∀ i σ A s (Q : Option Value → Shared → Prop) x, good σ → Ok 0 A → SRel prog w h₀ σ s.heap → K i s.heap → elem σ i = some x →
    (∀ v h' tk, Pres own s.heap h' → Md i v h' → (TupKeep s.heap h' → Is h' v x) → Q (some v) { s with heap := h', toks := tk }) → wpAny (model prog w) A (pyNext it) Q (fun _ _ => False) s
  done : ∀ i σ A s (Q : Option Value → Shared → Prop), good σ → Ok 0 A → SRel prog w h₀ σ s.heap → K i s.heap → elem σ i = none →
    (∀ h' tk, Pres own s.heap h' → Q none { s with heap := h', toks := tk }) → wpAny (model prog w) A (pyNext it) Q (fun _ _ => False) s
  go : ∀ i v A s (Q : Unit → Shared → Prop), Md i v s.heap → (∀ h', K (i + 1) h' → Pres own s.heap h' → Q () { s with heap := h' }) → wpAny (model prog w) A (letOwnedTupleGo target it v) Q (fun _ _ => False) s
  midlive : ∀ i v h a, Md i v h → own a → ∃ o, h.get? a = some o ∧ o.cls ≠ .type "tuple"
  self : ∀ i A s (Q : Value → Shared → Prop), K i s.heap → Q it s → wpAny (model prog w) A (pyIter it) Q (fun _ _ => False) s

section
variable {prog : Program} {w : World} {h₀ : Heap} {α β γ δ : Type} {n : Nat} {Mod : Addr → Prop} {R : Heap → α → β → Prop} {env : Env} {H : List (Value × PV)} {ρ : Loc} {σ : Store}

structure Apart (h₀ : Heap) (env : Env) (own : Addr → Prop) (σ : Store) : Prop where
  old : ∀ a, own a → h₀.get? a = none
  free : ∀ a, own a → σ a = none
  frame : ∀ a, own a → ¬ Own env a
noncomputable def Elems := Store → Nat → Option PV
noncomputable def WIter (prog : Program) (w : World) (h₀ : Heap) (n : Nat) (env : Env) (target e : Expr) (ρ : Loc) (σ : Store) (Q : Elems → (Store → Prop) → Store → Prop) : Prop :=
  ∀ A s (Q' : Value → Shared → Prop), Ok n A → SRel prog w h₀ σ s.heap → ERel h₀ env ρ σ s.heap →
    (∀ it s₁ σ₁ own K Md elem good, Stp NoMod σ s σ₁ s₁ → SRel prog w h₀ σ₁ s₁.heap → ERel h₀ env ρ σ₁ s₁.heap → ItOk prog w h₀ target it own K Md elem good → K 0 s₁.heap →
      (∀ a, own a → s.heap.get? a = none ∨ Dom σ a) → Apart h₀ env own σ₁ → Q elem good σ₁ → Q' it s₁) →
    wpAny (model prog w) A (eval e env) (fun x s₁ => wpAny (model prog w) A (pyIter x) Q' (fun _ _ => False) s₁) (fun _ _ => False) s

theorem ownStep {own : Addr → Prop} {s : Shared} {h' : Heap} (S : SRel prog w h₀ σ s.heap) (X : ERel h₀ env ρ σ s.heap) (hh : Held H s.heap) (ap : Apart h₀ env own σ) (live : ∀ a, own a → ∃ o, s.heap.get? a = some o ∧ o.cls ≠ .type "tuple") (p : Pres own s.heap h') :
    SRel prog w h₀ σ h' ∧ ERel h₀ env ρ σ h' ∧ Held H h' ∧ TupKeep s.heap h' ∧ ∀ tk, Stp own σ s σ { s with heap := h', toks := tk } := by
  have k : TupKeep s.heap h' := S.tupKeep p fun a d => .inr fun items m e => by
    obtain ⟨o, e1, e2⟩ := live a d
    rw [e] at e1; cases e1; exact e2 rfl
  refine ⟨⟨fun b ob e => p.2 b ob (fun f => by have := ap.old b f; rw [this] at e; cases e) (S.base b ob e), trivial, fun b o' e => (S.objs b o' e).keep k fun ob eo => p.2 b ob (fun f => by rw [ap.free b f] at e; cases e) eo, S.off⟩,
    X.step p k (fun f => ap.frame _ f (.inl rfl)) (fun q hq f => ap.frame _ f (.inr ⟨q, hq, rfl⟩)) (fun _ d => .inl d), hh.keep k, k, fun tk => ⟨⟨h', tk, rfl⟩, p.mono fun _ f => .inr f, fun _ d => .inl d⟩⟩

theorem Stp.join {Mod own : Addr → Prop} {σ σ₁ σ' : Store} {s s₁ s' : Shared} (x : Stp NoMod σ s σ₁ s₁) (y : Stp (fun a => Mod a ∨ own a) σ₁ s₁ σ' s') (fr : ∀ a, own a → s.heap.get? a = none ∨ Dom σ a) : Stp Mod σ s σ' s' := by
  refine ⟨?_, ⟨trivial, fun a o na ea => y.pres.2 a o (fun d => ?_) (x.pres.2 a o (fun d => d.elim (fun d => na (.inl d)) id) ea)⟩, fun a d => ?_⟩
  · obtain ⟨h1, tk1, e1⟩ := x.eq
    obtain ⟨h2, tk2, e2⟩ := y.eq
    exact ⟨h2, tk2, by rw [e2, e1]⟩
  · rcases d with d | d | d
    · rcases x.sub a d with d | d
      · exact na (.inl d)
      · rw [d] at ea; cases ea
    · exact na (.inr d)
    · rcases fr a d with e | e
      · rw [e] at ea; cases ea
      · exact na (.inl e)
  · rcases y.sub a d with d | d
    · exact x.sub a d
    · cases q2 : s.heap.get? a with
      | none => exact .inr rfl
      | some o =>
        by_cases hd : Dom σ a
        · exact .inl hd
        · have := x.pres.2 a o (fun h => h.elim hd id) q2
          rw [d] at this; cases this
theorem ws_for {target iter : Expr} {body : List Stmt} {pos : Pos} {Q : PFlow → Loc → Store → Prop}
    (h : WIter prog w h₀ n env target iter ρ σ fun elem good σ₁ => ∃ (Inv : Nat → Loc → Store → Prop) (N : Nat), Inv 0 ρ σ₁ ∧ ∀ i ρ' σ', Inv i ρ' σ' → good σ' ∧ match elem σ' i with
      | none => Q .next ρ' σ'
      | some x => i < N ∧ WT prog w h₀ n (Own env) env target x ρ' σ' fun ρ₂ σ₂ => WS prog w h₀ n env (execs body env) ρ₂ σ₂ fun f ρ₃ σ₃ => match f with
        | .next | .cont => ∃ ρ₄, Sub ρ₄ ρ₃ ∧ Inv (i + 1) ρ₄ σ₃
        | .brk => Q .next ρ₃ σ₃
        | .ret v => Q (.ret v) ρ₃ σ₃)
    (hs : autoParam (∀ x, foldedSetIterable iter env x = pure x) Mine.Internal.au4) :
    WS prog w h₀ n env (exec (.For target iter body [] pos) env) ρ σ Q := fun A s ok S X hh => by
  refine wpAny_For (h A s _ ok S X fun it s₁ σ₁ own K Md elem good st₁ S₁ X₁ io k0 fr ap q => ?_) hs
  obtain ⟨Inv, N, i0, hstep⟩ := q
  have fin : ∀ {ρ' : Loc} {σ' : Store} {s' : Shared} {R : Flow} {b : PFlow}, Stp (fun a => Own env a ∨ own a) σ₁ s₁ σ' s' → SRel prog w h₀ σ' s'.heap → ERel h₀ env ρ' σ' s'.heap → FlowIs s'.heap R b → Q b ρ' σ' → Post prog w h₀ (Own env) FlowIs env σ s Q R s' :=
    fun st S' X' r q => Post.of (st₁.join st fr) S' X' r q
  have al : ∀ {i : Nat} {ρ' : Loc} {σ' : Store} {s' : Shared}, K i s'.heap → ERel h₀ env ρ' σ' s'.heap → ∀ a o, (Own env a ∨ own a) → s₁.heap.get? a = some o → ∃ o, s'.heap.get? a = some o := fun hk X' a o ha _ => by
    rcases ha with ha | ha
    · exact X'.alive ha
    · obtain ⟨o, e, _⟩ := io.live _ _ a hk ha; exact ⟨o, e⟩
  refine codeAny_forLoop_any (I := fun k s' => ∃ i ρ' σ', k = N - i ∧ Stp (fun a => Own env a ∨ own a) σ₁ s₁ σ' s' ∧ SRel prog w h₀ σ' s'.heap ∧ ERel h₀ env ρ' σ' s'.heap ∧ K i s'.heap ∧ Apart h₀ env own σ' ∧ Inv i ρ' σ') ?_ _ ⟨0, ρ, σ₁, rfl, .refl, S₁, X₁, k0, ap, i0⟩
  rintro k s' ⟨i, ρ', σ', rfl, st, S', X', kk, ap', inv⟩
  obtain ⟨hg, hm⟩ := hstep i ρ' σ' inv
  have stp_own : ∀ {h' : Heap} {tk : Nat} {σ' : Store} {s' : Shared}, Stp own σ' s' σ' { s' with heap := h', toks := tk } → Stp (fun a => Own env a ∨ own a) σ' s' σ' { s' with heap := h', toks := tk } := fun x => x.mono fun _ f => .inr f
  cases he : elem σ' i with
  | none =>
    rw [he] at hm
    refine wpAny_mono (E := fun _ _ => False) (io.done i σ' A s' _ hg (ok.mono (Nat.zero_le _)) S' kk he fun h' tk p => ?_) (fun _ _ x => x) fun _ _ e => e.elim
    obtain ⟨S₂, X₂, _, _, st₂⟩ := ownStep S' X' (H := []) (fun _ hp => by cases hp) ap' (fun a ha => io.live i _ a kk ha) p
    exact wpAny_execs_nil (fin (st.trans (stp_own (st₂ tk)) (al kk X')) S₂ X₂ .next hm)
  | some x =>
    rw [he] at hm
    obtain ⟨hN, hm⟩ := hm
    refine wpAny_mono (E := fun _ _ => False) (io.item i σ' A s' _ x hg (ok.mono (Nat.zero_le _)) S' kk he fun v h' tk p md iv => ?_) (fun _ _ x => x) fun _ _ e => e.elim
    obtain ⟨S₂, X₂, _, k₂, st₂⟩ := ownStep S' X' (H := []) (fun _ hp => by cases hp) ap' (fun a ha => io.live i _ a kk ha) p
    have iv := iv k₂
    refine wpAny_mono (E := fun _ _ => False) (io.go i v A { s' with heap := h', toks := tk } _ md fun h3 k3 p3 => ?_) (fun _ _ x => x) fun _ _ e => e.elim
    obtain ⟨S₃, X₃, hh₃, k₃, st₃⟩ := ownStep (s := { s' with heap := h', toks := tk }) S₂ X₂ (H := [(v, x)]) (fun _ hp => by rw [List.mem_singleton.mp hp]; exact iv) ap' (fun a ha => io.midlive i v _ a md ha) p3
    have alm : ∀ a o, (Own env a ∨ own a) → s₁.heap.get? a = some o → ∃ o, h'.get? a = some o := fun a o ha _ => by
      rcases ha with ha | ha
      · exact X₂.alive ha
      · obtain ⟨o, e, _⟩ := io.midlive _ _ _ a md ha; exact ⟨o, e⟩
    have st13 := (st.trans (stp_own (st₂ tk)) (al kk X')).trans (stp_own (st₃ tk)) alm
    refine WP.go (ownMod env) (hm [(v, x)] v (.head _)) (s := { s' with heap := h3, toks := tk }) ok S₃ X₃ hh₃ fun u s₄ _ ρ₄ σ₄ st₄ S₄ X₄ hh₄ _ q₄ => ?_
    have kp : ∀ {s s' : Shared} {σ σ' : Store} {i : Nat}, Apart h₀ env own σ → Stp (Own env) σ s σ' s' → K i s.heap → K i s'.heap ∧ Apart h₀ env own σ' := fun {s s' σ σ' i} ap st kk => by
      refine ⟨io.keep i _ _ kk fun a o ha e => st.pres.2 a o (fun d => ?_) e, ap.old, fun a ha => ?_, ap.frame⟩
      · rcases d with ⟨o', e'⟩ | d
        · rw [ap.free a ha] at e'; cases e'
        · exact ap.frame a ha d
      · cases e : σ' a with
        | none => rfl
        | some o =>
          rcases st.sub a ⟨o, e⟩ with ⟨o', e'⟩ | e'
          · rw [ap.free a ha] at e'; cases e'
          · obtain ⟨ob, e2, _⟩ := io.live i _ a kk ha
            rw [e2] at e'; cases e'
    obtain ⟨k4, ap4⟩ := kp ap' st₄ k3
    have st14 := st13.trans (st₄.mono fun _ f => .inl f) (al k3 X₃)
    refine WP.go (ownMod env) q₄ ok S₄ X₄ (fun _ hp => by cases hp) fun f s₅ b ρ₅ σ₅ st₅ S₅ X₅ hh₅ r q₅ => ?_
    obtain ⟨k5, ap5⟩ := kp ap4 st₅ k4
    have st15 := st14.trans (st₅.mono fun _ f => .inl f) (al k4 X₄)
    cases r with
    | next => obtain ⟨ρ₆, hs, inv'⟩ := q₅; exact ⟨_, by omega, i + 1, ρ₆, σ₅, rfl, st15, S₅, X₅.forget hs, k5, ap5, inv'⟩
    | cont => obtain ⟨ρ₆, hs, inv'⟩ := q₅; exact ⟨_, by omega, i + 1, ρ₆, σ₅, rfl, st15, S₅, X₅.forget hs, k5, ap5, inv'⟩
    | brk => exact fin st15 S₅ X₅ .next q₅
    | ret iv => exact fin st15 S₅ X₅ (.ret iv) q₅
end

end Mine.Internal
end

section
namespace Mine.Internal

noncomputable def compIfs (ifs : List Expr) (env : Env) : Sem Bool := forIn ifs true fun c r => if r = true then do let ok ← isTrue c env (eval c env); pure (ForInStep.yield ok) else pure (ForInStep.yield r)
noncomputable def compIn (elt : Expr) (gens : List Comprehension) (scope : Scope) (pos : Pos) (d : Nat) (acc : Value) (env : Env) : Sem Unit :=
  match gens[d + 1]? with
  | some g' => do
        let x ← eval g'.iter env
        standAt g'.iter.pos
        let x ← foldedSetIterable g'.iter env x
        let it ← holding [x] (pyIter x)
        let _ ← runOwn (.compStart (.ListComp elt gens scope pos) (d + 1) it acc env) env
  | none => do let _ ← call (.builtin "list.append") [acc, ← eval elt env]
theorem compTurn_eq (elt : Expr) (gens : List Comprehension) (scope : Scope) (pos : Pos) (d : Nat) (it acc : Value) (env : Env) (target iter : Expr) (ifs : List Expr) (hg : gens[d]? = some ⟨target, iter, ifs, 0⟩) (ha : ∀ g ∈ gens, g.is_async = 0) :
    compTurn (.ListComp elt gens scope pos) d it acc env = (standAt iter.pos >>= fun _ => pyNext it >>= fun r => match r with
      | none => pure (.done .next)
      | some v => letOwnedTupleGo target it v >>= fun _ => assign target env v >>= fun _ => compIfs ifs env >>= fun ok =>
        (if ok then compIn elt gens scope pos d acc env else pure ()) >>= fun _ => again (.compLoop (.ListComp elt gens scope pos) d it acc env)) := by
  unfold compTurn
  simp only [hg]
  show (standAt iter.pos >>= fun _ => pyNext it >>= fun r => _) = _
  congr 1; funext _; congr 1; funext r
  cases r with
  | none => rfl
  | some v =>
    dsimp only
    congr 1; funext _; congr 1; funext _
    unfold compIfs compIn
    congr 1
    funext ok
    cases ok
    · rfl
    · simp only [if_true]
      cases q : gens[d+1]? with
      | none => simp
      | some g' => 
        have := ha g' (List.mem_of_getElem? q)
        simp [this]

theorem compTurn_eq2 (elt : Expr) (gens : List Comprehension) (scope : Scope) (pos : Pos) (d : Nat) (it acc : Value) (env : Env) (target iter : Expr) (ifs : List Expr) (hg : gens[d]? = some ⟨target, iter, ifs, 0⟩) (ha : ∀ g ∈ gens, g.is_async = 0) :
    compTurn (.ListComp elt gens scope pos) d it acc env = (standAt iter.pos >>= fun _ => pyNext it >>= fun r => match r with
      | none => pure (.done .next)
      | some v => letOwnedTupleGo target it v >>= fun _ => assign target env v >>= fun _ => (compIfs ifs env >>= fun ok =>
        if ok then compIn elt gens scope pos d acc env else pure ()) >>= fun _ => again (.compLoop (.ListComp elt gens scope pos) d it acc env)) := by
  rw [compTurn_eq _ _ _ _ _ _ _ _ _ _ _ hg ha]
  congr 1; funext _; congr 1; funext r
  cases r with
  | none => rfl
  | some v => simp only [bind_assoc]
section
variable {prog : Program} {w : World} {A : Around} {R : Result → Shared → Prop} {s : Shared}
theorem comp_loop {elt target iter : Expr} {ifs : List Expr} {gens : List Comprehension} {scope : Scope} {pos : Pos} {d : Nat} {it acc : Value} {env : Env} (hg : gens[d]? = some ⟨target, iter, ifs, 0⟩) (ha : ∀ g ∈ gens, g.is_async = 0) (I : Nat → Shared → Prop)
    (turn : ∀ k s, I k s → wpAny (model prog w) A (pyNext it) (fun r s₁ => match r with
      | none => R (.ok .next) s₁
      | some v => wpAny (model prog w) A (letOwnedTupleGo target it v) (fun _ s₂ => wpAny (model prog w) A (assign target env v) (fun _ s₃ => wpAny (model prog w) A (compIfs ifs env >>= fun ok => if ok then compIn elt gens scope pos d acc env else pure ()) (fun _ s₅ => ∃ m, m < k ∧ I m s₅) (fun _ _ => False) s₃) (fun _ _ => False) s₂) (fun _ _ => False) s₁) (fun _ _ => False) s)
    (k : Nat) (h : I k s) : codeAny (model prog w) A (.compLoop (.ListComp elt gens scope pos) d it acc env) R s := by
  refine codeAny_loop rfl I (fun n s hI => ?_) k h
  show wpAny _ _ ((compTurn (.ListComp elt gens scope pos) d it acc env).onRaise (fun x => do noteFrame x env; theTreesLotGoes x)) _ _ s
  refine wpAny_noted ?_
  rw [compTurn_eq2 _ _ _ _ _ _ _ _ _ _ _ hg ha]
  refine wpAny_bind (wpAny_standAt (wpAny_bind (wpAny_mono (turn n s hI) (fun r s₁ h₁ => ?_) fun _ _ h' => h'.elim)))
  cases r with
  | none => exact wpAny_pure h₁
  | some v =>
    exact wpAny_bind (wpAny_mono h₁ (fun _ s₂ h₂ => wpAny_bind (wpAny_mono h₂ (fun _ s₃ h₃ => wpAny_bind (wpAny_mono h₃ (fun _ s₅ h₅ => wpAny_pure ⟨rfl, h₅⟩) fun _ _ e => e.elim)) fun _ _ e => e.elim)) fun _ _ e => e.elim)
theorem comp_start {elt target iter : Expr} {ifs : List Expr} {gens : List Comprehension} {scope : Scope} {pos : Pos} {d : Nat} {it acc : Value} {env : Env} (hg : gens[d]? = some ⟨target, iter, ifs, 0⟩)
    (h0 : codeAny (model prog w) A (.compLoop (.ListComp elt gens scope pos) d it acc env) R s)
    (hi : ∀ A (Q : Value → Shared → Prop), Q it s → wpAny (model prog w) A (pyIter it) Q (fun _ _ => False) s) :
    codeAny (model prog w) A (.compStart (.ListComp elt gens scope pos) d it acc env) R s := by
  refine codeAny_of_tree ?_
  show wpAny _ _ ((compStart (.ListComp elt gens scope pos) d it acc env).onRaise (fun x => do noteFrame x env; standAt theWindowsPlace)) _ _ s
  refine wpAny_notedAt ?_
  unfold compStart
  have e1 : (clausesOf (.ListComp elt gens scope pos))[d]? = some ⟨target, iter, ifs, 0⟩ := hg
  simp only [e1]
  show wpAny _ _ (ask >>= _) _ _ s
  refine wpAny_bind (wpAny_askSetting (wpAny_ite ?_))
  split
  · first
      | exact wpAny_bind (wpAny_pure (wpAny_pure (And.intro rfl h0)))
      | exact wpAny_pure (And.intro rfl h0)
  · have hh : wpAny (model prog w) (A.under (.compStart (.ListComp elt gens scope pos) d it acc env)) (pyIter it) (fun it' s' => it' = it ∧ s' = s) (fun _ _ => False) s := hi _ _ ⟨rfl, rfl⟩
    first
      | exact wpAny_bind (wpAny_rule (wpAny_bind (wpAny_standAt (wpAny_bind (wpAny_mono hh (fun it' s' h' => by obtain ⟨rfl, rfl⟩ := h'; exact wpAny_pure (And.intro rfl h0)) fun _ _ x => x.elim)))))
      | (refine wpAny_bind (wpAny_rule ?_); exact wpAny_bind (wpAny_standAt (wpAny_bind (wpAny_mono hh (fun it' s' h' => by obtain ⟨rfl, rfl⟩ := h'; exact wpAny_pure (And.intro rfl h0)) fun _ _ x => x.elim))))
end

end Mine.Internal
end

section
namespace Mine.Internal

section
variable {prog : Program} {w : World} {h₀ : Heap} {α β γ δ : Type} {n : Nat} {Mod : Addr → Prop} {R : Heap → α → β → Prop} {env : Env} {H : List (Value × PV)} {ρ : Loc} {σ : Store}

theorem less_upd {σ : Store} {a : Addr} {o : MObj} (f : σ a = none) : Less σ (upd σ a o) := Less.upd_free f
theorem WE.frame {t : Sem α} {Y : β → Prop} {D : Addr} {o : MObj} (hD : σ D = none) (h : WE prog w h₀ n R env H t ρ σ fun b σ' => σ' = σ ∧ Y b) :
    WE prog w h₀ n R env H t ρ (upd σ D o) fun b σ' => σ' = upd σ D o ∧ Y b := fun A s ok S X hh => by
  refine WE.before h ok (S.less (less_upd hD)) (X.less (less_upd hD)) hh fun v s₁ b σ₁ st S₁ X₁ hh₁ r q => ?_
  obtain ⟨rfl, y⟩ := q
  have oD := S.objs D o (upd_same _ _ _)
  have nD : ¬ Dom σ₁ D := fun ⟨o', e⟩ => by rw [hD] at e; cases e
  have k := st.tupKeep (noMod env) (S.less (less_upd hD)) (X.less (less_upd hD))
  have oD' : Rep prog w s₁.heap D o := oD.keep k fun ob eo => st.pres.2 D ob (fun d => d.elim nD id) eo
  refine Post.of ⟨st.eq, st.pres.mono fun a d => d.imp (fun ⟨o', e⟩ => ⟨o', upd_old e hD⟩) id, fun a d => .inl d⟩ ⟨S₁.base, trivial, fun a o' e => ?_, fun a o' e => S.off a o' e⟩ ?_ r ⟨rfl, rfl, y⟩
  · by_cases ha : a = D
    · subst ha; rw [upd_same] at e; cases e; exact oD'
    · rw [upd_ne _ _ ha] at e; exact S₁.objs a o' e
  · have fr : ∀ a, σ₁ a = none → a ≠ D → upd σ₁ D o a = none := fun a e ne => by rw [upd_ne _ _ ne]; exact e
    have hL : env.locals ≠ D := fun e => by have := X.nsoff.2; rw [e, upd_same] at this; cases this
    exact ⟨X₁.kind, X₁.glob, X₁.bins, X₁.ns, ⟨X₁.nsoff.1, X.nsoff.2⟩, fun p hp => ⟨(X₁.cells p hp).1, (X₁.cells p hp).2.1, (X.cells p hp).2.2.1, (X₁.cells p hp).2.2.2⟩, X₁.apart, X₁.vars⟩
theorem WIter.frame {target e : Expr} {P : Elems → (Store → Prop) → Prop} {D : Addr} {o : MObj} (hD : σ D = none) (h : WIter prog w h₀ n env target e ρ σ fun elem good σ' => σ' = σ ∧ P elem good) :
    WIter prog w h₀ n env target e ρ (upd σ D o) fun elem good σ' => σ' = upd σ D o ∧ P elem good := fun A s Q' ok S X hQ => by
  refine h A s Q' ok (S.less (less_upd hD)) (X.less (less_upd hD)) fun it s₁ σ₁ own K Md elem good st S₁ X₁ io k0 fr ap q => ?_
  obtain ⟨rfl, y⟩ := q
  have oD := S.objs D o (upd_same _ _ _)
  have nD : ¬ Dom σ₁ D := fun ⟨o', e⟩ => by rw [hD] at e; cases e
  have k := st.tupKeep (noMod env) (S.less (less_upd hD)) (X.less (less_upd hD))
  have oD' : Rep prog w s₁.heap D o := oD.keep k fun ob eo => st.pres.2 D ob (fun d => d.elim nD id) eo
  refine hQ it s₁ (upd σ₁ D o) own K Md elem good ⟨st.eq, st.pres.mono fun a d => d.imp (fun ⟨o', e⟩ => ⟨o', upd_old e hD⟩) id, fun a d => .inl d⟩ ⟨S₁.base, trivial, fun a o' e => ?_, fun a o' e => S.off a o' e⟩
    ⟨X₁.kind, X₁.glob, X₁.bins, X₁.ns, ⟨X₁.nsoff.1, X.nsoff.2⟩, fun p hp => ⟨(X₁.cells p hp).1, (X₁.cells p hp).2.1, (X.cells p hp).2.2.1, (X₁.cells p hp).2.2.2⟩, X₁.apart, X₁.vars⟩ io k0 (fun a ha => (fr a ha).imp id fun ⟨o', e⟩ => ⟨o', upd_old e hD⟩) ⟨ap.old, fun a ha => ?_, ap.frame⟩ ⟨rfl, y⟩
  · by_cases ha : a = D
    · subst ha; rw [upd_same] at e; cases e; exact oD'
    · rw [upd_ne _ _ ha] at e; exact S₁.objs a o' e
  · have ne : a ≠ D := fun e => by
      obtain ⟨ob, e2, _⟩ := oD.get
      rcases fr a ha with e3 | ⟨o', e3⟩
      · rw [← e, e3] at e2; cases e2
      · rw [e, hD] at e3; cases e3
    rw [upd_ne _ _ ne]; exact ap.free a ha

noncomputable def JEl (prog : Program) (w : World) (h₀ : Heap) (n : Nat) (Mod : Addr → Prop) (env : Env) (ifs : List Expr) (inner : Sem Unit) (ρ : Loc) (σ : Store) (D : Addr) (ys : List PV) : Prop :=
  ∀ acc, acc.length + ys.length ≤ 1000000 → WP prog w h₀ n Mod unitR env [] (compIfs ifs env >>= fun ok => if ok then inner else pure ()) ρ (upd σ D (.lst acc)) fun _ ρ' σ' => Sub ρ ρ' ∧ σ' = upd σ D (.lst (acc ++ ys))

theorem comp_code {elt target iter : Expr} {ifs : List Expr} {gens : List Comprehension} {scope : Scope} {pos : Pos} {d : Nat} {it : Value} {D : Addr} {own : Addr → Prop} {K : Nat → Heap → Prop} {Md : Nat → Value → Heap → Prop} {elem : Elems} {good : Store → Prop} {items : List PV} {g : PV → List PV} {acc₀ : List PV}
    {A : Around} {s : Shared} {RR : Result → Shared → Prop} (hg : gens[d]? = some ⟨target, iter, ifs, 0⟩) (ha : ∀ g ∈ gens, g.is_async = 0) (hM : NoTup Mod env) (hlen : (acc₀ ++ items.flatMap g).length ≤ 1000000)
    (ok : Ok n A) (S : SRel prog w h₀ (upd σ D (.lst acc₀)) s.heap) (X : ERel h₀ env ρ (upd σ D (.lst acc₀)) s.heap) (io : ItOk prog w h₀ target it own K Md elem good) (k0 : K 0 s.heap) (ap : Apart h₀ env own (upd σ D (.lst acc₀)))
    (hel : ∀ acc, good (upd σ D (.lst acc)) ∧ ∀ i, elem (upd σ D (.lst acc)) i = items[i]?)
    (hb : ∀ x ∈ items, ∀ acc, WT prog w h₀ n Mod env target x ρ (upd σ D (.lst acc)) fun ρ₂ σ₂ => Sub ρ ρ₂ ∧ σ₂ = upd σ D (.lst acc) ∧ JEl prog w h₀ n Mod env ifs (compIn elt gens scope pos d (.ref D) env) ρ₂ σ D (g x))
    (hR : ∀ s' ρ', Stp (fun a => Mod a ∨ own a) (upd σ D (.lst acc₀)) s (upd σ D (.lst (acc₀ ++ items.flatMap g))) s' → SRel prog w h₀ (upd σ D (.lst (acc₀ ++ items.flatMap g))) s'.heap → ERel h₀ env ρ' (upd σ D (.lst (acc₀ ++ items.flatMap g))) s'.heap → Sub ρ ρ' → RR (.ok .next) s') :
    codeAny (model prog w) A (.compLoop (.ListComp elt gens scope pos) d it (.ref D) env) RR s := by
  have hfree : ∀ acc acc' a, (upd σ D (.lst acc)) a = none → (upd σ D (.lst acc')) a = none := fun acc acc' a e => by
    by_cases h : a = D
    · subst h; rw [upd_same] at e; cases e
    · rw [upd_ne _ _ h] at e ⊢; exact e
  have al : ∀ {i : Nat} {ρ' : Loc} {σ' : Store} {s' : Shared}, K i s'.heap → ERel h₀ env ρ' σ' s'.heap → ∀ a o, (Mod a ∨ own a) → s.heap.get? a = some o → ∃ o, s'.heap.get? a = some o := fun hk X' a o ha _ => by
    rcases ha with ha | ha
    · exact X'.alive (hM _ ha)
    · obtain ⟨o, e, _⟩ := io.live _ _ a hk ha; exact ⟨o, e⟩
  refine comp_loop hg ha (I := fun k s' => ∃ i, k = items.length - i ∧ i ≤ items.length ∧ Stp (fun a => Mod a ∨ own a) (upd σ D (.lst acc₀)) s (upd σ D (.lst (acc₀ ++ (items.take i).flatMap g))) s' ∧
    SRel prog w h₀ (upd σ D (.lst (acc₀ ++ (items.take i).flatMap g))) s'.heap ∧ ERel h₀ env ρ (upd σ D (.lst (acc₀ ++ (items.take i).flatMap g))) s'.heap ∧ K i s'.heap) ?_ _ ⟨0, rfl, Nat.zero_le _, by simpa using Stp.refl, by simpa using S, by simpa using X, k0⟩
  rintro k s' ⟨i, rfl, hi, st, S', X', kk⟩
  obtain ⟨hgood, hel'⟩ := hel (acc₀ ++ (items.take i).flatMap g)
  have ap' : Apart h₀ env own (upd σ D (.lst (acc₀ ++ (items.take i).flatMap g))) := ⟨ap.old, fun a h => hfree _ _ a (ap.free a h), ap.frame⟩
  have stp_own : ∀ {h' : Heap} {tk : Nat} {σ' : Store} {s' : Shared}, Stp own σ' s' σ' { s' with heap := h', toks := tk } → Stp (fun a => Mod a ∨ own a) σ' s' σ' { s' with heap := h', toks := tk } := fun x => x.mono fun _ f => .inr f
  cases he : items[i]? with
  | none =>
    refine io.done i _ A s' _ hgood (ok.mono (Nat.zero_le _)) S' kk ((hel' i).trans he) fun h' tk p => ?_
    obtain ⟨S₂, X₂, _, _, st₂⟩ := ownStep S' X' (H := []) (fun _ hp => by cases hp) ap' (fun a ha => io.live i _ a kk ha) p
    have e : items.take i = items := List.take_of_length_le (by simpa using he)
    rw [e] at S₂ X₂ st₂ st S' X'
    exact hR _ ρ (st.trans (stp_own (st₂ tk)) (al kk X')) S₂ X₂ (Sub.refl _)
  | some x =>
    obtain ⟨hlt, hx⟩ := List.getElem?_eq_some_iff.mp he
    refine io.item i _ A s' _ x hgood (ok.mono (Nat.zero_le _)) S' kk ((hel' i).trans he) fun v h' tk p md iv => ?_
    obtain ⟨S₂, X₂, _, k₂, st₂⟩ := ownStep S' X' (H := []) (fun _ hp => by cases hp) ap' (fun a ha => io.live i _ a kk ha) p
    have iv := iv k₂
    refine io.go i v A { s' with heap := h', toks := tk } _ md fun h3 k3 p3 => ?_
    obtain ⟨S₃, X₃, hh₃, k₃, st₃⟩ := ownStep (s := { s' with heap := h', toks := tk }) S₂ X₂ (H := [(v, x)]) (fun _ hp => by rw [List.mem_singleton.mp hp]; exact iv) ap' (fun a ha => io.midlive i v _ a md ha) p3
    have alm : ∀ a o, (Mod a ∨ own a) → s.heap.get? a = some o → ∃ o, h'.get? a = some o := fun a o ha _ => by
      rcases ha with ha | ha
      · exact X₂.alive (hM _ ha)
      · obtain ⟨o, e, _⟩ := io.midlive _ _ _ a md ha; exact ⟨o, e⟩
    have st13 := (st.trans (stp_own (st₂ tk)) (al kk X')).trans (stp_own (st₃ tk)) alm
    have kp : ∀ {s s' : Shared} {acc acc' : List PV} {i : Nat}, Apart h₀ env own (upd σ D (.lst acc)) → Stp Mod (upd σ D (.lst acc)) s (upd σ D (.lst acc')) s' → K i s.heap → K i s'.heap := fun {s s' acc acc' i} ap st kk =>
      io.keep i _ _ kk fun a o ha e => st.pres.2 a o (fun d => by
        rcases d with ⟨o', e'⟩ | d
        · rw [ap.free a ha] at e'; cases e'
        · exact ap.frame a ha (hM _ d)) e
    have hbx := hb x (List.mem_of_getElem? he) (acc₀ ++ (items.take i).flatMap g)
    refine WP.go hM (hbx [(v, x)] v (.head _)) (s := { s' with heap := h3, toks := tk }) ok S₃ X₃ hh₃ fun u s₄ _ ρ₄ σ₄ st₄ S₄ X₄ hh₄ _ q₄ => ?_
    obtain ⟨sub4, rfl, je⟩ := q₄
    have k4 := kp ap' st₄ k3
    have st14 := st13.trans (st₄.mono fun _ f => .inl f) (al k3 X₃)
    have hl5 : (acc₀ ++ (items.take i).flatMap g).length + (g x).length ≤ 1000000 := by
      refine Nat.le_trans ?_ hlen
      have e : (acc₀ ++ (items.take i).flatMap g).length + (g x).length = (acc₀ ++ (items.take (i + 1)).flatMap g).length := by
        rw [List.take_add_one, he]; simp [List.flatMap_append]; (first | lia | omega)
      rw [e]
      have e2 : items.flatMap g = (items.take (i + 1)).flatMap g ++ (items.drop (i + 1)).flatMap g := by rw [← List.flatMap_append, List.take_append_drop]
      rw [e2]; simp only [List.length_append]; (first | lia | omega)
    have w5 := je (acc₀ ++ (items.take i).flatMap g) hl5 A s₄ ok S₄ X₄ (fun _ hp => by cases hp)
    exact wpAny_mono w5 (fun u s₅ x5 => by
        obtain ⟨b, ρ₅, σ₅, st₅, S₅, X₅, r₅, hs5, rfl⟩ := x5.stp
        have e : (acc₀ ++ (items.take i).flatMap g) ++ g x = acc₀ ++ (items.take (i + 1)).flatMap g := by
          rw [List.take_add_one, he]; simp [List.flatMap_append]
        rw [e] at st₅ S₅ X₅
        have k5 := kp ap' st₅ k4
        have st15 := st14.trans (st₅.mono fun _ f => .inl f) (al k4 X₄)
        exact ⟨_, by (first | lia | omega), i + 1, rfl, hlt, st15, S₅, X₅.forget fun y u e => hs5 y u (sub4 y u e), k5⟩) fun _ _ e => e
end

end Mine.Internal
end

section
namespace Mine.Internal

noncomputable def OnlyLoc (env : Env) : Addr → Prop := fun a => a = env.locals
theorem onlyLoc (env : Env) : NoTup (OnlyLoc env) env := fun _ h => .inl h
theorem storL {env : Env} {x : Str} (h : env.kindOf x = some .local) : StorM (OnlyLoc env) env x := .inl ⟨h, rfl⟩

section
variable {prog : Program} {w : World} {h₀ : Heap} {n : Nat} {Mod : Addr → Prop} {env : Env} {H : List (Value × PV)} {ρ : Loc} {σ : Store}

theorem compIfs_nil {M : Model} {A : Around} {E : Value → Shared → Prop} {s : Shared} {inner : Sem Unit} {Q : Unit → Shared → Prop} (h : wpAny M A inner Q E s) : wpAny M A (compIfs [] env >>= fun ok => if ok then inner else pure ()) Q E s := by
  show wpAny M A (pure true >>= fun ok => if ok then inner else pure ()) Q E s
  exact wpAny_bind (wpAny_pure h)
theorem compIfs_one {M : Model} {A : Around} {E : Value → Shared → Prop} {s : Shared} {c : Expr} {inner : Sem Unit} {Q : Unit → Shared → Prop}
    (h : wpAny M A (isTrue c env (eval c env)) (fun b s₁ => if b then wpAny M A inner Q E s₁ else Q () s₁) E s) : wpAny M A (compIfs [c] env >>= fun ok => if ok then inner else pure ()) Q E s := by
  have e : compIfs [c] env = isTrue c env (eval c env) := by
    unfold compIfs
    simp [List.forIn_cons]
  rw [e]
  refine wpAny_bind (wpAny_mono h (fun b s₁ h₁ => ?_) fun _ _ x => x)
  cases b
  · exact wpAny_pure h₁
  · exact h₁

variable {elt : Expr} {gens : List Comprehension} {scope : Scope} {pos : Pos} {d : Nat} {D : Addr} {ys : List PV}
theorem jel_emit (hM : NoTup Mod env) (hD : σ D = none) (hg : gens[d + 1]? = none) (h : WV prog w h₀ n env [] (eval elt env) ρ σ fun y σ' => σ' = σ ∧ ys = [y]) : JEl prog w h₀ n Mod env [] (compIn elt gens scope pos d (.ref D) env) ρ σ D ys := fun acc hl A s ok S X hh => by
  refine compIfs_nil ?_
  unfold compIn
  rw [hg]
  show wpAny _ _ (eval elt env >>= fun y => call (.builtin "list.append") [.ref D, y] >>= fun _ => pure ()) _ _ _
  refine wpAny_bind (WE.before (WE.frame (o := .lst acc) hD h) ok S X hh fun v s₁ y σ₁ st S₁ X₁ hh₁ r q => ?_)
  obtain ⟨rfl, rfl⟩ := q
  obtain ⟨ws, k, il, i1⟩ := S₁.objs D _ (upd_same _ _ _)
  have hl' := i1.length
  simp only [List.length_singleton] at hl
  refine wpAny_bind (call_meets F.slot_list_append ⟨_, il, rfl⟩ F.entry_list_append (F.args_list_append_2 _ _) (list_append D ws.toArray k v (by simp; unfold sizeLine; (first | lia | omega))) ⟨il, ?_⟩)
  refine wpAny_pure ?_
  have hu := IsL.update il (fun xs => xs.push v)
  have e1 : ws.toArray.push v = (ws ++ [v]).toArray := by simp
  rw [e1] at hu
  have kp : TupKeep s₁.heap (s₁.heap.update D (Obj.mapSeq fun xs => xs.push v)) := S₁.tupKeep (update_same _) fun c hc => .inl (by subst hc; exact ⟨_, upd_same _ _ _⟩)
  obtain ⟨S₂, X₂, hh₂, tr₂⟩ := turnStep (γ := Value) (δ := PV) (R' := Is) (o' := .lst (acc ++ [y])) S₁ X₁ hh₁ (upd_same σ D (.lst acc)) (update_same _) ⟨ws ++ [v], _, hu, (i1.keep kp).snoc (r.keep kp)⟩
  rw [upd_upd] at S₂ X₂
  have st2 : Stp Mod (upd σ D (.lst acc)) s₁ (upd σ D (.lst (acc ++ [y]))) { s₁ with heap := s₁.heap.update D (Obj.mapSeq fun xs => xs.push v) } :=
    ⟨⟨_, _, rfl⟩, (update_same _).mono fun c hc => .inl (by subst hc; exact ⟨_, upd_same _ _ _⟩), fun a ⟨o, e⟩ => .inl (by
      by_cases ha : a = D
      · subst ha; exact ⟨_, upd_same _ _ _⟩
      · rw [upd_ne _ _ ha] at e; exact ⟨o, by rw [upd_ne _ _ ha]; exact e⟩)⟩
  exact Post.of (b := ()) ((st.mono fun _ f => f.elim).andThen hM st2 X₁) S₂ X₂ trivial ⟨Sub.refl _, rfl⟩
theorem jel_if {c : Expr} {inner : Sem Unit} (hM : NoTup Mod env) (hD : σ D = none) (h : WB prog w h₀ n env [] (isTrue c env (eval c env)) ρ σ fun b σ' => σ' = σ ∧ if b then JEl prog w h₀ n Mod env [] inner ρ σ D ys else ys = []) : JEl prog w h₀ n Mod env [c] inner ρ σ D ys := fun acc hl A s ok S X hh => by
  refine compIfs_one (WE.before (WE.frame (o := .lst acc) hD h) ok S X hh fun v s₁ b σ₁ st S₁ X₁ hh₁ r q => ?_)
  subst r
  obtain ⟨rfl, q⟩ := q
  cases v
  · simp only [Bool.false_eq_true, if_false] at q ⊢
    subst q
    exact Post.of (b := ()) (st.mono fun _ f => f.elim) S₁ X₁ trivial ⟨Sub.refl _, by simp⟩
  · simp only [if_true] at q ⊢
    have e : (compIfs [] env >>= fun ok => if ok then inner else pure ()) = inner := by
      show (pure true >>= fun ok => if ok then inner else pure ()) = inner
      simp
    have := q acc hl A s₁ ok S₁ X₁ hh₁
    rw [e] at this
    refine wpAny_mono this (fun u s₂ x => ?_) fun _ _ e => e
    obtain ⟨b, ρ₂, σ₂, st₂, S₂, X₂, r₂, q₂⟩ := x.stp
    exact Post.of ((st.mono fun _ f => f.elim).andThen hM st₂ X₁) S₂ X₂ r₂ q₂
noncomputable def ClauseOk (prog : Program) (w : World) (h₀ : Heap) (n : Nat) (Mod : Addr → Prop) (env : Env) (target : Expr) (ifs : List Expr) (inner : Sem Unit) (ρ : Loc) (σ : Store) (D : Addr) (x : PV) (ys : List PV) : Prop :=
  ∃ ρ₂, (∀ σ, WT prog w h₀ n Mod env target x ρ σ fun ρ' σ' => ρ' = ρ₂ ∧ σ' = σ) ∧ Sub ρ ρ₂ ∧ JEl prog w h₀ n Mod env ifs inner ρ₂ σ D ys
theorem jel_nest {target iter : Expr} {ifs : List Expr} (hM : NoTup Mod env) (hD : σ D = none) (hg : gens[d + 1]? = some ⟨target, iter, ifs, 0⟩) (ha : ∀ g ∈ gens, g.is_async = 0)
    (h : WIter prog w h₀ n env target iter ρ σ fun elem good σ' => σ' = σ ∧ ∃ (items : List PV) (g : PV → List PV), (∀ σ', Less σ σ' → good σ' ∧ ∀ i, elem σ' i = items[i]?) ∧
      (∀ x ∈ items, ClauseOk prog w h₀ n Mod env target ifs (compIn elt gens scope pos (d + 1) (.ref D) env) ρ σ D x (g x)) ∧ ys = items.flatMap g)
    (hs : autoParam (∀ x, foldedSetIterable iter env x = pure x) Mine.Internal.au4) :
    JEl prog w h₀ n Mod env [] (compIn elt gens scope pos d (.ref D) env) ρ σ D ys := fun acc hl A s ok S X hh => by
  refine compIfs_nil ?_
  unfold compIn
  rw [hg]
  show wpAny _ _ (eval iter env >>= fun x => standAt iter.pos >>= fun _ => foldedSetIterable iter env x >>= fun x => holding [x] (pyIter x) >>= fun it => runOwn (.compStart (.ListComp elt gens scope pos) (d + 1) it (.ref D) env) env >>= fun _ => pure ()) _ _ _
  refine wpAny_bind (wpAny_mono (WIter.frame (o := .lst acc) hD h A s _ ok S X fun it s₁ σ₁ own K Md elem good st₁ S₁ X₁ io k0 fr ap q => ?_) (fun x s₁ h₁ => wpAny_bind (wpAny_standAt (wpAny_bind (wpAny_of_eq (hs x) (wpAny_bind (wpAny_holding (wpAny_mono h₁ (fun it s₂ h₂ => h₂) fun _ _ e => e))))))) fun _ _ e => e)
  obtain ⟨rfl, items, g, hel, hb, rfl⟩ := q
  refine wpAny_bind (wpAny_runOwn ?_)
  have lss : ∀ acc : List PV, Less σ (upd σ D (.lst acc)) := fun acc => Less.upd_free hD
  have ok' : Ok n (A.mark none) := ok
  refine comp_start hg (comp_code (g := g) (items := items) hg ha hM (by simp only [List.length_append]; exact hl) ok' S₁ X₁ io k0 ap (fun acc => hel _ (lss acc)) (fun x hx acc => ?_) fun s' ρ' st' S' X' hsub => ?_) (fun A Q hQ => io.self 0 A s₁ Q k0 hQ)
  · obtain ⟨ρ₂, h1, h2, h3⟩ := hb x hx
    intro H v hv
    exact WP.mono (h1 (upd σ D (.lst acc)) H v hv) fun _ ρ' σ' ⟨e1, e2⟩ => by subst e1; subst e2; exact ⟨h2, rfl, h3⟩
  · show wpAny _ _ (pure ()) _ _ _
    refine wpAny_pure ?_
    refine Post.of (b := ()) ?_ S' X' trivial ⟨hsub, rfl⟩
    obtain ⟨⟨h1, tk1, rfl⟩, p1, sub1⟩ := st₁
    obtain ⟨⟨h2, tk2, rfl⟩, p2, sub2⟩ := st'
    refine ⟨⟨h2, tk2, rfl⟩, ⟨trivial, fun a o na ea => ?_⟩, fun a d => ?_⟩
    · have e1 := p1.2 a o (fun d => d.elim (fun d => na (.inl d)) id) ea
      refine p2.2 a o (fun d => ?_) e1
      rcases d with d | d | d
      · rcases sub1 a d with d | d
        · exact na (.inl d)
        · rw [d] at ea; cases ea
      · exact na (.inr d)
      · rcases fr a d with e | e
        · rw [e] at ea; cases ea
        · exact na (.inl e)
    · obtain ⟨o, e⟩ := d
      by_cases hda : a = D
      · subst hda; exact .inl ⟨_, upd_same _ _ _⟩
      · rw [upd_ne _ _ hda] at e; exact .inl ⟨o, by rw [upd_ne _ _ hda]; exact e⟩

theorem comp_tail {own Md : Addr → Prop} {σ₁ : Store} {h0 h1 H3 h₁ h5 : Heap} {D : Addr} {zs : List PV}
    (S₁ : SRel prog w h₀ σ₁ h1) (X₁ : ERel h₀ env ρ σ₁ h1) (ap : Apart h₀ env own σ₁) (p1 : Pres (fun a => Dom σ a ∨ NoMod a) h0 h1) (sub1 : ∀ a, Dom σ₁ a → Dom σ a ∨ h0.get? a = none)
    (p2 : Pres NoMod h1 H3) (p3 : Pres NoMod H3 h₁) (p5 : Pres (fun a => Dom (upd σ₁ D (.lst [])) a ∨ Md a ∨ own a) h₁ h5) (hMd : ∀ a, Md a → H3.get? a = none)
    (hDn : h1.get? D = none) (live : ∀ a, own a → ∃ o, h1.get? a = some o ∧ o.cls ≠ .type "tuple")
    (fr : ∀ a, own a → h0.get? a = none ∨ Dom σ a) :
    ERel h₀ env ρ (upd σ₁ D (.lst zs)) h5 ∧ Pres (fun a => Dom σ a ∨ NoMod a) h0 h5 ∧ ∀ a, Dom (upd σ₁ D (.lst zs)) a → Dom σ a ∨ h0.get? a = none := by
  have keep1 : ∀ a o, a ≠ D → ¬ Dom σ₁ a → ¬ own a → h1.get? a = some o → h5.get? a = some o := fun a o neD nd no e1 => by
    have e3 : H3.get? a = some o := p2.2 a o (fun f => f) e1
    refine p5.2 a o (fun d => ?_) (p3.2 a o (fun f => f) e3)
    rcases d with ⟨o', e'⟩ | d | d
    · rw [upd_ne _ _ neD] at e'; exact nd ⟨o', e'⟩
    · rw [hMd a d] at e3; cases e3
    · exact no d
  have neD : ∀ a o, h1.get? a = some o → a ≠ D := fun a o e q => by rw [q, hDn] at e; cases e
  have keepAll : ∀ a o, ¬ Dom σ a → h0.get? a = some o → h5.get? a = some o := fun a o na ea => by
    have e1 : h1.get? a = some o := p1.2 a o (fun d => d.elim na id) ea
    refine keep1 a o (neD a o e1) (fun d => ?_) (fun d => ?_) e1
    · rcases sub1 a d with d | d
      · exact na d
      · rw [d] at ea; cases ea
    · rcases fr a d with e | e
      · rw [e] at ea; cases ea
      · exact na e
  have kt : TupKeep h1 h5 := fun b its m e => keep1 b _ (neD b _ e) (fun ⟨o, e'⟩ => by
    obtain ⟨ob, e2, e3⟩ := (S₁.objs b o e').get
    rw [show h1.get? b = some _ from e] at e2; cases e2; exact e3 rfl) (fun ho => by
    obtain ⟨ob, e2, e3⟩ := live b ho
    rw [show h1.get? b = some _ from e] at e2; cases e2; exact e3 rfl) e
  have pX : Pres (fun a => Dom σ₁ a ∨ own a) h1 h5 := ⟨trivial, fun a o na e => keep1 a o (neD a o e) (fun d => na (.inl d)) (fun d => na (.inr d)) e⟩
  refine ⟨X₁.step pX kt (fun d => d.elim (fun ⟨o, e⟩ => by have := X₁.nsoff.2; rw [e] at this; cases this) fun d => ap.frame _ d (.inl rfl))
    (fun q hq d => d.elim (fun ⟨o, e⟩ => by have := (X₁.cells q hq).2.2.1; rw [e] at this; cases this) fun d => ap.frame _ d (.inr ⟨q, hq, rfl⟩)) (fun a ⟨o, e⟩ => by
      by_cases ha : a = D
      · subst ha; exact .inr hDn
      · rw [upd_ne _ _ ha] at e; exact .inl ⟨o, e⟩), ⟨trivial, fun a o na ea => keepAll a o (fun d => na (.inl d)) ea⟩, fun a ⟨o, e⟩ => ?_⟩
  by_cases ha : a = D
  · subst ha
    cases q : h0.get? a with
    | none => exact .inr rfl
    | some ob =>
      by_cases hd : Dom σ a
      · exact .inl hd
      · have := p1.2 a ob (fun d => d.elim hd id) q
        rw [hDn] at this; cases this
  · rw [upd_ne _ _ ha] at e; exact sub1 a ⟨o, e⟩
theorem cells_apart {cl cs : List (Str × Addr)} (hcl : ∀ p ∈ cl, p ∈ cs) (hn : (cl.map (·.1)).Nodup) (hp : cs.Pairwise fun x y => x.2 ≠ y.2) : cl.Pairwise fun x y => x.2 ≠ y.2 :=
  List.Pairwise.imp_of_mem (fun {a b} ha hb (h : a.1 ≠ b.1) => pairwise_ne hp (hcl _ ha) (hcl _ hb) fun e => h (congrArg Prod.fst e)) (List.pairwise_map.mp hn)
structure CapOk (env : Env) (scope : Scope) (cl : List (Str × Addr)) (C : Addr) (ρ ρc : Loc) : Prop where
  names : ∀ x v, ρc.lookup x = some v → ρ.lookup x = some v ∧ (env.kindOf x = some .cell ∨ env.kindOf x = some .free) ∧ ((compEnvC scope cl C env).kindOf x = some .cell ∨ (compEnvC scope cl C env).kindOf x = some .free) ∧ ∃ c, env.cells.lookup x = some c ∧ cl.lookup x = some c
theorem offStep {C : Addr} {mC : Str → Option Value} {h h' : Heap} (S : SRel prog w h₀ σ h) (X : ERel h₀ env ρ σ h) (ap : Apart h₀ env (· = C) σ) (hn : h.Ns C mC) (hsb : Heap.SameBut C h h') : SRel prog w h₀ σ h' ∧ ERel h₀ env ρ σ h' := by
  have p : Pres (· = C) h h' := Pres.same Pres.refl hsb (.inl rfl)
  have k : TupKeep h h' := fun b its m e => (hsb.2 b (fun q => by
    obtain ⟨ob, es, ep, q1, q2, _⟩ := hn
    rw [← q, show h.get? b = some _ from e] at q1; cases q1; cases q2)).trans e
  exact ⟨⟨fun b ob e => p.2 b ob (fun f => by have := ap.old b f; rw [this] at e; cases e) (S.base b ob e), trivial, fun b o' e => (S.objs b o' e).keep k fun ob eo => p.2 b ob (fun f => by rw [ap.free b f] at e; cases e) eo, S.off⟩,
    X.step p k (fun f => ap.frame _ f (.inl rfl)) (fun q hq f => ap.frame _ f (.inr ⟨q, hq, rfl⟩)) (fun _ d => .inl d)⟩
theorem stp_off {Mod : Addr → Prop} {s s' : Shared} {σ₁ : Store} {C : Addr} {h' : Heap} (st : Stp Mod σ s σ₁ s') (hCs : ¬ Dom σ C → s.heap.get? C = none) (hsb : Heap.SameBut C s'.heap h') : Stp Mod σ s σ₁ { s' with heap := h' } := by
  obtain ⟨⟨h1, tk1, rfl⟩, p, sub⟩ := st
  refine ⟨⟨h', tk1, rfl⟩, ⟨trivial, fun a o na ea => (hsb.2 a fun q => ?_).trans (p.2 a o na ea)⟩, sub⟩
  rw [q] at ea na
  rw [hCs fun d => na (.inl d)] at ea; cases ea
noncomputable def CompAsk (prog : Program) (w : World) (h₀ : Heap) (n : Nat) (env : Env) (elt target iter : Expr) (ifs : List Expr) (gens : List Comprehension) (scope : Scope) (pos : Pos) (cl : List (Str × Addr)) (ρc ρ : Loc) (σ : Store) (Q : Addr → Store → Prop) : Prop :=
  WIter prog w h₀ n env target iter ρ σ fun elem good σ₁ => ∃ (items : List PV) (g : PV → List PV), (∀ σ', Less σ₁ σ' → good σ' ∧ ∀ i, elem σ' i = items[i]?) ∧ (items.flatMap g).length ≤ 1000000 ∧
      (∀ C D, σ₁ D = none → ∀ x ∈ items, ClauseOk prog w h₀ n (OnlyLoc (compEnvC scope cl C env)) (compEnvC scope cl C env) target ifs (compIn elt gens scope pos 0 (.ref D) (compEnvC scope cl C env)) ρc σ₁ D x (g x)) ∧
      ∀ D, σ₁ D = none → Q D (upd σ₁ D (.lst (items.flatMap g)))
theorem comp_run {target iter : Expr} {ifs : List Expr} {rest : List Comprehension} {cl : List (Str × Addr)} {ρc : Loc} (hgens : gens = ⟨target, iter, ifs, 0⟩ :: rest) (ha : ∀ g ∈ gens, g.is_async = 0)
    (hclos : closureFor scope env = pure cl) (hkind : scope.kind = .function) (hcell : ∀ y ∈ scope.names, y.2 ≠ .cell) (hnames : ∀ y ∈ scope.names, y.2 = .local → scope.names.lookup y.1 = some .local)
    (hcl : ∀ p ∈ cl, p ∈ env.cells) (hclp : (cl.map (·.1)).Nodup) (hcap : ∀ C, CapOk env scope cl C ρ ρc) {use : Option (Value → Sem Unit)} {A : Around} {s : Shared} {QU : Value → Shared → Prop} (ok : Ok n A) (S : SRel prog w h₀ σ s.heap) (X : ERel h₀ env ρ σ s.heap) {QA : Addr → Store → Prop}
    (h : CompAsk prog w h₀ n env elt target iter ifs gens scope pos cl ρc ρ σ QA)
    (fin : ∀ D C s' mC σ', QA D σ' → Stp NoMod σ s σ' s' → SRel prog w h₀ σ' s'.heap → ERel h₀ env ρ σ' s'.heap → s'.heap.Ns C mC → Apart h₀ env (· = C) σ' → (¬ Dom σ C → s.heap.get? C = none) → compPost (model prog w) A (fun _ _ => False) use QU (.ref D) C (.ok .next) s')
    (hs : autoParam (∀ x, foldedSetIterable iter env x = pure x) Mine.Internal.au4) :
    wpAny (model prog w) A (comprehension (.ListComp elt gens scope pos) scope env (firstIterPos gens pos) (newList []) (firstAsync gens) (firstIter gens env) use) QU (fun _ _ => False) s := by
  subst hgens
  refine wpAny_comprehension_free (use := use) rfl hs hclos hkind hnames ?_
  refine h A s _ ok S X fun it s₂ σ₁ own K Md elem good st₁ S₁ X₁ io k0 fr ap q => ?_
  obtain ⟨items, g, hel, hlen, hb, hQ⟩ := q
  refine wpAny_newObj_type ?_ (by show ([] : List Value).toArray.size ≤ sizeLine; simp)
  have p2 : Pres NoMod s₂.heap (s₂.heap.push { cls := .type "list", data := .seq ([] : List Value).toArray }) := Pres.refl.push _
  obtain ⟨S₃, X₃, hh₃, tr₃⟩ := newStep (γ := Value) (δ := PV) (R' := Is) (H := []) (o := .lst []) S₁ X₁ (fun _ hp => by cases hp) p2 (fresh _) ⟨[], 0, IsL.new _ _, .nil⟩
  have frD := free_of S₁ (fresh s₂.heap)
  generalize hD : s₂.heap.objs.size = D at *
  have hDn : s₂.heap.get? D = none := by rw [← hD]; exact fresh _
  generalize hH3 : s₂.heap.push { cls := .type "list", data := .seq ([] : List Value).toArray } = H3 at *
  refine wpAny_newFunctionEnv hcell (by intro y hy; simp at hy) (fun h₁ hns hsb => ?_) hkind
  dsimp only at hns hsb ⊢
  generalize hC : H3.objs.size = C at hns hsb ⊢
  have hCn : H3.get? C = none := by rw [← hC]; exact fresh _
  have p3 : Pres NoMod H3 h₁ := Pres.same (Pres.refl.push _) hsb (.inr hCn)
  obtain ⟨S₄, X₄, hh₄, st₄⟩ := firmStep (s := { s₂ with heap := H3 }) (H := []) S₃ X₃ (fun _ hp => by cases hp) p3
  have hCσ : upd σ₁ D (.lst []) C = none := free_of S₃ hCn
  have hCh : h₀.get? C = none := by
    cases e : h₀.get? C with
    | none => rfl
    | some o => have := S₃.base _ _ e; rw [hCn] at this; cases this
  have Xc : ERel h₀ (compEnvC scope cl C env) ρc (upd σ₁ D (.lst [])) h₁ := by
    refine ⟨hkind, X₄.glob, X₄.bins, ⟨_, hns⟩, ⟨hCh, hCσ⟩, fun p hp => ?_, cells_apart hcl hclp X₃.apart, fun x v e => ?_⟩
    · obtain ⟨⟨cv, o, h1, h2⟩, h3, h4, h5⟩ := X₃.cells p (hcl p hp)
      refine ⟨(X₄.cells p (hcl p hp)).1, h3, h4, fun e => ?_⟩
      have e' : p.2 = C := e
      rw [e', hCn] at h1; cases h1
    · obtain ⟨e1, hk, hk2, c, hc1, hc2⟩ := (hcap C).names x v e
      obtain ⟨val, hv, hi⟩ := X₄.vars x v e1
      refine ⟨val, .inr ⟨hk2, c, hc2, ?_⟩, hi⟩
      rcases hv with ⟨hk', _⟩ | ⟨_, c', hc', hcell'⟩
      · rcases hk with hk | hk <;> rw [hk] at hk' <;> cases hk'
      · rw [hc1] at hc'; cases hc'; exact hcell'
  have apc : Apart h₀ (compEnvC scope cl C env) own (upd σ₁ D (.lst [])) := by
    have neD : ∀ a, own a → a ≠ D := fun a ha e => by
      obtain ⟨o, e2, _⟩ := io.live 0 _ a k0 ha
      rw [e, hDn] at e2; cases e2
    refine ⟨ap.old, fun a ha => by rw [upd_ne _ _ (neD a ha)]; exact ap.free a ha, fun a ha ho => ?_⟩
    rcases ho with e | ⟨p, hp, e⟩
    · obtain ⟨o, e2, _⟩ := io.live 0 _ a k0 ha
      have e3 := p2.2 a o (fun f => f) e2
      have e' : a = C := e
      rw [e', hCn] at e3; cases e3
    · exact ap.frame a ha (.inr ⟨p, hcl p hp, e⟩)
  have k1 : K 0 h₁ := io.keep 0 _ _ k0 fun a o ha e => p3.2 a o (fun f => f) (p2.2 a o (fun f => f) e)
  have lss : ∀ acc : List PV, Less σ₁ (upd σ₁ D (.lst acc)) := fun acc => Less.upd_free frD
  show codeAny _ _ (.compStart (.ListComp elt (⟨target, iter, ifs, 0⟩ :: rest) scope pos) 0 it (.ref D) (compEnvC scope cl C env)) _ _
  refine comp_start rfl (comp_code (d := 0) (g := g) (items := items) (acc₀ := []) (Mod := OnlyLoc (compEnvC scope cl C env)) rfl ha (onlyLoc _) (by simpa using hlen) ok S₄ Xc io k1 apc (fun acc => hel _ (lss acc)) (fun x hx acc => ?_) fun s' ρ' st' S' X' hsub => ?_)
    (fun A Q hQ => io.self 0 A _ Q k1 hQ)
  · obtain ⟨ρ₂, h1, h2, h3⟩ := hb C D frD x hx
    intro H v hv
    exact WP.mono (h1 (upd σ₁ D (.lst acc)) H v hv) fun _ ρ' σ' ⟨e1, e2⟩ => by subst e1; subst e2; exact ⟨h2, rfl, h3⟩
  · simp only [List.nil_append] at st' S' X'
    obtain ⟨mC, hmC⟩ := X'.ns
    obtain ⟨⟨h1, tk1, rfl⟩, p1, sub1⟩ := st₁
    obtain ⟨⟨h5, tk5, rfl⟩, p5, sub5⟩ := st'
    obtain ⟨Xf, pf, sf⟩ := comp_tail (zs := items.flatMap g) S₁ X₁ ap p1 sub1 p2 p3 p5 (fun a (d : a = C) => by rw [d]; exact hCn) hDn (fun a ho => io.live 0 _ a k0 ho) fr
    refine fin D C _ mC _ (hQ D frD) ⟨⟨h5, tk5, rfl⟩, pf, sf⟩ S' Xf hmC ⟨fun a e => by rw [show a = C from e]; exact hCh, fun a e => ?_, fun a e ho => ?_⟩ fun nd => ?_
    · rw [show a = C from e]
      by_cases hCD : C = D
      · rw [hCD, upd_same] at hCσ; cases hCσ
      · rw [upd_ne _ _ hCD] at hCσ ⊢; exact hCσ
    · rw [show a = C from e] at ho
      obtain ⟨o, ho⟩ := X₃.alive ho
      rw [show H3.get? C = some o from ho] at hCn; cases hCn
    · cases q : s.heap.get? C with
      | none => rfl
      | some o =>
        have e3 := p2.2 C o (fun f => f) (p1.2 C o (fun d => d.elim nd id) q)
        rw [hCn] at e3; cases e3
theorem we_listcomp {target iter : Expr} {ifs : List Expr} {rest : List Comprehension} {cl : List (Str × Addr)} {ρc : Loc} {Q : PV → Store → Prop} (hgens : gens = ⟨target, iter, ifs, 0⟩ :: rest) (ha : ∀ g ∈ gens, g.is_async = 0)
    (hclos : closureFor scope env = pure cl) (hkind : scope.kind = .function) (hcell : ∀ y ∈ scope.names, y.2 ≠ .cell) (hnames : ∀ y ∈ scope.names, y.2 = .local → scope.names.lookup y.1 = some .local)
    (hcl : ∀ p ∈ cl, p ∈ env.cells) (hclp : (cl.map (·.1)).Nodup) (hcap : ∀ C, CapOk env scope cl C ρ ρc)
    (h : CompAsk prog w h₀ n env elt target iter ifs gens scope pos cl ρc ρ σ fun D σ' => Q (.loc D) σ')
    (hs : autoParam (∀ x, foldedSetIterable iter env x = pure x) Mine.Internal.au4) :
    WV prog w h₀ n env [] (eval (.ListComp elt gens scope pos) env) ρ σ Q := fun A s ok S X hh => by
  rw [eval_ListComp]
  refine comp_run (use := none) hgens ha hclos hkind hcell hnames hcl hclp hcap ok S X h (fun D C s' mC σ' q st S' X' hn ap hCs => ⟨mC, hn, fun h' hsb => ?_⟩) hs
  obtain ⟨S2, X2⟩ := offStep S' X' ap hn hsb
  exact Post.of (stp_off st hCs hsb) S2 X2 (.loc D) ⟨rfl, q⟩
theorem ws_listcomp {y : Str} {py spos : Pos} {target iter : Expr} {ifs : List Expr} {rest : List Comprehension} {cl : List (Str × Addr)} {ρc : Loc} {Q : PFlow → Loc → Store → Prop} (hgens : gens = ⟨target, iter, ifs, 0⟩ :: rest) (hy : Stor env y) (ha : ∀ g ∈ gens, g.is_async = 0)
    (hclos : closureFor scope env = pure cl) (hkind : scope.kind = .function) (hcell : ∀ y ∈ scope.names, y.2 ≠ .cell) (hnames : ∀ y ∈ scope.names, y.2 = .local → scope.names.lookup y.1 = some .local)
    (hcl : ∀ p ∈ cl, p ∈ env.cells) (hclp : (cl.map (·.1)).Nodup) (hcap : ∀ C, CapOk env scope cl C ρ ρc)
    (h : CompAsk prog w h₀ n env elt target iter ifs gens scope pos cl ρc ρ σ fun D σ' => Q .next ((y, .loc D) :: ρ) σ')
    (hsw : swapsWith (.ListComp elt gens scope pos) (some (.Name y py)) spos.line env = pure true)
    (hs : autoParam (∀ x, foldedSetIterable iter env x = pure x) Mine.Internal.au4) :
    WS prog w h₀ n env (exec (.Assign [.Name y py] (.ListComp elt gens scope pos) spos) env) ρ σ Q := fun A s ok S X hh => by
  rw [exec_Assign_Name_used _ _ _ _ hsw]
  refine wpAny_bind (wpAny_standAt (wpAny_bind ?_))
  show wpAny _ A (do let _ ← comprehension (.ListComp elt gens scope pos) scope env (firstIterPos gens pos) (newList []) (firstAsync gens) (firstIter gens env) (some (assign (.Name y py) env))) _ _ s
  refine wpAny_bind (wpAny_mono (comp_run (use := some (assign (.Name y py) env)) (QU := fun _ s' => Post prog w h₀ (Own env) FlowIs env σ s Q .next s') hgens ha hclos hkind hcell hnames hcl hclp hcap ok S X h (fun D C s' mC σ' q st S' X' hn ap hCs => ?_) hs) (fun _ s' hq => wpAny_pure (wpAny_pure hq)) fun _ _ e => e)
  show wpAny _ A (assign (.Name y py) env (.ref D)) _ _ _
  refine wpAny_assign_Name (WP.go (ownMod env) (wp_store (n := n) (H := [(.ref D, .loc D)]) (Q := fun _ ρ' σ'' => ρ' = (y, .loc D) :: ρ ∧ σ'' = σ') hy (.head _) ⟨rfl, rfl⟩) ok S' X' (fun _ hp => by rw [List.mem_singleton.mp hp]; exact .loc D) fun u s₂ c ρ₂ σ₂ st₂ S₂ X₂ hh₂ _ q₂ => ?_)
  obtain ⟨rfl, rfl⟩ := q₂
  have hn2 : s₂.heap.Ns C mC := by
    obtain ⟨o, es, ep, q1, r⟩ := hn
    exact ⟨o, es, ep, st₂.pres.2 C o (fun d => d.elim (fun ⟨o', e⟩ => by rw [ap.free C rfl] at e; cases e) (ap.frame C rfl)) q1, r⟩
  refine ⟨mC, hn2, fun h' hsb => ?_⟩
  obtain ⟨S₃, X₃⟩ := offStep S₂ X₂ ap hn2 hsb
  exact Post.of (stp_off ((Stp.mono st fun _ f => f.elim).andThen (ownMod env) st₂ X') hCs hsb) S₃ X₃ .next q
end

end Mine.Internal
end

section
namespace Mine.Internal

section
variable {prog : Program} {w : World} {h₀ : Heap} {n : Nat} {env : Env} {ρ : Loc} {σ : Store} {Q : Elems → (Store → Prop) → Store → Prop}

noncomputable def unownedTypes : List String := ["enumerate", "zip", "dict_itemiterator", "dict_reverseitemiterator", "odict_iterator", "itertools.zip_longest", "itertools.pairwise"]
theorem go_other {M : Model} {A : Around} {E : Value → Shared → Prop} {s : Shared} {target : Expr} {it : Addr} {v : Value} {T : String} {o : Obj} {vs : Array Value} {Q : Unit → Shared → Prop} (ho : s.heap.get? it = some o) (hc : o.cls = .type T) (hd : o.data = .fields vs) (hT : unownedTypes.contains T = false) (h : Q () s) :
    wpAny M A (letOwnedTupleGo target (.ref it) v) Q E s := by
  have key : unownedTypes.contains T = false := hT
  unfold unownedTypes at key
  unfold letOwnedTupleGo
  cases target <;> first | exact wpAny_pure h | (
    cases v <;> first | exact wpAny_pure h | (
      refine wpAny_bind (wpAny_load ho ?_)
      rw [hc, hd]
      dsimp only
      rw [key]
      simp only [Bool.false_and, Bool.false_eq_true, if_false]
      exact wpAny_pure h))

noncomputable def elemL (l : Addr) : Elems := fun σ i => match σ l with | some (.lst ys) => ys[i]? | _ => none
noncomputable def goodL (l : Addr) : Store → Prop := fun σ => ∃ ys, σ l = some (.lst ys)
theorem elemL_of {l : Addr} {σ : Store} {ys : List PV} (e : σ l = some (.lst ys)) (i : Nat) : elemL l σ i = ys[i]? := by unfold elemL; rw [e]
theorem itOk_list (target : Expr) (I l : Addr) : ItOk prog w h₀ target (.ref I) (fun a => a = I) (fun i h => h.IsListIter I l i) (fun i _ h => h.IsListIter I l (i + 1)) (elemL l) (goodL l) where
  keep := fun i h h' ⟨o, ho, r⟩ k => ⟨o, k I o rfl ho, r⟩
  live := fun i h a ⟨o, ho, hc, r⟩ e => by subst e; exact ⟨o, ho, by rw [hc]; decide⟩
  midlive := fun i v h a ⟨o, ho, hc, r⟩ e => by subst e; exact ⟨o, ho, by rw [hc]; decide⟩
  item := fun i σ A s Q x ⟨ys, e⟩ ok S k he hQ => by
    rw [elemL_of e] at he
    obtain ⟨vs, n, il, i1⟩ := S.objs _ _ e
    obtain ⟨v, hv, iv⟩ := i1.get he
    exact wpAny_pyNext_list_item k (Mine.Internal.IsL.isList il) (by simpa using hv) fun h' k' hs => hQ v h' s.toks (Pres.sameBut hs) k' fun kp => iv.keep kp
  done := fun i σ A s Q ⟨ys, e⟩ ok S k he hQ => by
    rw [elemL_of e] at he
    obtain ⟨vs, n, il, i1⟩ := S.objs _ _ e
    have hl := i1.length
    exact wpAny_pyNext_list_end ok.handled k (Mine.Internal.IsL.isList il) (by simp only [List.getElem?_eq_none_iff] at he; simp; (first | lia | omega)) fun h' hs => hQ h' s.toks (Pres.ext hs rfl)
  go := fun i v A s Q k hQ => by
    obtain ⟨o, ho, hc, hd⟩ := id k
    exact go_other ho hc hd (by decide) (hQ s.heap k Pres.refl)
  self := fun i A s Q k hQ => wpAny_pyIter_listiter k hQ

theorem newOwn {s s₁ : Shared} {σ₁ : Store} (st : Stp NoMod σ s σ₁ s₁) (S₁ : SRel prog w h₀ σ₁ s₁.heap) (X₁ : ERel h₀ env ρ σ₁ s₁.heap) {a : Addr} (e : s₁.heap.get? a = none) :
    (s.heap.get? a = none ∨ Dom σ a) ∧ h₀.get? a = none ∧ σ₁ a = none ∧ ¬ Own env a := by
  refine ⟨?_, ?_, free_of S₁ e, fun ho => ?_⟩
  · cases q : s.heap.get? a with
    | none => exact .inl rfl
    | some o =>
      by_cases hd : Dom σ a
      · exact .inr hd
      · have := st.pres.2 _ o (fun d => d.elim hd id) q
        rw [e] at this; cases this
  · cases q : h₀.get? a with
    | none => rfl
    | some o => have := S₁.base _ _ q; rw [e] at this; cases this
  · obtain ⟨ob, e2⟩ := X₁.alive ho
    rw [e] at e2; cases e2
theorem wi_list {target e : Expr} (h : WV prog w h₀ n env [] (eval e env) ρ σ fun x σ₁ => ∃ l ys, x = .loc l ∧ σ₁ l = some (.lst ys) ∧ Q (elemL l) (goodL l) σ₁) : WIter prog w h₀ n env target e ρ σ Q := fun A s Q' ok S X hQ =>
  WE.before h ok S X (H := []) (fun _ hp => by cases hp) fun v s₁ x σ₁ st S₁ X₁ hh₁ r q => by
    obtain ⟨l, ys, rfl, e, q⟩ := q
    cases r
    obtain ⟨vs, n, il, i1⟩ := S₁.objs _ _ e
    refine wpAny_pyIter_list (Mine.Internal.IsL.isList il) ?_
    have p : Pres NoMod s₁.heap (s₁.heap.push { cls := .type "list_iterator", data := .fields #[.ref l, .int 0 0] }) := Pres.refl.push _
    obtain ⟨S₂, X₂, hh₂, st₂⟩ := firmStep (H := []) S₁ X₁ (fun _ hp => by cases hp) p
    have nw := fun a (ha : a = s₁.heap.objs.size) => newOwn st S₁ X₁ (a := a) (by subst ha; exact fresh _)
    exact hQ _ _ σ₁ _ _ _ _ _ (st.andThen (noMod env) (st₂ s₁.toks NoMod) X₁) S₂ X₂ (itOk_list target s₁.heap.objs.size l) ⟨_, Heap.get?_push_size _ rfl, rfl, rfl⟩ (fun a ha => (nw a ha).1) ⟨fun a ha => (nw a ha).2.1, fun a ha => (nw a ha).2.2.1, fun a ha => (nw a ha).2.2.2⟩ q

noncomputable def elemS (x : Str) : Elems := fun _ i => (x.cps[i]?).map fun c => .str ⟨#[c]⟩
theorem itOk_str (target : Expr) (I : Addr) (x : Str) (t : Tok) : ItOk prog w h₀ target (.ref I) (fun a => a = I) (fun i h => h.IsStrIter I "str_ascii_iterator" x t i) (fun i _ h => h.IsStrIter I "str_ascii_iterator" x t (i + 1)) (elemS x) (fun _ => True) where
  keep := fun i h h' ⟨o, ho, r⟩ k => ⟨o, k I o rfl ho, r⟩
  live := fun i h a ⟨o, ho, hc, r⟩ e => by subst e; exact ⟨o, ho, by rw [hc]; decide⟩
  midlive := fun i v h a ⟨o, ho, hc, r⟩ e => by subst e; exact ⟨o, ho, by rw [hc]; decide⟩
  item := fun i σ A s Q y _ ok S k he hQ => by
    unfold elemS at he
    cases hc : x.cps[i]? with
    | none => rw [hc] at he; cases he
    | some c =>
      rw [hc] at he
      simp only [Option.map_some, Option.some.injEq] at he
      subst he
      exact wpAny_pyNext_ascii_item k hc fun h' k' hs => hQ _ h' _ (Pres.sameBut hs) k' fun kp => .str _ _
  done := fun i σ A s Q _ ok S k he hQ => by
    unfold elemS at he
    have hc : x.cps[i]? = none := by simpa using he
    exact wpAny_pyNext_ascii_end ok.handled k hc fun h' hs => hQ h' s.toks (Pres.ext hs rfl)
  go := fun i v A s Q k hQ => by
    obtain ⟨o, ho, hc, hd⟩ := id k
    exact go_other ho hc hd (by decide) (hQ s.heap k Pres.refl)
  self := fun i A s Q k hQ => by
    refine wpAny_pyIter_slot k.typeIs F.slot_str_ascii_iterator_iter (wpAny_call_entry F.slot_str_ascii_iterator_iter k.typeIs F.entry_str_ascii_iterator_iter ?_ (F.args_str_ascii_iterator_iter_1 _))
    show wpAny _ _ (ret (.ref I)) _ _ s
    exact wpAny_pure ⟨_, rfl, "str_ascii_iterator", _, k.typeIs, F.slot_str_ascii_iterator_next.lookup, hQ⟩
theorem wi_str {target e : Expr} (h : WV prog w h₀ n env [] (eval e env) ρ σ fun y σ₁ => ∃ x, y = .str x ∧ x.cps.all (· < 128) = true ∧ Q (elemS x) (fun _ => True) σ₁) : WIter prog w h₀ n env target e ρ σ Q := fun A s Q' ok S X hQ =>
  WE.before h ok S X (H := []) (fun _ hp => by cases hp) fun v s₁ x σ₁ st S₁ X₁ hh₁ r q => by
    obtain ⟨y, rfl, ha, q⟩ := q
    cases r with | str _ t => 
    refine wpAny_pyIter_ascii ha ?_
    have p : Pres NoMod s₁.heap (s₁.heap.push { cls := .type "str_ascii_iterator", data := .fields #[.str y t, .int 0 0] }) := Pres.refl.push _
    obtain ⟨S₂, X₂, hh₂, st₂⟩ := firmStep (H := []) S₁ X₁ (fun _ hp => by cases hp) p
    have nw := fun a (ha : a = s₁.heap.objs.size) => newOwn st S₁ X₁ (a := a) (by subst ha; exact fresh _)
    exact hQ _ _ σ₁ _ _ _ _ _ (st.andThen (noMod env) (st₂ s₁.toks NoMod) X₁) S₂ X₂ (itOk_str target s₁.heap.objs.size y t) ⟨_, Heap.get?_push_size _ rfl, rfl, rfl⟩ (fun a ha => (nw a ha).1) ⟨fun a ha => (nw a ha).2.1, fun a ha => (nw a ha).2.2.1, fun a ha => (nw a ha).2.2.2⟩ q

noncomputable def elemR (a b : Int) : Elems := fun _ i => if a + (i : Int) < b then some (.int (a + (i : Int))) else none
theorem itOk_range (target : Expr) (I : Addr) (a b : Int) : ItOk prog w h₀ target (.ref I) (fun c => c = I) (fun i h => (i : Int) ≤ max 0 (b - a) ∧ IsRangeIter h I (a + (i : Int) * 1) (max 0 (b - a) - (i : Int)) 1) (fun i _ h => ((i + 1 : Nat) : Int) ≤ max 0 (b - a) ∧ IsRangeIter h I (a + ((i + 1 : Nat) : Int) * 1) (max 0 (b - a) - ((i + 1 : Nat) : Int)) 1) (elemR a b) (fun _ => True) where
  keep := fun i h h' ⟨l, ho⟩ k => ⟨l, k I _ rfl ho⟩
  live := fun i h c ⟨l, ho⟩ e => by subst e; exact ⟨_, ho, by simp⟩
  midlive := fun i v h c ⟨l, ho⟩ e => by subst e; exact ⟨_, ho, by simp⟩
  item := fun i σ A s Q y _ ok S ⟨l, k⟩ he hQ => by
    unfold elemR at he
    split at he
    · rename_i hlt
      cases he
      refine wpAny_pyNext_range_item k (by omega) fun h' k' hs => hQ _ h' _ (Pres.sameBut hs) ⟨by omega, ?_⟩ fun kp => ?_
      · have e1 : a + ((i + 1 : Nat) : Int) * 1 = a + (i : Int) * 1 + 1 := by omega
        have e2 : max 0 (b - a) - ((i + 1 : Nat) : Int) = max 0 (b - a) - (i : Int) - 1 := by omega
        rw [e1, e2]; exact k'
      · exact .intEq (by omega)
    · cases he
  done := fun i σ A s Q _ ok S ⟨l, k⟩ he hQ => by
    unfold elemR at he
    split at he
    · cases he
    · exact wpAny_pyNext_range_end ok.handled k (by omega) fun h' hs => hQ h' s.toks (Pres.ext hs rfl)
  go := fun i v A s Q k hQ => go_other k.2 rfl rfl (by decide) (hQ s.heap k Pres.refl)
  self := fun i A s Q k hQ => by
    have hT : s.TypeIs (.ref I) "range_iterator" := ⟨_, k.2, rfl⟩
    refine wpAny_pyIter_slot hT F.slot_range_iterator_iter (wpAny_call_entry F.slot_range_iterator_iter hT F.entry_range_iterator_iter ?_ (F.args_range_iterator_iter_1 _))
    show wpAny _ _ (ret (.ref I)) _ _ s
    exact wpAny_pure ⟨_, rfl, "range_iterator", _, hT, F.slot_range_iterator_next.lookup, hQ⟩
theorem range_small {a b : Int} (ha : a.natAbs ≤ 1000000) (hb : b.natAbs ≤ 1000000) : Builtin.Range.small a b 1 = true ∧ Builtin.Range.rangeSize a b 1 = max 0 (b - a) := by
  have e : Builtin.Range.rangeSize a b 1 = max 0 (b - a) := by
    clear ha hb
    unfold Builtin.Range.rangeSize
    simp only [show ((1 : Int) > 0) = True from by simp, if_true]
    split <;> omega
  refine ⟨?_, e⟩
  have ha' : -1000000 ≤ a ∧ a ≤ 1000000 := by clear hb e; omega
  have hb' : -1000000 ≤ b ∧ b ≤ 1000000 := by clear ha ha' e; omega
  clear ha hb
  unfold Builtin.Range.small
  rw [e]
  unfold Builtin.Range.rangeFitsLong
  simp
  omega
theorem wi_range {target : Expr} {x : Str} {p pos : Pos} {args : List Expr} (g : GName prog w h₀ env ρ x (.type "range")) (h : WL prog w h₀ n env [] (spliced (backTo pos (starEach args env))) ρ σ fun xs σ₁ => ∃ a b, ((xs = [.int b] ∧ a = 0) ∨ xs = [.int a, .int b]) ∧ a.natAbs ≤ 1000000 ∧ b.natAbs ≤ 1000000 ∧ Q (elemR a b) (fun _ => True) σ₁)
    (hplain : autoParam ((backTo pos (starEach args env)).any (·.1) = false) Mine.Internal.au2) :
    WIter prog w h₀ n env target (.Call (.Name x p) args [] pos) ρ σ Q := fun A s Q' ok S X hQ =>
  Call_Name rfl (g A s σ p _ S X (callWith_split hplain (WE.before h ok S X (H := []) (fun _ hp => by cases hp) fun vs s₁ xs σ₁ st S₁ X₁ hh₁ r q => by
    obtain ⟨a, b, hx, ha, hb, q⟩ := q
    refine PyProof.Rows.callWith_type (by simp [pures]) (evalArgs_pures ?_)
    obtain ⟨sm, sz⟩ := range_small ha hb
    have fin : ∀ {t u v : Tok} {tk : Nat}, wpAny (model prog w) A (pyIter (.ref s₁.heap.objs.size)) Q' (fun _ _ => False) { s₁ with heap := s₁.heap.push { cls := .type "range", data := .fields #[.int a t, .int b u, .int 1 v] }, toks := tk } := by
      intro t u v tk
      refine wpAny_pyIter_range (a := a) (b := b) (c := 1) (t := t) (u := u) (v := v) (Heap.get?_push_size _ rfl) sm ?_
      rw [sz]
      have p1 : Pres NoMod s₁.heap ((s₁.heap.push { cls := .type "range", data := .fields #[.int a t, .int b u, .int 1 v] }).push { cls := .type "range_iterator", data := .fields #[rawInt a, rawInt (max 0 (b - a)), rawInt 1] }) := (Pres.refl.push _).push _
      obtain ⟨S₂, X₂, hh₂, st₂⟩ := firmStep (H := []) S₁ X₁ (fun _ hp => by cases hp) p1
      have nw := fun c (hc : c = (s₁.heap.push { cls := .type "range", data := .fields #[.int a t, .int b u, .int 1 v] }).objs.size) => newOwn st S₁ X₁ (a := c) (by subst hc; rw [Heap.size_push]; exact Heap.get?_none_of_le (Nat.le_succ _))
      refine hQ _ _ σ₁ _ _ _ _ _ (st.andThen (noMod env) (st₂ tk NoMod) X₁) S₂ X₂ (itOk_range target _ a b) ⟨by omega, ?_⟩ (fun a ha => (nw a ha).1) ⟨fun a ha => (nw a ha).2.1, fun a ha => (nw a ha).2.2.1, fun a ha => (nw a ha).2.2.2⟩ q
      have e1 : a + ((0 : Nat) : Int) * 1 = a := by omega
      have e2 : max 0 (b - a) - ((0 : Nat) : Int) = max 0 (b - a) := by omega
      rw [e1, e2]
      exact Heap.get?_push_size _ rfl
    rcases hx with ⟨rfl, rfl⟩ | rfl
    · cases r with | cons r1 r2 => cases r2; cases r1 with | int _ t => exact call_range_1 fin
    · cases r with | cons r1 r2 => cases r2 with | cons r2 r3 => cases r3; cases r1 with | int _ t => cases r2 with | int _ u => exact call_range_2 fin)))
end

end Mine.Internal
end

section
namespace Mine.Internal

section
variable {prog : Program} {w : World} {h₀ : Heap} {n : Nat} {env : Env} {ρ : Loc} {σ : Store} {Q : Elems → (Store → Prop) → Store → Prop}

noncomputable def elemE (l : Addr) : Elems := fun σ i => (elemL l σ i).map fun x => .tup [.int i, x]
end

end Mine.Internal
end

section
namespace Mine.Internal

section
variable {prog : Program} {w : World} {A : Around} {E : Value → Shared → Prop} {s : Shared} {d : Addr} {es : Array DictEntry} {ep : Nat}

theorem meets_values_ents (hd : (d == sysModules) = false) :
    MeetsIn prog w (Builtin.«dict.values» ⟨[.ref d], []⟩) (fun _ R s => Ents s.heap d es ep ∧ R (.ok (.ret (.ref s.heap.objs.size))) { s with heap := s.heap.push { cls := .type "dict_values", data := .fields #[.ref d] } }) :=
  .of_wp fun A R s ⟨hm, h⟩ => by
    refine wpAny_bind ?_
    unfold Builtin.Dict.noArgs
    refine wpAny_bind (wpAny_notOrdered_dict hm.typeIs (wpAny_pure ?_))
    show wpAny _ _ (Builtin.Dict.showsAll d >>= _) _ _ s
    unfold Builtin.Dict.showsAll
    rw [if_neg (by rw [hd]; exact Bool.false_ne_true)]
    exact wpAny_bind (wpAny_pure (wpAny_bind (wpAny_newObj_type (wpAny_pure ⟨_, rfl, h⟩))))
theorem meets_items_ents (hd : (d == sysModules) = false) :
    MeetsIn prog w (Builtin.«dict.items» ⟨[.ref d], []⟩) (fun _ R s => Ents s.heap d es ep ∧ R (.ok (.ret (.ref s.heap.objs.size))) { s with heap := s.heap.push { cls := .type "dict_items", data := .fields #[.ref d] } }) :=
  .of_wp fun A R s ⟨hm, h⟩ => by
    unfold Builtin.«dict.items»
    refine wpAny_bind ?_
    unfold Builtin.Dict.noArgs
    refine wpAny_bind (wpAny_notOrdered_dict hm.typeIs (wpAny_pure ?_))
    show wpAny _ _ (Builtin.Dict.showsAll d >>= _) _ _ s
    unfold Builtin.Dict.showsAll
    rw [if_neg (by rw [hd]; exact Bool.false_ne_true)]
    exact wpAny_bind (wpAny_pure (wpAny_bind (wpAny_newObj_type (wpAny_pure ⟨_, rfl, h⟩))))

theorem iter_values_ents {v : Addr} {Q : Value → Shared → Prop} (hv : s.heap.IsValuesView v d) (hm : Ents s.heap d es ep)
    (hQ : Q (.ref s.heap.objs.size) { s with heap := s.heap.push { cls := .type "dict_valueiterator", data := .fields #[.ref d, .int 0 0, .int es.size 0, .int ep 0] } }) :
    wpAny (model prog w) A (pyIter (.ref v)) Q E s := by
  obtain ⟨ov, hov, hcv, hdv⟩ := id hv
  obtain ⟨o, ho, hc, hdat⟩ := id hm
  refine wpAny_pyIter_slot hv.typeIs F.slot_dict_values_iter (wpAny_call_entry F.slot_dict_values_iter hv.typeIs F.entry_dict_values_iter ?_ (F.args_dict_values_iter_1 _))
  unfold Builtin.«dict_values.__iter__»
  refine wpAny_bind (wpAny_pure (wpAny_bind ?_))
  unfold Builtin.Dict_items.dictOf
  refine wpAny_bind (wpAny_field hov hdv (x := .ref d) rfl (wpAny_pure (wpAny_bind ?_)))
  unfold Builtin.Dict_items.newIterator
  refine wpAny_bind (wpAny_dictEntries ho hdat (wpAny_bind (wpAny_dictEpoch ho hdat ?_)))
  have hown : Builtin.Dict_items.ownsTuple "dict_valueiterator" = false := by decide
  simp -iota only [hown, Bool.false_eq_true, if_false]
  refine wpAny_newObj_type (wpAny_pure ⟨_, rfl, "dict_valueiterator", _, ⟨_, Heap.get?_push_size _ rfl, rfl⟩, F.slot_dict_valueiterator_next.lookup, ?_⟩)
  simpa [rawInt] using hQ
theorem iter_items_ents {v : Addr} {Q : Value → Shared → Prop} (hv : s.heap.IsItemsView v d) (hm : Ents s.heap d es ep)
    (hQ : Q (.ref s.heap.objs.size) { s with heap := s.heap.push { cls := .type "dict_itemiterator", data := .fields #[.none, .bool false, .ref d, .int 0 0, .int es.size 0, .int ep 0, .none, .none] } }) :
    wpAny (model prog w) A (pyIter (.ref v)) Q E s := by
  obtain ⟨ov, hov, hcv, hdv⟩ := id hv
  obtain ⟨o, ho, hc, hdat⟩ := id hm
  refine wpAny_pyIter_slot hv.typeIs F.slot_dict_items_iter (wpAny_call_entry F.slot_dict_items_iter hv.typeIs F.entry_dict_items_iter ?_ (F.args_dict_items_iter_1 _))
  unfold Builtin.«dict_items.__iter__»
  refine wpAny_bind (wpAny_pure (wpAny_bind ?_))
  unfold Builtin.Dict_items.dictOf
  refine wpAny_bind (wpAny_field hov hdv (x := .ref d) rfl (wpAny_pure (wpAny_bind ?_)))
  unfold Builtin.Dict_items.newIterator
  refine wpAny_bind (wpAny_dictEntries ho hdat (wpAny_bind (wpAny_dictEpoch ho hdat ?_)))
  have hown : Builtin.Dict_items.ownsTuple "dict_itemiterator" = true := by decide
  simp -iota only [hown, if_true]
  refine wpAny_newObj_type (wpAny_pure ⟨_, rfl, "dict_itemiterator", _, ⟨_, Heap.get?_push_size _ rfl, rfl⟩, F.slot_dict_itemiterator_next.lookup, ?_⟩)
    (by simp only [sizeOk, Builtin.Dict_items.ownedTupleFields, List.size_toArray, List.length_append, List.length_cons, List.length_nil, sizeLine_eq]; (first | lia | omega))
  simpa [rawInt, Builtin.Dict_items.ownedTupleFields] using hQ

theorem next_values_item {it : Addr} {i : Nat} {e : DictEntry} {Q : Option Value → Shared → Prop} (hit : s.heap.IsValIter it d i es.size ep) (hm : Ents s.heap d es ep) (hx : es[i]? = some e)
    (hQ : ∀ h', h'.IsValIter it d (i + 1) es.size ep → Heap.SameBut it s.heap h' → Q (some e.val) { s with heap := h' }) :
    wpAny (model prog w) A (pyNext (.ref it)) Q E s := by
  obtain ⟨o, ho, hc, hd⟩ := id hit
  obtain ⟨od, hod, hcd, hdd⟩ := id hm
  obtain ⟨hlt, he⟩ := Array.getElem?_eq_some_iff.mp hx
  unfold pyNext
  refine wpAny_bind (wpAny_attempt (wpAny_callSpecial?_slot (name := Str.ofString "__next__") hit.typeIs F.slot_dict_valueiterator_next
    (wpAny_call_entry F.slot_dict_valueiterator_next hit.typeIs F.entry_dict_valueiterator_next ?_ (F.args_dict_valueiterator_next_1 _))))
  refine wpAny_bind (wpAny_pure (wpAny_bind (wpAny_bind ?_)))
  first | refine wpAny_bind (wpAny_typeNameOfWhole_valiter hit.typeIs (wpAny_pure ?_)) | refine wpAny_bind (wpAny_typeNameOf_valiter hit.typeIs (wpAny_pure ?_))
  refine wpAny_bind (wpAny_fieldsOf ho hd ?_)
  have hown : Builtin.Dict_items.ownsTuple "dict_valueiterator" = false := by decide
  simp -iota only [hown, Bool.false_eq_true, if_false]
  show wpAny _ _ (if (Value.ref d == Value.none) = true then _ else _) _ _ s
  rw [if_neg (show ¬ ((Value.ref d == Value.none) = true) from Bool.false_ne_true)]
  refine wpAny_bind (wpAny_pure (wpAny_bind (wpAny_dictEntries hod hdd ?_)))
  rw [if_neg (by simp)]
  refine wpAny_bind (wpAny_pure (wpAny_bind (wpAny_dictEpoch hod hdd ?_)))
  rw [if_neg (by simp)]
  refine wpAny_pure ?_
  simp only [show ¬ ((i : Int) < 0) from by (first | lia | omega), if_false, Int.toNat_natCast, hx]
  refine wpAny_bind ?_
  first | refine wpAny_bind (wpAny_typeNameOfWhole_valiter hit.typeIs (wpAny_pure ?_)) | refine wpAny_bind (wpAny_typeNameOf_valiter hit.typeIs (wpAny_pure ?_))
  refine wpAny_bind (wpAny_isOneOf_valiter hit.typeIs ?_)
  show wpAny _ _ (setField (.ref it) 1 (rawInt ((i : Int) + 1)) >>= _) _ _ s
  refine wpAny_bind (wpAny_setField ho hd (by simp) ?_)
  have hit' : (s.heap.update it (Obj.mapFields (·.setIfInBounds 1 (rawInt ((i : Int) + 1))))).IsValIter it d (i + 1) es.size ep :=
    ⟨_, Heap.get?_update_self _ ho (Obj.isFreed_of_fields (Obj.data_mapFields hd _)), (Obj.cls_mapFields ..).trans hc, by rw [Obj.data_mapFields hd]; simp [rawInt]⟩
  refine wpAny_bind (wpAny_holding ?_)
  refine wpAny_bind (wpAny_isOneOf_valiter (s := { s with heap := s.heap.update it (Obj.mapFields (·.setIfInBounds 1 (rawInt ((i : Int) + 1)))) }) hit'.typeIs ?_)
  refine wpAny_bind (wpAny_isOneOf_valiter (s := { s with heap := s.heap.update it (Obj.mapFields (·.setIfInBounds 1 (rawInt ((i : Int) + 1)))) }) hit'.typeIs ?_)
  show wpAny _ _ (pure e.val) _ _ _
  exact wpAny_pure (wpAny_pure ⟨_, rfl, wpAny_pure (hQ _ hit' (Heap.SameBut.update ..))⟩)
theorem next_values_end {it : Addr} {i : Nat} {Q : Option Value → Shared → Prop} (hh : A.handled = none) (hit : s.heap.IsValIter it d i es.size ep) (hm : Ents s.heap d es ep) (hx : es[i]? = none)
    (hQ : ∀ h', Heap.ExtBut it s.heap h' → Q none { s with heap := h' }) : wpAny (model prog w) A (pyNext (.ref it)) Q E s := by
  obtain ⟨o, ho, hc, hd⟩ := id hit
  obtain ⟨od, hod, hcd, hdd⟩ := id hm
  unfold pyNext
  refine wpAny_bind (wpAny_attempt (wpAny_callSpecial?_slot (name := Str.ofString "__next__") hit.typeIs F.slot_dict_valueiterator_next
    (wpAny_call_entry F.slot_dict_valueiterator_next hit.typeIs F.entry_dict_valueiterator_next ?_ (F.args_dict_valueiterator_next_1 _))))
  refine wpAny_bind (wpAny_pure (wpAny_bind (wpAny_bind ?_)))
  first | refine wpAny_bind (wpAny_typeNameOfWhole_valiter hit.typeIs (wpAny_pure ?_)) | refine wpAny_bind (wpAny_typeNameOf_valiter hit.typeIs (wpAny_pure ?_))
  refine wpAny_bind (wpAny_fieldsOf ho hd ?_)
  have hown : Builtin.Dict_items.ownsTuple "dict_valueiterator" = false := by decide
  simp -iota only [hown, Bool.false_eq_true, if_false]
  show wpAny _ _ (if (Value.ref d == Value.none) = true then _ else _) _ _ s
  rw [if_neg (show ¬ ((Value.ref d == Value.none) = true) from Bool.false_ne_true)]
  refine wpAny_bind (wpAny_pure (wpAny_bind (wpAny_dictEntries hod hdd ?_)))
  rw [if_neg (by simp)]
  refine wpAny_bind (wpAny_pure (wpAny_bind (wpAny_dictEpoch hod hdd ?_)))
  rw [if_neg (by simp)]
  refine wpAny_pure ?_
  simp only [show ¬ ((i : Int) < 0) from by (first | lia | omega), if_false, Int.toNat_natCast, hx]
  refine wpAny_bind ?_
  first | refine wpAny_bind (wpAny_typeNameOfWhole_valiter hit.typeIs (wpAny_pure ?_)) | refine wpAny_bind (wpAny_typeNameOf_valiter hit.typeIs (wpAny_pure ?_))
  show wpAny _ _ (setField (.ref it) 0 .none >>= _) _ _ s
  refine wpAny_bind (wpAny_setField ho hd (by simp) ?_)
  show wpAny _ _ (newExc (.type "StopIteration") [] >>= _) _ _ _
  refine wpAny_bind ?_
  simp -iota only [newExc, newTuple]
  refine wpAny_bind (wpAny_newObj_type ?_ (by size_fits))
  refine wpAny_bind (m := firstArgMember _ _) (wpAny_of_eq (a := Value.none) (by first | rfl | (simp -iota only [firstArgMember]; rfl)) ?_)
  refine wpAny_newObj_type ?_ (by size_fits)
  simp -iota only [raiseNew]
  refine wpAny_bind (wpAny_handled ?_)
  rw [show A.in1.handled = none from hh]
  refine wpAny_bind (wpAny_pure (wpAny_throw ?_))
  refine wpAny_bind (wpAny_isInstance (T := "StopIteration") (b := true) ⟨_, Heap.get?_push_size _ rfl, rfl⟩ isSubtype_stop ?_)
  exact wpAny_pure (hQ _ (((Heap.SameBut.update ..).extBut.push _).push _))

abbrev ItemIt (h : Heap) (it d : Addr) (i n ep : Nat) (f0 f1 ok ov : Value) : Prop :=
  h.get? it = some { cls := .type "dict_itemiterator", dict := none, data := .fields #[f0, f1, .ref d, .int i 0, .int n 0, .int ep 0, ok, ov], slots := #[] }
theorem next_items_any {it : Addr} {i : Nat} {e : DictEntry} {f0 f1 ok ov : Value} {Q : Option Value → Shared → Prop} (hit : ItemIt s.heap it d i es.size ep f0 f1 ok ov) (hm : Ents s.heap d es ep) (hx : es[i]? = some e)
    (hf : (f0 = .none ∧ f1 = .bool false) ∨ ∃ a oa f, f0 = rawInt ((a : Nat) : Int) ∧ f1 = .bool f ∧ s.heap.get? a = some oa ∧ a ≠ it)
    (q1 : f0 = .none → ∀ h', IsItemIterOut h' it d (i + 1) es.size ep e.key e.val s.heap.objs.size → h'.get? s.heap.objs.size = some { cls := .type "tuple", data := .seq #[e.key, e.val] } →
      (∀ b o, b ≠ it → s.heap.get? b = some o → h'.get? b = some o) → Q (some (.ref s.heap.objs.size)) { s with heap := h' })
    (q2 : f0 ≠ .none → ∀ h', ItemIt h' it d (i + 1) es.size ep f0 (.bool true) ok ov → h'.get? s.heap.objs.size = some { cls := .type "tuple", data := .seq #[e.key, e.val] } →
      (∀ b o, b ≠ it → s.heap.get? b = some o → h'.get? b = some o) → Q (some (.ref s.heap.objs.size)) { s with heap := h' }) :
    wpAny (model prog w) A (pyNext (.ref it)) Q E s := by
  obtain ⟨hp, g, dr, tk, os⟩ := s
  obtain ⟨od, hod, hcd, hdd⟩ := id hm
  obtain ⟨hlt, he⟩ := Array.getElem?_eq_some_iff.mp hx
  have hT : Shared.TypeIs ⟨hp, g, dr, tk, os⟩ (.ref it) "dict_itemiterator" := ⟨_, hit, rfl⟩
  unfold pyNext
  refine wpAny_bind (wpAny_attempt (wpAny_callSpecial?_slot (name := Str.ofString "__next__") hT F.slot_dict_itemiterator_next
    (wpAny_call_entry F.slot_dict_itemiterator_next hT F.entry_dict_itemiterator_next ?_ (F.args_dict_itemiterator_next_1 _))))
  refine wpAny_bind (wpAny_pure (wpAny_bind (wpAny_bind ?_)))
  first | refine wpAny_bind (wpAny_typeNameOfWhole_itemiter hT (wpAny_pure ?_)) | refine wpAny_bind (wpAny_typeNameOf_itemiter hT (wpAny_pure ?_))
  refine wpAny_bind (wpAny_fieldsOf hit rfl ?_)
  have hown : Builtin.Dict_items.ownsTuple "dict_itemiterator" = true := by decide
  simp -iota only [hown, if_true]
  show wpAny _ _ (if (Value.ref d == Value.none) = true then _ else _) _ _ _
  rw [if_neg (show ¬ ((Value.ref d == Value.none) = true) from Bool.false_ne_true)]
  refine wpAny_bind (wpAny_pure (wpAny_bind (wpAny_dictEntries hod hdd ?_)))
  rw [if_neg (by simp)]
  refine wpAny_bind (wpAny_pure (wpAny_bind (wpAny_dictEpoch hod hdd ?_)))
  rw [if_neg (by simp)]
  refine wpAny_pure ?_
  simp only [show ¬ ((i : Int) < 0) from by (first | lia | omega), if_false, Int.toNat_natCast, hx]
  refine wpAny_bind ?_
  first | refine wpAny_bind (wpAny_typeNameOfWhole_itemiter hT (wpAny_pure ?_)) | refine wpAny_bind (wpAny_typeNameOf_itemiter hT (wpAny_pure ?_))
  refine wpAny_bind (wpAny_isOneOf_itemiter hT ?_)
  show wpAny _ _ (setField (.ref it) 3 (rawInt ((i : Int) + 1)) >>= _) _ _ ⟨hp, g, dr, tk, os⟩
  refine wpAny_bind (wpAny_setField_rec hit (by simp) fun h₁ he₁ hs₁ => ?_)
  replace hs₁ : Heap.SameBut it hp h₁ := hs₁
  replace he₁ : ItemIt h₁ it d (i + 1) es.size ep f0 f1 ok ov := by
    have e : ((i + 1 : Nat) : Int) = (i : Int) + 1 := by (first | lia | omega)
    unfold ItemIt; rw [e]; simpa [rawInt] using he₁
  have hT₁ : Shared.TypeIs ⟨h₁, g, dr, tk, os⟩ (.ref it) "dict_itemiterator" := ⟨_, he₁, rfl⟩
  refine wpAny_bind (wpAny_holding (wpAny_bind (wpAny_isOneOf_itemiter hT₁ (wpAny_bind (wpAny_isOneOf_itemiter hT₁ ?_)))))
  show wpAny _ _ (Builtin.Dict_items.pairFromOwner (.ref it) 6 e.key e.val) _ _ ⟨h₁, g, dr, tk, os⟩
  unfold Builtin.Dict_items.pairFromOwner
  refine wpAny_bind (wpAny_newTuple ?_)
  have he₂ : ItemIt (h₁.push { cls := .type "tuple", data := .seq #[e.key, e.val] }) it d (i + 1) es.size ep f0 f1 ok ov := Heap.get?_push_of_some _ he₁
  generalize hh₂ : h₁.push { cls := .type "tuple", data := .seq #[e.key, e.val] } = h₂ at he₂
  have hz₁ : h₁.objs.size = hp.objs.size := hs₁.1
  have hil : it < hp.objs.size := Heap.lt_size hit
  have ht₂ : h₂.get? hp.objs.size = some { cls := .type "tuple", data := .seq #[e.key, e.val] } := by rw [← hh₂, ← hz₁]; exact Heap.get?_push_size _ rfl
  have hk₂ : ∀ b o, b ≠ it → hp.get? b = some o → h₂.get? b = some o := fun b o hb e => by rw [← hh₂]; exact Heap.get?_push_of_some _ (hs₁.extBut b o hb e)
  show wpAny _ _ (Builtin.Dict_items.ownedTupleIsFree (.ref it) >>= _) _ _ ⟨h₂, g, dr, tk, os⟩
  rw [hz₁]
  clear hh₂ he₁ hs₁ hT₁ hz₁ h₁
  have hne : hp.objs.size ≠ it := Nat.ne_of_gt hil
  rcases hf with ⟨rfl, rfl⟩ | ⟨a, oa, f, rfl, rfl, hoa, hai⟩
  · refine wpAny_bind ?_
    unfold Builtin.Dict_items.ownedTupleIsFree
    refine wpAny_bind (wpAny_field he₂ rfl (x := .none) rfl (wpAny_pure ?_))
    simp only [if_true]
    refine wpAny_bind (wpAny_field he₂ rfl (x := ok) rfl ?_)
    refine wpAny_bind (wpAny_field he₂ rfl (x := ov) rfl ?_)
    refine wpAny_bind (wpAny_setField_rec he₂ (by simp) fun h₃ he₃ hs₃ => ?_)
    replace hs₃ : Heap.SameBut it h₂ h₃ := hs₃
    replace he₃ : IsItemIter h₃ it d (i + 1) es.size ep e.key ov := he₃
    refine wpAny_bind (wpAny_setField_rec he₃ (by simp) fun h₄ he₄ hs₄ => ?_)
    replace hs₄ : Heap.SameBut it h₃ h₄ := hs₄
    replace he₄ : IsItemIter h₄ it d (i + 1) es.size ep e.key e.val := he₄
    refine wpAny_bind (wpAny_setField_rec he₄ (by simp) fun h₅ he₅ hs₅ => ?_)
    replace hs₅ : Heap.SameBut it h₄ h₅ := hs₅
    replace he₅ : IsItemIterOut h₅ it d (i + 1) es.size ep e.key e.val hp.objs.size := he₅
    refine wpAny_bind (wpAny_setField_rec he₅ (by simp) fun h₆ he₆ hs₆ => ?_)
    replace hs₆ : Heap.SameBut it h₅ h₆ := hs₆
    replace he₆ : IsItemIterOut h₆ it d (i + 1) es.size ep e.key e.val hp.objs.size := he₆
    exact wpAny_bind (wpAny_letGo (wpAny_pure (wpAny_pure ⟨_, rfl, wpAny_pure (q1 rfl h₆ he₆ (hs₆.extBut _ _ hne (hs₅.extBut _ _ hne (hs₄.extBut _ _ hne (hs₃.extBut _ _ hne ht₂))))
      fun b o hb e => hs₆.extBut b o hb (hs₅.extBut b o hb (hs₄.extBut b o hb (hs₃.extBut b o hb (hk₂ b o hb e)))))⟩)))
  · have hoa₂ := hk₂ a oa hai hoa
    have q2 := q2 (fun e => by cases e)
    refine wpAny_bind ?_
    unfold Builtin.Dict_items.ownedTupleIsFree
    refine wpAny_bind (wpAny_field he₂ rfl (x := rawInt (a : Int)) rfl ?_)
    show wpAny _ _ (loadIfAlive ((a : Int).toNat) >>= _) _ _ _
    rw [Int.toNat_natCast]
    refine wpAny_bind (kdx_alive (s := ⟨h₂, g, dr, tk, os⟩) hoa₂ ?_)
    simp only [Option.isNone_some, Bool.false_eq_true, if_false]
    refine wpAny_bind (wpAny_field he₂ rfl (x := .bool f) rfl ?_)
    by_cases hft : f = true
    · subst hft
      refine (wpAny_ite_split (fun h => absurd h (by simp)) fun _ => wpAny_pure ?_)
      simp only [Bool.false_eq_true, if_false]
      exact wpAny_pure (wpAny_pure ⟨_, rfl, wpAny_pure (q2 h₂ he₂ ht₂ hk₂)⟩)
    · have hff : f = false := by simpa using hft
      subst hff
      refine (wpAny_ite_split (fun _ => ?_) fun h => absurd rfl h)
      refine wpAny_bind (wpAny_setField_rec he₂ (by simp) fun h₃ he₃ hs₃ => ?_)
      refine wpAny_pure ?_
      simp only [Bool.false_eq_true, if_false]
      exact wpAny_pure (wpAny_pure ⟨_, rfl, wpAny_pure (q2 h₃ he₃ (hs₃.extBut _ _ hne ht₂) fun b o hb e => hs₃.extBut b o hb (hk₂ b o hb e))⟩)
theorem next_items_item {it : Addr} {i : Nat} {e : DictEntry} {ok ov : Value} {Q : Option Value → Shared → Prop} (hit : IsItemIter s.heap it d i es.size ep ok ov) (hm : Ents s.heap d es ep) (hx : es[i]? = some e)
    (hQ : ∀ h', IsItemIterOut h' it d (i + 1) es.size ep e.key e.val s.heap.objs.size → h'.get? s.heap.objs.size = some { cls := .type "tuple", data := .seq #[e.key, e.val] } →
      (∀ b o, b ≠ it → s.heap.get? b = some o → h'.get? b = some o) → Q (some (.ref s.heap.objs.size)) { s with heap := h' }) :
    wpAny (model prog w) A (pyNext (.ref it)) Q E s := next_items_any hit hm hx (.inl ⟨rfl, rfl⟩) (fun _ => hQ) fun h => absurd rfl h
theorem next_items_end {it : Addr} {i : Nat} {f0 f1 ok ov : Value} {Q : Option Value → Shared → Prop} (hh : A.handled = none) (hit : ItemIt s.heap it d i es.size ep f0 f1 ok ov) (hm : Ents s.heap d es ep) (hx : es[i]? = none)
    (hQ : ∀ h', Heap.ExtBut it s.heap h' → Q none { s with heap := h' }) : wpAny (model prog w) A (pyNext (.ref it)) Q E s := by
  obtain ⟨od, hod, hcd, hdd⟩ := id hm
  have hT : s.TypeIs (.ref it) "dict_itemiterator" := ⟨_, hit, rfl⟩
  unfold pyNext
  refine wpAny_bind (wpAny_attempt (wpAny_callSpecial?_slot (name := Str.ofString "__next__") hT F.slot_dict_itemiterator_next
    (wpAny_call_entry F.slot_dict_itemiterator_next hT F.entry_dict_itemiterator_next ?_ (F.args_dict_itemiterator_next_1 _))))
  refine wpAny_bind (wpAny_pure (wpAny_bind (wpAny_bind ?_)))
  first | refine wpAny_bind (wpAny_typeNameOfWhole_itemiter hT (wpAny_pure ?_)) | refine wpAny_bind (wpAny_typeNameOf_itemiter hT (wpAny_pure ?_))
  refine wpAny_bind (wpAny_fieldsOf hit rfl ?_)
  have hown : Builtin.Dict_items.ownsTuple "dict_itemiterator" = true := by decide
  simp -iota only [hown, if_true]
  show wpAny _ _ (if (Value.ref d == Value.none) = true then _ else _) _ _ s
  rw [if_neg (show ¬ ((Value.ref d == Value.none) = true) from Bool.false_ne_true)]
  refine wpAny_bind (wpAny_pure (wpAny_bind (wpAny_dictEntries hod hdd ?_)))
  rw [if_neg (by simp)]
  refine wpAny_bind (wpAny_pure (wpAny_bind (wpAny_dictEpoch hod hdd ?_)))
  rw [if_neg (by simp)]
  refine wpAny_pure ?_
  simp only [show ¬ ((i : Int) < 0) from by (first | lia | omega), if_false, Int.toNat_natCast, hx]
  refine wpAny_bind ?_
  first | refine wpAny_bind (wpAny_typeNameOfWhole_itemiter hT (wpAny_pure ?_)) | refine wpAny_bind (wpAny_typeNameOf_itemiter hT (wpAny_pure ?_))
  show wpAny _ _ (setField (.ref it) 2 .none >>= _) _ _ s
  refine wpAny_bind (wpAny_setField hit rfl (by simp) ?_)
  show wpAny _ _ (newExc (.type "StopIteration") [] >>= _) _ _ _
  refine wpAny_bind ?_
  simp -iota only [newExc, newTuple]
  refine wpAny_bind (wpAny_newObj_type ?_ (by size_fits))
  refine wpAny_bind (m := firstArgMember _ _) (wpAny_of_eq (a := Value.none) (by first | rfl | (simp -iota only [firstArgMember]; rfl)) ?_)
  refine wpAny_newObj_type ?_ (by size_fits)
  simp -iota only [raiseNew]
  refine wpAny_bind (wpAny_handled ?_)
  rw [show A.in1.handled = none from hh]
  refine wpAny_bind (wpAny_pure (wpAny_throw ?_))
  refine wpAny_bind (wpAny_isInstance (T := "StopIteration") (b := true) ⟨_, Heap.get?_push_size _ rfl, rfl⟩ isSubtype_stop ?_)
  exact wpAny_pure (hQ _ (((Heap.SameBut.update ..).extBut.push _).push _))
end

end Mine.Internal
end

section
namespace Mine.Internal

section
variable {prog : Program} {w : World} {h₀ : Heap} {n : Nat} {env : Env} {ρ : Loc} {σ : Store} {Q : Elems → (Store → Prop) → Store → Prop}

noncomputable def elemD (f : PV × PV → PV) (d : Addr) : Elems := fun σ i => match σ d with | some (.dx _ _ es) => (es[i]?).map f | _ => none
noncomputable def goodD (d : Addr) (ob : Obj) (T : Ty) (es : List (PV × PV)) : Store → Prop := fun σ => σ d = some (.dx ob T es)
theorem elemD_of {f : PV × PV → PV} {d : Addr} {σ : Store} {ob : Obj} {T : Ty} {es : List (PV × PV)} (e : σ d = some (.dx ob T es)) (i : Nat) : elemD f d σ i = (es[i]?).map f := by unfold elemD; rw [e]
theorem dx_ents {h : Heap} {d : Addr} {ob : Obj} {T : Ty} {es : List (PV × PV)} {ents : Array DictEntry} {ep : Nat} (x : Rep prog w h d (.dx ob T es)) (hd : ob.data = .dict ents ep) :
    Ents h d ents ep ∧ ents.size = es.length ∧ ∀ (i : Nat) (p : PV × PV), es[i]? = some p → ∃ e : DictEntry, ents[i]? = some e ∧ Is h e.key p.1 ∧ Is h e.val p.2 := by
  obtain ⟨hg, hs, kvs, ⟨ob', ents', ep', ho, hx, hd', he, his, hn⟩, h1, h2⟩ := x
  rw [hg] at ho; cases ho
  rw [hd] at hd'; cases hd'
  have hk : kvs.length = es.length := by simpa using congrArg List.length h1
  have hsz : ents.size = kvs.length := by
    have : ents.toList.length = kvs.length := by rw [he]; simp
    simpa using this
  refine ⟨⟨ob, hg, hx, hd⟩, by (first | lia | omega), fun i p hp => ?_⟩
  obtain ⟨hlt, _⟩ := List.getElem?_eq_some_iff.mp hp
  have hlt' : i < kvs.length := by (first | lia | omega)
  have e1 : kvs[i].1 = p.1 := by
    have := congrArg (fun l => l[i]?) h1
    simp only [List.getElem?_map, hp, List.getElem?_eq_getElem hlt', Option.map_some, Option.some.injEq] at this
    exact this
  have e2 : ents[i]? = some (@entryOfKey prog w PV PV.decEq (tupKind prog w T) kvs[i]) := by
    have := congrArg (fun l => l[i]?) he
    simpa [List.getElem?_eq_getElem hlt'] using this
  refine ⟨_, e2, ?_, ?_⟩
  · have := (his kvs[i] (List.getElem_mem hlt')).1
    rw [e1] at this
    exact this
  · obtain ⟨v, hv, iv⟩ := h2.get (i := i) (x := p.2) (by simp [hp])
    simp only [List.getElem?_map, List.getElem?_eq_getElem hlt', Option.map_some, Option.some.injEq] at hv
    rw [← hv] at iv
    exact iv

theorem itOk_values (target : Expr) (I d : Addr) {ob : Obj} {T : Ty} {es : List (PV × PV)} {ents : Array DictEntry} {ep : Nat} (hd : ob.data = .dict ents ep) :
    ItOk prog w h₀ target (.ref I) (fun a => a = I) (fun i h => h.IsValIter I d i ents.size ep) (fun i _ h => h.IsValIter I d (i + 1) ents.size ep) (elemD (·.2) d) (goodD d ob T es) where
  keep := fun i h h' ⟨o, ho, r⟩ k => ⟨o, k I o rfl ho, r⟩
  live := fun i h a ⟨o, ho, hc, r⟩ e => by subst e; exact ⟨o, ho, by rw [hc]; decide⟩
  midlive := fun i v h a ⟨o, ho, hc, r⟩ e => by subst e; exact ⟨o, ho, by rw [hc]; decide⟩
  item := fun i σ A s Q x e ok S k he hQ => by
    rw [elemD_of e] at he
    cases hp : es[i]? with
    | none => rw [hp] at he; cases he
    | some p =>
      rw [hp] at he
      simp only [Option.map_some, Option.some.injEq] at he
      subst he
      obtain ⟨hm, hsz, hget⟩ := dx_ents (S.objs _ _ e) hd
      obtain ⟨en, hen, ik, iv⟩ := hget i p hp
      exact next_values_item k hm hen fun h' k' hs => hQ _ h' s.toks (Pres.sameBut hs) k' fun kp => iv.keep kp
  done := fun i σ A s Q e ok S k he hQ => by
    rw [elemD_of e] at he
    have hp : es[i]? = none := by simpa using he
    obtain ⟨hm, hsz, hget⟩ := dx_ents (S.objs _ _ e) hd
    exact next_values_end ok.handled k hm (by simp only [List.getElem?_eq_none_iff] at hp; simp; (first | lia | omega)) fun h' hs => hQ h' s.toks (Pres.ext hs rfl)
  go := fun i v A s Q k hQ => by
    obtain ⟨o, ho, hc, hd⟩ := id k
    exact go_other ho hc hd (by decide) (hQ s.heap k Pres.refl)
  self := fun i A s Q k hQ => by
    exact wpAny_pyIter_valiter k hQ
theorem entry_itemiter_iter : entryFor table "dict_itemiterator.__iter__" = some Builtin.«dict_keyiterator.__iter__» :=
  entryFor_alias (id' := "dict_keyiterator.__iter__") (by kernel_rfl) rfl (by decide +kernel) (by kernel_rfl)
theorem itOk_items (elts : List Expr) (tk : Nat) (tpos : Pos) (I d : Addr) {ob : Obj} {T : Ty} {es : List (PV × PV)} {ents : Array DictEntry} {ep : Nat} (hd : ob.data = .dict ents ep) :
    ItOk prog w h₀ (.Tuple elts tk tpos) (.ref I) (fun a => a = I) (fun i h => ∃ ok ov, IsItemIter h I d i ents.size ep ok ov) (fun i v h => ∃ ok ov a, IsItemIterOut h I d (i + 1) ents.size ep ok ov a ∧ v = .ref a)
      (elemD (fun p => .tup [p.1, p.2]) d) (goodD d ob T es) where
  keep := fun i h h' ⟨ok, ov, k1⟩ k => ⟨ok, ov, k I _ rfl k1⟩
  live := fun i h a ⟨ok, ov, k1⟩ e => by subst e; exact ⟨_, k1, by simp⟩
  midlive := fun i v h a ⟨ok, ov, b, k1, _⟩ e => by subst e; exact ⟨_, k1, by simp⟩
  item := fun i σ A s Q x e ok S ⟨k0, v0, k⟩ he hQ => by
    rw [elemD_of e] at he
    cases hp : es[i]? with
    | none => rw [hp] at he; cases he
    | some p =>
      rw [hp] at he
      simp only [Option.map_some, Option.some.injEq] at he
      subst he
      obtain ⟨hm, hsz, hget⟩ := dx_ents (S.objs _ _ e) hd
      obtain ⟨en, hen, ik, iv⟩ := hget i p hp
      refine next_items_item k hm hen fun h' k' ht hk => hQ _ h' s.toks ⟨trivial, fun b o nb eb => hk b o nb eb⟩ ⟨_, _, _, k', rfl⟩ fun kp => ?_
      exact .tup (vs := [en.key, en.val]) (n := 0) (by simpa using ht) (.cons (ik.keep kp) (.cons (iv.keep kp) .nil))
  done := fun i σ A s Q e ok S ⟨k0, v0, k⟩ he hQ => by
    rw [elemD_of e] at he
    have hp : es[i]? = none := by simpa using he
    obtain ⟨hm, hsz, hget⟩ := dx_ents (S.objs _ _ e) hd
    exact next_items_end ok.handled k hm (by simp only [List.getElem?_eq_none_iff] at hp; simp; (first | lia | omega)) fun h' hs => hQ h' s.toks (Pres.ext hs rfl)
  go := fun i v A s Q ⟨ok, ov, a, k1, e1⟩ hQ => by
    subst e1
    exact wpAny_letOwnedTupleGo_items k1 fun h' ke hs => hQ h' ⟨_, _, ke⟩ (Pres.sameBut hs)
  self := fun i A s Q ⟨ok, ov, k⟩ hQ => by
    have hT : s.TypeIs (.ref I) "dict_itemiterator" := ⟨_, k, rfl⟩
    refine wpAny_pyIter_slot hT F.slot_dict_itemiterator_iter (wpAny_call_entry F.slot_dict_itemiterator_iter hT entry_itemiter_iter ?_ (F.args_dict_itemiterator_iter_1 _))
    show wpAny _ _ (ret (.ref I)) _ _ s
    exact wpAny_pure ⟨_, rfl, "dict_itemiterator", _, hT, F.slot_dict_itemiterator_next.lookup, hQ⟩

theorem exactly {s : Heap} {d : Addr} {T : Ty} {es : List (PV × PV)} (S : SRel prog w h₀ σ s) (e : σ d = some (.dt T es)) : ∃ ob ents ep, ob.data = .dict ents ep ∧ Ents s d ents ep ∧ (d == sysModules) = false ∧ ents.size = es.length ∧ SRel prog w h₀ (upd σ d (.dx ob T es)) s := by
  have r := S.objs _ _ e
  obtain ⟨hs, kvs, ⟨ob, ents, ep, ho, hx, hd, he, his, hn⟩, h1, h2⟩ := id r
  have r' : Rep prog w s d (.dx ob T es) := ⟨ho, r⟩
  refine ⟨ob, ents, ep, hd, ⟨ob, ho, hx, hd⟩, hs, (dx_ents r' hd).2.1, S.base, trivial, fun a o ea => ?_, fun a o ea => ?_⟩
  · by_cases ha : a = d
    · subst ha; rw [upd_same] at ea; cases ea; exact r'
    · rw [upd_ne _ _ ha] at ea; exact S.objs a o ea
  · by_cases ha : a = d
    · subst ha; exact S.off _ _ e
    · rw [upd_ne _ _ ha] at ea; exact S.off a o ea
theorem ERel.same {σ σ' : Store} {h : Heap} (X : ERel h₀ env ρ σ h) (e : ∀ a, σ a = none → σ' a = none) : ERel h₀ env ρ σ' h :=
  ⟨X.kind, X.glob, X.bins, X.ns, ⟨X.nsoff.1, e _ X.nsoff.2⟩, fun p hp => ⟨(X.cells p hp).1, (X.cells p hp).2.1, e _ (X.cells p hp).2.2.1, (X.cells p hp).2.2.2⟩, X.apart, X.vars⟩
theorem upd_none {σ : Store} {d a : Addr} {o o' : MObj} (e : σ d = some o) (h : σ a = none) : upd σ d o' a = none := by
  rw [upd_ne _ _ (fun q => by rw [q, e] at h; cases h)]; exact h

theorem wi_values {target o : Expr} {apos pos : Pos} (h : WV prog w h₀ n env [] (eval o env) ρ σ fun x σ₁ => ∃ d T es, x = .loc d ∧ σ₁ d = some (.dt T es) ∧ ∀ ob, Q (elemD (·.2) d) (goodD d ob T es) (upd σ₁ d (.dx ob T es)))
    (hbase : autoParam (attributeBase o "values" env (eval o env) = eval o env) Mine.Internal.au2) (hline : autoParam ((apos.endLine == pos.line) = true) Mine.Internal.au2) :
    WIter prog w h₀ n env target (.Call (.Attribute o "values" apos) [] [] pos) ρ σ Q := fun A s Q' ok S X hQ =>
  call_method_split hbase rfl hline rfl (WE.before h ok S X (H := []) (fun _ hp => by cases hp) fun v s₁ x σ₁ st S₁ X₁ hh₁ r q => by
    obtain ⟨d, T, es, rfl, e, q⟩ := q
    cases r
    obtain ⟨ob, ents, ep, hd, hm, hs, hsz, S₂⟩ := exactly S₁ e
    refine ⟨"dict", "dict.values", PySem.F.plainAttrs_dict, F.slot_dict_values, F.type_dict_values, hm.typeIs, fun a ha => by cases ha; obtain ⟨o, ho, hx, _⟩ := hm; exact ⟨o, ho, hx.2.1⟩, ?_⟩
    refine Calls.spliced_nil (callWith_builtin (by simp [pures]) (evalArgs_pures ?_))
    refine call_meetsIn F.slot_dict_values hm.typeIs F.entry_dict_values (F.args_dict_values_1 _) (meets_values_ents (es := ents) (ep := ep) hs) ⟨hm, ?_⟩
    have hm' : Ents (s₁.heap.push { cls := .type "dict_values", data := .fields #[.ref d] }) d ents ep := by
      obtain ⟨o, ho, r⟩ := hm; exact ⟨o, Heap.get?_push_of_some _ ho, r⟩
    refine iter_values_ents ⟨_, Heap.get?_push_size _ rfl, rfl, rfl⟩ hm' ?_
    have p1 : Pres NoMod s₁.heap ((s₁.heap.push { cls := .type "dict_values", data := .fields #[.ref d] }).push { cls := .type "dict_valueiterator", data := .fields #[.ref d, .int 0 0, .int ents.size 0, .int ep 0] }) := (Pres.refl.push _).push _
    have X₂ := X₁.same (σ' := upd σ₁ d (.dx ob T es)) (fun a h => upd_none e h)
    obtain ⟨S₃, X₃, hh₃, st₃⟩ := firmStep (H := []) S₂ X₂ (fun _ hp => by cases hp) p1
    have nw := fun c (hc : c = (s₁.heap.push { cls := .type "dict_values", data := .fields #[.ref d] }).objs.size) => newOwn st S₁ X₁ (a := c) (by subst hc; rw [Heap.size_push]; exact Heap.get?_none_of_le (Nat.le_succ _))
    have st2 : Stp NoMod σ s (upd σ₁ d (.dx ob T es)) { s₁ with heap := (s₁.heap.push { cls := .type "dict_values", data := .fields #[.ref d] }).push { cls := .type "dict_valueiterator", data := .fields #[.ref d, .int 0 0, .int ents.size 0, .int ep 0] } } := by
      refine st.trans ⟨⟨_, s₁.toks, rfl⟩, p1.mono fun _ f => f.elim, fun a ⟨o, ea⟩ => .inl ?_⟩ fun a o f => f.elim
      by_cases ha : a = d
      · subst ha; exact ⟨_, e⟩
      · rw [upd_ne _ _ ha] at ea; exact ⟨_, ea⟩
    exact hQ _ _ _ _ _ _ _ _ st2 S₃ X₃ (itOk_values target _ d hd) ⟨_, Heap.get?_push_size _ rfl, rfl, rfl⟩ (fun a ha => (nw a ha).1) ⟨fun a ha => (nw a ha).2.1, fun a ha => upd_none e (nw a ha).2.2.1, fun a ha => (nw a ha).2.2.2⟩ (q ob))
theorem wi_items {o : Expr} {elts : List Expr} {k : Nat} {tpos apos pos : Pos} (h : WV prog w h₀ n env [] (eval o env) ρ σ fun x σ₁ => ∃ d T es, x = .loc d ∧ σ₁ d = some (.dt T es) ∧ ∀ ob, Q (elemD (fun p => .tup [p.1, p.2]) d) (goodD d ob T es) (upd σ₁ d (.dx ob T es)))
    (hbase : autoParam (attributeBase o "items" env (eval o env) = eval o env) Mine.Internal.au2) (hline : autoParam ((apos.endLine == pos.line) = true) Mine.Internal.au2) :
    WIter prog w h₀ n env (.Tuple elts k tpos) (.Call (.Attribute o "items" apos) [] [] pos) ρ σ Q := fun A s Q' ok S X hQ =>
  call_method_split hbase rfl hline rfl (WE.before h ok S X (H := []) (fun _ hp => by cases hp) fun v s₁ x σ₁ st S₁ X₁ hh₁ r q => by
    obtain ⟨d, T, es, rfl, e, q⟩ := q
    cases r
    obtain ⟨ob, ents, ep, hd, hm, hs, hsz, S₂⟩ := exactly S₁ e
    refine ⟨"dict", "dict.items", PySem.F.plainAttrs_dict, F.slot_dict_items, F.type_dict_items, hm.typeIs, fun a ha => by cases ha; obtain ⟨o, ho, hx, _⟩ := hm; exact ⟨o, ho, hx.2.1⟩, ?_⟩
    refine Calls.spliced_nil (callWith_builtin (by simp [pures]) (evalArgs_pures ?_))
    refine call_meetsIn F.slot_dict_items hm.typeIs F.entry_dict_items (F.args_dict_items_1 _) (meets_items_ents (es := ents) (ep := ep) hs) ⟨hm, ?_⟩
    have hm' : Ents (s₁.heap.push { cls := .type "dict_items", data := .fields #[.ref d] }) d ents ep := by
      obtain ⟨o, ho, r⟩ := hm; exact ⟨o, Heap.get?_push_of_some _ ho, r⟩
    refine iter_items_ents ⟨_, Heap.get?_push_size _ rfl, rfl, rfl⟩ hm' ?_
    have p1 : Pres NoMod s₁.heap ((s₁.heap.push { cls := .type "dict_items", data := .fields #[.ref d] }).push { cls := .type "dict_itemiterator", data := .fields #[.none, .bool false, .ref d, .int 0 0, .int ents.size 0, .int ep 0, .none, .none] }) := (Pres.refl.push _).push _
    have X₂ := X₁.same (σ' := upd σ₁ d (.dx ob T es)) (fun a h => upd_none e h)
    obtain ⟨S₃, X₃, hh₃, st₃⟩ := firmStep (H := []) S₂ X₂ (fun _ hp => by cases hp) p1
    have nw := fun c (hc : c = (s₁.heap.push { cls := .type "dict_items", data := .fields #[.ref d] }).objs.size) => newOwn st S₁ X₁ (a := c) (by subst hc; rw [Heap.size_push]; exact Heap.get?_none_of_le (Nat.le_succ _))
    have st2 : Stp NoMod σ s (upd σ₁ d (.dx ob T es)) { s₁ with heap := (s₁.heap.push { cls := .type "dict_items", data := .fields #[.ref d] }).push { cls := .type "dict_itemiterator", data := .fields #[.none, .bool false, .ref d, .int 0 0, .int ents.size 0, .int ep 0, .none, .none] } } := by
      refine st.trans ⟨⟨_, s₁.toks, rfl⟩, p1.mono fun _ f => f.elim, fun a ⟨o, ea⟩ => .inl ?_⟩ fun a o f => f.elim
      by_cases ha : a = d
      · subst ha; exact ⟨_, e⟩
      · rw [upd_ne _ _ ha] at ea; exact ⟨_, ea⟩
    exact hQ _ _ _ _ _ _ _ _ st2 S₃ X₃ (itOk_items elts k tpos _ d hd) ⟨_, _, Heap.get?_push_size _ rfl⟩ (fun a ha => (nw a ha).1) ⟨fun a ha => (nw a ha).2.1, fun a ha => upd_none e (nw a ha).2.2.1, fun a ha => (nw a ha).2.2.2⟩ (q ob))
end

end Mine.Internal
end

section
namespace Mine.Internal

noncomputable def TW (r : Nat → Int) (n : Nat) {α : Type} : KasT α → (α → Prop) → Prop
  | .ret a, Q => Q a
  | .ask i j k, Q => i < n ∧ j < n ∧ TW r n (k (decide (r i < r j))) Q
theorem TW_bind {r : Nat → Int} {n : Nat} {α β : Type} {f : α → KasT β} {Q : β → Prop} : ∀ t : KasT α, TW r n t (fun a => TW r n (f a) Q) → TW r n (t.bind f) Q
  | .ret a, h => h
  | .ask i j k, h => ⟨h.1, h.2.1, TW_bind _ h.2.2⟩
theorem TW_wp {r : Nat → Int} {n : Nat} {α : Type} {Q : α → Prop} {G : α → Shared → Prop} {cmp : Nat → Nat → (Bool → Shared → Prop) → Shared → Prop} {s : Shared}
    (hc : ∀ i j (C : Bool → Shared → Prop), i < n → j < n → C (decide (r i < r j)) s → cmp i j C s) (hq : ∀ a, Q a → G a s) : ∀ t : KasT α, TW r n t Q → t.kasWp cmp G s
  | .ret a, h => hq a h
  | .ask i j k, h => hc i j _ h.1 h.2.1 (TW_wp hc hq _ h.2.2)

section
variable {r : Nat → Int} {n : Nat}
noncomputable def kp (r : Nat → Int) (p : Array Nat) (k : Nat) : Int := r (p.getD k 0)
noncomputable def PermN (n : Nat) (p : Array Nat) : Prop := p.toList.Perm (List.range n)
noncomputable def Up (r : Nat → Int) (p : Array Nat) (m : Nat) : Prop := ∀ i j, i ≤ j → j < m → kp r p i ≤ kp r p j
noncomputable def Down (r : Nat → Int) (p : Array Nat) (m : Nat) : Prop := ∀ i j, i ≤ j → j < m → kp r p j ≤ kp r p i
theorem PermN.size {p : Array Nat} (h : PermN n p) : p.size = n := by have := h.length_eq; simpa using this
theorem PermN.lt {p : Array Nat} (h : PermN n p) (h1 : 1 ≤ n) (k : Nat) : p.getD k 0 < n := by
  by_cases hk : k < p.size
  · have : p[k] ∈ p.toList := by simp
    have := h.mem_iff.mp this
    have e : p.getD k 0 = p[k] := by simp [Array.getD, hk]
    rw [e]; exact List.mem_range.mp this
  · have e : p.getD k 0 = 0 := by simp [Array.getD, hk]
    rw [e]; (first | lia | omega)
theorem kp_opt (p : Array Nat) (k : Nat) : kp r p k = r ((p[k]?).getD 0) := by
  unfold kp
  congr 1
  by_cases hk : k < p.size <;> simp [Array.getD, hk]
theorem kp_rev {p : Array Nat} {i j : Nat} (hj : j ≤ p.size) (k : Nat) : kp r (kas_rev p i j) k = if i ≤ k ∧ k < j then kp r p (i + j - 1 - k) else kp r p k := by
  rw [kp_opt, kp_opt, kp_opt]
  unfold kas_rev
  rw [getElem?_mirror_all hj]
  split <;> rfl
theorem PermN.rev {p : Array Nat} (h : PermN n p) (i j : Nat) : PermN n (kas_rev p i j) := (Array.perm_iff_toList_perm.mp (mirror_perm _ _ _ _)).trans h
theorem kp_bubble {p : Array Nat} {src d : Nat} (hs : src < p.size) (hd : d ≤ src) (k : Nat) : kp r (bubble p src d) k = if k = src - d then kp r p src else if src - d < k ∧ k ≤ src then kp r p (k - 1) else kp r p k := by
  rw [kp_opt, kp_opt, kp_opt, kp_opt, getElem?_bubble hs d hd]
  split
  · rfl
  · split <;> rfl
theorem PermN.bubble {p : Array Nat} (h : PermN n p) (i j : Nat) : PermN n (bubble p i j) := (Array.perm_iff_toList_perm.mp (bubble_perm _ _ _)).trans h

theorem tw_asc {p : Array Nat} (hp : PermN n p) (h1 : 1 ≤ n) {Q : Nat → Prop} : ∀ (f m : Nat), 1 ≤ m → Up r p m → (∀ m', m ≤ m' → m' ≤ m + f → Up r p m' → (m' = m + f ∨ kp r p m' < kp r p (m' - 1)) → Q m') → TW r n (kas_asc p f m) Q
  | 0, m, hm, hu, hq => hq m (Nat.le_refl _) (Nat.le_refl _) hu (.inl rfl)
  | f + 1, m, hm, hu, hq => by
    refine ⟨hp.lt h1 _, hp.lt h1 _, ?_⟩
    show TW r n (if decide (kp r p m < kp r p (m - 1)) = true then KasT.ret m else kas_asc p f (m + 1)) Q
    by_cases hc : kp r p m < kp r p (m - 1)
    · rw [if_pos (by simpa using hc)]
      exact hq m (Nat.le_refl _) (by (first | lia | omega)) hu (.inr hc)
    · rw [if_neg (by simpa using hc)]
      refine tw_asc hp h1 f (m + 1) (by (first | lia | omega)) (fun i j hij hj => ?_) fun m' a b c d => hq m' (by (first | lia | omega)) (by (first | lia | omega)) c (by rcases d with d | d; exact .inl (by (first | lia | omega)); exact .inr d)
      by_cases hjm : j < m
      · exact hu i j hij hjm
      · have : j = m := by (first | lia | omega)
        subst this
        by_cases him : i = j
        · subst him; exact Int.le_refl _
        · have := hu i (j - 1) (by (first | lia | omega)) (by (first | lia | omega))
          (first | lia | omega)

noncomputable def Flat (r : Nat → Int) (p : Array Nat) (a b : Nat) : Prop := ∀ k, a ≤ k → k < b → kp r p k = kp r p (b - 1)
theorem down_rev {p : Array Nat} {a b m : Nat} (hb : b ≤ p.size) (hf : Flat r p a b) (hd : Down r p m) : Down r (kas_rev p a b) m := by
  have e : ∀ k, kp r (kas_rev p a b) k = kp r p k := fun k => by
    rw [kp_rev hb]
    split
    · rename_i h; rw [hf _ (by omega) (by omega), hf k h.1 h.2]
    · rfl
  intro i j hij hj
  rw [e, e]; exact hd i j hij hj
theorem flat_one (p : Array Nat) (m : Nat) : Flat r p (m + 1 - (0 + 1)) (m + 1) := fun k a b => by
  have : k = m := by (first | lia | omega)
  subst this; rfl
theorem up_one (p : Array Nat) : Up r p 1 := fun i j hij hj => by
  have : i = j := by (first | lia | omega)
  subst this; exact Int.le_refl _
theorem tw_desc (h1 : 1 ≤ n) {Q : Array Nat × Nat × Nat → Prop} : ∀ (f : Nat) (p : Array Nat) (m q : Nat), PermN n p → 1 ≤ m → m + f ≤ n → Down r p m → q + 1 ≤ m → Flat r p (m - (q + 1)) m →
    (∀ p' m' q', PermN n p' → m ≤ m' → m' ≤ n → Down r p' m' → q' + 1 ≤ m' → Flat r p' (m' - (q' + 1)) m' → Q (p', m', q')) → TW r n (kas_desc f p m q) Q
  | 0, p, m, q, hp, hm, hf, hd, hq1, hfl, hq => hq p m q hp (Nat.le_refl _) (by (first | lia | omega)) hd hq1 hfl
  | f + 1, p, m, q, hp, hm, hf, hd, hq1, hfl, hq => by
    have flat1 : ∀ (p' : Array Nat) (k : Nat), Flat r p' k (k + 1) := fun p' k x hx hx2 => by
      have : x = k := by (first | lia | omega)
      subst this; rfl
    refine ⟨hp.lt h1 _, hp.lt h1 _, ?_⟩
    show TW r n (if decide (kp r p m < kp r p (m - 1)) = true then _ else _) Q
    by_cases hc : kp r p m < kp r p (m - 1)
    · rw [if_pos (by simpa using hc)]
      have hd' : Down r p (m + 1) := fun i j hij hj => by
        by_cases hjm : j < m
        · exact hd i j hij hjm
        · have : j = m := by (first | lia | omega)
          subst this
          by_cases him : i = j
          · subst him; exact Int.le_refl _
          · have := hd i (j - 1) (by (first | lia | omega)) (by (first | lia | omega)); (first | lia | omega)
      split
      · refine tw_desc h1 f _ (m + 1) 0 (hp.rev _ _) (by (first | lia | omega)) (by (first | lia | omega)) (down_rev (by rw [hp.size]; (first | lia | omega)) hfl hd') (by (first | lia | omega)) (by simpa using flat1 _ m) fun p' m' q' a b c d e g => hq p' m' q' a (by (first | lia | omega)) c d e g
      · refine tw_desc h1 f _ (m + 1) 0 hp (by (first | lia | omega)) (by (first | lia | omega)) hd' (by (first | lia | omega)) (by simpa using flat1 _ m) fun p' m' q' a b c d e g => hq p' m' q' a (by (first | lia | omega)) c d e g
    · rw [if_neg (by simpa using hc)]
      refine ⟨hp.lt h1 _, hp.lt h1 _, ?_⟩
      show TW r n (if decide (kp r p (m - 1) < kp r p m) = true then _ else _) Q
      by_cases hc2 : kp r p (m - 1) < kp r p m
      · rw [if_pos (by simpa using hc2)]
        exact hq p m q hp (Nat.le_refl _) (by (first | lia | omega)) hd hq1 hfl
      · rw [if_neg (by simpa using hc2)]
        have he : kp r p m = kp r p (m - 1) := by (first | lia | omega)
        refine tw_desc h1 f _ (m + 1) (q + 1) hp (by (first | lia | omega)) (by (first | lia | omega)) (fun i j hij hj => ?_) (by (first | lia | omega)) (fun k hk hk2 => ?_) fun p' m' q' a b c d e g => hq p' m' q' a (by (first | lia | omega)) c d e g
        · by_cases hjm : j < m
          · exact hd i j hij hjm
          · have : j = m := by (first | lia | omega)
            subst this
            by_cases him : i = j
            · subst him; exact Int.le_refl _
            · have := hd i (j - 1) (by (first | lia | omega)) (by (first | lia | omega)); (first | lia | omega)
        · have e1 : m + 1 - 1 = m := by (first | lia | omega)
          rw [e1]
          by_cases hkm : k < m
          · rw [hfl k (by (first | lia | omega)) hkm, he]
          · have : k = m := by (first | lia | omega)
            subst this; rfl
theorem up_of_down {p : Array Nat} {m : Nat} (hm : m ≤ p.size) (hd : Down r p m) : Up r (kas_rev p 0 m) m := fun i j hij hj => by
  rw [kp_rev hm, kp_rev hm, if_pos ⟨Nat.zero_le _, by omega⟩, if_pos ⟨Nat.zero_le _, hj⟩]
  exact hd _ _ (by omega) (by omega)
theorem tw_tail3 (h1 : 1 ≤ n) {p : Array Nat} {m : Nat} {Q : Nat × Array Nat → Prop} (hp : PermN n p) (hm : 1 ≤ m) (hmn : m ≤ n) (hd : Down r p m) (hq : ∀ m' p', PermN n p' → 1 ≤ m' → m' ≤ n → Up r p' m' → Q (m', p')) : TW r n (kas_tail3 m n p) Q := by
  unfold kas_tail3
  refine TW_bind _ (tw_asc (hp.rev _ _) h1 (n - m) m hm (up_of_down (by rw [hp.size]; exact hmn) hd) fun m' a b c d => ?_)
  exact hq m' _ (hp.rev _ _) (by (first | lia | omega)) (by (first | lia | omega)) c
theorem tw_descPart (h1 : 1 ≤ n) {p : Array Nat} {m : Nat} {Q : Nat × Array Nat → Prop} (hp : PermN n p) (hmn : m + 1 ≤ n) (hd : Down r p (m + 1)) (hq : ∀ m' p', PermN n p' → 1 ≤ m' → m' ≤ n → Up r p' m' → Q (m', p')) : TW r n (kas_descPart m n p) Q := by
  unfold kas_descPart
  refine TW_bind _ (tw_desc h1 (n - (m + 1)) p (m + 1) 0 hp (by (first | lia | omega)) (by (first | lia | omega)) hd (by (first | lia | omega)) (flat_one p m) fun p' m' q' a b c d e g => ?_)
  dsimp only
  split
  · exact tw_tail3 h1 (a.rev _ _) (by (first | lia | omega)) c (down_rev (by rw [a.size]; exact c) g d) hq
  · exact tw_tail3 h1 a (by (first | lia | omega)) c d hq
theorem tw_count (h2 : 2 ≤ n) {p : Array Nat} {Q : Nat × Array Nat → Prop} (hp : PermN n p) (hq : ∀ m' p', PermN n p' → 1 ≤ m' → m' ≤ n → Up r p' m' → Q (m', p')) : TW r n (kas_count n p) Q := by
  unfold kas_count
  refine TW_bind _ (tw_asc hp (by (first | lia | omega)) (n - 1) 1 (Nat.le_refl _) (up_one p) fun m a b c d => ?_)
  split
  · exact hq m p hp a (by (first | lia | omega)) c
  · rename_i hne
    have hne : m ≠ n := by simpa using hne
    have hlt : kp r p m < kp r p (m - 1) := by rcases d with d | d; (first | lia | omega); exact d
    split
    · rename_i hm1
      refine ⟨hp.lt (by (first | lia | omega)) _, hp.lt (by (first | lia | omega)) _, ?_⟩
      show TW r n (if decide (kp r p 0 < kp r p (m - 1)) = true then _ else _) Q
      by_cases hc : kp r p 0 < kp r p (m - 1)
      · rw [if_pos (by simpa using hc)]
        exact hq m p hp a (by (first | lia | omega)) c
      · rw [if_neg (by simpa using hc)]
        have fl : Flat r p 0 m := fun k _ hk => by
          have := c 0 k (Nat.zero_le _) hk
          have := c k (m - 1) (by (first | lia | omega)) (by (first | lia | omega))
          (first | lia | omega)
        have d0 : Down r p (m + 1) := fun i j hij hj => by
          by_cases hjm : j < m
          · rw [fl i (Nat.zero_le _) (by (first | lia | omega)), fl j (Nat.zero_le _) hjm]; exact Int.le_refl _
          · have : j = m := by (first | lia | omega)
            subst this
            by_cases him : i = j
            · subst him; exact Int.le_refl _
            · rw [fl i (Nat.zero_le _) (by (first | lia | omega))]; (first | lia | omega)
        exact tw_descPart (by (first | lia | omega)) (hp.rev _ _) (by (first | lia | omega)) (down_rev (by rw [hp.size]; (first | lia | omega)) fl d0) hq
    · have hm1 : m = 1 := by (first | lia | omega)
      subst hm1
      refine tw_descPart (by (first | lia | omega)) hp (by (first | lia | omega)) (fun i j hij hj => ?_) hq
      by_cases hij' : i = j
      · subst hij'; exact Int.le_refl _
      · have e1 : i = 0 := by (first | lia | omega)
        have e2 : j = 1 := by (first | lia | omega)
        subst e1; subst e2
        have : (1 : Nat) - 1 = 0 := rfl
        rw [this] at hlt; (first | lia | omega)
theorem tw_place (h1 : 1 ≤ n) {p : Array Nat} {k : Nat} (hp : PermN n p) (hu : Up r p k) {Q : Nat → Prop} : ∀ (f l x : Nat), l ≤ x → x ≤ k → x ≤ l + f → (∀ i, i < l → kp r p i ≤ kp r p k) → (∀ i, x ≤ i → i < k → kp r p k < kp r p i) →
    (∀ l', l' ≤ k → (∀ i, i < l' → kp r p i ≤ kp r p k) → (∀ i, l' ≤ i → i < k → kp r p k < kp r p i) → Q l') → TW r n (kas_place p k f l x) Q
  | 0, l, x, a, b, c, d, e, hq => by
    have : l = x := by (first | lia | omega)
    subst this
    exact hq l b d e
  | f + 1, l, x, a, b, c, d, e, hq => by
    show TW r n (if l ≥ x then KasT.ret l else KasT.ask (p.getD k 0) (p.getD ((l + x) / 2) 0) fun c => if c = true then kas_place p k f l ((l + x) / 2) else kas_place p k f ((l + x) / 2 + 1) x) Q
    split
    · have : l = x := by (first | lia | omega)
      subst this
      exact hq l b d e
    · rename_i hlx
      refine ⟨hp.lt h1 _, hp.lt h1 _, ?_⟩
      show TW r n (if decide (kp r p k < kp r p ((l + x) / 2)) = true then _ else _) Q
      by_cases hc : kp r p k < kp r p ((l + x) / 2)
      · rw [if_pos (by simpa using hc)]
        refine tw_place h1 hp hu f l ((l + x) / 2) (by (first | lia | omega)) (by (first | lia | omega)) (by (first | lia | omega)) d (fun i hi hik => ?_) hq
        have := hu ((l + x) / 2) i hi hik; (first | lia | omega)
      · rw [if_neg (by simpa using hc)]
        refine tw_place h1 hp hu f ((l + x) / 2 + 1) x (by (first | lia | omega)) b (by (first | lia | omega)) (fun i hi => ?_) e hq
        have := hu i ((l + x) / 2) (by (first | lia | omega)) (by (first | lia | omega)); (first | lia | omega)
theorem tw_bin (h1 : 1 ≤ n) {Q : Array Nat → Prop} : ∀ (f : Nat) (p : Array Nat) (k : Nat), PermN n p → k + f = n → Up r p k → (∀ p', PermN n p' → Up r p' n → Q p') → TW r n (kas_bin f p k) Q
  | 0, p, k, hp, hk, hu, hq => by
    have : k = n := by (first | lia | omega)
    subst this; exact hq p hp hu
  | f + 1, p, k, hp, hk, hu, hq => by
    unfold kas_bin
    refine TW_bind _ (tw_place h1 hp hu k 0 k (Nat.zero_le _) (Nat.le_refl _) (by (first | lia | omega)) (fun i hi => by (first | lia | omega)) (fun i h h' => by (first | lia | omega)) fun l a b c => ?_)
    refine tw_bin h1 f _ (k + 1) (hp.bubble _ _) (by (first | lia | omega)) (fun i j hij hj => ?_) hq
    have hks : k < p.size := by rw [hp.size]; (first | lia | omega)
    have e : k - (k - l) = l := by (first | lia | omega)
    rw [kp_bubble hks (by (first | lia | omega)), kp_bubble hks (by (first | lia | omega)), e]
    by_cases h1 : i = l
    · rw [if_pos h1]
      by_cases h2 : j = l
      · rw [if_pos h2]; exact Int.le_refl _
      · rw [if_neg h2, if_pos (by (first | lia | omega))]
        have := c (j - 1) (by (first | lia | omega)) (by (first | lia | omega)); (first | lia | omega)
    · rw [if_neg h1]
      by_cases h2 : j = l
      · rw [if_pos h2, if_neg (by (first | lia | omega))]
        exact b i (by (first | lia | omega))
      · rw [if_neg h2]
        by_cases h3 : l < i ∧ i ≤ k
        · rw [if_pos h3, if_pos (by (first | lia | omega))]
          exact hu _ _ (by (first | lia | omega)) (by (first | lia | omega))
        · rw [if_neg h3]
          by_cases h4 : l < j ∧ j ≤ k
          · rw [if_pos h4]
            exact hu _ _ (by (first | lia | omega)) (by (first | lia | omega))
          · rw [if_neg h4]
            exact hu _ _ hij (by (first | lia | omega))
theorem tw_sort (h2 : 2 ≤ n) {Q : Array Nat → Prop} (hq : ∀ p, PermN n p → Up r p n → Q p) : TW r n (kas_sort n) Q := by
  unfold kas_sort
  refine TW_bind _ (tw_count h2 (by unfold PermN; simp) fun m p hp hm hmn hu => ?_)
  dsimp only
  have e : max m 1 = m := by (first | lia | omega)
  split
  · rw [e]
    exact tw_bin (by (first | lia | omega)) (n - m) p m hp (by (first | lia | omega)) hu hq
  · have : m = n := by (first | lia | omega)
    subst this
    exact hq p hp hu
end

end Mine.Internal
end

section
namespace Mine.Internal

noncomputable def Ext (h₀ h : Heap) : Prop := ∀ b o, h₀.get? b = some o → h.get? b = some o
structure FnOk (h₀ : Heap) (fa : Addr) (fd : FuncData) (body : List Stmt) : Prop where
  obj : ∃ o, h₀.get? fa = some o ∧ o.data = .func fd
  body : fd.body = .stmts body
  lim : ∀ h, Ext h₀ h → h.NoLimit
  code : ∀ h, Ext h₀ h → h.CodeRec fd.code fd.qualname
  kind : fd.scope.kind = .function
  gen : fd.scope.isGenerator = false
  cor : fd.scope.isCoroutine = false
  glob : fd.globals = mainGlobals
  bins : fd.builtins = builtinsNs
  clo : fd.closure = []

theorem bindL_not {k : Str → Option NameKind} {x : Str} : ∀ (b : List (Str × Value)) (m : Str → Option Value), x ∉ b.map (·.1) → bindL k b m x = m x
  | [], m, _ => rfl
  | (n, v) :: r, m, h => by
    simp only [List.map_cons, List.mem_cons, not_or] at h
    unfold bindL
    rw [bindL_not r _ h.2]
    split
    · simp [h.1]
    · rfl
theorem bindL_mem {k : Str → Option NameKind} {x : Str} {v : Value} : ∀ (b : List (Str × Value)) (m : Str → Option Value), (b.map (·.1)).Nodup → (x, v) ∈ b → k x = some .local → bindL k b m x = some v
  | (n, w) :: r, m, hn, h, hk => by
    simp only [List.map_cons, List.nodup_cons] at hn
    unfold bindL
    rcases List.mem_cons.mp h with e | h
    · cases e
      rw [bindL_not r _ hn.1, if_pos hk]; simp
    · exact bindL_mem r _ hn.2 h hk
theorem bindC_not {k : Str → Option NameKind} {x : Str} : ∀ (b : List (Str × Value)) (m : Str → Option Value), x ∉ b.map (·.1) → bindC k b m x = m x
  | [], m, _ => rfl
  | (n, v) :: r, m, h => by
    simp only [List.map_cons, List.mem_cons, not_or] at h
    unfold bindC
    rw [bindC_not r _ h.2]
    split
    · rfl
    · simp [h.1]
theorem bindC_mem {k : Str → Option NameKind} {x : Str} {v : Value} : ∀ (b : List (Str × Value)) (m : Str → Option Value), (b.map (·.1)).Nodup → (x, v) ∈ b → k x ≠ some .local → bindC k b m x = some v
  | (n, w) :: r, m, hn, h, hk => by
    simp only [List.map_cons, List.nodup_cons] at hn
    unfold bindC
    rcases List.mem_cons.mp h with e | h
    · cases e
      rw [bindC_not r _ hn.1, if_neg hk]; simp
    · exact bindC_mem r _ hn.2 h hk
theorem lookup_pairs {h : Heap} : ∀ {b : List (Str × Value)} {ps : Loc}, b.map (·.1) = ps.map (·.1) → IsAll h (b.map (·.2)) (ps.map (·.2)) → ∀ x p, ps.lookup x = some p → ∃ v, (x, v) ∈ b ∧ Is h v p
  | [], [], _, _, x, p, e => by simp at e
  | (n, v) :: b, (n', q) :: ps, e, i, x, p, hl => by
    simp only [List.map_cons, List.cons.injEq] at e i
    cases i with
    | cons a r =>
      by_cases hx : x = n'
      · subst hx
        rw [lookup_cons_self] at hl; cases hl
        exact ⟨v, by rw [e.1]; exact .head _, a⟩
      · have hb : (x == n') = false := beq_eq_false_iff_ne.mpr hx
        simp only [List.lookup_cons, hb] at hl
        obtain ⟨u, hu, iu⟩ := lookup_pairs e.2 r x p hl
        exact ⟨u, .tail _ hu, iu⟩
  | [], _ :: _, e, _, _, _, _ => by simp at e
  | _ :: _, [], e, _, _, _, _ => by simp at e

section
variable {prog : Program} {w : World} {h₀ : Heap} {n : Nat} {env : Env} {ρ : Loc} {σ : Store} {Q : PV → Store → Prop}
theorem Ok.deeper {A : Around} (x : Ok (n + 1) A) (e : Env) : Ok n (A.deeper e) := ⟨x.handled, by have := x.depth; show A.depth + 1 + 2 * n ≤ 500; (first | lia | omega), by have := x.units; show A.units + 3 + 40 * n ≤ 9000; (first | lia | omega)⟩
noncomputable def Binds (h₀ : Heap) (fd : FuncData) (xs : List PV) (ps : Loc) : Prop :=
  ∀ s vs, Ext h₀ s.heap → IsAll s.heap vs xs → ∃ b : List (Str × Value), BindsTo s fd ⟨vs, []⟩ b ∧ b.map (·.1) = ps.map (·.1) ∧ IsAll s.heap (b.map (·.2)) (ps.map (·.2))
theorem lookup_nodup {l : List (Str × Addr)} (h : (l.map (·.1)).Nodup) {q : Str × Addr} (hq : q ∈ l) : l.lookup q.1 = some q.2 := by
  induction l with
  | nil => cases hq
  | cons a l ih =>
    simp only [List.map_cons, List.nodup_cons] at h
    obtain ⟨an, ac⟩ := a
    obtain ⟨qn, qc⟩ := q
    rcases List.mem_cons.mp hq with e | hq'
    · cases e; simp [List.lookup]
    · have hne : (qn == an) = false := beq_eq_false_iff_ne.mpr fun e => h.1 (by subst e; exact List.mem_map.mpr ⟨(qn, qc), hq', rfl⟩)
      show List.lookup qn ((an, ac) :: l) = _
      unfold List.lookup
      rw [hne]
      exact ih h.2 hq'
theorem lcall_def {fa : Addr} {fd : FuncData} {body : List Stmt} {xs : List PV} {ps : Loc} (f : FnOk h₀ fa fd body) (hb : Binds h₀ fd xs ps) (hn : (ps.map (·.1)).Nodup) (hcn : ∀ k, ((cellsFrom k fd.scope.names []).map (·.1)).Nodup)
    (hk : ∀ p ∈ ps, fd.scope.names.lookup p.1 = some .local ∨ (fd.scope.names.lookup p.1 = some .cell ∧ ∀ k, ((cellsFrom k fd.scope.names []).lookup p.1).isSome = true))
    (h : ∀ L, WS prog w h₀ n (callEnvC fd L fa) (execs body (callEnvC fd L fa)) ps σ fun r ρ' σ' => match r with | .ret v => Q v σ' | .next => Q .none σ' | _ => False) :
    LCall prog w h₀ (n + 1) (.ref fa) [] xs σ Q := fun env ρ H pos fs vs l1 l2 hp A s ok S X hh => by
  have : fs = [] := List.length_eq_zero_iff.mp l1
  subst this
  have iv : IsAll s.heap vs xs := Held.isAll (H := []) l2 fun p hp' => hh p (hp p (by simpa using hp'))
  obtain ⟨o, ho, hd⟩ := f.obj
  refine callWith_function (o := o) (fd := fd) (evalArgs_pures ⟨⟨S.base _ _ ho, hd⟩, wpAny_call ?_⟩)
  simp only [List.nil_append]
  obtain ⟨b, hbind, e1, e2⟩ := hb s vs S.base iv
  have kinds : ∀ x ∈ b, fd.scope.names.lookup x.1 = some .local ∨ (fd.scope.names.lookup x.1 = some .cell ∧ ∀ k, ((cellsFrom k fd.scope.names []).lookup x.1).isSome = true) := fun x hx => by
    have : x.1 ∈ ps.map (·.1) := by rw [← e1]; exact List.mem_map_of_mem hx
    obtain ⟨p, hp1, hp2⟩ := List.mem_map.mp this
    rw [← hp2]; exact hk p hp1
  refine codeAny_call_function (by have := ok.depth; show A.depth < 1000; (first | lia | omega)) (S.base _ _ ho) hd f.cor f.gen f.body (f.code _ S.base) (hbind _ _ _ _ ?_)
  rw [f.clo]
  refine wpAny_newFunctionEnv_cells f.kind (fun x hx => (kinds x hx).imp id fun y => ⟨y.1, y.2 _⟩) fun env' he s' x => ?_
  subst he
  refine ⟨(f.lim _ S.base).keeps x.toInCall.keep, codeAny_func ?_⟩
  have x' : InCallC s (callEnvC fd s.heap.objs.size fa).locals (bindL (callEnvC fd s.heap.objs.size fa).kindOf b fun _ => none) (callEnvC fd s.heap.objs.size fa).cells (bindC (callEnvC fd s.heap.objs.size fa).kindOf b fun _ => none) s' := x
  show wpAny _ (A.deeper (callEnvC fd s.heap.objs.size fa)) (execs body (callEnvC fd s.heap.objs.size fa)) _ _ s'
  generalize hE : callEnvC fd s.heap.objs.size fa = E at x' ⊢
  have hL : E.locals = s.heap.objs.size := by rw [← hE]; rfl
  have hsc : E.scope = fd.scope := by rw [← hE]; rfl
  obtain ⟨h1, tk1, rfl⟩ := x'.toInCall.same
  have p : Pres NoMod s.heap h1 := ⟨trivial, fun c oc _ e => x'.toInCall.keep c oc e⟩
  obtain ⟨S₁, X₁, hh₁, st₁⟩ := firmStep (H := []) S X (fun _ hp => by cases hp) p
  have kp : TupKeep s.heap h1 := fun c its k e => p.2 c _ (fun f => f) e
  have cellFresh : ∀ q ∈ E.cells, s.heap.get? q.2 = none ∧ q.2 ≠ E.locals := fun q hq => by
    have := x'.above q.1 q.2 hq
    rw [hL] at this
    exact ⟨Heap.get?_none_of_le (Nat.le_of_lt this), by rw [hL]; exact Nat.ne_of_gt this⟩
  have locFresh : s.heap.get? E.locals = none := by rw [hL]; exact fresh _
  have base_none : ∀ a, s.heap.get? a = none → h₀.get? a = none := fun a e => by
    cases q : h₀.get? a with
    | none => rfl
    | some ob => have := S.base _ _ q; rw [e] at this; cases this
  have XE : ERel h₀ E ps σ h1 := by
    refine ⟨by rw [hsc]; exact f.kind, by rw [← hE]; exact f.glob, by rw [← hE]; exact f.bins, ⟨_, x'.toInCall.ns⟩, ⟨base_none _ locFresh, free_of S locFresh⟩, fun q hq => ⟨?_, base_none _ (cellFresh q hq).1, free_of S (cellFresh q hq).1, (cellFresh q hq).2⟩, x'.apart, fun y v e => ?_⟩
    · -- the cell stands there
      have hcnE : (E.cells.map (·.1)).Nodup := by rw [← hE]; exact hcn _
      exact ⟨_, x'.cell q.1 q.2 (lookup_nodup hcnE hq)⟩
    · obtain ⟨val, hm, hi⟩ := lookup_pairs e1 e2 y v e
      refine ⟨val, ?_, hi.keep kp⟩
      rcases kinds _ hm with hkl | ⟨hkc, hcl⟩
      · have hkE : E.kindOf y = some .local := by show E.scope.names.lookup y = _; rw [hsc]; exact hkl
        exact .inl ⟨hkE, _, x'.toInCall.ns, bindL_mem b _ (by rw [e1]; exact hn) hm hkE⟩
      · have hkE : E.kindOf y = some .cell := by show E.scope.names.lookup y = _; rw [hsc]; exact hkc
        have hcl' : (E.cells.lookup y).isSome = true := by rw [← hE]; exact hcl _
        obtain ⟨c, hc⟩ := Option.isSome_iff_exists.mp hcl'
        refine .inr ⟨.inl hkE, c, hc, ?_⟩
        have := x'.cell y c hc
        rw [bindC_mem b _ (by rw [e1]; exact hn) hm (by rw [hkE]; simp)] at this
        exact this
  have ws := h s.heap.objs.size
  rw [hE] at ws
  refine WP.go (ownMod E) ws (Ok.deeper ok E) (s := { s with heap := h1, toks := tk1 }) S₁ XE (fun _ hp => by cases hp) fun r s₂ br ρ₂ σ₂ st₂ S₂ X₂ hh₂ rr q => ?_
  have frs : ∀ a, Own E a → s.heap.get? a = none := fun a ha => by
    rcases ha with rfl | ⟨q, hq, rfl⟩
    · exact locFresh
    · exact (cellFresh q hq).1
  have stf : Stp NoMod σ s σ₂ s₂ := by
    obtain ⟨⟨h2, tk2, rfl⟩, p2, sub2⟩ := st₂
    refine ⟨⟨h2, tk2, rfl⟩, ⟨trivial, fun a o na ea => p2.2 a o (fun d => ?_) (p.2 a o (fun f => f) ea)⟩, fun a d => ?_⟩
    · rcases d with d | d
      · exact na (.inl d)
      · rw [frs a d] at ea; cases ea
    · rcases sub2 a d with d | d
      · exact .inl d
      · cases e : s.heap.get? a with
        | none => exact .inr rfl
        | some o => have := p.2 a o (fun f => f) e; rw [show h1.get? a = none from d] at this; cases this
  have k2 := stf.tupKeep (noMod env) S X
  have Xf : ERel h₀ env ρ σ₂ s₂.heap := X.step stf.pres k2 (fun d => d.elim (fun ⟨o, e⟩ => by have := X.nsoff.2; rw [e] at this; cases this) id)
    (fun q hq d => d.elim (fun ⟨o, e⟩ => by have := (X.cells q hq).2.2.1; rw [e] at this; cases this) id) stf.sub
  cases rr with
  | next => exact Post.of (R := Is) (b := .none) stf S₂ Xf .none ⟨rfl, q⟩
  | brk => exact q.elim
  | cont => exact q.elim
  | ret i => exact Post.of (R := Is) stf S₂ Xf i ⟨rfl, q⟩

noncomputable def TopIs (h₀ : Heap) (x : Str) (f : Value) : Prop :=
  ∀ (M : Model) A E s (env : Env) (Q : Value → Shared → Prop), Ext h₀ s.heap → env.globals = mainGlobals → env.builtins = builtinsNs → Q f s → wpAny M A (loadGlobal env x) Q E s
theorem TopIs.global {x : Str} {f : Value} {m : Str → Option Value} (hg : h₀.Ns mainGlobals m) (hv : m x = some f) : TopIs h₀ x f := fun M A E s env Q e g b q =>
  loadGlobal_global (by rw [g]; exact hg.at' fun o ho => e _ _ ho) hv q
theorem TopIs.builtin {x : Str} {f : Value} {m mb : Str → Option Value} (hg : h₀.Ns mainGlobals m) (hn : m x = none) (hb : h₀.Ns builtinsNs mb) (hv : mb x = some f) : TopIs h₀ x f := fun M A E s env Q e g b q =>
  loadGlobal_builtin (by rw [g]; exact hg.at' fun o ho => e _ _ ho) hn (by rw [b]; exact hb.at' fun o ho => e _ _ ho) hv q
theorem gname {x : Str} {f : Value} (t : TopIs h₀ x f) (hk : env.kindOf x = some .globalImplicit) (hd : autoParam ((x == ("__debug__" : Str)) = false) Mine.Internal.au0) : GName prog w h₀ env ρ x f := fun A s σ p Q S X q =>
  Name_function_global X.kind hk (t _ _ _ _ _ _ S.base X.glob X.bins q) hd
end

end Mine.Internal
end

section
namespace Mine.Internal

theorem str_ext {a b : Str} (h : a.cps.toList = b.cps.toList) : a = b := by
  cases a; cases b; simp only at h; congr; exact Array.toList_inj.mp h
mutual
theorem lt_irrefl : ∀ x : PV, PV.lt x x = false
  | .none => rfl
  | .bool _ => rfl
  | .int i => decide_eq_false (Int.lt_irrefl i)
  | .str s => decide_eq_false (List.lt_irrefl _)
  | .tup xs => lts_irrefl xs
  | .loc _ => rfl
theorem lts_irrefl : ∀ xs : List PV, PV.lts xs xs = false
  | [] => rfl
  | x :: xs => by
    have : PV.beq x x = true := (PV.beq_iff x x).mpr rfl
    rw [lts_cons, if_pos this]
    exact lts_irrefl xs
end
mutual
theorem lt_total : ∀ x y : PV, Ord x y → PV.lt x y = false → PV.lt y x = false → x = y
  | .int a, .int b, _, h1, h2 => congrArg PV.int (Int.le_antisymm (Int.not_lt.mp (of_decide_eq_false h2)) (Int.not_lt.mp (of_decide_eq_false h1)))
  | .str a, .str b, _, h1, h2 => congrArg PV.str (str_ext (List.le_antisymm (List.not_lt.mp (of_decide_eq_false h2)) (List.not_lt.mp (of_decide_eq_false h1))))
  | .tup xs, .tup ys, o, h1, h2 => by rw [lts_total xs ys o h1 h2]
  | .none, y, o, _, _ => by cases y <;> exact o.elim
  | .bool _, y, o, _, _ => by cases y <;> exact o.elim
  | .loc _, y, o, _, _ => by cases y <;> exact o.elim
theorem lts_total : ∀ xs ys : List PV, Ords xs ys → PV.lts xs ys = false → PV.lts ys xs = false → xs = ys
  | [], [], _, _, _ => rfl
  | [], y :: ys, _, h, _ => absurd h.symm Bool.false_ne_true
  | x :: xs, [], _, _, h => absurd h.symm Bool.false_ne_true
  | x :: xs, y :: ys, o, h1, h2 => by
    rw [lts_cons] at h1 h2
    have sym : PV.beq y x = PV.beq x y := by rw [Bool.eq_iff_iff, PV.beq_iff, PV.beq_iff]; exact eq_comm
    rw [sym] at h2
    cases hb : PV.beq x y
    · simp only [hb, Bool.false_eq_true, if_false] at h1 h2
      have := lt_total x y o.1 h1 h2
      rw [(PV.beq_iff x y).mpr this] at hb; cases hb
    · simp only [hb, if_true] at h1 h2
      rw [(PV.beq_iff x y).mp hb, lts_total xs ys o.2 h1 h2]
end
mutual
theorem lt_trans : ∀ x y z : PV, PV.lt x y = true → PV.lt y z = true → PV.lt x z = true
  | .int a, y, z, h1, h2 => by
    cases y <;> first | exact absurd h1 Bool.false_ne_true | skip
    cases z <;> first | exact absurd h2 Bool.false_ne_true | exact decide_eq_true (Int.lt_trans (of_decide_eq_true h1) (of_decide_eq_true h2))
  | .str a, y, z, h1, h2 => by
    cases y <;> first | exact absurd h1 Bool.false_ne_true | skip
    cases z <;> first | exact absurd h2 Bool.false_ne_true | exact decide_eq_true (List.lt_trans (of_decide_eq_true h1) (of_decide_eq_true h2))
  | .tup xs, y, z, h1, h2 => by
    cases y <;> first | exact absurd h1 Bool.false_ne_true | skip
    cases z <;> first | exact absurd h2 Bool.false_ne_true | exact lts_trans xs _ _ h1 h2
  | .none, y, z, h1, _ => absurd h1 Bool.false_ne_true
  | .bool _, y, z, h1, _ => absurd h1 Bool.false_ne_true
  | .loc _, y, z, h1, _ => absurd h1 Bool.false_ne_true
theorem lts_trans : ∀ xs ys zs : List PV, PV.lts xs ys = true → PV.lts ys zs = true → PV.lts xs zs = true
  | [], [], [], h1, _ => absurd h1 Bool.false_ne_true
  | [], y :: ys, [], _, h2 => absurd h2 Bool.false_ne_true
  | [], ys, z :: zs, _, _ => rfl
  | x :: xs, [], zs, h1, _ => absurd h1 Bool.false_ne_true
  | x :: xs, y :: ys, [], _, h2 => absurd h2 Bool.false_ne_true
  | x :: xs, y :: ys, z :: zs, h1, h2 => by
    rw [lts_cons] at h1 h2 ⊢
    cases hb : PV.beq x y
    · simp only [hb, Bool.false_eq_true, if_false] at h1
      cases hc : PV.beq y z
      · simp only [hc, Bool.false_eq_true, if_false] at h2
        have h3 := lt_trans x y z h1 h2
        cases hd : PV.beq x z
        · simpa using h3
        · rw [(PV.beq_iff x z).mp hd, lt_irrefl] at h3; cases h3
      · have := (PV.beq_iff y z).mp hc
        subst this
        rw [hb]; simpa using h1
    · have := (PV.beq_iff x y).mp hb
      subst this
      simp only [hb, if_true] at h1
      cases hc : PV.beq x z
      · simp only [hc, Bool.false_eq_true, if_false] at h2 ⊢; exact h2
      · simp only [hc, if_true] at h2 ⊢; exact lts_trans xs ys zs h1 h2
end
theorem lt_asymm {x y : PV} (h : PV.lt x y = true) : PV.lt y x = false := by
  cases e : PV.lt y x
  · rfl
  · have := lt_trans x y x h e; rw [lt_irrefl] at this; cases this

mutual
noncomputable def Ty.ord : Ty → Bool
  | .bool => false
  | .tup ts => Ty.ords ts
  | .seq t => t.ord
  | _ => true
noncomputable def Ty.ords : List Ty → Bool
  | [] => true
  | t :: ts => t.ord && Ty.ords ts
end
mutual
theorem HasTy.ord : ∀ (t : Ty) (x y : PV), t.ord = true → HasTy t x → HasTy t y → Ord x y
  | t, x, y, ho, hx, hy => by
    cases t <;> cases x <;> (first | exact False.elim hx | skip) <;> cases y <;> first | exact False.elim hy | exact absurd ho Bool.false_ne_true | exact True.intro | exact HasTys.ord _ _ _ ho hx hy | exact AllTy.ord _ _ _ (by exact ho) hx hy
theorem HasTys.ord : ∀ (ts : List Ty) (xs ys : List PV), Ty.ords ts = true → HasTys ts xs → HasTys ts ys → Ords xs ys
  | ts, [], ys, _, _, _ => by cases ys <;> exact True.intro
  | ts, x :: xs, [], _, _, _ => True.intro
  | [], x :: xs, y :: ys, _, hx, _ => False.elim hx
  | t :: ts, x :: xs, y :: ys, ho, hx, hy =>
    have ho' := (Bool.and_eq_true _ _).mp (show (t.ord && Ty.ords ts) = true from ho)
    ⟨HasTy.ord t x y ho'.1 (And.left hx) (And.left hy), HasTys.ord ts xs ys ho'.2 (And.right hx) (And.right hy)⟩
theorem AllTy.ord : ∀ (t : Ty) (xs ys : List PV), t.ord = true → AllTy t xs → AllTy t ys → Ords xs ys
  | t, [], ys, _, _, _ => by cases ys <;> exact True.intro
  | t, x :: xs, [], _, _, _ => True.intro
  | t, x :: xs, y :: ys, ho, hx, hy => ⟨HasTy.ord t x y ho (And.left hx) (And.left hy), AllTy.ord t xs ys ho (And.right hx) (And.right hy)⟩
end

noncomputable def rank (xs : List PV) (i : Nat) : Int := ((xs.filter fun y => PV.lt y (xs.getD i .none)).length : Nat)
theorem filter_len_lt {α : Type} {p q : α → Bool} {l : List α} (h : ∀ a, p a = true → q a = true) {b : α} (hb : b ∈ l) (h1 : p b = false) (h2 : q b = true) : (l.filter p).length < (l.filter q).length := by
  induction l with
  | nil => cases hb
  | cons a l ih =>
    have mono : ∀ l : List α, (l.filter p).length ≤ (l.filter q).length := fun l => by
      induction l with
      | nil => simp
      | cons a l ih =>
        simp only [List.filter_cons]
        cases hp : p a
        · cases hq : q a <;> simp <;> omega
        · rw [h a hp]; simp; omega
    rcases List.mem_cons.mp hb with rfl | hb
    · simp only [List.filter_cons, h1, h2, Bool.false_eq_true, if_false, if_true, List.length_cons]
      have := mono l; omega
    · have := ih hb
      simp only [List.filter_cons]
      cases hp : p a
      · cases hq : q a <;> simp <;> omega
      · rw [h a hp]; simp; omega
theorem rank_lt {xs : List PV} {T : Ty} (ho : T.ord = true) (hT : ∀ x ∈ xs, HasTy T x) {i j : Nat} (hi : i < xs.length) (hj : j < xs.length) : decide (rank xs i < rank xs j) = PV.lt (xs.getD i .none) (xs.getD j .none) := by
  have gi : xs.getD i .none = xs[i] := by simp [hi]
  have gj : xs.getD j .none = xs[j] := by simp [hj]
  unfold rank
  rw [gi, gj]
  have mi : xs[i] ∈ xs := List.getElem_mem hi
  have mj : xs[j] ∈ xs := List.getElem_mem hj
  cases h : PV.lt xs[i] xs[j]
  · apply decide_eq_false
    intro hlt
    cases h2 : PV.lt xs[j] xs[i]
    · have := lt_total _ _ (HasTy.ord T _ _ ho (hT _ mi) (hT _ mj)) h h2
      rw [this] at hlt
      exact absurd hlt (Int.lt_irrefl _)
    · have := filter_len_lt (p := fun y => PV.lt y xs[j]) (q := fun y => PV.lt y xs[i]) (l := xs) (fun a ha => lt_trans _ _ _ ha h2) mj (lt_irrefl _) h2
      omega
  · apply decide_eq_true
    have := filter_len_lt (p := fun y => PV.lt y xs[i]) (q := fun y => PV.lt y xs[j]) (l := xs) (fun a ha => lt_trans _ _ _ ha h) mi (lt_irrefl _) h
    omega
noncomputable def SortOf (xs ys : List PV) : Prop := ys.Perm xs ∧ ys.Pairwise fun a b => PV.lt b a = false
theorem sortOf_of {xs : List PV} {T : Ty} (ho : T.ord = true) (hT : ∀ x ∈ xs, HasTy T x) {p : Array Nat} (hp : PermN xs.length p) (hu : Up (rank xs) p xs.length) : SortOf xs (p.toList.map fun i => xs.getD i .none) := by
  constructor
  · have h1 := List.Perm.map (fun i => xs.getD i PV.none) hp
    refine h1.trans ?_
    have : (List.range xs.length).map (fun i => xs.getD i PV.none) = xs := by
      apply List.ext_getElem?
      intro k
      by_cases hk : k < xs.length
      · simp [hk]
      · simp [Nat.le_of_not_lt hk]
    rw [this]
  · rw [List.pairwise_iff_getElem]
    intro a b ha hb hab
    have sz := hp.size
    simp only [List.length_map, Array.length_toList] at ha hb
    simp only [List.getElem_map, Array.getElem_toList]
    have h1 : p[a] < xs.length := List.mem_range.mp (hp.mem_iff.mp (by simp))
    have h2 : p[b] < xs.length := List.mem_range.mp (hp.mem_iff.mp (by simp))
    rw [← rank_lt ho hT h2 h1]
    apply decide_eq_false
    have := hu a b (by (first | lia | omega)) (by (first | lia | omega))
    unfold kp at this
    have e1 : p.getD a 0 = p[a] := by simp [Array.getD, ha]
    have e2 : p.getD b 0 = p[b] := by simp [Array.getD, hb]
    rw [e1, e2] at this
    (first | lia | omega)
end Mine.Internal
end

section
namespace Mine.Internal

section
variable {prog : Program} {w : World} {A : Around} {E : Value → Shared → Prop} {s : Shared} {T : Ty}

theorem oneLt_pv {b : Bool} {p q : Value} {x y : PV} {Q : Bool → Shared → Prop} (hd : x.deep ≤ 60) (hu : A.units + 200 < cLine) (hp : Is s.heap p x) (hq : Is s.heap q y) (ho : Ord x y) (h : Q (PV.lt x y) s) : wpAny (model prog w) A (oneLt' b p q) Q E s := by
  cases b
  · exact kat_one p q (ltAt_ord 60 A s p q x y hd (by (first | lia | omega)) hp hq ho prog w _ _ h)
  · cases hp with
    | none => cases hq <;> exact ho.elim
    | bool _ => cases hq <;> exact ho.elim
    | loc _ => cases hq <;> exact ho.elim
    | int i t => cases hq with
      | int j u => exact oneLt_int h
      | _ => exact ho.elim
    | str i t => cases hq with
      | str j u => exact oneLt_str h
      | _ => exact ho.elim
    | tup t r => cases hq with
      | tup t' r' =>
        have hT : s.TypeIs (.ref _) "tuple" := ⟨_, t, rfl⟩
        rw [oneLt'_eq]
        simp only [if_true]
        refine wpAny_bind (wpAny_cRoomFor (by (first | lia | omega)) ?_)
        refine wpAny_bind (wpAny_callSpecialIfBound?_slot (name := Str.ofString "__lt__") hT F.slot_tuple_lt (wpAny_call_entry F.slot_tuple_lt hT F.entry_tuple_lt ?_ (F.args_tuple_lt_2 _ _)))
        simp only [PV.deep] at hd
        exact tuple_lt_tree A.in1 s prog w 59 _ _ _ _ _ _ _ _ _ _ (by have := in1_units A; (first | lia | omega)) (by (first | lia | omega)) t t' r r' ho
          (fun u v x y hux hvy hxy hdx => ltAt_ord 59 A.in1 s u v x y hdx (by have := in1_units A; (first | lia | omega)) hux hvy hxy) ⟨_, rfl, wpAny_truthy_bool h⟩
      | _ => exact ho.elim

noncomputable def KindOk (κ : SortKind) (T : Ty) : Prop := κ = oneType' ∨ κ = general' ∨ ((∃ b, κ = tuples' b) ∧ ∀ x, HasTy T x → ∃ xs, x = .tup xs)
theorem katLex_pv {b : Bool} {Q : Bool → Shared → Prop} (hu : A.units + 200 < cLine) : ∀ (vs ws : List Value) (xs ys : List PV) (i : Nat) (fin : Bool), IsAll s.heap vs xs → IsAll s.heap ws ys → Ords xs ys → PV.deeps xs ≤ 60 → fin = (if xs.length < ys.length then true else false) ∨ True →
    (fin = PV.lts (xs.drop ys.length) (ys.drop xs.length)) → Q (PV.lts xs ys) s → KatLex prog w A b fin Q (vs.zip ws) i s
  | [], ws, xs, ys, i, fin, hx, hy, ho, hd, _, hf, h => by
    cases hx
    refine kat_nil ?_
    rw [hf]; simpa using h
  | v :: vs, [], xs, ys, i, fin, hx, hy, ho, hd, _, hf, h => by
    cases hy
    refine kat_nil ?_
    rw [hf]; simpa using h
  | v :: vs, u :: ws, xs0, ys0, i, fin, hx, hy, ho, hd, hh, hf, h => by
    cases hx with | cons a r => 
    cases hy with | cons a' r' => 
    rename_i x xs y ys
    simp only [PV.deeps] at hd
    refine kat_cons (eqAt_sim 60 A s _ _ x y (by (first | lia | omega)) (by (first | lia | omega)) a a' (Ord.sim _ _ ho.1) prog w _ _ ?_)
    simp only [PV.lts] at h
    cases hb : PV.beq x y
    · rw [hb] at h
      exact kat_no (oneLt_pv (by (first | lia | omega)) hu a a' ho.1 h)
    · rw [hb] at h
      exact kat_yes (katLex_pv hu vs ws xs ys (i + 1) fin r r' ho.2 (by (first | lia | omega)) (.inr trivial) (by simpa using hf) h)
theorem lts_rest : ∀ xs ys : List PV, decide (xs.length < ys.length) = PV.lts (xs.drop ys.length) (ys.drop xs.length)
  | xs, ys => by
    by_cases h : xs.length < ys.length
    · rw [decide_eq_true h, List.drop_eq_nil_of_le (by (first | lia | omega))]
      cases e : ys.drop xs.length with
      | nil => have := congrArg List.length e; simp at this; (first | lia | omega)
      | cons a l => simp [PV.lts]
    · rw [decide_eq_false h, List.drop_eq_nil_of_le (as := ys) (by (first | lia | omega))]
      cases xs.drop ys.length <;> simp [PV.lts]
theorem keyLt_pv {κ : SortKind} {p q : Value} {x y : PV} {Q : Bool → Shared → Prop} (hκ : KindOk κ T) (hTo : T.ord = true) (hd : T.deep ≤ 50) (hu : A.units + 200 < cLine) (hp : Is s.heap p x) (hq : Is s.heap q y) (hx : HasTy T x) (hy : HasTy T y) (h : Q (PV.lt x y) s) :
    wpAny (model prog w) A (keyLt' κ p q) Q E s := by
  have ho := HasTy.ord T x y hTo hx hy
  have hdx : x.deep ≤ 50 := Nat.le_trans (HasTy.deep _ _ hx) hd
  rcases hκ with rfl | rfl | ⟨⟨b, rfl⟩, htup⟩
  · rw [keyLt'_oneType]; exact oneLt_pv (by (first | lia | omega)) hu hp hq ho h
  · show wpAny _ _ (oneLt' false p q) Q E s
    exact oneLt_pv (by (first | lia | omega)) hu hp hq ho h
  · obtain ⟨xs, rfl⟩ := htup x hx
    obtain ⟨ys, rfl⟩ := htup y hy
    cases hp with | tup t r => cases hq with | tup t' r' =>
    simp only [PV.deep] at hdx
    refine kat_lt t rfl t' rfl ?_
    have l1 := r.length; have l2 := r'.length
    simp only [List.size_toArray]
    rw [l1, l2]
    exact katLex_pv hu _ _ xs ys 0 _ r r' ho (by (first | lia | omega)) (.inr trivial) (lts_rest xs ys) h

noncomputable def TypeOk (s : Shared) (v : Value) : Prop := ∀ (M : Model) A E (Q : Value → Shared → Prop), (∀ t, Q t s) → wpAny M A (typeOf v) Q E s
theorem typeOk_of {v : Value} {x : PV} {T : Ty} (i : Is s.heap v x) (hx : HasTy T x) : TypeOk s v := fun M A E Q h => by
  cases i with
  | none => cases T <;> exact hx.elim
  | bool b => exact wpAny_typeOf (PySem.typeIs_bool s b) (h _)
  | int i t => exact wpAny_typeOf (typeIs_int s i t) (h _)
  | str x t => exact wpAny_typeOf (typeIs_str s x t) (h _)
  | tup t r => exact wpAny_typeOf (T := "tuple") ⟨_, t, rfl⟩ (h _)
  | loc a => cases T <;> exact hx.elim
theorem mapM_types {M : Model} : ∀ (vs : List Value) (Q : List Value → Shared → Prop), (∀ v ∈ vs, TypeOk s v) → (∀ ts, Q ts s) → wpAny M A (vs.mapM typeOf) Q E s
  | [], Q, _, h => by rw [List.mapM_nil]; exact wpAny_pure (h [])
  | v :: vs, Q, hv, h => by
    rw [List.mapM_cons]
    exact wpAny_bind (hv v (.head _) _ _ _ _ fun t => wpAny_bind (mapM_types vs _ (fun u hu => hv u (.tail _ hu)) fun ts => wpAny_pure (h _)))
theorem oneType_any {M : Model} {vs : Array Value} {Q : Option Value → Shared → Prop} (hv : ∀ v ∈ vs.toList, TypeOk s v) (h : ∀ o, Q o s) : wpAny M A (oneTypeOnly' vs) Q E s := by
  rw [oneTypeOnly'_eq]
  obtain ⟨l⟩ := vs
  rw [List.mapM_toArray, map_eq_pure_bind]
  refine wpAny_bind (wpAny_bind (mapM_types l _ hv fun ts => wpAny_pure ?_))
  split
  · exact wpAny_pure (h _)
  · exact wpAny_pure (h _)
theorem firsts_pv {T : Ty} (hT : ∀ x, HasTy T x → ∃ xs, x = .tup xs) : ∀ (vs : List Value) (xs : List PV) (Q : List (Option Value) → Shared → Prop), IsAll s.heap vs xs → (∀ x ∈ xs, HasTy T x) → (∀ fs, (∀ v, some v ∈ fs → TypeOk s v) → Q fs s) → wpAny (model prog w) A (vs.mapM firstOfTuple') Q E s
  | [], _, Q, _, _, h => by rw [List.mapM_nil]; exact wpAny_pure (h [] (fun v hv => by cases hv))
  | v :: vs, _, Q, hv, hx, h => by
    cases hv with | cons a r => 
    rw [List.mapM_cons]
    refine wpAny_bind ?_
    have hy := hx _ (.head _)
    obtain ⟨ys, rfl⟩ := hT _ hy
    cases a with | tup t i => 
    rw [kas_first_eq]
    refine wpAny_bind (wpAny_typeOf (T := "tuple") ⟨_, t, rfl⟩ ?_)
    rw [if_neg (by decide)]
    refine wpAny_bind (listItems_at t rfl (wpAny_pure ?_))
    refine wpAny_bind (firsts_pv hT vs _ _ r (fun x hx' => hx x (.tail _ hx')) fun fs hf => wpAny_pure (h _ fun u hu => ?_))
    rcases List.mem_cons.mp hu with hu | hu
    · cases i with
      | nil => simp at hu
      | cons a' r' =>
        simp at hu
        subst hu
        cases T with
        | tup ts => cases ts with
          | nil => exact hy.elim
          | cons t0 ts => exact typeOk_of a' hy.1
        | seq t0 => exact typeOk_of a' hy.1
        | _ => exact hy.elim
    · exact hf u hu
theorem kind_pv {T : Ty} {vs : List Value} {xs : List PV} {Q : SortKind → Shared → Prop} (hTo : T.ord = true) (h2 : 2 ≤ vs.length) (i : IsAll s.heap vs xs) (hx : ∀ x ∈ xs, HasTy T x) (h : ∀ κ, KindOk κ T → Q κ s) : wpAny (model prog w) A (keyKind' vs.toArray) Q E s := by
  have all : ∀ v ∈ vs, ∃ x ∈ xs, Is s.heap v x := fun v hv => i.mem hv
  have tup : (∀ x, HasTy T x → ∃ xs, x = .tup xs) → wpAny (model prog w) A (keyKind' vs.toArray) Q E s := fun hT => by
    rw [kat_kind_eq, List.mapM_toArray, map_eq_pure_bind]
    refine wpAny_bind (wpAny_bind (firsts_pv hT vs xs _ i hx fun fs hf => wpAny_pure ?_))
    split
    · refine wpAny_bind (wpAny_rule (wpAny_bind (oneType_any (fun v hv => ?_) fun o => wpAny_pure (h _ (.inr (.inr ⟨⟨_, rfl⟩, hT⟩))))))
      simp at hv
      exact hf v hv
    · split
      · exact wpAny_pure (h _ (.inr (.inl rfl)))
      · refine wpAny_bind (oneType_any (fun v hv => ?_) fun o => ?_)
        · obtain ⟨x, hx', ix⟩ := all v (by simpa using hv)
          exact typeOk_of ix (hx x hx')
        · split
          · exact wpAny_pure (h _ (.inl rfl))
          · exact wpAny_pure (h _ (.inr (.inl rfl)))
  cases T with
  | int =>
    refine kas_kind (T := .type "int") h2 (fun v hv => ?_) rfl rfl (h _ (.inl rfl))
    obtain ⟨x, hx', ix⟩ := all v hv
    cases ix <;> first | exact Looks.now | exact (hx _ hx').elim
  | str =>
    refine kas_kind (T := .type "str") h2 (fun v hv => ?_) rfl rfl (h _ (.inl rfl))
    obtain ⟨x, hx', ix⟩ := all v hv
    cases ix <;> first | exact Looks.now | exact (hx _ hx').elim
  | bool => exact absurd hTo Bool.false_ne_true
  | tup ts => exact tup fun x hx' => by cases x <;> first | exact ⟨_, rfl⟩ | exact hx'.elim
  | seq t => exact tup fun x hx' => by cases x <;> first | exact ⟨_, rfl⟩ | exact hx'.elim

theorem sortTree_pv {T : Ty} {κ : SortKind} {vs : List Value} {xs : List PV} {G : Array Nat → Shared → Prop} (hκ : KindOk κ T) (hTo : T.ord = true) (hd : T.deep ≤ 50) (hu : A.units + 200 < cLine) (h2 : 2 ≤ vs.length) (i : IsAll s.heap vs xs) (hx : ∀ x ∈ xs, HasTy T x)
    (h : ∀ p, PermN xs.length p → Up (rank xs) p xs.length → G p s) : (kas_sort vs.length).kasWp (kas_ask prog w A κ vs) G s := by
  have hl := i.length
  rw [hl] at h2 ⊢
  refine TW_wp (r := rank xs) (n := xs.length) (Q := fun p => PermN xs.length p ∧ Up (rank xs) p xs.length) (fun a b C ha hb hC => ?_) (fun p hp => h p hp.1 hp.2) _ (tw_sort h2 fun p hp hu => ⟨hp, hu⟩)
  have ga : vs.getD a Value.none = vs[a] := by simp [hl, ha]
  have gb : vs.getD b Value.none = vs[b] := by simp [hl, hb]
  have xa : xs.getD a .none = xs[a] := by simp [ha]
  have xb : xs.getD b .none = xs[b] := by simp [hb]
  show wpAny _ _ (keyLt' κ (vs.getD a Value.none) (vs.getD b Value.none)) C _ s
  rw [ga, gb]
  obtain ⟨va, eva, iva⟩ := i.get (i := a) (x := xs[a]) (by simp [ha])
  obtain ⟨vb, evb, ivb⟩ := i.get (i := b) (x := xs[b]) (by simp [hb])
  rw [List.getElem?_eq_getElem (by omega)] at eva evb
  cases eva; cases evb
  refine keyLt_pv hκ hTo hd hu iva ivb (hx _ (List.getElem_mem _)) (hx _ (List.getElem_mem _)) ?_
  rw [rank_lt hTo hx ha hb, xa, xb] at hC
  exact hC
end

end Mine.Internal
end

section
namespace Mine.Internal

theorem IsAll.pick {h : Heap} {vs : List Value} {xs : List PV} (i : IsAll h vs xs) : ∀ (l : List Nat), (∀ k ∈ l, k < xs.length) → IsAll h (l.map fun k => vs.getD k Value.none) (l.map fun k => xs.getD k .none)
  | [], _ => .nil
  | k :: l, hl => by
    have hk := hl k (.head _)
    obtain ⟨v, hv, iv⟩ := i.get (i := k) (x := xs[k]) (by simp [hk])
    have e1 : vs.getD k Value.none = v := by simp [hv]
    have e2 : xs.getD k .none = xs[k] := by simp [hk]
    simp only [List.map_cons]
    rw [e1, e2]
    exact .cons iv (IsAll.pick i l fun j hj => hl j (.tail _ hj))

section
variable {prog : Program} {w : World} {A : Around} {E : Value → Shared → Prop} {s : Shared} {T : Ty}

theorem list_sort_pv {a : Addr} {vs : List Value} {xs : List PV} {n : Nat} {P : Fin → Shared → Prop} (hTo : T.ord = true) (hd : T.deep ≤ 50) (hu : A.units + 200 < cLine) (ho : s.heap.get? a = some (seqObj "list" vs.toArray n))
    (i : IsAll s.heap vs xs) (hx : ∀ x ∈ xs, HasTy T x) (h64 : vs.length < 64)
    (h : ∀ (out : List Value) (ys : List PV), SortOf xs ys → IsAll s.heap out ys → P (.done (.ret .none)) { s with heap := sortedHeap s.heap a vs out.toArray }) :
    wpAny (model prog w) A (Builtin.«list.sort» ⟨[.ref a], []⟩) P E s := by
  rw [list_sort_plain]
  have ha : a < s.heap.objs.size := Heap.lt_size ho
  refine wpAny_bind (listItems_at ho rfl ?_)
  refine wpAny_bind (listUpdate_at ho rfl ?_ (by rw [List.size_toArray, sizeLine_eq]; (first | lia | omega)) (Nat.zero_le _))
  obtain ⟨e1, ho1⟩ : ∃ e1, (s.heap.update a (Obj.mapSeq fun _ => #[])).get? a = some (seqObj "list" #[] e1) := ⟨_, get?_update_seq ho (fun _ => #[])⟩
  refine wpAny_bind (seqEpoch_at ho1 rfl ?_)
  refine wpAny_bind (wpAny_newTuple ?_ (by show vs.length ≤ _; rw [sizeLine_eq]; (first | lia | omega)))
  refine wpAny_bind (wpAny_newList ?_ (Nat.zero_le _))
  refine wpAny_holding ?_
  have ho6 : (((s.heap.update a (Obj.mapSeq fun _ => #[])).push (seqObj "tuple" vs.toArray 0)).push (seqObj "list" #[] 0)).get? a = some (seqObj "list" #[] e1) := by
    rw [Heap.get?_push_ne _ _ _ (by rw [size_push', Heap.size_update]; exact Nat.ne_of_lt (Nat.lt_succ_of_lt ha)), Heap.get?_push_ne _ _ _ (by rw [Heap.size_update]; exact Nat.ne_of_lt ha)]
    exact ho1
  show wpAny (model prog w) A _ P E { s with heap := ((s.heap.update a (Obj.mapSeq fun _ => #[])).push (seqObj "tuple" vs.toArray 0)).push (seqObj "list" #[] 0) }
  dsimp only
  have hsz : vs.toArray.size = vs.length := by simp
  have hlen := i.length
  by_cases h2 : vs.toArray.size < 2
  · rw [if_pos h2, if_pos h2]
    refine wpAny_bind (wpAny_pure ?_)
    rw [StateT.run_pure]
    refine wpAny_bind (wpAny_pure ?_)
    dsimp only
    refine wpAny_bind (seqEpoch_at ho6 rfl ?_)
    have e2 : (arrOf (SortSt.mk' general' (vs.toArray.zip vs.toArray) #[] 7 none)).map (·.2) = vs.toArray := by
      show (vs.toArray.zip vs.toArray).map (·.2) = vs.toArray
      apply Array.toList_inj.mp
      simp [List.map_snd_zip]
    rw [e2]
    refine wpAny_bind (listUpdate_at ho6 rfl ?_ (Nat.zero_le _) (by rw [sizeLine_eq]; (first | lia | omega)))
    simp only [bne_self_eq_false, Bool.false_eq_true, if_false]
    refine wpAny_pure (h vs xs ⟨List.Perm.refl _, ?_⟩ i)
    match xs, hlen with
    | [], _ => exact .nil
    | [x], _ => exact List.pairwise_singleton ..
    | _ :: _ :: _, hlen => simp at hlen; (first | lia | omega)
  · rw [if_neg h2, if_neg h2]
    have kp : TupKeep s.heap (((s.heap.update a (Obj.mapSeq fun _ => #[])).push (seqObj "tuple" vs.toArray 0)).push (seqObj "list" #[] 0)) := fun b its m e => by
      refine Heap.get?_push_of_some _ (Heap.get?_push_of_some _ ?_)
      refine ((Heap.SameBut.update s.heap a (Obj.mapSeq fun _ => #[])).2 b (fun q => ?_)).trans e
      subst q
      have := (show s.heap.get? b = _ from e).symm.trans ho
      simp [seqObj] at this
    have i6 := i.keep kp
    refine wpAny_bind (wpAny_mono (E := fun _ _ => False) (kind_pv (Q := fun κ s' => KindOk κ T ∧ s' = { s with heap := ((s.heap.update a (Obj.mapSeq fun _ => #[])).push (seqObj "tuple" vs.toArray 0)).push (seqObj "list" #[] 0) }) hTo (by (first | lia | omega)) i6 hx fun κ hκ => ⟨hκ, rfl⟩) (fun κ s' hk => ?_) fun _ _ e => e.elim)
    obtain ⟨hκ, rfl⟩ := hk
    refine wpAny_bind (wpAny_mono (kat_run (E := E) (ks := vs) (vs := vs) (κ := κ) (G := fun p s' => (PermN xs.length p ∧ Up (rank xs) p xs.length) ∧ s' = { s with heap := ((s.heap.update a (Obj.mapSeq fun _ => #[])).push (seqObj "tuple" vs.toArray 0)).push (seqObj "list" #[] 0) })
      (Q := fun st' s' => ∃ p : Array Nat, arrOf st' = p.map (kas_item (vs.toArray.zip vs.toArray)) ∧ failedOf st' = none ∧ (PermN xs.length p ∧ Up (rank xs) p xs.length) ∧ s' = { s with heap := ((s.heap.update a (Obj.mapSeq fun _ => #[])).push (seqObj "tuple" vs.toArray 0)).push (seqObj "list" #[] 0) })
      rfl (by (first | lia | omega)) h64 (fun p st' s' h1 h2 h3 h4 => ⟨p, h2, h3, h4.1, h4.2⟩) (sortTree_pv hκ hTo hd hu (by (first | lia | omega)) i6 hx fun p hp hu => ⟨⟨hp, hu⟩, rfl⟩)) ?_ fun _ _ e => e)
    rintro ⟨⟨⟩, st'⟩ s' ⟨p, har, hf, ⟨hp, hup⟩, rfl⟩
    dsimp only
    refine wpAny_bind (seqEpoch_at ho6 rfl ?_)
    rw [kat_snds rfl har]
    refine wpAny_bind (listUpdate_at ho6 rfl ?_ (Nat.zero_le _) (by have := hp.size; simp; rw [sizeLine_eq]; (first | lia | omega)))
    rw [hf]
    simp only [bne_self_eq_false, Bool.false_eq_true, if_false]
    exact wpAny_pure (h _ _ (sortOf_of hTo hx hp hup) (IsAll.pick i _ fun k hk => List.mem_range.mp (hp.mem_iff.mp hk)))
end

section
variable {prog : Program} {w : World} {h₀ : Heap} {n : Nat} {env : Env} {ρ : Loc} {σ : Store} {Q : PV → Store → Prop}

noncomputable def Collects (prog : Program) (w : World) (h₀ : Heap) (σ : Store) (x : PV) (xs : List PV) : Prop :=
  ∀ A s v (Q : List Value → Shared → Prop), Ok 0 A → SRel prog w h₀ σ s.heap → Is s.heap v x → (∀ vs h' tk, Pres NoMod s.heap h' → IsAll h' vs xs → Q vs { s with heap := h', toks := tk }) → wpAny (model prog w) A (collect v) Q (fun _ _ => False) s
theorem pres_push_update {h : Heap} {f : Obj → Obj} {o : Obj} : Pres NoMod h ((h.push o).update h.objs.size f) :=
  Pres.same (Pres.refl.push _) (Heap.SameBut.update ..) (.inr (fresh _))
theorem collects_list {a : Addr} {xs : List PV} (e : σ a = some (.lst xs)) (hl : xs.length ≤ 1000000) : Collects prog w h₀ σ (.loc a) xs := fun A s v Q ok S i hQ => by
  cases i
  obtain ⟨vs, n, il, i1⟩ := S.objs _ _ e
  have len := i1.length
  refine collect_list (Mine.Internal.IsL.isList il) ?_ (by rw [sizeLine_eq]; (first | lia | omega))
  have p : Pres NoMod s.heap ((s.heap.push (seqObj "list" #[] 0)).update s.heap.objs.size (Obj.mapSeq (· ++ vs.toArray))) := pres_push_update
  exact hQ vs _ s.toks p (i1.keep fun b its m e => p.2 b _ (fun f => f) e)
theorem lf_sorted {x : PV} {xs : List PV} (T : Ty) (hTo : T.ord = true) (hd : T.deep ≤ 50) (hc : Collects prog w h₀ σ x xs) (hx : ∀ y ∈ xs, HasTy T y) (h64 : xs.length < 64)
    (q : ∀ ys, SortOf xs ys → ∀ c, σ c = none → Q (.loc c) (upd σ c (.lst ys))) : LFn prog w h₀ (n + 1) (.builtin "sorted") [x] σ Q := fun env ρ H vs l hp A s ok S X hh => by
  obtain ⟨v, rfl⟩ := one_of l
  have iv := hh _ (hp _ (.head _))
  refine Calls.call_function_entry kind_sorted plain_sorted entry_sorted (args_sorted1 _) ?_
  unfold Builtin.«sorted»
  refine wpAny_bind (m := checkCount "sorted" 1 1 _) (wpAny_pure ?_)
  refine wpAny_bind (wpAny_mono (E := fun _ _ => False) (hc A.in1 s v (fun ws s' => ∃ h' tk, s' = { s with heap := h', toks := tk } ∧ Pres NoMod s.heap h' ∧ IsAll h' ws xs) ⟨ok.handled, by have := ok.depth; show A.depth + 2 * 0 ≤ 500; (first | lia | omega), by have := ok.units; have := in1_units A; (first | lia | omega)⟩ S iv fun ws h' tk p i => ⟨h', tk, rfl, p, i⟩) (fun ws s' hs => ?_) fun _ _ e => e.elim)
  obtain ⟨h', tk, rfl, p, i⟩ := hs
  have len := i.length
  refine wpAny_bind (wpAny_newList ?_ (by rw [sizeLine_eq]; (first | lia | omega)))
  have hoL : (h'.push (seqObj "list" ws.toArray 0)).get? h'.objs.size = some (seqObj "list" ws.toArray 0) := Heap.get?_push_size _ rfl
  have kp : TupKeep h' (h'.push (seqObj "list" ws.toArray 0)) := fun b its m e => Heap.get?_push_of_some _ e
  show wpAny _ _ _ _ _ { s with heap := h'.push (seqObj "list" ws.toArray 0), toks := tk }
  refine wpAny_bind (wpAny_holding (wpAny_call_entry slot_list_sort ⟨_, hoL, rfl⟩ entry_list_sort (list_sort_pv hTo hd (by have := ok.room; have := in1_units A; have := in1_units A.in1; (first | lia | omega)) hoL (i.keep kp) hx (by (first | lia | omega)) fun out ys hs io => ⟨_, rfl, ?_⟩) (args_list_sort _)))
  refine wpAny_pure ⟨_, rfl, ?_⟩
  have fr : h'.get? h'.objs.size = none := fresh _
  have pf : Pres NoMod h' (sortedHeap (h'.push (seqObj "list" ws.toArray 0)) h'.objs.size ws out.toArray) := by
    unfold sortedHeap
    exact Pres.same (((Pres.same (Pres.refl.push _) (Heap.SameBut.update ..) (.inr fr)).push _).push _) (Heap.SameBut.update ..) (.inr fr)
  have p2 : Pres NoMod s.heap (sortedHeap (h'.push (seqObj "list" ws.toArray 0)) h'.objs.size ws out.toArray) := ⟨trivial, fun b o nb e => pf.2 b o nb (p.2 b o nb e)⟩
  have hne : s.heap.get? h'.objs.size = none := by
    cases e : s.heap.get? h'.objs.size with
    | none => rfl
    | some o => have := p.2 _ o (fun f => f) e; rw [fr] at this; cases this
  obtain ⟨e1, ho1⟩ : ∃ e1, ((h'.push (seqObj "list" ws.toArray 0)).update h'.objs.size (Obj.mapSeq fun _ => #[])).get? h'.objs.size = some (seqObj "list" #[] e1) := ⟨_, get?_update_seq hoL (fun _ => #[])⟩
  obtain ⟨e2, ho2⟩ : ∃ e2, (sortedHeap (h'.push (seqObj "list" ws.toArray 0)) h'.objs.size ws out.toArray).get? h'.objs.size = some (seqObj "list" out.toArray e2) :=
    ⟨_, get?_update_seq (Heap.get?_push_of_some _ (Heap.get?_push_of_some _ ho1)) (fun _ => out.toArray)⟩
  have kp3 : TupKeep (h'.push (seqObj "list" ws.toArray 0)) (sortedHeap (h'.push (seqObj "list" ws.toArray 0)) h'.objs.size ws out.toArray) := fun b its m e => by
    by_cases hb : b = h'.objs.size
    · subst hb
      have := (show (h'.push (seqObj "list" ws.toArray 0)).get? _ = _ from e).symm.trans hoL
      simp [seqObj] at this
    · unfold sortedHeap
      refine (Heap.SameBut.update _ _ _).2 b hb |>.trans (Heap.get?_push_of_some _ (Heap.get?_push_of_some _ (((Heap.SameBut.update _ _ _).2 b hb).trans e)))
  obtain ⟨S₂, X₂, hh₂, tr₂⟩ := newStep (γ := Value) (δ := PV) (R' := Is) (o := .lst ys) S X hh p2 hne ⟨out, e2, ho2, io.keep kp3⟩
  exact tr₂ tk _ _ _ (Post.here (s := { s with heap := sortedHeap (h'.push (seqObj "list" ws.toArray 0)) h'.objs.size ws out.toArray, toks := tk }) S₂ X₂ (.loc _) ⟨rfl, q ys hs _ (free_of S hne)⟩)
end

end Mine.Internal
end

section
namespace Mine.Internal

section
variable {prog : Program} {w : World} {h₀ : Heap} {n : Nat} {env : Env} {ρ : Loc} {σ : Store} {Q : PV → Store → Prop}

theorem lf_tuple {a : Addr} {xs : List PV} (e : σ a = some (.lst xs)) (hl : xs.length ≤ 1000000) (q : Q (.tup xs) σ) : LFn prog w h₀ n (.type "tuple") [.loc a] σ Q := fun env ρ H vs l hp => WE.newFirm q fun A s Q' ok S X hh hQ => by
  obtain ⟨v, rfl⟩ := one_of l
  have := held_loc hh (hp _ (.head _)); subst this
  obtain ⟨ws, k, il, i1⟩ := S.objs _ _ e
  have hl' := i1.length
  refine PySem.call_tuple_list (Mine.Internal.IsL.isList il) (fun h' hk => ?_) (by rw [sizeLine_eq]; simp; (first | lia | omega))
  have p : Pres NoMod s.heap (h'.push { cls := .type "tuple", data := .seq ws.toArray }) := ⟨trivial, fun b o _ eb => Heap.get?_push_of_some _ (hk b o eb)⟩
  exact hQ _ _ s.toks p (.tup (Heap.get?_push_size _ rfl) (i1.keep fun b its m e => p.2 b _ (fun f => f) e))
theorem we_isi {x y : Str} {p p2 pos : Pos} {e : Expr} (g : GName prog w h₀ env ρ x (.builtin "isinstance")) (g2 : GName prog w h₀ env ρ y (.type "tuple"))
    (h : WV prog w h₀ n env [] (eval e env) ρ σ fun v σ₁ => ∃ i, v = .int i ∧ Q (.bool false) σ₁) (he : autoParam (starEach [e, .Name y p2] env = [(false, eval e env), (false, eval (.Name y p2) env)]) Mine.Internal.au2) :
    WV prog w h₀ n env [] (eval (.Call (.Name x p) [e, .Name y p2] [] pos) env) ρ σ Q := fun A s ok S X hh => by
  refine Call_Name rfl (g A s σ p _ S X (callWith_split (by rw [he]; rfl) ?_))
  rw [he]
  refine Calls.spliced_cons (x := eval e env) (rest := [(false, eval (.Name y p2) env)]) (h.run (R' := Is) (γ := Value) (δ := PV) ok S X hh fun v s₁ b σ₁ S₁ X₁ hh₁ r q tr => ?_)
  obtain ⟨i, rfl, q⟩ := q
  cases r
  refine Calls.spliced_cons (x := eval (.Name y p2) env) (rest := []) (g2 A s₁ σ₁ p2 _ S₁ X₁ (Calls.spliced_nil ?_))
  refine callWith_builtin (by simp [pures]) (evalArgs_pures ?_)
  exact IsiPair.int_tuple (tr _ _ _ (Post.here (s := { s₁ with toks := s₁.toks + 1 }) S₁ X₁ (.bool _) ⟨rfl, q⟩))

noncomputable def sumL : List Int → Int := fun l => l.foldl (· + ·) 0
end

end Mine.Internal
end

section
namespace Mine.Internal

section
variable {prog : Program} {w : World} {A : Around} {E : Value → Shared → Prop} {s : Shared}
set_option maxRecDepth 100000 in
theorem keys_miss {a : Addr} {xs : Array Value} {k : Nat} {Q : Option Value → Shared → Prop} (hx : s.heap.get? a = some { cls := .type "list", dict := none, data := .seq xs k, slots := #[] }) (hA : A.handled = none)
    (h : ∀ h' tk, (∀ b ob, s.heap.get? b = some ob → h'.get? b = some ob) → Q none { s with heap := h', toks := tk }) : wpAny (model prog w) A (getAttr? (.ref a) "keys") Q E s := by
  obtain ⟨hp, g, d, tk, os⟩ := s
  have hT : ∀ tk', (⟨hp, g, d, tk', os⟩ : Shared).TypeIs (.ref a) "list" := fun _ => ⟨_, hx, rfl⟩
  have hmiss : typeLookup (.type "list") (Str.ofString "keys") = pure none := by rw [typeLookup_type, builtinLookup_eq_fast]; kernel_rfl
  have hname : (["__module__", "__name__", "__qualname__", "__doc__", "__annotations__"] : List Str).contains (Str.ofString "keys") = false := by decide +kernel
  have f1 := sub_AttributeError
  have f3 := F.slot_list_getattribute.lookup
  have f4 := F.slot_list_getattribute.bind (.ref a)
  have f5 := am_list_getattr_none
  unfold getAttr? getAttrBy? getAttrBy
  repeat (any_goals (first | assumption | exact hT _ | ((with_reducible show wpAny _ _ (call (Value.builtin "list.__getattribute__") _ _) _ _ _); refine call_meets F.slot_list_getattribute (hT _) am_entry_list_getattribute (F.args_list_getattribute_2 _ _) (meets_getattribute_miss_list a xs k #[] (Str.ofString "keys") _ hmiss hname (by decide +kernel)) ⟨hx, hA, fun h' tk' e hx' => ?_⟩) | wp_step))
  obtain ⟨t', u', he⟩ := hx'.there
  show wpAny _ _ (getattributeRaised _ _ _ _ _ _ _) _ _ _
  unfold getattributeRaised
  repeat (any_goals (first | assumption | wp_step))
  exact h _ _ hx'.keeps
end

noncomputable def dput : MObj → PV → PV → MObj
  | .dv es, k, v => .dv (dset es k v)
  | .dt T es, k, v => .dt T (dset es k v)
  | o, _, _ => o
noncomputable def fits : MObj → PV → Prop
  | .dv _, k => Hsh 0 k
  | .dt T _, k => (∃ ks, k = .tup ks) ∧ HasTy T k ∧ Hsh 3 k
  | _, _ => False
noncomputable def dlen : MObj → Nat
  | .dv es => es.length
  | .dt _ es => es.length
  | _ => 0
theorem dlen_dput (o : MObj) (k v : PV) : dlen (dput o k v) ≤ dlen o + 1 := by
  cases o <;> first | exact dset_length .. | exact Nat.zero_le _
theorem fits_dput {o : MObj} {k v k' : PV} (h : fits o k') : fits (dput o k v) k' := by cases o <;> exact h
noncomputable def dputs (o : MObj) (ps : List (PV × PV)) : MObj := ps.foldl (fun o p => dput o p.1 p.2) o

section
variable {prog : Program} {w : World} {A : Around} {E : Value → Shared → Prop} {s : Shared}
theorem dictSet_pv {d : Addr} {o : MObj} {kv vv : Value} {k v : PV} {Q : Unit → Shared → Prop} (hu : A.units + 10 < cLine) (r : Rep prog w s.heap d o) (hf : fits o k) (hl : dlen o ≤ 1000000) (ik : Is s.heap kv k) (iv : Is s.heap vv v)
    (hQ : ∀ h' tk, Rep prog w h' d (dput o k v) → Heap.SameBut d s.heap h' → Q () { s with heap := h', toks := tk }) : wpAny (model prog w) A (dictSet d kv vv) Q E s := by
  have kpo : ∀ h', Heap.SameBut d s.heap h' → TupKeep s.heap h' := fun h' hs b its m e => by
    refine (hs.2 b (fun q => ?_)).trans e
    subst q
    obtain ⟨ob, e2, e3⟩ := r.get
    rw [show s.heap.get? b = _ from e] at e2; cases e2; exact e3 rfl
  cases o with
  | dv es =>
    obtain ⟨hs, kvs, D, e1, e2⟩ := r
    refine @wpAny_dictSet_pairs _ _ _ PV.decEq (valKind prog w) _ _ _ _ _ k _ _ _ (isVal_of_is ik hf) D (fun h' D' hs' => ?_) (kvs_size e1 hl)
    exact hQ h' _ ⟨hs, _, D', dv_set e1 (e2.keep (kpo h' hs')) (iv.keep (kpo h' hs'))⟩ hs'
  | dt T es =>
    obtain ⟨⟨ks, rfl⟩, hk, hh⟩ := hf
    obtain ⟨p, rfl⟩ := ik.tup_ref
    obtain ⟨hs, kvs, D, e1, e2⟩ := r
    refine @wpAny_dictSet_heap _ _ _ PV.decEq (tupKind prog w T) _ _ _ _ _ _ _ _ _ hu ⟨ik, hk, hh⟩ D (fun h' D' hs' => ?_) (kvs_size e1 hl)
    exact hQ h' _ ⟨hs, _, D', dt_set e1 (e2.keep (kpo h' hs')) (iv.keep (kpo h' hs'))⟩ hs'
  | lst xs => exact hf.elim
  | dx ob T es => exact hf.elim
  | raw ob => exact hf.elim
theorem plain_update_loop : plainId "dict.update.loop" = true := by decide +kernel
theorem entry_update_loop : entryFor table "dict.update.loop" = some Builtin.«dict.update.loop» := entryFor_of_tree (by kernel_rfl)
theorem update_loop {d it l : Addr} {vs : List Value} {ps : List (PV × PV)} {R : Result → Shared → Prop} (hh : A.handled = none) (hu : A.units + 20 < cLine) (hdi : d ≠ it) (hdl : d ≠ l) (hil : it ≠ l) :
    ∀ (k i : Nat) (s : Shared) (o : MObj) (j : Int), ps.length - i = k → i ≤ ps.length → s.heap.IsListIter it l i → s.heap.IsList l vs.toArray → IsAll s.heap vs (ps.map fun p => .tup [p.1, p.2]) → Rep prog w s.heap d o →
      (∀ p ∈ ps, fits o p.1) → dlen o + k ≤ 1000000 →
      (∀ h' tk, Pres (fun c => c = d ∨ c = it) s.heap h' → Rep prog w h' d (dputs o (ps.drop i)) → R (.ok (.ret .none)) { s with heap := h', toks := tk }) →
      codeAny (model prog w) A (.builtin "dict.update.loop" ⟨[.ref d, .ref it, rawInt j, .none], []⟩) R s := by
  intro k
  induction k with
  | zero =>
    intro i s o j hk hi hit hl iv r hf hlen hR
    refine codeAny_builtin entry_update_loop ?_
    rw [Around.under_plainId plain_update_loop _]
    show wpAny _ A.in1 (pyNext (.ref it) >>= _) _ _ s
    have len := iv.length
    refine wpAny_bind (wpAny_pyNext_list_end hh hit hl (by simp; simp at len; (first | lia | omega)) fun h' hs => ?_)
    have e : ps.drop i = [] := List.drop_eq_nil_of_le (by (first | lia | omega))
    rw [e] at hR
    have p : Pres (fun c => c = d ∨ c = it) s.heap h' := Pres.ext hs (.inr rfl)
    have kp : TupKeep s.heap h' := fun b its m e => by
      refine hs b _ (fun q => ?_) e
      subst q
      obtain ⟨oi, ho, hc, _⟩ := hit
      rw [show s.heap.get? b = _ from e] at ho; cases ho; simp at hc
    show wpAny _ _ (Builtin.Dict.addKeywords d [] >>= _) _ _ _
    exact wpAny_bind (wpAny_pure (wpAny_pure (hR h' s.toks p (r.keep kp fun ob eo => hs d ob hdi eo))))
  | succ k ih =>
    intro i s o j hk hi hit hl iv r hf hlen hR
    have hlt : i < ps.length := by (first | lia | omega)
    refine codeAny_builtin entry_update_loop ?_
    rw [Around.under_plainId plain_update_loop _]
    show wpAny _ A.in1 (pyNext (.ref it) >>= _) _ _ s
    obtain ⟨v, hv, ivx⟩ := iv.get (i := i) (x := .tup [ps[i].1, ps[i].2]) (by simp [hlt])
    refine wpAny_bind (wpAny_pyNext_list_item hit hl (by simpa using hv) fun h1 hit1 hs1 => ?_)
    have kp1 : TupKeep s.heap h1 := fun b its m e => by
      refine (hs1.2 b (fun q => ?_)).trans e
      subst q
      obtain ⟨oi, ho, hc, _⟩ := hit
      rw [show s.heap.get? b = _ from e] at ho; cases ho; simp at hc
    have ivx1 := ivx.keep kp1
    cases ivx1 with | tup t ivs => 
    rename_i ta tn tvs
    obtain ⟨kv, vv, rfl, ik, ivv⟩ := ivs.two
    have r1 : Rep prog w h1 d o := r.keep kp1 fun ob eo => (hs1.2 d hdi).trans eo
    refine wpAny_bind (wpAny_holding ?_)
    refine wpAny_bind (wpAny_tryCatch ?_)
    unfold Builtin.Dict.pairItems
    refine wpAny_bind (wpAny_typeOf (T := "tuple") ⟨_, t, rfl⟩ ?_)
    rw [if_pos (by decide)]
    refine wpAny_bind (wpAny_seqItems t rfl (wpAny_pure ?_))
    show wpAny _ _ (holding [kv, vv] (dictSet d kv vv)) _ _ _
    refine wpAny_holding (dictSet_pv (s := { s with heap := h1 }) (by have := in1_units A; (first | lia | omega)) r1 (hf _ (List.getElem_mem hlt)) (by (first | lia | omega)) ik ivv fun h2 tk r2 hs2 => ?_)
    have kp2 : TupKeep h1 h2 := fun b its m e => by
      refine (hs2.2 b (fun q => ?_)).trans e
      subst q
      obtain ⟨ob, e2, e3⟩ := r1.get
      rw [show h1.get? b = _ from e] at e2; cases e2; exact e3 rfl
    refine wpAny_pure ⟨plainId_quiet plain_update_loop _, ?_⟩
    obtain ⟨oi, hoi, roi⟩ := hit1
    obtain ⟨ol, hol, rol⟩ := hl
    have dr : ps.drop i = ps[i] :: ps.drop (i + 1) := List.drop_eq_getElem_cons hlt
    refine ih (i + 1) { s with heap := h2, toks := tk } (dput o ps[i].1 ps[i].2) (j + 1) (by (first | lia | omega)) hlt ⟨oi, (hs2.2 it (fun q => hdi q.symm)).trans hoi, roi⟩ ⟨ol, (hs2.2 l (fun q => hdl q.symm)).trans ((hs1.2 l (fun q => hil q.symm)).trans hol), rol⟩ ((iv.keep kp1).keep kp2) r2
      (fun p hp => fits_dput (hf p hp)) (by have := dlen_dput o ps[i].1 ps[i].2; (first | lia | omega)) fun h3 tk3 p3 r3 => ?_
    refine hR h3 tk3 ⟨trivial, fun b ob nb eb => p3.2 b ob nb ((hs2.2 b (fun q => nb (.inl q))).trans ((hs1.2 b (fun q => nb (.inr q))).trans eb))⟩ ?_
    rw [dr]; exact r3
end

end Mine.Internal
end

section
namespace Mine.Internal

section
variable {prog : Program} {w : World} {h₀ : Heap} {n : Nat} {env : Env} {ρ : Loc} {σ : Store} {Q : PV → Store → Prop}

theorem lf_dict {a : Addr} {ps : List (PV × PV)} (o : MObj) (ho : (o = .dv []) ∨ ∃ T, o = .dt T []) (hbig : ∃ b o, sysModules < b ∧ h₀.get? b = some o) (e : σ a = some (.lst (ps.map fun p => .tup [p.1, p.2]))) (hf : ∀ p ∈ ps, fits o p.1) (hl : ps.length ≤ 900000)
    (q : ∀ c, σ c = none → Q (.loc c) (upd σ c (dputs o ps))) : LFn prog w h₀ (n + 1) (.type "dict") [.loc a] σ Q := fun env ρ H vs l hp => WE.newObj q fun A s Q' ok S X hh hQ => by
  obtain ⟨v, rfl⟩ := one_of l
  have := held_loc hh (hp _ (.head _)); subst this
  obtain ⟨ws, k, il, i1⟩ := S.objs _ _ e
  have hlen := i1.length
  have hu := ok.units
  refine callType_codes (Q₁ := fun obj s₁ => obj = .ref s.heap.objs.size ∧ s₁ = { s with heap := s.heap.push { cls := .type "dict", data := .dict #[] } }) F.kt_called_dict (F.kt_typeCall_dict_1 _) F.entry_dict_init (kt_code_dict_new _ ⟨rfl, rfl⟩) ?_
  rintro obj s₁ ⟨rfl, rfl⟩
  have hne : s.heap.objs.size ≠ a := fun e => by have := fresh s.heap; rw [e, show s.heap.get? a = _ from il] at this; cases this
  have r0 : Rep prog w (s.heap.push { cls := .type "dict", data := .dict #[] }) s.heap.objs.size o := by
    rcases ho with rfl | ⟨T, rfl⟩
    · exact rep_dv_new hbig S
    · exact rep_dt_new hbig S
  have l0 : dlen o = 0 := by rcases ho with rfl | ⟨T, rfl⟩ <;> rfl
  have hT : Shared.TypeIs { s with heap := s.heap.push { cls := .type "dict", data := .dict #[] } } (.ref s.heap.objs.size) "dict" := ⟨_, Heap.get?_push_size _ rfl, rfl⟩
  have il1 : (s.heap.push { cls := .type "dict", data := .dict #[] }).get? a = some { cls := .type "list", dict := none, data := .seq ws.toArray k, slots := #[] } := Heap.get?_push_of_some _ il
  refine ⟨hT, F.args_dict_init_2 _ _, ?_⟩
  unfold Builtin.«dict.__init__»
  refine wpAny_bind ?_
  unfold Builtin.Dict.selfAndRest
  refine wpAny_bind (wpAny_notOrdered_dict hT ?_)
  show wpAny _ _ (pure (s.heap.objs.size, [Value.ref a])) _ _ _
  refine wpAny_pure ?_
  show wpAny _ _ (Builtin.Dict.updateFrom "dict.__init__" s.heap.objs.size (.ref a) [] .none) _ _ _
  unfold Builtin.Dict.updateFrom
  refine wpAny_bind (wpAny_typeOf (T := "list") ⟨_, il1, rfl⟩ ?_)
  rw [if_pos (by decide)]
  refine wpAny_bind (keys_miss (s := { s with heap := s.heap.push { cls := .type "dict", data := .dict #[] } }) il1 ok.handled fun h1 tk1 hk1 => ?_)
  simp only [Option.isNone_none, if_true]
  refine wpAny_bind (wpAny_rule ?_)
  have il2 : h1.get? a = some { cls := .type "list", dict := none, data := .seq ws.toArray k, slots := #[] } := hk1 _ _ il1
  refine wpAny_bind (wpAny_pyIter_list (s := { s with heap := h1, toks := tk1 }) (l := a) (items := ws.toArray) ⟨_, il2, rfl, _, rfl⟩ ?_)
  refine wpAny_bind (wpAny_pure (wpAny_pure ⟨plainId_quiet plain_update_loop _, ?_⟩))
  have kp1 : TupKeep s.heap h1 := fun b its m eb => hk1 b _ (Heap.get?_push_of_some _ eb)
  have kpI : TupKeep h1 (h1.push { cls := .type "list_iterator", data := .fields #[.ref a, .int 0 0] }) := fun b its m eb => Heap.get?_push_of_some _ eb
  have kp0 : TupKeep (s.heap.push { cls := .type "dict", data := .dict #[] }) (h1.push { cls := .type "list_iterator", data := .fields #[.ref a, .int 0 0] }) := fun b its m eb => Heap.get?_push_of_some _ (hk1 b _ eb)
  have r1 : Rep prog w (h1.push { cls := .type "list_iterator", data := .fields #[.ref a, .int 0 0] }) s.heap.objs.size o := r0.keep kp0 fun ob eo => Heap.get?_push_of_some _ (hk1 _ _ eo)
  obtain ⟨od, hod, _⟩ := r1.get
  have hd1 : h1.get? s.heap.objs.size = some { cls := .type "dict", data := .dict #[] } := hk1 _ _ (Heap.get?_push_size _ rfl)
  refine update_loop (d := s.heap.objs.size) (it := h1.objs.size) (l := a) (vs := ws) (ps := ps) (A := A.in1) ok.handled (by have := ok.room; have := in1_units A; (first | lia | omega))
    (fun e => by rw [e, fresh] at hd1; cases hd1) hne (fun e => by rw [← e, fresh] at il2; cases il2)
    ps.length 0 { s with heap := h1.push { cls := .type "list_iterator", data := .fields #[.ref a, .int 0 0] }, toks := tk1 } o 0 (by simp) (Nat.zero_le _) ⟨_, Heap.get?_push_size _ rfl, rfl, rfl⟩ ⟨_, Heap.get?_push_of_some _ il2, rfl, _, rfl⟩ ((i1.keep kp1).keep kpI) r1 hf (by (first | lia | omega)) fun h2 tk2 p2 r2 => ?_
  refine ⟨rfl, hQ h2 tk2 _ ⟨trivial, fun b ob nb eb => p2.2 b ob (fun hc => ?_) (Heap.get?_push_of_some _ (hk1 b ob (Heap.get?_push_of_some _ eb)))⟩ (fresh _) (by simpa using r2)⟩
  rcases hc with rfl | rfl
  · rw [fresh] at eb; cases eb
  · have := hk1 _ _ (Heap.get?_push_of_some _ eb); rw [fresh] at this; cases this
end

end Mine.Internal
end

section
namespace Mine.Internal

section
variable {prog : Program} {w : World} {A : Around} {E : Value → Shared → Prop} {s : Shared} {d : Addr} {es : Array DictEntry} {ep : Nat}

theorem iter_keys_ents {Q : Value → Shared → Prop} (hd : (d == sysModules) = false) (hm : Ents s.heap d es ep)
    (hQ : Q (.ref s.heap.objs.size) { s with heap := s.heap.push { cls := .type "dict_keyiterator", data := .fields #[.ref d, .int 0 0, .int es.size 0, .int ep 0] } }) :
    wpAny (model prog w) A (pyIter (.ref d)) Q E s := by
  obtain ⟨o, ho, hc, hdat⟩ := id hm
  have hT : s.TypeIs (.ref d) "dict" := hm.typeIs
  refine wpAny_pyIter_slot hT F.slot_dict_iter (wpAny_call_entry F.slot_dict_iter hT F.entry_dict_iter ?_ (F.args_dict_iter_1 _))
  unfold Builtin.«dict.__iter__»
  refine wpAny_bind ?_
  unfold Builtin.Dict.dictSlotNone
  refine wpAny_bind (wpAny_notOrdered_dict hT ?_)
  show wpAny _ _ (pure (Value.ref d)) _ _ s
  refine wpAny_pure ?_
  show wpAny _ _ (Builtin.Dict.showsAll d >>= _) _ _ s
  unfold Builtin.Dict.showsAll
  rw [if_neg (by rw [hd]; exact Bool.false_ne_true)]
  refine wpAny_bind (wpAny_pure ?_)
  refine wpAny_bind (wpAny_dictEntries ho hdat ?_)
  refine wpAny_bind (wpAny_dictEpoch ho hdat ?_)
  refine wpAny_bind (wpAny_newObj_type (wpAny_pure ⟨_, rfl, "dict_keyiterator", _, ⟨_, Heap.get?_push_size _ rfl, rfl⟩, F.slot_dict_keyiterator_next.lookup, ?_⟩))
  simpa [rawInt] using hQ


theorem next_keys_item {it : Addr} {i : Nat} {e : DictEntry} {Q : Option Value → Shared → Prop} (hit : s.heap.IsKeyIter it d i es.size ep) (hm : Ents s.heap d es ep) (hx : es[i]? = some e)
    (hQ : ∀ h', h'.IsKeyIter it d (i + 1) es.size ep → Heap.SameBut it s.heap h' → Q (some e.key) { s with heap := h' }) :
    wpAny (model prog w) A (pyNext (.ref it)) Q E s := by
  obtain ⟨o, ho, hc, hd⟩ := id hit
  obtain ⟨od, hod, hcd, hdd⟩ := id hm
  unfold pyNext
  refine wpAny_bind (wpAny_attempt (wpAny_callSpecial?_slot (name := Str.ofString "__next__") hit.typeIs F.slot_dict_keyiterator_next
    (wpAny_call_entry F.slot_dict_keyiterator_next hit.typeIs F.entry_dict_keyiterator_next ?_ (F.args_dict_keyiterator_next_1 _))))
  refine wpAny_bind (wpAny_pure ?_)
  refine wpAny_bind ?_
  refine wpAny_bind ?_
  first | refine wpAny_bind (wpAny_typeNameOfWhole_keyiter hit.typeIs (wpAny_pure ?_)) | refine wpAny_bind (wpAny_typeNameOf_keyiter hit.typeIs (wpAny_pure ?_))
  refine wpAny_bind (wpAny_fieldsOf ho hd ?_)
  have hown : Builtin.Dict_items.ownsTuple "dict_keyiterator" = false := by decide
  simp -iota only [hown, Bool.false_eq_true, if_false]
  show wpAny _ _ (if (Value.ref d == Value.none) = true then _ else _) _ _ s
  rw [if_neg (show ¬ ((Value.ref d == Value.none) = true) from Bool.false_ne_true)]
  refine wpAny_bind (wpAny_pure ?_)
  refine wpAny_bind (wpAny_dictEntries hod hdd ?_)
  rw [if_neg (by simp)]
  refine wpAny_bind (wpAny_pure ?_)
  refine wpAny_bind (wpAny_dictEpoch hod hdd ?_)
  rw [if_neg (by simp)]
  refine wpAny_pure ?_

  simp only [show ¬ ((i : Int) < 0) from by (first | lia | omega), if_false, Int.toNat_natCast, hx]
  refine wpAny_bind ?_
  first | refine wpAny_bind (wpAny_typeNameOfWhole_keyiter hit.typeIs (wpAny_pure ?_)) | refine wpAny_bind (wpAny_typeNameOf_keyiter hit.typeIs (wpAny_pure ?_))
  refine wpAny_bind (wpAny_isOneOf_keyiter hit.typeIs ?_)
  show wpAny _ _ (setField (.ref it) 1 (rawInt ((i : Int) + 1)) >>= _) _ _ s
  refine wpAny_bind (wpAny_setField ho hd (by simp) ?_)
  have hit' : (s.heap.update it (Obj.mapFields (·.setIfInBounds 1 (rawInt ((i : Int) + 1))))).IsKeyIter it d (i + 1) es.size ep :=
    ⟨_, Heap.get?_update_self _ ho (Obj.isFreed_of_fields (Obj.data_mapFields hd _)), (Obj.cls_mapFields ..).trans hc, by rw [Obj.data_mapFields hd]; simp [rawInt]⟩
  refine wpAny_bind (wpAny_holding ?_)
  refine wpAny_bind (wpAny_isOneOf_keyiter (s := { s with heap := s.heap.update it (Obj.mapFields (·.setIfInBounds 1 (rawInt ((i : Int) + 1)))) }) hit'.typeIs ?_)
  show wpAny _ _ (pure e.key) _ _ _
  exact wpAny_pure (wpAny_pure ⟨_, rfl, wpAny_pure (hQ _ hit' (Heap.SameBut.update ..))⟩)


theorem next_keys_end {it : Addr} {i : Nat} {Q : Option Value → Shared → Prop} (hh : A.handled = none) (hit : s.heap.IsKeyIter it d i es.size ep) (hm : Ents s.heap d es ep) (hx : es[i]? = none)
    (hQ : ∀ h', Heap.ExtBut it s.heap h' → Q none { s with heap := h' }) : wpAny (model prog w) A (pyNext (.ref it)) Q E s := by
  obtain ⟨o, ho, hc, hd⟩ := id hit
  obtain ⟨od, hod, hcd, hdd⟩ := id hm
  unfold pyNext
  refine wpAny_bind (wpAny_attempt (wpAny_callSpecial?_slot (name := Str.ofString "__next__") hit.typeIs F.slot_dict_keyiterator_next
    (wpAny_call_entry F.slot_dict_keyiterator_next hit.typeIs F.entry_dict_keyiterator_next ?_ (F.args_dict_keyiterator_next_1 _))))
  refine wpAny_bind (wpAny_pure ?_)
  refine wpAny_bind ?_
  refine wpAny_bind ?_
  first | refine wpAny_bind (wpAny_typeNameOfWhole_keyiter hit.typeIs (wpAny_pure ?_)) | refine wpAny_bind (wpAny_typeNameOf_keyiter hit.typeIs (wpAny_pure ?_))
  refine wpAny_bind (wpAny_fieldsOf ho hd ?_)
  have hown : Builtin.Dict_items.ownsTuple "dict_keyiterator" = false := by decide
  simp -iota only [hown, Bool.false_eq_true, if_false]
  show wpAny _ _ (if (Value.ref d == Value.none) = true then _ else _) _ _ s
  rw [if_neg (show ¬ ((Value.ref d == Value.none) = true) from Bool.false_ne_true)]
  refine wpAny_bind (wpAny_pure ?_)
  refine wpAny_bind (wpAny_dictEntries hod hdd ?_)
  rw [if_neg (by simp)]
  refine wpAny_bind (wpAny_pure ?_)
  refine wpAny_bind (wpAny_dictEpoch hod hdd ?_)
  rw [if_neg (by simp)]
  refine wpAny_pure ?_
  simp only [show ¬ ((i : Int) < 0) from by (first | lia | omega), if_false, Int.toNat_natCast, hx]
  refine wpAny_bind ?_
  first | refine wpAny_bind (wpAny_typeNameOfWhole_keyiter hit.typeIs (wpAny_pure ?_)) | refine wpAny_bind (wpAny_typeNameOf_keyiter hit.typeIs (wpAny_pure ?_))
  show wpAny _ _ (setField (.ref it) 0 .none >>= _) _ _ s
  refine wpAny_bind (wpAny_setField ho hd (by simp) ?_)
  show wpAny _ _ (newExc (.type "StopIteration") [] >>= _) _ _ _
  refine wpAny_bind ?_
  simp -iota only [newExc, newTuple]
  refine wpAny_bind (wpAny_newObj_type ?_ (by size_fits))
  refine wpAny_bind (m := firstArgMember _ _) (wpAny_of_eq (a := Value.none) (by first | rfl | (simp -iota only [firstArgMember]; rfl)) ?_)
  refine wpAny_newObj_type ?_ (by size_fits)
  simp -iota only [raiseNew]
  refine wpAny_bind (wpAny_handled ?_)
  rw [show A.in1.handled = none from hh]
  refine wpAny_bind (wpAny_pure (wpAny_throw ?_))
  refine wpAny_bind (wpAny_isInstance (T := "StopIteration") (b := true) ⟨_, Heap.get?_push_size _ rfl, rfl⟩ isSubtype_stop ?_)
  exact wpAny_pure (hQ _ (((Heap.SameBut.update ..).extBut.push _).push _))

theorem Ents.at {h h' : Heap} (x : Ents h d es ep) (k : ∀ o, h.get? d = some o → h'.get? d = some o) : Ents h' d es ep := by
  obtain ⟨o, ho, r⟩ := x; exact ⟨o, k o ho, r⟩
theorem Ents.lt {h : Heap} (x : Ents h d es ep) : d < h.objs.size := by obtain ⟨o, ho, r⟩ := x; exact Heap.lt_size ho
theorem walks_keys (hh : A.handled = none) (I : Addr) (hne : d ≠ I) :
    Walks prog w A I [I, d] [I] es.size (fun i v => ∃ e, es[i]? = some e ∧ v = e.key) (fun i h => h.IsKeyIter I d i es.size ep ∧ Ents h d es ep) where
  sub := fun b hb => by simp at hb; simp [hb]
  frame := fun _ _ _ st hk => ⟨st.1.at fun o e => hk I (by simp) o e, Ents.at st.2 fun o e => hk d (by simp) o e⟩
  item := fun i s Q E hi st hQ => by
    refine next_keys_item st.1 st.2 (Array.getElem?_eq_getElem hi) fun h' hit' hs' => ?_
    exact hQ _ h' s.toks ⟨_, Array.getElem?_eq_getElem hi, rfl⟩ ⟨hit', Ents.at st.2 fun o e => hs'.extBut d o hne e⟩ fun b o hb e => hs'.extBut b o (fun h => hb (by simp [h])) e
  done := fun s Q E st hQ => next_keys_end hh st.1 st.2 (by simp) fun h' he' => hQ h' s.toks fun b o hb e => he' b o (fun h => hb (by simp [h])) e
  self := fun _ _ _ _ st hQ => wpAny_pyIter_keyiter st.1 hQ
theorem src_keys (lo : (d == sysModules) = false) : KdlSrc prog w "dict" d d es.size (fun i v => ∃ e, es[i]? = some e ∧ v = e.key) (fun h => Ents h d es ep) where
  type := fun _ hm => hm.typeIs
  there := fun _ hm => ⟨hm.lt, hm.lt⟩
  keep := fun _ _ hm hk => hm.at fun o e => hk d (.inl rfl) o e
  notList := by decide
  notTuple := by decide
  hint := fun _ _ _ _ hm hq => kdl_hint_dict hm.typeIs hq
  iter := fun _ _ hh hm => ⟨_, _, (fun _ _ hq => iter_keys_ents lo hm hq), walks_keys hh _ (Nat.ne_of_lt hm.lt), ⟨⟨_, Heap.get?_push_size _ rfl, rfl, rfl⟩, hm.at fun o e => Heap.get?_push_of_some _ e⟩⟩
end

end Mine.Internal
end

section
namespace Mine.Internal

theorem is_of_isVal {h : Heap} {k : PV} {v : Value} (e : isVal k v = true) : Is h v k := by
  rcases isVal_cases e with ⟨i, t, rfl, rfl⟩ | ⟨x, t, rfl, rfl⟩
  · exact .int ..
  · exact .str ..

section
variable {prog : Program} {w : World} {h₀ : Heap} {n : Nat} {env : Env} {ρ : Loc} {σ : Store}

theorem dv_ents {h : Heap} {d : Addr} {es : List (PV × PV)} (x : Rep prog w h d (.dv es)) :
    ∃ ents ep, (d == sysModules) = false ∧ Ents h d ents ep ∧ ents.size = es.length ∧ ∀ (i : Nat) (p : PV × PV), es[i]? = some p → ∃ e : DictEntry, ents[i]? = some e ∧ Is h e.key p.1 ∧ Is h e.val p.2 := by
  obtain ⟨hs, kvs, ⟨ob, ents, ep, ho, hx, hd, hk, hp, hn⟩, h1, h2⟩ := x
  have hl : kvs.length = es.length := by simpa using congrArg List.length h1
  have hsz : ents.size = kvs.length := by rw [← @Pairs.length prog w PV PV.decEq (valKind prog w) _ _ hp]; simp
  refine ⟨ents, ep, hs, ⟨ob, ho, hx, hd⟩, by (first | lia | omega), fun i p hi => ?_⟩
  obtain ⟨hlt, _⟩ := List.getElem?_eq_some_iff.mp hi
  have hlt' : i < kvs.length := by (first | lia | omega)
  have hlt2 : i < ents.size := by (first | lia | omega)
  have e1 : kvs[i].1 = p.1 := by
    have := congrArg (fun l => l[i]?) h1
    simp only [List.getElem?_map, hi, List.getElem?_eq_getElem hlt', Option.map_some, Option.some.injEq] at this
    exact this
  have g := @Pairs.get? prog w PV PV.decEq (valKind prog w) _ _ hp (i := i) (e := ents[i]) (k := kvs[i].1) (v := kvs[i].2) (by simp [hlt2]) (by simp [hlt'])
  refine ⟨ents[i], by simp [hlt2], ?_, ?_⟩
  · rw [← e1]; exact is_of_isVal g.1
  · rw [g.2]
    obtain ⟨v, hv, iv⟩ := h2.get (i := i) (x := p.2) (by simp [hi])
    simp only [List.getElem?_map, List.getElem?_eq_getElem hlt', Option.map_some, Option.some.injEq] at hv
    rw [← hv] at iv
    exact iv
theorem dt_ents {h : Heap} {d : Addr} {T : Ty} {es : List (PV × PV)} (x : Rep prog w h d (.dt T es)) :
    ∃ ents ep, (d == sysModules) = false ∧ Ents h d ents ep ∧ ents.size = es.length ∧ ∀ (i : Nat) (p : PV × PV), es[i]? = some p → ∃ e : DictEntry, ents[i]? = some e ∧ Is h e.key p.1 ∧ Is h e.val p.2 := by
  obtain ⟨hs, kvs, ⟨ob, ents, ep, ho, hx, hd, r⟩, h1⟩ := id x
  have x' : Rep prog w h d (.dx ob T es) := ⟨ho, x⟩
  exact ⟨ents, ep, hs, dx_ents x' hd⟩
theorem isAll_of {h : Heap} : ∀ {vs : List Value} {xs : List PV}, vs.length = xs.length → (∀ (i : Nat) (v : Value) (x : PV), vs[i]? = some v → xs[i]? = some x → Is h v x) → IsAll h vs xs
  | [], [], _, _ => .nil
  | v :: vs, x :: xs, hl, hv => .cons (hv 0 v x rfl rfl) (isAll_of (by simpa using hl) fun i v' x' a b => hv (i + 1) v' x' (by simpa using a) (by simpa using b))
theorem collects_ents {d : Addr} {es : List (PV × PV)} (hx : ∀ h, (SRel prog w h₀ σ h) → ∃ ents ep, (d == sysModules) = false ∧ Ents h d ents ep ∧ ents.size = es.length ∧ ∀ (i : Nat) (p : PV × PV), es[i]? = some p → ∃ e : DictEntry, ents[i]? = some e ∧ Is h e.key p.1 ∧ Is h e.val p.2)
    (hl : es.length ≤ 1000000) : Collects prog w h₀ σ (.loc d) (es.map (·.1)) := fun A s v Q ok S i hQ => by
  cases i
  obtain ⟨ents, ep, hs, hm, hsz, hget⟩ := hx _ S
  refine kdu_collect (src_keys hs) ok.handled hm (by rw [sizeLine_eq]; (first | lia | omega)) fun h' tk acc hk ha => ?_
  have kp : TupKeep s.heap h' := fun b its m e => hk b _ e
  have hal := ha.1
  refine hQ _ h' tk ⟨trivial, fun b o nb e => hk b o e⟩ (isAll_of (by simp [hal, hsz]) fun i v x a b => ?_)
  obtain ⟨e, he, rfl⟩ := ha.2 i v (by simpa using a)
  simp only [List.getElem?_map, Option.map_eq_some_iff] at b
  obtain ⟨p, hp, rfl⟩ := b
  obtain ⟨e', he', ik, _⟩ := hget i p hp
  rw [he] at he'; cases he'
  exact ik.keep kp
theorem collects_dv {d : Addr} {es : List (PV × PV)} (e : σ d = some (.dv es)) (hl : es.length ≤ 1000000) : Collects prog w h₀ σ (.loc d) (es.map (·.1)) :=
  collects_ents (fun h S => dv_ents (S.objs _ _ e)) hl
end

end Mine.Internal
end

section
namespace Mine.Internal

section
variable {prog : Program} {w : World} {h₀ : Heap} {n : Nat} {env : Env} {ρ : Loc} {σ : Store}

noncomputable def Binder (env : Env) (f : Value → Sem Unit) (x : Str) : Prop := ∀ (M : Model) (A : Around) (E : Value → Shared → Prop) (s : Shared) (Q : Unit → Shared → Prop) (v : Value), wpAny M A (storeName env x v) Q E s → wpAny M A (f v) Q E s
theorem Binder.bind {x : Str} : Binder env (fun v => bindName env x v) x := fun M A E s Q v h => wpAny_bindName h
noncomputable def binds : List Str → List PV → Loc → Loc
  | x :: xs, v :: vs, ρ => binds xs vs ((x, v) :: ρ)
  | _, _, ρ => ρ
inductive Binders (env : Env) : List (Value → Sem Unit) → List Str → Prop where
  | nil : Binders env [] []
  | cons {f fs x xs} (h : Binder env f x) (k : Stor env x) (r : Binders env fs xs) : Binders env (f :: fs) (x :: xs)
theorem wp_inorder {H : List (Value × PV)} {Q : Unit → Loc → Store → Prop} : ∀ {fs : List (Value → Sem Unit)} {xs : List Str}, Binders env fs xs → ∀ {items : List Value} {vs : List PV} {ρ : Loc}, items.length = xs.length → vs.length = xs.length → (∀ p ∈ items.zip vs, p ∈ H) → Q () (binds xs vs ρ) σ →
    WP prog w h₀ n (Own env) unitR env H (assignInOrder fs items) ρ σ Q := by
  intro fs xs b
  induction b with
  | nil =>
    intro items vs ρ hi hv hm q A s ok S X hh
    cases items <;> simp at hi
    cases vs <;> simp at hv
    exact wpAny_pure (Post.of (b := ()) .refl S X trivial q)
  | @cons f fs x xs h k r ih =>
    intro items vs ρ hi hv hm q A s ok S X hh
    cases items with
    | nil => simp at hi
    | cons i items =>
      cases vs with
      | nil => simp at hv
      | cons v vs =>
        refine wpAny_bind (wpAny_holding (h _ _ _ _ _ _ ?_))
        refine WP.go (ownMod env) (wp_store (n := n) (H := H) (Q := fun _ ρ' σ' => ρ' = (x, v) :: ρ ∧ σ' = σ) k (hm _ (.head _)) ⟨rfl, rfl⟩) ok S X hh fun _ s₂ _ ρ₂ σ₂ st₂ S₂ X₂ hh₂ _ q₂ => ?_
        obtain ⟨rfl, rfl⟩ := q₂
        refine WP.go (ownMod env) (ih (items := items) (vs := vs) (by simpa using hi) (by simpa using hv) (fun p hp => hm p (.tail _ hp)) q) ok S₂ X₂ hh₂ fun u s₃ _ ρ₃ σ₃ st₃ S₃ X₃ hh₃ _ q₃ => ?_
        exact Post.of (b := ()) (st₂.andThen (ownMod env) st₃ X₂) S₃ X₃ trivial q₃
variable {Q : PFlow → Loc → Store → Prop}
theorem IsAll.reverse {h : Heap} {vs : List Value} {xs : List PV} (i : IsAll h vs xs) : IsAll h vs.reverse xs.reverse := by
  refine isAll_of (by simp [i.length]) fun k v x a b => ?_
  have hl := i.length
  obtain ⟨ha, _⟩ := List.getElem?_eq_some_iff.mp a
  obtain ⟨hb, _⟩ := List.getElem?_eq_some_iff.mp b
  rw [List.getElem?_reverse (by simpa using ha)] at a
  rw [List.getElem?_reverse (by simpa using hb)] at b
  obtain ⟨u, hu, iu⟩ := i.get b
  rw [← hl, a] at hu; cases hu
  exact iu
theorem ws_unpack_swapped {elts : List Expr} {k : Nat} {tpos pos : Pos} {value : Expr} (xs : List Str) (hb : Binders env (xs.reverse.map fun x => bindName env x) xs.reverse)
    (h : WV prog w h₀ n env [] (eval value env) ρ σ fun v σ₁ => ∃ vs, v = .tup vs ∧ vs.length = xs.length ∧ Q .next (binds xs.reverse vs.reverse ρ) σ₁)
    (hs : autoParam (swapsWithSole [.Tuple elts k tpos] value pos.line env = pure false) Mine.Internal.au2)
    (hw : autoParam (swappedStores [.Tuple elts k tpos] value env = pure (some xs)) Mine.Internal.au2) : WS prog w h₀ n env (exec (.Assign [.Tuple elts k tpos] value pos) env) ρ σ Q := fun A s ok S X hh =>
  Assign_Tuple_swapped (WP.go (noMod env) h ok S X hh fun v s₁ b ρ₁ σ₁ st S₁ X₁ hh₁ r q => by
    obtain ⟨rfl, vs, rfl, hl, q⟩ := q
    obtain ⟨t, kk, its, rfl, it, i⟩ := held_tup (hh₁.cons r) (.head _)
    have e : xs.length = its.toArray.size := by have := i.length; simp; (first | lia | omega)
    rw [e]
    refine unpackItems_tuple (A := A) (t := t) (items := its.toArray) ok.handled ⟨_, it, rfl, _, rfl⟩ fun h' he => ?_
    have p : Pres NoMod s₁.heap h' := ⟨trivial, fun c o _ e => he c o (fun q => by rw [q, fresh] at e; cases e) e⟩
    obtain ⟨S₂, X₂, hh₂, st₂⟩ := firmStep S₁ X₁ (hh₁.all i.reverse) p
    refine WP.go (ownMod env) (wp_inorder (n := n) (Q := fun _ ρ' σ' => ρ' = binds xs.reverse vs.reverse ρ₁ ∧ σ' = σ₁) hb (by have := i.length; simp; (first | lia | omega)) (by simpa using hl) (fun p hp => List.mem_append_left _ (by simpa using hp)) ⟨rfl, rfl⟩) (s := { s₁ with heap := h' }) ok S₂ X₂ hh₂ fun u s₃ _ ρ₃ σ₃ st₃ S₃ X₃ hh₃ _ q₃ => ?_
    obtain ⟨rfl, rfl⟩ := q₃
    exact Post.of (((Stp.own st).andThen (ownMod env) (st₂ s₁.toks _) X₁).andThen (ownMod env) st₃ X₂) S₃ X₃ .next q) hs hw
end

end Mine.Internal
end

section
namespace Mine.Internal

noncomputable def LocCell (C : Addr) : Addr → Prop := fun a => a = C ∨ a = C + 1
section
variable {prog : Program} {w : World} {h₀ : Heap} {n : Nat} {Mod : Addr → Prop} {env : Env} {H : List (Value × PV)} {ρ : Loc} {σ : Store}

end

end Mine.Internal
end

section
namespace Mine.Internal

noncomputable def bodyAt (p : Program) (k : Nat) : List Stmt := match p.main.body[k]? with | some (.FunctionDef _ _ b _ _ _ _ _ _ _) => b | _ => []
noncomputable def argsAt (p : Program) (k : Nat) : Arguments := match p.main.body[k]? with | some (.FunctionDef _ a _ _ _ _ _ _ _ _) => a | _ => { posonlyargs := [], args := [], vararg := none, kwonlyargs := [], kw_defaults := [], kwarg := none, defaults := [] }
noncomputable def scopeAt (p : Program) (k : Nat) : Scope := match p.main.body[k]? with | some (.FunctionDef _ _ _ _ _ _ s _ _ _) => s | _ => p.main.scope

theorem Sub.nil (ρ : Loc) : Sub [] ρ := fun x v e => by simp at e
theorem Sub.cons {x : Str} {v : PV} {ρ' ρ : Loc} (e : ρ.lookup x = some v) (h : Sub ρ' ρ) : Sub ((x, v) :: ρ') ρ := fun y u hy => by
  by_cases q : y = x
  · subst q; rw [lookup_cons_self] at hy; cases hy; exact e
  · have hb : (y == x) = false := beq_eq_false_iff_ne.mpr q
    simp only [List.lookup_cons, hb] at hy
    exact h y u hy
section
variable {prog : Program} {w : World} {h₀ : Heap} {n : Nat} {env : Env} {ρ : Loc} {σ : Store} {Q : PFlow → Loc → Store → Prop}
theorem ws_norm {t : Sem Flow} (ρ' : Loc) (hs : Sub ρ' ρ) (h : WS prog w h₀ n env t ρ' σ Q) : WS prog w h₀ n env t ρ σ Q := WP.know h (Less.refl σ) hs
theorem if_dec_pos {p : Prop} [Decidable p] {X Y : Prop} (h : p) (x : X) : if decide p = true then X else Y := by rw [decide_eq_true h]; exact x
theorem if_dec_neg {p : Prop} [Decidable p] {X Y : Prop} (h : ¬ p) (y : Y) : if decide p = true then X else Y := by rw [decide_eq_false h]; exact y
theorem if_not_pos {p : Prop} [Decidable p] {X Y : Prop} (h : p) (y : Y) : if (!decide p) = true then X else Y := by rw [decide_eq_true h]; exact y
theorem if_not_neg {p : Prop} [Decidable p] {X Y : Prop} (h : ¬ p) (x : X) : if (!decide p) = true then X else Y := by rw [decide_eq_false h]; exact x
theorem ws_abs {t : Sem Flow} (h : ∀ Q' : PFlow → Loc → Store → Prop, (∀ f ρ₁ σ₁, Q f ρ₁ σ₁ → Q' f ρ₁ σ₁) → WS prog w h₀ n env t ρ σ Q') : WS prog w h₀ n env t ρ σ Q := h Q fun _ _ _ x => x
theorem ws_less {t : Sem Flow} {σ' : Store} (l : Less σ' σ) (h : WS prog w h₀ n env t ρ σ' Q) : WS prog w h₀ n env t ρ σ Q := WP.know h l (fun _ _ e => e)
end
end Mine.Internal
end

section
namespace Mine.Internal

noncomputable def copied (es : List (PV × PV)) : List (PV × PV) := es.foldl (fun acc p => dset acc p.1 p.2) []
noncomputable def addOne (acc : List (PV × PV)) (p : PV × PV) : List (PV × PV) :=
  match dget acc p.1, p.2 with
  | some (.int a), .int b => dset acc p.1 (.int (a + b))
  | _, _ => dset acc p.1 p.2
noncomputable def addTab (es fs : List (PV × PV)) : List (PV × PV) := fs.foldl addOne (copied es)
noncomputable def IntVals (es : List (PV × PV)) : Prop := ∀ p ∈ es, ∃ i, p.2 = .int i
noncomputable def KeysT (T : Ty) (es : List (PV × PV)) : Prop := ∀ p ∈ es, ∃ ks, p.1 = .tup ks ∧ HasTy T (.tup ks) ∧ Hsh 3 (.tup ks)

theorem dset_vals {es : List (PV × PV)} {k v : PV} (h : IntVals es) (hv : ∃ i, v = .int i) : IntVals (dset es k v) := by
  unfold dset
  split
  · intro p hp
    obtain ⟨q, hq, rfl⟩ := List.mem_map.mp hp
    split
    · exact hv
    · exact h q hq
  · intro p hp
    rcases List.mem_append.mp hp with hp | hp
    · exact h p hp
    · rw [List.mem_singleton.mp hp]; exact hv
theorem copied_vals {es : List (PV × PV)} (h : IntVals es) : IntVals (copied es) := by
  have : ∀ (l acc : List (PV × PV)), IntVals l → IntVals acc → IntVals (l.foldl (fun acc p => dset acc p.1 p.2) acc) := by
    intro l
    induction l with
    | nil => intro acc _ h; exact h
    | cons p l ih => intro acc hl ha; exact ih _ (fun q hq => hl q (.tail _ hq)) (dset_vals ha (hl p (.head _)))
  exact this es [] h (fun _ hp => by cases hp)
theorem addOne_vals {acc : List (PV × PV)} {p : PV × PV} (h : IntVals acc) (hp : ∃ i, p.2 = .int i) : IntVals (addOne acc p) := by
  unfold addOne
  split
  · exact dset_vals h ⟨_, rfl⟩
  · exact dset_vals h hp
theorem dget_vals {es : List (PV × PV)} {k x : PV} (h : IntVals es) (e : dget es k = some x) : ∃ i, x = .int i := by
  unfold dget at e
  obtain ⟨p, hp, rfl⟩ := Option.map_eq_some_iff.mp e
  exact h p (List.mem_of_find?_eq_some hp)
theorem copied_length (es : List (PV × PV)) : (copied es).length ≤ es.length := by
  have : ∀ (l acc : List (PV × PV)), (l.foldl (fun acc p => dset acc p.1 p.2) acc).length ≤ acc.length + l.length := by
    intro l
    induction l with
    | nil => intro acc; simp
    | cons p l ih => intro acc; simp only [List.foldl_cons, List.length_cons]; have := ih (dset acc p.1 p.2); have := dset_length acc p.1 p.2; (first | lia | omega)
  have := this es []
  simp only [List.length_nil, Nat.zero_add] at this
  exact this
theorem addOne_length (acc : List (PV × PV)) (p : PV × PV) : (addOne acc p).length ≤ acc.length + 1 := by
  unfold addOne
  split <;> exact dset_length ..
theorem adds_length (fs acc : List (PV × PV)) : (fs.foldl addOne acc).length ≤ acc.length + fs.length := by
  induction fs generalizing acc with
  | nil => simp
  | cons p l ih => simp only [List.foldl_cons, List.length_cons]; have := ih (addOne acc p); have := addOne_length acc p; (first | lia | omega)
theorem adds_vals {fs acc : List (PV × PV)} (hf : IntVals fs) (ha : IntVals acc) : IntVals (fs.foldl addOne acc) := by
  induction fs generalizing acc with
  | nil => exact ha
  | cons p l ih => exact ih (fun q hq => hf q (.tail _ hq)) (addOne_vals ha (hf p (.head _)))
theorem take_succ_fold {α β : Type} (f : β → α → β) (b : β) (l : List α) {i : Nat} {p : α} (h : l[i]? = some p) : (l.take (i + 1)).foldl f b = f ((l.take i).foldl f b) p := by
  rw [List.take_add_one, h, List.foldl_append]; rfl
theorem upd_comm (σ : Store) {a c : Addr} (o o' : MObj) (h : a ≠ c) : upd (upd σ a o) c o' = upd (upd σ c o') a o := by
  funext b; unfold upd
  by_cases h1 : b = c
  · subst h1; simp [Ne.symm h]
  · by_cases h2 : b = a <;> simp [h1, h2, h]
noncomputable def valsOf (es : List (PV × PV)) : List Int := es.map fun p => match p.2 with | .int i => i | _ => 0
theorem valsOf_get {es : List (PV × PV)} (h : IntVals es) {i : Nat} {p : PV × PV} (e : es[i]? = some p) : ∃ v, p.2 = .int v ∧ (valsOf es)[i]? = some v := by
  obtain ⟨v, hv⟩ := h p (List.mem_of_getElem? e)
  exact ⟨v, hv, by unfold valsOf; rw [List.getElem?_map, e]; simp [hv]⟩
theorem sumL_take {l : List Int} {i : Nat} {v : Int} (e : l[i]? = some v) : sumL (l.take (i + 1)) = sumL (l.take i) + v := by
  rw [List.take_add_one, e]
  show ((l.take i) ++ [v]).foldl (· + ·) 0 = _
  rw [List.foldl_append]; rfl
end Mine.Internal
end

section
namespace Mine.Internal

noncomputable def freesOf (look : Str → Option Addr) : List (Str × NameKind) → List (Str × Addr) → List (Str × Addr)
  | [], acc => acc
  | (n, k) :: r, acc => if k == .free then freesOf look r ((n, (look n).getD 0) :: acc) else freesOf look r acc
theorem closureFor_eq {scope : Scope} {env : Env} (h : ∀ y ∈ scope.names, y.2 = .free → (env.cells.lookup y.1).isSome = true) : closureFor scope env = pure (freesOf (fun x => env.cells.lookup x) scope.names []) := by
  have key : ∀ (names : List (Str × NameKind)) (acc : List (Str × Addr)), (∀ y ∈ names, y.2 = .free → (env.cells.lookup y.1).isSome = true) →
      (forIn names acc fun (x : Str × NameKind) (cs : List (Str × Addr)) => (do if x.2 == .free then pure (ForInStep.yield ((x.1, ← cellOf env x.1) :: cs)) else pure (ForInStep.yield cs) : Sem (ForInStep (List (Str × Addr))))) = pure (freesOf (fun x => env.cells.lookup x) names acc) := by
    intro names
    induction names with
    | nil => intro acc _; rw [List.forIn_nil]; rfl
    | cons y r ih =>
      intro acc hy
      obtain ⟨n, k⟩ := y
      rw [List.forIn_cons]
      unfold freesOf
      by_cases hk : (k == NameKind.free) = true
      · obtain ⟨c, hc⟩ := Option.isSome_iff_exists.mp (hy (n, k) (.head _) (by simpa using hk))
        have e : cellOf env n = pure c := by unfold cellOf; rw [show env.cells.lookup n = some c from hc]
        dsimp only
        rw [if_pos hk, if_pos hk, e]
        simp only [pure_bind]
        rw [ih _ fun z hz => hy z (.tail _ hz)]
        rw [show env.cells.lookup n = some c from hc]; rfl
      · dsimp only
        rw [if_neg hk, if_neg hk]
        simp only [pure_bind]
        exact ih _ fun z hz => hy z (.tail _ hz)
  unfold closureFor
  have := key scope.names [] h
  simp only [bind_pure] at this ⊢
  exact this

theorem lookup_relabel {env : Env} : ∀ {names : List (Str × NameKind)} {x : Str} {k : NameKind}, names.lookup x = some k →
    (names.map fun (n, k) => if (k == NameKind.free && env.scope.kind == .function && env.kindOf n == some .cell) then (n, NameKind.cell) else (n, k)).lookup x = some k ∨
    (k = .free ∧ (names.map fun (n, k) => if (k == NameKind.free && env.scope.kind == .function && env.kindOf n == some .cell) then (n, NameKind.cell) else (n, k)).lookup x = some .cell)
  | [], _, _, h => by simp at h
  | (n, k) :: r, x, k', h => by
    have ih := @lookup_relabel env r x k'
    show List.lookup x ((if (k == NameKind.free && env.scope.kind == .function && env.kindOf n == some .cell) = true then (n, NameKind.cell) else (n, k)) :: _) = _ ∨ (_ ∧ List.lookup x ((if (k == NameKind.free && env.scope.kind == .function && env.kindOf n == some .cell) = true then (n, NameKind.cell) else (n, k)) :: _) = _)
    cases hx : x == n with
    | true =>
      simp only [List.lookup_cons, hx] at h
      cases h
      by_cases hc : (k == NameKind.free && env.scope.kind == .function && env.kindOf n == some .cell) = true
      · rw [if_pos hc]
        refine .inr ⟨?_, by simp [List.lookup_cons, hx]⟩
        simp only [Bool.and_eq_true] at hc
        simpa using hc.1.1
      · rw [if_neg hc]; exact .inl (by simp [List.lookup_cons, hx])
    | false =>
      simp only [List.lookup_cons, hx] at h
      by_cases hc : (k == NameKind.free && env.scope.kind == .function && env.kindOf n == some .cell) = true
      · rw [if_pos hc]; simp only [List.lookup_cons, hx]; exact ih h
      · rw [if_neg hc]; simp only [List.lookup_cons, hx]; exact ih h
section
variable {env : Env} {scope : Scope} {cl : List (Str × Addr)} {C : Addr} {ρ ρc : Loc}
theorem compKind {x : Str} {k : NameKind} (h : scope.names.lookup x = some k) (hk : k ≠ .free) : (compEnvC scope cl C env).kindOf x = some k := by
  rcases lookup_relabel (env := env) h with e | ⟨e, _⟩
  · exact e
  · exact absurd e hk
theorem compFree {x : Str} (h : scope.names.lookup x = some .free) : (compEnvC scope cl C env).kindOf x = some .cell ∨ (compEnvC scope cl C env).kindOf x = some .free := by
  rcases lookup_relabel (env := env) h with e | ⟨_, e⟩
  · exact .inr e
  · exact .inl e
theorem CapOk.nil : CapOk env scope cl C ρ [] := ⟨fun x v e => by simp at e⟩
theorem CapOk.cons {x : Str} {v : PV} {c : Addr} (e : ρ.lookup x = some v) (k1 : env.kindOf x = some .cell ∨ env.kindOf x = some .free) (k2 : scope.names.lookup x = some .free) (c1 : env.cells.lookup x = some c) (c2 : cl.lookup x = some c)
    (r : CapOk env scope cl C ρ ρc) : CapOk env scope cl C ρ ((x, v) :: ρc) := ⟨fun y u ey => by
  by_cases q : y = x
  · subst q
    rw [lookup_cons_self] at ey; cases ey
    exact ⟨e, k1, compFree k2, c, c1, c2⟩
  · have hb : (y == x) = false := beq_eq_false_iff_ne.mpr q
    simp only [List.lookup_cons, hb] at ey
    exact r.names y u ey⟩
end

noncomputable def Itm (elem : Elems) (good : Store → Prop) (σ : Store) (xs : List PV) : Prop := ∀ σ', Less σ σ' → good σ' ∧ ∀ i, elem σ' i = xs[i]?
theorem itm_list {σ : Store} {l : Addr} {ys : List PV} (e : σ l = some (.lst ys)) : Itm (elemL l) (goodL l) σ ys := fun σ' ls => ⟨⟨ys, ls.lst e⟩, elemL_of (ls.lst e)⟩
theorem itm_range {σ : Store} {a b : Int} {m : Nat} (h : (m : Int) = max 0 (b - a)) : Itm (elemR a b) (fun _ => True) σ ((List.range m).map fun (k : Nat) => PV.int (a + (k : Int))) := fun σ' ls => ⟨trivial, fun i => by
  unfold elemR
  rw [List.getElem?_map]
  by_cases hi : i < m
  · rw [List.getElem?_range hi, if_pos (by (first | lia | omega))]; rfl
  · rw [List.getElem?_eq_none (by simp; (first | lia | omega)), if_neg (by (first | lia | omega))]; rfl⟩
theorem flatMap_back {α : Type} {f : α → PV} {u : PV → α} (hu : ∀ a, u (f a) = a) (H : α → List PV) (ls : List α) : (ls.map f).flatMap (fun x => H (u x)) = ls.flatMap H := by
  rw [List.flatMap_map]; congr 1; funext a; rw [hu]

section
variable {prog : Program} {w : World} {h₀ : Heap} {n : Nat} {Mod : Addr → Prop} {env : Env} {ρ : Loc} {σ : Store} {elt : Expr} {gens : List Comprehension} {scope : Scope} {pos : Pos} {d : Nat} {D : Addr} {ys : List PV} {α : Type}

theorem compAsk_of {target iter : Expr} {ifs : List Expr} {rest : List Comprehension} {cl : List (Str × Addr)} {ρc : Loc} {QA : Addr → Store → Prop} (ls : List α) (f : α → PV) (u : PV → α) (hu : ∀ a, u (f a) = a) (H : α → List PV)
    (h : WIter prog w h₀ n env target iter ρ σ fun elem good σ₁ => Itm elem good σ₁ (ls.map f) ∧ (ls.flatMap H).length ≤ 1000000 ∧
      (∀ C D, σ₁ D = none → ∀ a ∈ ls, ClauseOk prog w h₀ n (OnlyLoc (compEnvC scope cl C env)) (compEnvC scope cl C env) target ifs (compIn elt (⟨target, iter, ifs, 0⟩ :: rest) scope pos 0 (.ref D) (compEnvC scope cl C env)) ρc σ₁ D (f a) (H a)) ∧
      ∀ D, σ₁ D = none → QA D (upd σ₁ D (.lst (ls.flatMap H)))) : CompAsk prog w h₀ n env elt target iter ifs (⟨target, iter, ifs, 0⟩ :: rest) scope pos cl ρc ρ σ QA :=
  fun A s Q' ok S X hQ => h A s Q' ok S X fun it s₁ σ₁ own K Md elem good st S₁ X₁ io k0 fr ap q => hQ it s₁ σ₁ own K Md elem good st S₁ X₁ io k0 fr ap (by
    obtain ⟨q1, q2, q3, q4⟩ := q
    refine ⟨ls.map f, fun x => H (u x), q1, by rw [flatMap_back hu]; exact q2, fun C D hD x hx => ?_, fun D hD => by rw [flatMap_back hu]; exact q4 D hD⟩
    obtain ⟨a, ha, rfl⟩ := List.mem_map.mp hx
    show ClauseOk prog w h₀ n _ _ _ _ _ _ _ _ _ (H (u (f a)))
    rw [hu]; exact q3 C D hD a ha)
theorem we_comp {target iter : Expr} {ifs : List Expr} {rest : List Comprehension} (cl : List (Str × Addr)) (ρc : Loc) {Q : PV → Store → Prop} (ls : List α) (f : α → PV) (u : PV → α) (hu : ∀ a, u (f a) = a) (H : α → List PV)
    (hclos : closureFor scope env = pure cl) (hcell : ∀ y ∈ scope.names, y.2 ≠ .cell) (hnames : ∀ y ∈ scope.names, y.2 = .local → scope.names.lookup y.1 = some .local)
    (hcl : ∀ p ∈ cl, p ∈ env.cells) (hclp : (cl.map (·.1)).Nodup) (hcap : ∀ C, CapOk env scope cl C ρ ρc)
    (h : WIter prog w h₀ n env target iter ρ σ fun elem good σ₁ => Itm elem good σ₁ (ls.map f) ∧ (ls.flatMap H).length ≤ 1000000 ∧
      (∀ C D, σ₁ D = none → ∀ a ∈ ls, ClauseOk prog w h₀ n (OnlyLoc (compEnvC scope cl C env)) (compEnvC scope cl C env) target ifs (compIn elt (⟨target, iter, ifs, 0⟩ :: rest) scope pos 0 (.ref D) (compEnvC scope cl C env)) ρc σ₁ D (f a) (H a)) ∧
      ∀ D, σ₁ D = none → Q (.loc D) (upd σ₁ D (.lst (ls.flatMap H))))
    (hkind : autoParam (scope.kind = .function) Mine.Internal.au2) (ha : autoParam (∀ g ∈ (⟨target, iter, ifs, 0⟩ :: rest : List Comprehension), g.is_async = 0) Mine.Internal.au5) (hs : autoParam (∀ x, foldedSetIterable iter env x = pure x) Mine.Internal.au4) :
    WV prog w h₀ n env [] (eval (.ListComp elt (⟨target, iter, ifs, 0⟩ :: rest) scope pos) env) ρ σ Q :=
  we_listcomp rfl ha hclos hkind hcell hnames hcl hclp hcap (compAsk_of ls f u hu H h) hs
noncomputable def freesIn (names : List (Str × NameKind)) (cs : List (Str × Addr)) : Bool := names.all fun y => !(y.2 == .free) || (cs.lookup y.1).isSome
noncomputable def plainIn (names : List (Str × NameKind)) : Bool := names.all fun y => !(y.2 == .cell) && (!(y.2 == .local) || names.lookup y.1 == some .local)
theorem freesIn_of {names : List (Str × NameKind)} {cs : List (Str × Addr)} (h : freesIn names cs = true) : ∀ y ∈ names, y.2 = .free → (cs.lookup y.1).isSome = true := fun y hy e => by
  have := List.all_eq_true.mp h y hy
  rw [e] at this
  simpa using this
theorem plainIn_cell {names : List (Str × NameKind)} (h : plainIn names = true) : ∀ y ∈ names, y.2 ≠ .cell := fun y hy e => by
  have := List.all_eq_true.mp h y hy
  rw [e] at this
  simp at this
theorem plainIn_local {names : List (Str × NameKind)} (h : plainIn names = true) : ∀ y ∈ names, y.2 = .local → names.lookup y.1 = some .local := fun y hy e => by
  have := List.all_eq_true.mp h y hy
  rw [e] at this
  simpa using this
theorem SubL.nil {cs : List (Str × Addr)} : ∀ p ∈ ([] : List (Str × Addr)), p ∈ cs := fun p hp => by cases hp
theorem SubL.cons {x : Str × Addr} {l cs : List (Str × Addr)} (h : x ∈ cs) (r : ∀ p ∈ l, p ∈ cs) : ∀ p ∈ x :: l, p ∈ cs := fun p hp => by
  rcases List.mem_cons.mp hp with rfl | hp
  · exact h
  · exact r p hp
theorem asyncs_of {gens : List Comprehension} (h : (gens.all fun g => g.is_async == 0) = true) : ∀ g ∈ gens, g.is_async = 0 := fun g hg => by
  have := List.all_eq_true.mp h g hg
  simpa using this
theorem we_compb {target iter : Expr} {ifs : List Expr} {rest : List Comprehension} {cs : List (Str × Addr)} (hcs : env.cells = cs) (cl : List (Str × Addr)) (ρc : Loc) {Q : PV → Store → Prop} (ls : List α) (f : α → PV) (u : PV → α) (hu : ∀ a, u (f a) = a) (H : α → List PV)
    (hfree : freesIn scope.names cs = true) (hce : freesOf (fun x => cs.lookup x) scope.names [] = cl) (hplain : plainIn scope.names = true)
    (hcl : ∀ p ∈ cl, p ∈ cs) (hclp : (cl.map (·.1)).Nodup) (hcap : ∀ C, CapOk env scope cl C ρ ρc)
    (h : WIter prog w h₀ n env target iter ρ σ fun elem good σ₁ => Itm elem good σ₁ (ls.map f) ∧ (ls.flatMap H).length ≤ 1000000 ∧
      (∀ C D, σ₁ D = none → ∀ a ∈ ls, ClauseOk prog w h₀ n (OnlyLoc (compEnvC scope cl C env)) (compEnvC scope cl C env) target ifs (compIn elt (⟨target, iter, ifs, 0⟩ :: rest) scope pos 0 (.ref D) (compEnvC scope cl C env)) ρc σ₁ D (f a) (H a)) ∧
      ∀ D, σ₁ D = none → Q (.loc D) (upd σ₁ D (.lst (ls.flatMap H))))
    (hkind : autoParam (scope.kind = .function) Mine.Internal.au2) (ha : autoParam (((⟨target, iter, ifs, 0⟩ :: rest : List Comprehension).all fun g => g.is_async == 0) = true) Mine.Internal.au2) (hs : autoParam (∀ x, foldedSetIterable iter env x = pure x) Mine.Internal.au4) :
    WV prog w h₀ n env [] (eval (.ListComp elt (⟨target, iter, ifs, 0⟩ :: rest) scope pos) env) ρ σ Q := by
  subst hcs
  exact we_comp cl ρc ls f u hu H ((closureFor_eq (freesIn_of hfree)).trans (by rw [hce])) (plainIn_cell hplain) (plainIn_local hplain) hcl hclp hcap h hkind (asyncs_of ha) hs
theorem jel_comp {target iter : Expr} {ifs : List Expr} (hM : NoTup Mod env) (hD : σ D = none) (ls : List α) (f : α → PV) (u : PV → α) (hu : ∀ a, u (f a) = a) (H : α → List PV) (hg : gens[d + 1]? = some ⟨target, iter, ifs, 0⟩) (ha : ∀ g ∈ gens, g.is_async = 0)
    (h : WIter prog w h₀ n env target iter ρ σ fun elem good σ' => σ' = σ ∧ Itm elem good σ (ls.map f) ∧
      (∀ a ∈ ls, ClauseOk prog w h₀ n Mod env target ifs (compIn elt gens scope pos (d + 1) (.ref D) env) ρ σ D (f a) (H a)))
    (hs : autoParam (∀ x, foldedSetIterable iter env x = pure x) Mine.Internal.au4) :
    JEl prog w h₀ n Mod env [] (compIn elt gens scope pos d (.ref D) env) ρ σ D (ls.flatMap H) :=
  jel_nest hM hD hg ha (fun A s Q' ok S X hQ => h A s Q' ok S X fun it s₁ σ₁ own K Md elem good st S₁ X₁ io k0 fr ap q => hQ it s₁ σ₁ own K Md elem good st S₁ X₁ io k0 fr ap (by
    obtain ⟨q1, q2, q3⟩ := q
    refine ⟨q1, ls.map f, fun x => H (u x), q2, fun x hx => ?_, (flatMap_back hu H ls).symm⟩
    obtain ⟨a, ha, rfl⟩ := List.mem_map.mp hx
    show ClauseOk prog w h₀ n _ _ _ _ _ _ _ _ _ (H (u (f a)))
    rw [hu]; exact q3 a ha)) hs
theorem clause_name {x : Str} {p : Pos} {v : PV} {ifs : List Expr} {inner : Sem Unit} (hM : NoTup Mod env) (hk : StorM Mod env x) (hsub : Sub ρ ((x, v) :: ρ)) (h : JEl prog w h₀ n Mod env ifs inner ((x, v) :: ρ) σ D ys) :
    ClauseOk prog w h₀ n Mod env (.Name x p) ifs inner ρ σ D v ys := ⟨(x, v) :: ρ, fun σ => wt_name hM hk ⟨rfl, rfl⟩, hsub, h⟩
end
end Mine.Internal
end

section
namespace Mine.Internal
section
variable {prog : Program} {w : World} {h₀ : Heap} {n : Nat} {env : Env} {ρ : Loc} {σ : Store} {H : List (Value × PV)}
end
theorem flatMap_len {α β : Type} {f : α → List β} {m : Nat} : ∀ {l : List α}, (∀ a ∈ l, (f a).length ≤ m) → (l.flatMap f).length ≤ l.length * m
  | [], _ => by simp
  | a :: l, h => by
    rw [List.flatMap_cons, List.length_append, List.length_cons, Nat.succ_mul]
    have := h a (.head _)
    have := flatMap_len (l := l) fun b hb => h b (.tail _ hb)
    (first | lia | omega)
noncomputable def unL : PV → Int × Int
  | .tup [.int a, .int b] => (a, b)
  | _ => (0, 0)
noncomputable def unI : PV → Int
  | .int a => a
  | _ => 0
theorem Less.free {σ : Store} {σ' : Store} (l : Less σ σ') {c : Addr} {o : MObj} (h : σ' c = none) : Less σ (upd σ' c o) := l.trans (Less.upd_free h)
end Mine.Internal
end

section
namespace Mine.Internal

noncomputable def FnIn (K : Frag) (f : Addr) (p : Program) (k : Nat) (fd : FuncData) : Prop :=
  ∃ c d sl, K.lookup f = some ⟨c, d, .func fd, sl⟩ ∧ fd.body = .stmts (bodyAt p k) ∧ fd.scope = scopeAt p k ∧ codeIn K fd.code fd.qualname = true ∧
    fd.scope.kind = .function ∧ fd.scope.isGenerator = false ∧ fd.scope.isCoroutine = false ∧ fd.globals = mainGlobals ∧ fd.builtins = builtinsNs ∧ fd.closure = []
theorem FnIn.ok {K : Frag} {f : Addr} {p : Program} {k : Nat} {fd : FuncData} {h₀ : Heap} (x : FnIn K f p k fd) (X : K.In h₀) (hl : h₀.NoLimit) : FnOk h₀ f fd (bodyAt p k) := by
  obtain ⟨c, d, sl, e1, e2, e3, e4, e5, e6, e7, e8, e9, e10⟩ := x
  exact ⟨⟨_, X _ _ e1, rfl⟩, e2, fun h e => hl.keeps e, fun h e => codeRec_of (X.keeps e) e4, e5, e6, e7, e8, e9, e10⟩
theorem FnIn.scope {K : Frag} {f : Addr} {p : Program} {k : Nat} {fd : FuncData} (x : FnIn K f p k fd) : fd.scope = scopeAt p k := by
  obtain ⟨c, d, sl, e1, e2, e3, _⟩ := x; exact e3
theorem binds1 {K : Frag} {h₀ : Heap} {fd : FuncData} {x : PV} {ps : Loc} (X : K.In h₀) (g : Value → List (Str × Value)) (e : ∀ v S, peek K S (bindArgs fd ⟨[v], []⟩) = some (g v))
    (hk : ∀ v, (g v).map (·.1) = ps.map (·.1)) (hv : ∀ (h : Heap) v, Is h v x → IsAll h ((g v).map (·.2)) (ps.map (·.2))) : Binds h₀ fd [x] ps := fun s vs ex i => by
  cases i with
  | cons a r => cases r; exact ⟨_, kp_binds (X.keeps ex) fun S => e _ S, hk _, hv _ _ a⟩
theorem binds2 {K : Frag} {h₀ : Heap} {fd : FuncData} {x y : PV} {ps : Loc} (X : K.In h₀) (g : Value → Value → List (Str × Value)) (e : ∀ v u S, peek K S (bindArgs fd ⟨[v, u], []⟩) = some (g v u))
    (hk : ∀ v u, (g v u).map (·.1) = ps.map (·.1)) (hv : ∀ (h : Heap) v u, Is h v x → Is h u y → IsAll h ((g v u).map (·.2)) (ps.map (·.2))) : Binds h₀ fd [x, y] ps := fun s vs ex i => by
  cases i with
  | cons a r => cases r with
    | cons b r => cases r; exact ⟨_, kp_binds (X.keeps ex) fun S => e _ _ S, hk _ _, hv _ _ _ a b⟩
theorem binds4 {K : Frag} {h₀ : Heap} {fd : FuncData} {x y z t : PV} {ps : Loc} (X : K.In h₀) (g : Value → Value → Value → Value → List (Str × Value)) (e : ∀ v u a b S, peek K S (bindArgs fd ⟨[v, u, a, b], []⟩) = some (g v u a b))
    (hk : ∀ v u a b, (g v u a b).map (·.1) = ps.map (·.1)) (hv : ∀ (h : Heap) v u a b, Is h v x → Is h u y → Is h a z → Is h b t → IsAll h ((g v u a b).map (·.2)) (ps.map (·.2))) : Binds h₀ fd [x, y, z, t] ps := fun s vs ex i => by
  cases i with
  | cons a r => cases r with
    | cons b r => cases r with
      | cons c r => cases r with
        | cons d r => cases r; exact ⟨_, kp_binds (X.keeps ex) fun S => e _ _ _ _ S, hk _ _ _ _, hv _ _ _ _ _ a b c d⟩
theorem top_own {K : Frag} {h₀ : Heap} {p : Program} {loose : List Str} {mean : ExcName → Option Value} {mg mb : Str → Option Value} (X : K.In h₀) (T : Top p loose mean mg mb h₀) {x : Str} {f : Value} (e : nsIn K mainGlobals x = some (some f)) : TopIs h₀ x f :=
  TopIs.global T.g (mg_of X T.g e)
theorem top_built {K : Frag} {h₀ : Heap} {p : Program} {loose : List Str} {mean : ExcName → Option Value} {mg mb : Str → Option Value} (X : K.In h₀) (T : Top p loose mean mg mb h₀) {x : Str} {f : Value} (e : nsIn K mainGlobals x = some none) (hb : bootBuiltins x = some f) (hn : x ≠ "__name__") : TopIs h₀ x f :=
  TopIs.builtin T.g (mg_none_of X T.g e) T.b ((T.builtins x hn).trans hb)
theorem isAll_ints {h : Heap} : ∀ {vs : List Value} {ns : List Int}, IntsAre vs ns → IsAll h vs (ns.map PV.int)
  | _, _, .nil => .nil
  | _, _, .cons n t r => .cons (.int _ _) (isAll_ints r)
theorem script_at {prog : Program} {w : World} {h₀ : Heap} {a : Addr} {vs : List Value} {ns : List Int} (hL : h₀.IsList a vs.toArray) (hI : IntsAre vs ns) : ∀ σ, ListAt prog w h₀ σ a (ns.map PV.int) := fun σ h S => by
  obtain ⟨o, ho, r⟩ := hL
  exact ⟨vs, ⟨o, S.base _ _ ho, r⟩, isAll_ints hI⟩
noncomputable def noStore : Store := fun _ => none
theorem erel0 {h₀ h : Heap} {L : Addr} {env : Env} {m : Str → Option Value} {x : Str} {a : Addr} (F : Fr h₀ L h m) (hL : L = h₀.objs.size) (hloc : env.locals = L) (hk : env.scope.kind = .function) (hg : env.globals = mainGlobals) (hb : env.builtins = builtinsNs)
    (hc : ∀ p ∈ env.cells, ∃ o v, h.get? p.2 = some o ∧ o.data = .cell v ∧ p.2 ≠ L ∧ h₀.get? p.2 = none) (hap : env.cells.Pairwise fun x y => x.2 ≠ y.2) (hx : env.kindOf x = some .local) (hv : m x = some (.ref a)) : ERel h₀ env [(x, .loc a)] noStore h := by
  refine ⟨hk, hg, hb, ⟨m, by rw [hloc]; exact F.ns⟩, ⟨by rw [hloc, hL]; exact fresh _, rfl⟩, fun p hp => ?_, hap, fun y v e => ?_⟩
  · obtain ⟨o, v, h1, h2, h3, h4⟩ := hc p hp
    exact ⟨⟨v, o, h1, h2⟩, h4, rfl, by rw [hloc]; exact h3⟩
  · by_cases q : y = x
    · subst q
      rw [lookup_cons_self] at e; cases e
      exact ⟨_, .inl ⟨hx, m, by rw [hloc]; exact F.ns, hv⟩, .loc _⟩
    · have hb : (y == x) = false := beq_eq_false_iff_ne.mpr q
      simp [List.lookup_cons, hb] at e
end Mine.Internal
end

section
namespace Mine.Internal

noncomputable def insT {α : Type} (lt : α → α → Bool) (x : α) : List α → List α
  | [] => [x]
  | y :: ys => if lt y x then y :: insT lt x ys else x :: y :: ys
noncomputable def sortT {α : Type} (lt : α → α → Bool) : List α → List α
  | [] => []
  | x :: xs => insT lt x (sortT lt xs)
noncomputable def dedupStep {α : Type} [DecidableEq α] (acc : List α) (x : α) : List α := if x ∈ acc then acc else acc ++ [x]
noncomputable def dedup {α : Type} [DecidableEq α] (l : List α) : List α := l.foldl dedupStep []

section
variable {α β : Type} {lt : α → α → Bool}
theorem insT_perm (x : α) : ∀ l : List α, (insT lt x l).Perm (x :: l)
  | [] => .refl _
  | y :: l => by
    unfold insT
    split
    · exact ((insT_perm x l).cons y).trans (.swap ..)
    · exact .refl _
theorem sortT_perm : ∀ l : List α, (sortT lt l).Perm l
  | [] => .refl _
  | x :: l => (insT_perm x _).trans ((sortT_perm l).cons x)
theorem insT_mem {x y : α} {l : List α} : y ∈ insT lt x l ↔ y = x ∨ y ∈ l := by rw [(insT_perm x l).mem_iff, List.mem_cons]
theorem insT_sorted (tr : ∀ a b c, lt a b = true → lt b c = true → lt a c = true) (asy : ∀ a b, lt a b = true → lt b a = false) (tot : ∀ a b, lt a b = false → lt b a = false → a = b) (x : α) : ∀ l : List α, (l.Pairwise fun a b => lt b a = false) → (insT lt x l).Pairwise fun a b => lt b a = false
  | [], _ => List.pairwise_singleton ..
  | y :: l, h => by
    obtain ⟨h1, h2⟩ := List.pairwise_cons.mp h
    unfold insT
    cases hc : lt y x
    · simp only [Bool.false_eq_true, if_false]
      refine List.pairwise_cons.mpr ⟨fun z hz => ?_, h⟩
      rcases List.mem_cons.mp hz with rfl | hz
      · exact hc
      · cases hzx : lt z x
        · rfl
        · cases hyz : lt y z
          · have := tot y z hyz (h1 z hz)
            subst this; rw [hc] at hzx; cases hzx
          · rw [tr y z x hyz hzx] at hc; cases hc
    · simp only [if_true]
      refine List.pairwise_cons.mpr ⟨fun z hz => ?_, insT_sorted tr asy tot x l h2⟩
      rcases insT_mem.mp hz with rfl | hz
      · exact asy _ _ hc
      · exact h1 z hz
theorem sortT_sorted (tr : ∀ a b c, lt a b = true → lt b c = true → lt a c = true) (asy : ∀ a b, lt a b = true → lt b a = false) (tot : ∀ a b, lt a b = false → lt b a = false → a = b) : ∀ l : List α, (sortT lt l).Pairwise fun a b => lt b a = false
  | [] => .nil
  | x :: l => insT_sorted tr asy tot x _ (sortT_sorted tr asy tot l)
theorem sorted_unique : ∀ {ys zs : List α}, (∀ a ∈ ys, ∀ b ∈ ys, lt a b = false → lt b a = false → a = b) → ys.Perm zs → (ys.Pairwise fun a b => lt b a = false) → (zs.Pairwise fun a b => lt b a = false) → ys = zs
  | [], zs, _, p, _, _ => by have := p.length_eq; cases zs <;> simp_all
  | y :: ys, [], _, p, _, _ => by have := p.length_eq; simp at this
  | y :: ys, z :: zs, tot, p, h1, h2 => by
    obtain ⟨a1, a2⟩ := List.pairwise_cons.mp h1
    obtain ⟨b1, b2⟩ := List.pairwise_cons.mp h2
    have hzm : z ∈ y :: ys := p.mem_iff.mpr (.head _)
    have e : y = z := by
      have hy : y ∈ z :: zs := p.mem_iff.mp (.head _)
      rcases List.mem_cons.mp hy with rfl | hy
      · rfl
      · rcases List.mem_cons.mp hzm with rfl | hz
        · rfl
        · exact tot _ (.head _) _ hzm (b1 _ hy) (a1 _ hz)
    subst e
    rw [sorted_unique (fun a ha b hb => tot a (.tail _ ha) b (.tail _ hb)) (List.perm_cons y |>.mp p) a2 b2]
theorem insT_split {x : α} : ∀ {xs : List α} {k : Nat}, k ≤ xs.length → (∀ (i : Nat) (y : α), i < k → xs[i]? = some y → lt y x = true) → (∀ (i : Nat) (y : α), k ≤ i → xs[i]? = some y → lt y x = false) → xs.take k ++ x :: xs.drop k = insT lt x xs
  | [], k, hk, _, _ => by simp at hk; subst hk; rfl
  | y :: xs, 0, _, _, h2 => by
    unfold insT
    rw [h2 0 y (Nat.le_refl _) rfl]; rfl
  | y :: xs, k + 1, hk, h1, h2 => by
    unfold insT
    rw [h1 0 y (Nat.succ_pos _) rfl]
    simp only [List.take_succ_cons, List.drop_succ_cons, List.cons_append, if_true]
    rw [insT_split (by simpa using hk) (fun i z hi e => h1 (i + 1) z (by (first | lia | omega)) (by simpa using e)) (fun i z hi e => h2 (i + 1) z (by (first | lia | omega)) (by simpa using e))]
theorem place_mem (asy : ∀ a, lt a a = false) {x : α} {xs : List α} {k : Nat} (h1 : ∀ (i : Nat) (y : α), i < k → xs[i]? = some y → lt y x = true) (h2 : ∀ (i : Nat) (y : α), k ≤ i → xs[i]? = some y → lt y x = false) (tot : ∀ y, lt y x = false → lt x y = false → y = x)
    (hs : xs.Pairwise fun a b => lt b a = false) : x ∈ xs ↔ xs[k]? = some x := by
  refine ⟨fun h => ?_, fun h => List.mem_of_getElem? h⟩
  obtain ⟨i, hi, e⟩ := List.mem_iff_getElem.mp h
  have hik : k ≤ i := by
    rcases Nat.lt_or_ge i k with hlt | hge
    · have := h1 i x hlt (by simp [hi, e]); rw [asy] at this; cases this
    · exact hge
  have hk : k < xs.length := by (first | lia | omega)
  rcases Nat.eq_or_lt_of_le hik with rfl | hlt
  · simp [hk, e]
  · have h3 := h2 k xs[k] (Nat.le_refl _) (by simp [hk])
    have h4 := List.pairwise_iff_getElem.mp hs k i hk hi hlt
    rw [e] at h4
    rw [List.getElem?_eq_getElem hk, tot _ h3 h4]

variable [DecidableEq α] [DecidableEq β]
theorem dedupStep_mem {acc : List α} {x y : α} : y ∈ dedupStep acc x ↔ y ∈ acc ∨ y = x := by
  unfold dedupStep
  split
  · constructor
    · exact .inl
    · rintro (h | rfl) <;> assumption
  · simp
theorem dedupStep_nodup {acc : List α} {x : α} (h : acc.Nodup) : (dedupStep acc x).Nodup := by
  unfold dedupStep
  split
  · exact h
  · rename_i hx
    refine List.nodup_append.mpr ⟨h, by simp, fun a ha b hb => ?_⟩
    rw [List.mem_singleton.mp hb]; rintro rfl; exact hx ha
theorem foldDedup_mem {y : α} : ∀ {l acc : List α}, y ∈ l.foldl dedupStep acc ↔ y ∈ acc ∨ y ∈ l
  | [], acc => by simp
  | x :: l, acc => by rw [List.foldl_cons, foldDedup_mem, dedupStep_mem, List.mem_cons]; simp only [or_assoc]
theorem foldDedup_nodup : ∀ {l acc : List α}, acc.Nodup → (l.foldl dedupStep acc).Nodup
  | [], acc, h => h
  | x :: l, acc, h => foldDedup_nodup (l := l) (dedupStep_nodup h)
theorem dedup_mem {y : α} {l : List α} : y ∈ dedup l ↔ y ∈ l := by unfold dedup; rw [foldDedup_mem]; simp
theorem dedup_nodup (l : List α) : (dedup l).Nodup := foldDedup_nodup .nil
theorem foldDedup_length : ∀ {l acc : List α}, (l.foldl dedupStep acc).length ≤ acc.length + l.length
  | [], acc => by simp
  | x :: l, acc => by
    rw [List.foldl_cons, List.length_cons]
    have := foldDedup_length (l := l) (acc := dedupStep acc x)
    have : (dedupStep acc x).length ≤ acc.length + 1 := by unfold dedupStep; split <;> simp
    (first | lia | omega)
theorem dedup_length (l : List α) : (dedup l).length ≤ l.length := by have := foldDedup_length (l := l) (acc := []); simpa [dedup] using this
end

theorem sortOf_eq {α : Type} {f : α → PV} {lt : α → α → Bool} {T : Ty} {l : List α} {ys : List PV} (hT : T.ord = true) (hx : ∀ x ∈ l, HasTy T (f x)) (hl : ∀ a b, PV.lt (f a) (f b) = lt a b)
    (tr : ∀ a b c, lt a b = true → lt b c = true → lt a c = true) (asy : ∀ a b, lt a b = true → lt b a = false) (tot : ∀ a b, lt a b = false → lt b a = false → a = b) (s : SortOf (l.map f) ys) : ys = (sortT lt l).map f := by
  have hy : ∀ y ∈ ys, HasTy T y := fun y hy => by
    obtain ⟨x, hx', rfl⟩ := List.mem_map.mp (s.1.mem_iff.mp hy)
    exact hx x hx'
  refine sorted_unique (lt := PV.lt) (fun a ha b hb h1 h2 => lt_total a b (HasTy.ord T a b hT (hy a ha) (hy b hb)) h1 h2) (s.1.trans ((sortT_perm l).map f).symm) s.2 ?_
  refine List.pairwise_map.mpr ((sortT_sorted tr asy tot l).imp fun {a b} h => ?_)
  rw [hl]; exact h
theorem dset_keys (es : List (PV × PV)) (k v : PV) : (dset es k v).map (·.1) = if es.any (fun e => PV.beq e.1 k) then es.map (·.1) else es.map (·.1) ++ [k] := by
  unfold dset
  split
  · rw [List.map_map]
    refine List.map_congr_left fun e _ => ?_
    show (if _ then _ else _ : PV × PV).1 = e.1
    split <;> rfl
  · simp
theorem any_beq {es : List (PV × PV)} {k : PV} : es.any (fun e => PV.beq e.1 k) = true ↔ k ∈ es.map (·.1) := by
  rw [List.any_eq_true]
  constructor
  · rintro ⟨e, he, hb⟩
    rw [← (PV.beq_iff _ _).mp hb]; exact List.mem_map_of_mem he
  · intro h
    obtain ⟨e, he, rfl⟩ := List.mem_map.mp h
    exact ⟨e, he, (PV.beq_iff _ _).mpr rfl⟩
theorem dsets_keys {α : Type} [DecidableEq α] {f : α → PV} (hf : ∀ a b, f a = f b → a = b) : ∀ (ps : List (PV × PV)) (l acc : List α) (es : List (PV × PV)), ps.map (·.1) = l.map f → es.map (·.1) = acc.map f →
    (ps.foldl (fun o p => dset o p.1 p.2) es).map (·.1) = (l.foldl dedupStep acc).map f
  | [], l, acc, es, e1, e2 => by cases l <;> simp_all
  | p :: ps, [], acc, es, e1, e2 => by simp at e1
  | p :: ps, x :: l, acc, es, e1, e2 => by
    simp only [List.map_cons, List.cons.injEq] at e1
    simp only [List.foldl_cons]
    refine dsets_keys hf ps l _ _ e1.2 ?_
    rw [dset_keys, e1.1]
    unfold dedupStep
    by_cases h : x ∈ acc
    · rw [if_pos h, if_pos (any_beq.mpr (by rw [e2]; exact List.mem_map_of_mem h)), e2]
    · rw [if_neg h, if_neg (fun h' => by
        have := any_beq.mp h'
        rw [e2] at this
        obtain ⟨a, ha, e⟩ := List.mem_map.mp this
        rw [hf a x e] at ha; exact h ha), e2]
      simp
theorem dputs_dv (es ps : List (PV × PV)) : dputs (.dv es) ps = .dv (ps.foldl (fun o p => dset o p.1 p.2) es) := by
  induction ps generalizing es with
  | nil => rfl
  | cons p ps ih => exact ih _
theorem dputs_dt (T : Ty) (es ps : List (PV × PV)) : dputs (.dt T es) ps = .dt T (ps.foldl (fun o p => dset o p.1 p.2) es) := by
  induction ps generalizing es with
  | nil => rfl
  | cons p ps ih => exact ih _
end Mine.Internal
end

section
namespace Mine.Internal

noncomputable def SortBy (key : PV → PV) (xs ys : List PV) : Prop := ys.Perm xs ∧ ys.Pairwise fun a b => PV.lt (key b) (key a) = false
theorem sortBy_of {key : PV → PV} {xs : List PV} {T : Ty} (ho : T.ord = true) (hT : ∀ x ∈ xs, HasTy T (key x)) {p : Array Nat} (hp : PermN xs.length p) (hu : Up (rank (xs.map key)) p xs.length) : SortBy key xs (p.toList.map fun i => xs.getD i .none) := by
  have hlt : ∀ i ∈ p.toList, i < xs.length := fun i hi => List.mem_range.mp (hp.mem_iff.mp hi)
  constructor
  · refine (List.Perm.map (fun i => xs.getD i PV.none) hp).trans ?_
    have : (List.range xs.length).map (fun i => xs.getD i PV.none) = xs := by
      apply List.ext_getElem?
      intro k
      by_cases hk : k < xs.length
      · simp [hk]
      · simp [Nat.le_of_not_lt hk]
    rw [this]
  · have hs := (sortOf_of (xs := xs.map key) (p := p) ho (fun y hy => by obtain ⟨x, hx, rfl⟩ := List.mem_map.mp hy; exact hT x hx) (by rw [List.length_map]; exact hp) (by rw [List.length_map]; exact hu)).2
    rw [List.pairwise_map] at hs ⊢
    refine hs.imp_of_mem fun {a b} ha hb h => ?_
    have ga : (xs.map key).getD a .none = key (xs.getD a .none) := by simp [hlt a ha]
    have gb : (xs.map key).getD b .none = key (xs.getD b .none) := by simp [hlt b hb]
    rw [ga, gb] at h
    exact h

noncomputable def But (a : Addr) (h h' : Heap) : Prop := ∀ b o, b ≠ a → h.get? b = some o → h'.get? b = some o
theorem But.refl (a : Addr) (h : Heap) : But a h h := fun _ _ _ e => e
theorem But.same {a : Addr} {h h' : Heap} (hs : Heap.SameBut a h h') : But a h h' := fun b o n e => (hs.2 b n).trans e

section
variable {prog : Program} {w : World} {A : Around} {E : Value → Shared → Prop} {s : Shared} {T : Ty}

noncomputable def KeyCall (prog : Program) (w : World) (A : Around) (f : Value) (s : Shared) (v : Value) (k : PV) : Prop :=
  wpAny (model prog w) A (call f [v]) (fun r s' => ∃ h' tk', s' = { s with heap := h', toks := tk' } ∧ (∀ b o, s.heap.get? b = some o → h'.get? b = some o) ∧ Is h' r k) (fun _ _ => False) s

theorem list_sort_key_pv {a : Addr} {f : Value} {vs : List Value} {xs : List PV} {key : PV → PV} {n : Nat} {P : Fin → Shared → Prop} (hTo : T.ord = true) (hd : T.deep ≤ 50) (hu : A.units + 200 < cLine) (ho : s.heap.get? a = some (seqObj "list" vs.toArray n))
    (i : IsAll s.heap vs xs) (hx : ∀ x ∈ xs, HasTy T (key x)) (h64 : vs.length < 64)
    (turn : ∀ (h : Heap) (tk : Nat) (v : Value) (x : PV), But a s.heap h → x ∈ xs → Is h v x → KeyCall prog w A f { s with heap := h, toks := tk } v (key x))
    (h : ∀ h' tk ys out c, SortBy key xs ys → But a s.heap h' → h'.get? a = some (seqObj "list" (List.toArray out) c) → IsAll h' out ys → P (.done (.ret .none)) { s with heap := h', toks := tk }) :
    wpAny (model prog w) A (ksk_tree a f false) P E s := by
  have ha : a < s.heap.objs.size := Heap.lt_size ho
  have hlen := i.length
  unfold ksk_tree
  refine wpAny_bind (listItems_at ho rfl ?_)
  refine wpAny_bind (listUpdate_at ho rfl ?_ (by rw [List.size_toArray, sizeLine_eq]; (first | lia | omega)) (Nat.zero_le _))
  obtain ⟨e1, ho1⟩ : ∃ e1, (s.heap.update a (Obj.mapSeq fun _ => #[])).get? a = some (seqObj "list" #[] e1) := ⟨_, get?_update_seq ho (fun _ => #[])⟩
  refine wpAny_bind (seqEpoch_at ho1 rfl ?_)
  refine wpAny_bind (wpAny_newTuple ?_ (by show vs.length ≤ _; rw [sizeLine_eq]; (first | lia | omega)))
  refine wpAny_bind (wpAny_newList ?_ (Nat.zero_le _))
  refine wpAny_holding ?_
  have b1 : But a s.heap (s.heap.update a (Obj.mapSeq fun _ => #[])) := But.same (Heap.SameBut.update ..)
  show wpAny (model prog w) A _ P E { s with heap := ((s.heap.update a (Obj.mapSeq fun _ => #[])).push (seqObj "tuple" vs.toArray 0)).push (seqObj "list" #[] 0) }
  generalize hg1 : (s.heap.update a (Obj.mapSeq fun _ => #[])).push (seqObj "tuple" vs.toArray 0) = g1
  have hsz : a < g1.objs.size := by rw [← hg1, size_push', Heap.size_update]; exact Nat.lt_succ_of_lt ha
  have b2 : But a s.heap g1 := fun b o nb e => by rw [← hg1]; exact Heap.get?_push_of_some _ (b1 b o nb e)
  have ho2 : g1.get? a = some (seqObj "list" #[] e1) := by rw [← hg1]; exact Heap.get?_push_of_some _ ho1
  have hk0 : (g1.push (seqObj "list" #[] 0)).get? g1.objs.size = some (seqObj "list" #[] 0) := Heap.get?_push_size _ rfl
  have b3 : But a s.heap (g1.push (seqObj "list" #[] 0)) := fun b o nb e => Heap.get?_push_of_some _ (b2 b o nb e)
  have ho3 : (g1.push (seqObj "list" #[] 0)).get? a = some (seqObj "list" #[] e1) := Heap.get?_push_of_some _ ho2
  have old : ∀ b o, s.heap.get? b = some o → b ≠ g1.objs.size := fun b o e q => by
    by_cases hb : b = a
    · rw [← hb, q] at hsz; exact absurd hsz (Nat.lt_irrefl _)
    · have := b2 b o hb e
      rw [q, fresh] at this; cases this
  generalize g1.objs.size = kS at *
  generalize g1.push (seqObj "list" #[] 0) = g2 at *
  have hka : kS ≠ a := fun e => by rw [e] at hsz; exact absurd hsz (Nat.lt_irrefl _)
  clear hg1 b1 b2 ho1 ho2
  unfold ksk_rest
  refine wpAny_bind (wpAny_rule ?_)
  rw [List.forIn_toArray]
  refine wpAny_bind (ksk_fold (fun j s' => ∃ h' tk kvs e, s' = { s with heap := h', toks := tk } ∧ But a s.heap h' ∧ h'.get? a = some (seqObj "list" #[] e1) ∧ h'.get? kS = some (seqObj "list" (List.toArray kvs) e) ∧ IsAll h' kvs ((xs.map key).take j)) vs 0 _
    ⟨g2, s.toks, [], 0, rfl, b3, ho3, hk0, .nil⟩ ?step ?done)
  case step =>
    rintro j v s' hv ⟨h', tk, kvs, e, rfl, b', hoa, hok, ik⟩
    simp only [Nat.zero_add] at ik ⊢
    obtain ⟨x, hxj, ix⟩ := i.get' hv
    have kt : TupKeep s.heap h' := fun b its m eb => b' b _ (fun q => by
      rw [q] at eb
      have := (show s.heap.get? a = _ from eb).symm.trans ho
      simp [seqObj] at this) eb
    refine wpAny_bind (wpAny_attempt (wpAny_mono (turn h' tk v x b' (List.mem_of_getElem? hxj) (ix.keep kt)) (fun r s'' hr => ?_) fun _ _ f => f.elim))
    obtain ⟨h2, tk2, rfl, k2, ir⟩ := hr
    dsimp only
    have s1 := Heap.SameBut.update h2 kS (Obj.mapSeq (·.push r))
    obtain ⟨c2, hc2⟩ : ∃ c2, (h2.update kS (Obj.mapSeq (·.push r))).get? kS = some (seqObj "list" ((List.toArray kvs).push r) c2) := ⟨_, get?_update_seq (k2 _ _ hok) (·.push r)⟩
    have kt2 : TupKeep h' (h2.update kS (Obj.mapSeq (·.push r))) := fun b its m eb => (s1.2 b (fun q => by
      rw [q] at eb
      have := (show h'.get? kS = _ from eb).symm.trans hok
      simp [seqObj] at this)).trans (k2 _ _ eb)
    have kt3 : TupKeep h2 (h2.update kS (Obj.mapSeq (·.push r))) := fun b its m eb => (s1.2 b (fun q => by
      rw [q] at eb
      have := (show h2.get? kS = _ from eb).symm.trans (k2 _ _ hok)
      simp [seqObj] at this)).trans eb
    have ek : (xs.map key).take (j + 1) = (xs.map key).take j ++ [key x] := by rw [List.take_add_one, List.getElem?_map, hxj]; rfl
    have l1 := ik.length
    have l2 : ((xs.map key).take j).length ≤ vs.length := by rw [List.length_take, List.length_map]; (first | lia | omega)
    refine wpAny_bind (listUpdate_at (k2 _ _ hok) rfl ?_ (by rw [sizeLine_eq]; simp; (first | lia | omega)) (by rw [sizeLine_eq]; simp; (first | lia | omega)))
    refine wpAny_pure ⟨rfl, _, tk2, kvs ++ [r], c2, rfl, fun b o nb eb => (s1.2 b (old b o eb)).trans (k2 _ _ (b' b o nb eb)), (s1.2 a hka.symm).trans (k2 _ _ hoa), by rw [hc2]; simp, ?_⟩
    rw [ek]
    exact (ik.keep kt2).snoc (ir.keep kt3)
  case done =>
    rintro s' ⟨h', tk, kvs, e, rfl, b', hoa, hok, ik⟩
    rw [List.take_of_length_le (by simp; (first | lia | omega))] at ik
    have lk := ik.length
    rw [List.length_map] at lk
    refine wpAny_bind (listItems_at hok rfl ?_)
    have kt : TupKeep s.heap h' := fun b its m eb => b' b _ (fun q => by
      rw [q] at eb
      have := (show s.heap.get? a = _ from eb).symm.trans ho
      simp [seqObj] at this) eb
    have iv := i.keep kt
    have s1 := Heap.SameBut.update h' kS (Obj.mapSeq fun _ => (#[] : Array Value))
    have hoa1 : (h'.update kS (Obj.mapSeq fun _ => (#[] : Array Value))).get? a = some (seqObj "list" #[] e1) := (s1.2 a hka.symm).trans hoa
    have tail : ∀ (st : SortSt) (out : List Value) (ys : List PV), (arrOf st).map (·.2) = List.toArray out → failedOf st = none → SortBy key xs ys → IsAll h' out ys → wpAny (model prog w) A (ksk_tail a false e1 (.ref kS) st) P E { s with heap := h', toks := tk } := fun st out ys e2 hf hs io => by
      have lo : out.length = vs.length := by rw [io.length, hs.1.length_eq, hlen]
      have s2 := Heap.SameBut.update (h'.update kS (Obj.mapSeq fun _ => (#[] : Array Value))) a (Obj.mapSeq fun _ => List.toArray out)
      obtain ⟨c2, hc2⟩ : ∃ c2, ((h'.update kS (Obj.mapSeq fun _ => (#[] : Array Value))).update a (Obj.mapSeq fun _ => List.toArray out)).get? a = some (seqObj "list" (List.toArray out) c2) := ⟨_, get?_update_seq hoa1 fun _ => List.toArray out⟩
      have kt4 : TupKeep h' ((h'.update kS (Obj.mapSeq fun _ => (#[] : Array Value))).update a (Obj.mapSeq fun _ => List.toArray out)) := fun b its m eb => (s2.2 b (fun q => by
        rw [q] at eb
        have := (show h'.get? a = _ from eb).symm.trans hoa
        simp [seqObj] at this)).trans ((s1.2 b (fun q => by
        rw [q] at eb
        have := (show h'.get? kS = _ from eb).symm.trans hok
        simp [seqObj] at this)).trans eb)
      unfold ksk_tail
      dsimp only
      refine wpAny_bind (listUpdate_at hok rfl ?_ (by rw [sizeLine_eq]; simp; (first | lia | omega)) (Nat.zero_le _))
      refine wpAny_bind (wpAny_letGo ?_)
      refine wpAny_bind (seqEpoch_at hoa1 rfl ?_)
      rw [e2]
      refine wpAny_bind (listUpdate_at hoa1 rfl ?_ (Nat.zero_le _) (by rw [sizeLine_eq]; simp; (first | lia | omega)))
      rw [hf]
      simp only [bne_self_eq_false, Bool.false_eq_true, if_false]
      exact wpAny_pure (h _ tk ys out c2 hs (fun b o nb eb => (s2.2 b nb).trans ((s1.2 b (old b o eb)).trans (b' b o nb eb))) hc2 (io.keep kt4))
    unfold ksk_end
    simp only [Bool.false_eq_true, if_false]
    by_cases h2 : vs.toArray.size < 2
    · rw [if_pos h2, if_pos h2]
      refine wpAny_bind (wpAny_pure ?_)
      rw [StateT.run_pure]
      refine wpAny_bind (wpAny_pure ?_)
      refine tail _ vs xs ?_ rfl ⟨List.Perm.refl _, ?_⟩ iv
      · show ((List.toArray kvs).zip vs.toArray).map (·.2) = vs.toArray
        apply Array.toList_inj.mp
        simp [List.map_snd_zip (show vs.length ≤ kvs.length by (first | lia | omega))]
      · match xs, hlen with
        | [], _ => exact .nil
        | [x], _ => exact List.pairwise_singleton ..
        | _ :: _ :: _, hlen => simp at h2; simp at hlen; (first | lia | omega)
    · rw [if_neg h2, if_neg h2]
      simp only [List.size_toArray] at h2
      have hxk : ∀ y ∈ xs.map key, HasTy T y := fun y hy => by obtain ⟨x, hx', rfl⟩ := List.mem_map.mp hy; exact hx x hx'
      refine wpAny_bind (wpAny_mono (E := fun _ _ => False) (kind_pv (Q := fun κ s' => KindOk κ T ∧ s' = { s with heap := h', toks := tk }) (s := { s with heap := h', toks := tk }) hTo (by (first | lia | omega)) ik hxk fun κ hκ => ⟨hκ, rfl⟩) (fun κ s' hk => ?_) fun _ _ e => e.elim)
      obtain ⟨hκ, rfl⟩ := hk
      have lkv : kvs.length = vs.length := by (first | lia | omega)
      refine wpAny_bind (wpAny_mono (kat_run (E := E) (ks := kvs) (vs := vs) (κ := κ) (s := { s with heap := h', toks := tk }) (G := fun p s' => (PermN xs.length p ∧ Up (rank (xs.map key)) p xs.length) ∧ s' = { s with heap := h', toks := tk })
        (Q := fun st' s' => ∃ p : Array Nat, arrOf st' = p.map (kas_item ((List.toArray kvs).zip vs.toArray)) ∧ failedOf st' = none ∧ (PermN xs.length p ∧ Up (rank (xs.map key)) p xs.length) ∧ s' = { s with heap := h', toks := tk })
        lkv (by (first | lia | omega)) h64 (fun p st' s' h1 h2 h3 h4 => ⟨p, h2, h3, h4.1, h4.2⟩) (by
          rw [← lkv]
          exact sortTree_pv (s := { s with heap := h', toks := tk }) hκ hTo hd hu (by (first | lia | omega)) ik hxk fun p hp hup => by
            rw [List.length_map] at hp hup; exact ⟨⟨hp, hup⟩, rfl⟩)) ?_ fun _ _ e => e)
      rintro ⟨⟨⟩, st'⟩ s' ⟨p, har, hf, ⟨hp, hup⟩, rfl⟩
      exact tail st' _ _ (kat_snds lkv har) hf (sortBy_of hTo hx hp hup) (IsAll.pick iv _ fun k hk => List.mem_range.mp (hp.mem_iff.mp hk))
end
end Mine.Internal
end

section
namespace Mine.Internal

theorem TopIs.mono {h₀ h : Heap} {x : Str} {f : Value} (t : TopIs h₀ x f) (k : Ext h₀ h) : TopIs h x f := fun M A E s env Q e => t M A E s env Q fun b o eb => e _ _ (k _ _ eb)
noncomputable def noneS : Store := fun _ => none

section
variable {prog : Program} {w : World} {h₀ : Heap} {n : Nat} {env : Env} {ρ : Loc} {σ : Store} {Q : PV → Store → Prop}

theorem lam_call {A : Around} {s : Shared} {f : Addr} {o : Obj} {fd : FuncData} {body : Expr} {y : Str} {v : Value} {x k : PV} (hA : Ok 1 A) (ho : s.heap.get? f = some o) (hd : o.data = .func fd) (hbody : fd.body = .expr body)
    (hkind : fd.scope.kind = .function) (hgen : fd.scope.isGenerator = false) (hco : fd.scope.isCoroutine = false) (hgl : fd.globals = mainGlobals) (hbu : fd.builtins = builtinsNs) (hclo : fd.closure = []) (hcode : s.heap.CodeRec fd.code fd.qualname)
    (hcell : ∀ z ∈ fd.scope.names, z.2 ≠ .cell) (hy : fd.scope.names.lookup y = some .local) (lim : s.heap.NoLimit) (hb : bindArgs fd ⟨[v], []⟩ = pure [(y, v)]) (iv : Is s.heap v x)
    (hw : ∀ env' : Env, (∀ z, env'.kindOf z = fd.scope.names.lookup z) → WV prog w s.heap 0 env' [] (eval body env') [(y, x)] noneS fun r σ' => r = k ∧ σ' = noneS) : KeyCall prog w A (.ref f) s v k := by
  unfold KeyCall
  refine wpAny_call (kla_callFunE (by have := hA.depth; show A.depth < 1000; (first | lia | omega)) ho hd hco hgen hbody hcode ?_)
  rw [hb]
  refine wpAny_pure (wpAny_newFunctionEnv hcell (fun z hz => by rw [List.mem_singleton.mp hz]; exact hy) (fun h₁ hns hsb => ⟨?_, ?_⟩) hkind)
  · exact lim.keeps fun b ob e => (hsb.2 b (fun q => by rw [q, fresh] at e; cases e)).trans (Heap.get?_push_of_some _ e)
  have keep : ∀ b ob, s.heap.get? b = some ob → h₁.get? b = some ob := fun b ob e => (hsb.2 b (fun q => by rw [q, fresh] at e; cases e)).trans (Heap.get?_push_of_some _ e)
  refine kla_codeExpr ?_
  generalize hE : newEnv fd.scope s.heap.objs.size fd.globals fd.closure (fd.qualname ++ ".<locals>.") (some f) fd.code none fd.builtins = env'
  have hk' : ∀ z, env'.kindOf z = fd.scope.names.lookup z := fun z => by rw [← hE]; rfl
  have S : SRel prog w s.heap noneS h₁ := ⟨keep, trivial, fun a o e => (by cases e), fun a o e => (by cases e)⟩
  have kt : TupKeep s.heap h₁ := fun b its m e => keep b _ e
  have hloc : env'.locals = s.heap.objs.size := by rw [← hE]; rfl
  have X : ERel s.heap env' [(y, x)] noneS h₁ := by
    refine ⟨by rw [← hE]; exact hkind, by rw [← hE]; exact hgl, by rw [← hE]; exact hbu, ⟨_, by rw [hloc]; exact hns⟩, ⟨by rw [hloc]; exact fresh _, rfl⟩, fun p hp => ?_, ?_, fun z u e => ?_⟩
    · have : env'.cells = [] := by rw [← hE]; exact hclo
      rw [this] at hp; cases hp
    · have : env'.cells = [] := by rw [← hE]; exact hclo
      rw [this]; exact .nil
    · by_cases q : z = y
      · subst q
        rw [lookup_cons_self] at e; cases e
        exact ⟨v, .inl ⟨(hk' _).trans hy, _, by rw [hloc]; exact hns, by simp⟩, iv.keep kt⟩
      · have hzb : (z == y) = false := beq_eq_false_iff_ne.mpr q
        simp [List.lookup_cons, hzb] at e
  refine wpAny_mono (hw env' hk' (A.deeper env') { s with heap := h₁, toks := s.toks + [(y, v)].length } (Ok.deeper hA env') S X (fun _ hp => by cases hp)) (fun r s' x => ?_) fun _ _ e => e.elim
  refine x.elim fun h' tk b ρ' σ' e p S' X' sub r' q => ?_
  obtain ⟨-, rfl, rfl⟩ := q
  exact ⟨h', tk, e, fun b ob e => p.2 b ob (fun d => d.elim (fun ⟨o, e⟩ => by cases e) id) (keep b ob e), r'⟩

theorem we_sorted_key {x y : Str} {p pos kp lpos : Pos} {e : Expr} {params : Arguments} {body : Expr} {lscope : Scope} {c P : Addr} {mg : Str → Option Value} (g : GName prog w h₀ env ρ x (.builtin "sorted"))
    (hcode : env.code = .ref c) (C : CodeHd h₀ c P) (hg : h₀.Ns mainGlobals mg) (hb : h₀.BuiltinsAt mg P) (hgP : mainGlobals ≠ P) (lim : ∀ h, Ext h₀ h → h.NoLimit) (hclos : closureFor lscope env = pure []) (hdef : defaultsOf params env = ([], []))
    (hkind : lscope.kind = .function) (hgen : lscope.isGenerator = false) (hco : lscope.isCoroutine = false) (hcell : ∀ z ∈ lscope.names, z.2 ≠ .cell) (hy : lscope.names.lookup y = some .local)
    (hbind : ∀ v qual cv ctv pm, bindArgs (kla_fn "<lambda>" qual params body lscope [] pm cv ctv) ⟨[v], []⟩ = pure [(y, v)])
    (h : WL prog w h₀ (n + 2) env [] (spliced (backTo pos (starEach [e] env))) ρ σ fun ds σ₁ => σ₁ P = some (.raw (tabObj #[])) ∧ ∃ (d : PV) (xs : List PV) (key : PV → PV) (T : Ty), ds = [d] ∧ T.ord = true ∧ T.deep ≤ 50 ∧ (∀ o, Collects prog w h₀ (upd σ₁ P (.raw o)) d xs) ∧ xs.length < 64 ∧ (∀ z ∈ xs, HasTy T (key z)) ∧
      (∀ z ∈ xs, ∀ h1 env', Ext h₀ h1 → (∀ u, env'.kindOf u = lscope.names.lookup u) → WV prog w h1 0 env' [] (eval body env') [(y, z)] noneS fun r σ' => r = key z ∧ σ' = noneS) ∧
      ∀ ys ps, SortBy key xs ys → ∀ c', c' ≠ P → σ₁ c' = none → Q (.loc c') (upd (upd σ₁ P (.raw (tabObj ps))) c' (.lst ys)))
    (he : autoParam (backTo pos (starEach (e :: []) env) = (false, eval e env) :: backTo pos (starEach [] env)) Mine.Internal.au2) (hpl : autoParam ((backTo pos (starEach (e :: []) env)).any (·.1) = false) Mine.Internal.au2) :
    WV prog w h₀ (n + 2) env [] (eval (.Call (.Name x p) [e] [⟨some "key", .Lambda params body lscope lpos, kp⟩] pos) env) ρ σ Q := fun A s ok S X hh => by
  refine wpAny_Call_Name_kw (g A s σ p _ S X (callWith_kw ?_ he hpl))
  refine h.run (R' := Is) (γ := Value) (δ := PV) ok S X hh fun vs s₁ ds σ₁ S₁ X₁ hh₁ rs q tr => ?_
  obtain ⟨hP, d, xs, key, T, rfl, hTo, hd, hcol, h64, hkt, hbody, q⟩ := q
  obtain ⟨v, rfl⟩ := one_of rs.length
  have r : Is s₁.heap v d := by cases rs; assumption
  have rP := (S₁.objs _ _ hP).1
  have hPh : h₀.get? P = none := S₁.off _ _ hP
  refine kws_cons (kla_eval hdef (kla_makeFunction hclos X₁.glob (hg.at' fun o ho => S₁.base _ _ ho) hcode (C.keeps S₁.base) rP trivial rfl hgP ?_ fun c' ctv h2 tk2 hx hge hlt hrec htb => kws_nil ?_))
  · obtain ⟨bm, o, b1, b2, b3, b4, b5, r⟩ := hb
    exact ⟨bm, o, b1, b2, b3, b4, S₁.base _ _ b5, r⟩
  have pf : Pres (fun b => b = P) s₁.heap (h2.push (kla_obj "<lambda>" (env.qual ++ "<lambda>") params body lscope [] ((mg "__name__").getD .none) c' ctv)) := ⟨trivial, fun b o nb e => Heap.get?_push_of_some _ (hx b o nb e)⟩
  have hfo : (h2.push (kla_obj "<lambda>" (env.qual ++ "<lambda>") params body lscope [] ((mg "__name__").getD .none) c' ctv)).get? h2.objs.size = some (kla_obj "<lambda>" (env.qual ++ "<lambda>") params body lscope [] ((mg "__name__").getD .none) c' ctv) := Heap.get?_push_size _ rfl
  have hrec2 : (h2.push (kla_obj "<lambda>" (env.qual ++ "<lambda>") params body lscope [] ((mg "__name__").getD .none) c' ctv)).CodeRec (.ref c') (env.qual ++ "<lambda>") := hrec.keeps fun b o e => Heap.get?_push_of_some _ e
  have htb2 := Heap.get?_push_of_some (kla_obj "<lambda>" (env.qual ++ "<lambda>") params body lscope [] ((mg "__name__").getD .none) c' ctv) htb
  show wpAny _ _ (call (.builtin "sorted") [v] [((Str.ofString "key"), .ref h2.objs.size)]) _ _ _
  generalize hfob : kla_obj "<lambda>" (env.qual ++ "<lambda>") params body lscope [] ((mg "__name__").getD .none) c' ctv = fob at *
  generalize h2.push fob = g1 at *
  generalize h2.objs.size = f at *
  have htc : (tabObj ((#[] : Array Value) ++ #[rawInt lpos.line, rawInt lpos.col, .ref c'])).cls ≠ .type "tuple" := fun e => by cases e
  generalize ((#[] : Array Value) ++ #[rawInt lpos.line, rawInt lpos.col, .ref c']) = tps at htb2 htc
  clear hx hge hlt hrec htb
  obtain ⟨S₂, X₂, hh₂, tr₂⟩ := turnStep (γ := Value) (δ := PV) (R' := Is) (o' := .raw (tabObj tps)) S₁ X₁ (Held.cons hh₁ r) hP pf ⟨htb2, htc⟩
  have iv : Is g1 v d := hh₂ _ (.head _)
  have okr := ok.room
  have okd := ok.depth
  have oku := ok.units
  have u1 := in1_units A
  have u2 := in1_units A.in1
  refine PyProof.Rows.call_function_entry_kw kind_sorted plain_sorted entry_sorted (ksk_s1 _ _) ?_
  unfold Builtin.«sorted»
  refine wpAny_bind (m := checkCount "sorted" 1 1 _) (wpAny_pure ?_)
  refine wpAny_bind (wpAny_mono (E := fun _ _ => False) (hcol (tabObj tps) A.in1 { s₁ with heap := g1, toks := tk2 } v (fun ws s' => ∃ h3 tk3, s' = { s₁ with heap := h3, toks := tk3 } ∧ Pres NoMod g1 h3 ∧ IsAll h3 ws xs) ⟨ok.handled, by show A.depth + 2 * 0 ≤ 500; (first | lia | omega), by (first | lia | omega)⟩ S₂ iv fun ws h3 tk3 p i => ⟨h3, tk3, rfl, p, i⟩) (fun ws s' hs => ?_) fun _ _ e => e.elim)
  obtain ⟨h3, tk3, rfl, p3, i3⟩ := hs
  have len := i3.length
  refine wpAny_bind (wpAny_newList ?_ (by rw [sizeLine_eq]; (first | lia | omega)))
  have hoL : (h3.push (seqObj "list" ws.toArray 0)).get? h3.objs.size = some (seqObj "list" ws.toArray 0) := Heap.get?_push_size _ rfl
  have p4 : Pres NoMod g1 (h3.push (seqObj "list" ws.toArray 0)) := p3.push _
  have i4 : IsAll (h3.push (seqObj "list" ws.toArray 0)) ws xs := i3.keep fun b its m e => Heap.get?_push_of_some _ e
  have hDn : g1.get? h3.objs.size = none := by
    cases e : g1.get? h3.objs.size with
    | none => rfl
    | some o => have := p3.2 _ o (fun f => f) e; rw [fresh] at this; cases this
  show wpAny _ _ _ _ _ { s₁ with heap := h3.push (seqObj "list" ws.toArray 0), toks := tk3 }
  generalize h3.objs.size = D at *
  generalize h3.push (seqObj "list" ws.toArray 0) = h4 at *
  have hfD : f ≠ D := fun e => by rw [e, hDn] at hfo; cases hfo
  have old : ∀ h5, But D h4 h5 → ∀ b o, g1.get? b = some o → h5.get? b = some o := fun h5 b5 b o e => b5 b o (fun q => by rw [q, hDn] at e; cases e) (p4.2 b o (fun f => f) e)
  refine wpAny_bind (wpAny_holding (wpAny_call_entry_kw slot_list_sort ⟨_, hoL, rfl⟩ entry_list_sort ?_ (ksk_l1 _ _)))
  show wpAny (model prog w) A.in1.in1 (Builtin.«list.sort» ⟨[.ref D], [(Str.ofString "key", .ref f)]⟩) _ _ _
  rw [ksk_t1]
  refine list_sort_key_pv (s := { s₁ with heap := h4, toks := tk3 }) (key := key) hTo hd (by (first | lia | omega)) hoL i4 hkt (by (first | lia | omega)) (fun h5 tk5 u z b5 hz iu => ?_) fun h5 tk5 ys out c5 hs b5 h5D i5 => ⟨_, rfl, ?_⟩
  · have o5 := old h5 b5
    have e5 : Ext h₀ h5 := fun b o e => o5 b o (S₂.base b o e)
    refine lam_call (fd := kla_fn "<lambda>" (env.qual ++ "<lambda>") params body lscope [] ((mg "__name__").getD .none) (.ref c') ctv) (y := y) ⟨ok.handled, by show A.depth + 2 * 1 ≤ 500; (first | lia | omega), by (first | lia | omega)⟩ (o5 _ _ hfo) (by rw [← hfob]) rfl hkind hgen hco rfl rfl rfl (hrec2.keeps o5) hcell hy (lim _ e5) (hbind _ _ _ _ _) iu fun env' hk' => hbody z hz h5 env' e5 hk'
  · refine wpAny_pure ⟨_, rfl, ?_⟩
    obtain ⟨S₃, X₃, hh₃, tr₃⟩ := newStep (γ := Value) (δ := PV) (R' := Is) (s := { s₁ with heap := g1, toks := tk2 }) (o := .lst ys) S₂ X₂ hh₂ ⟨trivial, fun b o _ e => old h5 b5 b o e⟩ hDn ⟨out, c5, h5D, i5⟩
    refine tr _ _ _ (tr₂ tk2 _ _ _ (tr₃ tk5 _ _ _ (Post.here (s := { s₁ with heap := h5, toks := tk5 }) S₃ X₃ (.loc _) ⟨rfl, q ys tps hs D ?_ ?_⟩)))
    · exact fun e => by rw [e, htb2] at hDn; cases hDn
    · have := free_of (s := g1) S₂ hDn
      by_cases hDP : D = P
      · rw [hDP, upd_same] at this; cases this
      · rw [upd_ne _ _ hDP] at this; exact this
end
end Mine.Internal
end

section
namespace Mine.Internal

section
variable {prog : Program} {w : World} {h₀ : Heap} {n : Nat} {env : Env} {ρ : Loc} {σ : Store} {Q : PV → Store → Prop}
structure EqOK (prog : Program) (w : World) (h₀ : Heap) (m : Nat) (σ : Store) (x y : PV) (r : Bool) : Prop where
  at' : ∀ A s u v, A.units + m < cLine → SRel prog w h₀ σ s.heap → Is s.heap u x → Is s.heap v y → EqAt A s u v r
  one : ∀ (h : Heap) v, Is h v x → Is h v y → r = true
theorem eqok_sim {x y : PV} (hd : x.deep ≤ 20) (hs : Sim x y) : EqOK prog w h₀ 70 σ x y (PV.beq x y) :=
  ⟨fun A s u v hu S iu iv => eqAt_sim 20 A s u v x y hd (by (first | lia | omega)) iu iv hs, fun h v a b => by rw [Is.simEq a b hs]; exact (PV.beq_iff y y).mpr rfl⟩
theorem eqok_list {a b : Addr} {xs ys : List PV} (ea : σ a = some (.lst xs)) (eb : σ b = some (.lst ys)) (hd : PV.deeps xs ≤ 50) (hs : Sims xs ys) : EqOK prog w h₀ 70 σ (.loc a) (.loc b) (PV.beqs xs ys) := by
  have same : a = b → PV.beqs xs ys = true := fun e => by subst e; rw [ea] at eb; cases eb; exact (PV.beqs_iff xs xs).mpr rfl
  refine ⟨fun A s u v hu S iu iv => ?_, fun h v i j => by cases i; cases j; exact same rfl⟩
  cases iu; cases iv
  by_cases hab : a = b
  · rw [same hab, hab]; exact EqAt.same _
  · refine EqAt.of_refs hab ?_
    obtain ⟨vs, k, l1, i1⟩ := S.objs _ _ ea
    obtain ⟨ws, k2, l2, i2⟩ := S.objs _ _ eb
    have n1 := i1.length; have n2 := i2.length
    rw [beqs_all .none]
    by_cases e : xs.length = ys.length
    · have key := RcAt.lists (IsL.isList l1) (IsL.isList l2) (by simp; (first | lia | omega)) (A := A) (by (first | lia | omega)) (seqEq hd (by (first | lia | omega)) i1 i2 hs)
      have e1 : (xs.length == ys.length) = true := by simpa using e
      rw [e1, Bool.and_true, ← e, Nat.min_self]
      simpa only [List.size_toArray, n1] using key
    · have e1 : (xs.length == ys.length) = false := by simpa using e
      rw [e1, Bool.and_false]
      exact RcAt.lists_lengths (IsL.isList l1) (IsL.isList l2) (by simp; (first | lia | omega)) (by (first | lia | omega))
theorem eqok_pair {x1 x2 y1 y2 : PV} {r1 r2 : Bool} {m : Nat} (h1 : EqOK prog w h₀ m σ x1 y1 r1) (h2 : EqOK prog w h₀ m σ x2 y2 r2) : EqOK prog w h₀ (m + 1) σ (.tup [x1, x2]) (.tup [y1, y2]) (r1 && r2) := by
  have same : ∀ (h : Heap) (p : Addr) k k' vs ws, IsT h p (List.toArray vs) k → IsT h p (List.toArray ws) k' → IsAll h vs [x1, x2] → IsAll h ws [y1, y2] → (r1 && r2) = true := fun h p k k' vs ws t t' i j => by
    have e := t.symm.trans t'
    simp only [Option.some.injEq, Obj.mk.injEq, Data.seq.injEq, true_and, and_true] at e
    have e' := congrArg Array.toList e.1
    simp only at e'
    subst e'
    obtain ⟨u, v, rfl, a1, a2⟩ := i.two
    obtain ⟨u', v', e2, b1, b2⟩ := j.two
    cases e2
    rw [h1.one _ _ a1 b1, h2.one _ _ a2 b2]; rfl
  refine ⟨fun A s u v hu S iu iv => ?_, fun h v i j => ?_⟩
  · cases iu with | tup t i => cases iv with | tup t' j => 
    rename_i a k vs b k' ws
    by_cases hab : a = b
    · subst hab
      rw [same _ _ _ _ _ _ t t' i j]; exact EqAt.same _
    · refine EqAt.of_refs hab ?_
      obtain ⟨u1, u2, rfl, a1, a2⟩ := i.two
      obtain ⟨v1, v2, rfl, b1, b2⟩ := j.two
      have := in1_units A
      have key := RcAt.tuples (A := A) (s := s) (e := fun i => if i = 0 then r1 else r2) (IsTup_of t) (IsTup_of t') (by (first | lia | omega)) (fun j g1 g2 => by
        have : j = 0 ∨ j = 1 := by simp at g1; (first | lia | omega)
        rcases this with rfl | rfl
        · exact h1.at' A.in1 s u1 v1 (by (first | lia | omega)) S a1 b1
        · exact h2.at' A.in1 s u2 v2 (by (first | lia | omega)) S a2 b2)
      have e : (((List.range (min ([u1, u2] : List Value).toArray.size ([v1, v2] : List Value).toArray.size)).all (fun i => if i = 0 then r1 else r2)) && ([u1, u2] : List Value).toArray.size == ([v1, v2] : List Value).toArray.size) = (r1 && r2) := by
        cases r1 <;> cases r2 <;> rfl
      rw [e] at key
      exact key
  · cases i with | tup t i => cases j with | tup t' j => exact same _ _ _ _ _ _ t t' i j

noncomputable def hitV (h : Heap) (xs : List PV) (f : PV → Bool) (v : Value) : Bool := @decide (∃ x ∈ xs, Is h v x ∧ f x = true) (Classical.propDecidable _)
noncomputable def Apart1 (xs : List PV) : Prop := ∀ (h : Heap) v x x', x ∈ xs → x' ∈ xs → Is h v x → Is h v x' → x = x'
theorem hitV_eq {h : Heap} {xs : List PV} {f : PV → Bool} (ap : Apart1 xs) {v : Value} {x : PV} (hx : x ∈ xs) (iv : Is h v x) : hitV h xs f v = f x := by
  unfold hitV
  cases hf : f x with
  | true => exact @decide_eq_true _ (Classical.propDecidable _) ⟨x, hx, iv, hf⟩
  | false => exact @decide_eq_false _ (Classical.propDecidable _) fun ⟨x', hx', iv', hf'⟩ => by rw [ap h v x x' hx hx' iv iv', hf'] at hf; cases hf
theorem hitV_any {h : Heap} {xs : List PV} {f : PV → Bool} (ap : Apart1 xs) : ∀ {vs : List Value} {ys : List PV}, IsAll h vs ys → (∀ y ∈ ys, y ∈ xs) → vs.any (hitV h xs f) = ys.any f
  | _, _, .nil, _ => rfl
  | _, _, .cons a r, hs => by
    simp only [List.any_cons]
    rw [hitV_eq ap (hs _ (.head _)) a, hitV_any ap r fun y hy => hs y (.tail _ hy)]
theorem lc_notin_rows {a : Addr} {xs : List PV} {k : PV} (ea : σ a = some (.lst xs)) (f : PV → Bool) (hf : ∀ x ∈ xs, EqOK prog w h₀ 71 σ x k (f x)) (ap : Apart1 xs) : LCmp prog w h₀ .NotIn k (.loc a) σ (!xs.any f) := fun A s u v Q ok S ha hb hQ => by
  cases hb
  obtain ⟨vs, n, l1, i1⟩ := S.objs _ _ ea
  have := ok.room
  have := in1_units A
  refine notIn_listAt (hitV s.heap xs f) (IsL.isList l1) (fun y hy => ?_) ?_
  · obtain ⟨x, hx, ix⟩ := i1.mem (by simpa using hy)
    rw [hitV_eq ap hx ix]
    exact (hf x hx).at' _ s y u (by (first | lia | omega)) S ix ha
  · rw [List.any_toArray, hitV_any ap i1 fun _ h => h]
    exact hQ s.toks
theorem lc_index_rows {a : Addr} {xs : List PV} {k : PV} {j : Nat} (ea : σ a = some (.lst xs)) (hl : xs.length ≤ 1000000) (f : PV → Bool) (hf : ∀ x ∈ xs, EqOK prog w h₀ 71 σ x k (f x)) (ap : Apart1 xs) (hj : j < xs.length) (hit : f xs[j] = true) (hno : ∀ m (hm : m < xs.length), m < j → f xs[m] = false)
    (q : Q (.int j) σ) : LCall prog w h₀ n (.builtin "list.index") [.loc a] [k] σ Q := fun env ρ H pos fs vs l1 l2 hp => WE.leaf q fun A s Q' ok S X hh hQ => by
  obtain ⟨g, rfl⟩ := one_of l1
  obtain ⟨v, rfl⟩ := one_of l2
  have := held_loc hh (hp _ (.head _)); subst this
  have iv := hh _ (hp _ (.tail _ (.head _)))
  obtain ⟨ws, n1, il, i1⟩ := S.objs _ _ ea
  have hl' := i1.length
  have := ok.room
  have := in1_units A
  have := in1_units A.in1
  have el : ∀ m (hm : m < ws.toArray.size), hitV s.heap xs f ws.toArray[m] = f (xs[m]'(by simp at hm; (first | lia | omega))) := fun m hm => by
    obtain ⟨y, ey, iy⟩ := i1.get' (i := m) (List.getElem?_eq_getElem (by simpa using hm))
    obtain ⟨hm2, ey2⟩ := List.getElem?_eq_some_iff.mp ey
    rw [List.getElem_toArray, hitV_eq ap (List.mem_of_getElem? ey) iy, ey2]
  refine callWith_builtin (by simp [pures]) (evalArgs_pures ?_)
  show wpAny _ _ (call (.builtin "list.index") [.ref a, v]) _ _ _
  refine call_meets PySem.F.slot_list_index ⟨_, il, rfl⟩ PySem.F.entry_list_index (PySem.F.args_list_index_2 _ _)
    (list_indexAt a ws.toArray n1 none #[] v (hitV s.heap xs f) j (by simp; (first | lia | omega)) (by (first | lia | omega)) (by rw [el]; exact hit) fun m hm hlt => by rw [el]; exact hno m _ hlt) ⟨il, fun y hy => ?_, ?_⟩
  · obtain ⟨x, hx, ix⟩ := i1.mem (by simpa using hy)
    rw [hitV_eq ap hx ix]
    exact (hf x hx).at' _ s y v (by (first | lia | omega)) S ix iv
  · exact hQ _ _ (.int _ _)
end
end Mine.Internal
end

section
namespace Mine.Internal

section
variable {prog : Program} {w : World} {h₀ : Heap} {n : Nat} {env : Env} {ρ : Loc} {σ : Store} {Q : PFlow → Loc → Store → Prop}
noncomputable def Turn (prog : Program) (w : World) (h₀ : Heap) (n : Nat) (env : Env) (target : Expr) (body : List Stmt) (v : PV) (ρ : Loc) (σ : Store) (Q : PFlow → Loc → Store → Prop) (J : Loc → Store → Prop) : Prop :=
  WT prog w h₀ n (Own env) env target v ρ σ fun ρ₁ σ₁ => ∀ Q', (∀ ρ₂ ρ₃ σ₂, Sub ρ₃ ρ₂ → J ρ₃ σ₂ → Q' .next ρ₂ σ₂) → (∀ v ρ₂ σ₂, Q (.ret v) ρ₂ σ₂ → Q' (.ret v) ρ₂ σ₂) → WS prog w h₀ n env (execs body env) ρ₁ σ₁ Q'
theorem turn_go {target : Expr} {body : List Stmt} {v : PV} {J : Loc → Store → Prop} (h : Turn prog w h₀ n env target body v ρ σ Q J) :
    WT prog w h₀ n (Own env) env target v ρ σ fun ρ₂ σ₂ => WS prog w h₀ n env (execs body env) ρ₂ σ₂ fun f ρ₃ σ₃ => match f with
        | .next | .cont => ∃ ρ₄, Sub ρ₄ ρ₃ ∧ J ρ₄ σ₃
        | .brk => Q .next ρ₃ σ₃
        | .ret v => Q (.ret v) ρ₃ σ₃ := fun H val m => (h H val m).mono fun _ ρ₁ σ₁ x => x _ (fun ρ₂ ρ₃ σ₂ s j => ⟨ρ₃, s, j⟩) fun v ρ₂ σ₂ q => q
theorem turn_name {x : Str} {p : Pos} {body : List Stmt} {v : PV} {J : Loc → Store → Prop} (hk : Stor env x)
    (h : ∀ Q', (∀ ρ₂ ρ₃ σ₂, Sub ρ₃ ρ₂ → J ρ₃ σ₂ → Q' .next ρ₂ σ₂) → (∀ v ρ₂ σ₂, Q (.ret v) ρ₂ σ₂ → Q' (.ret v) ρ₂ σ₂) → WS prog w h₀ n env (execs body env) ((x, v) :: ρ) σ Q') :
    Turn prog w h₀ n env (.Name x p) body v ρ σ Q J := wt_name (ownMod _) hk.own h
theorem ws_for_list {target iter : Expr} {body : List Stmt} {pos : Pos}
    (h : WV prog w h₀ n env [] (eval iter env) ρ σ fun x σ₁ => ∃ l ys, x = .loc l ∧ σ₁ l = some (.lst ys) ∧ ∃ I : Nat → Loc → Store → Prop, I 0 ρ σ₁ ∧ (∀ i ρ' σ', I i ρ' σ' → σ' l = some (.lst ys)) ∧ (∀ ρ' σ', I ys.length ρ' σ' → Q .next ρ' σ') ∧
      ∀ i v ρ' σ', i < ys.length → ys[i]? = some v → I i ρ' σ' → Turn prog w h₀ n env target body v ρ' σ' Q (I (i + 1)))
    (hs : autoParam (∀ x, foldedSetIterable iter env x = pure x) Mine.Internal.au4) :
    WS prog w h₀ n env (exec (.For target iter body [] pos) env) ρ σ Q := by
  refine ws_for (wi_list (WE.mono h fun x σ₁ q => ?_)) hs
  obtain ⟨l, ys, rfl, el, I, i0, keep, done, step⟩ := q
  refine ⟨l, ys, rfl, el, fun i ρ' σ' => i ≤ ys.length ∧ I i ρ' σ', ys.length, ⟨Nat.zero_le _, i0⟩, fun i ρ' σ' j => ?_⟩
  have e := keep i ρ' σ' j.2
  refine ⟨⟨_, e⟩, ?_⟩
  rw [elemL_of e]
  cases he : ys[i]? with
  | none =>
    have : i = ys.length := Nat.le_antisymm j.1 (List.getElem?_eq_none_iff.mp he)
    subst this
    exact done _ _ j.2
  | some v =>
    have hlt := (List.getElem?_eq_some_iff.mp he).1
    exact ⟨hlt, fun H val m => (turn_go (step i v ρ' σ' hlt he j.2) H val m).mono fun _ ρ₂ σ₂ x => WP.mono x fun f ρ₃ σ₃ y => by
      cases f with
      | next => obtain ⟨ρ₄, s, k⟩ := y; exact ⟨ρ₄, s, hlt, k⟩
      | cont => obtain ⟨ρ₄, s, k⟩ := y; exact ⟨ρ₄, s, hlt, k⟩
      | brk => exact y
      | ret v => exact y⟩
theorem ws_for_str {target iter : Expr} {body : List Stmt} {pos : Pos}
    (h : WV prog w h₀ n env [] (eval iter env) ρ σ fun x σ₁ => ∃ t : Str, x = .str t ∧ t.cps.all (· < 128) = true ∧ ∃ I : Nat → Loc → Store → Prop, I 0 ρ σ₁ ∧ (∀ ρ' σ', I t.cps.size ρ' σ' → Q .next ρ' σ') ∧
      ∀ i c ρ' σ', i < t.cps.size → t.cps[i]? = some c → I i ρ' σ' → Turn prog w h₀ n env target body (.str ⟨#[c]⟩) ρ' σ' Q (I (i + 1)))
    (hs : autoParam (∀ x, foldedSetIterable iter env x = pure x) Mine.Internal.au4) :
    WS prog w h₀ n env (exec (.For target iter body [] pos) env) ρ σ Q := by
  refine ws_for (wi_str (WE.mono h fun x σ₁ q => ?_)) hs
  obtain ⟨t, rfl, ha, I, i0, done, step⟩ := q
  refine ⟨t, rfl, ha, fun i ρ' σ' => i ≤ t.cps.size ∧ I i ρ' σ', t.cps.size, ⟨Nat.zero_le _, i0⟩, fun i ρ' σ' j => ⟨trivial, ?_⟩⟩
  unfold elemS
  cases he : t.cps[i]? with
  | none =>
    have : i = t.cps.size := Nat.le_antisymm j.1 (Array.getElem?_eq_none_iff.mp he)
    subst this
    exact done _ _ j.2
  | some c =>
    have hlt := (Array.getElem?_eq_some_iff.mp he).1
    exact ⟨hlt, fun H val m => (turn_go (step i c ρ' σ' hlt he j.2) H val m).mono fun _ ρ₂ σ₂ x => WP.mono x fun f ρ₃ σ₃ y => by
      cases f with
      | next => obtain ⟨ρ₄, s, k⟩ := y; exact ⟨ρ₄, s, hlt, k⟩
      | cont => obtain ⟨ρ₄, s, k⟩ := y; exact ⟨ρ₄, s, hlt, k⟩
      | brk => exact y
      | ret v => exact y⟩
theorem ws_for_range {target : Expr} {x : Str} {p pos pos' : Pos} {args : List Expr} {body : List Stmt} (g : GName prog w h₀ env ρ x (.type "range"))
    (h : WL prog w h₀ n env [] (spliced (backTo pos (starEach args env))) ρ σ fun xs σ₁ => ∃ m : Nat, xs = [.int m] ∧ m ≤ 1000000 ∧ ∃ I : Nat → Loc → Store → Prop, I 0 ρ σ₁ ∧ (∀ ρ' σ', I m ρ' σ' → Q .next ρ' σ') ∧
      ∀ i ρ' σ', i < m → I i ρ' σ' → Turn prog w h₀ n env target body (.int i) ρ' σ' Q (I (i + 1)))
    (hplain : autoParam ((backTo pos (starEach args env)).any (·.1) = false) Mine.Internal.au2) (hs : autoParam (∀ y, foldedSetIterable (.Call (.Name x p) args [] pos) env y = pure y) Mine.Internal.au4) :
    WS prog w h₀ n env (exec (.For target (.Call (.Name x p) args [] pos) body [] pos') env) ρ σ Q := by
  refine ws_for (wi_range g (WE.mono h fun xs σ₁ q => ?_) hplain) hs
  obtain ⟨m, rfl, hm, I, i0, done, step⟩ := q
  refine ⟨0, m, .inl ⟨rfl, rfl⟩, by decide, by (first | lia | omega), fun i ρ' σ' => i ≤ m ∧ I i ρ' σ', m, ⟨Nat.zero_le _, i0⟩, fun i ρ' σ' j => ⟨trivial, ?_⟩⟩
  unfold elemR
  by_cases hi : i < m
  · rw [if_pos (by (first | lia | omega)), Int.zero_add]
    exact ⟨hi, fun H val m' => (turn_go (step i ρ' σ' hi j.2) H val m').mono fun _ ρ₂ σ₂ x => WP.mono x fun f ρ₃ σ₃ y => by
      cases f with
      | next => obtain ⟨ρ₄, s, k⟩ := y; exact ⟨ρ₄, s, hi, k⟩
      | cont => obtain ⟨ρ₄, s, k⟩ := y; exact ⟨ρ₄, s, hi, k⟩
      | brk => exact y
      | ret v => exact y⟩
  · rw [if_neg (by (first | lia | omega))]
    have : i = m := Nat.le_antisymm j.1 (Nat.le_of_not_lt hi)
    subst this
    exact done _ _ j.2
end
end Mine.Internal
end

section
namespace Mine.Internal

noncomputable def pairsOf' (es : List (PV × PV)) : List PV := es.map fun p => .tup [p.1, p.2]
noncomputable def OwnTup (h : Heap) (I S : Addr) (f0 f1 : Value) : Prop := (f0 = .none ∧ f1 = .bool false) ∨ ∃ a oa f, f0 = rawInt ((a : Nat) : Int) ∧ f1 = .bool f ∧ h.get? a = some oa ∧ a ≠ I ∧ a ≠ S

section
variable {prog : Program} {w : World} {A : Around} {s : Shared} {R : Result → Shared → Prop} {es : List (PV × PV)} {ents : Array DictEntry} {ep : Nat}
theorem items_loop {S I d : Addr} (hh : A.handled = none) (hSI : S ≠ I) (hdS : d ≠ S) (hdI : d ≠ I) (hsz : ents.size = es.length) (hn : es.length ≤ 1000000) (res : Value) {h₁ : Heap}
    (hget : ∀ (i : Nat) (p : PV × PV), es[i]? = some p → ∃ e : DictEntry, ents[i]? = some e ∧ Is h₁ e.key p.1 ∧ Is h₁ e.val p.2)
    (hR : ∀ h' tk vs c, (∀ b o, b ≠ S → b ≠ I → h₁.get? b = some o → h'.get? b = some o) → h'.get? S = some (seqObj "list" (List.toArray vs) c) → IsAll h' vs (pairsOf' es) → R (.ok (.ret res)) { s with heap := h', toks := tk })
    (hS0 : ∃ vs c, h₁.get? S = some (seqObj "list" vs c)) (hI0 : ∃ o, h₁.get? I = some o ∧ o.cls ≠ .type "tuple") :
    ∀ (k i : Nat) (h : Heap) (tk c : Nat) (vs : List Value) (f0 f1 ok ov : Value), ents.size - i = k → i ≤ ents.size → ItemIt h I d i ents.size ep f0 f1 ok ov → OwnTup h I S f0 f1 → Ents h d ents ep →
      (∀ b o, b ≠ S → b ≠ I → h₁.get? b = some o → h.get? b = some o) → h.get? S = some (seqObj "list" (List.toArray vs) c) → IsAll h vs ((pairsOf' es).take i) →
      codeAny (model prog w) A (.builtin "list.extend.loop" ⟨[.ref S, .ref I, res], []⟩) R { s with heap := h, toks := tk } := by
  intro k
  induction k with
  | zero =>
    intro i h tk c vs f0 f1 ok ov hk hi hit own hm keep hS iv
    have hin : i = ents.size := by (first | lia | omega)
    refine codeAny_builtin PySem.F.entry_extend_loop ?_
    rw [Around.under_plainId PySem.F.plain_extend_loop _]
    show wpAny _ A.in1 (pyNext (.ref I) >>= _) _ _ _
    refine wpAny_bind (next_items_end (s := { s with heap := h, toks := tk }) (A := A.in1) hh hit hm (by rw [hin]; simp) fun h' he => ?_)
    have kt : TupKeep h h' := fun b its m e => he b _ (fun q => by
      rw [q] at e
      have := (show h.get? I = _ from e).symm.trans hit
      simp at this) e
    rw [List.take_of_length_le (by rw [pairsOf', List.length_map]; (first | lia | omega))] at iv
    exact wpAny_pure (hR h' tk vs c (fun b o h1 h2 e => he b o h2 (keep b o h1 h2 e)) (he S _ hSI hS) (iv.keep kt))
  | succ k ih =>
    intro i h tk c vs f0 f1 ok ov hk hi hit own hm keep hS iv
    have hlt : i < ents.size := by (first | lia | omega)
    obtain ⟨p, hp⟩ : ∃ p, es[i]? = some p := ⟨_, List.getElem?_eq_getElem (by (first | lia | omega))⟩
    obtain ⟨e, he, ik, ivv⟩ := hget i p hp
    have lv : vs.length ≤ 1000000 := by
      have := iv.length
      have h2 := List.length_take_le i (pairsOf' es)
      (first | lia | omega)
    have kt1 : TupKeep h₁ h := fun b its m eb => keep b _ (fun q => by
      obtain ⟨us, c', e'⟩ := hS0
      rw [q] at eb
      have := (show h₁.get? S = _ from eb).symm.trans e'
      simp [seqObj] at this) (fun q => by
      obtain ⟨o, e', h'⟩ := hI0
      rw [q] at eb
      have := (show h₁.get? I = _ from eb).symm.trans e'
      cases this; exact h' rfl) eb
    refine codeAny_builtin PySem.F.entry_extend_loop ?_
    rw [Around.under_plainId PySem.F.plain_extend_loop _]
    show wpAny _ A.in1 (pyNext (.ref I) >>= _) _ _ _
    have go : ∀ (h' : Heap) (g0 g1 k' v' : Value), ItemIt h' I d (i + 1) ents.size ep g0 g1 k' v' → OwnTup h' I S g0 g1 → h'.get? h.objs.size = some { cls := .type "tuple", data := .seq #[e.key, e.val] } →
        (∀ b o, b ≠ I → h.get? b = some o → h'.get? b = some o) →
        wpAny (model prog w) A.in1 (do Builtin.List.listUpdate (.ref S) (·.push (.ref h.objs.size)); again (.builtin "list.extend.loop" ⟨[.ref S, .ref I, res], []⟩))
          (fun fin s' => match fin with | .done f => R (.ok f) s' | .again c' => c'.quiet = true ∧ codeAny (model prog w) A c' R s') (fun e s' => R (.error e) s') { s with heap := h', toks := tk } := fun h' g0 g1 k' v' hit' own' ht kp => by
      have hS' := kp S _ hSI hS
      have s1 := Heap.SameBut.update h' S (Obj.mapSeq (·.push (.ref h.objs.size)))
      obtain ⟨c2, hc2⟩ : ∃ c2, (h'.update S (Obj.mapSeq (·.push (.ref h.objs.size)))).get? S = some (seqObj "list" ((List.toArray vs).push (.ref h.objs.size)) c2) := ⟨_, get?_update_seq hS' (·.push (.ref h.objs.size))⟩
      refine wpAny_bind (listUpdate_at hS' rfl ?_ (by rw [sizeLine_eq]; simp; (first | lia | omega)) (by rw [sizeLine_eq]; simp; (first | lia | omega)))
      have kt2 : TupKeep h (h'.update S (Obj.mapSeq (·.push (.ref h.objs.size)))) := fun b its m eb => (s1.2 b (fun q => by
        rw [q] at eb
        have := (show h.get? S = _ from eb).symm.trans hS
        simp [seqObj] at this)).trans (kp b _ (fun q => by
        rw [q] at eb
        have := (show h.get? I = _ from eb).symm.trans hit
        simp at this) eb)
      have htS : h.objs.size ≠ S := fun q => by
        have := Heap.lt_size hS
        rw [← q] at this; exact absurd this (Nat.lt_irrefl _)
      refine wpAny_pure ⟨plainId_quiet PySem.F.plain_extend_loop _, ih (i + 1) _ tk c2 (vs ++ [.ref h.objs.size]) g0 g1 k' v' (by (first | lia | omega)) hlt ((s1.2 I (Ne.symm hSI)).trans hit') ?_ ?_ (fun b o h1 h2 eb => (s1.2 b h1).trans (kp b o h2 (keep b o h1 h2 eb))) (by rw [hc2]; simp) ?_⟩
      · rcases own' with x | ⟨a, oa, f, x1, x2, x3, x4, x5⟩
        · exact .inl x
        · exact .inr ⟨a, oa, f, x1, x2, (s1.2 a x5).trans x3, x4, x5⟩
      · obtain ⟨o, ho, r⟩ := hm
        exact ⟨o, (s1.2 d hdS).trans (kp d o hdI ho), r⟩
      · have et : (pairsOf' es).take (i + 1) = (pairsOf' es).take i ++ [.tup [p.1, p.2]] := by
          rw [List.take_add_one, pairsOf', List.getElem?_map, hp]; rfl
        rw [et]
        exact (iv.keep kt2).snoc (.tup (vs := [e.key, e.val]) (n := 0) ((s1.2 _ htS).trans ht) (.cons ((ik.keep kt1).keep kt2) (.cons ((ivv.keep kt1).keep kt2) .nil)))
    have nI : h.objs.size ≠ I := fun q => by
      have := Heap.lt_size hit
      rw [← q] at this; exact absurd this (Nat.lt_irrefl _)
    have nS : h.objs.size ≠ S := fun q => by
      have := Heap.lt_size hS
      rw [← q] at this; exact absurd this (Nat.lt_irrefl _)
    refine wpAny_bind (next_items_any (s := { s with heap := h, toks := tk }) hit hm he ?_ (fun _ h' hit' ht kp => ?_) fun hne h' hit' ht kp => ?_)
    · rcases own with x | ⟨a, oa, f, x1, x2, x3, x4, x5⟩
      · exact .inl x
      · exact .inr ⟨a, oa, f, x1, x2, x3, x4⟩
    · exact go h' _ _ _ _ hit' (.inr ⟨h.objs.size, _, false, rfl, rfl, ht, nI, nS⟩) ht kp
    · rcases own with ⟨x, _⟩ | ⟨a, oa, f, x1, x2, x3, x4, x5⟩
      · exact absurd x hne
      · exact go h' _ _ _ _ hit' (.inr ⟨a, oa, true, x1, rfl, kp a oa x4 x3, x4, x5⟩) ht kp
end

section
variable {prog : Program} {w : World} {h₀ : Heap} {n : Nat} {env : Env} {ρ : Loc} {σ : Store} {Q : PV → Store → Prop}
theorem collects_items {v d : Addr} {T : Ty} {es : List (PV × PV)} (ev : σ v = some (.raw { cls := .type "dict_items", data := .fields #[.ref d] })) (ed : σ d = some (.dt T es)) (hl : es.length ≤ 1000000) : Collects prog w h₀ σ (.loc v) (pairsOf' es) := fun A s u Q ok S i hQ => by
  cases i
  have hv := (S.objs _ _ ev).1
  obtain ⟨ents, ep, hs, hm, hsz, hget⟩ := dt_ents (S.objs _ _ ed)
  have hview : s.heap.IsItemsView v d := ⟨_, hv, rfl, rfl⟩
  unfold collect
  refine wpAny_bind (wpAny_runValue (codeAny_builtin entry_proto_collect' ?_))
  rw [Around.under_plainId PySem.F.plain_proto_collect _]
  show wpAny _ A.in1 (newList [] >>= fun l => again (.builtin "list.__iadd__" ⟨[l, .ref v], []⟩)) _ _ s
  refine wpAny_bind (wpAny_newList ?_ (Nat.zero_le _))
  refine wpAny_pure ⟨plainId_quiet PySem.F.plain_list_iadd _, codeAny_builtin entry_list_iadd' ?_⟩
  rw [Around.under_plainId PySem.F.plain_list_iadd _]
  show wpAny _ A.in1 (Builtin.List.listExtendWith (.ref s.heap.objs.size) (.ref v) (.ref s.heap.objs.size)) _ _ { s with heap := s.heap.push (seqObj "list" #[] 0) }
  have hS1 : (s.heap.push (seqObj "list" #[] 0)).get? s.heap.objs.size = some (seqObj "list" #[] 0) := Heap.get?_push_size _ rfl
  have k1 : ∀ b o, s.heap.get? b = some o → (s.heap.push (seqObj "list" #[] 0)).get? b = some o := fun b o e => Heap.get?_push_of_some _ e
  have hvS : s.heap.objs.size ≠ v := fun q => by rw [← q, fresh] at hv; cases hv
  have hdS : d ≠ s.heap.objs.size := fun q => by obtain ⟨o, ho, _⟩ := hm; rw [q, fresh] at ho; cases ho
  have oldS : ∀ b o, s.heap.get? b = some o → b ≠ s.heap.objs.size := fun b o e q => by rw [q, fresh] at e; cases e
  generalize s.heap.objs.size = S1 at *
  generalize s.heap.push (seqObj "list" #[] 0) = g1 at *
  have hview1 : g1.IsItemsView v d := ⟨_, k1 _ _ hv, rfl, rfl⟩
  have hm1 : Ents g1 d ents ep := by obtain ⟨o, ho, r⟩ := hm; exact ⟨o, k1 _ _ ho, r⟩
  unfold Builtin.List.listExtendWith
  refine wpAny_bind (wpAny_typeOf (T := "dict_items") (s := { s with heap := g1 }) hview1.typeIs ?_)
  have e1 : Builtin.List.listSameRef (.ref S1) (.ref v) = false := beq_eq_false_iff_ne.mpr hvS
  simp only [e1, show (Value.type "dict_items" == Value.type "list") = false from by decide, show (Value.type "dict_items" == Value.type "tuple") = false from by decide, Bool.or_false, Bool.false_eq_true, if_false]
  refine wpAny_bind (iter_items_ents (s := { s with heap := g1 }) hview1 hm1 ?_)
  have hI2 : (g1.push { cls := .type "dict_itemiterator", data := .fields #[.none, .bool false, .ref d, .int 0 0, .int ents.size 0, .int ep 0, .none, .none] }).get? g1.objs.size = some { cls := .type "dict_itemiterator", data := .fields #[.none, .bool false, .ref d, .int 0 0, .int ents.size 0, .int ep 0, .none, .none] } := Heap.get?_push_size _ rfl
  have k2 : ∀ b o, g1.get? b = some o → (g1.push { cls := .type "dict_itemiterator", data := .fields #[.none, .bool false, .ref d, .int 0 0, .int ents.size 0, .int ep 0, .none, .none] }).get? b = some o := fun b o e => Heap.get?_push_of_some _ e
  have old2 : ∀ b o, g1.get? b = some o → b ≠ g1.objs.size := fun b o e q => by rw [q, fresh] at e; cases e
  show wpAny _ _ (holding [.ref g1.objs.size] (Builtin.List.listLengthHint (.ref v)) >>= _) _ _ { s with heap := g1.push _ }
  generalize g1.objs.size = I at *
  generalize g1.push { cls := .type "dict_itemiterator", data := .fields #[.none, .bool false, .ref d, .int 0 0, .int ents.size 0, .int ep 0, .none, .none] } = g2 at *
  have hSI : S1 ≠ I := old2 _ _ hS1
  have hdI : d ≠ I := by obtain ⟨o, ho, _⟩ := hm1; exact old2 _ _ ho
  have hS2 := k2 _ _ hS1
  have hm2 : Ents g2 d ents ep := by obtain ⟨o, ho, r⟩ := hm1; exact ⟨o, k2 _ _ ho, r⟩
  have ktg : TupKeep s.heap g2 := fun b its m e => k2 _ _ (k1 _ _ e)
  have key : ∀ g3, But S1 g2 g3 → (∃ c, g3.get? S1 = some (seqObj "list" #[] c)) → codeAny (model prog w) A (.builtin "list.extend.loop" ⟨[.ref S1, .ref I, .ref S1], []⟩)
      (fun r s' => match r with
        | .ok (.ret u) => wpAny (model prog w) A (match u with | .ref a => (do match (← load a).data with | .seq xs _ => pure xs.toList | _ => unsupported "internal:collect") | _ => unsupported "internal:collect") Q (fun _ _ => False) s'
        | .ok _ => False
        | .error e => False) { s with heap := g3 } := fun g3 b3 ⟨c, hc⟩ => by
    have ktg3 : TupKeep g2 g3 := fun b its m e => b3 b _ (fun q => by
      rw [q] at e
      have := (show g2.get? S1 = _ from e).symm.trans hS2
      simp [seqObj] at this) e
    refine items_loop (A := A) (s := s) (S := S1) (I := I) (d := d) (es := es) (ents := ents) (ep := ep) (h₁ := g3) ok.handled hSI hdS hdI hsz hl (.ref S1) (fun i p hp => ?_) (fun h' tk vs c' kp hS' ivs => ?_) ⟨_, _, hc⟩ ⟨_, b3 _ _ (Ne.symm hSI) hI2, by simp⟩ ents.size 0 g3 s.toks c [] _ _ _ _ (Nat.sub_zero _) (Nat.zero_le _) (b3 _ _ (Ne.symm hSI) hI2) (.inl ⟨rfl, rfl⟩)
      (by obtain ⟨o, ho, r⟩ := hm2; exact ⟨o, b3 _ _ hdS ho, r⟩) (fun b o _ _ e => e) hc .nil
    · obtain ⟨e, he, a1, a2⟩ := hget i p hp
      exact ⟨e, he, (a1.keep ktg).keep ktg3, (a2.keep ktg).keep ktg3⟩
    · refine wpAny_bind (wpAny_load hS' ?_)
      refine wpAny_pure (hQ vs h' tk ⟨trivial, fun b o _ e => kp b o (oldS b o e) (old2 b o (k1 _ _ e)) (b3 b o (oldS b o e) (k2 _ _ (k1 _ _ e)))⟩ ivs)
  refine wpAny_bind (wpAny_holding (kdx_hint (s := { s with heap := g2 }) ⟨_, k2 _ _ (k1 _ _ hv), rfl⟩ ?_))
  refine wpAny_ite_split (fun _ => ?_) fun _ => wpAny_pure ⟨plainId_quiet PySem.F.plain_extend_loop _, key g2 (But.refl _ _) ⟨0, hS2⟩⟩
  refine wpAny_bind (wpAny_rule ?_)
  unfold Builtin.List.listTouch
  refine wpAny_bind (wpAny_bind (listUpdate_at hS2 rfl ?_ (Nat.zero_le _) (by rw [sizeLine_eq]; simp)))
  have t1 := Heap.SameBut.update g2 S1 (Obj.mapSeq (·.push Value.none))
  obtain ⟨c2, hc2⟩ : ∃ c2, (g2.update S1 (Obj.mapSeq (·.push Value.none))).get? S1 = some (seqObj "list" #[Value.none] c2) := ⟨_, get?_update_seq hS2 (·.push Value.none)⟩
  refine listUpdate_at hc2 rfl ?_ (by rw [sizeLine_eq]; simp) (by rw [sizeLine_eq]; simp)
  have t2 := Heap.SameBut.update (g2.update S1 (Obj.mapSeq (·.push Value.none))) S1 (Obj.mapSeq (·.pop))
  obtain ⟨c3, hc3⟩ : ∃ c3, ((g2.update S1 (Obj.mapSeq (·.push Value.none))).update S1 (Obj.mapSeq (·.pop))).get? S1 = some (seqObj "list" #[] c3) := ⟨_, get?_update_seq hc2 (·.pop)⟩
  exact wpAny_pure ⟨plainId_quiet PySem.F.plain_extend_loop _, key _ (fun b o nb e => (t2.2 b nb).trans ((t1.2 b nb).trans e)) ⟨c3, hc3⟩⟩
theorem lc_items {d : Addr} {T : Ty} {es : List (PV × PV)} (ed : σ d = some (.dt T es)) (q : ∀ v, σ v = none → Q (.loc v) (upd σ v (.raw { cls := .type "dict_items", data := .fields #[.ref d] }))) : LCall prog w h₀ n (.builtin "dict.items") [.loc d] [] σ Q := fun env ρ H pos fs vs l1 l2 hp => WE.newObj q fun A s Q' ok S X hh hQ => by
  obtain ⟨g, rfl⟩ := one_of l1
  have := List.length_eq_zero_iff.mp l2; subst this
  have := held_loc hh (hp _ (.head _)); subst this
  obtain ⟨ents, ep, hs, hm, hsz, hget⟩ := dt_ents (S.objs _ _ ed)
  refine callWith_builtin (by simp [pures]) (evalArgs_pures ?_)
  refine call_meetsIn PySem.F.slot_dict_items hm.typeIs PySem.F.entry_dict_items (PySem.F.args_dict_items_1 _) (meets_items_ents (es := ents) (ep := ep) hs) ⟨hm, ?_⟩
  exact hQ _ s.toks s.heap.objs.size (Pres.refl.push _) (fresh _) ⟨Heap.get?_push_size _ rfl, by simp⟩
end
end Mine.Internal
end

section
namespace Mine.Internal

section
variable {prog : Program} {w : World} {h₀ : Heap} {n : Nat} {env : Env} {ρ : Loc} {σ : Store} {elt : Expr} {scope : Scope} {pos : Pos} {α : Type}
theorem ws_compb {y : Str} {py spos : Pos} {target iter : Expr} {ifs : List Expr} {rest : List Comprehension} {cs : List (Str × Addr)} (hcs : env.cells = cs) (hy : Stor env y) (cl : List (Str × Addr)) (ρc : Loc) {Q : PFlow → Loc → Store → Prop} (ls : List α) (f : α → PV) (u : PV → α) (hu : ∀ a, u (f a) = a) (H : α → List PV)
    (hfree : freesIn scope.names cs = true) (hce : freesOf (fun x => cs.lookup x) scope.names [] = cl) (hplain : plainIn scope.names = true)
    (hcl : ∀ p ∈ cl, p ∈ cs) (hclp : (cl.map (·.1)).Nodup) (hcap : ∀ C, CapOk env scope cl C ρ ρc)
    (hsw : swapsWith (.ListComp elt (⟨target, iter, ifs, 0⟩ :: rest) scope pos) (some (.Name y py)) spos.line env = pure true)
    (h : WIter prog w h₀ n env target iter ρ σ fun elem good σ₁ => Itm elem good σ₁ (ls.map f) ∧ (ls.flatMap H).length ≤ 1000000 ∧
      (∀ C D, σ₁ D = none → ∀ a ∈ ls, ClauseOk prog w h₀ n (OnlyLoc (compEnvC scope cl C env)) (compEnvC scope cl C env) target ifs (compIn elt (⟨target, iter, ifs, 0⟩ :: rest) scope pos 0 (.ref D) (compEnvC scope cl C env)) ρc σ₁ D (f a) (H a)) ∧
      ∀ D, σ₁ D = none → Q .next ((y, .loc D) :: ρ) (upd σ₁ D (.lst (ls.flatMap H))))
    (hkind : autoParam (scope.kind = .function) Mine.Internal.au2) (ha : autoParam (((⟨target, iter, ifs, 0⟩ :: rest : List Comprehension).all fun g => g.is_async == 0) = true) Mine.Internal.au2) (hs : autoParam (∀ x, foldedSetIterable iter env x = pure x) Mine.Internal.au4) :
    WS prog w h₀ n env (exec (.Assign [.Name y py] (.ListComp elt (⟨target, iter, ifs, 0⟩ :: rest) scope pos) spos) env) ρ σ Q := by
  subst hcs
  exact ws_listcomp rfl hy (asyncs_of ha) ((closureFor_eq (freesIn_of hfree)).trans (by rw [hce])) hkind (plainIn_cell hplain) (plainIn_local hplain) hcl hclp hcap (compAsk_of ls f u hu H h) hsw hs
theorem swaps_true {y : Str} {py spos pos : Pos} {elt : Expr} {gens : List Comprehension} {scope : Scope} (hb : env.blockKind = .function) (hk : env.kindOf y = some .local) (hl : (py.line == pos.line) = true) (hn : (scope.names.any fun p => p.1 == y && (p.2 == .local || p.2 == .cell)) = false) :
    swapsWith (.ListComp elt gens scope pos) (some (.Name y py)) spos.line env = pure true := by
  show (pure (env.blockKind == .function && env.kindOf y == some .local && py.line == pos.line && !(scope.names.any fun p => p.1 == y && (p.2 == .local || p.2 == .cell))) : Sem Bool) = pure true
  rw [hb, hk, hl, hn]; rfl
end
end Mine.Internal
end

section
namespace Mine.Internal

abbrev Wd := List Bool
noncomputable def chr (b : Bool) : Nat := if b then 98 else 97
noncomputable def ws (u : Wd) : Str := ⟨(u.map chr).toArray⟩
noncomputable def pvW (u : Wd) : PV := .str (ws u)
noncomputable def pvT (l : List Wd) : PV := .tup (l.map pvW)
noncomputable def wlt (u v : Wd) : Bool := PV.lt (pvW u) (pvW v)
noncomputable def llt (a b : List Wd) : Bool := PV.lt (pvT a) (pvT b)
theorem chr_inj : ∀ a b : Bool, chr a = chr b → a = b := by decide
theorem map_chr_inj : ∀ {u v : Wd}, u.map chr = v.map chr → u = v
  | [], [], _ => rfl
  | [], _ :: _, h => nomatch h
  | _ :: _, [], h => nomatch h
  | a :: u, b :: v, h => by
    rw [List.map_cons, List.map_cons] at h
    injection h with h1 h2
    rw [chr_inj a b h1, map_chr_inj h2]
theorem ws_inj {u v : Wd} (h : ws u = ws v) : u = v := by
  have h1 : (u.map chr).toArray = (v.map chr).toArray := congrArg Str.cps h
  exact map_chr_inj (congrArg Array.toList h1)
theorem pvW_inj (u v : Wd) (h : pvW u = pvW v) : u = v := by
  injection h with h; exact ws_inj h
theorem map_pvW_inj : ∀ {u v : List Wd}, u.map pvW = v.map pvW → u = v
  | [], [], _ => rfl
  | [], _ :: _, h => nomatch h
  | _ :: _, [], h => nomatch h
  | a :: u, b :: v, h => by
    rw [List.map_cons, List.map_cons] at h
    injection h with h1 h2
    rw [pvW_inj a b h1, map_pvW_inj h2]
theorem pvT_inj (a b : List Wd) (h : pvT a = pvT b) : a = b := by
  injection h with h; exact map_pvW_inj h
theorem pvT_ty : ∀ l : List Wd, AllTy .str (l.map pvW)
  | [] => trivial
  | u :: l => ⟨trivial, pvT_ty l⟩
theorem wlt_tr (a b c : Wd) (h1 : wlt a b = true) (h2 : wlt b c = true) : wlt a c = true := lt_trans _ _ _ h1 h2
theorem wlt_asy (a b : Wd) (h : wlt a b = true) : wlt b a = false := lt_asymm h
theorem wlt_tot (a b : Wd) (h1 : wlt a b = false) (h2 : wlt b a = false) : a = b := pvW_inj _ _ (lt_total _ _ trivial h1 h2)
theorem llt_tr (a b c : List Wd) (h1 : llt a b = true) (h2 : llt b c = true) : llt a c = true := lt_trans _ _ _ h1 h2
theorem llt_asy (a b : List Wd) (h : llt a b = true) : llt b a = false := lt_asymm h
theorem llt_irr (a : List Wd) : llt a a = false := lt_irrefl _
theorem llt_tot (a b : List Wd) (h1 : llt a b = false) (h2 : llt b a = false) : a = b := pvT_inj _ _ (lt_total _ _ (HasTy.ord (.seq .str) _ _ rfl (pvT_ty a) (pvT_ty b)) h1 h2)

noncomputable def evr : List Wd := [[], [false], [true], [false, false], [false, true], [true, false], [true, true], [false, false, false], [false, false, true], [false, true, false], [false, true, true], [true, false, false], [true, false, true], [true, true, false], [true, true, true]]
noncomputable def long : Wd := [false, false, false, false]
theorem evr_mem {u : Wd} : u ∈ evr ↔ u.length ≤ 3 := by
  constructor
  · intro h
    have : ∀ v ∈ evr, v.length ≤ 3 := by decide
    exact this u h
  · intro h
    match u, h with
    | [], _ => decide
    | [a], _ => revert a; decide
    | [a, b], _ => revert a b; decide
    | [a, b, c], _ => revert a b c; decide
    | _ :: _ :: _ :: _ :: _, h => simp at h
structure WOk (W : List Wd) : Prop where
  nodup : W.Nodup
  six : W.length ≤ 6
  fit : ∀ w ∈ W, w.length ≤ 3

noncomputable def follows (W : List Wd) (u : Wd) : List Wd := sortT wlt ((W.filter fun w => decide (w.take u.length = u)).map fun w => w.drop u.length)
theorem follows_mem {W : List Wd} {u v : Wd} : v ∈ follows W u ↔ u ++ v ∈ W := by
  unfold follows
  rw [(sortT_perm _).mem_iff, List.mem_map]
  constructor
  · rintro ⟨w, hw, rfl⟩
    obtain ⟨h1, h2⟩ := List.mem_filter.mp hw
    have h3 := List.take_append_drop u.length w
    rw [of_decide_eq_true h2] at h3
    rw [h3]; exact h1
  · intro h
    exact ⟨u ++ v, List.mem_filter.mpr ⟨h, by simp⟩, by simp⟩
theorem follows_nodup {W : List Wd} (hW : W.Nodup) (u : Wd) : (follows W u).Nodup := by
  unfold follows
  rw [(sortT_perm _).nodup_iff]
  refine List.pairwise_map.mpr ((hW.filter _).imp_of_mem fun {a b} ha hb hne e => hne ?_)
  have h1 := List.take_append_drop u.length a
  have h2 := List.take_append_drop u.length b
  rw [of_decide_eq_true (List.mem_filter.mp ha).2] at h1
  rw [of_decide_eq_true (List.mem_filter.mp hb).2] at h2
  rw [← h1, ← h2, e]
theorem follows_sorted (W : List Wd) (u : Wd) : (follows W u).Pairwise fun a b => wlt b a = false := sortT_sorted wlt_tr wlt_asy wlt_tot _
theorem sorted_ext {a b : List Wd} (ha : a.Nodup) (hb : b.Nodup) (sa : a.Pairwise fun x y => wlt y x = false) (sb : b.Pairwise fun x y => wlt y x = false) (h : ∀ v, v ∈ a ↔ v ∈ b) : a = b :=
  sorted_unique (fun x _ y _ h1 h2 => wlt_tot x y h1 h2) ((List.perm_ext_iff_of_nodup ha hb).mpr h) sa sb
theorem follows_ext {W : List Wd} (hW : W.Nodup) {u u' : Wd} (h : ∀ v, u ++ v ∈ W ↔ u' ++ v ∈ W) : follows W u = follows W u' :=
  sorted_ext (follows_nodup hW u) (follows_nodup hW u') (follows_sorted W u) (follows_sorted W u') fun v => by rw [follows_mem, follows_mem]; exact h v
theorem follows_next {W : List Wd} (hW : W.Nodup) {u u' : Wd} (h : follows W u = follows W u') (b : Bool) : follows W (u ++ [b]) = follows W (u' ++ [b]) :=
  follows_ext hW fun v => by
    have := follows_mem (W := W) (u := u) (v := b :: v)
    rw [h, follows_mem] at this
    simpa using this.symm
theorem follows_nil {W : List Wd} {u : Wd} (h : ∀ v, u ++ v ∉ W) : follows W u = [] := List.eq_nil_iff_forall_not_mem.mpr fun v hv => h v (follows_mem.mp hv)
theorem follows_long {W : List Wd} (hW : ∀ w ∈ W, w.length ≤ 3) {u : Wd} (h : 4 ≤ u.length) : follows W u = [] := follows_nil fun v hv => by
  have := hW _ hv
  simp at this; (first | lia | omega)
theorem follows_evr {W : List Wd} (hW : ∀ w ∈ W, w.length ≤ 3) {u v : Wd} (h : v ∈ follows W u) : v ∈ evr := evr_mem.mpr (by
  have := hW _ (follows_mem.mp h)
  simp at this; (first | lia | omega))
noncomputable def lotStep (o : List (List Wd)) (l : List Wd) : List (List Wd) := if l ∈ o then o else insT llt l o
noncomputable def lotsAt (W : List Wd) (us : List Wd) : List (List Wd) := us.foldl (fun o u => lotStep o (follows W u)) []
@[irreducible] noncomputable def lots (W : List Wd) : List (List Wd) := lotsAt W (evr ++ [long])
theorem lotStep_mem {o : List (List Wd)} {l x : List Wd} : x ∈ lotStep o l ↔ x ∈ o ∨ x = l := by
  unfold lotStep
  split
  · exact ⟨.inl, fun h => h.elim id fun e => by rw [e]; assumption⟩
  · rw [insT_mem]; exact or_comm
theorem lotStep_nodup {o : List (List Wd)} {l : List Wd} (h : o.Nodup) : (lotStep o l).Nodup := by
  unfold lotStep
  split
  · exact h
  · rename_i hl
    rw [(insT_perm l o).nodup_iff]
    exact List.nodup_cons.mpr ⟨hl, h⟩
theorem lotStep_sorted {o : List (List Wd)} {l : List Wd} (h : o.Pairwise fun a b => llt b a = false) : (lotStep o l).Pairwise fun a b => llt b a = false := by
  unfold lotStep
  split
  · exact h
  · exact insT_sorted llt_tr llt_asy llt_tot l o h
theorem lotStep_length (o : List (List Wd)) (l : List Wd) : (lotStep o l).length ≤ o.length + 1 := by
  unfold lotStep
  split
  · (first | lia | omega)
  · rw [(insT_perm l o).length_eq]; simp
theorem lotsAt_snoc (W us : List Wd) (u : Wd) : lotsAt W (us ++ [u]) = lotStep (lotsAt W us) (follows W u) := by unfold lotsAt; rw [List.foldl_append]; rfl
theorem lotsAt_all (W : List Wd) : ∀ us : List Wd, (lotsAt W us).Nodup ∧ ((lotsAt W us).Pairwise fun a b => llt b a = false) ∧ (∀ l, l ∈ lotsAt W us ↔ ∃ u ∈ us, l = follows W u) ∧ (lotsAt W us).length ≤ us.length := by
  intro us
  have key : ∀ (us : List Wd) (n : Nat), us.length = n → (lotsAt W us).Nodup ∧ ((lotsAt W us).Pairwise fun a b => llt b a = false) ∧ (∀ l, l ∈ lotsAt W us ↔ ∃ u ∈ us, l = follows W u) ∧ (lotsAt W us).length ≤ us.length := by
    intro us n
    induction n generalizing us with
    | zero =>
      intro h
      rw [List.length_eq_zero_iff.mp h]
      exact ⟨.nil, .nil, fun l => by simp [lotsAt], Nat.le_refl _⟩
    | succ n ih =>
      intro h
      have hne : us ≠ [] := fun e => by rw [e] at h; cases h
      obtain ⟨us', u, rfl⟩ : ∃ us' u, us = us' ++ [u] := ⟨us.dropLast, us.getLast hne, (List.dropLast_concat_getLast hne).symm⟩
      obtain ⟨h1, h2, h3, h4⟩ := ih us' (by simpa using h)
      rw [lotsAt_snoc]
      refine ⟨lotStep_nodup h1, lotStep_sorted h2, fun l => ?_, ?_⟩
      · rw [lotStep_mem, h3]
        constructor
        · rintro (⟨v, hv, rfl⟩ | rfl)
          · exact ⟨v, List.mem_append_left _ hv, rfl⟩
          · exact ⟨u, by simp, rfl⟩
        · rintro ⟨v, hv, rfl⟩
          rcases List.mem_append.mp hv with hv | hv
          · exact .inl ⟨v, hv, rfl⟩
          · rw [List.mem_singleton.mp hv]; exact .inr rfl
      · have := lotStep_length (lotsAt W us') (follows W u)
        rw [List.length_append, List.length_singleton]
        (first | lia | omega)
  exact key us _ rfl
theorem lots_nodup (W : List Wd) : (lots W).Nodup := by unfold lots; exact (lotsAt_all W _).1
theorem lots_sorted (W : List Wd) : (lots W).Pairwise fun a b => llt b a = false := by unfold lots; exact (lotsAt_all W _).2.1
theorem lots_length (W : List Wd) : (lots W).length ≤ 16 := by unfold lots; exact (lotsAt_all W _).2.2.2
theorem lots_mem {W : List Wd} (hW : ∀ w ∈ W, w.length ≤ 3) {l : List Wd} : l ∈ lots W ↔ l = [] ∨ ∃ u ∈ evr, l = follows W u := by
  unfold lots
  rw [(lotsAt_all W _).2.2.1]
  constructor
  · rintro ⟨u, hu, rfl⟩
    rcases List.mem_append.mp hu with hu | hu
    · exact .inr ⟨u, hu, rfl⟩
    · rw [List.mem_singleton.mp hu]; exact .inl (follows_long hW (by decide))
  · rintro (rfl | ⟨u, hu, rfl⟩)
    · exact ⟨long, by simp, (follows_long hW (by decide)).symm⟩
    · exact ⟨u, List.mem_append_left _ hu, rfl⟩
theorem lots_nil {W : List Wd} (hW : ∀ w ∈ W, w.length ≤ 3) : [] ∈ lots W := (lots_mem hW).mpr (.inl rfl)
theorem lots_any {W : List Wd} (hW : ∀ w ∈ W, w.length ≤ 3) (u : Wd) : follows W u ∈ lots W := by
  by_cases h : u.length ≤ 3
  · exact (lots_mem hW).mpr (.inr ⟨u, evr_mem.mpr h, rfl⟩)
  · rw [follows_long hW (by (first | lia | omega))]; exact lots_nil hW
noncomputable def posOf (W : List Wd) (l : List Wd) : Nat := (lots W).idxOf l
theorem posOf_get {W l : _} (h : l ∈ lots W) : (lots W)[posOf W l]? = some l := by
  have hlt := List.idxOf_lt_length_of_mem h
  unfold posOf
  rw [List.getElem?_eq_getElem hlt, List.getElem_idxOf hlt]
theorem posOf_lt {W l : _} (h : l ∈ lots W) : posOf W l < (lots W).length := List.idxOf_lt_length_of_mem h
theorem posOf_inj {W a b : _} (ha : a ∈ lots W) (hb : b ∈ lots W) (h : posOf W a = posOf W b) : a = b := by
  have h1 := posOf_get ha
  rw [h, posOf_get hb] at h1
  injection h1 with h1; exact h1.symm
theorem posOf_eq {W : List Wd} {l : List Wd} {k : Nat} (h : (lots W)[k]? = some l) : k = posOf W l := by
  obtain ⟨hk, e⟩ := List.getElem?_eq_some_iff.mp h
  have hm : l ∈ lots W := List.mem_of_getElem? h
  have hp := posOf_get hm
  obtain ⟨hk2, e2⟩ := List.getElem?_eq_some_iff.mp hp
  exact (List.getElem_inj (lots_nodup W)).mp (e.trans e2.symm)
theorem lots_apart {W : List Wd} (ok : WOk W) {a b : List Wd} (ha : a ∈ lots W) (hb : b ∈ lots W) (hne : a ≠ b) : ∃ t ∈ evr, (t ∈ a) ≠ (t ∈ b) := by
  have nice : ∀ l ∈ lots W, l.Nodup ∧ (l.Pairwise fun x y => wlt y x = false) ∧ ∀ t ∈ l, t ∈ evr := fun l hl => by
    rcases (lots_mem ok.fit).mp hl with rfl | ⟨u, _, rfl⟩
    · exact ⟨.nil, .nil, fun t ht => nomatch ht⟩
    · exact ⟨follows_nodup ok.nodup u, follows_sorted W u, fun t ht => follows_evr ok.fit ht⟩
  obtain ⟨a1, a2, a3⟩ := nice a ha
  obtain ⟨b1, b2, b3⟩ := nice b hb
  refine Classical.byContradiction fun h => hne (sorted_ext a1 b1 a2 b2 fun t => ?_)
  have h' : ∀ t ∈ evr, (t ∈ a) = (t ∈ b) := fun t ht => Classical.byContradiction fun hn => h ⟨t, ht, hn⟩
  exact ⟨fun x => by rw [← h' t (a3 t x)]; exact x, fun x => by rw [h' t (b3 t x)]; exact x⟩
end Mine.Internal
end

section
namespace Mine.Internal

abbrev Row := Bool × List (Bool × Nat)
noncomputable def kids (names : List (Wd × Nat)) (u : Wd) : List (Bool × Nat) := [false, true].filterMap fun b => (names.lookup (u ++ [b])).map fun i => (b, i)
noncomputable def rowOf (W : List Wd) (names : List (Wd × Nat)) (u : Wd) : Row := (decide (u ∈ W), kids names u)
noncomputable def rowsStep (rows : List Row) (r : Row) : List Row := if r ∈ rows then rows else rows ++ [r]
noncomputable def treeStep (W : List Wd) (st : List (Wd × Nat) × List Row) (u : Wd) : List (Wd × Nat) × List Row :=
  (st.1 ++ [(u, (rowsStep st.2 (rowOf W st.1 u)).idxOf (rowOf W st.1 u))], rowsStep st.2 (rowOf W st.1 u))
noncomputable def treeAt (W : List Wd) (us : List Wd) : List (Wd × Nat) × List Row := us.foldl (treeStep W) ([], [])
theorem treeAt_snoc (W us : List Wd) (u : Wd) : treeAt W (us ++ [u]) = treeStep W (treeAt W us) u := by unfold treeAt; rw [List.foldl_append]; rfl
structure BOk (W : List Wd) (bs : List Wd) : Prop where
  nodup : bs.Nodup
  mem : ∀ u, u ∈ bs ↔ ∃ v, u ++ v ∈ W
  order : bs.Pairwise fun a b => b.length ≤ a.length
  few : bs.length ≤ 24
theorem lookup_snoc {names : List (Wd × Nat)} {u v : Wd} {i : Nat} (h : v ≠ u) : (names ++ [(u, i)]).lookup v = names.lookup v := by
  induction names with
  | nil =>
    have : (v == u) = false := beq_eq_false_iff_ne.mpr h
    simp [List.lookup_cons, this]
  | cons p r ih =>
    obtain ⟨a, j⟩ := p
    simp only [List.cons_append, List.lookup_cons]
    cases v == a
    · exact ih
    · rfl
theorem lookup_snoc_self {names : List (Wd × Nat)} {u : Wd} {i : Nat} (h : u ∉ names.map (·.1)) : (names ++ [(u, i)]).lookup u = some i := by
  induction names with
  | nil => simp [List.lookup_cons]
  | cons p r ih =>
    obtain ⟨a, j⟩ := p
    simp only [List.map_cons, List.mem_cons, not_or] at h
    have : (u == a) = false := beq_eq_false_iff_ne.mpr h.1
    simp only [List.cons_append, List.lookup_cons, this]
    exact ih h.2
theorem lookup_mem {names : List (Wd × Nat)} {u : Wd} : (names.lookup u).isSome = true ↔ u ∈ names.map (·.1) := by
  induction names with
  | nil => simp
  | cons p r ih =>
    obtain ⟨a, j⟩ := p
    simp only [List.lookup_cons, List.map_cons, List.mem_cons]
    cases h : u == a
    · have : u ≠ a := beq_eq_false_iff_ne.mp h
      simp only [this, false_or]; exact ih
    · simp [eq_of_beq h]
theorem kids_congr {n1 n2 : List (Wd × Nat)} {u v : Wd} (h : ∀ b, n1.lookup (u ++ [b]) = n2.lookup (v ++ [b])) : kids n1 u = kids n2 v := by
  unfold kids
  simp only [h]
theorem kids_inj {n1 n2 : List (Wd × Nat)} {u v : Wd} (h : kids n1 u = kids n2 v) (b : Bool) : n1.lookup (u ++ [b]) = n2.lookup (v ++ [b]) := by
  have key : ∀ x y x' y' : Option Nat, ([false, true].filterMap fun b => (if b then y else x).map fun i => (b, i)) = ([false, true].filterMap fun b => (if b then y' else x').map fun i => (b, i)) → x = x' ∧ y = y' := by
    intro x y x' y' e
    cases x <;> cases y <;> cases x' <;> cases y' <;> simp at e <;> simp [e]
  have h1 : ∀ (n : List (Wd × Nat)) (u : Wd), kids n u = [false, true].filterMap fun b => (if b then n.lookup (u ++ [true]) else n.lookup (u ++ [false])).map fun i => (b, i) := fun n u => rfl
  rw [h1, h1] at h
  obtain ⟨a, c⟩ := key _ _ _ _ h
  cases b
  · exact a
  · exact c
structure TInv (W us : List Wd) (names : List (Wd × Nat)) (rows : List Row) : Prop where
  keys : names.map (·.1) = us
  nodup : rows.Nodup
  row : ∀ u i, names.lookup u = some i → rows[i]? = some (rowOf W names u)
  inj : ∀ u u' i i', names.lookup u = some i → names.lookup u' = some i' → (i = i' ↔ follows W u = follows W u')
  cover : ∀ i, i < rows.length → ∃ u, names.lookup u = some i
theorem rowsStep_mem (rows : List Row) (r : Row) : r ∈ rowsStep rows r := by unfold rowsStep; split <;> simp_all
theorem rowsStep_get {rows : List Row} {r x : Row} {i : Nat} (h : rows[i]? = some x) : (rowsStep rows r)[i]? = some x := by
  unfold rowsStep
  split
  · exact h
  · rw [List.getElem?_append_left (List.getElem?_eq_some_iff.mp h).1]; exact h
theorem follows_split {W : List Wd} (hW : W.Nodup) {u v : Wd} : follows W u = follows W v ↔ ((u ∈ W ↔ v ∈ W) ∧ ∀ b, follows W (u ++ [b]) = follows W (v ++ [b])) := by
  constructor
  · intro h
    refine ⟨?_, fun b => follows_next hW h b⟩
    have h1 := follows_mem (W := W) (u := u) (v := [])
    have h2 := follows_mem (W := W) (u := v) (v := [])
    rw [List.append_nil] at h1 h2
    rw [← h1, ← h2, h]
  · rintro ⟨h1, h2⟩
    refine follows_ext hW fun t => ?_
    cases t with
    | nil => rw [List.append_nil, List.append_nil]; exact h1
    | cons b t =>
      have e1 := follows_mem (W := W) (u := u ++ [b]) (v := t)
      have e2 := follows_mem (W := W) (u := v ++ [b]) (v := t)
      rw [h2 b, e2] at e1
      simpa using e1.symm
theorem tree_step {W bs us rest : List Wd} {u : Wd} (ok : WOk W) (b : BOk W bs) (e : bs = us ++ u :: rest) {names : List (Wd × Nat)} {rows : List Row} (t : TInv W us names rows) : TInv W (us ++ [u]) (treeStep W (names, rows) u).1 (treeStep W (names, rows) u).2 := by
  have hnd := b.nodup
  rw [e] at hnd
  obtain ⟨hnd1, hnd2, hnd3⟩ := List.nodup_append.mp hnd
  have hu : u ∉ us := fun h => hnd3 u h u (.head _) rfl
  have hun : u ∉ names.map (·.1) := by rw [t.keys]; exact hu
  have hord := b.order
  rw [e] at hord
  obtain ⟨-, ho2, ho3⟩ := List.pairwise_append.mp hord
  have laid : ∀ v : Wd, v ∈ bs → u.length < v.length → v ∈ us := fun v hv hl => by
    rw [e] at hv
    rcases List.mem_append.mp hv with h | h
    · exact h
    · rcases List.mem_cons.mp h with rfl | h
      · (first | lia | omega)
      · have := (List.pairwise_cons.mp ho2).1 v h; (first | lia | omega)
  have low : ∀ v, v = u ∨ v ∈ us → u.length ≤ v.length := fun v h => by
    rcases h with rfl | h
    · exact Nat.le_refl _
    · exact ho3 v h u (.head _)
  have kid : ∀ v c, v = u ∨ v ∈ us → ((names.lookup (v ++ [c])).isSome = true ↔ follows W (v ++ [c]) ≠ []) := fun v c hv => by
    rw [lookup_mem, t.keys]
    constructor
    · intro h hnil
      obtain ⟨s, hs⟩ := (b.mem (v ++ [c])).mp (by rw [e]; exact List.mem_append_left _ h)
      have := follows_mem.mpr hs
      rw [hnil] at this; cases this
    · intro h
      obtain ⟨s, hs⟩ := List.exists_mem_of_ne_nil _ h
      refine laid _ ((b.mem _).mpr ⟨s, follows_mem.mp hs⟩) ?_
      have := low v hv
      simp; (first | lia | omega)
  have look : ∀ v v' c, v = u ∨ v ∈ us → v' = u ∨ v' ∈ us → (names.lookup (v ++ [c]) = names.lookup (v' ++ [c]) ↔ follows W (v ++ [c]) = follows W (v' ++ [c])) := fun v v' c hv hv' => by
    have k1 := kid v c hv
    have k2 := kid v' c hv'
    cases h1 : names.lookup (v ++ [c]) with
    | none =>
      rw [h1] at k1
      have e1 : follows W (v ++ [c]) = [] := Classical.byContradiction fun h => by have := k1.mpr h; cases this
      cases h2 : names.lookup (v' ++ [c]) with
      | none =>
        rw [h2] at k2
        have e2 : follows W (v' ++ [c]) = [] := Classical.byContradiction fun h => by have := k2.mpr h; cases this
        rw [e1, e2]; simp
      | some j =>
        rw [h2] at k2
        refine ⟨fun h => (by cases h), fun h => absurd ?_ (k2.mp rfl)⟩
        rw [← h, e1]
    | some i =>
      rw [h1] at k1
      cases h2 : names.lookup (v' ++ [c]) with
      | none =>
        rw [h2] at k2
        have e2 : follows W (v' ++ [c]) = [] := Classical.byContradiction fun h => by have := k2.mpr h; cases this
        refine ⟨fun h => (by cases h), fun h => absurd ?_ (k1.mp rfl)⟩
        rw [h, e2]
      | some j =>
        rw [← t.inj _ _ i j h1 h2]
        exact ⟨fun h => Option.some.inj h, fun h => congrArg some h⟩
  have rows_iff : ∀ v v', v = u ∨ v ∈ us → v' = u ∨ v' ∈ us → (rowOf W names v = rowOf W names v' ↔ follows W v = follows W v') := fun v v' hv hv' => by
    rw [follows_split ok.nodup]
    unfold rowOf
    rw [Prod.mk.injEq, decide_eq_decide]
    refine and_congr Iff.rfl ⟨fun h c => (look v v' c hv hv').mp (kids_inj h c), fun h => kids_congr fun c => (look v v' c hv hv').mpr (h c)⟩
  show TInv W (us ++ [u]) (names ++ [(u, (rowsStep rows (rowOf W names u)).idxOf (rowOf W names u))]) (rowsStep rows (rowOf W names u))
  have hrm := rowsStep_mem rows (rowOf W names u)
  have hk := List.idxOf_lt_length_of_mem hrm
  have hkg : (rowsStep rows (rowOf W names u))[(rowsStep rows (rowOf W names u)).idxOf (rowOf W names u)]? = some (rowOf W names u) := by
    rw [List.getElem?_eq_getElem hk, List.getElem_idxOf hk]
  have hnod : (rowsStep rows (rowOf W names u)).Nodup := by
    unfold rowsStep
    split
    · exact t.nodup
    · rename_i hr
      refine List.nodup_append.mpr ⟨t.nodup, by simp, fun a ha c hc => ?_⟩
      rw [List.mem_singleton.mp hc]; rintro rfl; exact hr ha
  have hcov : ∀ i, i < (rowsStep rows (rowOf W names u)).length → i < rows.length ∨ i = (rowsStep rows (rowOf W names u)).idxOf (rowOf W names u) := fun i hi => by
    by_cases hlt : i < rows.length
    · exact .inl hlt
    · refine .inr ?_
      have hi2 := hi
      unfold rowsStep at hi2
      split at hi2
      · exact absurd hi2 hlt
      · rename_i hr
        have : i = rows.length := by rw [List.length_append, List.length_singleton] at hi2; (first | lia | omega)
        have hg : (rowsStep rows (rowOf W names u))[i]? = some (rowOf W names u) := by
          unfold rowsStep; rw [if_neg hr, this]; simp
        obtain ⟨h1, e1⟩ := List.getElem?_eq_some_iff.mp hg
        obtain ⟨h2, e2⟩ := List.getElem?_eq_some_iff.mp hkg
        exact (List.getElem_inj hnod).mp (e1.trans e2.symm)
  have hget : ∀ i x, rows[i]? = some x → (rowsStep rows (rowOf W names u))[i]? = some x := fun i x h => rowsStep_get h
  generalize rowsStep rows (rowOf W names u) = rows' at *
  generalize rows'.idxOf (rowOf W names u) = k at *
  have look' : ∀ v i, (names ++ [(u, k)]).lookup v = some i → (v = u ∧ i = k) ∨ (v ∈ us ∧ names.lookup v = some i) := fun v i h => by
    by_cases hv : v = u
    · subst hv
      rw [lookup_snoc_self hun] at h
      exact .inl ⟨rfl, (Option.some.inj h).symm⟩
    · rw [lookup_snoc hv] at h
      exact .inr ⟨by rw [← t.keys]; exact lookup_mem.mp (by rw [h]; rfl), h⟩
  have rowE : ∀ v, v = u ∨ v ∈ us → rowOf W (names ++ [(u, k)]) v = rowOf W names v := fun v hv => by
    unfold rowOf
    rw [kids_congr fun c => lookup_snoc fun h => ?_]
    have h1 := congrArg List.length h
    have := low v hv
    rw [List.length_append, List.length_singleton] at h1
    (first | lia | omega)
  have row' : ∀ v i, (names ++ [(u, k)]).lookup v = some i → (v = u ∨ v ∈ us) ∧ rows'[i]? = some (rowOf W names v) := fun v i h => by
    rcases look' v i h with ⟨rfl, rfl⟩ | ⟨hv, h⟩
    · exact ⟨.inl rfl, hkg⟩
    · exact ⟨.inr hv, hget _ _ (t.row v i h)⟩
  refine ⟨by rw [List.map_append, t.keys]; rfl, hnod, fun v i h => ?_, fun v v' i i' h h' => ?_, fun i hi => ?_⟩
  · obtain ⟨hv, hr⟩ := row' v i h
    rw [rowE v hv]; exact hr
  · obtain ⟨hv, hr⟩ := row' v i h
    obtain ⟨hv', hr'⟩ := row' v' i' h'
    rw [← rows_iff v v' hv hv']
    obtain ⟨g1, e1⟩ := List.getElem?_eq_some_iff.mp hr
    obtain ⟨g2, e2⟩ := List.getElem?_eq_some_iff.mp hr'
    rw [← e1, ← e2]
    exact (List.getElem_inj hnod).symm
  · rcases hcov i hi with h | rfl
    · obtain ⟨v, hv⟩ := t.cover i h
      refine ⟨v, ?_⟩
      rw [lookup_snoc fun h => ?_]
      · exact hv
      · rw [h] at hv
        exact hun (lookup_mem.mp (by rw [hv]; rfl))
    · exact ⟨u, lookup_snoc_self hun⟩
theorem tree_all {W bs : List Wd} (ok : WOk W) (b : BOk W bs) : ∀ (n : Nat) (us rest : List Wd), us.length = n → bs = us ++ rest → TInv W us (treeAt W us).1 (treeAt W us).2
  | 0, us, rest, hn, e => by
    rw [List.length_eq_zero_iff.mp hn]
    exact ⟨rfl, .nil, fun u i h => (by cases h), fun u u' i i' h => (by cases h), fun i h => absurd h (Nat.not_lt_zero i)⟩
  | n + 1, us, rest, hn, e => by
    have hne : us ≠ [] := fun e => by rw [e] at hn; cases hn
    obtain ⟨us', u, rfl⟩ : ∃ us' u, us = us' ++ [u] := ⟨us.dropLast, us.getLast hne, (List.dropLast_concat_getLast hne).symm⟩
    have e' : bs = us' ++ u :: rest := by rw [e, List.append_assoc]; rfl
    rw [treeAt_snoc]
    exact tree_step ok b e' (tree_all ok b n us' (u :: rest) (by simpa using hn) e')
theorem tree_count {W bs : List Wd} (ok : WOk W) (b : BOk W bs) : (treeAt W bs).2.length + 1 = (lots W).length := by
  have t := tree_all ok b _ bs [] rfl (by simp)
  generalize (treeAt W bs).1 = names at t
  generalize (treeAt W bs).2 = rows at t ⊢
  have pick : ∀ i, ∃ u, i < rows.length → names.lookup u = some i := fun i => by
    by_cases h : i < rows.length
    · obtain ⟨u, hu⟩ := t.cover i h; exact ⟨u, fun _ => hu⟩
    · exact ⟨[], fun h' => absurd h' h⟩
  obtain ⟨f, hf⟩ := Classical.axiomOfChoice pick
  have fb : ∀ i, i < rows.length → f i ∈ bs := fun i hi => by rw [← t.keys]; exact lookup_mem.mp (by rw [hf i hi]; rfl)
  have perm : (lots W).Perm ([] :: (List.range rows.length).map fun i => follows W (f i)) := by
    refine (List.perm_ext_iff_of_nodup (lots_nodup W) (List.nodup_cons.mpr ⟨fun h => ?_, ?_⟩)).mpr fun l => ?_
    · obtain ⟨i, hi, e⟩ := List.mem_map.mp h
      obtain ⟨s, hs⟩ := (b.mem _).mp (fb i (List.mem_range.mp hi))
      have := follows_mem.mpr hs
      rw [e] at this; cases this
    · refine List.pairwise_map.mpr (List.nodup_range.imp_of_mem fun {i j} hi hj hne e => hne ?_)
      exact (t.inj _ _ i j (hf i (List.mem_range.mp hi)) (hf j (List.mem_range.mp hj))).mpr e
    · rw [lots_mem ok.fit, List.mem_cons]
      constructor
      · rintro (rfl | ⟨u, hu, rfl⟩)
        · exact .inl rfl
        · by_cases hn : follows W u = []
          · exact .inl hn
          · obtain ⟨s, hs⟩ := List.exists_mem_of_ne_nil _ hn
            have hb : u ∈ bs := (b.mem u).mpr ⟨s, follows_mem.mp hs⟩
            rw [← t.keys] at hb
            obtain ⟨i, hi⟩ := Option.isSome_iff_exists.mp (lookup_mem.mpr hb)
            have hlt := (List.getElem?_eq_some_iff.mp (t.row u i hi)).1
            exact .inr (List.mem_map.mpr ⟨i, List.mem_range.mpr hlt, (t.inj _ _ i i (hf i hlt) hi).mp rfl⟩)
      · rintro (rfl | h)
        · exact .inl rfl
        · obtain ⟨i, hi, rfl⟩ := List.mem_map.mp h
          obtain ⟨s, hs⟩ := (b.mem _).mp (fb i (List.mem_range.mp hi))
          refine .inr ⟨f i, evr_mem.mpr ?_, rfl⟩
          have := ok.fit _ hs
          rw [List.length_append] at this; (first | lia | omega)
  rw [perm.length_eq, List.length_cons, List.length_map, List.length_range]
end Mine.Internal
end

section
namespace Mine.Internal

section
variable {prog : Program} {w : World} {h₀ : Heap} {n : Nat} {ρ : Loc} {σ : Store} {Q : PV → Store → Prop}
noncomputable def BisectAt (prog : Program) (w : World) (h₀ : Heap) (n : Nat) (σ : Store) (fa : Addr) (a : Addr) (xs : List PV) (x : PV) (args : List PV) : Prop :=
  ∀ Q : PV → Store → Prop, (∀ k : Nat, k ≤ xs.length → (∀ (i : Nat) (y : PV), i < k → xs[i]? = some y → PV.lt y x = true) → (∀ (i : Nat) (y : PV), k ≤ i → xs[i]? = some y → PV.lt y x = false) → Q (.int k) σ) → LCall prog w h₀ n (.ref fa) [] args σ Q
theorem bisect_spec {fa : Addr} {fd : FuncData} (f : FnOk h₀ fa fd (bodyAt Challenge.pw_ho0003_01 2)) (hs : fd.scope = scopeAt Challenge.pw_ho0003_01 2) (hlen : TopIs h₀ "len" (.builtin "len"))
    {a : Addr} {xs args : List PV} {x : PV} (ea : σ a = some (.lst xs)) (hl : xs.length ≤ 1000000) (hbind : Binds h₀ fd args [("a", .loc a), ("x", x), ("lo", .int 0), ("hi", .none), ("key", .none)])
    (T : Ty) (hT : T.deep ≤ 50) (hty : ∀ y ∈ xs, HasTy T y) (hord : ∀ y ∈ xs, Ord y x) (hmono : ∀ (i j : Nat) (y z : PV), i ≤ j → xs[i]? = some y → xs[j]? = some z → PV.lt z x = true → PV.lt y x = true) :
    BisectAt prog w h₀ (n + 1) σ fa a xs x args := fun Q q => by
  have hn : fd.scope.names = (scopeAt Challenge.pw_ho0003_01 2).names := by rw [hs]
  refine lcall_def f hbind (by show List.Nodup [("a" : Str), "x", "lo", "hi", "key"]; decide) (fun k => by rw [hn]; exact List.nodup_nil) (fun p hp => ?_) fun L => ?_
  · rw [hn]
    refine .inl ?_
    simp only [List.mem_cons, List.not_mem_nil, or_false] at hp
    rcases hp with rfl | rfl | rfl | rfl | rfl <;> rfl
  generalize hE : callEnvC fd L fa = env
  have hk : ∀ y, env.kindOf y = (scopeAt Challenge.pw_ho0003_01 2).names.lookup y := fun y => by rw [← hE]; show fd.scope.names.lookup y = _; rw [hn]
  have st : ∀ y, (scopeAt Challenge.pw_ho0003_01 2).names.lookup y = some .local → Stor env y := fun y h => .inl ((hk y).trans h)
  have hint : interactive env = false := by rw [← hE]; unfold interactive; show (fd.scope.kind == .module && _) = false; rw [f.kind]; rfl
  have gl : ∀ ρ, GName prog w h₀ env ρ "len" (.builtin "len") := fun ρ => gname hlen ((hk _).trans rfl)
  refine ws_cons (ws_if (wt_cmp (we_name (by rfl) (we_int ⟨_, lc_lt, ?_⟩))))
  refine ws_nil ?_
  refine ws_cons (ws_if (wt_cmp (we_name (by rfl) (we_none ⟨_, lc_is_none, ?_⟩))))
  refine ws_cons (ws_assign (st _ rfl) (we_call (gl _) (wl_cons (we_name (by rfl) (wl_nil (lcall_fn (lf_len_list ea hl ?_)))))))
  refine ws_nil ?_
  refine ws_cons (ws_if (wt_cmp (we_name (by rfl) (we_none ⟨_, lc_is_none, ?_⟩))))
  refine ws_norm [("lo", .int (0 : Nat)), ("hi", .int xs.length), ("a", .loc a), ("x", x)] (by repeat (first | exact Sub.nil _ | refine Sub.cons (by rfl) ?_)) ?_
  refine ws_cons (ws_while (fun k ρ' σ' => σ' = σ ∧ ∃ lo hi : Nat, k = hi - lo ∧ lo ≤ hi ∧ hi ≤ xs.length ∧ (∀ (i : Nat) (y : PV), i < lo → xs[i]? = some y → PV.lt y x = true) ∧ (∀ (i : Nat) (y : PV), hi ≤ i → xs[i]? = some y → PV.lt y x = false) ∧
    ρ' = ([("lo", .int lo), ("hi", .int hi), ("a", .loc a), ("x", x)] : Loc)) xs.length ?_ ?_)
  · refine ⟨rfl, 0, xs.length, rfl, Nat.zero_le _, Nat.le_refl _, fun i y h => by (first | lia | omega), fun i y h hy => ?_, rfl⟩
    rw [List.getElem?_eq_none h] at hy; cases hy
  rintro k ρ' σ' ⟨rfl, lo, hi, rfl, h1, h2, h3, h4, rfl⟩
  refine wt_cmp (we_name (by rfl) (we_name (by rfl) ⟨_, lc_lt, ?_⟩))
  by_cases hlt : lo < hi
  · refine if_dec_pos (by (first | lia | omega)) ?_
    refine ws_abs fun Q1 q1 => ?_
    refine ws_cons (ws_assign (st _ rfl) (we_bin (we_bin (we_name (by rfl) (we_name (by rfl) (lb_add_int (we_int (lb_div_int (by decide) (by decide) ?_))))))))
    obtain ⟨mid, hmid, hm1, hm2⟩ : ∃ mid : Nat, ((lo : Int) + (hi : Int)).fdiv 2 = mid ∧ lo ≤ mid ∧ mid < hi := ⟨(lo + hi) / 2, by rw [Int.fdiv_eq_ediv_of_nonneg _ (by decide)]; (first | lia | omega), by (first | lia | omega), by (first | lia | omega)⟩
    rw [hmid]
    obtain ⟨z, hz⟩ : ∃ z, xs[mid]? = some z := ⟨_, List.getElem?_eq_getElem (by (first | lia | omega))⟩
    have hzm := List.mem_of_getElem? hz
    refine ws_cons (ws_if (wt_cmp (we_sub (we_name (by rfl) (we_name (by rfl) ⟨z, lg_list ea (by (first | lia | omega)) (by (first | lia | omega)) (by simpa using hz), we_name (by rfl) ⟨_, lc_lt_ord T hT (hty z hzm) (hord z hzm), ?_⟩⟩)))))
    cases hc : PV.lt z x
    · refine ws_cons (ws_assign (st _ rfl) (we_name (by rfl) ?_))
      refine ws_nil (ws_nil (q1 _ _ _ ⟨mid - lo, [("lo", .int lo), ("hi", .int mid), ("a", .loc a), ("x", x)], by (first | lia | omega), by repeat (first | exact Sub.nil _ | refine Sub.cons (by rfl) ?_), rfl, lo, mid, rfl, hm1, by (first | lia | omega), h3, fun i y hi hy => ?_, rfl⟩))
      cases hyx : PV.lt y x
      · rfl
      · rw [hmono mid i z y hi hz hy hyx] at hc; cases hc
    · refine ws_cons (ws_assign (st _ rfl) (we_bin (we_name (by rfl) (we_int (lb_add_int ?_)))))
      refine ws_nil (ws_nil (q1 _ _ _ ⟨hi - (mid + 1), [("lo", .int (mid + 1 : Nat)), ("hi", .int hi), ("a", .loc a), ("x", x)], by (first | lia | omega), by repeat (first | exact Sub.nil _ | refine Sub.cons (by rfl) ?_), rfl, mid + 1, hi, rfl, by (first | lia | omega), h2, fun i y hi hy => ?_, h4, rfl⟩))
      exact hmono i mid y z (by (first | lia | omega)) hy hz hc
  · refine if_dec_neg (by (first | lia | omega)) ?_
    refine ws_nil (ws_cons (ws_return (we_name (by rfl) (q lo (by (first | lia | omega)) h3 fun i y h => h4 i y (by (first | lia | omega))))))

theorem insort_spec {fa : Addr} {fd : FuncData} (f : FnOk h₀ fa fd (bodyAt Challenge.pw_ho0003_01 1)) (hs : fd.scope = scopeAt Challenge.pw_ho0003_01 1) {ba : Addr} (hbis : TopIs h₀ "bisect_left" (.ref ba))
    {a : Addr} {xs : List PV} {x : PV} (ea : σ a = some (.lst xs)) (hl : xs.length < 1000000) (hbind : Binds h₀ fd [.loc a, x] [("a", .loc a), ("x", x), ("lo", .int 0), ("hi", .none), ("key", .none)])
    (hb : BisectAt prog w h₀ n σ ba a xs x [.loc a, x, .int 0, .none])
    (q : ∀ k : Nat, k ≤ xs.length → (∀ (i : Nat) (y : PV), i < k → xs[i]? = some y → PV.lt y x = true) → (∀ (i : Nat) (y : PV), k ≤ i → xs[i]? = some y → PV.lt y x = false) → Q .none (upd σ a (.lst (xs.take k ++ x :: xs.drop k)))) :
    LCall prog w h₀ (n + 1) (.ref fa) [] [.loc a, x] σ Q := by
  have hn : fd.scope.names = (scopeAt Challenge.pw_ho0003_01 1).names := by rw [hs]
  refine lcall_def f hbind (by show List.Nodup [("a" : Str), "x", "lo", "hi", "key"]; decide) (fun k => by rw [hn]; exact List.nodup_nil) (fun p hp => ?_) fun L => ?_
  · rw [hn]
    refine .inl ?_
    simp only [List.mem_cons, List.not_mem_nil, or_false] at hp
    rcases hp with rfl | rfl | rfl | rfl | rfl <;> rfl
  generalize hE : callEnvC fd L fa = env
  have hk : ∀ y, env.kindOf y = (scopeAt Challenge.pw_ho0003_01 1).names.lookup y := fun y => by rw [← hE]; show fd.scope.names.lookup y = _; rw [hn]
  have st : ∀ y, (scopeAt Challenge.pw_ho0003_01 1).names.lookup y = some .local → Stor env y := fun y h => .inl ((hk y).trans h)
  have hint : interactive env = false := by rw [← hE]; unfold interactive; show (fd.scope.kind == .module && _) = false; rw [f.kind]; rfl
  have gb : ∀ ρ, GName prog w h₀ env ρ "bisect_left" (.ref ba) := fun ρ => gname hbis ((hk _).trans rfl)
  refine ws_cons (ws_if (wt_cmp (we_name (by rfl) (we_none ⟨_, lc_is_none, ?_⟩))))
  refine ws_cons (ws_assign (st _ rfl) (we_call (gb _) (wl_cons (we_name (by rfl) (wl_cons (we_name (by rfl) (wl_cons (we_name (by rfl) (wl_cons (we_name (by rfl) (wl_nil (hb _ ?_))))))))))))
  intro k h1 h2 h3
  refine ws_nil ?_
  refine ws_cons (ws_expr (we_method (we_name (by rfl) ⟨_, meth_list ea PySem.F.plainAttrs_list PySem.F.slot_list_insert, wl_cons (we_name (by rfl) (wl_cons (we_name (by rfl) (wl_nil (lc_insert ea (by (first | lia | omega)) (by simpa using h1) (by (first | lia | omega)) ⟨rfl, ?_⟩)))))⟩)) hint)
  exact ws_nil (by simpa using q k h1 h2 h3)

end
end Mine.Internal
end

section
namespace Mine.Internal

section
variable {prog : Program} {w : World} {h₀ : Heap} {n : Nat} {ρ : Loc} {σ : Store} {Q : PV → Store → Prop}
theorem count_spec {fa : Addr} {fd : FuncData} (f : FnOk h₀ fa fd (bodyAt Challenge.pw_ho0003_01 5)) (hs : fd.scope = scopeAt Challenge.pw_ho0003_01 5) {a : Addr} {T : Ty} {es : List (PV × PV)} (ea : σ a = some (.dt T es)) (hv : IntVals es) (hbind : Binds h₀ fd [.loc a] [("callers", .loc a)])
    (q : Q (.int (sumL (valsOf es))) σ) : LCall prog w h₀ (n + 1) (.ref fa) [] [.loc a] σ Q := by
  have hn : fd.scope.names = (scopeAt Challenge.pw_ho0003_01 5).names := by rw [hs]
  refine lcall_def f hbind (by show List.Nodup [("callers" : Str)]; decide) (fun k => by rw [hn]; exact List.nodup_nil) (fun p hp => ?_) fun L => ?_
  · rw [hn]
    refine .inl ?_
    simp only [List.mem_cons, List.not_mem_nil, or_false] at hp
    subst hp; rfl
  generalize hE : callEnvC fd L fa = env
  have hk : ∀ y, env.kindOf y = (scopeAt Challenge.pw_ho0003_01 5).names.lookup y := fun y => by rw [← hE]; show fd.scope.names.lookup y = _; rw [hn]
  have st : ∀ y, (scopeAt Challenge.pw_ho0003_01 5).names.lookup y = some .local → Stor env y := fun y h => .inl ((hk y).trans h)
  have hint : interactive env = false := by rw [← hE]; unfold interactive; show (fd.scope.kind == .module && _) = false; rw [f.kind]; rfl
  refine ws_cons (ws_assign (st _ rfl) (we_int ?_))
  refine ws_cons (ws_for (wi_values (we_name (by rfl) ⟨a, T, es, rfl, ea, fun ob => ?_⟩)))
  refine ⟨fun i ρ' σ' => i ≤ es.length ∧ ρ' = ([("nc", .int (sumL ((valsOf es).take i))), ("callers", .loc a)] : Loc) ∧ σ' = upd σ a (.dx ob T es), es.length, ⟨Nat.zero_le _, rfl, rfl⟩, ?_⟩
  rintro i ρ' σ' ⟨hi, rfl, rfl⟩
  have ex : (upd σ a (.dx ob T es)) a = some (.dx ob T es) := upd_same _ _ _
  refine ⟨ex, ?_⟩
  rw [elemD_of ex]
  cases he : es[i]? with
  | none =>
    have hl : (valsOf es).length = es.length := List.length_map _
    have e : (valsOf es).take i = valsOf es := List.take_of_length_le (by have := List.getElem?_eq_none_iff.mp he; (first | lia | omega))
    simp only [Option.map_none]
    refine ws_less (Less.back ea) ?_
    rw [e]
    exact ws_cons (ws_return (we_name (by rfl) q))
  | some p =>
    obtain ⟨v, hv1, hv2⟩ := valsOf_get hv he
    have hlt := (List.getElem?_eq_some_iff.mp he).1
    simp only [Option.map_some]
    refine ⟨hlt, wt_name (ownMod _) (st _ rfl).own ?_⟩
    rw [hv1]
    refine ws_cons (ws_iadd (st _ rfl) (by rfl) (we_name (by rfl) ⟨v, rfl, ?_⟩))
    refine ws_nil ⟨_, ?_, hlt, rfl, rfl⟩
    rw [sumL_take hv2]
    repeat (first | exact Sub.nil _ | refine Sub.cons (by rfl) ?_)

theorem add_spec {fa : Addr} {fd : FuncData} (f : FnOk h₀ fa fd (bodyAt Challenge.pw_ho0003_01 4)) (hs : fd.scope = scopeAt Challenge.pw_ho0003_01 4) (hbig : ∃ b o, sysModules < b ∧ h₀.get? b = some o) (his : TopIs h₀ "isinstance" (.builtin "isinstance")) (htup : TopIs h₀ "tuple" (.type "tuple"))
    {a b : Addr} {T : Ty} {es fs : List (PV × PV)} (ea : σ a = some (.dt T es)) (eb : σ b = some (.dt T fs)) (ke : KeysT T es) (kf : KeysT T fs) (ve : IntVals es) (vf : IntVals fs) (hle : es.length ≤ 1000) (hlf : fs.length ≤ 1000)
    (hbind : Binds h₀ fd [.loc a, .loc b] [("target", .loc a), ("source", .loc b)])
    (q : ∀ c, σ c = none → Q (.loc c) (upd σ c (.dt T (addTab es fs)))) : LCall prog w h₀ (n + 1) (.ref fa) [] [.loc a, .loc b] σ Q := by
  have hn : fd.scope.names = (scopeAt Challenge.pw_ho0003_01 4).names := by rw [hs]
  refine lcall_def f hbind (by show List.Nodup [("target" : Str), "source"]; decide) (fun k => by rw [hn]; exact List.nodup_nil) (fun p hp => ?_) fun L => ?_
  · rw [hn]
    refine .inl ?_
    simp only [List.mem_cons, List.not_mem_nil, or_false] at hp
    rcases hp with rfl | rfl <;> rfl
  generalize hE : callEnvC fd L fa = env
  have hk : ∀ y, env.kindOf y = (scopeAt Challenge.pw_ho0003_01 4).names.lookup y := fun y => by rw [← hE]; show fd.scope.names.lookup y = _; rw [hn]
  have st : ∀ y, (scopeAt Challenge.pw_ho0003_01 4).names.lookup y = some .local → Stor env y := fun y h => .inl ((hk y).trans h)
  have hint : interactive env = false := by rw [← hE]; unfold interactive; show (fd.scope.kind == .module && _) = false; rw [f.kind]; rfl
  have gi : ∀ ρ, GName prog w h₀ env ρ "isinstance" (.builtin "isinstance") := fun ρ => gname his ((hk _).trans rfl)
  have gt : ∀ ρ, GName prog w h₀ env ρ "tuple" (.type "tuple") := fun ρ => gname htup ((hk _).trans rfl)
  refine ws_cons (ws_assign (st _ rfl) (we_dict0_dt T hbig fun c hc => ?_))
  have hca : c ≠ a := fun e => by rw [e, ea] at hc; cases hc
  have hcb : c ≠ b := fun e => by rw [e, eb] at hc; cases hc
  refine ws_cons (ws_for (wi_items (we_name (by rfl) ⟨a, T, es, rfl, by rw [upd_ne _ _ (Ne.symm hca)]; exact ea, fun ob => ?_⟩)))
  refine ⟨fun i ρ' σ' => i ≤ es.length ∧ ρ' = ([("new_callers", .loc c), ("target", .loc a), ("source", .loc b)] : Loc) ∧ σ' = upd (upd σ a (.dx ob T es)) c (.dt T (copied (es.take i))), es.length,
    ⟨Nat.zero_le _, rfl, upd_comm _ _ _ hca⟩, ?_⟩
  rintro i ρ' σ' ⟨hi, rfl, rfl⟩
  have ex : (upd (upd σ a (.dx ob T es)) c (.dt T (copied (es.take i)))) a = some (.dx ob T es) := by rw [upd_ne _ _ (Ne.symm hca), upd_same]
  refine ⟨ex, ?_⟩
  rw [elemD_of ex]
  cases he : es[i]? with
  | some p =>
    have hlt := (List.getElem?_eq_some_iff.mp he).1
    obtain ⟨ks, k1, k2, k3⟩ := ke p (List.mem_of_getElem? he)
    simp only [Option.map_some]
    refine ⟨hlt, wt_pair (ownMod _) (st _ rfl).own (st _ rfl).own (ws_abs fun Q1 q1 => ?_)⟩
    have hlen : (copied (es.take i)).length ≤ 1000000 := by have := copied_length (es.take i); have := List.length_take_le i es; (first | lia | omega)
    refine ws_cons (ws_set (we_name (by rfl) (we_name (by rfl) (we_name (by rfl) ?_))))
    rw [k1]
    refine ls_dt (upd_same _ _ _) k2 k3 hlen ?_
    refine ws_nil (q1 _ _ _ ⟨_, ?_, hlt, rfl, ?_⟩)
    · repeat (first | exact Sub.nil _ | refine Sub.cons (by rfl) ?_)
    · have e2 : copied (es.take (i + 1)) = dset (copied (es.take i)) (.tup ks) p.2 := by rw [← k1]; exact take_succ_fold _ _ _ he
      rw [upd_upd, e2]
  | none =>
    have e : es.take i = es := List.take_of_length_le (List.getElem?_eq_none_iff.mp he)
    simp only [Option.map_none]
    rw [e]
    refine ws_less (Less.upd_both (Less.back ea) c _) ?_
    refine ws_cons (ws_for (wi_items (we_name (by rfl) ⟨b, T, fs, rfl, by rw [upd_ne _ _ (Ne.symm hcb)]; exact eb, fun ob => ?_⟩)))
    refine ⟨fun i ρ' σ' => i ≤ fs.length ∧ ρ' = ([("new_callers", .loc c), ("target", .loc a), ("source", .loc b)] : Loc) ∧ σ' = upd (upd σ b (.dx ob T fs)) c (.dt T ((fs.take i).foldl addOne (copied es))), fs.length,
      ⟨Nat.zero_le _, rfl, upd_comm _ _ _ hcb⟩, ?_⟩
    rintro i ρ' σ' ⟨hi, rfl, rfl⟩
    have ex : (upd (upd σ b (.dx ob T fs)) c (.dt T ((fs.take i).foldl addOne (copied es)))) b = some (.dx ob T fs) := by rw [upd_ne _ _ (Ne.symm hcb), upd_same]
    refine ⟨ex, ?_⟩
    rw [elemD_of ex]
    cases he : fs[i]? with
    | none =>
      have e : fs.take i = fs := List.take_of_length_le (List.getElem?_eq_none_iff.mp he)
      simp only [Option.map_none]
      rw [e]
      refine ws_less (Less.upd_both (Less.back eb) c _) ?_
      exact ws_cons (ws_return (we_name (by rfl) (q c hc)))
    | some p =>
      have hlt := (List.getElem?_eq_some_iff.mp he).1
      obtain ⟨ks, k1, k2, k3⟩ := kf p (List.mem_of_getElem? he)
      obtain ⟨v, hv⟩ := vf p (List.mem_of_getElem? he)
      simp only [Option.map_some]
      refine ⟨hlt, wt_pair (ownMod _) (st _ rfl).own (st _ rfl).own (ws_abs fun Q1 q1 => ?_)⟩
      have hlen : ((fs.take i).foldl addOne (copied es)).length ≤ 1000000 := by have := adds_length (fs.take i) (copied es); have := copied_length es; have := List.length_take_le i fs; (first | lia | omega)
      have e2 : (fs.take (i + 1)).foldl addOne (copied es) = addOne ((fs.take i).foldl addOne (copied es)) p := take_succ_fold _ _ _ he
      have va : IntVals ((fs.take i).foldl addOne (copied es)) := adds_vals (fun x hx => vf x (List.mem_of_mem_take hx)) (copied_vals ve)
      rw [k1, hv]
      refine ws_cons (ws_if (wt_cmp (we_name (by rfl) (we_name (by rfl) ⟨_, lc_in_dt (upd_same _ _ _) k2 k3, ?_⟩))))
      rw [← dget_isSome]
      generalize hacc : (fs.take i).foldl addOne (copied es) = acc at *
      cases hd : dget acc (.tup ks) with
      | none =>
        simp only [Option.isSome_none, Bool.false_eq_true, if_false]
        refine ws_cons (ws_set (we_name (by rfl) (we_name (by rfl) (we_name (by rfl) (ls_dt (upd_same _ _ _) k2 k3 hlen ?_)))))
        refine ws_nil (ws_nil (q1 _ _ _ ⟨_, ?_, hlt, rfl, ?_⟩))
        · repeat (first | exact Sub.nil _ | refine Sub.cons (by rfl) ?_)
        · rw [upd_upd, e2]
          have : addOne acc p = dset acc (.tup ks) (.int v) := by unfold addOne; rw [k1, hv, hd]
          rw [this]
      | some x =>
        obtain ⟨u, rfl⟩ := dget_vals va hd
        simp only [Option.isSome_some, if_true]
        refine ws_cons (ws_if (wt_plain (we_isi (gi _) (gt _) (we_name (by rfl) ⟨v, rfl, false, rfl, ?_⟩))))
        simp only [Bool.false_eq_true, if_false]
        refine ws_cons (ws_iadd_sub (we_name (by rfl) (we_name (by rfl) ⟨u, lg_dt (upd_same _ _ _) k2 k3 hd, we_name (by rfl) ⟨v, rfl, ls_dt (upd_same _ _ _) k2 k3 hlen ?_⟩⟩)))
        refine ws_nil (ws_nil (ws_nil (q1 _ _ _ ⟨_, ?_, hlt, rfl, ?_⟩)))
        · repeat (first | exact Sub.nil _ | refine Sub.cons (by rfl) ?_)
        · rw [upd_upd, e2]
          have : addOne acc p = dset acc (.tup ks) (.int (u + v)) := by unfold addOne; rw [k1, hv, hd]
          rw [this]
end
end Mine.Internal
end

section
namespace Mine.Internal

theorem ws_a (u : Wd) : ws u ++ ("a" : Str) = ws (u ++ [false]) := by
  show (⟨(u.map chr).toArray ++ #[97]⟩ : Str) = _
  unfold ws; congr 1; simp [chr]
theorem ws_b (u : Wd) : ws u ++ ("b" : Str) = ws (u ++ [true]) := by
  show (⟨(u.map chr).toArray ++ #[98]⟩ : Str) = _
  unfold ws; congr 1; simp [chr]
theorem ws_len (u : Wd) : (ws u).length = u.length := by
  show ((u.map chr).toArray).size = _
  simp
theorem ws_one (b : Bool) : (⟨#[chr b]⟩ : Str) = ws [b] := rfl
theorem ws_app (u v : Wd) : ws u ++ ws v = ws (u ++ v) := by
  show (⟨(u.map chr).toArray ++ (v.map chr).toArray⟩ : Str) = _
  unfold ws; congr 1; simp
theorem evr_grow : ∀ i < 7, ∀ w, evr[i]? = some w → evr.take (2 * i + 1) ++ [w ++ [false], w ++ [true]] = evr.take (2 * (i + 1) + 1) ∧ w.length < 3 := by decide
theorem evr_full {i : Nat} (h : 7 ≤ i) : evr.take (2 * i + 1) = evr := List.take_of_length_le (by show 15 ≤ _; (first | lia | omega))
theorem evr_long : ∀ i < 15, 7 ≤ i → ∀ w, evr[i]? = some w → ¬ w.length < 3 := by decide
section
variable {prog : Program} {w : World} {h₀ : Heap} {n : Nat} {ρ : Loc} {σ : Store} {Q : PV → Store → Prop}
theorem every_spec {fa : Addr} {fd : FuncData} (f : FnOk h₀ fa fd (bodyAt Challenge.pw_ho0003_01 7)) (hs : fd.scope = scopeAt Challenge.pw_ho0003_01 7) (hbind : Binds h₀ fd [] []) (hlen : TopIs h₀ "len" (.builtin "len"))
    (q : ∀ σ' c, Less σ σ' → σ c = none → σ' c = some (.lst (evr.map pvW)) → Q (.loc c) σ') : LCall prog w h₀ (n + 1) (.ref fa) [] [] σ Q := by
  have hn : fd.scope.names = (scopeAt Challenge.pw_ho0003_01 7).names := by rw [hs]
  refine lcall_def f hbind List.nodup_nil (fun k => by rw [hn]; exact List.nodup_nil) (fun p hp => by cases hp) fun L => ?_
  generalize hE : callEnvC fd L fa = env
  have hk : ∀ y, env.kindOf y = (scopeAt Challenge.pw_ho0003_01 7).names.lookup y := fun y => by rw [← hE]; show fd.scope.names.lookup y = _; rw [hn]
  have st : ∀ y, (scopeAt Challenge.pw_ho0003_01 7).names.lookup y = some .local → Stor env y := fun y h => .inl ((hk y).trans h)
  have hint : interactive env = false := by rw [← hE]; unfold interactive; show (fd.scope.kind == .module && _) = false; rw [f.kind]; rfl
  clear hE hn hs hbind
  refine ws_cons ?_
  refine ws_assign (st _ rfl) ?_
  refine we_list ?_
  refine wl_cons ?_
  refine we_str ?_
  refine wl_nil ?_
  refine ⟨by decide, fun c hc => ?_⟩
  refine ws_norm [("found", .loc c)] (by repeat (first | exact Sub.nil _ | refine Sub.cons (by rfl) ?_)) ?_
  refine ws_cons (ws_for (wi_list (we_name (by rfl) ⟨c, _, rfl, upd_same _ _ _, ?_⟩)))
  refine ⟨fun i ρ' σ' => i ≤ 15 ∧ ρ' = ([("found", .loc c)] : Loc) ∧ Less σ σ' ∧ σ' c = some (.lst ((evr.take (2 * i + 1)).map pvW)), 15, ⟨by decide, rfl, Less.upd_free hc, upd_same _ _ _⟩, ?_⟩
  rintro i ρ' σ' ⟨hi, rfl, l, e⟩
  refine ⟨⟨_, e⟩, ?_⟩
  rw [elemL_of e, List.getElem?_map]
  by_cases h15 : i < 15
  · obtain ⟨u, hu⟩ : ∃ u, evr[i]? = some u := ⟨_, List.getElem?_eq_getElem h15⟩
    have hg : (evr.take (2 * i + 1))[i]? = some u := by rw [List.getElem?_take_of_lt (by (first | lia | omega))]; exact hu
    rw [hg]
    refine ⟨h15, wt_name (ownMod _) (st _ rfl).own (ws_abs fun Q1 q1 => ?_)⟩
    refine ws_cons ?_
    refine ws_if ?_
    refine wt_cmp ?_
    refine we_call (gname hlen ((hk _).trans rfl)) ?_
    refine wl_cons ?_
    refine we_name (by rfl) ?_
    refine wl_nil ?_
    refine lcall_fn (lf_len_str (by rw [ws_len]; have := evr_mem.mp (List.mem_of_getElem? hu); (first | lia | omega)) ?_)
    refine we_int ?_
    refine ⟨_, lc_lt, ?_⟩
    rw [ws_len]
    by_cases h7 : i < 7
    · obtain ⟨g1, g2⟩ := evr_grow i h7 u hu
      refine if_dec_pos (by (first | lia | omega)) ?_
      refine ws_cons ?_
      refine ws_expr ?_ hint
      refine we_method ?_
      refine we_name (by rfl) ?_
      refine ⟨_, meth_list e PySem.F.plainAttrs_list PySem.F.slot_list_extend, ?_⟩
      refine wl_cons ?_
      refine we_list ?_
      refine wl_cons ?_
      refine we_bin ?_
      refine we_name (by rfl) ?_
      refine we_str ?_
      refine lb_add_str (by rw [ws_len]; show _ + 1 ≤ _; (first | lia | omega)) ?_
      refine wl_cons ?_
      refine we_bin ?_
      refine we_name (by rfl) ?_
      refine we_str ?_
      refine lb_add_str (by rw [ws_len]; show _ + 1 ≤ _; (first | lia | omega)) ?_
      refine wl_nil ?_
      refine ⟨by simp, fun d hd => ?_⟩
      refine wl_nil ?_
      have hdc : d ≠ c := fun h => by rw [h, e] at hd; cases hd
      rw [ws_a, ws_b]
      refine lc_extend (upd_old e hd) (upd_same _ _ _) hdc (by rw [List.length_map]; have := List.length_take_le (2 * i + 1) evr; show _ + 2 ≤ _; (first | lia | omega)) ⟨rfl, ?_⟩
      refine ws_nil (ws_nil (q1 _ _ _ ⟨_, ?_, h15, rfl, ?_, ?_⟩))
      · repeat (first | exact Sub.nil _ | refine Sub.cons (by rfl) ?_)
      · refine fun a o ea => ?_
        have hne : a ≠ c := fun h => by rw [h, hc] at ea; cases ea
        rw [upd_ne _ _ hne]
        exact (l.free hd) a o ea
      · rw [upd_same, ← g1, List.map_append]; rfl
    · refine if_dec_neg (evr_long i h15 (by (first | lia | omega)) u hu |> fun h => by (first | lia | omega)) ?_
      refine ws_nil (ws_nil (q1 _ _ _ ⟨_, ?_, h15, rfl, l, ?_⟩))
      · repeat (first | exact Sub.nil _ | refine Sub.cons (by rfl) ?_)
      · rw [evr_full (by (first | lia | omega))] at e ⊢; exact e
  · have : i = 15 := by (first | lia | omega)
    subst this
    exact ws_cons (ws_return (we_name (by rfl) (q σ' c l hc e)))
end
end Mine.Internal
end

section
namespace Mine.Internal

theorem slice_take : ∀ w ∈ evr, ∀ k < 5, Txt.slice (ws w) none (some ((k : Nat) : Int)) = ws (w.take k) := by decide +kernel
theorem slice_drop : ∀ w ∈ evr, ∀ k < 5, Txt.slice (ws w) (some ((k : Nat) : Int)) none = ws (w.drop k) := by decide +kernel
theorem ws_dec (u v : Wd) : decide (ws u = ws v) = decide (u = v) := by
  rw [decide_eq_decide]; exact ⟨ws_inj, fun h => by rw [h]⟩
noncomputable def unW : PV → Wd
  | .str x => x.cps.toList.map fun c => c == 98
  | _ => []
theorem unW_pv (u : Wd) : unW (pvW u) = u := by
  show ((u.map chr).toArray.toList).map (fun c => c == 98) = u
  rw [List.toList_toArray, List.map_map]
  conv => rhs; rw [← List.map_id u]
  exact List.map_congr_left fun b _ => by cases b <;> rfl
theorem wlt_pv (a b : Wd) : PV.lt (pvW a) (pvW b) = wlt a b := rfl
theorem flat_filter {α β : Type} (p : α → Bool) (f : α → β) (l : List α) : (l.flatMap fun a => if p a then [f a] else []) = (l.filter p).map f := by
  induction l with
  | nil => rfl
  | cons a l ih =>
    rw [List.flatMap_cons, ih, List.filter_cons]
    cases p a <;> rfl
noncomputable def Keep (σ σ' : Store) : Prop := ∀ a o, σ a = some o → σ' a = some o
theorem Keep.less {σ σ' : Store} (k : Keep σ σ') : Less σ σ' := fun a o e => ⟨o, k a o e, .inl rfl⟩
section
variable {prog : Program} {w : World} {h₀ : Heap} {n : Nat} {ρ : Loc} {σ : Store} {Q : PV → Store → Prop}
structure FolCtx (h₀ : Heap) (fa : Addr) (fd : FuncData) : Prop where
  f : FnOk h₀ fa fd (bodyAt Challenge.pw_ho0003_01 8)
  hs : fd.scope = scopeAt Challenge.pw_ho0003_01 8
  bind : ∀ x y, Binds h₀ fd [x, y] [("words", x), ("begun", y)]
  tsorted : TopIs h₀ "sorted" (.builtin "sorted")
  ttuple : TopIs h₀ "tuple" (.type "tuple")
  tlen : TopIs h₀ "len" (.builtin "len")
theorem follows_spec {fa : Addr} {fd : FuncData} (c : FolCtx h₀ fa fd) {wa : Addr} {W : List Wd} (ew : σ wa = some (.lst (W.map pvW))) (ok : WOk W) {u : Wd} (hu : u.length < 5)
    (q : ∀ σ', Keep σ σ' → Q (pvT (follows W u)) σ') : LCall prog w h₀ (n + 2) (.ref fa) [] [.loc wa, pvW u] σ Q := by
  have hn : fd.scope.names = (scopeAt Challenge.pw_ho0003_01 8).names := by rw [c.hs]
  refine lcall_def c.f (c.bind _ _) (by show List.Nodup [("words" : Str), "begun"]; decide) (fun k => by rw [hn]; exact (show List.Nodup [("begun" : Str)] from by decide)) (fun p hp => ?_) fun L => ?_
  · rw [hn]
    simp only [List.mem_cons, List.not_mem_nil, or_false] at hp
    rcases hp with rfl | rfl
    · exact .inl rfl
    · exact .inr ⟨rfl, fun k => rfl⟩
  generalize hE : callEnvC fd L fa = env
  have hk : ∀ y, env.kindOf y = (scopeAt Challenge.pw_ho0003_01 8).names.lookup y := fun y => by rw [← hE]; show fd.scope.names.lookup y = _; rw [hn]
  have hcs : env.cells = ([("begun", L + 1)] : List (Str × Addr)) := by rw [← hE]; show cellsFrom (L + 1) fd.scope.names [] = _; rw [hn]; rfl
  clear hE hn
  refine ws_cons ?_
  refine ws_return ?_
  refine we_call (gname c.ttuple ((hk _).trans rfl)) ?_
  refine wl_cons ?_
  refine we_call (gname c.tsorted ((hk _).trans rfl)) ?_
  refine wl_cons ?_
  refine we_compb hcs [("begun", L + 1)] [("begun", pvW u)] W pvW unW unW_pv (fun v => if decide (v.take u.length = u) then [pvW (v.drop u.length)] else []) (by rfl) (by rfl) (by rfl) (SubL.cons (by first | exact .head _ | exact .tail _ (.head _) | exact .tail _ (.tail _ (.head _)) | exact .tail _ (.tail _ (.tail _ (.head _))) | exact .tail _ (.tail _ (.tail _ (.tail _ (.head _))))) (SubL.nil)) (show List.Nodup (["begun"] : List Str) from by decide) (fun C => .cons (by rfl) (.inl ((hk _).trans rfl)) (by rfl) (by rw [hcs]; rfl) (by rfl) (.nil)) ?_
  have hfl : W.flatMap (fun v : Wd => if decide (v.take u.length = u) then [pvW (v.drop u.length)] else []) = ((W.filter fun v => decide (v.take u.length = u)).map fun v => v.drop u.length).map pvW := by
    rw [flat_filter (fun v : Wd => decide (v.take u.length = u)) (fun v => pvW (v.drop u.length)), List.map_map]; rfl
  have hle : (((W.filter fun v => decide (v.take u.length = u)).map fun v => v.drop u.length).map pvW).length ≤ 6 := by
    rw [List.length_map, List.length_map]; exact Nat.le_trans (List.length_filter_le ..) ok.six
  refine wi_list ?_
  refine we_name (by rfl) ?_
  refine ⟨wa, W.map pvW, rfl, ew, itm_list ew, by rw [hfl]; (first | lia | omega), ?_, ?_⟩
  · intro C D hD v hv
    have hve := evr_mem.mpr (ok.fit v hv)
    refine clause_name (onlyLoc _) (storL (compKind rfl (by decide))) (by repeat (first | exact Sub.nil _ | refine Sub.cons (by rfl) ?_)) ?_
    refine jel_if (onlyLoc _) hD ?_
    refine wt_cmp ?_
    refine we_str_slice ?_
    refine we_name (by rfl) ?_
    refine we_part_none ?_
    refine we_part_some ?_
    refine we_call (gname c.tlen (compKind rfl (by decide))) ?_
    refine wl_cons ?_
    refine we_name (by rfl) ?_
    refine wl_nil ?_
    refine lcall_fn (lf_len_str (by rw [ws_len]; (first | lia | omega)) ?_)
    refine ⟨ws v, none, some ((ws u).length : Nat), rfl, rfl, rfl, by rw [ws_len]; have := ok.fit v hv; (first | lia | omega), ?_⟩
    refine we_name (by rfl) ?_
    refine ⟨_, lc_eq_str, rfl, ?_⟩
    rw [ws_len, slice_take v hve _ hu, ws_dec]
    by_cases ht : v.take u.length = u
    · rw [decide_eq_true ht]
      simp only [if_true]
      refine jel_emit (onlyLoc _) hD rfl ?_
      refine we_str_slice ?_
      refine we_name (by rfl) ?_
      refine we_part_some ?_
      refine we_call (gname c.tlen (compKind rfl (by decide))) ?_
      refine wl_cons ?_
      refine we_name (by rfl) ?_
      refine wl_nil ?_
      refine lcall_fn (lf_len_str (by rw [ws_len]; (first | lia | omega)) ?_)
      refine we_part_none ?_
      refine ⟨ws v, some ((ws u).length : Nat), none, rfl, rfl, rfl, by rw [ws_len]; have := ok.fit v hv; (first | lia | omega), rfl, ?_⟩
      rw [ws_len, slice_drop v hve _ hu]; rfl
    · rw [decide_eq_false ht]
      simp only [Bool.false_eq_true, if_false]
  intro D hD
  rw [hfl]
  refine wl_nil ?_
  refine lcall_fn (lf_sorted .str rfl (by decide) (collects_list (upd_same _ _ _) (by (first | lia | omega))) (fun y hy => ?_) (by (first | lia | omega)) fun ys hsort c5 hc5 => ?_)
  · obtain ⟨x, _, rfl⟩ := List.mem_map.mp hy; exact trivial
  have e5 := sortOf_eq (f := pvW) (lt := wlt) (T := .str) rfl (fun _ _ => trivial) wlt_pv wlt_tr wlt_asy wlt_tot hsort
  subst e5
  refine wl_nil ?_
  refine lcall_type (lf_tuple (upd_same _ _ _) (by rw [List.length_map, (sortT_perm _).length_eq, ← List.length_map (f := pvW)]; (first | lia | omega)) ?_)
  exact q _ fun a o e => upd_old (upd_old e hD) hc5
end
end Mine.Internal
end

section
namespace Mine.Internal

theorem getMapT {α β : Type} {f : α → β} {l : List α} {i : Nat} {y : β} (h : (l.map f)[i]? = some y) : ∃ x, l[i]? = some x ∧ f x = y := by
  rw [List.getElem?_map] at h
  exact Option.map_eq_some_iff.mp h
theorem mono_lots {S : List (List Wd)} (hS : S.Pairwise fun a b => llt b a = false) {i j : Nat} {y z x : List Wd} (hij : i ≤ j) (hy : S[i]? = some y) (hz : S[j]? = some z) (h : llt z x = true) : llt y x = true := by
  rcases Nat.eq_or_lt_of_le hij with rfl | hlt
  · rw [hy] at hz; cases hz; exact h
  · obtain ⟨hi, e1⟩ := List.getElem?_eq_some_iff.mp hy
    obtain ⟨hj, e2⟩ := List.getElem?_eq_some_iff.mp hz
    have h1 := List.pairwise_iff_getElem.mp hS i j hi hj hlt
    rw [e1, e2] at h1
    cases h2 : llt y z with
    | true => exact llt_tr _ _ _ h2 h
    | false => rw [llt_tot _ _ h2 h1]; exact h
theorem pvT_all (S : List (List Wd)) : ∀ y ∈ S.map pvT, HasTy (.seq .str) y := fun y hy => by
  obtain ⟨l, _, rfl⟩ := List.mem_map.mp hy; exact pvT_ty l
theorem any_pvT (S : List (List Wd)) (l : List Wd) : (S.map pvT).any (PV.beq · (pvT l)) = decide (l ∈ S) := by
  rw [Bool.eq_iff_iff, List.any_eq_true, decide_eq_true_iff]
  constructor
  · rintro ⟨x, hx, hb⟩
    obtain ⟨t, ht, rfl⟩ := List.mem_map.mp hx
    rw [← pvT_inj _ _ ((PV.beq_iff _ _).mp hb)]; exact ht
  · intro h; exact ⟨_, List.mem_map_of_mem h, (PV.beq_iff _ _).mpr rfl⟩
theorem beqs_pvT (a b : List Wd) : PV.beqs (a.map pvW) (b.map pvW) = decide (a = b) := by
  rw [Bool.eq_iff_iff, PV.beqs_iff, decide_eq_true_iff]
  exact ⟨fun h => map_pvW_inj h, fun h => by rw [h]⟩
theorem deeps_pvT (a : List Wd) : PV.deeps (a.map pvW) = 0 := by
  induction a with
  | nil => rfl
  | cons u a ih => show max 0 (PV.deeps (a.map pvW)) = 0; rw [ih]; rfl
theorem sims_pvT : ∀ a b : List Wd, Sims (a.map pvW) (b.map pvW)
  | [], b => by cases b <;> exact trivial
  | _ :: _, [] => trivial
  | _ :: a, _ :: b => ⟨trivial, sims_pvT a b⟩
noncomputable def unk (σ : Store) (P : Addr) : Store := fun a => if a = P then none else σ a
theorem unk_less (σ : Store) (P : Addr) : Less (unk σ P) σ := fun a o e => by
  unfold unk at e
  split at e
  · cases e
  · exact ⟨o, e, .inl rfl⟩
theorem unk_ne {σ : Store} {P a : Addr} (h : a ≠ P) : unk σ P a = σ a := if_neg h
theorem Less.unkUpd {σ σ' : Store} {P : Addr} (l : Less (unk σ P) σ') (o : MObj) : Less (unk σ P) (upd σ' P o) := fun a x e => by
  by_cases h : a = P
  · unfold unk at e; rw [if_pos h] at e; cases e
  · rw [upd_ne _ _ h]; exact l a x e
section
variable {prog : Program} {w : World} {h₀ : Heap} {n : Nat} {ρ : Loc} {σ : Store}
structure BisCtx (h₀ : Heap) (ba ia : Addr) (bd nd : FuncData) : Prop where
  bis : FnOk h₀ ba bd (bodyAt Challenge.pw_ho0003_01 2)
  bisS : bd.scope = scopeAt Challenge.pw_ho0003_01 2
  bisB2 : ∀ a x, Binds h₀ bd [.loc a, x] [("a", .loc a), ("x", x), ("lo", .int 0), ("hi", .none), ("key", .none)]
  bisB4 : ∀ a x, Binds h₀ bd [.loc a, x, .int 0, .none] [("a", .loc a), ("x", x), ("lo", .int 0), ("hi", .none), ("key", .none)]
  tbis : TopIs h₀ "bisect_left" (.ref ba)
  ins : FnOk h₀ ia nd (bodyAt Challenge.pw_ho0003_01 1)
  insS : nd.scope = scopeAt Challenge.pw_ho0003_01 1
  insB : ∀ a x, Binds h₀ nd [.loc a, x] [("a", .loc a), ("x", x), ("lo", .int 0), ("hi", .none), ("key", .none)]
  tins : TopIs h₀ "insort_left" (.ref ia)
  tlen : TopIs h₀ "len" (.builtin "len")
theorem bisect_lots {ba ia : Addr} {bd nd : FuncData} (c : BisCtx h₀ ba ia bd nd) {o : Addr} {S : List (List Wd)} (es : σ o = some (.lst (S.map pvT))) (hS : S.Pairwise fun a b => llt b a = false) (hl : S.length ≤ 1000) (x : List Wd) (args : List PV)
    (hb : Binds h₀ bd args [("a", .loc o), ("x", pvT x), ("lo", .int 0), ("hi", .none), ("key", .none)]) : BisectAt prog w h₀ (n + 1) σ ba o (S.map pvT) (pvT x) args :=
  bisect_spec c.bis c.bisS c.tlen es (by simp; (first | lia | omega)) hb (.seq .str) (by decide) (pvT_all S) (fun y hy => HasTy.ord (.seq .str) _ _ rfl (pvT_all S y hy) (pvT_ty x)) fun i j y z hij hy hz hlt => by
    obtain ⟨y', hy', rfl⟩ := getMapT hy
    obtain ⟨z', hz', rfl⟩ := getMapT hz
    exact mono_lots hS hij hy' hz' hlt
theorem place_lots {ba ia : Addr} {bd nd : FuncData} (c : BisCtx h₀ ba ia bd nd) {o : Addr} {S : List (List Wd)} (es : σ o = some (.lst (S.map pvT))) (hS : S.Pairwise fun a b => llt b a = false) (hl : S.length ≤ 1000) (x : List Wd) {Q : PV → Store → Prop}
    (q : ∀ k : Nat, k ≤ S.length → (x ∈ S ↔ S[k]? = some x) → Q (.int k) σ) : LCall prog w h₀ (n + 1) (.ref ba) [] [.loc o, pvT x] σ Q :=
  bisect_lots c es hS hl x _ (c.bisB2 _ _) _ fun k h1 h2 h3 => q k (by simpa using h1) (place_mem llt_irr (fun i y hi hy => h2 i (pvT y) hi (by rw [List.getElem?_map, hy]; rfl)) (fun i y hi hy => h3 i (pvT y) hi (by rw [List.getElem?_map, hy]; rfl)) (fun y g1 g2 => llt_tot y x g1 g2) hS)
theorem insort_lots {ba ia : Addr} {bd nd : FuncData} (c : BisCtx h₀ ba ia bd nd) {o : Addr} {S : List (List Wd)} (es : σ o = some (.lst (S.map pvT))) (hS : S.Pairwise fun a b => llt b a = false) (hl : S.length ≤ 1000) (x : List Wd) {Q : PV → Store → Prop}
    (q : Q .none (upd σ o (.lst ((insT llt x S).map pvT)))) : LCall prog w h₀ (n + 2) (.ref ia) [] [.loc o, pvT x] σ Q := by
  refine insort_spec c.ins c.insS c.tbis es (by simp; (first | lia | omega)) (c.insB _ _) (bisect_lots c es hS hl x _ (c.bisB4 _ _)) fun k h1 h2 h3 => ?_
  have e : (S.map pvT).take k ++ pvT x :: (S.map pvT).drop k = (insT llt x S).map pvT := by
    rw [← insT_split (by simpa using h1) (fun i y hi hy => h2 i (pvT y) hi (by rw [List.getElem?_map, hy]; rfl)) (fun i y hi hy => h3 i (pvT y) hi (by rw [List.getElem?_map, hy]; rfl))]
    simp
  rw [e]; exact q
structure LotCtx (h₀ : Heap) (la ea fa ba ia : Addr) (ld ed fd bd nd : FuncData) : Prop where
  f : FnOk h₀ la ld (bodyAt Challenge.pw_ho0003_01 9)
  hs : ld.scope = scopeAt Challenge.pw_ho0003_01 9
  bind : ∀ x, Binds h₀ ld [x] [("words", x)]
  ev : FnOk h₀ ea ed (bodyAt Challenge.pw_ho0003_01 7)
  evS : ed.scope = scopeAt Challenge.pw_ho0003_01 7
  evB : Binds h₀ ed [] []
  tev : TopIs h₀ "_law_every" (.ref ea)
  fol : FolCtx h₀ fa fd
  tfol : TopIs h₀ "_law_follows" (.ref fa)
  bis : BisCtx h₀ ba ia bd nd
noncomputable def lotLay : List Stmt := match bodyAt Challenge.pw_ho0003_01 9 with | _ :: .For _ _ (_ :: _ :: .If _ b _ _ :: _) _ _ :: _ => b | _ => []
theorem lots_spec {la ea fa ba ia : Addr} {ld ed fd bd nd : FuncData} (c : LotCtx h₀ la ea fa ba ia ld ed fd bd nd) {wa : Addr} {W : List Wd} (ew : σ wa = some (.lst (W.map pvW))) (ok : WOk W) {Q : PV → Store → Prop}
    (q : ∀ σ' o, Less σ σ' → σ o = none → σ' o = some (.lst ((lots W).map pvT)) → Q (.loc o) σ') : LCall prog w h₀ (n + 3) (.ref la) [] [.loc wa] σ Q := by
  have hn : ld.scope.names = (scopeAt Challenge.pw_ho0003_01 9).names := by rw [c.hs]
  refine lcall_def c.f (c.bind _) (by show List.Nodup [("words" : Str)]; decide) (fun k => by rw [hn]; exact List.nodup_nil) (fun p hp => ?_) fun L => ?_
  · rw [hn, List.mem_singleton.mp hp]; exact .inl rfl
  generalize hE : callEnvC ld L la = env
  have hk : ∀ y, env.kindOf y = (scopeAt Challenge.pw_ho0003_01 9).names.lookup y := fun y => by rw [← hE]; show ld.scope.names.lookup y = _; rw [hn]
  have st : ∀ y, (scopeAt Challenge.pw_ho0003_01 9).names.lookup y = some .local → Stor env y := fun y h => .inl ((hk y).trans h)
  have hint : interactive env = false := by rw [← hE]; unfold interactive; show (ld.scope.kind == .module && _) = false; rw [c.f.kind]; rfl
  clear hE hn
  refine ws_cons ?_
  refine ws_assign (st _ rfl) ?_
  refine we_list ?_
  refine wl_nil ?_
  refine ⟨by simp, fun o ho => ?_⟩
  have ew1 := upd_old (o' := .lst []) ew ho
  refine ws_cons ?_
  refine ws_for_list ?_
  refine we_bin ?_
  refine we_call (gname c.tev ((hk _).trans rfl)) ?_
  refine wl_nil ?_
  refine every_spec c.ev c.evS c.evB c.bis.tlen fun σ2 e2 l2 he2 ee2 => ?_
  refine we_list ?_
  refine wl_cons ?_
  refine we_str ?_
  refine wl_nil ?_
  refine ⟨by simp, fun c3 hc3 => ?_⟩
  have ee3 := upd_old (o' := .lst [.str "aaaa"]) ee2 hc3
  refine lb_add_list ee3 (upd_same _ _ _) (by rw [List.length_map]; decide) fun c4 hc4 => ?_
  have l4 := (l2.free hc3).free (o := .lst (evr.map pvW ++ [.str "aaaa"])) hc4
  have e4 : (upd (upd σ2 c3 (.lst [.str "aaaa"])) c4 (.lst (evr.map pvW ++ [.str "aaaa"]))) c4 = some (.lst ((evr ++ [long]).map pvW)) := by rw [upd_same, List.map_append]; rfl
  generalize upd (upd σ2 c3 (.lst [.str "aaaa"])) c4 (.lst (evr.map pvW ++ [.str "aaaa"])) = σ4 at *
  have eo4 : σ4 o = some (.lst []) := l4.lst (upd_same _ _ _)
  have hno : c4 ≠ o := fun h => by rw [h, eo4] at e4; cases e4
  clear hc3 ee3 ee2 he2 l2 hc4
  refine ⟨c4, _, rfl, e4, fun i ρ' σ' => ρ' = ([("order", .loc o), ("words", .loc wa)] : Loc) ∧ Less (unk σ4 o) σ' ∧ σ' o = some (.lst ((lotsAt W ((evr ++ [long]).take i)).map pvT)), ⟨rfl, unk_less _ _, eo4⟩, fun i ρ' σ' h => h.2.1.lst ((unk_ne hno).trans e4), fun ρ' σ' h => ?_, fun i v ρ' σ' hi hv h => ?_⟩
  · obtain ⟨rfl, k1, k2⟩ := h
    rw [List.length_map, List.take_length] at k2
    refine ws_cons (ws_return (we_name (by rfl) (q σ' o (fun a x ea => ?_) ho (by unfold lots; exact k2))))
    have hao : a ≠ o := fun h => by rw [h, ho] at ea; cases ea
    obtain ⟨x2, h1, h2⟩ := l4 a x (upd_old ea ho)
    obtain ⟨x3, h3, h4⟩ := k1 a x2 ((unk_ne hao).trans h1)
    exact ⟨x3, h3, h2.trans h4⟩
  · obtain ⟨rfl, k1, k2⟩ := h
    obtain ⟨u, hu, rfl⟩ := getMapT hv
    have huL : u.length < 5 := by
      have := List.mem_of_getElem? hu
      rcases List.mem_append.mp this with h | h
      · have := evr_mem.mp h; (first | lia | omega)
      · rw [List.mem_singleton.mp h]; decide
    have e1 : lotsAt W ((evr ++ [long]).take (i + 1)) = lotStep (lotsAt W ((evr ++ [long]).take i)) (follows W u) := by
      rw [List.take_add_one, hu]; exact lotsAt_snoc _ _ _
    have hwo : wa ≠ o := fun h => by rw [h, ho] at ew; cases ew
    have ew' : σ' wa = some (.lst (W.map pvW)) := k1.lst ((unk_ne hwo).trans (l4.lst ew1))
    refine turn_name (st _ rfl) fun Q1 q1 _ => ?_
    have q1 : ∀ ρ₂ σ₂, Sub [("order", .loc o), ("words", .loc wa)] ρ₂ → Less (unk σ4 o) σ₂ → σ₂ o = some (.lst ((lotStep (lotsAt W ((evr ++ [long]).take i)) (follows W u)).map pvT)) → Q1 .next ρ₂ σ₂ := fun ρ₂ σ₂ hs hl he => q1 ρ₂ _ σ₂ hs ⟨rfl, hl, by rw [e1]; exact he⟩
    obtain ⟨-, sS, -, sl⟩ := lotsAt_all W ((evr ++ [long]).take i)
    have sl2 : (lotsAt W ((evr ++ [long]).take i)).length ≤ 16 := Nat.le_trans sl (by rw [List.length_take]; exact Nat.min_le_right ..)
    generalize lotsAt W ((evr ++ [long]).take i) = S at *
    refine ws_cons ?_
    refine ws_assign (st _ rfl) ?_
    refine we_call (gname c.tfol ((hk _).trans rfl)) ?_
    refine wl_cons ?_
    refine we_name (by rfl) ?_
    refine wl_cons ?_
    refine we_name (by rfl) ?_
    refine wl_nil ?_
    refine follows_spec c.fol ew' ok huL fun σ5 l5 => ?_
    have l5 := l5.less
    have eo5 : σ5 o = some (.lst (S.map pvT)) := l5.lst k2
    have k5 := k1.trans l5
    generalize follows W u = x at *
    refine ws_cons ?_
    refine ws_assign (st _ rfl) ?_
    refine we_call (gname c.bis.tbis ((hk _).trans rfl)) ?_
    refine wl_cons ?_
    refine we_name (by rfl) ?_
    refine wl_cons ?_
    refine we_name (by rfl) ?_
    refine wl_nil ?_
    refine place_lots c.bis eo5 sS (by (first | lia | omega)) x fun k hk1 hk2 => ?_
    have lay : x ∉ S → ∀ Q2, (∀ ρ₂ σ₂, Sub [("order", .loc o), ("words", .loc wa)] ρ₂ → Less (unk σ4 o) σ₂ → σ₂ o = some (.lst ((lotStep S x).map pvT)) → Q2 .next ρ₂ σ₂) →
        WS prog w h₀ (n + 2) env (execs lotLay env) [("place", .int k), ("lot", pvT x), ("begun", pvW u), ("order", .loc o), ("words", .loc wa)] σ5 Q2 := fun hns Q2 q2 => by
      refine ws_cons ?_
      refine ws_expr ?_ hint
      refine we_call (gname c.bis.tins ((hk _).trans rfl)) ?_
      refine wl_cons ?_
      refine we_name (by rfl) ?_
      refine wl_cons ?_
      refine we_name (by rfl) ?_
      refine wl_nil ?_
      refine insort_lots c.bis eo5 sS (by (first | lia | omega)) x ⟨rfl, ws_nil (q2 _ _ ?_ (k5.unkUpd _) ?_)⟩
      · repeat (first | exact Sub.nil _ | refine Sub.cons (by rfl) ?_)
      · rw [upd_same]; unfold lotStep; rw [if_neg hns]
    refine ws_cons ?_
    refine ws_if ?_
    refine wt_or ?_
    refine wt_cmp ?_
    refine we_name (by rfl) ?_
    refine we_call (gname c.bis.tlen ((hk _).trans rfl)) ?_
    refine wl_cons ?_
    refine we_name (by rfl) ?_
    refine wl_nil ?_
    refine lcall_fn (lf_len_list eo5 (by rw [List.length_map]; (first | lia | omega)) ?_)
    refine ⟨_, lc_eq, ?_⟩
    by_cases hkl : k = S.length
    · refine if_dec_pos (by rw [List.length_map, hkl]) ?_
      exact lay (fun h => by have := hk2.mp h; rw [hkl, List.getElem?_eq_none (Nat.le_refl _)] at this; cases this) _ fun ρ₂ σ₂ a b c => ws_nil (q1 _ _ a b c)
    · refine if_dec_neg (by rw [List.length_map]; (first | lia | omega)) ?_
      have hlt : k < S.length := by (first | lia | omega)
      obtain ⟨y, hy⟩ : ∃ y, S[k]? = some y := ⟨_, List.getElem?_eq_getElem hlt⟩
      refine wt_or ?_
      refine wt_cmp ?_
      refine we_sub ?_
      refine we_name (by rfl) ?_
      refine we_name (by rfl) ?_
      refine ⟨pvT y, lg_list eo5 (by (first | lia | omega)) (by (first | lia | omega)) (by rw [Int.toNat_natCast, List.getElem?_map, hy]; rfl), ?_⟩
      refine we_name (by rfl) ?_
      refine ⟨_, lc_ne_tup (by rw [deeps_pvT]; decide) (sims_pvT _ _), ?_⟩
      rw [beqs_pvT]
      by_cases hyx : y = x
      · have hin : x ∈ S := hk2.mpr (by rw [hy, hyx])
        refine if_not_pos hyx (wt_or_nil ?_)
        refine ws_nil (ws_nil (q1 _ _ ?_ k5 ?_))
        · repeat (first | exact Sub.nil _ | refine Sub.cons (by rfl) ?_)
        · unfold lotStep; rw [if_pos hin]; exact eo5
      · refine if_not_neg hyx ?_
        exact lay (fun h => by have := hk2.mp h; rw [hy] at this; cases this; exact hyx rfl) _ fun ρ₂ σ₂ a b c => ws_nil (q1 _ _ a b c)
end
end Mine.Internal
end

section
namespace Mine.Internal

noncomputable def rawB (W : List Wd) : List Wd := W.flatMap fun v => (List.range (v.length + 1)).map fun k => v.take k
theorem rawB_mem {W : List Wd} {u : Wd} : u ∈ rawB W ↔ ∃ v, u ++ v ∈ W := by
  unfold rawB
  rw [List.mem_flatMap]
  constructor
  · rintro ⟨v, hv, h⟩
    obtain ⟨k, _, rfl⟩ := List.mem_map.mp h
    exact ⟨v.drop k, by rw [List.take_append_drop]; exact hv⟩
  · rintro ⟨v, hv⟩
    exact ⟨u ++ v, hv, List.mem_map.mpr ⟨u.length, List.mem_range.mpr (by simp; (first | lia | omega)), by simp⟩⟩
theorem rawB_len {W : List Wd} (ok : WOk W) : (rawB W).length ≤ 24 := by
  have h1 := flatMap_len (l := W) (f := fun v : Wd => (List.range (v.length + 1)).map fun k => v.take k) (m := 4) fun v hv => by
    rw [List.length_map, List.length_range]; have := ok.fit v hv; (first | lia | omega)
  have := ok.six
  unfold rawB; (first | lia | omega)
noncomputable def keyB : PV → PV
  | .str x => .tup [.int (0 - (x.length : Nat)), .str x]
  | _ => .none
theorem keyB_lt {a b : Wd} (h : PV.lt (keyB (pvW b)) (keyB (pvW a)) = false) : b.length ≤ a.length := by
  have e : PV.lt (keyB (pvW b)) (keyB (pvW a)) = (if ((0 - ((ws b).length : Nat) : Int) == (0 - ((ws a).length : Nat) : Int)) = true then PV.lts [.str (ws b)] [.str (ws a)] else decide ((0 - ((ws b).length : Nat) : Int) < (0 - ((ws a).length : Nat) : Int))) := rfl
  rw [e, ws_len, ws_len] at h
  by_cases hc : (0 - (b.length : Nat) : Int) = 0 - (a.length : Nat)
  · (first | lia | omega)
  · rw [if_neg (by simpa using hc)] at h
    have := of_decide_eq_false h
    (first | lia | omega)
theorem sortBy_bok {W : List Wd} (ok : WOk W) {ys : List PV} (hs : SortBy keyB ((dedup (rawB W)).map pvW) ys) : ∃ bs : List Wd, ys = bs.map pvW ∧ BOk W bs := by
  obtain ⟨hp, ho⟩ := hs
  have hys : ys = (ys.map unW).map pvW := by
    rw [List.map_map]
    conv => lhs; rw [← List.map_id ys]
    refine List.map_congr_left fun y hy => ?_
    obtain ⟨u, _, rfl⟩ := List.mem_map.mp (hp.mem_iff.mp hy)
    show pvW u = pvW (unW (pvW u))
    rw [unW_pv]
  refine ⟨ys.map unW, hys, ?_⟩
  have hp2 : (ys.map unW).Perm (dedup (rawB W)) := by
    have := hp.map unW
    rw [List.map_map, show ((dedup (rawB W)).map (unW ∘ pvW)) = dedup (rawB W) from by
      conv => rhs; rw [← List.map_id (dedup (rawB W))]
      exact List.map_congr_left fun u _ => unW_pv u] at this
    exact this
  refine ⟨hp2.nodup_iff.mpr (dedup_nodup _), fun u => by rw [hp2.mem_iff, dedup_mem, rawB_mem], ?_, by have h1 := hp2.length_eq; have h2 := dedup_length (rawB W); have h3 := rawB_len ok; (first | lia | omega)⟩
  rw [hys, List.pairwise_map] at ho
  exact ho.imp fun h => keyB_lt h
theorem Less.updFree {τ σ' : Store} {c : Addr} (l : Less τ σ') (h : τ c = none) (o : MObj) : Less τ (upd σ' c o) := fun a x e => by
  have hne : a ≠ c := fun q => by rw [q, h] at e; cases e
  rw [upd_ne _ _ hne]; exact l a x e
theorem Less.raw {σ' σ : Store} (l : Less σ' σ) {a : Addr} {ob : Obj} (e : σ' a = some (.raw ob)) : σ a = some (.raw ob) := by
  obtain ⟨o, e1, h⟩ := l a _ e
  rcases h with rfl | ⟨ob, T, es, h, _⟩
  · exact e1
  · cases h
theorem swapped2 {x y : Str} {p1 p2 pos vpos : Pos} {k k' : Nat} {a b : Expr} {env : Env} (hx : env.kindOf x = some .local) (hy : env.kindOf y = some .local) (hl : p2.line = p1.line) (hb : env.blockKind = .function) (hxy : ([x, y] : List Str).eraseDups = [x, y])
    (hs : ([a, b].any fun e => match e with | .Starred .. => true | _ => false) = false) (hf : [a, b].all (foldedForSure 8) = false) (hc : [a, b].all (constantsAlone 8) = false) :
    swappedStores [.Tuple [.Name x p1, .Name y p2] k pos] (.Tuple [a, b] k' vpos) env = pure (some [x, y]) := by
  have h1 : (if (env.kindOf x == some NameKind.local && p1.line == p1.line) = true then some x else none) = some x := if_pos (by rw [hx]; simp)
  have h2 : (if (env.kindOf y == some NameKind.local && p2.line == p1.line) = true then some y else none) = some y := if_pos (by rw [hy, hl]; simp)
  show ite _ (pure none) (ite _ (pure none) (ite _ (pure none) (ite _ (pure none) (ite _ _ (pure (some (List.filterMap _ (_ :: _))))))))  = _
  refine (if_neg fun h => absurd h (by rw [hb]; exact Bool.false_ne_true)).trans ?_
  refine (if_neg fun h => absurd (hs.symm.trans h) Bool.false_ne_true).trans ?_
  have hN : ∀ F : Expr → Option Str, F (.Name x p1) = some x → F (.Name y p2) = some y → List.filterMap F [.Name x p1, .Name y p2] = [x, y] := fun F a b => by
    rw [List.filterMap_cons_some a, List.filterMap_cons_some b, List.filterMap_nil]
  rw [hN _ ?_ ?_]
  · refine (if_neg fun h => absurd h (by rw [hxy]; exact Bool.false_ne_true)).trans ?_
    exact (if_neg fun h => absurd (hf.symm.trans h) Bool.false_ne_true).trans (if_neg fun h => absurd (hc.symm.trans h) Bool.false_ne_true)
  · exact h1
  · exact h2
noncomputable def unK0 : PV → Nat
  | .int a => a.toNat
  | _ => 0
theorem unK0_pv (k : Nat) : unK0 (.int (0 + (k : Int))) = k := by show (0 + (k : Int)).toNat = k; (first | lia | omega)
section
variable {prog : Program} {w : World} {h₀ : Heap} {n : Nat} {ρ : Loc} {σ : Store}
structure TreeCtx (h₀ : Heap) (ta aa : Addr) (td ad : FuncData) (cc P : Addr) (mg : Str → Option Value) : Prop where
  f : FnOk h₀ ta td (bodyAt Challenge.pw_ho0003_01 10)
  hs : td.scope = scopeAt Challenge.pw_ho0003_01 10
  bind : ∀ x, Binds h₀ td [x] [("words", x)]
  code : td.code = .ref cc
  hd : CodeHd h₀ cc P
  hg : h₀.Ns mainGlobals mg
  hb : h₀.BuiltinsAt mg P
  hgP : mainGlobals ≠ P
  lim : ∀ h, Ext h₀ h → h.NoLimit
  big : ∃ b o, sysModules < b ∧ h₀.get? b = some o
  add : FnOk h₀ aa ad (bodyAt Challenge.pw_ho0003_01 4)
  addS : ad.scope = scopeAt Challenge.pw_ho0003_01 4
  addB : ∀ a b : Addr, Binds h₀ ad [.loc a, .loc b] [("target", .loc a), ("source", .loc b)]
  tadd : TopIs h₀ "add_callers" (.ref aa)
  tisi : TopIs h₀ "isinstance" (.builtin "isinstance")
  ttuple : TopIs h₀ "tuple" (.type "tuple")
  tsorted : TopIs h₀ "sorted" (.builtin "sorted")
  tdict : TopIs h₀ "dict" (.type "dict")
  trange : TopIs h₀ "range" (.type "range")
  tlen : TopIs h₀ "len" (.builtin "len")
structure TreeEnv (env : Env) (cc : Addr) : Prop where
  hk : ∀ y, env.kindOf y = (scopeAt Challenge.pw_ho0003_01 10).names.lookup y
  hcs : env.cells = ([] : List (Str × Addr))
  code : env.code = .ref cc
  hint : interactive env = false
  block : env.blockKind = .function
noncomputable def treeBody : List Stmt := bodyAt Challenge.pw_ho0003_01 10
theorem tree_begins {ta aa : Addr} {td ad : FuncData} {cc P : Addr} {mg : Str → Option Value} (c : TreeCtx h₀ ta aa td ad cc P mg) {env : Env} (e : TreeEnv env cc) {wa : Addr} {W : List Wd} (ew : σ wa = some (.lst (W.map pvW))) (ok : WOk W)
    (hP : σ P = some (.raw (tabObj #[]))) {pos : Pos} {Q : PV → Store → Prop} (q : ∀ σ' b bs, BOk W bs → Less (unk σ P) σ' → (∃ ps, σ' P = some (.raw (tabObj ps))) → σ' b = some (.lst (bs.map pvW)) → Q (.loc b) σ') :
    WV prog w h₀ (n + 2) env [] (eval (match treeBody with | .Assign _ v _ :: _ => v | _ => .Constant .none 0 pos) env) [("words", .loc wa)] σ Q := by
  obtain ⟨hk, hcs, hcode, hint, hblk⟩ := e
  refine we_sorted_key (y := "one") (c := cc) (P := P) (gname c.tsorted ((hk _).trans rfl)) hcode c.hd c.hg c.hb c.hgP c.lim ((closureFor_eq (freesIn_of (by rw [hcs]; rfl))).trans (by rw [hcs]; rfl)) (by rfl) (by rfl) (by rfl) (by rfl) (plainIn_cell (by rfl)) (by rfl) (fun _ _ _ _ _ => by rfl) ?_
  refine wl_cons ?_
  refine we_call (gname c.tdict ((hk _).trans rfl)) ?_
  refine wl_cons ?_
  refine we_compb hcs [] [] W pvW unW unW_pv (fun v => (List.range (v.length + 1)).map fun k => .tup [pvW (v.take k), .int 1]) (by rfl) (by rfl) (by rfl) (SubL.nil) .nil (fun C => .nil) ?_
  have hraw : (W.flatMap fun v : Wd => (List.range (v.length + 1)).map fun k => PV.tup [pvW (v.take k), .int 1]) = ((rawB W).map fun x => (pvW x, PV.int 1)).map fun (p : PV × PV) => PV.tup [p.1, p.2] := by
    unfold rawB
    rw [List.map_map, List.map_flatMap]
    congr 1; funext v
    rw [List.map_map]; rfl
  have hlen := rawB_len ok
  refine wi_list ?_
  refine we_name (by rfl) ?_
  refine ⟨wa, W.map pvW, rfl, ew, itm_list ew, by rw [hraw, List.length_map, List.length_map]; (first | lia | omega), ?_, ?_⟩
  · intro C D hD v hv
    have hve := evr_mem.mpr (ok.fit v hv)
    refine clause_name (onlyLoc _) (storL (compKind rfl (by decide))) (by repeat (first | exact Sub.nil _ | refine Sub.cons (by rfl) ?_)) ?_
    have hr : ((List.range (v.length + 1)).map fun k => PV.tup [pvW (v.take k), .int 1]) = (List.range (v.length + 1)).flatMap fun k => [PV.tup [pvW (v.take k), .int 1]] := by rw [List.map_eq_flatMap]
    rw [hr]
    refine jel_comp (onlyLoc _) hD (List.range (v.length + 1)) (fun k => .int (0 + ((k : Nat) : Int))) unK0 unK0_pv (fun k => [.tup [pvW (v.take k), .int 1]]) rfl (asyncs_of (by rfl)) ?_
    refine wi_range (gname c.trange (compKind rfl (by decide))) ?_
    refine wl_cons ?_
    refine we_bin ?_
    refine we_call (gname c.tlen (compKind rfl (by decide))) ?_
    refine wl_cons ?_
    refine we_name (by rfl) ?_
    refine wl_nil ?_
    refine lcall_fn (lf_len_str (by rw [ws_len]; have := ok.fit v hv; (first | lia | omega)) ?_)
    refine we_int ?_
    refine lb_add_int ?_
    refine wl_nil ?_
    rw [ws_len]
    refine ⟨0, (v.length : Nat) + 1, .inl ⟨rfl, rfl⟩, by decide, by have := ok.fit v hv; (first | lia | omega), rfl, itm_range (by (first | lia | omega)), fun k hk' => ?_⟩
    have hk2 := List.mem_range.mp hk'
    have := ok.fit v hv
    refine clause_name (onlyLoc _) (storL (compKind rfl (by decide))) (by repeat (first | exact Sub.nil _ | refine Sub.cons (by rfl) ?_)) ?_
    refine jel_emit (onlyLoc _) hD rfl ?_
    refine we_tup ?_
    refine wl_cons ?_
    refine we_str_slice ?_
    refine we_name (by rfl) ?_
    refine we_part_none ?_
    refine we_part_some ?_
    refine we_name (by rfl) ?_
    refine ⟨ws v, none, some (0 + (k : Nat)), rfl, rfl, rfl, by rw [ws_len]; (first | lia | omega), ?_⟩
    rw [Int.zero_add, slice_take v hve k (by (first | lia | omega))]
    refine wl_cons ?_
    refine we_int ?_
    refine wl_nil ?_
    exact ⟨by simp, rfl, rfl⟩
  intro D hD
  rw [hraw]
  have hDP : D ≠ P := fun h => by rw [h, hP] at hD; cases hD
  refine wl_nil ?_
  refine lcall_type (lf_dict (.dv []) (.inl rfl) c.big (ps := (rawB W).map fun x => (pvW x, PV.int 1)) (upd_same _ _ _) (fun p hp => ?_) (by rw [List.length_map]; (first | lia | omega)) fun d hd => ?_)
  · obtain ⟨x, _, rfl⟩ := List.mem_map.mp hp; exact trivial
  rw [dputs_dv]
  have hkeys : (((rawB W).map fun x => (pvW x, PV.int 1)).foldl (fun (o : List (PV × PV)) (p : PV × PV) => dset o p.1 p.2) []).map (·.1) = (dedup (rawB W)).map pvW :=
    dsets_keys pvW_inj _ (rawB W) [] [] (by rw [List.map_map]; rfl) rfl
  generalize ((rawB W).map fun x => (pvW x, PV.int 1)).foldl (fun (o : List (PV × PV)) (p : PV × PV) => dset o p.1 p.2) [] = es at *
  have hdl := dedup_length (rawB W)
  have hel : es.length = (dedup (rawB W)).length := by have := congrArg List.length hkeys; rwa [List.length_map, List.length_map] at this
  have hdP : d ≠ P := fun h => by rw [h, upd_ne _ _ (Ne.symm hDP), hP] at hd; cases hd
  have hP2 : (upd (upd σ D (.lst (((rawB W).map fun x => (pvW x, PV.int 1)).map fun (p : PV × PV) => PV.tup [p.1, p.2]))) d (.dv es)) P = some (.raw (tabObj #[])) := by
    rw [upd_ne _ _ (Ne.symm hdP), upd_ne _ _ (Ne.symm hDP)]; exact hP
  have hd2 : (upd (upd σ D (.lst (((rawB W).map fun x => (pvW x, PV.int 1)).map fun (p : PV × PV) => PV.tup [p.1, p.2]))) d (.dv es)) d = some (.dv es) := upd_same _ _ _
  have l2 : Less σ (upd (upd σ D (.lst (((rawB W).map fun x => (pvW x, PV.int 1)).map fun (p : PV × PV) => PV.tup [p.1, p.2]))) d (.dv es)) := (Less.upd_free hD).free hd
  refine wl_nil ⟨hP2, .loc d, (dedup (rawB W)).map pvW, keyB, .tup [.int, .str], rfl, rfl, by decide, fun o => ?_, by rw [List.length_map]; (first | lia | omega), fun z hz => ?_, fun z hz h1 env' hx hk' => ?_, fun ys ps hs c' hcP hc' => ?_⟩
  · have := collects_dv (prog := prog) (w := w) (h₀ := h₀) (σ := upd (upd (upd σ D (.lst (((rawB W).map fun x => (pvW x, PV.int 1)).map fun (p : PV × PV) => PV.tup [p.1, p.2]))) d (.dv es)) P (.raw o)) (d := d) (es := es) (by rw [upd_ne _ _ hdP]; exact hd2) (by (first | lia | omega))
    rw [hkeys] at this
    exact this
  · obtain ⟨x, _, rfl⟩ := List.mem_map.mp hz
    exact ⟨trivial, trivial, trivial⟩
  · obtain ⟨x, hx', rfl⟩ := List.mem_map.mp hz
    have hxl : x.length ≤ 3 := by
      obtain ⟨v, hv⟩ := rawB_mem.mp (dedup_mem.mp hx')
      have := ok.fit _ hv
      rw [List.length_append] at this; (first | lia | omega)
    refine we_tup ?_
    refine wl_cons ?_
    refine we_bin ?_
    refine we_int ?_
    refine we_call (gname (c.tlen.mono hx) ((hk' _).trans rfl)) ?_
    refine wl_cons ?_
    refine we_name (by rfl) ?_
    refine wl_nil ?_
    refine lcall_fn (lf_len_str (by rw [ws_len]; (first | lia | omega)) ?_)
    refine lb_sub_int ?_
    refine wl_cons ?_
    refine we_name (by rfl) ?_
    refine wl_nil ?_
    exact ⟨by simp, rfl, rfl⟩
  · obtain ⟨bs, rfl, hb⟩ := sortBy_bok ok hs
    refine q _ c' bs hb ?_ ⟨ps, by rw [upd_ne _ _ (Ne.symm hcP), upd_same]⟩ (upd_same _ _ _)
    have l3 := (unk_less σ P).trans l2
    intro a x ea
    have hne : a ≠ P := fun h => by rw [h, unk, if_pos rfl] at ea; cases ea
    obtain ⟨x2, h1, h2⟩ := l3 a x ea
    have hac : a ≠ c' := fun h => by rw [h, hc'] at h1; cases h1
    exact ⟨x2, by rw [upd_ne _ _ hac, upd_ne _ _ hne]; exact h1, h2⟩
end
end Mine.Internal
end

section
namespace Mine.Internal

noncomputable def TK : Ty := .tup [.str, .int, .str]
noncomputable def keyK (p : Bool × Nat) : PV := .tup [pvW [p.1], .int p.2, .str "leads"]
noncomputable def encT (p : Bool × Nat) : PV × PV := (keyK p, .int 1)
noncomputable def encK (p : Bool × Nat) : PV := .tup [keyK p, .int 1]
noncomputable def encN (p : Wd × Nat) : PV × PV := (pvW p.1, .int p.2)
theorem pairs_encT (ks : List (Bool × Nat)) : pairsOf' (ks.map encT) = ks.map encK := by unfold pairsOf'; rw [List.map_map]; rfl
theorem keyK_ty (p : Bool × Nat) : HasTy TK (keyK p) ∧ Hsh 3 (keyK p) := ⟨⟨trivial, trivial, trivial, trivial⟩, ⟨trivial, trivial, trivial, trivial⟩⟩
theorem encT_keys (ks : List (Bool × Nat)) : KeysT TK (ks.map encT) := fun p hp => by
  obtain ⟨k, _, rfl⟩ := List.mem_map.mp hp
  exact ⟨_, rfl, (keyK_ty k).1, (keyK_ty k).2⟩
theorem encT_vals (ks : List (Bool × Nat)) : IntVals (ks.map encT) := fun p hp => by
  obtain ⟨k, _, rfl⟩ := List.mem_map.mp hp
  exact ⟨1, rfl⟩
theorem beq_pvW (u v : Wd) : PV.beq (pvW u) (pvW v) = (u == v) := by
  rw [Bool.eq_iff_iff, PV.beq_iff, beq_iff_eq]
  exact ⟨pvW_inj u v, fun h => by rw [h]⟩
theorem dget_names (nm : List (Wd × Nat)) (v : Wd) : dget (nm.map encN) (pvW v) = (nm.lookup v).map fun j => PV.int (j : Nat) := by
  unfold dget
  induction nm with
  | nil => rfl
  | cons p r ih =>
    obtain ⟨a, j⟩ := p
    rw [List.map_cons, List.find?_cons, List.lookup_cons]
    show Option.map (·.2) (match PV.beq (pvW a) (pvW v) with | true => some (pvW a, PV.int (j : Nat)) | false => _) = _
    rw [beq_pvW, show (a == v) = (v == a) from BEq.comm]
    cases v == a
    · exact ih
    · rfl
noncomputable def kidsAt (nm : List (Wd × Nat)) (u : Wd) (i : Nat) : List (Bool × Nat) := (([false, true] : List Bool).take i).filterMap fun b => (nm.lookup (u ++ [b])).map fun j => (b, j)
theorem kidsAt_all (nm : List (Wd × Nat)) (u : Wd) : kidsAt nm u 2 = kids nm u := rfl
theorem letter_at : ∀ i < 2, ∃ b, ([false, true] : List Bool)[i]? = some b ∧ ("ab" : Str).cps[i]? = some (chr b) := by decide
theorem kidsAt_succ {nm : List (Wd × Nat)} {u : Wd} {i : Nat} {b : Bool} (hb : ([false, true] : List Bool)[i]? = some b) : kidsAt nm u (i + 1) = kidsAt nm u i ++ (match nm.lookup (u ++ [b]) with | some j => [(b, j)] | none => []) := by
  unfold kidsAt
  rw [List.take_add_one, hb, List.filterMap_append]
  congr 1
  show List.filterMap _ [b] = _
  cases h : nm.lookup (u ++ [b]) with
  | none => rw [List.filterMap_cons_none (by rw [h]; rfl)]; rfl
  | some j => rw [List.filterMap_cons_some (b := (b, j)) (by rw [h]; rfl)]; rfl
theorem kidsAt_new {nm : List (Wd × Nat)} {u : Wd} {i : Nat} {b : Bool} (hi : i < 2) (hb : ([false, true] : List Bool)[i]? = some b) (j : Nat) : addTab ((kidsAt nm u i).map encT) [encT (b, j)] = (kidsAt nm u i ++ [(b, j)]).map encT := by
  have : i = 0 ∨ i = 1 := by (first | lia | omega)
  rcases this with rfl | rfl
  · cases hb; rfl
  · cases hb
    unfold kidsAt
    simp only [List.take_succ_cons, List.take_zero, List.filterMap_cons, List.filterMap_nil]
    cases nm.lookup (u ++ [false]) with
    | none => rfl
    | some j0 => rfl
theorem kidsAt_len (nm : List (Wd × Nat)) (u : Wd) (i : Nat) : (kidsAt nm u i).length ≤ 2 := by
  unfold kidsAt
  refine Nat.le_trans (List.length_filterMap_le ..) ?_
  rw [List.length_take]; exact Nat.min_le_right ..
theorem if_bool_true {b : Bool} {X Y : Prop} (h : b = true) (x : X) : if b = true then X else Y := by rw [h]; exact x
theorem if_bool_false {b : Bool} {X Y : Prop} (h : b = false) (y : Y) : if b = true then X else Y := by rw [h]; exact y
noncomputable def treeLoc (b N R wa : Addr) : Loc := [("names", .loc N), ("rows", .loc R), ("begins", .loc b), ("words", .loc wa)]
noncomputable def turnBody : List Stmt := match treeBody with | _ :: _ :: .For _ _ b _ _ :: _ => b | _ => []
section
variable {prog : Program} {w : World} {h₀ : Heap} {n : Nat} {ρ : Loc} {σ : Store}
theorem tree_kids {ta aa : Addr} {td ad : FuncData} {cc P : Addr} {mg : Str → Option Value} (c : TreeCtx h₀ ta aa td ad cc P mg) {env : Env} (e : TreeEnv env cc) {b N R wa : Addr} {u : Wd} {nm : List (Wd × Nat)} (hu : u.length ≤ 3)
    (hN : σ N = some (.dv (nm.map encN))) {Q : PFlow → Loc → Store → Prop}
    (q : ∀ σ' tb, Less σ σ' → σ' tb = some (.dt TK ((kids nm u).map encT)) → WS prog w h₀ (n + 2) env (execs (turnBody.drop 2) env) (("table", .loc tb) :: ("begun", pvW u) :: treeLoc b N R wa) σ' Q) :
    WS prog w h₀ (n + 2) env (execs turnBody env) (("begun", pvW u) :: treeLoc b N R wa) σ Q := by
  obtain ⟨hk, hcs, hcode, hint, hblk⟩ := e
  have st : ∀ y, (scopeAt Challenge.pw_ho0003_01 10).names.lookup y = some .local → Stor env y := fun y h => .inl ((hk y).trans h)
  unfold treeLoc
  refine ws_cons ?_
  refine ws_assign (st _ rfl) ?_
  refine we_dict0_dt TK c.big fun t0 ht0 => ?_
  refine ws_cons ?_
  refine ws_for_str ?_
  refine we_str ?_
  refine ⟨"ab", rfl, by rw [show ("ab" : Str).cps = #[97, 98] from rfl]; simp, fun i ρ' σ' => ∃ tb, ρ' = (("table" : Str), .loc tb) :: ("begun", pvW u) :: treeLoc b N R wa ∧ Less σ σ' ∧ σ' tb = some (.dt TK ((kidsAt nm u i).map encT)), ⟨t0, rfl, Less.upd_free ht0, upd_same _ _ _⟩, fun ρ' σ' h => ?_, fun i ch ρ' σ' hi hc h => ?_⟩
  · obtain ⟨tb, rfl, l, et⟩ := h
    exact q σ' tb l et
  · obtain ⟨tb, rfl, l, et⟩ := h
    obtain ⟨bb, hb, hcb⟩ := letter_at i hi
    rw [hcb] at hc; cases hc
    have hN' := l.dv hN
    refine turn_name (st _ rfl) fun Q1 q1 _ => ?_
    unfold treeLoc
    have hl := kidsAt_len nm u i
    refine ws_cons ?_
    refine ws_if ?_
    refine wt_cmp ?_
    refine we_bin ?_
    refine we_name (by rfl) ?_
    refine we_name (by rfl) ?_
    refine lb_add_str (by rw [ws_len]; show _ + 1 ≤ _; (first | lia | omega)) ?_
    refine we_name (by rfl) ?_
    refine ⟨_, lc_in_dv hN' trivial, ?_⟩
    rw [ws_one, ws_app, ← dget_isSome]
    rw [show dget (nm.map encN) (.str (ws (u ++ [bb]))) = _ from dget_names nm (u ++ [bb])]
    have e1 := kidsAt_succ (nm := nm) (u := u) hb
    cases hlk : nm.lookup (u ++ [bb]) with
    | none =>
      rw [hlk, List.append_nil] at e1
      refine if_bool_false rfl (ws_nil (ws_nil (q1 _ _ _ ?_ ⟨tb, rfl, l, by rw [e1]; exact et⟩)))
      unfold treeLoc
      repeat (first | exact Sub.nil _ | refine Sub.cons (by rfl) ?_)
    | some j =>
      rw [hlk] at e1
      refine if_bool_true rfl ?_
      refine ws_cons ?_
      refine ws_assign (st _ rfl) ?_
      refine we_call (gname c.tadd ((hk _).trans rfl)) ?_
      refine wl_cons ?_
      refine we_name (by rfl) ?_
      refine wl_cons ?_
      refine we_dict1 TK c.big fun d hd => ?_
      have hN2 := upd_old (o' := .dt TK []) hN' hd
      refine we_tup ?_
      refine wl_cons ?_
      refine we_name (by rfl) ?_
      refine wl_cons ?_
      refine we_sub ?_
      refine we_name (by rfl) ?_
      refine we_bin ?_
      refine we_name (by rfl) ?_
      refine we_name (by rfl) ?_
      refine lb_add_str (by rw [ws_len]; show _ + 1 ≤ _; (first | lia | omega)) ?_
      rw [ws_app]
      refine ⟨.int j, lg_dv hN2 trivial ((dget_names nm (u ++ [bb])).trans (by rw [hlk]; rfl)), ?_⟩
      refine wl_cons ?_
      refine we_str ?_
      refine wl_nil ?_
      refine ⟨by simp, ?_⟩
      refine we_int ?_
      refine ⟨_, rfl, (keyK_ty (bb, j)).1, (keyK_ty (bb, j)).2, upd_same _ _ _, ?_⟩
      refine wl_nil ?_
      rw [upd_upd]
      have ed : (upd σ' d (.dt TK [(keyK (bb, j), .int 1)])) d = some (.dt TK ([(bb, j)].map encT)) := upd_same _ _ _
      have et2 := upd_old (o' := .dt TK [(keyK (bb, j), .int 1)]) et hd
      have l2 := l.free (o := .dt TK [(keyK (bb, j), .int 1)]) hd
      show LCall prog w h₀ (n + 2) (.ref aa) [] [.loc tb, .loc d] (upd σ' d (.dt TK [(keyK (bb, j), .int 1)])) _
      generalize upd σ' d (.dt TK [(keyK (bb, j), .int 1)]) = σ3 at *
      refine add_spec c.add c.addS c.big c.tisi c.ttuple et2 ed (encT_keys _) (encT_keys _) (encT_vals _) (encT_vals _) (by rw [List.length_map]; (first | lia | omega)) (by simp) (c.addB _ _) fun c3 hc3 => ?_
      rw [List.map_cons, List.map_nil, kidsAt_new hi hb]
      refine ws_nil (ws_nil (q1 _ _ _ ?_ ⟨c3, rfl, l2.free hc3, by rw [e1]; exact upd_same _ _ _⟩))
      unfold treeLoc
      repeat (first | exact Sub.nil _ | refine Sub.cons (by rfl) ?_)
end
end Mine.Internal
end

section
namespace Mine.Internal

theorem encK_inj (a b : Bool × Nat) (h : encK a = encK b) : a = b := by
  unfold encK keyK at h
  simp only [PV.tup.injEq, List.cons.injEq, PV.int.injEq, and_true, true_and] at h
  obtain ⟨h1, h2⟩ := h
  have h3 := pvW_inj _ _ h1
  exact Prod.ext (by simpa using h3) (by (first | lia | omega))
theorem map_encK_inj : ∀ {a b : List (Bool × Nat)}, a.map encK = b.map encK → a = b
  | [], [], _ => rfl
  | [], _ :: _, h => nomatch h
  | _ :: _, [], h => nomatch h
  | x :: a, y :: b, h => by
    rw [List.map_cons, List.map_cons] at h
    injection h with h1 h2
    rw [encK_inj x y h1, map_encK_inj h2]
noncomputable def TP : Ty := .tup [TK, .int]
theorem encK_ty (p : Bool × Nat) : HasTy TP (encK p) := ⟨⟨trivial, trivial, trivial, trivial⟩, trivial, trivial⟩
theorem encK_all : ∀ ks : List (Bool × Nat), AllTy TP (ks.map encK)
  | [] => trivial
  | p :: ks => ⟨encK_ty p, encK_all ks⟩
theorem kids_sorted (nm : List (Wd × Nat)) (u : Wd) : ((kids nm u).map encK).Pairwise fun a b => PV.lt b a = false := by
  unfold kids
  simp only [List.filterMap_cons, List.filterMap_nil]
  cases nm.lookup (u ++ [false]) <;> cases nm.lookup (u ++ [true]) <;> first | exact .nil | exact List.pairwise_singleton .. | skip
  refine .cons (fun y hy => ?_) (List.pairwise_singleton ..)
  change y ∈ [encK (true, _)] at hy
  rw [List.mem_singleton] at hy
  subst hy
  rfl
theorem sortOf_id {xs ys : List PV} {T : Ty} (hT : T.ord = true) (hx : ∀ x ∈ xs, HasTy T x) (h : xs.Pairwise fun a b => PV.lt b a = false) (s : SortOf xs ys) : ys = xs :=
  sorted_unique (fun a ha b hb h1 h2 => lt_total a b (HasTy.ord T _ _ hT (hx a (s.1.mem_iff.mp ha)) (hx b (s.1.mem_iff.mp hb))) h1 h2) s.1 s.2 h
abbrev RowAt := Row × Addr
noncomputable def rowPV (x : RowAt) : PV := .tup [.bool x.1.1, .loc x.2]
noncomputable def rowsPV (rl : List RowAt) : List PV := rl.map rowPV
noncomputable def lstOf (σ : Store) (L : Addr) : List PV := match σ L with | some (.lst xs) => xs | _ => []
noncomputable def isRow (σ : Store) (row : Row) : PV → Bool
  | .tup [.bool b, .loc L] => PV.beq (.bool b) (.bool row.1) && PV.beqs (lstOf σ L) (row.2.map encK)
  | _ => false
theorem isRow_eq {σ : Store} {row : Row} {x : RowAt} (h : σ x.2 = some (.lst (x.1.2.map encK))) : isRow σ row (rowPV x) = decide (x.1 = row) := by
  show (PV.beq (.bool x.1.1) (.bool row.1) && PV.beqs (lstOf σ x.2) (row.2.map encK)) = _
  unfold lstOf
  rw [h, Bool.eq_iff_iff, Bool.and_eq_true, PV.beq_iff, PV.beqs_iff, decide_eq_true_iff]
  constructor
  · rintro ⟨h1, h2⟩
    exact Prod.ext (by injection h1) (map_encK_inj h2)
  · intro h; rw [h]; exact ⟨rfl, rfl⟩
theorem rows_apart (rl : List RowAt) : Apart1 (rowsPV rl) := fun h v x x' hx hx' i i' => by
  obtain ⟨y, _, rfl⟩ := List.mem_map.mp hx
  obtain ⟨y', _, rfl⟩ := List.mem_map.mp hx'
  unfold rowPV at *
  cases i with | tup t a => cases i' with | tup t' a' => 
  have e := t.symm.trans t'
  simp only [Option.some.injEq, Obj.mk.injEq, Data.seq.injEq, true_and, and_true] at e
  have e' := congrArg Array.toList e.1
  simp only at e'
  subst e'
  obtain ⟨v1, v2, rfl, a1, a2⟩ := a.two
  obtain ⟨w1, w2, e2, b1, b2⟩ := a'.two
  cases e2
  have e3 : y.1.1 = y'.1.1 := by
    have := Is.simEq (y := .bool y'.1.1) a1 b1 trivial
    injection this
  have e4 : y.2 = y'.2 := by
    generalize y.2 = l at a2
    generalize y'.2 = l' at b2
    cases a2; cases b2; rfl
  rw [e3, e4]
theorem any_isRow {σ : Store} {row : Row} : ∀ {rl : List RowAt}, (∀ x ∈ rl, σ x.2 = some (.lst (x.1.2.map encK))) → (rowsPV rl).any (isRow σ row) = decide (row ∈ rl.map (·.1))
  | [], _ => rfl
  | x :: rl, h => by
    have ih := any_isRow (row := row) fun y hy => h y (.tail _ hy)
    unfold rowsPV at ih ⊢
    rw [List.map_cons, List.any_cons, ih, isRow_eq (h x (.head _)), Bool.eq_iff_iff, Bool.or_eq_true, decide_eq_true_iff, decide_eq_true_iff, decide_eq_true_iff, List.map_cons, List.mem_cons]
    exact or_congr eq_comm Iff.rfl
theorem deeps_encK (ks : List (Bool × Nat)) : PV.deeps (ks.map encK) ≤ 50 := Nat.le_trans (AllTy.deep TP _ (encK_all ks)) (by decide)
theorem any_pvW (W : List Wd) (u : Wd) : (W.map pvW).any (PV.beq · (pvW u)) = decide (u ∈ W) := by
  rw [Bool.eq_iff_iff, List.any_eq_true, decide_eq_true_iff]
  constructor
  · rintro ⟨x, hx, hb⟩
    obtain ⟨t, ht, rfl⟩ := List.mem_map.mp hx
    rw [← pvW_inj _ _ ((PV.beq_iff _ _).mp hb)]; exact ht
  · intro h; exact ⟨_, List.mem_map_of_mem h, (PV.beq_iff _ _).mpr rfl⟩
theorem pvW_all (W : List Wd) : ∀ y ∈ W.map pvW, HasTy .str y := fun y hy => by
  obtain ⟨l, _, rfl⟩ := List.mem_map.mp hy; exact trivial
theorem dset_names {nm : List (Wd × Nat)} {u : Wd} (h : u ∉ nm.map (·.1)) (j : Nat) : dset (nm.map encN) (pvW u) (.int j) = (nm ++ [(u, j)]).map encN := by
  unfold dset
  rw [if_neg]
  · rw [List.map_append]; rfl
  · intro ha
    obtain ⟨e, he, hb⟩ := List.any_eq_true.mp ha
    obtain ⟨p, hp, rfl⟩ := List.mem_map.mp he
    exact h (List.mem_map.mpr ⟨p, hp, pvW_inj _ _ ((PV.beq_iff _ _).mp hb)⟩)
section
variable {prog : Program} {w : World} {h₀ : Heap} {n : Nat} {ρ : Loc} {σ : Store}
theorem eq_row {row : Row} {L : Addr} {x : RowAt} (h : σ x.2 = some (.lst (x.1.2.map encK))) (hL : σ L = some (.lst (row.2.map encK))) : EqOK prog w h₀ 71 σ (rowPV x) (rowPV (row, L)) (isRow σ row (rowPV x)) := by
  have e : isRow σ row (rowPV x) = (PV.beq (.bool x.1.1) (.bool row.1) && PV.beqs (x.1.2.map encK) (row.2.map encK)) := by
    show (PV.beq (.bool x.1.1) (.bool row.1) && PV.beqs (lstOf σ x.2) (row.2.map encK)) = _
    unfold lstOf; rw [h]
  rw [e]
  exact eqok_pair (eqok_sim (Nat.zero_le _) trivial) (eqok_list h hL (deeps_encK _) (AllTy.sim TP _ _ (encK_all _) (encK_all _)))
end
end Mine.Internal
end

section
namespace Mine.Internal

theorem row_at {rl : List RowAt} {m : Nat} (hm : m < (rowsPV rl).length) : ∃ x ∈ rl, (rowsPV rl)[m] = rowPV x ∧ (rl.map (·.1))[m]? = some x.1 := by
  have h : m < rl.length := by unfold rowsPV at hm; rwa [List.length_map] at hm
  refine ⟨rl[m], List.getElem_mem h, ?_, ?_⟩
  · exact List.getElem_map ..
  · rw [List.getElem?_map, List.getElem?_eq_getElem h]; rfl
theorem idx_row {l : List Row} {r : Row} {x : Row} {m : Nat} (hx : l[m]? = some x) (hm : m < l.idxOf r) : x ≠ r := fun e => by
  obtain ⟨h, e2⟩ := List.getElem?_eq_some_iff.mp hx
  have := List.not_of_lt_findIdx (p := (· == r)) (xs := l) (i := m) hm
  rw [e2, e] at this
  simp at this
section
variable {prog : Program} {w : World} {h₀ : Heap} {n : Nat} {ρ : Loc} {σ : Store}
theorem tree_name {ta aa : Addr} {td ad : FuncData} {cc P : Addr} {mg : Str → Option Value} (c : TreeCtx h₀ ta aa td ad cc P mg) {env : Env} (e : TreeEnv env cc) {b N R wa tb L : Addr} {u : Wd} {nm : List (Wd × Nat)} {rl : List RowAt} {row : Row} {Q : PFlow → Loc → Store → Prop}
    (hun : u ∉ nm.map (·.1)) (hln : nm.length ≤ 1000) (hlr : rl.length ≤ 1000) (hL : σ L = some (.lst (row.2.map encK))) (eN : σ N = some (.dv (nm.map encN))) (eR : σ R = some (.lst (rowsPV rl))) (hr : ∀ x ∈ rl, σ x.2 = some (.lst (x.1.2.map encK))) (hin : row ∈ rl.map (·.1))
    (q : ∀ ρ', Sub (treeLoc b N R wa) ρ' → Q .next ρ' (upd σ N (.dv ((nm ++ [(u, (rl.map (·.1)).idxOf row)]).map encN)))) :
    WS prog w h₀ (n + 2) env (execs (turnBody.drop 4) env) (("row", rowPV (row, L)) :: ("table", .loc tb) :: ("begun", pvW u) :: treeLoc b N R wa) σ Q := by
  obtain ⟨hk, hcs, hcode, hint, hblk⟩ := e
  have st : ∀ y, (scopeAt Challenge.pw_ho0003_01 10).names.lookup y = some .local → Stor env y := fun y h => .inl ((hk y).trans h)
  unfold treeLoc at *
  have hj := List.idxOf_lt_length_of_mem hin
  have hlen : (rl.map (·.1)).length = (rowsPV rl).length := by unfold rowsPV; rw [List.length_map, List.length_map]
  have hlen2 : (rowsPV rl).length = rl.length := by unfold rowsPV; rw [List.length_map]
  refine ws_cons ?_
  refine ws_set ?_
  refine we_method ?_
  refine we_name (by rfl) ?_
  refine ⟨_, meth_list eR PySem.F.plainAttrs_list PySem.F.slot_list_index, ?_⟩
  refine wl_cons ?_
  refine we_name (by rfl) ?_
  refine wl_nil ?_
  refine lc_index_rows eR (by (first | lia | omega)) (isRow σ row) (fun x hx => ?_) (rows_apart rl) (j := (rl.map (·.1)).idxOf row) (by (first | lia | omega)) ?_ (fun m hm hlt => ?_) ?_
  · obtain ⟨y, hy, rfl⟩ := List.mem_map.mp hx
    exact eq_row (hr y hy) hL
  · obtain ⟨x, hx, e1, e2⟩ := row_at (rl := rl) (m := (rl.map (·.1)).idxOf row) (by (first | lia | omega))
    rw [e1, isRow_eq (hr x hx)]
    have h := List.getElem?_eq_getElem hj
    rw [e2, List.getElem_idxOf] at h
    exact decide_eq_true (Option.some.inj h)
  · obtain ⟨x, hx, e1, e2⟩ := row_at (rl := rl) hm
    rw [e1, isRow_eq (hr x hx)]
    exact decide_eq_false (idx_row e2 hlt)
  refine we_name (by rfl) ?_
  refine we_name (by rfl) ?_
  refine ls_dv eN trivial (by rw [List.length_map]; (first | lia | omega)) (ws_nil ?_)
  rw [dset_names hun]
  refine q _ ?_
  repeat (first | exact Sub.nil _ | refine Sub.cons (by rfl) ?_)
theorem tree_row {ta aa : Addr} {td ad : FuncData} {cc P : Addr} {mg : Str → Option Value} (c : TreeCtx h₀ ta aa td ad cc P mg) {env : Env} (e : TreeEnv env cc) {b N R wa tb : Addr} {u : Wd} {W : List Wd} {nm : List (Wd × Nat)} {rl : List RowAt} {Q : PFlow → Loc → Store → Prop}
    (hun : u ∉ nm.map (·.1)) (hln : nm.length ≤ 1000) (hlr : rl.length ≤ 900) (ew : σ wa = some (.lst (W.map pvW))) (et : σ tb = some (.dt TK ((kids nm u).map encT))) (eN : σ N = some (.dv (nm.map encN))) (eR : σ R = some (.lst (rowsPV rl))) (hr : ∀ x ∈ rl, σ x.2 = some (.lst (x.1.2.map encK)) ∧ x.2 ≠ R)
    (q : ∀ ρ' σ' rl', Sub (treeLoc b N R wa) ρ' → Less (unk (unk σ N) R) σ' → σ' N = some (.dv ((nm ++ [(u, (rl'.map (·.1)).idxOf (rowOf W nm u))]).map encN)) → σ' R = some (.lst (rowsPV rl')) → rl'.map (·.1) = rowsStep (rl.map (·.1)) (rowOf W nm u) → (∀ x ∈ rl', σ' x.2 = some (.lst (x.1.2.map encK)) ∧ x.2 ≠ R) → Q .next ρ' σ') :
    WS prog w h₀ (n + 2) env (execs (turnBody.drop 2) env) (("table", .loc tb) :: ("begun", pvW u) :: treeLoc b N R wa) σ Q := by
  have e' := e
  obtain ⟨hk, hcs, hcode, hint, hblk⟩ := e
  have st : ∀ y, (scopeAt Challenge.pw_ho0003_01 10).names.lookup y = some .local → Stor env y := fun y h => .inl ((hk y).trans h)
  have hkl : (kids nm u).length ≤ 2 := by rw [← kidsAt_all]; exact kidsAt_len nm u 2
  have hNR : N ≠ R := fun h => by rw [h, eR] at eN; cases eN
  refine ws_cons ?_
  refine ws_assign (st _ rfl) ?_
  refine we_tup ?_
  refine wl_cons ?_
  refine we_cmp ?_
  refine we_name (by rfl) ?_
  refine we_name (by rfl) ?_
  refine ⟨_, lc_in_list .str ew (pvW_all W) trivial (by decide), ?_⟩
  rw [any_pvW]
  refine wl_cons ?_
  refine we_call (gname c.tsorted ((hk _).trans rfl)) ?_
  refine wl_cons ?_
  refine we_method ?_
  refine we_name (by rfl) ?_
  refine ⟨_, meth_dt et PySem.F.plainAttrs_dict PySem.F.slot_dict_items, ?_⟩
  refine wl_nil ?_
  refine lc_items et fun v hv => ?_
  refine wl_nil ?_
  have et2 := upd_old (o' := .raw { cls := .type "dict_items", data := .fields #[.ref tb] }) et hv
  refine lcall_fn (lf_sorted TP (by decide) (by decide) (collects_items (upd_same _ _ _) et2 (by rw [List.length_map]; (first | lia | omega))) (fun y hy => ?_) (by rw [pairs_encT, List.length_map]; (first | lia | omega)) fun ys hs L hL => ?_)
  · rw [pairs_encT] at hy
    exact AllTy.iff.mp (encK_all _) y hy
  rw [pairs_encT] at hs
  have hys := sortOf_id (T := TP) (by decide) (AllTy.iff.mp (encK_all _)) (kids_sorted nm u) hs
  subst hys
  refine wl_nil ?_
  refine ⟨by simp, ?_⟩
  have l1 : Less σ (upd (upd σ v (.raw { cls := .type "dict_items", data := .fields #[.ref tb] })) L (.lst ((kids nm u).map encK))) := (Less.upd_free hv).free hL
  have eN1 := upd_old (o' := .lst ((kids nm u).map encK)) (upd_old (o' := .raw { cls := .type "dict_items", data := .fields #[.ref tb] }) eN hv) hL
  have eR1 := upd_old (o' := .lst ((kids nm u).map encK)) (upd_old (o' := .raw { cls := .type "dict_items", data := .fields #[.ref tb] }) eR hv) hL
  have eL1 : (upd (upd σ v (.raw { cls := .type "dict_items", data := .fields #[.ref tb] })) L (.lst ((kids nm u).map encK))) L = some (.lst ((kids nm u).map encK)) := upd_same _ _ _
  have hLR : L ≠ R := fun h => by rw [h, upd_old eR hv] at hL; cases hL
  generalize upd (upd σ v (.raw { cls := .type "dict_items", data := .fields #[.ref tb] })) L (.lst ((kids nm u).map encK)) = σ1 at *
  have hr1 : ∀ x ∈ rl, σ1 x.2 = some (.lst (x.1.2.map encK)) ∧ x.2 ≠ R := fun x hx => ⟨l1.lst (hr x hx).1, (hr x hx).2⟩
  have fin : ∀ σ2 rl', Less (unk σ1 R) σ2 → σ2 N = some (.dv (nm.map encN)) → σ2 R = some (.lst (rowsPV rl')) → rl'.map (·.1) = rowsStep (rl.map (·.1)) (rowOf W nm u) → (∀ x ∈ rl', σ2 x.2 = some (.lst (x.1.2.map encK)) ∧ x.2 ≠ R) → ∀ ρ', Sub (treeLoc b N R wa) ρ' → Q .next ρ' (upd σ2 N (.dv ((nm ++ [(u, (rl'.map (·.1)).idxOf (rowOf W nm u))]).map encN))) := fun σ2 rl' l2 n2 r2 e2 h2 ρ' hs' => by
    refine q ρ' _ rl' hs' (fun a x ea => ?_) (upd_same _ _ _) (by rw [upd_ne _ _ (Ne.symm hNR)]; exact r2) e2 fun x hx => ⟨?_, (h2 x hx).2⟩
    · have haR : a ≠ R := fun h => by rw [h, unk, if_pos rfl] at ea; cases ea
      rw [unk_ne haR] at ea
      have haN : a ≠ N := fun h => by rw [h, unk, if_pos rfl] at ea; cases ea
      rw [unk_ne haN] at ea
      obtain ⟨x1, h1, k1⟩ := l1 a x ea
      obtain ⟨x2, h2, k2⟩ := l2 a x1 ((unk_ne haR).trans h1)
      exact ⟨x2, by rw [upd_ne _ _ haN]; exact h2, k1.trans k2⟩
    · have hxN : x.2 ≠ N := fun h => by have := (h2 x hx).1; rw [h, n2] at this; cases this
      rw [upd_ne _ _ hxN]; exact (h2 x hx).1
  refine ws_cons ?_
  refine ws_if ?_
  refine wt_cmp ?_
  refine we_name (by rfl) ?_
  refine we_name (by rfl) ?_
  refine ⟨_, lc_notin_rows eR1 (isRow σ1 (rowOf W nm u)) (fun x hx => ?_) (rows_apart rl), ?_⟩
  · obtain ⟨y, hy, rfl⟩ := List.mem_map.mp hx
    exact eq_row (row := rowOf W nm u) (hr1 y hy).1 eL1
  rw [any_isRow fun x hx => (hr1 x hx).1]
  by_cases hin : rowOf W nm u ∈ rl.map (·.1)
  · refine if_bool_false (by rw [decide_eq_true hin]; rfl) (ws_nil ?_)
    exact tree_name c e' hun hln (by (first | lia | omega)) (row := rowOf W nm u) eL1 eN1 eR1 (fun x hx => (hr1 x hx).1) hin (fin σ1 rl (unk_less _ _) eN1 eR1 (by unfold rowsStep; rw [if_pos hin]) hr1)
  · refine if_bool_true (by rw [decide_eq_false hin]; rfl) ?_
    refine ws_cons ?_
    refine ws_expr ?_ hint
    refine we_method ?_
    refine we_name (by rfl) ?_
    refine ⟨_, meth_list eR1 PySem.F.plainAttrs_list PySem.F.slot_list_append, ?_⟩
    refine wl_cons ?_
    refine we_name (by rfl) ?_
    refine wl_nil ?_
    refine lc_append eR1 (by unfold rowsPV; rw [List.length_map]; (first | lia | omega)) ⟨rfl, ws_nil ?_⟩
    have eRs : rowsPV rl ++ [rowPV (rowOf W nm u, L)] = rowsPV (rl ++ [(rowOf W nm u, L)]) := by unfold rowsPV; rw [List.map_append]; rfl
    have h3 : ∀ x ∈ rl ++ [(rowOf W nm u, L)], (upd σ1 R (.lst (rowsPV (rl ++ [(rowOf W nm u, L)])))) x.2 = some (.lst (x.1.2.map encK)) ∧ x.2 ≠ R := fun x hx => by
      rcases List.mem_append.mp hx with h | h
      · exact ⟨by rw [upd_ne _ _ (hr1 x h).2]; exact (hr1 x h).1, (hr1 x h).2⟩
      · rw [List.mem_singleton.mp h]
        exact ⟨by rw [upd_ne _ _ hLR]; exact eL1, hLR⟩
    have eN3 : (upd σ1 R (.lst (rowsPV (rl ++ [(rowOf W nm u, L)])))) N = some (.dv (nm.map encN)) := by rw [upd_ne _ _ hNR]; exact eN1
    have m3 : (rl ++ [(rowOf W nm u, L)]).map (·.1) = rowsStep (rl.map (·.1)) (rowOf W nm u) := by unfold rowsStep; rw [if_neg hin, List.map_append]; rfl
    show WS prog w h₀ (n + 2) env (execs (turnBody.drop 4) env) (("row", rowPV (rowOf W nm u, L)) :: ("table", .loc tb) :: ("begun", pvW u) :: treeLoc b N R wa) (upd σ1 R (.lst (rowsPV rl ++ [rowPV (rowOf W nm u, L)]))) Q
    rw [eRs]
    refine tree_name c e' hun hln (by rw [List.length_append, List.length_singleton]; (first | lia | omega)) (row := rowOf W nm u) (by rw [upd_ne _ _ hLR]; exact eL1) eN3 (upd_same _ _ _) (fun x hx => (h3 x hx).1) (by rw [m3]; unfold rowsStep; rw [if_neg hin]; exact List.mem_append_right _ (.head _)) ?_
    exact fin _ _ ((unk_less _ _).unkUpd _) eN3 (upd_same _ _ _) m3 h3
end
end Mine.Internal
end

section
namespace Mine.Internal

theorem Less.unkOff {τ σ : Store} {a : Addr} (l : Less τ σ) (h : τ a = none) : Less τ (unk σ a) := fun b x e => by
  have hb : b ≠ a := fun q => by rw [q, h] at e; cases e
  rw [unk_ne hb]; exact l b x e
theorem treeAt_keys {W bs : List Wd} (ok : WOk W) (b : BOk W bs) (i : Nat) : (treeAt W (bs.take i)).1.map (·.1) = bs.take i := (tree_all ok b _ (bs.take i) (bs.drop i) rfl (List.take_append_drop i bs).symm).keys
theorem rowsStep_len (rows : List Row) (r : Row) : (rowsStep rows r).length ≤ rows.length + 1 := by
  unfold rowsStep
  split
  · (first | lia | omega)
  · rw [List.length_append, List.length_singleton]; exact Nat.le_refl _
theorem treeAt_rows (W us : List Wd) : ∀ i, (treeAt W (us.take i)).2.length ≤ i
  | 0 => Nat.le_refl _
  | i + 1 => by
    have ih := treeAt_rows W us i
    rw [List.take_add_one]
    cases us[i]? with
    | none => show (treeAt W (us.take i ++ [])).2.length ≤ _; rw [List.append_nil]; (first | lia | omega)
    | some u =>
      show (treeAt W (us.take i ++ [u])).2.length ≤ _
      rw [treeAt_snoc]
      exact Nat.le_trans (rowsStep_len _ _) (by (first | lia | omega))
section
variable {prog : Program} {w : World} {h₀ : Heap} {n : Nat} {ρ : Loc} {σ : Store}
theorem tree_spec {ta aa : Addr} {td ad : FuncData} {cc P : Addr} {mg : Str → Option Value} (c : TreeCtx h₀ ta aa td ad cc P mg) {wa : Addr} {W : List Wd} (ew : σ wa = some (.lst (W.map pvW))) (ok : WOk W) (hP : σ P = some (.raw (tabObj #[]))) {Q : PV → Store → Prop}
    (q : ∀ σ' (t : Nat), t + 1 = (lots W).length → Less (unk σ P) σ' → (∃ ps, σ' P = some (.raw (tabObj ps))) → Q (.int t) σ') : LCall prog w h₀ (n + 3) (.ref ta) [] [.loc wa] σ Q := by
  have hn : td.scope.names = (scopeAt Challenge.pw_ho0003_01 10).names := by rw [c.hs]
  refine lcall_def c.f (c.bind _) (by show List.Nodup [("words" : Str)]; decide) (fun k => by rw [hn]; exact List.nodup_nil) (fun p hp => ?_) fun L => ?_
  · rw [hn, List.mem_singleton.mp hp]; exact .inl rfl
  generalize hE : callEnvC td L ta = env
  have e : TreeEnv env cc := ⟨fun y => by rw [← hE]; show td.scope.names.lookup y = _; rw [hn], by rw [← hE]; show cellsFrom (L + 1) td.scope.names [] = _; rw [hn]; rfl, by rw [← hE]; exact c.code, by rw [← hE]; unfold interactive; show (td.scope.kind == .module && _) = false; rw [c.f.kind]; rfl, by rw [← hE]; unfold Env.blockKind; show (if td.scope.kind.isAnnotationScope = true then ScopeKind.function else td.scope.kind) = _; rw [c.f.kind]; rfl⟩
  have hk := e.hk
  have hint := e.hint
  have st : ∀ y, (scopeAt Challenge.pw_ho0003_01 10).names.lookup y = some .local → Stor env y := fun y h => .inl ((hk y).trans h)
  clear hE hn
  have hwP : wa ≠ P := fun h => by rw [h, hP] at ew; cases ew
  refine ws_cons ?_
  refine ws_assign (st _ rfl) ?_
  refine tree_begins c e ew ok hP (pos := default) fun σ1 b bs hb l1 eP eb => ?_
  obtain ⟨ps, eP⟩ := eP
  have ew1 : σ1 wa = some (.lst (W.map pvW)) := l1.lst ((unk_ne hwP).trans ew)
  refine ws_cons ?_
  refine ws_unpack_swapped ["names", "rows"] (.cons .bind (st _ rfl) (.cons .bind (st _ rfl) .nil)) ?_ (hw := swapped2 ((hk _).trans rfl) ((hk _).trans rfl) rfl e.block (by rfl) rfl (by rfl) (by rfl))
  refine we_tup ?_
  refine wl_cons ?_
  refine we_dict0_dv c.big fun N hN => ?_
  refine wl_cons ?_
  refine we_list ?_
  refine wl_nil ?_
  refine ⟨by simp, fun R hR => ?_⟩
  refine wl_nil ?_
  refine ⟨by simp, _, rfl, rfl, ?_⟩
  have hRN : R ≠ N := fun h => by rw [h, upd_same] at hR; cases hR
  have hR1 : σ1 R = none := by rw [upd_ne _ _ hRN] at hR; exact hR
  have l3 : Less σ1 (upd (upd σ1 N (.dv [])) R (.lst [])) := (Less.upd_free hN).free hR
  have eN3 : (upd (upd σ1 N (.dv [])) R (.lst [])) N = some (.dv []) := by rw [upd_ne _ _ (Ne.symm hRN), upd_same]
  have eR3 : (upd (upd σ1 N (.dv [])) R (.lst [])) R = some (.lst []) := upd_same _ _ _
  generalize upd (upd σ1 N (.dv [])) R (.lst []) = σ3 at *
  refine ws_cons ?_
  refine ws_for_list ?_
  refine we_name (by rfl) ?_
  have eb3 : σ3 b = some (.lst (bs.map pvW)) := l3.lst eb
  refine ⟨b, _, rfl, eb3, fun i ρ' σ' => ρ' = treeLoc b N R wa ∧ Less σ1 σ' ∧ σ' N = some (.dv ((treeAt W (bs.take i)).1.map encN)) ∧ ∃ rl, σ' R = some (.lst (rowsPV rl)) ∧ rl.map (·.1) = (treeAt W (bs.take i)).2 ∧ ∀ x ∈ rl, σ' x.2 = some (.lst (x.1.2.map encK)) ∧ x.2 ≠ R, ⟨rfl, l3, eN3, [], eR3, rfl, fun x hx => by cases hx⟩, fun i ρ' σ' h => h.2.1.lst eb, fun ρ' σ' h => ?_, fun i v ρ' σ' hi hv h => ?_⟩
  · obtain ⟨rfl, k1, -, rl, k3, k4, -⟩ := h
    rw [List.length_map, List.take_length] at k4
    have h1 := tree_count ok hb
    have h2 := congrArg List.length k4
    have h3 := treeAt_rows W bs bs.length
    rw [List.take_length] at h3
    rw [List.length_map] at h2
    have := hb.few
    have h4 : (rowsPV rl).length = (treeAt W bs).2.length := by unfold rowsPV; rw [List.length_map]; exact h2
    unfold treeLoc
    refine ws_cons ?_
    refine ws_return ?_
    refine we_call (gname c.tlen ((hk _).trans rfl)) ?_
    refine wl_cons ?_
    refine we_name (by rfl) ?_
    refine wl_nil ?_
    refine lcall_fn (lf_len_list k3 (by (first | lia | omega)) ?_)
    rw [h4]
    exact q σ' _ h1 (l1.trans k1) ⟨ps, k1.raw eP⟩
  · obtain ⟨rfl, k1, k2, rl, k3, k4, k5⟩ := h
    obtain ⟨u, hu, rfl⟩ := getMapT hv
    refine turn_name (st _ rfl) fun Q1 q1 _ => ?_
    have e1 : treeAt W (bs.take (i + 1)) = treeStep W (treeAt W (bs.take i)) u := by rw [List.take_add_one, hu]; exact treeAt_snoc _ _ _
    have hkey := treeAt_keys ok hb i
    have hbl : bs.length ≤ 24 := hb.few
    have hui : u ∉ bs.take i := fun h => by
      obtain ⟨j, hj, ej⟩ := List.getElem_of_mem h
      rw [List.length_take] at hj
      rw [List.getElem_take] at ej
      obtain ⟨g1, g2⟩ := List.getElem?_eq_some_iff.mp hu
      have := (List.getElem_inj (h₀ := by (first | lia | omega)) (h₁ := g1) hb.nodup).mp (ej.trans g2.symm)
      (first | lia | omega)
    have hul : u.length ≤ 3 := by
      obtain ⟨v, hv⟩ := (hb.mem u).mp (List.mem_of_getElem? hu)
      have := ok.fit _ hv
      rw [List.length_append] at this; (first | lia | omega)
    have hnl : (treeAt W (bs.take i)).1.length ≤ 24 := by
      have := congrArg List.length hkey
      rw [List.length_map, List.length_take] at this; (first | lia | omega)
    have hrl : rl.length ≤ 24 := by
      have h1 := congrArg List.length k4
      have h2 := treeAt_rows W bs i
      rw [List.length_map] at h1 hi; (first | lia | omega)
    have q1 : ∀ ρ₂ σ₂ rl', Sub (treeLoc b N R wa) ρ₂ → Less σ1 σ₂ → σ₂ N = some (.dv ((treeStep W (treeAt W (bs.take i)) u).1.map encN)) → σ₂ R = some (.lst (rowsPV rl')) → rl'.map (·.1) = (treeStep W (treeAt W (bs.take i)) u).2 → (∀ x ∈ rl', σ₂ x.2 = some (.lst (x.1.2.map encK)) ∧ x.2 ≠ R) → Q1 .next ρ₂ σ₂ := fun ρ₂ σ₂ rl' a1 a2 a3 a4 a5 a6 => q1 ρ₂ _ σ₂ a1 ⟨rfl, a2, by rw [e1]; exact a3, rl', a4, by rw [e1]; exact a5, a6⟩
    rw [← hkey] at hui
    clear e1 hkey
    generalize treeAt W (bs.take i) = T at *
    refine tree_kids c e hul k2 fun σ5 tb l5 et => ?_
    have k6 := k1.trans l5
    refine tree_row c e hui (by (first | lia | omega)) (by (first | lia | omega)) (k6.lst ew1) et (l5.dv k2) (l5.lst k3) (fun x hx => ⟨l5.lst (k5 x hx).1, (k5 x hx).2⟩) fun ρ₂ σ₂ rl' a1 a2 a3 a4 a5 a6 => ?_
    rw [k4] at a5
    refine q1 ρ₂ σ₂ rl' a1 (((k6.unkOff hN).unkOff hR1).trans a2) ?_ a4 a5 a6
    rw [a3, a5]; rfl
end
end Mine.Internal
end

section
namespace Mine.Internal

noncomputable def wordsOf (sc : List Int) : List Wd := dedup ((sc.take 6).map fun x => evr.getD (x.fmod 15).toNat [])
theorem pick_evr (x : Int) : ∃ u, evr[(x.fmod 15).toNat]? = some u ∧ evr.getD (x.fmod 15).toNat [] = u ∧ u.length ≤ 3 ∧ 0 ≤ x.fmod 15 := by
  have h1 : 0 ≤ x.fmod 15 := Int.fmod_nonneg_of_pos _ (by decide)
  have h2 : x.fmod 15 < 15 := Int.fmod_lt_of_pos _ (by decide)
  have h3 : (x.fmod 15).toNat < evr.length := by show _ < 15; (first | lia | omega)
  refine ⟨evr[(x.fmod 15).toNat], List.getElem?_eq_getElem h3, ?_, evr_mem.mp (List.getElem_mem h3), h1⟩
  rw [List.getD_eq_getElem?_getD, List.getElem?_eq_getElem h3]; rfl
theorem wordsOf_ok (sc : List Int) : WOk (wordsOf sc) := by
  refine ⟨dedup_nodup _, ?_, fun v hv => ?_⟩
  · have := dedup_length ((sc.take 6).map fun x => evr.getD (x.fmod 15).toNat [])
    unfold wordsOf
    rw [List.length_map, List.length_take] at this; (first | lia | omega)
  · obtain ⟨x, _, rfl⟩ := List.mem_map.mp (dedup_mem.mp hv)
    obtain ⟨u, _, h, hl, _⟩ := pick_evr x
    rw [h]; exact hl
theorem dedup_one {α : Type} [DecidableEq α] (l : List α) (x : α) : dedup (l ++ [x]) = dedupStep (dedup l) x := by unfold dedup; rw [List.foldl_append]; rfl
section
variable {prog : Program} {w : World} {h₀ : Heap} {n : Nat} {ρ : Loc} {σ : Store}
structure LawCtx (prog : Program) (w : World) (h₀ : Heap) (la ea fa ba ia ta aa ca : Addr) (ld ed fd bd nd td ad cd : FuncData) (cc P a : Addr) (mg : Str → Option Value) (sc : List Int) : Prop where
  lot : LotCtx h₀ la ea fa ba ia ld ed fd bd nd
  tree : TreeCtx h₀ ta aa td ad cc P mg
  tlots : TopIs h₀ "_law_lots" (.ref la)
  ttree : TopIs h₀ "_law_tree" (.ref ta)
  cnt : FnOk h₀ ca cd (bodyAt Challenge.pw_ho0003_01 5)
  cntS : cd.scope = scopeAt Challenge.pw_ho0003_01 5
  cntB : ∀ a : Addr, Binds h₀ cd [.loc a] [("callers", .loc a)]
  tcnt : TopIs h₀ "count_calls" (.ref ca)
  script : ∀ σ, ListAt prog w h₀ σ a (sc.map .int)
  scLen : sc.length ≤ 63
structure LawEnv (env : Env) (c1 c2 c3 : Addr) : Prop where
  hk : ∀ y, env.kindOf y = (scopeAt Challenge.pw_ho0003_01 11).names.lookup y
  hcs : env.cells = ([("other", c3), ("one", c2), ("lots", c1)] : List (Str × Addr))
  hint : interactive env = false
  block : env.blockKind = .function
noncomputable def lawBody : List Stmt := bodyAt Challenge.pw_ho0003_01 11
theorem law_words {la ea fa ba ia ta aa ca : Addr} {ld ed fd bd nd td ad cd : FuncData} {cc P a : Addr} {mg : Str → Option Value} {sc : List Int} (c : LawCtx prog w h₀ la ea fa ba ia ta aa ca ld ed fd bd nd td ad cd cc P a mg sc) {env : Env} {c1 c2 c3 : Addr} (e : LawEnv env c1 c2 c3) {Q : PFlow → Loc → Store → Prop}
    (q : ∀ σ' ev wa, Less σ σ' → σ' ev = some (.lst (evr.map pvW)) → σ' wa = some (.lst ((wordsOf sc).map pvW)) → WS prog w h₀ (n + 3) env (execs (lawBody.drop 2) env) [("words", .loc wa), ("every", .loc ev)] σ' Q) :
    WS prog w h₀ (n + 3) env (execs lawBody env) [("script", .loc a)] σ Q := by
  obtain ⟨hk, hcs, hint, hblk⟩ := e
  have st : ∀ y, (scopeAt Challenge.pw_ho0003_01 11).names.lookup y = some .local → Stor env y := fun y h => .inl ((hk y).trans h)
  have scl := c.scLen
  refine ws_cons ?_
  refine ws_unpack_swapped ["every", "words"] (.cons .bind (st _ rfl) (.cons .bind (st _ rfl) .nil)) ?_ (hw := swapped2 ((hk _).trans rfl) ((hk _).trans rfl) rfl hblk (by rfl) rfl (by rfl) (by rfl))
  refine we_tup ?_
  refine wl_cons ?_
  refine we_call (gname c.lot.tev ((hk _).trans rfl)) ?_
  refine wl_nil ?_
  refine every_spec c.lot.ev c.lot.evS c.lot.evB c.lot.bis.tlen fun σ1 ev l1 _ ee => ?_
  refine wl_cons ?_
  refine we_list ?_
  refine wl_nil ?_
  refine ⟨by simp, fun wa hwa => ?_⟩
  refine wl_nil ?_
  refine ⟨by simp, _, rfl, rfl, ?_⟩
  have l2 : Less σ (upd σ1 wa (.lst [])) := l1.free hwa
  have ee2 := upd_old (o' := .lst []) ee hwa
  have ew2 : (upd σ1 wa (.lst [])) wa = some (.lst []) := upd_same _ _ _
  generalize upd σ1 wa (.lst []) = σ2 at *
  refine ws_norm [("words", .loc wa), ("every", .loc ev), ("script", .loc a)] (by repeat (first | exact Sub.nil _ | refine Sub.cons (by rfl) ?_)) ?_
  refine ws_cons ?_
  refine ws_for_list ?_
  refine we_slice_upto ?_
  refine we_name (by rfl) ?_
  refine we_int ?_
  refine ⟨a, sc.map .int, 6, rfl, rfl, by decide, c.script _, by rw [List.length_map]; (first | lia | omega), fun k hk' => ?_⟩
  have etk : (sc.map PV.int).take (6 : Int).toNat = (sc.take 6).map PV.int := by rw [List.map_take]; rfl
  rw [etk]
  have l3 : Less σ2 (upd σ2 k (.lst ((sc.take 6).map PV.int))) := Less.upd_free hk'
  have ek : (upd σ2 k (.lst ((sc.take 6).map PV.int))) k = some (.lst ((sc.take 6).map PV.int)) := upd_same _ _ _
  have htl : (sc.take 6).length ≤ 6 := by rw [List.length_take]; exact Nat.min_le_left ..
  unfold wordsOf at q
  generalize upd σ2 k (.lst ((sc.take 6).map PV.int)) = σ3 at *
  generalize sc.take 6 = tk at *
  have ee3 := l3.lst ee2
  refine ⟨k, _, rfl, ek, fun j ρ' σ' => ∃ wa, ρ' = ([("words", .loc wa), ("every", .loc ev), ("script", .loc a)] : Loc) ∧ Less σ3 σ' ∧ σ' wa = some (.lst ((dedup ((tk.take j).map fun x => evr.getD (x.fmod 15).toNat [])).map pvW)), ?_, fun i ρ' σ' h => by obtain ⟨_, _, k1, _⟩ := h; exact k1.lst ek, fun ρ' σ' h => ?_, fun i v ρ' σ' hi hv h => ?_⟩
  · exact ⟨wa, rfl, Less.refl _, l3.lst ew2⟩
  · obtain ⟨wb, rfl, k1, k2⟩ := h
    rw [List.length_map, List.take_length] at k2
    exact ws_norm [("words", .loc wb), ("every", .loc ev)] (by repeat (first | exact Sub.nil _ | refine Sub.cons (by rfl) ?_)) (q σ' ev wb ((l2.trans l3).trans k1) (k1.lst ee3) k2)
  · obtain ⟨wb, rfl, k1, k2⟩ := h
    obtain ⟨x, hx, rfl⟩ := getMapT hv
    refine turn_name (st _ rfl) fun Q1 q1 _ => ?_
    obtain ⟨u, hu1, hu2, _, hu3⟩ := pick_evr x
    have e1 : dedup ((tk.take (i + 1)).map fun x => evr.getD (x.fmod 15).toNat []) = dedupStep (dedup ((tk.take i).map fun x => evr.getD (x.fmod 15).toNat [])) u := by
      rw [List.take_add_one, hx, List.map_append]
      exact (dedup_one _ _).trans (congrArg (dedupStep _) hu2)
    have hdl : (dedup ((tk.take i).map fun x => evr.getD (x.fmod 15).toNat [])).length ≤ 6 := by
      have := dedup_length ((tk.take i).map fun x => evr.getD (x.fmod 15).toNat [])
      rw [List.length_map, List.length_take] at this; (first | lia | omega)
    generalize dedup ((tk.take i).map fun x => evr.getD (x.fmod 15).toNat []) = D at *
    have q1 : ∀ ρ₂ σ₂ wb, Sub [("words", .loc wb), ("every", .loc ev), ("script", .loc a)] ρ₂ → Less σ3 σ₂ → σ₂ wb = some (.lst ((dedupStep D u).map pvW)) → Q1 .next ρ₂ σ₂ := fun ρ₂ σ₂ wb hs hl he => q1 ρ₂ _ σ₂ hs ⟨wb, rfl, hl, by rw [e1]; exact he⟩
    refine ws_cons ?_
    refine ws_assign (st _ rfl) ?_
    refine we_sub ?_
    refine we_name (by rfl) ?_
    refine we_bin ?_
    refine we_name (by rfl) ?_
    refine we_int ?_
    refine lb_mod_int (by decide) ?_
    refine ⟨pvW u, lg_list (k1.lst ee3) hu3 (by have := Int.fmod_lt_of_pos x (b := 15) (by decide); (first | lia | omega)) (by rw [List.getElem?_map, hu1]; rfl), ?_⟩
    refine ws_cons ?_
    refine ws_assign (st _ rfl) ?_
    refine we_bin ?_
    refine we_name (by rfl) ?_
    refine we_if ?_
    refine wt_cmp ?_
    refine we_name (by rfl) ?_
    refine we_name (by rfl) ?_
    refine ⟨_, lc_notin_list .str k2 (pvW_all D) trivial (by decide), ?_⟩
    rw [any_pvW]
    by_cases hin : u ∈ D
    · refine if_bool_false (by rw [decide_eq_true hin]; rfl) ?_
      refine we_list ?_
      refine wl_nil ?_
      refine ⟨by simp, fun d hd => ?_⟩
      refine lb_add_list (upd_old k2 hd) (upd_same _ _ _) (by rw [List.length_map]; simp; (first | lia | omega)) fun c5 hc5 => ?_
      refine ws_nil (q1 _ _ c5 ?_ ((k1.free hd).free hc5) ?_)
      · repeat (first | exact Sub.nil _ | refine Sub.cons (by rfl) ?_)
      · rw [upd_same, List.append_nil]; unfold dedupStep; rw [if_pos hin]
    · refine if_bool_true (by rw [decide_eq_false hin]; rfl) ?_
      refine we_list ?_
      refine wl_cons ?_
      refine we_name (by rfl) ?_
      refine wl_nil ?_
      refine ⟨by simp, fun d hd => ?_⟩
      refine lb_add_list (upd_old k2 hd) (upd_same _ _ _) (by rw [List.length_map]; simp; (first | lia | omega)) fun c5 hc5 => ?_
      refine ws_nil (q1 _ _ c5 ?_ ((k1.free hd).free hc5) ?_)
      · repeat (first | exact Sub.nil _ | refine Sub.cons (by rfl) ?_)
      · rw [upd_same]; unfold dedupStep; rw [if_neg hin, List.map_append]; rfl
end
end Mine.Internal
end

section
namespace Mine.Internal

noncomputable def unT : PV → List Wd
  | .tup xs => xs.map unW
  | _ => []
theorem unT_pv (l : List Wd) : unT (pvT l) = l := by
  show (l.map pvW).map unW = l
  rw [List.map_map]
  conv => rhs; rw [← List.map_id l]
  exact List.map_congr_left fun u _ => unW_pv u
theorem hshs_W : ∀ l : List Wd, Hshs 2 (l.map pvW)
  | [] => trivial
  | u :: l => ⟨trivial, hshs_W l⟩
theorem dedup_same {α : Type} [DecidableEq α] {l : List α} (h : l.Nodup) : (dedup l).length = l.length := ((List.perm_ext_iff_of_nodup (dedup_nodup l) h).mpr fun _ => dedup_mem).length_eq
theorem lots_deep (S : List (List Wd)) : PV.deeps (S.map pvT) ≤ 50 := Nat.le_trans (AllTy.deep (.seq .str) _ (AllTy.iff.mpr (pvT_all S))) (by decide)
section
variable {prog : Program} {w : World} {h₀ : Heap} {n : Nat} {ρ : Loc} {σ : Store}
theorem law_lots {la ea fa ba ia ta aa ca : Addr} {ld ed fd bd nd td ad cd : FuncData} {cc P a : Addr} {mg : Str → Option Value} {sc : List Int} (c : LawCtx prog w h₀ la ea fa ba ia ta aa ca ld ed fd bd nd td ad cd cc P a mg sc) {env : Env} {c1 c2 c3 : Addr} (e : LawEnv env c1 c2 c3) {ev wa : Addr} {W : List Wd} (ok : WOk W)
    (ew : σ wa = some (.lst (W.map pvW))) {Q : PFlow → Loc → Store → Prop}
    (q : ∀ σ' lo, Less σ σ' → σ' lo = some (.lst ((lots W).map pvT)) → WS prog w h₀ (n + 3) env (execs (lawBody.drop 4) env) [("lots", .loc lo), ("words", .loc wa), ("every", .loc ev)] σ' Q) :
    WS prog w h₀ (n + 3) env (execs (lawBody.drop 2) env) [("words", .loc wa), ("every", .loc ev)] σ Q := by
  obtain ⟨hk, hcs, hint, hblk⟩ := e
  have stc : ∀ y, (scopeAt Challenge.pw_ho0003_01 11).names.lookup y = some .cell → (∃ k, env.cells.lookup y = some k) → Stor env y := fun y h hc => .inr ⟨(hk y).trans h, hc⟩
  refine ws_cons ?_
  refine ws_assign (stc _ rfl ⟨_, by rw [hcs]; rfl⟩) ?_
  refine we_call (gname c.tlots ((hk _).trans rfl)) ?_
  refine wl_cons ?_
  refine we_name (by rfl) ?_
  refine wl_nil ?_
  refine lots_spec c.lot ew ok fun σ1 lo l1 _ eL => ?_
  have hl := lots_length W
  have hs := lots_sorted W
  have hnd := lots_nodup W
  have hnil := lots_nil ok.fit
  generalize lots W = S at *
  refine ws_cons ?_
  refine ws_if ?_
  refine wt_or ?_
  refine wt_cmp ?_
  refine we_name (by rfl) ?_
  refine we_call (gname c.tree.tsorted ((hk _).trans rfl)) ?_
  refine wl_cons ?_
  refine we_name (by rfl) ?_
  refine wl_nil ?_
  refine lcall_fn (lf_sorted (.seq .str) rfl (by decide) (collects_list eL (by rw [List.length_map]; (first | lia | omega))) (pvT_all S) (by rw [List.length_map]; (first | lia | omega)) fun ys hys d hd => ?_)
  have hys := sortOf_id (T := .seq .str) rfl (pvT_all S) (List.pairwise_map.mpr hs) hys
  subst hys
  have eL2 := upd_old (o' := .lst (S.map pvT)) eL hd
  refine ⟨_, lc_ne_list eL2 (upd_same _ _ _) (lots_deep S) (AllTy.sim (.seq .str) _ _ (AllTy.iff.mpr (pvT_all S)) (AllTy.iff.mpr (pvT_all S))), ?_⟩
  rw [(PV.beqs_iff _ _).mpr rfl]
  have l2 : Less σ (upd σ1 d (.lst (S.map pvT))) := l1.free hd
  generalize upd σ1 d (.lst (S.map pvT)) = σ2 at *
  refine if_bool_false rfl ?_
  refine wt_or ?_
  refine wt_cmp ?_
  refine we_call (gname c.lot.bis.tlen ((hk _).trans rfl)) ?_
  refine wl_cons ?_
  refine we_call (gname c.tree.tdict ((hk _).trans rfl)) ?_
  refine wl_cons ?_
  refine we_compb hcs [] [] S pvT unT unT_pv (fun l => [.tup [pvT l, .int 1]]) (by rfl) (by rfl) (by rfl) (SubL.nil) .nil (fun C => .nil) ?_
  have hraw : (S.flatMap fun l => [PV.tup [pvT l, .int 1]]) = (S.map fun l => (pvT l, PV.int 1)).map fun (p : PV × PV) => PV.tup [p.1, p.2] := by
    rw [List.map_map, List.map_eq_flatMap]; rfl
  refine wi_list ?_
  refine we_name (by rfl) ?_
  refine ⟨lo, S.map pvT, rfl, eL2, itm_list eL2, by rw [hraw, List.length_map, List.length_map]; (first | lia | omega), ?_, ?_⟩
  · intro C D hD l hl'
    refine clause_name (onlyLoc _) (storL (compKind rfl (by decide))) (by repeat (first | exact Sub.nil _ | refine Sub.cons (by rfl) ?_)) ?_
    refine jel_emit (onlyLoc _) hD rfl ?_
    refine we_tup ?_
    refine wl_cons ?_
    refine we_name (by rfl) ?_
    refine wl_cons ?_
    refine we_int ?_
    refine wl_nil ?_
    exact ⟨by simp, rfl, rfl⟩
  intro D hD
  rw [hraw]
  refine wl_nil ?_
  refine lcall_type (lf_dict (.dt (.seq .str) []) (.inr ⟨_, rfl⟩) c.tree.big (ps := S.map fun l => (pvT l, PV.int 1)) (upd_same _ _ _) (fun p hp => ?_) (by rw [List.length_map]; (first | lia | omega)) fun d2 hd2 => ?_)
  · obtain ⟨x, _, rfl⟩ := List.mem_map.mp hp
    exact ⟨⟨_, rfl⟩, pvT_ty x, hshs_W x⟩
  rw [dputs_dt]
  have hkeys : ((S.map fun x => (pvT x, PV.int 1)).foldl (fun (o : List (PV × PV)) (p : PV × PV) => dset o p.1 p.2) []).map (·.1) = (dedup S).map pvT :=
    dsets_keys pvT_inj _ S [] [] (by rw [List.map_map]; rfl) rfl
  generalize (S.map fun x => (pvT x, PV.int 1)).foldl (fun (o : List (PV × PV)) (p : PV × PV) => dset o p.1 p.2) [] = es at *
  have hel : es.length = S.length := by have := congrArg List.length hkeys; rw [List.length_map, List.length_map, dedup_same hnd] at this; exact this
  have eL3 := upd_old (o' := .dt (.seq .str) es) (upd_old (o' := .lst ((S.map fun x => (pvT x, PV.int 1)).map fun (p : PV × PV) => PV.tup [p.1, p.2])) eL2 hD) hd2
  have l3 : Less σ (upd (upd σ2 D (.lst ((S.map fun x => (pvT x, PV.int 1)).map fun (p : PV × PV) => PV.tup [p.1, p.2]))) d2 (.dt (.seq .str) es)) := (l2.free hD).free hd2
  have ed3 : (upd (upd σ2 D (.lst ((S.map fun x => (pvT x, PV.int 1)).map fun (p : PV × PV) => PV.tup [p.1, p.2]))) d2 (.dt (.seq .str) es)) d2 = some (.dt (.seq .str) es) := upd_same _ _ _
  generalize upd (upd σ2 D (.lst ((S.map fun x => (pvT x, PV.int 1)).map fun (p : PV × PV) => PV.tup [p.1, p.2]))) d2 (.dt (.seq .str) es) = σ3 at *
  refine wl_nil ?_
  refine lcall_fn (lf_len_dt ed3 (by (first | lia | omega)) ?_)
  refine we_call (gname c.lot.bis.tlen ((hk _).trans rfl)) ?_
  refine wl_cons ?_
  refine we_name (by rfl) ?_
  refine wl_nil ?_
  refine lcall_fn (lf_len_list eL3 (by rw [List.length_map]; (first | lia | omega)) ?_)
  refine ⟨_, lc_ne, ?_⟩
  refine if_not_pos (by rw [hel, List.length_map]) ?_
  refine wt_or ?_
  refine wt_cmp ?_
  refine we_tup ?_
  refine wl_nil ?_
  refine ⟨by simp, ?_⟩
  refine we_name (by rfl) ?_
  refine ⟨_, lc_notin_list (.seq .str) eL3 (pvT_all S) trivial (by decide), ?_⟩
  rw [show (S.map pvT).any (PV.beq · (.tup [])) = _ from any_pvT S [], decide_eq_true hnil]
  refine if_bool_false rfl (wt_or_nil ?_)
  exact ws_nil (q σ3 lo l3 eL3)
end
end Mine.Internal
end

section
namespace Mine.Internal

noncomputable def TLd : Ty := .tup [.int, .str]
noncomputable def keyD (h : Nat × Bool) : PV := .tup [.int h.1, pvW [h.2]]
noncomputable def encD (p : (Nat × Bool) × Nat) : PV × PV := (keyD p.1, .int p.2)
theorem keyD_inj (a b : Nat × Bool) (h : keyD a = keyD b) : a = b := by
  unfold keyD at h
  simp only [PV.tup.injEq, List.cons.injEq, PV.int.injEq, and_true] at h
  have h3 := pvW_inj _ _ h.2
  exact Prod.ext (by (first | lia | omega)) (by simpa using h3)
theorem keyD_ty (h : Nat × Bool) : HasTy TLd (keyD h) ∧ Hsh 3 (keyD h) := ⟨⟨trivial, trivial, trivial⟩, ⟨trivial, trivial, trivial⟩⟩
noncomputable def Sound (W : List Wd) (ps : List ((Nat × Bool) × Nat)) : Prop := ∀ p ∈ ps, ∃ u, posOf W (follows W u) = p.1.1 ∧ p.2 = posOf W (follows W (u ++ [p.1.2]))
theorem sound_get {W : List Wd} (ok : WOk W) {ps : List ((Nat × Bool) × Nat)} (s : Sound W ps) {u : Wd} {b : Bool} {x : PV} (h : dget (ps.map encD) (keyD (posOf W (follows W u), b)) = some x) : x = .int (posOf W (follows W (u ++ [b])) : Nat) := by
  unfold dget at h
  obtain ⟨p, hp, rfl⟩ := Option.map_eq_some_iff.mp h
  have hb := List.find?_some hp
  obtain ⟨t, ht, rfl⟩ := List.mem_map.mp (List.mem_of_find?_eq_some hp)
  have e := keyD_inj _ _ ((PV.beq_iff _ _).mp hb)
  obtain ⟨v, h1, h2⟩ := s t ht
  rw [e] at h1 h2
  have h3 := posOf_inj (lots_any ok.fit v) (lots_any ok.fit u) h1
  show PV.int (t.2 : Nat) = _
  rw [h2, follows_next ok.nodup h3]
theorem get_key {ps : List ((Nat × Bool) × Nat)} {k : Nat × Bool} : (dget (ps.map encD) (keyD k)).isSome = true ↔ k ∈ ps.map (·.1) := by
  rw [dget_isSome, List.any_eq_true]
  constructor
  · rintro ⟨x, hx, hb⟩
    obtain ⟨t, ht, rfl⟩ := List.mem_map.mp hx
    exact List.mem_map.mpr ⟨t, ht, keyD_inj _ _ ((PV.beq_iff _ _).mp hb)⟩
  · intro h
    obtain ⟨t, ht, rfl⟩ := List.mem_map.mp h
    exact ⟨_, List.mem_map_of_mem ht, (PV.beq_iff _ _).mpr rfl⟩
theorem dset_new {es : List (PV × PV)} {k v : PV} (h : dget es k = none) : dset es k v = es ++ [(k, v)] := by
  have h1 : (dget es k).isSome = false := by rw [h]; rfl
  rw [dget_isSome] at h1
  unfold dset
  rw [if_neg (by rw [h1]; exact Bool.false_ne_true)]
section
variable {prog : Program} {w : World} {h₀ : Heap} {n : Nat} {ρ : Loc} {σ : Store}
theorem place_pos {ba ia : Addr} {bd nd : FuncData} (c : BisCtx h₀ ba ia bd nd) {o : Addr} {W : List Wd} (es : σ o = some (.lst ((lots W).map pvT))) {x : List Wd} (hx : x ∈ lots W) {Q : PV → Store → Prop}
    (q : Q (.int (posOf W x : Nat)) σ) : LCall prog w h₀ (n + 1) (.ref ba) [] [.loc o, pvT x] σ Q :=
  place_lots c es (lots_sorted W) (by have := lots_length W; (first | lia | omega)) x fun k _ h => by rw [posOf_eq (h.mp hx)]; exact q
theorem pos_walk {fa ba ia : Addr} {fd bd nd : FuncData} (cb : BisCtx h₀ ba ia bd nd) (cf : FolCtx h₀ fa fd) (tf : TopIs h₀ "_law_follows" (.ref fa)) {env : Env} (kb : env.kindOf "bisect_left" = some .globalImplicit) (kf : env.kindOf "_law_follows" = some .globalImplicit)
    {X : Expr} {p1 p2 p3 p4 p5 p6 : Pos} {lo wa : Addr} {W : List Wd} (ok : WOk W) (el : σ lo = some (.lst ((lots W).map pvT))) (ew : σ wa = some (.lst (W.map pvW))) (rl : ρ.lookup ("lots" : Str) = some (PV.loc lo)) (rw' : ρ.lookup ("words" : Str) = some (PV.loc wa)) {Q : PV → Store → Prop}
    (h : WV prog w h₀ (n + 3) env [] (eval X env) ρ σ fun v σ1 => ∃ u, v = pvW u ∧ u.length < 5 ∧ σ1 = σ ∧ ∀ σ2, Keep σ σ2 → Q (.int (posOf W (follows W u) : Nat)) σ2)
    (h1 : autoParam (starEach [X] env = (false, eval X env) :: starEach [] env) Mine.Internal.au2) (h2 : autoParam ((backTo p5 (starEach [.Name "words" p4, X] env)).any (·.1) = false) Mine.Internal.au2) :
    WV prog w h₀ (n + 3) env [] (eval (.Call (.Name "bisect_left" p1) [.Name "lots" p2, .Call (.Name "_law_follows" p3) [.Name "words" p4, X] [] p5] [] p6) env) ρ σ Q := by
  refine we_call (gname cb.tbis kb) ?_
  refine wl_cons ?_
  refine we_name rl ?_
  refine wl_cons ?_
  refine we_call (gname tf kf) ?_ (hplain := h2)
  refine wl_cons ?_
  refine we_name rw' ?_
  refine wl_cons (he := h1) ?_
  refine WE.mono h fun v σ1 x => ?_
  obtain ⟨u, rfl, hu, rfl, q⟩ := x
  refine wl_nil ?_
  refine follows_spec cf ew ok hu fun σ2 l2 => ?_
  refine wl_nil ?_
  refine place_pos cb (l2 _ _ el) (lots_any ok.fit u) (q σ2 l2)
theorem law_leads {la ea fa ba ia ta aa ca : Addr} {ld ed fd bd nd td ad cd : FuncData} {cc P a : Addr} {mg : Str → Option Value} {sc : List Int} (c : LawCtx prog w h₀ la ea fa ba ia ta aa ca ld ed fd bd nd td ad cd cc P a mg sc) {env : Env} {c1 c2 c3 : Addr} (e : LawEnv env c1 c2 c3) {ev wa lo : Addr} {W : List Wd} (ok : WOk W)
    (ee : σ ev = some (.lst (evr.map pvW))) (ew : σ wa = some (.lst (W.map pvW))) (el : σ lo = some (.lst ((lots W).map pvT))) {Q : PFlow → Loc → Store → Prop}
    (q : ∀ σ' le ps, Less σ σ' → σ' le = some (.dt TLd (ps.map encD)) → Sound W ps → (∀ u ∈ evr, ∀ b, (posOf W (follows W u), b) ∈ ps.map (·.1)) → WS prog w h₀ (n + 3) env (execs (lawBody.drop 6) env) [("leads", .loc le), ("lots", .loc lo), ("words", .loc wa), ("every", .loc ev)] σ' Q) :
    WS prog w h₀ (n + 3) env (execs (lawBody.drop 4) env) [("lots", .loc lo), ("words", .loc wa), ("every", .loc ev)] σ Q := by
  obtain ⟨hk, hcs, hint, hblk⟩ := e
  have st : ∀ y, (scopeAt Challenge.pw_ho0003_01 11).names.lookup y = some .local → Stor env y := fun y h => .inl ((hk y).trans h)
  refine ws_cons ?_
  refine ws_assign (st _ rfl) ?_
  refine we_dict0_dt TLd c.tree.big fun le hle => ?_
  refine ws_cons ?_
  refine ws_for_list ?_
  refine we_name (by rfl) ?_
  refine ⟨ev, _, rfl, upd_old ee hle, fun i ρ' σ' => ρ' = ([("leads", .loc le), ("lots", .loc lo), ("words", .loc wa), ("every", .loc ev)] : Loc) ∧ Less σ σ' ∧ ∃ ps, σ' le = some (.dt TLd (ps.map encD)) ∧ Sound W ps ∧ (∀ u ∈ evr.take i, ∀ b, (posOf W (follows W u), b) ∈ ps.map (·.1)) ∧ ps.length ≤ 2 * i, ⟨rfl, Less.upd_free hle, [], upd_same _ _ _, fun p hp => absurd hp List.not_mem_nil, fun u hu => absurd hu List.not_mem_nil, Nat.le_refl _⟩, fun i ρ' σ' h => h.2.1.lst ee, fun ρ' σ' h => ?_, fun i v ρ' σ' hi hv h => ?_⟩
  · obtain ⟨rfl, k1, ps, k2, k3, k4, k5⟩ := h
    rw [List.length_map, List.take_length] at k4
    exact q σ' le ps k1 k2 k3 k4
  · obtain ⟨rfl, k1, ps, k2, k3, k4, k5⟩ := h
    obtain ⟨u, hu, rfl⟩ := getMapT hv
    rw [List.length_map] at hi
    have hi : i < 15 := hi
    refine turn_name (st _ rfl) fun Q1 q1 _ => ?_
    have hul := evr_mem.mp (List.mem_of_getElem? hu)
    have e1 : evr.take (i + 1) = evr.take i ++ [u] := by rw [List.take_add_one, hu]; rfl
    refine ws_cons ?_
    refine ws_assign (st _ rfl) ?_
    refine pos_walk c.lot.bis c.lot.fol c.lot.tfol ((hk _).trans rfl) ((hk _).trans rfl) ok (k1.lst el) (k1.lst ew) (by rfl) (by rfl) ?_
    refine we_name (by rfl) ?_
    refine ⟨u, rfl, by (first | lia | omega), rfl, fun σ2 l2 => ?_⟩
    have k1 := k1.trans l2.less
    have k2 := l2 _ _ k2
    clear l2
    refine ws_cons ?_
    refine ws_for_str ?_
    refine we_str ?_
    refine ⟨"ab", rfl, by rw [show ("ab" : Str).cps = #[97, 98] from rfl]; simp, fun j ρ' σ' => ρ' = ([("here", .int (posOf W (follows W u) : Nat)), ("begun", pvW u), ("leads", .loc le), ("lots", .loc lo), ("words", .loc wa), ("every", .loc ev)] : Loc) ∧ Less σ σ' ∧ ∃ ps, σ' le = some (.dt TLd (ps.map encD)) ∧ Sound W ps ∧ (∀ u ∈ evr.take i, ∀ b, (posOf W (follows W u), b) ∈ ps.map (·.1)) ∧ (∀ b ∈ ([false, true] : List Bool).take j, (posOf W (follows W u), b) ∈ ps.map (·.1)) ∧ ps.length ≤ 2 * i + j, ⟨rfl, k1, ps, k2, k3, k4, fun b hb => (by cases hb), k5⟩, fun ρ' σ' h => ?_, fun j ch ρ' σ' hj hc h => ?_⟩
    · obtain ⟨rfl, g1, ps', g2, g3, g4, g5, g6⟩ := h
      refine ws_nil (q1 _ _ _ (by repeat (first | exact Sub.nil _ | refine Sub.cons (by rfl) ?_)) ⟨rfl, g1, ps', g2, g3, fun v hv b => ?_, ?_⟩)
      · rw [e1] at hv
        rcases List.mem_append.mp hv with hv | hv
        · exact g4 v hv b
        · rw [List.mem_singleton.mp hv]
          exact g5 b (by cases b <;> first | exact .head _ | exact .tail _ (.head _))
      · have : ("ab" : Str).cps.size = 2 := rfl
        (first | lia | omega)
    · obtain ⟨rfl, g1, ps', g2, g3, g4, g5, g6⟩ := h
      obtain ⟨bb, hb, hcb⟩ := letter_at j hj
      rw [hcb] at hc; cases hc
      refine turn_name (st _ rfl) fun Q2 q2 _ => ?_
      have eb : ([false, true] : List Bool).take (j + 1) = ([false, true] : List Bool).take j ++ [bb] := by rw [List.take_add_one, hb]; rfl
      have hj2 : j < 2 := hj
      refine ws_cons ?_
      refine ws_assign (st _ rfl) ?_
      refine pos_walk c.lot.bis c.lot.fol c.lot.tfol ((hk _).trans rfl) ((hk _).trans rfl) ok (g1.lst el) (g1.lst ew) (by rfl) (by rfl) ?_
      refine we_bin ?_
      refine we_name (by rfl) ?_
      refine we_name (by rfl) ?_
      refine lb_add_str (by rw [ws_len]; show _ + 1 ≤ _; (first | lia | omega)) ?_
      refine ⟨u ++ [bb], by rw [ws_one, ws_app]; rfl, by rw [List.length_append, List.length_singleton]; (first | lia | omega), rfl, fun σ3 l3 => ?_⟩
      have g1 := g1.trans l3.less
      have g2 := l3 _ _ g2
      clear l3
      refine ws_cons ?_
      refine ws_if ?_
      refine wt_cmp ?_
      refine we_method ?_
      refine we_name (by rfl) ?_
      refine ⟨_, meth_dt g2 PySem.F.plainAttrs_dict PySem.F.slot_dict_setdefault, ?_⟩
      refine wl_cons ?_
      refine we_tup ?_
      refine wl_cons ?_
      refine we_name (by rfl) ?_
      refine wl_cons ?_
      refine we_name (by rfl) ?_
      refine wl_nil ?_
      refine ⟨by simp, ?_⟩
      refine wl_cons ?_
      refine we_name (by rfl) ?_
      refine wl_nil ?_
      refine lf_setdefault_dt (ks := [.int (posOf W (follows W u) : Nat), pvW [bb]]) g2 (keyD_ty (posOf W (follows W u), bb)).1 (keyD_ty (posOf W (follows W u), bb)).2 (by rw [List.length_map]; (first | lia | omega)) (fun x hx => ?_) fun hn => ?_
      · rw [sound_get ok g3 hx]
        refine we_name (by rfl) ?_
        refine ⟨_, lc_ne, ?_⟩
        refine if_not_pos rfl (ws_nil (ws_nil (q2 _ _ _ (by repeat (first | exact Sub.nil _ | refine Sub.cons (by rfl) ?_)) ⟨rfl, g1, ps', g2, g3, g4, fun b hb' => ?_, by (first | lia | omega)⟩)))
        rw [eb] at hb'
        rcases List.mem_append.mp hb' with hb' | hb'
        · exact g5 b hb'
        · rw [List.mem_singleton.mp hb']
          exact get_key.mp (Option.isSome_iff_exists.mpr ⟨_, hx⟩)
      · rw [dset_new hn]
        have es : ps'.map encD ++ [(.tup [.int (posOf W (follows W u) : Nat), pvW [bb]], .int (posOf W (follows W (u ++ [bb])) : Nat))] = (ps' ++ [((posOf W (follows W u), bb), posOf W (follows W (u ++ [bb])))]).map encD := by rw [List.map_append]; rfl
        rw [es]
        have em : ∀ k, k ∈ ps'.map (·.1) → k ∈ (ps' ++ [((posOf W (follows W u), bb), posOf W (follows W (u ++ [bb])))]).map (·.1) := fun k hk' => by rw [List.map_append]; exact List.mem_append_left _ hk'
        refine we_name (by rfl) ?_
        refine ⟨_, lc_ne, ?_⟩
        refine if_not_pos rfl (ws_nil (ws_nil (q2 _ _ _ (by repeat (first | exact Sub.nil _ | refine Sub.cons (by rfl) ?_)) ⟨rfl, g1.updFree hle _, _, upd_same _ _ _, fun p hp => ?_, fun v hv b => em _ (g4 v hv b), fun b hb' => ?_, ?_⟩)))
        · rcases List.mem_append.mp hp with hp | hp
          · exact g3 p hp
          · rw [List.mem_singleton.mp hp]; exact ⟨u, rfl, rfl⟩
        · rw [eb] at hb'
          rcases List.mem_append.mp hb' with hb' | hb'
          · exact em _ (g5 b hb')
          · rw [List.mem_singleton.mp hb', List.map_append]; exact List.mem_append_right _ (.head _)
        · rw [List.length_append, List.length_singleton]; (first | lia | omega)
end
end Mine.Internal
end

section
namespace Mine.Internal

theorem ws_ascii (u : Wd) : (ws u).cps.all (· < 128) = true := by
  show ((u.map chr).toArray.all fun x => decide (x < 128)) = true
  rw [List.all_toArray, List.all_map]
  exact List.all_eq_true.mpr fun b _ => by cases b <;> rfl
theorem ws_size (u : Wd) : (ws u).cps.size = u.length := ws_len u
theorem ws_at {u : Wd} {i ch : Nat} (h : (ws u).cps[i]? = some ch) : ∃ b, u[i]? = some b ∧ ch = chr b := by
  change ((u.map chr).toArray)[i]? = some ch at h
  rw [List.getElem?_toArray] at h
  obtain ⟨b, hb, rfl⟩ := getMapT h
  exact ⟨b, hb, rfl⟩
section
variable {prog : Program} {w : World} {h₀ : Heap} {n : Nat} {ρ : Loc} {σ : Store}
theorem law_machine {la ea fa ba ia ta aa ca : Addr} {ld ed fd bd nd td ad cd : FuncData} {cc P a : Addr} {mg : Str → Option Value} {sc : List Int} (c : LawCtx prog w h₀ la ea fa ba ia ta aa ca ld ed fd bd nd td ad cd cc P a mg sc) {env : Env} {c1 c2 c3 : Addr} (e : LawEnv env c1 c2 c3) {ev wa lo le : Addr} {W : List Wd} (ok : WOk W)
    (ee : σ ev = some (.lst (evr.map pvW))) (ew : σ wa = some (.lst (W.map pvW))) (el : σ lo = some (.lst ((lots W).map pvT))) {ps : List ((Nat × Bool) × Nat)} (es : σ le = some (.dt TLd (ps.map encD))) (sd : Sound W ps) (cp : ∀ u ∈ evr, ∀ b, (posOf W (follows W u), b) ∈ ps.map (·.1)) {Q : PFlow → Loc → Store → Prop}
    (q : ∀ σ', Less σ σ' → WS prog w h₀ (n + 3) env (execs (lawBody.drop 8) env) [("lots", .loc lo), ("words", .loc wa), ("every", .loc ev)] σ' Q) :
    WS prog w h₀ (n + 3) env (execs (lawBody.drop 6) env) [("leads", .loc le), ("lots", .loc lo), ("words", .loc wa), ("every", .loc ev)] σ Q := by
  obtain ⟨hk, hcs, hint, hblk⟩ := e
  have st : ∀ y, (scopeAt Challenge.pw_ho0003_01 11).names.lookup y = some .local → Stor env y := fun y h => .inl ((hk y).trans h)
  refine ws_cons ?_
  refine ws_assign (st _ rfl) ?_
  refine pos_walk c.lot.bis c.lot.fol c.lot.tfol ((hk _).trans rfl) ((hk _).trans rfl) ok el ew (by rfl) (by rfl) ?_
  refine we_str ?_
  refine ⟨[], rfl, by decide, rfl, fun σ2 l2 => ?_⟩
  have q := q σ2 l2.less
  have ee := l2 _ _ ee
  have ew := l2 _ _ ew
  have el := l2 _ _ el
  have es := l2 _ _ es
  clear l2
  refine ws_cons ?_
  refine ws_for_list ?_
  refine we_name (by rfl) ?_
  refine ⟨ev, _, rfl, ee, fun i ρ' σ' => ρ' = ([("first", .int (posOf W (follows W []) : Nat)), ("leads", .loc le), ("lots", .loc lo), ("words", .loc wa), ("every", .loc ev)] : Loc) ∧ σ' = σ2, ⟨rfl, rfl⟩, fun i ρ' σ' h => by rw [h.2]; exact ee, fun ρ' σ' h => ?_, fun i v ρ' σ' hi hv h => ?_⟩
  · obtain ⟨rfl, rfl⟩ := h
    exact ws_norm _ (by repeat (first | exact Sub.nil _ | refine Sub.cons (by rfl) ?_)) q
  · obtain ⟨rfl, rfl⟩ := h
    obtain ⟨v, hu, rfl⟩ := getMapT hv
    have hvl := evr_mem.mp (List.mem_of_getElem? hu)
    refine turn_name (st _ rfl) fun Q1 q1 _ => ?_
    refine ws_cons ?_
    refine ws_assign (st _ rfl) ?_
    refine we_name (by rfl) ?_
    refine ws_cons ?_
    refine ws_for_str ?_
    refine we_name (by rfl) ?_
    refine ⟨ws v, rfl, ws_ascii v, fun j ρ' σ'' => ρ' = ([("here", .int (posOf W (follows W (v.take j)) : Nat)), ("word", pvW v), ("first", .int (posOf W (follows W []) : Nat)), ("leads", .loc le), ("lots", .loc lo), ("words", .loc wa), ("every", .loc ev)] : Loc) ∧ σ'' = σ', ⟨rfl, rfl⟩, fun ρ' σ' h => ?_, fun j ch ρ' σ' hj hc h => ?_⟩
    · obtain ⟨rfl, rfl⟩ := h
      rw [ws_size, List.take_length]
      have hm := lots_any ok.fit v
      refine ws_cons ?_
      refine ws_if ?_
      refine wt_cmp ?_
      refine we_cmp ?_
      refine we_str ?_
      refine we_sub ?_
      refine we_name (by rfl) ?_
      refine we_name (by rfl) ?_
      refine ⟨pvT (follows W v), lg_list el (by (first | lia | omega)) (by have := posOf_lt hm; have := lots_length W; (first | lia | omega)) (by rw [Int.toNat_natCast, List.getElem?_map, posOf_get hm]; rfl), ?_⟩
      refine ⟨_, lc_in_tup .str (pvW_all _) trivial (by decide), ?_⟩
      rw [show ((follows W v).map pvW).any (PV.beq · (.str (Str.ofString ""))) = _ from any_pvW _ []]
      refine we_cmp ?_
      refine we_name (by rfl) ?_
      refine we_name (by rfl) ?_
      refine ⟨_, lc_in_list .str ew (pvW_all W) trivial (by decide), ?_⟩
      rw [any_pvW]
      refine ⟨_, lc_ne_bool, ?_⟩
      have hb : decide ([] ∈ follows W v) = decide (v ∈ W) := decide_eq_decide.mpr (by rw [follows_mem, List.append_nil])
      rw [hb]
      refine if_bool_false (by cases decide (v ∈ W) <;> rfl) (ws_nil (ws_nil (q1 _ _ _ (by repeat (first | exact Sub.nil _ | refine Sub.cons (by rfl) ?_)) ⟨rfl, rfl⟩)))
    · obtain ⟨rfl, rfl⟩ := h
      obtain ⟨b, hb, rfl⟩ := ws_at hc
      refine turn_name (st _ rfl) fun Q2 q2 _ => ?_
      have et : v.take (j + 1) = v.take j ++ [b] := by rw [List.take_add_one, hb]; rfl
      have hin : v.take j ∈ evr := evr_mem.mpr (by rw [List.length_take]; (first | lia | omega))
      obtain ⟨x, hx⟩ := Option.isSome_iff_exists.mp (get_key.mpr (cp _ hin b))
      have hx2 := sound_get ok sd hx
      rw [← et] at hx2
      subst hx2
      refine ws_cons ?_
      refine ws_assign (st _ rfl) ?_
      refine we_method ?_
      refine we_name (by rfl) ?_
      refine ⟨_, meth_dt es PySem.F.plainAttrs_dict PySem.F.slot_dict_get, ?_⟩
      refine wl_cons ?_
      refine we_tup ?_
      refine wl_cons ?_
      refine we_name (by rfl) ?_
      refine wl_cons ?_
      refine we_name (by rfl) ?_
      refine wl_nil ?_
      refine ⟨by simp, ?_⟩
      refine wl_cons ?_
      refine we_call (gname c.lot.bis.tbis ((hk _).trans rfl)) ?_
      refine wl_cons ?_
      refine we_name (by rfl) ?_
      refine wl_cons ?_
      refine we_tup ?_
      refine wl_nil ?_
      refine ⟨by simp, ?_⟩
      refine wl_nil ?_
      refine place_pos c.lot.bis el (x := []) (lots_nil ok.fit) ?_
      refine wl_nil ?_
      refine lf_get_dt (ks := [.int (posOf W (follows W (v.take j)) : Nat), pvW [b]]) es (keyD_ty (posOf W (follows W (v.take j)), b)).1 (keyD_ty (posOf W (follows W (v.take j)), b)).2 ?_
      rw [show dget (ps.map encD) (.tup [.int (posOf W (follows W (v.take j)) : Nat), pvW [b]]) = _ from hx]
      refine ws_nil (q2 _ _ _ ?_ ⟨rfl, rfl⟩)
      repeat (first | exact Sub.nil _ | refine Sub.cons (by rfl) ?_)
end
end Mine.Internal
end

section
namespace Mine.Internal

theorem sumL_init : ∀ (l : List Int) (a : Int), l.foldl (· + ·) a = a + l.foldl (· + ·) 0
  | [], a => (Int.add_zero a).symm
  | x :: l, a => by
    rw [List.foldl_cons, List.foldl_cons, sumL_init l (a + x), sumL_init l (0 + x)]; (first | lia | omega)
theorem sumL_cons (x : Int) (l : List Int) : sumL (x :: l) = x + sumL l := by
  unfold sumL
  rw [List.foldl_cons, sumL_init]; (first | lia | omega)
theorem any_key {es : List (PV × PV)} {k : PV} : (es.any fun e => PV.beq e.1 k) = true ↔ k ∈ es.map (·.1) := by
  rw [List.any_eq_true, List.mem_map]
  exact exists_congr fun e => and_congr Iff.rfl (PV.beq_iff _ _)
theorem copied_same {es : List (PV × PV)} (h : (es.map (·.1)).Nodup) : copied es = es := by
  have key : ∀ (l acc : List (PV × PV)), ((acc ++ l).map (·.1)).Nodup → l.foldl (fun acc p => dset acc p.1 p.2) acc = acc ++ l := by
    intro l
    induction l with
    | nil => intro acc _; rw [List.append_nil]; rfl
    | cons p l ih =>
      intro acc hn
      rw [List.foldl_cons]
      have hp : p.1 ∉ acc.map (·.1) := fun hm => by
        rw [List.map_append, List.nodup_append] at hn
        exact hn.2.2 _ hm _ (.head _) rfl
      have e : dset acc p.1 p.2 = acc ++ [p] := by
        unfold dset
        rw [if_neg fun h => hp (any_key.mp h)]
      rw [e, ih _ (by rw [List.append_assoc]; exact hn), List.append_assoc]; rfl
  exact key es [] h
theorem bump_sum {k : PV} {a : Int} : ∀ {es : List (PV × PV)}, (es.map (·.1)).Nodup → dget es k = some (.int a) → sumL (valsOf (es.map fun e => if PV.beq e.1 k then (e.1, PV.int (a + 1)) else e)) = sumL (valsOf es) + 1
  | [], _, h => by cases h
  | p :: es, hn, h => by
    rw [List.map_cons, List.nodup_cons] at hn
    unfold dget at h
    rw [List.find?_cons] at h
    rw [List.map_cons]
    unfold valsOf
    rw [List.map_cons, List.map_cons, sumL_cons, sumL_cons]
    cases hb : PV.beq p.1 k with
    | true =>
      rw [hb] at h
      have hp : p.2 = .int a := Option.some.inj h
      have he : (es.map fun e => if PV.beq e.1 k then (e.1, PV.int (a + 1)) else e) = es := by
        conv => rhs; rw [← List.map_id es]
        refine List.map_congr_left fun e hm => if_neg fun hq => ?_
        rw [(PV.beq_iff _ _).mp hb, ← (PV.beq_iff _ _).mp hq] at hn
        exact hn.1 (List.mem_map_of_mem hm)
      rw [he, if_pos rfl, hp]
      show a + 1 + _ = a + _ + 1
      (first | lia | omega)
    | false =>
      rw [hb] at h
      have ih := bump_sum (k := k) (a := a) hn.2 h
      unfold valsOf at ih
      rw [ih, if_neg Bool.false_ne_true]; (first | lia | omega)
structure Tally (es : List (PV × PV)) (t : Nat) : Prop where
  keys : KeysT TK es
  vals : IntVals es
  nodup : (es.map (·.1)).Nodup
  len : es.length ≤ t
  sum : sumL (valsOf es) = t
theorem Tally.add {es : List (PV × PV)} {t : Nat} (T : Tally es t) {k : PV} (hk : ∃ ks, k = .tup ks ∧ HasTy TK (.tup ks) ∧ Hsh 3 (.tup ks)) : Tally (addTab es [(k, .int 1)]) (t + 1) := by
  have e1 : addTab es [(k, .int 1)] = addOne es (k, .int 1) := by unfold addTab; rw [copied_same T.nodup]; rfl
  rw [e1]
  cases hd : dget es k with
  | none =>
    have e2 : addOne es (k, .int 1) = es ++ [(k, .int 1)] := by
      unfold addOne; rw [hd]; exact dset_new hd
    have hm : k ∉ es.map (·.1) := fun h => by
      have := any_key.mpr h
      rw [← dget_isSome, hd] at this; cases this
    rw [e2]
    refine ⟨fun p hp => ?_, fun p hp => ?_, ?_, ?_, ?_⟩
    · rcases List.mem_append.mp hp with h | h
      · exact T.keys p h
      · rw [List.mem_singleton.mp h]; exact hk
    · rcases List.mem_append.mp hp with h | h
      · exact T.vals p h
      · rw [List.mem_singleton.mp h]; exact ⟨1, rfl⟩
    · rw [List.map_append]
      refine List.nodup_append.mpr ⟨T.nodup, List.pairwise_singleton .., fun x hx y hy e => hm ?_⟩
      rw [e, List.mem_singleton.mp hy] at hx; exact hx
    · rw [List.length_append, List.length_singleton]; have := T.len; (first | lia | omega)
    · have h1 : valsOf (es ++ [(k, .int 1)]) = valsOf es ++ [1] := by unfold valsOf; rw [List.map_append]; rfl
      rw [h1]
      unfold sumL
      rw [List.foldl_append]
      show sumL (valsOf es) + 1 = _
      rw [T.sum]; rfl
  | some x =>
    obtain ⟨i, rfl⟩ := dget_vals T.vals hd
    have ha : (es.any fun e => PV.beq e.1 k) = true := by rw [← dget_isSome, hd]; rfl
    have e2 : addOne es (k, .int 1) = es.map fun e => if PV.beq e.1 k then (e.1, PV.int (i + 1)) else e := by
      unfold addOne; rw [hd]
      show dset es k (.int (i + 1)) = _
      unfold dset; rw [if_pos ha]
    have hf : ∀ e ∈ es, (if PV.beq e.1 k then (e.1, PV.int (i + 1)) else e).1 = e.1 := fun e _ => by split <;> rfl
    rw [e2]
    refine ⟨fun p hp => ?_, fun p hp => ?_, ?_, ?_, ?_⟩
    · obtain ⟨e, he, rfl⟩ := List.mem_map.mp hp
      rw [hf e he]; exact T.keys e he
    · obtain ⟨e, he, rfl⟩ := List.mem_map.mp hp
      split
      · exact ⟨_, rfl⟩
      · exact T.vals e he
    · rw [List.map_map, show (es.map ((·.1) ∘ fun e => if PV.beq e.1 k then (e.1, PV.int (i + 1)) else e)) = es.map (·.1) from List.map_congr_left hf]; exact T.nodup
    · rw [List.length_map]; have := T.len; (first | lia | omega)
    · rw [bump_sum T.nodup hd, T.sum]; rfl
section
variable {prog : Program} {w : World} {h₀ : Heap} {n : Nat} {ρ : Loc} {σ : Store}
theorem law_tree {la ea fa ba ia ta aa ca : Addr} {ld ed fd bd nd td ad cd : FuncData} {cc P a : Addr} {mg : Str → Option Value} {sc : List Int} (c : LawCtx prog w h₀ la ea fa ba ia ta aa ca ld ed fd bd nd td ad cd cc P a mg sc) {env : Env} {c1 c2 c3 : Addr} (e : LawEnv env c1 c2 c3) {ev wa lo : Addr} {W : List Wd} (ok : WOk W) (hP : σ P = some (.raw (tabObj #[])))
    (ee : σ ev = some (.lst (evr.map pvW))) (ew : σ wa = some (.lst (W.map pvW))) (el : σ lo = some (.lst ((lots W).map pvT))) {Q : PFlow → Loc → Store → Prop}
    (q : ∀ σ', (∃ ps, σ' P = some (.raw (tabObj ps))) → σ' ev = some (.lst (evr.map pvW)) → σ' wa = some (.lst (W.map pvW)) → σ' lo = some (.lst ((lots W).map pvT)) → WS prog w h₀ (n + 3) env (execs (lawBody.drop 9) env) [("lots", .loc lo), ("words", .loc wa), ("every", .loc ev)] σ' Q) :
    WS prog w h₀ (n + 3) env (execs (lawBody.drop 8) env) [("lots", .loc lo), ("words", .loc wa), ("every", .loc ev)] σ Q := by
  obtain ⟨hk, hcs, hint, hblk⟩ := e
  have off : ∀ {x : Addr} {xs : List PV}, σ x = some (.lst xs) → unk σ P x = some (.lst xs) := fun {x} {xs} h => by
    rw [unk_ne fun q => by rw [q, hP] at h; cases h]; exact h
  refine ws_cons ?_
  refine ws_if ?_
  refine wt_cmp ?_
  refine we_bin ?_
  refine we_call (gname c.ttree ((hk _).trans rfl)) ?_
  refine wl_cons ?_
  refine we_name (by rfl) ?_
  refine wl_nil ?_
  refine tree_spec c.tree ew ok hP fun σ2 t ht l2 eP => ?_
  refine we_int ?_
  refine lb_add_int ?_
  refine we_call (gname c.lot.bis.tlen ((hk _).trans rfl)) ?_
  refine wl_cons ?_
  refine we_name (by rfl) ?_
  refine wl_nil ?_
  have hl := lots_length W
  refine lcall_fn (lf_len_list (l2.lst (off el)) (by rw [List.length_map]; (first | lia | omega)) ?_)
  refine ⟨_, lc_ne, ?_⟩
  exact if_not_pos (by rw [List.length_map]; (first | lia | omega)) (ws_nil (q σ2 eP (l2.lst (off ee)) (l2.lst (off ew)) (l2.lst (off el))))
theorem law_calls {la ea fa ba ia ta aa ca : Addr} {ld ed fd bd nd td ad cd : FuncData} {cc P a : Addr} {mg : Str → Option Value} {sc : List Int} (c : LawCtx prog w h₀ la ea fa ba ia ta aa ca ld ed fd bd nd td ad cd cc P a mg sc) {env : Env} {c1 c2 c3 : Addr} (e : LawEnv env c1 c2 c3) {ev wa lo : Addr} {W : List Wd} (ok : WOk W)
    (ee : σ ev = some (.lst (evr.map pvW))) (ew : σ wa = some (.lst (W.map pvW))) (el : σ lo = some (.lst ((lots W).map pvT))) {Q : PFlow → Loc → Store → Prop}
    (q : ∀ σ', Less σ σ' → WS prog w h₀ (n + 3) env (execs (lawBody.drop 12) env) [("lots", .loc lo), ("words", .loc wa), ("every", .loc ev)] σ' Q) :
    WS prog w h₀ (n + 3) env (execs (lawBody.drop 9) env) [("lots", .loc lo), ("words", .loc wa), ("every", .loc ev)] σ Q := by
  obtain ⟨hk, hcs, hint, hblk⟩ := e
  have st : ∀ y, (scopeAt Challenge.pw_ho0003_01 11).names.lookup y = some .local → Stor env y := fun y h => .inl ((hk y).trans h)
  refine ws_cons ?_
  refine ws_assign (st _ rfl) ?_
  refine we_dict0_dt TK c.tree.big fun k0 hk0 => ?_
  refine ws_cons ?_
  refine ws_for_list ?_
  refine we_name (by rfl) ?_
  refine ⟨ev, _, rfl, upd_old ee hk0, fun i ρ' σ' => ∃ k es, ρ' = ([("calls", .loc k), ("lots", .loc lo), ("words", .loc wa), ("every", .loc ev)] : Loc) ∧ Less σ σ' ∧ σ' k = some (.dt TK es) ∧ Tally es i, ⟨k0, [], rfl, Less.upd_free hk0, upd_same _ _ _, fun p hp => absurd hp List.not_mem_nil, fun p hp => absurd hp List.not_mem_nil, .nil, Nat.le_refl _, rfl⟩, fun i ρ' σ' h => by obtain ⟨_, _, _, k1, _⟩ := h; exact k1.lst ee, fun ρ' σ' h => ?_, fun i v ρ' σ' hi hv h => ?_⟩
  · obtain ⟨k, es, rfl, k1, k2, k3⟩ := h
    refine ws_cons ?_
    refine ws_if ?_
    refine wt_cmp ?_
    refine we_call (gname c.tcnt ((hk _).trans rfl)) ?_
    refine wl_cons ?_
    refine we_name (by rfl) ?_
    refine wl_nil ?_
    refine count_spec c.cnt c.cntS k2 k3.vals (c.cntB k) ?_
    refine we_call (gname c.lot.bis.tlen ((hk _).trans rfl)) ?_
    refine wl_cons ?_
    refine we_name (by rfl) ?_
    refine wl_nil ?_
    refine lcall_fn (lf_len_list (k1.lst ee) (by rw [List.length_map]; decide) ?_)
    refine ⟨_, lc_ne, ?_⟩
    refine if_not_pos k3.sum (ws_nil ?_)
    exact ws_norm _ (by repeat (first | exact Sub.nil _ | refine Sub.cons (by rfl) ?_)) (q σ' k1)
  · obtain ⟨k, es, rfl, k1, k2, k3⟩ := h
    obtain ⟨u, hu, rfl⟩ := getMapT hv
    rw [List.length_map] at hi
    have hi : i < 15 := hi
    have hul := evr_mem.mp (List.mem_of_getElem? hu)
    refine turn_name (st _ rfl) fun Q1 q1 _ => ?_
    refine ws_cons ?_
    refine ws_assign (st _ rfl) ?_
    refine we_call (gname c.tree.tadd ((hk _).trans rfl)) ?_
    refine wl_cons ?_
    refine we_name (by rfl) ?_
    refine wl_cons ?_
    refine we_dict1 TK c.tree.big fun d hd => ?_
    refine we_tup ?_
    refine wl_cons ?_
    refine we_str ?_
    refine wl_cons ?_
    refine pos_walk c.lot.bis c.lot.fol c.lot.tfol ((hk _).trans rfl) ((hk _).trans rfl) ok (upd_old (k1.lst el) hd) (upd_old (k1.lst ew) hd) (by rfl) (by rfl) ?_
    refine we_name (by rfl) ?_
    refine ⟨u, rfl, by (first | lia | omega), rfl, fun σ3 l3 => ?_⟩
    refine wl_cons ?_
    refine we_str ?_
    refine wl_nil ?_
    refine ⟨by simp, ?_⟩
    refine we_int ?_
    have hkey : ∃ ks, PV.tup [.str (Str.ofString "lot"), .int (posOf W (follows W u) : Nat), .str (Str.ofString "begun")] = .tup ks ∧ HasTy TK (.tup ks) ∧ Hsh 3 (.tup ks) := ⟨_, rfl, ⟨trivial, trivial, trivial, trivial⟩, ⟨trivial, trivial, trivial, trivial⟩⟩
    refine ⟨_, rfl, ⟨trivial, trivial, trivial, trivial⟩, ⟨trivial, trivial, trivial, trivial⟩, l3 _ _ (upd_same _ _ _), ?_⟩
    have k4 := l3 _ _ (upd_old (o' := .dt TK []) k2 hd)
    have hkd : k ≠ d := fun h => by rw [h, hd] at k2; cases k2
    have l4 := ((k1.free (o := .dt TK []) hd).trans l3.less).updFree (none_of_less k1 hd)
    generalize posOf W (follows W u) = j at *
    generalize PV.tup [.str (Str.ofString "lot"), .int (j : Nat), .str (Str.ofString "begun")] = key at *
    obtain ⟨ks, rfl, h1, h2⟩ := hkey
    refine wl_nil ?_
    refine add_spec c.tree.add c.tree.addS c.tree.big c.tree.tisi c.tree.ttuple (es := es) (by rw [upd_ne _ _ hkd]; exact k4) (upd_same _ _ _) k3.keys (fun p hp => ?_) k3.vals (fun p hp => ?_) (by have := k3.len; (first | lia | omega)) (by simp) (c.tree.addB _ _) fun k5 hk5 => ?_
    · rw [List.mem_singleton.mp hp]; exact ⟨ks, rfl, h1, h2⟩
    · rw [List.mem_singleton.mp hp]; exact ⟨1, rfl⟩
    refine ws_nil (q1 _ _ _ ?_ ⟨k5, _, rfl, (l4 _).free hk5, upd_same _ _ _, k3.add ⟨ks, rfl, h1, h2⟩⟩)
    repeat (first | exact Sub.nil _ | refine Sub.cons (by rfl) ?_)
end
end Mine.Internal
end

section
namespace Mine.Internal

theorem lots_get {W : List Wd} {i : Nat} (h : i < (lots W).length) : ∃ A, (lots W)[i]? = some A ∧ A ∈ lots W ∧ (((lots W).map pvT)[i]? = some (pvT A)) :=
  ⟨_, List.getElem?_eq_getElem h, List.getElem_mem h, by rw [List.getElem?_map, List.getElem?_eq_getElem h]; rfl⟩
section
variable {prog : Program} {w : World} {h₀ : Heap} {n : Nat} {ρ : Loc} {σ : Store}
theorem law_apart {la ea fa ba ia ta aa ca : Addr} {ld ed fd bd nd td ad cd : FuncData} {cc P a : Addr} {mg : Str → Option Value} {sc : List Int} (c : LawCtx prog w h₀ la ea fa ba ia ta aa ca ld ed fd bd nd td ad cd cc P a mg sc) {env : Env} {c1 c2 c3 : Addr} (e : LawEnv env c1 c2 c3) {ev wa lo : Addr} {W : List Wd} (ok : WOk W)
    (ee : σ ev = some (.lst (evr.map pvW))) (el : σ lo = some (.lst ((lots W).map pvT))) {Q : PFlow → Loc → Store → Prop} (q : ∀ ρ' σ', Less σ σ' → Q (.ret (.bool true)) ρ' σ') :
    WS prog w h₀ (n + 3) env (execs (lawBody.drop 12) env) [("lots", .loc lo), ("words", .loc wa), ("every", .loc ev)] σ Q := by
  obtain ⟨hk, hcs, hint, hblk⟩ := e
  have st : ∀ y, (scopeAt Challenge.pw_ho0003_01 11).names.lookup y = some .local → Stor env y := fun y h => .inl ((hk y).trans h)
  have stc : ∀ y, (scopeAt Challenge.pw_ho0003_01 11).names.lookup y = some .cell → (∃ k, env.cells.lookup y = some k) → Stor env y := fun y h hc => .inr ⟨(hk y).trans h, hc⟩
  have hl := lots_length W
  have hll : ((lots W).map pvT).length = (lots W).length := List.length_map ..
  refine ws_cons ?_
  refine ws_for_range (gname c.tree.trange ((hk _).trans rfl)) ?_
  refine wl_cons ?_
  refine we_call (gname c.lot.bis.tlen ((hk _).trans rfl)) ?_
  refine wl_cons ?_
  refine we_name (by rfl) ?_
  refine wl_nil ?_
  refine lcall_fn (lf_len_list el (by (first | lia | omega)) ?_)
  refine wl_nil ?_
  refine ⟨_, rfl, by (first | lia | omega), fun i ρ' σ' => ρ' = ([("lots", .loc lo), ("words", .loc wa), ("every", .loc ev)] : Loc) ∧ Less σ σ', ⟨rfl, Less.refl _⟩, fun ρ' σ' h => ?_, fun i ρ' σ' hi h => ?_⟩
  · obtain ⟨rfl, k1⟩ := h
    refine ws_cons ?_
    refine ws_return ?_
    refine we_bool ?_
    exact q _ _ k1
  · obtain ⟨rfl, k1⟩ := h
    rw [hll] at hi
    obtain ⟨A, hA, hAm, hAg⟩ := lots_get hi
    refine turn_name (stc _ rfl ⟨_, by rw [hcs]; rfl⟩) fun Q1 q1 _ => ?_
    refine ws_cons ?_
    refine ws_for_range (gname c.tree.trange ((hk _).trans rfl)) ?_
    refine wl_cons ?_
    refine we_name (by rfl) ?_
    refine wl_nil ?_
    refine ⟨i, rfl, by (first | lia | omega), fun j ρ' σ' => ρ' = ([("one", .int i), ("lots", .loc lo), ("words", .loc wa), ("every", .loc ev)] : Loc) ∧ Less σ σ', ⟨rfl, k1⟩, fun ρ' σ' h => ?_, fun j ρ' σ' hj h => ?_⟩
    · obtain ⟨rfl, k2⟩ := h
      refine ws_nil (q1 _ _ _ (by repeat (first | exact Sub.nil _ | refine Sub.cons (by rfl) ?_)) ⟨rfl, k2⟩)
    · obtain ⟨rfl, k2⟩ := h
      obtain ⟨B, hB, hBm, hBg⟩ := lots_get (W := W) (i := j) (by (first | lia | omega))
      have hne : A ≠ B := fun h => by
        obtain ⟨g1, x1⟩ := List.getElem?_eq_some_iff.mp hA
        obtain ⟨g2, x2⟩ := List.getElem?_eq_some_iff.mp hB
        have := (List.getElem_inj (h₀ := g1) (h₁ := g2) (lots_nodup W)).mp (by rw [x1, x2, h])
        (first | lia | omega)
      obtain ⟨t, ht, htd⟩ := lots_apart ok hAm hBm hne
      have ee2 := k2.lst ee
      have el2 := k2.lst el
      refine turn_name (stc _ rfl ⟨_, by rw [hcs]; rfl⟩) fun Q2 q2 _ => ?_
      refine ws_cons ?_
      refine ws_compb hcs (st _ rfl) [("other", c3), ("one", c2), ("lots", c1)] [("other", .int j), ("one", .int i), ("lots", .loc lo)] evr pvW unW unW_pv (fun v => if (decide (v ∈ A) != decide (v ∈ B)) = true then [pvW v] else []) (by rfl) (by rfl) (by rfl) (SubL.cons (by first | exact .head _ | exact .tail _ (.head _) | exact .tail _ (.tail _ (.head _)) | exact .tail _ (.tail _ (.tail _ (.head _))) | exact .tail _ (.tail _ (.tail _ (.tail _ (.head _))))) (SubL.cons (by first | exact .head _ | exact .tail _ (.head _) | exact .tail _ (.tail _ (.head _)) | exact .tail _ (.tail _ (.tail _ (.head _))) | exact .tail _ (.tail _ (.tail _ (.tail _ (.head _))))) (SubL.cons (by first | exact .head _ | exact .tail _ (.head _) | exact .tail _ (.tail _ (.head _)) | exact .tail _ (.tail _ (.tail _ (.head _))) | exact .tail _ (.tail _ (.tail _ (.tail _ (.head _))))) (SubL.nil)))) (show List.Nodup (["other", "one", "lots"] : List Str) from by decide) (fun C => .cons (by rfl) (.inl ((hk _).trans rfl)) (by rfl) (by rw [hcs]; rfl) (by rfl) (.cons (by rfl) (.inl ((hk _).trans rfl)) (by rfl) (by rw [hcs]; rfl) (by rfl) (.cons (by rfl) (.inl ((hk _).trans rfl)) (by rfl) (by rw [hcs]; rfl) (by rfl) (.nil)))) (swaps_true hblk ((hk _).trans rfl) (by rfl) (by rfl)) ?_
      have hfl : evr.flatMap (fun v : Wd => if (decide (v ∈ A) != decide (v ∈ B)) = true then [pvW v] else []) = (evr.filter fun v => decide (v ∈ A) != decide (v ∈ B)).map pvW := flat_filter (fun v : Wd => decide (v ∈ A) != decide (v ∈ B)) pvW evr
      have hfl2 : ((evr.filter fun v => decide (v ∈ A) != decide (v ∈ B)).map pvW).length ≤ 15 := by
        rw [List.length_map]; exact List.length_filter_le ..
      refine wi_list ?_
      refine we_name (by rfl) ?_
      refine ⟨ev, evr.map pvW, rfl, ee2, itm_list ee2, by rw [hfl]; (first | lia | omega), ?_, ?_⟩
      · intro C D hD v hv
        have el3 := upd_old (o' := .lst []) el2 hD
        refine clause_name (onlyLoc _) (storL (compKind rfl (by decide))) (by repeat (first | exact Sub.nil _ | refine Sub.cons (by rfl) ?_)) ?_
        refine jel_if (onlyLoc _) hD ?_
        refine wt_cmp ?_
        refine we_cmp ?_
        refine we_name (by rfl) ?_
        refine we_sub ?_
        refine we_name (by rfl) ?_
        refine we_name (by rfl) ?_
        refine ⟨pvT A, lg_list el2 (by (first | lia | omega)) (by (first | lia | omega)) hAg, ?_⟩
        refine ⟨_, lc_in_tup .str (pvW_all _) trivial (by decide), ?_⟩
        rw [any_pvW]
        refine we_cmp ?_
        refine we_name (by rfl) ?_
        refine we_sub ?_
        refine we_name (by rfl) ?_
        refine we_name (by rfl) ?_
        refine ⟨pvT B, lg_list el2 (by (first | lia | omega)) (by (first | lia | omega)) hBg, ?_⟩
        refine ⟨_, lc_in_tup .str (pvW_all _) trivial (by decide), ?_⟩
        rw [any_pvW]
        refine ⟨_, lc_ne_bool, rfl, ?_⟩
        cases (decide (v ∈ A) != decide (v ∈ B))
        · simp only [Bool.false_eq_true, if_false]
        · simp only [if_true]
          refine jel_emit (onlyLoc _) hD rfl ?_
          refine we_name (by rfl) ?_
          exact ⟨rfl, rfl⟩
      intro D hD
      rw [hfl]
      have hx : ∃ x xs, (evr.filter fun v => decide (v ∈ A) != decide (v ∈ B)).map pvW = x :: xs := by
        have hm : t ∈ evr.filter fun v => decide (v ∈ A) != decide (v ∈ B) := List.mem_filter.mpr ⟨ht, by
          rw [bne_iff_ne]; exact fun h => htd (propext (decide_eq_decide.mp h))⟩
        cases hq : (evr.filter fun v => decide (v ∈ A) != decide (v ∈ B)).map pvW with
        | nil => rw [List.map_eq_nil_iff.mp hq] at hm; cases hm
        | cons x xs => exact ⟨x, xs, rfl⟩
      have hty : AllTy .str ((evr.filter fun v => decide (v ∈ A) != decide (v ∈ B)).map pvW) := AllTy.iff.mpr (pvW_all _)
      generalize (evr.filter fun v => decide (v ∈ A) != decide (v ∈ B)).map pvW = X at *
      obtain ⟨x, xs, rfl⟩ := hx
      refine ws_cons ?_
      refine ws_if ?_
      refine wt_cmp ?_
      refine we_name (by rfl) ?_
      refine we_list ?_
      refine wl_nil ?_
      refine ⟨by simp, fun d hd => ?_⟩
      refine ⟨_, lc_eq_list (upd_old (upd_same _ _ _) hd) (upd_same _ _ _) (Nat.le_trans (AllTy.deep .str _ hty) (by decide)) trivial, ?_⟩
      refine if_bool_false rfl (ws_nil (ws_nil (q2 _ _ _ (by repeat (first | exact Sub.nil _ | refine Sub.cons (by rfl) ?_)) ⟨rfl, (k2.free hD).free hd⟩)))
end
end Mine.Internal
end

section
namespace Mine.Internal

section
variable {prog : Program} {w : World} {h₀ : Heap} {n : Nat} {ρ : Loc} {σ : Store}
theorem law_walk {la ea fa ba ia ta aa ca : Addr} {ld ed fd bd nd td ad cd : FuncData} {cc P a : Addr} {mg : Str → Option Value} {sc : List Int} (c : LawCtx prog w h₀ la ea fa ba ia ta aa ca ld ed fd bd nd td ad cd cc P a mg sc) {env : Env} {c1 c2 c3 : Addr} (e : LawEnv env c1 c2 c3) (hP : σ P = some (.raw (tabObj #[]))) :
    WS prog w h₀ (n + 3) env (execs lawBody env) [("script", .loc a)] σ fun f _ σ' => f = .ret (.bool true) ∧ ∃ ps, σ' P = some (.raw (tabObj ps)) := by
  refine law_words c e fun σ1 ev wa l1 ee ew => ?_
  have ok := wordsOf_ok sc
  generalize wordsOf sc = W at *
  refine law_lots c e ok ew fun σ2 lo l2 el => ?_
  refine law_leads c e ok (l2.lst ee) (l2.lst ew) el fun σ3 le ps l3 es sd cp => ?_
  have l23 := l2.trans l3
  refine law_machine c e ok (l23.lst ee) (l23.lst ew) (l3.lst el) es sd cp fun σ4 l4 => ?_
  have l24 := l23.trans l4
  have hP4 := (l1.trans l24).raw hP
  refine law_tree c e ok hP4 (l24.lst ee) (l24.lst ew) ((l3.trans l4).lst el) fun σ5 eP ee ew el => ?_
  refine law_calls c e ok ee ew el fun σ6 l6 => ?_
  refine law_apart c e ok (l6.lst ee) (l6.lst el) fun _ _ l7 => ⟨rfl, ?_⟩
  obtain ⟨ps, eP⟩ := eP
  exact ⟨ps, (l6.trans l7).raw eP⟩
end
end Mine.Internal
end

section
namespace Mine.Internal

theorem binds0 {K : Frag} {h₀ : Heap} {fd : FuncData} (X : K.In h₀) (e : ∀ S, peek K S (bindArgs fd ⟨[], []⟩) = some ([] : List (Str × Value))) : Binds h₀ fd [] [] := fun s vs ex i => by
  cases i; exact ⟨_, kp_binds (X.keeps ex) fun S => e S, rfl, .nil⟩
theorem law_end1 {prog : Program} {w : World} {c : ClaimW} {cl : Str → Option Addr} {mean : ExcName → Option Value} {args : List WData} {s₁ : Shared} {G h₁ : Heap} {tk : Nat} {env : Env} {body : List Stmt} {A : Around} {ρ : Loc} {σ : Store} {n : Nat} {E : Value → Shared → Prop} {cc P : Addr}
    (ok : Ok n A) (S : SRel prog w G σ h₁) (X : ERel G env ρ σ h₁) (hL : G.objs.size ≤ env.locals) (hg : s₁.gens = #[]) (hn : ∀ cls, c.raises args cls = false) (hp : c.post args (.bool true) args = true)
    (h : WS prog w G n env (execs body env) ρ σ fun f _ σ' => f = .ret (.bool true) ∧ ∃ ps, σ' P = some (.raw (tabObj ps))) :
    wpAny (model prog w) A (execs body env) (fun f s' => GoodW c cl mean args { heap := G, gens := s₁.gens, drawn := s₁.drawn, toks := s₁.toks, os := s₁.os } (.ok (.ret (match f with | .ret v => v | _ => .none))) s' ∧ GrownAll [(cc, P)] s'.heap) E { heap := h₁, gens := s₁.gens, drawn := s₁.drawn, toks := tk, os := s₁.os } := by
  refine wpAny_mono (h A { heap := h₁, gens := s₁.gens, drawn := s₁.drawn, toks := tk, os := s₁.os } ok S X (fun _ hp => by cases hp)) (fun f s' x => ?_) fun _ _ e => e.elim
  obtain ⟨h', tk', b, ρ', σ', rfl, p, S, X', sub, r, q⟩ := x
  obtain ⟨rfl, ps, hP⟩ := q
  refine ⟨?_, ⟨ps, (S.objs _ _ hP).1⟩, trivial⟩
  cases r with
  | ret i =>
    cases i
    obtain ⟨m, hm⟩ := X'.ns
    exact goodW_bool (L := env.locals) (m := m) ⟨hm, S.base, hL⟩ hg hn hp rfl
theorem fin01 {K : Frag} {w : World} {s₁ : Shared} {p : Program} {loose : List Str} {mean' : ExcName → Option Value} {mg mb : Str → Option Value} {G : Heap} {cc P L : Addr} (KX : K.In G) (T : Top p loose mean' mg mb G) (CH : CodeHd G cc P) (hLP : P < L) (hLG : L = G.objs.size)
    {fa : Addr} {cd : Value} {name : Str} {h₁ : Heap} {tk : Nat} {m : Str → Option Value} (F : Fr G L h₁ m) {o1 o2 o3 : Obj} {v1 v2 v3 : Option Value}
    (N : News G L h₁ [(L + 1 + 1 + 1, o1), (L + 1 + 1, o2), (L + 1, o3), (P, tabObj #[])]) (d1 : o1.data = .cell v1) (d2 : o2.data = .cell v2) (d3 : o3.data = .cell v3)
    {a : Addr} {vs : List Value} {ns : List Int} (hL : G.IsList a vs.toArray) (hI : IntsAre vs ns) (hcond : ¬ ((63 : Nat) : Int) < (ns.length : Int)) (hg : s₁.gens = #[]) (hm : m "script" = some (.ref a))
    {c : ClaimW} {cl : Str → Option Addr} {mean : ExcName → Option Value} {args : List WData} {E : Value → Shared → Prop} (hn : ∀ cls, c.raises args cls = false) (hp : c.post args (.bool true) args = true)
    {a1 a2 a4 a5 a7 a8 a9 a10 : Addr} {f1 f2 f4 f5 f7 f8 f9 f10 : FuncData}
    (t1 : nsIn K mainGlobals "insort_left" = some (some (.ref a1))) (t2 : nsIn K mainGlobals "bisect_left" = some (some (.ref a2))) (t4 : nsIn K mainGlobals "add_callers" = some (some (.ref a4))) (t5 : nsIn K mainGlobals "count_calls" = some (some (.ref a5)))
    (t7 : nsIn K mainGlobals "_law_every" = some (some (.ref a7))) (t8 : nsIn K mainGlobals "_law_follows" = some (some (.ref a8))) (t9 : nsIn K mainGlobals "_law_lots" = some (some (.ref a9))) (t10 : nsIn K mainGlobals "_law_tree" = some (some (.ref a10)))
    (k1 : FnIn K a1 Challenge.pw_ho0003_01 1 f1) (k2 : FnIn K a2 Challenge.pw_ho0003_01 2 f2) (k4 : FnIn K a4 Challenge.pw_ho0003_01 4 f4) (k5 : FnIn K a5 Challenge.pw_ho0003_01 5 f5)
    (k7 : FnIn K a7 Challenge.pw_ho0003_01 7 f7) (k8 : FnIn K a8 Challenge.pw_ho0003_01 8 f8) (k9 : FnIn K a9 Challenge.pw_ho0003_01 9 f9) (k10 : FnIn K a10 Challenge.pw_ho0003_01 10 f10) (kc : f10.code = .ref cc) (hbig : sysModules < a10)
    {tl1 tl2 : Tok} (b1 : ∀ v u S, peek K S (bindArgs f1 ⟨[v, u], []⟩) = some ([("a", v), ("x", u), ("lo", .int 0 tl1), ("hi", .none), ("key", .none)] : List (Str × Value)))
    (b2 : ∀ v u S, peek K S (bindArgs f2 ⟨[v, u], []⟩) = some ([("a", v), ("x", u), ("lo", .int 0 tl2), ("hi", .none), ("key", .none)] : List (Str × Value))) (b2' : ∀ v u x y S, peek K S (bindArgs f2 ⟨[v, u, x, y], []⟩) = some ([("a", v), ("x", u), ("lo", x), ("hi", y), ("key", .none)] : List (Str × Value)))
    (b4 : ∀ v u S, peek K S (bindArgs f4 ⟨[v, u], []⟩) = some ([("target", v), ("source", u)] : List (Str × Value))) (b5 : ∀ v S, peek K S (bindArgs f5 ⟨[v], []⟩) = some ([("callers", v)] : List (Str × Value)))
    (b7 : ∀ S, peek K S (bindArgs f7 ⟨[], []⟩) = some ([] : List (Str × Value))) (b8 : ∀ v u S, peek K S (bindArgs f8 ⟨[v, u], []⟩) = some ([("words", v), ("begun", u)] : List (Str × Value))) (b9 : ∀ v S, peek K S (bindArgs f9 ⟨[v], []⟩) = some ([("words", v)] : List (Str × Value))) (b10 : ∀ v S, peek K S (bindArgs f10 ⟨[v], []⟩) = some ([("words", v)] : List (Str × Value)))
    (u1 : nsIn K mainGlobals "sorted" = some none) (u2 : nsIn K mainGlobals "dict" = some none) (u3 : nsIn K mainGlobals "range" = some none) (u4 : nsIn K mainGlobals "len" = some none) (u5 : nsIn K mainGlobals "tuple" = some none) (u9 : nsIn K mainGlobals "isinstance" = some none) :
    wpAny (model Challenge.pw_ho0003_01 w) (callerA.deeper (envOfC name (scopeAt Challenge.pw_ho0003_01 11) L fa cd)) (execs (bodyAt Challenge.pw_ho0003_01 11) (envOfC name (scopeAt Challenge.pw_ho0003_01 11) L fa cd))
      (fun f s' => GoodW c cl mean args { heap := G, gens := s₁.gens, drawn := s₁.drawn, toks := s₁.toks, os := s₁.os } (.ok (.ret (match f with | .ret v => v | _ => .none))) s' ∧ GrownAll [(cc, P)] s'.heap) E { heap := h₁, gens := s₁.gens, drawn := s₁.drawn, toks := tk, os := s₁.os } := by
  have hl := T.nolimit
  have nP := N (P, tabObj #[]) (.tail _ (.tail _ (.tail _ (.head _))))
  have hgP : mainGlobals ≠ P := fun q => by
    obtain ⟨o, es, ep, e, hd, _⟩ := T.g
    rw [q, nP.2.2] at e; cases e
  have hb : G.BuiltinsAt mg P := by
    obtain ⟨bm, ob, b1, b2, b3, b4, b5, b6⟩ := T.bmain
    refine ⟨bm, ob, b1, b2, fun q => ?_, fun q => ?_, b3, b4, b5, b6⟩
    · obtain ⟨o, es, ep, e, hd, _⟩ := T.g
      rw [q, e] at b3; cases b3; rw [hd] at b6; cases b6
    · rw [q, nP.2.2] at b3; cases b3
  have big : ∃ b o, sysModules < b ∧ G.get? b = some o := by
    obtain ⟨c', d, sl, e, _⟩ := k10
    exact ⟨a10, _, hbig, KX _ _ e⟩
  have tlen : TopIs G "len" (.builtin "len") := top_built KX T u4 rfl (by decide)
  have tsorted : TopIs G "sorted" (.builtin "sorted") := top_built KX T u1 rfl (by decide)
  have ttuple : TopIs G "tuple" (.type "tuple") := top_built KX T u5 rfl (by decide)
  have C : LawCtx Challenge.pw_ho0003_01 w G a9 a7 a8 a2 a1 a10 a4 a5 f9 f7 f8 f2 f1 f10 f4 f5 cc P a mg ns := {
    lot := {
      f := k9.ok KX hl
      hs := k9.scope
      bind := fun x => binds1 KX _ b9 (fun _ => rfl) fun h v i => .cons i .nil
      ev := k7.ok KX hl
      evS := k7.scope
      evB := binds0 KX b7
      tev := top_own KX T t7
      fol := {
        f := k8.ok KX hl
        hs := k8.scope
        bind := fun x y => binds2 KX _ b8 (fun _ _ => rfl) fun h v u i j => .cons i (.cons j .nil)
        tlen := tlen
        tsorted := tsorted
        ttuple := ttuple }
      tfol := top_own KX T t8
      bis := {
        bis := k2.ok KX hl
        bisS := k2.scope
        bisB2 := fun l x => binds2 KX _ b2 (fun _ _ => rfl) fun h v u i j => .cons i (.cons j (.cons (.int _ _) (.cons .none (.cons .none .nil))))
        bisB4 := fun l x => binds4 KX _ b2' (fun _ _ _ _ => rfl) fun h v u x y i j k l => .cons i (.cons j (.cons k (.cons l (.cons .none .nil))))
        tbis := top_own KX T t2
        ins := k1.ok KX hl
        insS := k1.scope
        insB := fun l x => binds2 KX _ b1 (fun _ _ => rfl) fun h v u i j => .cons i (.cons j (.cons (.int _ _) (.cons .none (.cons .none .nil))))
        tins := top_own KX T t1
        tlen := tlen } }
    tree := {
      f := k10.ok KX hl
      hs := k10.scope
      bind := fun x => binds1 KX _ b10 (fun _ => rfl) fun h v i => .cons i .nil
      code := kc
      hd := CH
      hg := T.g
      hb := hb
      hgP := hgP
      lim := fun h e => hl.keeps e
      big := big
      add := k4.ok KX hl
      addS := k4.scope
      addB := fun x y => binds2 KX _ b4 (fun _ _ => rfl) fun h v u i j => .cons i (.cons j .nil)
      tadd := top_own KX T t4
      tisi := top_built KX T u9 rfl (by decide)
      ttuple := ttuple
      tsorted := tsorted
      tdict := top_built KX T u2 rfl (by decide)
      trange := top_built KX T u3 rfl (by decide)
      tlen := tlen }
    tlots := top_own KX T t9
    ttree := top_own KX T t10
    cnt := k5.ok KX hl
    cntS := k5.scope
    cntB := fun x => binds1 KX _ b5 (fun _ => rfl) fun h v i => .cons i .nil
    tcnt := top_own KX T t5
    script := script_at hL hI
    scLen := by (first | lia | omega) }
  have hcs : (envOfC name (scopeAt Challenge.pw_ho0003_01 11) L fa cd).cells = ([("other", L + 1 + 1 + 1), ("one", L + 1 + 1), ("lots", L + 1)] : List (Str × Addr)) := rfl
  have e : LawEnv (envOfC name (scopeAt Challenge.pw_ho0003_01 11) L fa cd) (L + 1) (L + 1 + 1) (L + 1 + 1 + 1) := ⟨fun y => rfl, hcs, rfl, rfl⟩
  have pw : ∀ L : Nat, ([("other", L + 1 + 1 + 1), ("one", L + 1 + 1), ("lots", L + 1)] : List (Str × Nat)).Pairwise fun x y => x.2 ≠ y.2 := fun L => by simp; (first | lia | omega)
  have X0 : ERel G (envOfC name (scopeAt Challenge.pw_ho0003_01 11) L fa cd) [("script", .loc a)] noStore h₁ := by
    refine erel0 F hLG rfl rfl rfl rfl (fun q hq => ?_) (by rw [hcs]; exact pw L) rfl hm
    rw [hcs] at hq
    simp only [List.mem_cons, List.not_mem_nil, or_false] at hq
    rcases hq with rfl | rfl | rfl
    · obtain ⟨n1, n2, n3⟩ := N _ (.head _)
      exact ⟨o1, v1, n1, d1, n2, n3⟩
    · obtain ⟨n1, n2, n3⟩ := N _ (.tail _ (.head _))
      exact ⟨o2, v2, n1, d2, n2, n3⟩
    · obtain ⟨n1, n2, n3⟩ := N _ (.tail _ (.tail _ (.head _)))
      exact ⟨o3, v3, n1, d3, n2, n3⟩
  have off : ∀ b, L ≤ b → upd noStore P (.raw (tabObj #[])) b = none := fun b hb => upd_ne _ _ (Nat.ne_of_gt (Nat.lt_of_lt_of_le hLP hb))
  refine law_end1 (n := 3) (ρ := [("script", .loc a)]) (σ := upd noStore P (.raw (tabObj #[]))) ⟨rfl, by show 1 + claimMargin + 1 + 2 * 3 ≤ 500; decide, by show 4 + 3 + 40 * 3 ≤ 9000; decide⟩ ⟨F.keep, trivial, fun b o eb => ?_, fun b o eb => ?_⟩
    ⟨X0.kind, X0.glob, X0.bins, X0.ns, ⟨X0.nsoff.1, off L (Nat.le_refl _)⟩, fun q hq => ⟨(X0.cells q hq).1, (X0.cells q hq).2.1, ?_, (X0.cells q hq).2.2.2⟩, X0.apart, X0.vars⟩ (Nat.le_of_eq hLG.symm) hg hn hp (law_walk C e (upd_same _ _ _))
  · by_cases h : b = P
    · rw [h, upd_same] at eb; cases eb
      rw [h]; exact ⟨nP.1, fun e => by cases e⟩
    · rw [upd_ne _ _ h] at eb; cases eb
  · by_cases h : b = P
    · rw [h]; exact nP.2.2
    · rw [upd_ne _ _ h] at eb; cases eb
  · rw [hcs] at hq
    simp only [List.mem_cons, List.not_mem_nil, or_false] at hq
    rcases hq with rfl | rfl | rfl
    · exact off _ (Nat.le_add_right L 3)
    · exact off _ (Nat.le_add_right L 2)
    · exact off _ (Nat.le_add_right L 1)
end Mine.Internal
end

section
namespace Mine.Internal
noncomputable def kfrag : Params → Frag := fun P => [
  (nat_lit 3, ({ cls := Value.type "dict", data := Data.dict #[{ hash := PyData.keyHash P (Str.ofString "__name__"), key := Value.str (Str.ofString "__name__") 165, val := Value.str (Str.ofString "law_ho0003_01") 238 }, { hash := PyData.keyHash P (Str.ofString "__doc__"), key := Value.str (Str.ofString "__doc__") 166, val := Value.none }, { hash := PyData.keyHash P (Str.ofString "__package__"), key := Value.str (Str.ofString "__package__") 167, val := Value.none }, { hash := PyData.keyHash P (Str.ofString "__loader__"), key := Value.str (Str.ofString "__loader__") 168, val := Value.builtin "__main__.__loader__#opaque" }, { hash := PyData.keyHash P (Str.ofString "__spec__"), key := Value.str (Str.ofString "__spec__") 169, val := Value.none }, { hash := PyData.keyHash P (Str.ofString "__annotations__"), key := Value.str (Str.ofString "__annotations__") 170, val := Value.ref 6 }, { hash := PyData.keyHash P (Str.ofString "__builtins__"), key := Value.str (Str.ofString "__builtins__") 171, val := Value.ref 4 }, { hash := PyData.keyHash P (Str.ofString "__file__"), key := Value.str (Str.ofString "__file__") 173, val := Value.str (Str.ofString "/claim/cut.py") 172 }, { hash := PyData.keyHash P (Str.ofString "__cached__"), key := Value.str (Str.ofString "__cached__") 174, val := Value.none }, { hash := PyData.keyHash P (Str.ofString "insort_left"), key := Value.str (Str.ofString "insort_left") 201, val := Value.ref 23 }, { hash := PyData.keyHash P (Str.ofString "bisect_left"), key := Value.str (Str.ofString "bisect_left") 215, val := Value.ref 32 }, { hash := PyData.keyHash P (Str.ofString "add_callers"), key := Value.str (Str.ofString "add_callers") 228, val := Value.ref 39 }, { hash := PyData.keyHash P (Str.ofString "count_calls"), key := Value.str (Str.ofString "count_calls") 237, val := Value.ref 46 }, { hash := PyData.keyHash P (Str.ofString "_law_every"), key := Value.str (Str.ofString "_law_every") 247, val := Value.ref 53 }, { hash := PyData.keyHash P (Str.ofString "_law_follows"), key := Value.str (Str.ofString "_law_follows") 253, val := Value.ref 58 }, { hash := PyData.keyHash P (Str.ofString "_law_lots"), key := Value.str (Str.ofString "_law_lots") 264, val := Value.ref 65 }, { hash := PyData.keyHash P (Str.ofString "_law_tree"), key := Value.str (Str.ofString "_law_tree") 270, val := Value.ref 70 }, { hash := PyData.keyHash P (Str.ofString "law"), key := Value.str (Str.ofString "law") 276, val := Value.ref 75 }] 18 } : Obj)),
  (nat_lit 15, ({ cls := Value.type "tuple", data := Data.seq #[Value.int 0 189, Value.none] } : Obj)),
  (nat_lit 16, ({ cls := Value.type "dict", data := Data.dict #[{ hash := PyData.keyHash P (Str.ofString "key"), key := Value.str (Str.ofString "key") 190, val := Value.none }] 1 } : Obj)),
  (nat_lit 22, ({ cls := Value.type "code", data := Data.fields #[Value.str (Str.ofString "insort_left") 191, Value.str (Str.ofString "insort_left") 192, Value.str (Str.ofString "/claim/cut.py") 193, Value.int 2 0, Value.int 4 0, Value.int 0 0, Value.int 1 0, Value.int 3 0, Value.ref 17, Value.bool true, Value.int 181 0, Value.ref 18, Value.none, Value.ref 19, Value.ref 20, Value.ref 21, Value.int 199 0, Value.int 2 0, Value.str (Str.ofString "/claim/cut.py") 200] } : Obj)),
  (nat_lit 23, ({ cls := Value.type "function", data := Data.func { name := Str.ofString "insort_left", qualname := Str.ofString "insort_left", params := argsAt Challenge.pw_ho0003_01 1, body := FuncBody.stmts (bodyAt Challenge.pw_ho0003_01 1), scope := scopeAt Challenge.pw_ho0003_01 1, globals := 3, closure := [], defaults := Value.ref 15, kwdefaults := Value.ref 16, pyModule := Value.str (Str.ofString "cpy313.bisect") 187, code := Value.ref 22 } } : Obj)),
  (nat_lit 24, ({ cls := Value.type "tuple", data := Data.seq #[Value.int 0 202, Value.none] } : Obj)),
  (nat_lit 25, ({ cls := Value.type "dict", data := Data.dict #[{ hash := PyData.keyHash P (Str.ofString "key"), key := Value.str (Str.ofString "key") 203, val := Value.none }] 1 } : Obj)),
  (nat_lit 31, ({ cls := Value.type "code", data := Data.fields #[Value.str (Str.ofString "bisect_left") 204, Value.str (Str.ofString "bisect_left") 205, Value.str (Str.ofString "/claim/cut.py") 206, Value.int 8 0, Value.int 4 0, Value.int 0 0, Value.int 1 0, Value.int 3 0, Value.ref 26, Value.bool true, Value.int 181 0, Value.ref 27, Value.none, Value.ref 28, Value.ref 29, Value.ref 30, Value.int 213 0, Value.int 8 0, Value.str (Str.ofString "/claim/cut.py") 214] } : Obj)),
  (nat_lit 32, ({ cls := Value.type "function", data := Data.func { name := Str.ofString "bisect_left", qualname := Str.ofString "bisect_left", params := argsAt Challenge.pw_ho0003_01 2, body := FuncBody.stmts (bodyAt Challenge.pw_ho0003_01 2), scope := scopeAt Challenge.pw_ho0003_01 2, globals := 3, closure := [], defaults := Value.ref 24, kwdefaults := Value.ref 25, pyModule := Value.str (Str.ofString "cpy313.bisect") 187, code := Value.ref 31 } } : Obj)),
  (nat_lit 38, ({ cls := Value.type "code", data := Data.fields #[Value.str (Str.ofString "add_callers") 218, Value.str (Str.ofString "add_callers") 219, Value.str (Str.ofString "/claim/cut.py") 220, Value.int 29 0, Value.int 2 0, Value.int 0 0, Value.int 0 0, Value.int 3 0, Value.ref 33, Value.bool true, Value.int 181 0, Value.ref 34, Value.none, Value.ref 35, Value.ref 36, Value.ref 37, Value.int 226 0, Value.int 29 0, Value.str (Str.ofString "/claim/cut.py") 227] } : Obj)),
  (nat_lit 39, ({ cls := Value.type "function", data := Data.func { name := Str.ofString "add_callers", qualname := Str.ofString "add_callers", params := argsAt Challenge.pw_ho0003_01 4, body := FuncBody.stmts (bodyAt Challenge.pw_ho0003_01 4), scope := scopeAt Challenge.pw_ho0003_01 4, globals := 3, closure := [], defaults := Value.none, kwdefaults := Value.none, pyModule := Value.str (Str.ofString "cpy313.pstats") 216, code := Value.ref 38 } } : Obj)),
  (nat_lit 45, ({ cls := Value.type "code", data := Data.fields #[Value.str (Str.ofString "count_calls") 229, Value.str (Str.ofString "count_calls") 230, Value.str (Str.ofString "/claim/cut.py") 231, Value.int 42 0, Value.int 1 0, Value.int 0 0, Value.int 0 0, Value.int 3 0, Value.ref 40, Value.bool true, Value.int 181 0, Value.ref 41, Value.none, Value.ref 42, Value.ref 43, Value.ref 44, Value.int 235 0, Value.int 42 0, Value.str (Str.ofString "/claim/cut.py") 236] } : Obj)),
  (nat_lit 46, ({ cls := Value.type "function", data := Data.func { name := Str.ofString "count_calls", qualname := Str.ofString "count_calls", params := argsAt Challenge.pw_ho0003_01 5, body := FuncBody.stmts (bodyAt Challenge.pw_ho0003_01 5), scope := scopeAt Challenge.pw_ho0003_01 5, globals := 3, closure := [], defaults := Value.none, kwdefaults := Value.none, pyModule := Value.str (Str.ofString "cpy313.pstats") 216, code := Value.ref 45 } } : Obj)),
  (nat_lit 52, ({ cls := Value.type "code", data := Data.fields #[Value.str (Str.ofString "_law_every") 240, Value.str (Str.ofString "_law_every") 241, Value.str (Str.ofString "/claim/cut.py") 242, Value.int 48 0, Value.int 0 0, Value.int 0 0, Value.int 0 0, Value.int 3 0, Value.ref 47, Value.bool true, Value.int 181 0, Value.ref 48, Value.none, Value.ref 49, Value.ref 50, Value.ref 51, Value.int 245 0, Value.int 48 0, Value.str (Str.ofString "/claim/cut.py") 246] } : Obj)),
  (nat_lit 53, ({ cls := Value.type "function", data := Data.func { name := Str.ofString "_law_every", qualname := Str.ofString "_law_every", params := argsAt Challenge.pw_ho0003_01 7, body := FuncBody.stmts (bodyAt Challenge.pw_ho0003_01 7), scope := scopeAt Challenge.pw_ho0003_01 7, globals := 3, closure := [], defaults := Value.none, kwdefaults := Value.none, pyModule := Value.str (Str.ofString "law_ho0003_01") 238, code := Value.ref 52 } } : Obj)),
  (nat_lit 57, ({ cls := Value.type "code", data := Data.fields #[Value.str (Str.ofString "_law_follows") 248, Value.str (Str.ofString "_law_follows") 249, Value.str (Str.ofString "/claim/cut.py") 250, Value.int 54 0, Value.int 2 0, Value.int 0 0, Value.int 0 0, Value.int 3 0, Value.ref 54, Value.bool true, Value.int 181 0, Value.ref 55, Value.none, Value.none, Value.none, Value.ref 56, Value.int 251 0, Value.int 54 0, Value.str (Str.ofString "/claim/cut.py") 252] } : Obj)),
  (nat_lit 58, ({ cls := Value.type "function", data := Data.func { name := Str.ofString "_law_follows", qualname := Str.ofString "_law_follows", params := argsAt Challenge.pw_ho0003_01 8, body := FuncBody.stmts (bodyAt Challenge.pw_ho0003_01 8), scope := scopeAt Challenge.pw_ho0003_01 8, globals := 3, closure := [], defaults := Value.none, kwdefaults := Value.none, pyModule := Value.str (Str.ofString "law_ho0003_01") 238, code := Value.ref 57 } } : Obj)),
  (nat_lit 64, ({ cls := Value.type "code", data := Data.fields #[Value.str (Str.ofString "_law_lots") 254, Value.str (Str.ofString "_law_lots") 255, Value.str (Str.ofString "/claim/cut.py") 256, Value.int 56 0, Value.int 1 0, Value.int 0 0, Value.int 0 0, Value.int 3 0, Value.ref 59, Value.bool true, Value.int 181 0, Value.ref 60, Value.none, Value.ref 61, Value.ref 62, Value.ref 63, Value.int 262 0, Value.int 56 0, Value.str (Str.ofString "/claim/cut.py") 263] } : Obj)),
  (nat_lit 65, ({ cls := Value.type "function", data := Data.func { name := Str.ofString "_law_lots", qualname := Str.ofString "_law_lots", params := argsAt Challenge.pw_ho0003_01 9, body := FuncBody.stmts (bodyAt Challenge.pw_ho0003_01 9), scope := scopeAt Challenge.pw_ho0003_01 9, globals := 3, closure := [], defaults := Value.none, kwdefaults := Value.none, pyModule := Value.str (Str.ofString "law_ho0003_01") 238, code := Value.ref 64 } } : Obj)),
  (nat_lit 69, ({ cls := Value.type "code", data := Data.fields #[Value.str (Str.ofString "_law_tree") 265, Value.str (Str.ofString "_law_tree") 266, Value.str (Str.ofString "/claim/cut.py") 267, Value.int 64 0, Value.int 1 0, Value.int 0 0, Value.int 0 0, Value.int 3 0, Value.ref 66, Value.bool true, Value.int 181 0, Value.ref 67, Value.none, Value.none, Value.none, Value.ref 68, Value.int 268 0, Value.int 64 0, Value.str (Str.ofString "/claim/cut.py") 269] } : Obj)),
  (nat_lit 70, ({ cls := Value.type "function", data := Data.func { name := Str.ofString "_law_tree", qualname := Str.ofString "_law_tree", params := argsAt Challenge.pw_ho0003_01 10, body := FuncBody.stmts (bodyAt Challenge.pw_ho0003_01 10), scope := scopeAt Challenge.pw_ho0003_01 10, globals := 3, closure := [], defaults := Value.none, kwdefaults := Value.none, pyModule := Value.str (Str.ofString "law_ho0003_01") 238, code := Value.ref 69 } } : Obj)),
  (nat_lit 74, ({ cls := Value.type "code", data := Data.fields #[Value.str (Str.ofString "law") 271, Value.str (Str.ofString "law") 272, Value.str (Str.ofString "/claim/cut.py") 273, Value.int 77 0, Value.int 1 0, Value.int 0 0, Value.int 0 0, Value.int 3 0, Value.ref 71, Value.bool true, Value.int 181 0, Value.ref 72, Value.none, Value.none, Value.none, Value.ref 73, Value.int 274 0, Value.int 77 0, Value.str (Str.ofString "/claim/cut.py") 275] } : Obj)),
  (nat_lit 75, ({ cls := Value.type "function", data := Data.func { name := Str.ofString "law", qualname := Str.ofString "law", params := argsAt Challenge.pw_ho0003_01 11, body := FuncBody.stmts (bodyAt Challenge.pw_ho0003_01 11), scope := scopeAt Challenge.pw_ho0003_01 11, globals := 3, closure := [], defaults := Value.none, kwdefaults := Value.none, pyModule := Value.str (Str.ofString "law_ho0003_01") 238, code := Value.ref 74 } } : Obj))]
noncomputable def kas : List Addr := [nat_lit 3, nat_lit 15, nat_lit 16, nat_lit 22, nat_lit 23, nat_lit 24, nat_lit 25, nat_lit 31, nat_lit 32, nat_lit 38, nat_lit 39, nat_lit 45, nat_lit 46, nat_lit 52, nat_lit 53, nat_lit 57, nat_lit 58, nat_lit 64, nat_lit 65, nat_lit 69, nat_lit 70, nat_lit 74, nat_lit 75]
theorem kae : ∀ P, kas = (kfrag P).map (·.1) := fun _ => rfl
end Mine.Internal
end

section
namespace Mine.Internal
local macro_rules | `(tactic| k_head) => `(tactic| o_head (kmHook Mine.Internal.kfrag Mine.Internal.kas Mine.Internal.kae [67]))
set_option maxRecDepth 100000 in
set_option maxHeartbeats 8000000 in
open_top hd for PySem.Challenge.rw_ho0003_01
end Mine.Internal
set_option maxRecDepth 100000 in
set_option maxHeartbeats 8000000 in
theorem PySem.Challenge.cw_ho0003_01_holds : PySem.Challenge.rw_ho0003_01.Holds := by
  refine Mine.Internal.hd ?_
  k_go0
  rename_i ww s0 s1 mg mb G0 Y fa ob pm cd doc ho hcd hg X V T B TE TW w8 hs hlay0 hLa hra hl2 w7 w6 w5 w4 w3 hL ra w1 r0 hI hr hc1 hc0 hD h1 tk1 o1 o2 o3 d1 d2 d3 X0 KX T2 K2 F N l0
  refine' Mine.Internal.fin01 (K := Mine.Internal.kfrag ww.params) (cc := 69) (P := 67) KX T2 codeHd l0 ?hsz F N d1 d2 d3 lifted hI hc1 hg ?hm ?hn ?hp ?t1 ?t2 ?t4 ?t5 ?t7 ?t8 ?t9 ?t10 ?k1 ?k2 ?k4 ?k5 ?k7 ?k8 ?k9 ?k10 ?kc ?hbig ?b1 ?b2 ?b2' ?b4 ?b5 ?b7 ?b8 ?b9 ?b10 ?u1 ?u2 ?u3 ?u4 ?u5 ?u9
  case hsz => exact (hideAll_size _ _).symm
  case t1 => rfl
  case t2 => rfl
  case t4 => rfl
  case t5 => rfl
  case t7 => rfl
  case t8 => rfl
  case t9 => rfl
  case t10 => rfl
  case k1 => exact ⟨_, _, _, rfl, rfl, rfl, rfl, rfl, rfl, rfl, rfl, rfl, rfl⟩
  case k2 => exact ⟨_, _, _, rfl, rfl, rfl, rfl, rfl, rfl, rfl, rfl, rfl, rfl⟩
  case k4 => exact ⟨_, _, _, rfl, rfl, rfl, rfl, rfl, rfl, rfl, rfl, rfl, rfl⟩
  case k5 => exact ⟨_, _, _, rfl, rfl, rfl, rfl, rfl, rfl, rfl, rfl, rfl, rfl⟩
  case k7 => exact ⟨_, _, _, rfl, rfl, rfl, rfl, rfl, rfl, rfl, rfl, rfl, rfl⟩
  case k8 => exact ⟨_, _, _, rfl, rfl, rfl, rfl, rfl, rfl, rfl, rfl, rfl, rfl⟩
  case k9 => exact ⟨_, _, _, rfl, rfl, rfl, rfl, rfl, rfl, rfl, rfl, rfl, rfl⟩
  case k10 => exact ⟨_, _, _, rfl, rfl, rfl, rfl, rfl, rfl, rfl, rfl, rfl, rfl⟩
  case kc => rfl
  case hbig => decide
  case u1 => rfl
  case u2 => rfl
  case u3 => rfl
  case u4 => rfl
  case u5 => rfl
  case u9 => rfl
  case b1 => exact fun v u S => rfl
  case b2 => exact fun v u S => rfl
  case b2' => exact fun v u x y S => rfl
  case b4 => exact fun v u S => rfl
  case b5 => exact fun v S => rfl
  case b7 => exact fun S => rfl
  case b8 => exact fun v u S => rfl
  case b9 => exact fun v S => rfl
  case b10 => exact fun v S => rfl
  case hm => rfl
  case hn => exact fun cls => rfl
  case hp => wrow_post
end


