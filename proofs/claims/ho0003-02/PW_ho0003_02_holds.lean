import PyProof.Rows.All
import Wide.All
import OpenK.AllK
import Wide.FinOn
import KE.KItemsList
import PySem.Challenge.RW_ho0003_02
open PySem PySem.W PySem.Calls PyProof.Rows PySem.MeetsSeq PySem.SeqAt
set_option Elab.async false
set_option linter.all false
set_option compiler.extract_closed false
set_option genSizeOf false

section
namespace Mine

/-- pure values -/
inductive PV where
  | none | bool (b : Bool) | int (i : Int) | str (x : Str) | tup (xs : List PV) | loc (a : Addr)

mutual
noncomputable def PV.beq : PV → PV → Bool
  | .none, .none => true
  | .bool a, .bool b => a == b
  | .int a, .int b => a == b
  | .str a, .str b => a == b
  | .tup a, .tup b => PV.beqs a b
  | .loc a, .loc b => a == b
  | _, _ => false
noncomputable def PV.beqs : List PV → List PV → Bool
  | [], [] => true
  | a :: as, b :: bs => PV.beq a b && PV.beqs as bs
  | _, _ => false
end
mutual
theorem PV.beq_iff : ∀ a b : PV, PV.beq a b = true ↔ a = b
  | .none, b => by cases b <;> first | exact ⟨fun _ => rfl, fun _ => rfl⟩ | exact ⟨fun h => absurd h Bool.false_ne_true, fun h => by cases h⟩
  | .bool a, b => by cases b <;> first | exact ⟨fun h => absurd h Bool.false_ne_true, fun h => by cases h⟩ | exact ⟨fun h => congrArg PV.bool (eq_of_beq (α := Bool) h), fun h => by cases h; exact beq_self_eq_true a⟩
  | .int a, b => by cases b <;> first | exact ⟨fun h => absurd h Bool.false_ne_true, fun h => by cases h⟩ | exact ⟨fun h => congrArg PV.int (eq_of_beq (α := Int) h), fun h => by cases h; exact beq_self_eq_true a⟩
  | .str a, b => by cases b <;> first | exact ⟨fun h => absurd h Bool.false_ne_true, fun h => by cases h⟩ | exact ⟨fun h => congrArg PV.str (eq_of_beq (α := Str) h), fun h => by cases h; exact beq_self_eq_true a⟩
  | .tup a, b => by cases b <;> first | exact ⟨fun h => absurd h Bool.false_ne_true, fun h => by cases h⟩ | exact ⟨fun h => congrArg PV.tup ((PV.beqs_iff a _).mp h), fun h => by injection h with e; exact (PV.beqs_iff a _).mpr e⟩
  | .loc a, b => by cases b <;> first | exact ⟨fun h => absurd h Bool.false_ne_true, fun h => by cases h⟩ | exact ⟨fun h => congrArg PV.loc (eq_of_beq (α := Nat) h), fun h => by cases h; exact beq_self_eq_true a⟩
theorem PV.beqs_iff : ∀ a b : List PV, PV.beqs a b = true ↔ a = b
  | [], b => by cases b <;> first | exact ⟨fun _ => rfl, fun _ => rfl⟩ | exact ⟨fun h => absurd h Bool.false_ne_true, fun h => by cases h⟩
  | a :: as, b => by
    cases b with
    | nil => exact ⟨fun h => absurd h Bool.false_ne_true, fun h => by cases h⟩
    | cons b bs =>
      refine ⟨fun h => ?_, fun h => ?_⟩
      · have h' := (Bool.and_eq_true _ _).mp (show (PV.beq a b && PV.beqs as bs) = true from h)
        rw [(PV.beq_iff a b).mp h'.1, (PV.beqs_iff as bs).mp h'.2]
      · injection h with e1 e2
        exact (Bool.and_eq_true _ _).mpr ⟨(PV.beq_iff a b).mpr e1, (PV.beqs_iff as bs).mpr e2⟩
end
@[reducible] noncomputable def PV.decEq : DecidableEq PV := fun a b => decidable_of_iff _ (PV.beq_iff a b)
@[reducible] noncomputable def PV.decEqs : DecidableEq (List PV) := fun a b => decidable_of_iff _ (PV.beqs_iff a b)

mutual
inductive Is (h : Heap) : Value → PV → Prop
  | none : Is h .none .none
  | bool (b : Bool) : Is h (.bool b) (.bool b)
  | int (i : Int) (t : Tok) : Is h (.int i t) (.int i)
  | str (x : Str) (t : Tok) : Is h (.str x t) (.str x)
  | tup {a : Addr} {n : Nat} {vs : List Value} {xs : List PV} : IsT h a vs.toArray n → IsAll h vs xs → Is h (.ref a) (.tup xs)
  | loc (a : Addr) : Is h (.ref a) (.loc a)
inductive IsAll (h : Heap) : List Value → List PV → Prop
  | nil : IsAll h [] []
  | cons {v : Value} {vs : List Value} {x : PV} {xs : List PV} : Is h v x → IsAll h vs xs → IsAll h (v :: vs) (x :: xs)
end

noncomputable def TupKeep (h h' : Heap) : Prop := ∀ a items n, IsT h a items n → IsT h' a items n
mutual
theorem Is.keep {h h' : Heap} (k : TupKeep h h') : ∀ {v : Value} {x : PV}, Is h v x → Is h' v x
  | _, _, .none => .none
  | _, _, .bool b => .bool b
  | _, _, .int i t => .int i t
  | _, _, .str x t => .str x t
  | _, _, .tup ht r => .tup (k _ _ _ ht) (IsAll.keep k r)
  | _, _, .loc a => .loc a
theorem IsAll.keep {h h' : Heap} (k : TupKeep h h') : ∀ {vs : List Value} {xs : List PV}, IsAll h vs xs → IsAll h' vs xs
  | _, _, .nil => .nil
  | _, _, .cons a r => .cons (Is.keep k a) (IsAll.keep k r)
end
section
variable {h : Heap} {vs ws : List Value} {xs ys : List PV} {v : Value} {x : PV}
theorem IsAll.length (H : IsAll h vs xs) : vs.length = xs.length := by
  induction vs generalizing xs with
  | nil => cases H; rfl
  | cons v vs ih => cases H with | cons _ r => simp [ih r]
theorem IsAll.two {h : Heap} {vs : List Value} {x y : PV} (i : IsAll h vs [x, y]) : ∃ u v, vs = [u, v] ∧ Is h u x ∧ Is h v y := by
  cases i with
  | cons a r => cases r with
    | cons b r => cases r; exact ⟨_, _, rfl, a, b⟩
theorem IsAll.append (H : IsAll h vs xs) (H' : IsAll h ws ys) : IsAll h (vs ++ ws) (xs ++ ys) := by
  induction vs generalizing xs with
  | nil => cases H; exact H'
  | cons v vs ih => cases H with | cons a r => exact .cons a (ih r)
theorem IsAll.snoc (H : IsAll h vs xs) (H' : Is h v x) : IsAll h (vs ++ [v]) (xs ++ [x]) := H.append (.cons H' .nil)
theorem IsAll.get (H : IsAll h vs xs) {i : Nat} {x : PV} (hi : xs[i]? = some x) : ∃ v, vs[i]? = some v ∧ Is h v x := by
  induction vs generalizing xs i with
  | nil => cases H; simp at hi
  | cons v vs ih =>
    cases H with
    | cons a r =>
      cases i with
      | zero => simp at hi; subst hi; exact ⟨v, rfl, a⟩
      | succ i => simp at hi; obtain ⟨w, e, q⟩ := ih r hi; exact ⟨w, by simpa using e, q⟩
theorem IsAll.get' (H : IsAll h vs xs) {i : Nat} {v : Value} (hi : vs[i]? = some v) : ∃ x, xs[i]? = some x ∧ Is h v x := by
  induction vs generalizing xs i with
  | nil => simp at hi
  | cons v vs ih =>
    cases H with
    | cons a r =>
      cases i with
      | zero => simp at hi; subst hi; exact ⟨_, rfl, a⟩
      | succ i => simp at hi; obtain ⟨w, e, q⟩ := ih r hi; exact ⟨w, by simpa using e, q⟩
theorem IsAll.take (H : IsAll h vs xs) (k : Nat) : IsAll h (vs.take k) (xs.take k) := by
  induction vs generalizing xs k with
  | nil => cases H; simp; exact .nil
  | cons v vs ih =>
    cases H with
    | cons a r =>
      cases k with
      | zero => simp; exact .nil
      | succ k => simp only [List.take_succ_cons]; exact .cons a (ih r k)
theorem IsAll.drop (H : IsAll h vs xs) (k : Nat) : IsAll h (vs.drop k) (xs.drop k) := by
  induction vs generalizing xs k with
  | nil => cases H; simp; exact .nil
  | cons v vs ih =>
    cases H with
    | cons a r =>
      cases k with
      | zero => simp; exact .cons a r
      | succ k => simp only [List.drop_succ_cons]; exact ih r k
theorem IsAll.mem (H : IsAll h vs xs) {v : Value} (hv : v ∈ vs) : ∃ x ∈ xs, Is h v x := by
  obtain ⟨i, hi⟩ := List.mem_iff_getElem?.mp hv
  obtain ⟨x, hx, q⟩ := H.get' hi
  exact ⟨x, List.mem_of_getElem? hx, q⟩
end

end Mine
end

section
namespace Mine

inductive Ty where
  | int | str | bool
  | tup (ts : List Ty)
  | seq (t : Ty)

mutual
noncomputable def HasTy : Ty → PV → Prop
  | .int, .int _ => True
  | .str, .str _ => True
  | .bool, .bool _ => True
  | .tup ts, .tup xs => HasTys ts xs
  | .seq t, .tup xs => AllTy t xs
  | _, _ => False
noncomputable def HasTys : List Ty → List PV → Prop
  | [], [] => True
  | t :: ts, x :: xs => HasTy t x ∧ HasTys ts xs
  | _, _ => False
noncomputable def AllTy : Ty → List PV → Prop
  | _, [] => True
  | t, x :: xs => HasTy t x ∧ AllTy t xs
end

mutual
noncomputable def Sim : PV → PV → Prop
  | .int _, .int _ => True
  | .str _, .str _ => True
  | .bool _, .bool _ => True
  | .tup xs, .tup ys => Sims xs ys
  | _, _ => False
noncomputable def Sims : List PV → List PV → Prop
  | x :: xs, y :: ys => Sim x y ∧ Sims xs ys
  | _, _ => True
end

mutual
theorem HasTy.sim : ∀ (t : Ty) (x y : PV), HasTy t x → HasTy t y → Sim x y
  | t, x, y, hx, hy => by
    cases x <;> cases y <;> cases t <;> first | exact False.elim hx | exact False.elim hy | exact True.intro | exact HasTys.sim _ _ _ hx hy | exact AllTy.sim _ _ _ hx hy
theorem HasTys.sim : ∀ (ts : List Ty) (xs ys : List PV), HasTys ts xs → HasTys ts ys → Sims xs ys
  | ts, [], ys, _, _ => by cases ys <;> exact True.intro
  | ts, x :: xs, [], _, _ => True.intro
  | [], x :: xs, y :: ys, hx, _ => False.elim hx
  | t :: ts, x :: xs, y :: ys, hx, hy => ⟨HasTy.sim t x y (And.left hx) (And.left hy), HasTys.sim ts xs ys (And.right hx) (And.right hy)⟩
theorem AllTy.sim : ∀ (t : Ty) (xs ys : List PV), AllTy t xs → AllTy t ys → Sims xs ys
  | t, [], ys, _, _ => by cases ys <;> exact True.intro
  | t, x :: xs, [], _, _ => True.intro
  | t, x :: xs, y :: ys, hx, hy => ⟨HasTy.sim t x y (And.left hx) (And.left hy), AllTy.sim t xs ys (And.right hx) (And.right hy)⟩
end
theorem AllTy.iff {t : Ty} {xs : List PV} : AllTy t xs ↔ ∀ x ∈ xs, HasTy t x := by
  induction xs with
  | nil => exact ⟨fun _ _ hx => (nomatch hx), fun _ => True.intro⟩
  | cons x xs ih => exact ⟨fun h y hy => (List.mem_cons.mp hy).elim (fun e => e ▸ h.1) (ih.mp h.2 y), fun h => ⟨h x (.head _), ih.mpr fun y hy => h y (.tail _ hy)⟩⟩

mutual
noncomputable def PV.deep : PV → Nat
  | .tup xs => PV.deeps xs + 1
  | _ => 0
noncomputable def PV.deeps : List PV → Nat
  | [] => 0
  | x :: xs => max (PV.deep x) (PV.deeps xs)
end
theorem PV.deep_le {xs : List PV} {x : PV} (h : x ∈ xs) : x.deep ≤ PV.deeps xs := by
  induction xs with
  | nil => cases h
  | cons y ys ih =>
    show _ ≤ max (PV.deep y) (PV.deeps ys)
    rcases List.mem_cons.mp h with rfl | h
    · exact Nat.le_max_left ..
    · exact Nat.le_trans (ih h) (Nat.le_max_right ..)

theorem IsTup_of {h : Heap} {a : Addr} {items : Array Value} {n : Nat} (x : IsT h a items n) : h.IsTuple a items := ⟨_, x, rfl, n, rfl⟩

theorem Sims.get {xs ys : List PV} (h : Sims xs ys) {i : Nat} {x y : PV} (hx : xs[i]? = some x) (hy : ys[i]? = some y) : Sim x y := by
  induction xs generalizing ys i with
  | nil => simp at hx
  | cons a xs ih =>
    cases ys with
    | nil => simp at hy
    | cons b ys =>
      cases i with
      | zero => simp at hx hy; subst hx hy; exact h.1
      | succ i => simp at hx hy; exact ih h.2 hx hy

theorem beqs_all (d : PV) : ∀ (xs ys : List PV), PV.beqs xs ys = ((List.range (min xs.length ys.length)).all (fun i => PV.beq (xs.getD i d) (ys.getD i d)) && xs.length == ys.length)
  | [], [] => rfl
  | [], y :: ys => by show false = _; simp
  | x :: xs, [] => by show false = _; simp
  | x :: xs, y :: ys => by
    show (PV.beq x y && PV.beqs xs ys) = _
    rw [beqs_all d xs ys, List.length_cons, List.length_cons]
    have e : min (xs.length + 1) (ys.length + 1) = min xs.length ys.length + 1 := by (first | lia | omega)
    rw [e, List.range_succ_eq_map, List.all_cons, List.all_map]
    simp [Function.comp_def, Bool.and_assoc]

mutual
theorem Is.simEq {h : Heap} : ∀ {v : Value} {x y : PV}, Is h v x → Is h v y → Sim x y → x = y
  | _, _, _, .none, q, f => by cases q; rfl
  | _, _, _, .bool b, q, f => by cases q; rfl
  | _, _, _, .int i t, q, f => by cases q; rfl
  | _, _, _, .str x t, q, f => by cases q; rfl
  | _, _, _, .tup ht r, q, f => by
    cases q with
    | tup ht' r' =>
      have e := ht.symm.trans ht'
      simp only [Option.some.injEq, Obj.mk.injEq, Data.seq.injEq, true_and, and_true] at e
      have e' := congrArg Array.toList e.1
      simp only at e'
      subst e'
      rw [IsAll.simEq r r' f]
    | loc a => exact f.elim
  | _, _, y, .loc a, q, f => by cases y <;> exact f.elim
theorem IsAll.simEq {h : Heap} : ∀ {vs : List Value} {xs ys : List PV}, IsAll h vs xs → IsAll h vs ys → Sims xs ys → xs = ys
  | _, _, _, .nil, q, _ => by cases q; rfl
  | _, _, _, .cons a r, q, f => by
    cases q with
    | cons a' r' => rw [Is.simEq a a' f.1, IsAll.simEq r r' f.2]
end

noncomputable def EqSimAt (n : Nat) : Prop := ∀ (A : Around) (s : Shared) (u v : Value) (x y : PV), x.deep ≤ n → A.units + n < cLine → Is s.heap u x → Is s.heap v y → Sim x y → EqAt A s u v (PV.beq x y)
theorem eqAt_step (n : Nat) (rec : ∀ m, n = m + 1 → EqSimAt m) : EqSimAt n := fun A s u v x y hn hu hx hy hs => by
    cases hx with
    | none => cases hy <;> exact hs.elim
    | bool b =>
      cases hy with
      | bool c =>
        show EqAt A s _ _ (b == c)
        intro prog w E Q h
        have e : (b == c) = decide (b = c) := by cases b <;> cases c <;> rfl
        rw [e] at h
        unfold eqBool
        refine wpAny_holding ?_
        refine wpAny_ite_split (fun hab => ?_) (fun hab => ?_)
        · have := eq_of_beq hab; injection this with e1; subst e1
          exact wpAny_bind (wpAny_rule (wpAny_pure (by simpa using h)))
        · refine wpAny_bind (PyProof.Rows.eq_bool (by
            refine wpAny_truthy_bool ?_
            have e2 : (b == c) = decide (b = c) := e
            rw [e2]; exact h))
      | _ => exact hs.elim
    | int i t =>
      cases hy with
      | int j t' => exact (MeetsSeq.EqGives.int i j t t').at A s
      | _ => exact hs.elim
    | str a t =>
      cases hy with
      | str b t' =>
        intro prog w E Q h
        refine wpAny_eqBool_str ?_
        have e : PV.beq (.str a) (.str b) = decide (a = b) := by
          show (a == b) = _
          by_cases hab : a = b
          · subst hab; simp
          · simp [hab]
        rw [e] at h; exact h
      | _ => exact hs.elim
    | loc a => cases hy <;> exact hs.elim
    | tup ht r =>
      rename_i a k vs xs
      cases hy with
      | tup ht' r' =>
        rename_i b k' ws ys
        by_cases hab : a = b
        · subst hab
          have e := ht.symm.trans ht'
          simp only [Option.some.injEq, Obj.mk.injEq, Data.seq.injEq, true_and, and_true] at e
          have e' := congrArg Array.toList e.1
          simp only at e'
          subst e'
          have e2 := IsAll.simEq r r' hs
          subst e2
          have e3 : PV.beq (.tup xs) (.tup xs) = true := (PV.beq_iff _ _).mpr rfl
          rw [e3]
          exact EqAt.same _
        · cases n with
          | zero => exact absurd hn (Nat.not_succ_le_zero _)
          | succ n =>
            have key := RcAt.tuples (A := A) (s := s) (e := fun i => PV.beq (xs.getD i .none) (ys.getD i .none)) (IsTup_of ht) (IsTup_of ht') (by (first | lia | omega)) (fun j h1 h2 => by
              simp only [List.size_toArray] at h1 h2
              have l1 := r.length
              have l2 := r'.length
              have h1' : j < xs.length := by (first | lia | omega)
              have h2' : j < ys.length := by (first | lia | omega)
              obtain ⟨p, hp, ip⟩ := r.get (List.getElem?_eq_getElem h1')
              obtain ⟨q, hq, iq⟩ := r'.get (List.getElem?_eq_getElem h2')
              have ep : vs.toArray[j] = p := by
                rw [List.getElem?_eq_getElem h1] at hp; simpa using hp
              have eq : ws.toArray[j] = q := by
                rw [List.getElem?_eq_getElem h2] at hq; simpa using hq
              rw [ep, eq]
              have g1 : xs.getD j .none = xs[j] := by simp [h1']
              have g2 : ys.getD j .none = ys[j] := by simp [h2']
              rw [g1, g2]
              replace hn : PV.deeps xs + 1 ≤ n + 1 := hn
              have := PV.deep_le (List.getElem_mem h1')
              exact rec n rfl A.in1 s p q _ _ (by (first | lia | omega)) (by simp; (first | lia | omega)) ip iq (Sims.get hs (List.getElem?_eq_getElem h1') (List.getElem?_eq_getElem h2')))
            simp only [List.size_toArray, r.length, r'.length] at key
            rw [← beqs_all] at key
            exact EqAt.of_refs hab key
      | _ => exact hs.elim
theorem eqAt_all : ∀ n, EqSimAt n
  | 0 => eqAt_step 0 fun _ e => nomatch e
  | n + 1 => eqAt_step (n + 1) fun m e => Nat.succ.inj e ▸ eqAt_all n
theorem eqAt_sim (n : Nat) (A : Around) (s : Shared) (u v : Value) (x y : PV) (h1 : x.deep ≤ n) (h2 : A.units + n < cLine) (h3 : Is s.heap u x) (h4 : Is s.heap v y) (h5 : Sim x y) : EqAt A s u v (PV.beq x y) := eqAt_all n A s u v x y h1 h2 h3 h4 h5

end Mine
end

section
open AutoSeq1 (wpAny_loadPart')
namespace Mine

mutual
noncomputable def PV.lt : PV → PV → Bool
  | .int a, .int b => decide (a < b)
  | .str a, .str b => decide (a.cps.toList < b.cps.toList)
  | .tup xs, .tup ys => PV.lts xs ys
  | _, _ => false
noncomputable def PV.lts : List PV → List PV → Bool
  | x :: xs, y :: ys => if PV.beq x y then PV.lts xs ys else PV.lt x y
  | [], _ :: _ => true
  | _, [] => false
end

theorem lts_cons (x y : PV) (xs ys : List PV) : PV.lts (x :: xs) (y :: ys) = if PV.beq x y = true then PV.lts xs ys else PV.lt x y := rfl

-- ints, texts, tuples of such: what has an order
mutual
noncomputable def Ord : PV → PV → Prop
  | .int _, .int _ => True
  | .str _, .str _ => True
  | .tup xs, .tup ys => Ords xs ys
  | _, _ => False
noncomputable def Ords : List PV → List PV → Prop
  | x :: xs, y :: ys => Ord x y ∧ Ords xs ys
  | _, _ => True
end
mutual
theorem Ord.sim : ∀ (x y : PV), Ord x y → Sim x y
  | x, y, h => by
    cases x <;> cases y <;> first | exact False.elim h | exact True.intro | exact Ords.sim _ _ h
theorem Ords.sim : ∀ (xs ys : List PV), Ords xs ys → Sims xs ys
  | [], ys, _ => by cases ys <;> exact True.intro
  | x :: xs, [], _ => True.intro
  | x :: xs, y :: ys, h => ⟨Ord.sim x y h.1, Ords.sim xs ys h.2⟩
end

noncomputable def LtAt (A : Around) (s : Shared) (u v : Value) (b : Bool) : Prop :=
  ∀ (prog : Program) (w : World) (E : Value → Shared → Prop) (Q : Value → Shared → Prop), Q (.bool b) s → wpAny (model prog w) A (richCompare .Lt u v) Q E s

theorem tuple_lt_tree (A : Around) (s : Shared) (prog : Program) (w : World) (n : Nat) (a b : Addr) (ka kb : Nat) (vs ws : List Value) (xs ys : List PV) (P : Fin → Shared → Prop) (E : Value → Shared → Prop)
    (hu : A.units + n < cLine) (hd : PV.deeps xs ≤ n) (ha : IsT s.heap a vs.toArray ka) (hb : IsT s.heap b ws.toArray kb) (hx : IsAll s.heap vs xs) (hy : IsAll s.heap ws ys) (ho : Ords xs ys)
    (hlt : ∀ u v x y, Is s.heap u x → Is s.heap v y → Ord x y → x.deep ≤ n → LtAt A s u v (PV.lt x y))
    (h : P (.done (.ret (.bool (PV.lts xs ys)))) s) : wpAny (model prog w) A (Builtin.«tuple.__lt__» ⟨[.ref a, .ref b], []⟩) P E s := by
  have hTb : s.TypeIs (.ref b) "tuple" := ⟨_, hb, rfl⟩
  show wpAny _ _ (isInstance (.ref b) (.type "tuple") >>= _) _ _ s
  refine wpAny_bind (wpAny_isInstance hTb isSubtype_tuple_tuple ?_)
  simp only [Bool.not_true, Bool.false_eq_true, if_false]
  refine wpAny_bind (wpAny_tupleItemsOf ha rfl ?_)
  refine wpAny_bind (wpAny_tupleItemsOf hb rfl ?_)
  refine wpAny_bind ?_
  refine wpAny_forIn_list _
    (fun rest r s' => r.1 = none ∧ s' = s ∧ ∃ vs' ws' xs' ys', rest = List.zip vs' ws' ∧ IsAll s.heap vs' xs' ∧ IsAll s.heap ws' ys' ∧ Ords xs' ys' ∧ PV.deeps xs' ≤ n ∧ PV.lts xs' ys' = PV.lts xs ys ∧ (decide (vs'.length < ws'.length) = decide (vs.length < ws.length)))
    _ ?_ ?_ _ _ ⟨rfl, rfl, vs, ws, xs, ys, rfl, hx, hy, ho, hd, rfl, rfl⟩
  · rintro ⟨u, v⟩ rest r s' ⟨hr, rfl, vs', ws', xs', ys', hz, hx', hy', ho', hd', he, hl⟩
    cases hx' with
    | nil => simp at hz
    | cons hux hx'' =>
      cases hy' with
      | nil => simp at hz
      | cons hvy hy'' =>
        rename_i u' vs'' x xs'' v' ws'' y ys''
        simp only [List.zip_cons_cons, List.cons.injEq, Prod.mk.injEq] at hz
        obtain ⟨⟨rfl, rfl⟩, rfl⟩ := hz
        replace hd' : max (PV.deep x) (PV.deeps xs'') ≤ n := hd'
        refine wpAny_bind (eqAt_sim n A s' _ _ x y (by omega) hu hux hvy (Ord.sim _ _ ho'.1) prog w _ _ ?_)
        cases hk : PV.beq x y with
        | true =>
          simp only [Bool.not_true, Bool.false_eq_true, if_false]
          refine wpAny_pure ⟨rfl, rfl, vs'', ws'', xs'', ys'', rfl, hx'', hy'', ho'.2, by omega, ?_, by simpa using hl⟩
          rw [← he]; show _ = (if PV.beq x y = true then _ else _); rw [if_pos hk]
        | false =>
          simp only [Bool.not_false, if_true]
          refine wpAny_bind (wpAny_rule (wpAny_bind (hlt _ _ x y hux hvy ho'.1 (by omega) prog w _ _ ?_)))
          have e : PV.lt x y = PV.lts xs ys := by rw [← he]; show _ = (if PV.beq x y = true then _ else _); rw [if_neg (by rw [hk]; exact Bool.false_ne_true)]
          rw [e]
          exact wpAny_bind (wpAny_pure (wpAny_pure (wpAny_pure h)))
  · rintro ⟨r1, r2⟩ s' ⟨hr, rfl, vs', ws', xs', ys', hz, hx', hy', _, _, he, hl⟩
    simp only at hr
    subst hr
    refine wpAny_pure ?_
    show P (.done (.ret (.bool (decide (vs.toArray.size < ws.toArray.size))))) s'
    have e : decide (vs.toArray.size < ws.toArray.size) = PV.lts xs ys := by
      simp only [List.size_toArray]
      rw [← hl, ← he]
      cases hx' with
      | nil => cases hy' with
        | nil => rfl
        | cons _ _ => exact decide_eq_true (Nat.succ_pos _)
      | cons _ _ =>
        cases hy' with
        | nil => exact decide_eq_false (Nat.not_lt_zero _)
        | cons _ _ => simp at hz
    rw [e]; exact h

noncomputable def LtOrdAt (n : Nat) : Prop := ∀ (A : Around) (s : Shared) (u v : Value) (x y : PV), x.deep ≤ n → A.units + 2 * n < cLine → Is s.heap u x → Is s.heap v y → Ord x y → LtAt A s u v (PV.lt x y)
theorem ltAt_step (n : Nat) (rec : ∀ m, n = m + 1 → LtOrdAt m) : LtOrdAt n := fun A s u v x y hn hu hx hy ho => by
    cases hx with
    | none => cases hy <;> exact ho.elim
    | bool b => cases hy <;> exact ho.elim
    | loc a => cases hy <;> exact ho.elim
    | int i t =>
      cases hy with
      | int j t' =>
        intro prog w E Q h
        exact wpAny_lt_int h
      | _ => exact ho.elim
    | str a t =>
      cases hy with
      | str b t' =>
        intro prog w E Q h
        exact PyProof.Rows.lt_str h
      | _ => exact ho.elim
    | tup ht r =>
      cases hy with
      | tup ht' r' =>
        cases n with
        | zero => exact absurd hn (Nat.not_succ_le_zero _)
        | succ n =>
          intro prog w E Q h
          replace hn : PV.deeps _ + 1 ≤ n + 1 := hn
          have hT : s.TypeIs (.ref _) "tuple" := ⟨_, ht, rfl⟩
          have hT' : s.TypeIs (.ref _) "tuple" := ⟨_, ht', rfl⟩
          refine wpAny_richCompare_same_room (op := .Lt) hT hT' F.slot_tuple_lt (wpAny_call_entry F.slot_tuple_lt hT F.entry_tuple_lt ?_ (F.args_tuple_lt_2 _ _)) (by (first | lia | omega))
          exact tuple_lt_tree A.in1 s prog w n _ _ _ _ _ _ _ _ _ _ (by simp; (first | lia | omega)) (by (first | lia | omega)) ht ht' r r' ho
            (fun u v x y hux hvy hxy hdx => rec n rfl A.in1 s u v x y hdx (by simp; (first | lia | omega)) hux hvy hxy) ⟨_, rfl, (fun e => nomatch e), h⟩
      | _ => exact ho.elim
theorem ltAt_all : ∀ n, LtOrdAt n
  | 0 => ltAt_step 0 fun _ e => nomatch e
  | n + 1 => ltAt_step (n + 1) fun m e => Nat.succ.inj e ▸ ltAt_all n
theorem ltAt_ord (n : Nat) (A : Around) (s : Shared) (u v : Value) (x y : PV) (h1 : x.deep ≤ n) (h2 : A.units + 2 * n < cLine) (h3 : Is s.heap u x) (h4 : Is s.heap v y) (h5 : Ord x y) : LtAt A s u v (PV.lt x y) := ltAt_all n A s u v x y h1 h2 h3 h4 h5

-- hashes
mutual
noncomputable def Hsh : Nat → PV → Prop
  | _, .int _ => True
  | _, .str _ => True
  | n + 1, .tup xs => Hshs n xs
  | _, _ => False
noncomputable def Hshs : Nat → List PV → Prop
  | _, [] => True
  | n, x :: xs => Hsh n x ∧ Hshs n xs
end
mutual
noncomputable def hashPV (w : World) : PV → Int
  | .int i => hashInt i
  | .str x => hashStr w x
  | .tup xs => reduceHash (Builtin.Tuple.tupleHashOf (hashPVs w xs))
  | _ => 0
noncomputable def hashPVs (w : World) : List PV → List Int
  | [] => []
  | x :: xs => hashPV w x :: hashPVs w xs
end
mutual
noncomputable def drawsPV : PV → Nat
  | .tup xs => drawsPVs xs + 1
  | _ => 1
noncomputable def drawsPVs : List PV → Nat
  | [] => 0
  | x :: xs => drawsPV x + drawsPVs xs
end
noncomputable def HashAt (prog : Program) (w : World) (n : Nat) : Prop := ∀ (A : Around) (E : Value → Shared → Prop) (s : Shared) (v : Value) (x : PV) (Q : Int → Shared → Prop), A.units + n < cLine → Is s.heap v x → Hsh n x →
    Q (hashPV w x) { s with toks := s.toks + drawsPV x } → wpAny (model prog w) A (pyHash v) Q E s
theorem pyHash_step (prog : Program) (w : World) (n : Nat) (rec : ∀ m, n = m + 1 → HashAt prog w m) : HashAt prog w n := fun A E s v x Q hu hx hh h => by
    cases hx with
    | int i t => exact wpAny_pyHash_int h
    | str a t => exact wpAny_pyHash_str h
    | none => cases n <;> exact False.elim hh
    | bool b => cases n <;> exact False.elim hh
    | loc a => cases n <;> exact False.elim hh
    | tup ht r =>
      rename_i a k vs xs
      cases n with
      | zero => exact False.elim hh
      | succ n =>
        have hh : Hshs n xs := hh
        have hT : s.TypeIs (.ref a) "tuple" := ⟨_, ht, rfl⟩
        unfold pyHash
        first | unfold pyHashByItsType | skip
        first | refine wpAny_bind (wpAny_cRoomFor_or (.inr (by (first | lia | omega))) ?_) | skip
        refine wpAny_bind (wpAny_specialOf hT F.slot_tuple_hash.lookup ?_)
        show wpAny _ _ (if (some (Value.builtin "tuple.__hash__") == some Value.none) = true then _ else _) Q E s
        rw [if_neg (by rw [beq_builtin_none]; exact Bool.false_ne_true)]
        refine wpAny_bind (wpAny_specialOf hT F.slot_tuple_hash.lookup ?_)
        show wpAny _ _ (callSpecialIfBoundUnlessNone? (.ref a) "__hash__" _ >>= _) Q E s
        refine wpAny_bind (wpAny_callSpecialIfBoundUnlessNone?_slot hT F.slot_tuple_hash (wpAny_call_entry F.slot_tuple_hash hT F.entry_tuple_hash ?_ (F.args_tuple_hash_1 _)))
        show wpAny _ _ (Builtin.Tuple.tupleItemsOf (.ref a) >>= _) _ _ s
        refine wpAny_bind (wpAny_tupleItemsOf ht rfl ?_)
        refine wpAny_bind ?_
        rw [← Array.forIn_toList]
        refine wpAny_forIn_list _
          (fun rest (b : Array Int) s' => ∃ left tk, IsAll s.heap rest left ∧ Hshs n left ∧ b.toList ++ hashPVs w left = hashPVs w xs ∧ s' = { s with toks := tk } ∧ tk + drawsPVs left = s.toks + drawsPVs xs)
          _ ?_ ?_ _ _ ⟨xs, s.toks, r, hh, rfl, rfl, rfl⟩
        · rintro y rest b s' ⟨left, tk, hl, hk, hb, rfl, htk⟩
          cases hl with
          | cons h1 hl' =>
            replace htk : tk + (drawsPV _ + drawsPVs _) = s.toks + drawsPVs xs := htk
            refine wpAny_bind (rec n rfl A.in1 _ { s with toks := tk } y _ _ (by simp; (first | lia | omega)) h1 hk.1 ?_)
            first
              | exact wpAny_pure ⟨_, _, hl', hk.2, by rw [← hb]; show _ = b.toList ++ (hashPV w _ :: hashPVs w _); simp, rfl, by simp; (first | lia | omega)⟩
              | exact wpAny_bind (wpAny_pure (wpAny_pure ⟨_, _, hl', hk.2, by rw [← hb]; show _ = b.toList ++ (hashPV w _ :: hashPVs w _); simp, rfl, by simp; (first | lia | omega)⟩))
        · rintro b s' ⟨left, tk, hl, hk, hb, rfl, htk⟩
          cases hl
          replace hb : b.toList ++ [] = _ := hb
          rw [List.append_nil] at hb
          replace htk : tk = s.toks + drawsPVs xs := htk
          subst htk
          show wpAny _ _ (retInt (Builtin.Tuple.tupleHashOf b.toList)) _ _ _
          rw [hb]
          refine wpAny_ret_mkInt ?_
          show wpAny _ _ (if (decide (-(2 : Int) ^ 63 ≤ Builtin.Tuple.tupleHashOf (hashPVs w xs)) && decide (Builtin.Tuple.tupleHashOf (hashPVs w xs) < 2 ^ 63)) = true then _ else _) Q E _
          replace h : Q (reduceHash (Builtin.Tuple.tupleHashOf (hashPVs w xs))) { s with toks := s.toks + (drawsPVs xs + 1) } := h
          unfold reduceHash at h
          by_cases hr : (decide (-(2 : Int) ^ 63 ≤ Builtin.Tuple.tupleHashOf (hashPVs w xs)) && decide (Builtin.Tuple.tupleHashOf (hashPVs w xs) < 2 ^ 63)) = true
          · rw [if_pos hr]
            rw [if_pos hr] at h
            exact wpAny_pure h
          · rw [if_neg hr]
            rw [if_neg hr] at h
            exact wpAny_bind (wpAny_rule (wpAny_pure h))

theorem pyHash_pv (prog : Program) (w : World) : ∀ n, HashAt prog w n
  | 0 => pyHash_step prog w 0 fun _ e => nomatch e
  | n + 1 => pyHash_step prog w (n + 1) fun m e => Nat.succ.inj e ▸ pyHash_pv prog w n

noncomputable def QuietAt (prog : Program) (w : World) (n : Nat) : Prop := ∀ (m : Nat) (A : Around) (E : Value → Shared → Prop) (s : Shared) (v : Value) (x : PV) (Q : Bool → Shared → Prop), n + 1 ≤ m → Is s.heap v x → Hsh n x →
    Q true s → wpAny (model prog w) A (eqIsQuiet m v) Q E s
theorem quiet_step (prog : Program) (w : World) (n : Nat) (rec : ∀ m, n = m + 1 → QuietAt prog w m) : QuietAt prog w n := fun m A E s v x Q hm hx hh h => by
    cases hx with
    | int i t => rw [eqIsQuiet_byValue _ rfl]; exact wpAny_pure h
    | str a t => rw [eqIsQuiet_byValue _ rfl]; exact wpAny_pure h
    | none => cases n <;> exact False.elim hh
    | bool b => cases n <;> exact False.elim hh
    | loc a => cases n <;> exact False.elim hh
    | tup ht r =>
      rename_i a k vs xs
      cases n with
      | zero => exact False.elim hh
      | succ n =>
        cases m with
        | zero => (first | lia | omega)
        | succ m =>
          have hh : Hshs n xs := hh
          have hT : s.TypeIs (.ref a) "tuple" := ⟨_, ht, rfl⟩
          unfold eqIsQuiet
          refine wpAny_bind (wpAny_specialOf hT F.slot_tuple_eq.lookup ?_)
          show wpAny _ _ (isInstance (.ref a) (.type "tuple") >>= _) _ _ s
          refine wpAny_bind (wpAny_isInstance hT isSubtype_tuple_tuple ?_)
          simp only [Bool.not_true, Bool.false_eq_true, if_false]
          refine wpAny_bind (wpAny_seqItems ht rfl ?_)
          refine wpAny_bind ?_
          show wpAny _ _ (forIn vs.toArray _ _) _ _ s
          rw [← Array.forIn_toList]
          refine wpAny_forIn_list _ (fun rest r s' => r.1 = none ∧ s' = s ∧ ∃ left, IsAll s.heap rest left ∧ Hshs n left) _ ?_ ?_ _ _ ⟨rfl, rfl, xs, r, hh⟩
          · rintro v rest r s' ⟨hr, rfl, left, hl, hk⟩
            cases hl with
            | cons h1 hl' =>
              refine wpAny_bind (rec n rfl m A _ s' v _ _ (by (first | lia | omega)) h1 hk.1 ?_)
              simp only [Bool.not_true, Bool.false_eq_true, if_false]
              exact wpAny_pure ⟨rfl, rfl, _, hl', hk.2⟩
          · rintro ⟨r1, r2⟩ s' ⟨hr, rfl, _⟩
            simp only at hr
            subst hr
            exact wpAny_pure h

theorem quiet_pv (prog : Program) (w : World) : ∀ n, QuietAt prog w n
  | 0 => quiet_step prog w 0 fun _ e => nomatch e
  | n + 1 => quiet_step prog w (n + 1) fun m e => Nat.succ.inj e ▸ quiet_pv prog w n
theorem Hsh.deep : ∀ (n : Nat) (x : PV), Hsh n x → x.deep ≤ n := by
  intro n
  induction n with
  | zero => intro x h; cases x <;> first | exact Nat.le_refl 0 | exact False.elim h
  | succ n ih =>
    intro x h
    cases x with
    | tup xs =>
      replace h : Hshs n xs := h
      have : PV.deeps xs ≤ n := by
        induction xs with
        | nil => exact Nat.zero_le _
        | cons y ys ihy => exact Nat.max_le.mpr ⟨ih y h.1, ihy h.2⟩
      exact Nat.succ_le_succ this
    | _ => exact Nat.zero_le _

/-- tuples of one type as keys -/
@[reducible] noncomputable def tupKind (prog : Program) (w : World) (T : Ty) : @HeapKind prog w PV PV.decEq :=
  letI := PV.decEq
  { is := fun h k a => Is h (.ref a) k ∧ HasTy T k ∧ Hsh 3 k
    hash := hashPV w
    draws := drawsPV
    room := fun A => A.units + 10 < cLine
    inj := fun hx hy => Is.simEq hx.1 hy.1 (HasTy.sim T _ _ hx.2.1 hy.2.1)
    keeps := fun {h h' k a d o es ep} x ho hd hs => ⟨Is.keep (fun b items n' e => (hs.2 b (fun q => by
      subst q
      have e2 : some o = some _ := ho.symm.trans e
      injection e2 with e3
      subst e3
      exact nomatch hd)).trans e) x.1, x.2⟩
    pyHash := fun {A E s k a Q} hu hk h => pyHash_pv prog w 3 A E s _ k Q (by (first | lia | omega)) hk.1 hk.2.2 h
    eqBool := fun {A E s x y a b Q} hu hx hy h => by
      refine eqAt_sim 3 A s _ _ x y (Hsh.deep _ _ hx.2.2) (by (first | lia | omega)) hx.1 hy.1 (HasTy.sim T x y hx.2.1 hy.2.1) prog w E Q ?_
      have e : PV.beq x y = decide (x = y) := by
        rw [Bool.eq_iff_iff, PV.beq_iff]; simp
      rw [e]; exact h
    quiet := fun {A E s k a Q} hk h => quiet_pv prog w 3 8 A E s _ k Q (by (first | lia | omega)) hk.1 hk.2.2 h }

end Mine
end

section
namespace Mine

-- keys that are values: ints, texts
noncomputable def isVal : PV → Value → Bool
  | .int i, .int j _ => j == i
  | .str x, .str y _ => y == x
  | _, _ => false
theorem isVal_int {i : Int} {v : Value} (h : isVal (.int i) v = true) : ∃ t, v = .int i t := by
  cases v <;> first | exact absurd h Bool.false_ne_true | exact ⟨_, by rw [eq_of_beq (α := Int) h]⟩
theorem isVal_str {x : Str} {v : Value} (h : isVal (.str x) v = true) : ∃ t, v = .str x t := by
  cases v <;> first | exact absurd h Bool.false_ne_true | exact ⟨_, by rw [eq_of_beq (α := Str) h]⟩
theorem isVal_cases {k : PV} {v : Value} (h : isVal k v = true) : (∃ i t, k = .int i ∧ v = .int i t) ∨ ∃ x t, k = .str x ∧ v = .str x t := by
  cases k with
  | int i => obtain ⟨t, rfl⟩ := isVal_int h; exact .inl ⟨i, t, rfl, rfl⟩
  | str x => obtain ⟨t, rfl⟩ := isVal_str h; exact .inr ⟨x, t, rfl, rfl⟩
  | _ => cases v <;> exact absurd h Bool.false_ne_true
theorem isVal_of_is {h : Heap} {v : Value} {k : PV} (H : Is h v k) (hk : Hsh 0 k) : isVal k v = true := by
  cases H with
  | int i t => exact beq_self_eq_true i
  | str x t => exact beq_self_eq_true x
  | _ => exact False.elim hk

theorem eqBool_int_str {prog : Program} {w : World} {A : Around} {E : Value → Shared → Prop} {s : Shared} {i : Int} {t : Tok} {x : Str} {u : Tok} {Q : Bool → Shared → Prop} (h : Q false s) : wpAny (model prog w) A (eqBool (.int i t) (.str x u)) Q E s := by
  unfold eqBool
  refine wpAny_holding ?_
  refine wpAny_ite_split (fun hab => by have := eq_of_beq hab; cases this) (fun _ => ?_)
  exact wpAny_bind (EqMixed.eq_int_str (wpAny_truthy_bool h))
theorem eqBool_str_int {prog : Program} {w : World} {A : Around} {E : Value → Shared → Prop} {s : Shared} {i : Int} {t : Tok} {x : Str} {u : Tok} {Q : Bool → Shared → Prop} (h : Q false s) : wpAny (model prog w) A (eqBool (.str x u) (.int i t)) Q E s := by
  unfold eqBool
  refine wpAny_holding ?_
  refine wpAny_ite_split (fun hab => by have := eq_of_beq hab; cases this) (fun _ => ?_)
  exact wpAny_bind (EqMixed.eq_str_int (wpAny_truthy_bool h))

@[reducible] noncomputable def valKind (prog : Program) (w : World) : @PySem.KeyKind prog w PV PV.decEq :=
  letI := PV.decEq
  { is := isVal
    hash := hashPV w
    inj := fun v a b ha hb => by
      rcases isVal_cases ha with ⟨i, t, rfl, rfl⟩ | ⟨x, t, rfl, rfl⟩
      · rcases isVal_cases hb with ⟨i', t', rfl, e⟩ | ⟨x', t', rfl, e⟩
        · injection e with e1 _; rw [e1]
        · cases e
      · rcases isVal_cases hb with ⟨i', t', rfl, e⟩ | ⟨x', t', rfl, e⟩
        · cases e
        · injection e with e1 _; rw [e1]
    byValue := fun k v h => by
      rcases isVal_cases h with ⟨i, t, rfl, rfl⟩ | ⟨x, t, rfl, rfl⟩ <;> rfl
    pyHash := fun {A E s k v Q} hv h => by
      rcases isVal_cases hv with ⟨i, t, rfl, rfl⟩ | ⟨x, t, rfl, rfl⟩
      · exact wpAny_pyHash_int h
      · exact wpAny_pyHash_str h
    eqBool := fun {A E s a b u v Q} hu hv h => by
      rcases isVal_cases hu with ⟨i, t, rfl, rfl⟩ | ⟨x, t, rfl, rfl⟩
      · rcases isVal_cases hv with ⟨i', t', rfl, rfl⟩ | ⟨x', t', rfl, rfl⟩
        · refine wpAny_eqBool_int ?_
          have e : decide (PV.int i = PV.int i') = (i == i') := by by_cases q : i = i' <;> simp [q]
          rw [e] at h; exact h
        · refine eqBool_int_str ?_
          have e : decide (PV.int i = PV.str x') = false := by simp
          rw [e] at h; exact h
      · rcases isVal_cases hv with ⟨i', t', rfl, rfl⟩ | ⟨x', t', rfl, rfl⟩
        · refine eqBool_str_int ?_
          have e : decide (PV.str x = PV.int i') = false := by simp
          rw [e] at h; exact h
        · refine wpAny_eqBool_str ?_
          have e : decide (PV.str x = PV.str x') = decide (x = x') := by by_cases q : x = x' <;> simp [q]
          rw [e] at h; exact h
    «strs» := fun k x t v h => by
      rcases isVal_cases h with ⟨i, t', rfl, e⟩ | ⟨y, t', rfl, e⟩
      · cases e
      · injection e with e1 _
        subst e1
        cases v <;> rfl }

inductive MObj where
  | lst (xs : List PV)
  | dv (es : List (PV × PV))
  | dt (T : Ty) (es : List (PV × PV))
  | dx (o : Obj) (T : Ty) (es : List (PV × PV))
  | raw (o : Obj)

abbrev Store := Addr → Option MObj
abbrev Loc := List (Str × PV)

section
variable (prog : Program) (w : World)
noncomputable def Rep (h : Heap) (a : Addr) : MObj → Prop
  | .lst xs => ∃ vs n, IsL h a (List.toArray vs) n ∧ IsAll h vs xs
  | .dv es => (a == sysModules) = false ∧ ∃ kvs : List (PV × Value), letI := PV.decEq; h.DictOf (valKind prog w) a kvs ∧ kvs.map (·.1) = es.map (·.1) ∧ IsAll h (kvs.map (·.2)) (es.map (·.2))
  | .dt T es => (a == sysModules) = false ∧ ∃ kvs : List (PV × Addr × Value), letI := PV.decEq; h.DictOfH (tupKind prog w T) a kvs ∧ kvs.map (·.1) = es.map (·.1) ∧ IsAll h (kvs.map (·.2.2)) (es.map (·.2))
  | .dx ob T es => h.get? a = some ob ∧ (a == sysModules) = false ∧ ∃ kvs : List (PV × Addr × Value), letI := PV.decEq; h.DictOfH (tupKind prog w T) a kvs ∧ kvs.map (·.1) = es.map (·.1) ∧ IsAll h (kvs.map (·.2.2)) (es.map (·.2))
  | .raw ob => h.get? a = some ob ∧ ob.cls ≠ .type "tuple"
variable {prog w}
theorem Rep.keep {h h' : Heap} {a : Addr} {o : MObj} (x : Rep prog w h a o) (k : TupKeep h h') (e : ∀ ob, h.get? a = some ob → h'.get? a = some ob) : Rep prog w h' a o := by
  cases o with
  | lst xs => obtain ⟨vs, n, hl, hv⟩ := x; exact ⟨vs, n, e _ hl, hv.keep k⟩
  | dv es =>
    obtain ⟨hs, kvs, ⟨ob, ents, ep, ho, r⟩, h1, h2⟩ := x
    exact ⟨hs, kvs, ⟨ob, ents, ep, e _ ho, r⟩, h1, h2.keep k⟩
  | dt T es =>
    obtain ⟨hs, kvs, ⟨ob, ents, ep, ho, hx, hd, he, his, hn⟩, h1, h2⟩ := x
    exact ⟨hs, kvs, ⟨ob, ents, ep, e _ ho, hx, hd, he, fun y hy => ⟨(his y hy).1.keep k, (his y hy).2⟩, hn⟩, h1, h2.keep k⟩
  | dx ob T es =>
    obtain ⟨hx', hs, kvs, ⟨ob, ents, ep, ho, hx, hd, he, his, hn⟩, h1, h2⟩ := x
    exact ⟨e _ hx', hs, kvs, ⟨ob, ents, ep, e _ ho, hx, hd, he, fun y hy => ⟨(his y hy).1.keep k, (his y hy).2⟩, hn⟩, h1, h2.keep k⟩
  | raw ob => exact ⟨e _ x.1, x.2⟩
theorem Rep.get {h : Heap} {a : Addr} {o : MObj} (x : Rep prog w h a o) : ∃ ob, h.get? a = some ob ∧ ob.cls ≠ .type "tuple" := by
  cases o with
  | lst xs => obtain ⟨vs, n, hl, hv⟩ := x; exact ⟨_, hl, by simp⟩
  | dv es => obtain ⟨hs, kvs, ⟨ob, ents, ep, ho, hx, r⟩, h1, h2⟩ := x; exact ⟨_, ho, by rw [hx.1]; decide⟩
  | dt T es => obtain ⟨hs, kvs, ⟨ob, ents, ep, ho, hx, r⟩, h1, h2⟩ := x; exact ⟨_, ho, by rw [hx.1]; decide⟩
  | dx ob T es => obtain ⟨_, hs, kvs, ⟨ob, ents, ep, ho, hx, r⟩, h1, h2⟩ := x; exact ⟨_, ho, by rw [hx.1]; decide⟩
  | raw ob => exact ⟨ob, x.1, x.2⟩
end

noncomputable def Pres (D : Addr → Prop) (h h' : Heap) : Prop := True ∧ ∀ b o, ¬ D b → h.get? b = some o → h'.get? b = some o
theorem Pres.refl {D h} : Pres D h h := ⟨trivial, fun _ _ _ e => e⟩
theorem fresh (h : Heap) : h.get? h.objs.size = none := Heap.get?_none_of_le (Nat.le_refl _)
theorem Pres.mono {D D' : Addr → Prop} {h h' : Heap} (x : Pres D h h') (hd : ∀ a, D a → D' a) : Pres D' h h' := ⟨x.1, fun b o n e => x.2 b o (fun q => n (hd b q)) e⟩
theorem Pres.push {D : Addr → Prop} {h h' : Heap} (x : Pres D h h') (o : Obj) : Pres D h (h'.push o) := ⟨trivial, fun b o' n e => Heap.get?_push_of_some _ (x.2 b o' n e)⟩
theorem Pres.same {D : Addr → Prop} {a : Addr} {h h' h'' : Heap} (x : Pres D h h') (hs : Heap.SameBut a h' h'') (ha : D a ∨ h.get? a = none) : Pres D h h'' :=
  ⟨trivial, fun b o n e => (hs.2 b (fun q => by
    subst q
    rcases ha with ha | ha
    · exact n ha
    · rw [ha] at e; cases e)).trans (x.2 b o n e)⟩
theorem Pres.ext {D : Addr → Prop} {a : Addr} {h h' : Heap} (hs : Heap.ExtBut a h h') (ha : D a) : Pres D h h' := ⟨trivial, fun b o n e => hs b o (fun q => n (q ▸ ha)) e⟩

noncomputable def Dom (σ : Store) : Addr → Prop := fun a => ∃ o, σ a = some o
noncomputable def upd (σ : Store) (a : Addr) (o : MObj) : Store := fun b => if b = a then some o else σ b
@[simp] theorem upd_same (σ : Store) (a : Addr) (o : MObj) : upd σ a o a = some o := by simp [upd]
theorem upd_ne (σ : Store) {a b : Addr} (o : MObj) (h : b ≠ a) : upd σ a o b = σ b := by simp [upd, h]
theorem ne_of_free {σ : Store} {a b : Addr} {o : MObj} (h : σ a = some o) (f : σ b = none) : a ≠ b := by rintro rfl; rw [h] at f; cases f
theorem upd_old {σ : Store} {a b : Addr} {o o' : MObj} (h : σ a = some o) (f : σ b = none) : upd σ b o' a = some o := by rw [upd_ne _ _ (ne_of_free h f)]; exact h
/-- less is known -/
noncomputable def Weaker (o' o : MObj) : Prop := o' = o ∨ ∃ ob T es, o' = .dt T es ∧ o = .dx ob T es
theorem Weaker.trans {a b c : MObj} (x : Weaker a b) (y : Weaker b c) : Weaker a c := by
  rcases x with rfl | ⟨ob, T, es, rfl, rfl⟩
  · exact y
  · rcases y with rfl | ⟨ob', T', es', h, rfl⟩
    · exact .inr ⟨_, _, _, rfl, rfl⟩
    · cases h
noncomputable def Less (σ' σ : Store) : Prop := ∀ a o', σ' a = some o' → ∃ o, σ a = some o ∧ Weaker o' o
theorem Less.refl (σ : Store) : Less σ σ := fun _ _ e => ⟨_, e, .inl rfl⟩
theorem Less.trans {a b c : Store} (x : Less a b) (y : Less b c) : Less a c := fun p o e => by
  obtain ⟨o1, e1, w1⟩ := x p o e
  obtain ⟨o2, e2, w2⟩ := y p o1 e1
  exact ⟨o2, e2, w1.trans w2⟩
theorem Less.upd_free {σ : Store} {a : Addr} {o : MObj} (f : σ a = none) : Less σ (upd σ a o) := fun b o' e => ⟨o', upd_old e f, .inl rfl⟩
theorem Less.upd_both {σ σ' : Store} (h : Less σ' σ) (a : Addr) (o : MObj) : Less (upd σ' a o) (upd σ a o) := fun b o' e => by
  by_cases hb : b = a
  · subst hb; rw [upd_same] at e ⊢; exact ⟨_, rfl, .inl (by cases e; rfl)⟩
  · rw [upd_ne _ _ hb] at e ⊢; exact h b o' e
theorem Less.back {σ : Store} {a : Addr} {ob : Obj} {T : Ty} {es : List (PV × PV)} (e : σ a = some (.dt T es)) : Less σ (upd σ a (.dx ob T es)) := fun b o' e' => by
  by_cases hb : b = a
  · subst hb; rw [e] at e'; cases e'; exact ⟨_, upd_same _ _ _, .inr ⟨_, _, _, rfl, rfl⟩⟩
  · exact ⟨o', by rw [upd_ne _ _ hb]; exact e', .inl rfl⟩
theorem Less.lst {σ' σ : Store} (l : Less σ' σ) {a : Addr} {xs : List PV} (e : σ' a = some (.lst xs)) : σ a = some (.lst xs) := by
  obtain ⟨o, e1, h⟩ := l a _ e
  rcases h with rfl | ⟨ob, T, es, h, _⟩
  · exact e1
  · cases h
theorem Less.dx {σ' σ : Store} (l : Less σ' σ) {a : Addr} {ob : Obj} {T : Ty} {es : List (PV × PV)} (e : σ' a = some (.dx ob T es)) : σ a = some (.dx ob T es) := by
  obtain ⟨o, e1, h⟩ := l a _ e
  rcases h with rfl | ⟨ob, T, es, h, _⟩
  · exact e1
  · cases h
section
variable (prog : Program) (w : World) (h₀ : Heap)
structure SRel (σ : Store) (h : Heap) : Prop where
  base : ∀ b o, h₀.get? b = some o → h.get? b = some o
  size : True
  objs : ∀ a o, σ a = some o → Rep prog w h a o
  off : ∀ a o, σ a = some o → h₀.get? a = none

noncomputable def VarIs (env : Env) (h : Heap) (x : Str) (v : Value) : Prop :=
  (env.kindOf x = some .local ∧ ∃ m, h.Ns env.locals m ∧ m x = some v) ∨
  ((env.kindOf x = some .cell ∨ env.kindOf x = some .free) ∧ ∃ c, env.cells.lookup x = some c ∧ h.IsCell c (some v))

structure ERel (env : Env) (ρ : Loc) (σ : Store) (h : Heap) : Prop where
  kind : env.scope.kind = .function
  glob : env.globals = mainGlobals
  bins : env.builtins = builtinsNs
  ns : ∃ m, h.Ns env.locals m
  nsoff : h₀.get? env.locals = none ∧ σ env.locals = none
  cells : ∀ p ∈ env.cells, (∃ v, h.IsCell p.2 v) ∧ h₀.get? p.2 = none ∧ σ p.2 = none ∧ p.2 ≠ env.locals
  apart : env.cells.Pairwise fun x y => x.2 ≠ y.2
  vars : ∀ x v, ρ.lookup x = some v → ∃ val, VarIs env h x val ∧ Is h val v
end

noncomputable def Held (H : List (Value × PV)) (h : Heap) : Prop := ∀ p ∈ H, Is h p.1 p.2
theorem Held.keep {H : List (Value × PV)} {h h' : Heap} (x : Held H h) (k : TupKeep h h') : Held H h' := fun p hp => (x p hp).keep k
theorem Held.cons {H : List (Value × PV)} {h : Heap} {v : Value} {x : PV} (y : Held H h) (i : Is h v x) : Held ((v, x) :: H) h := fun p hp => by
  rcases List.mem_cons.mp hp with rfl | hp
  · exact i
  · exact y p hp
theorem Held.all {H : List (Value × PV)} {h : Heap} {vs : List Value} {xs : List PV} (y : Held H h) (i : IsAll h vs xs) : Held (vs.zip xs ++ H) h := by
  induction vs generalizing xs with
  | nil => simpa using y
  | cons v vs ih =>
    cases i with
    | cons a r => simp only [List.zip_cons_cons, List.cons_append]; exact (ih r).cons a
theorem Held.isAll {H : List (Value × PV)} {h : Heap} : ∀ {vs : List Value} {xs : List PV}, vs.length = xs.length → Held (vs.zip xs ++ H) h → IsAll h vs xs
  | [], [], _, _ => .nil
  | v :: vs, x :: xs, e, y => .cons (y (v, x) (.head _)) (Held.isAll (by simpa using e) fun p hp => y p (.tail _ hp))
  | [], _ :: _, e, _ => by simp at e
  | _ :: _, [], e, _ => by simp at e

/-- room around a call -/
structure Ok (n : Nat) (A : Around) : Prop where
  handled : A.handled = none
  depth : A.depth + 2 * n ≤ 500
  units : A.units + 40 * n ≤ 9000
theorem Ok.mono {n m : Nat} {A : Around} (x : Ok n A) (h : m ≤ n) : Ok m A := ⟨x.handled, by have := x.depth; (first | lia | omega), by have := x.units; (first | lia | omega)⟩
theorem Ok.room {n : Nat} {A : Around} (x : Ok n A) : A.units + 800 < cLine := by have := x.units; rw [cLine_is]; (first | lia | omega)

section
variable {prog : Program} {w : World} {h₀ : Heap} {σ σ' : Store} {h h' : Heap} {env : Env} {ρ ρ' : Loc}
theorem SRel.tupKeep {D : Addr → Prop} (S : SRel prog w h₀ σ h) (p : Pres D h h') (hD : ∀ a, D a → Dom σ a ∨ ∀ items n, ¬ IsT h a items n) : TupKeep h h' := fun a items n e => by
  refine p.2 a _ (fun q => ?_) e
  rcases hD a q with ⟨o, ho⟩ | q
  · obtain ⟨ob, e2, hc⟩ := (S.objs a o ho).get
    rw [e] at e2; cases e2; exact hc rfl
  · exact q _ _ e
theorem Rep.weaker {a : Addr} {o' o : MObj} (x : Rep prog w h a o) (l : Weaker o' o) : Rep prog w h a o' := by
  rcases l with rfl | ⟨ob, T, es, rfl, rfl⟩
  · exact x
  · exact x.2
theorem SRel.less (S : SRel prog w h₀ σ h) (l : Less σ' σ) : SRel prog w h₀ σ' h := ⟨S.base, S.size, fun a o e => by obtain ⟨o1, e1, h1⟩ := l a o e; exact (S.objs a o1 e1).weaker h1, fun a o e => by obtain ⟨o1, e1, h1⟩ := l a o e; exact S.off a o1 e1⟩
theorem Less.dom (l : Less σ' σ) {a : Addr} (d : Dom σ' a) : Dom σ a := let ⟨o, e⟩ := d; let ⟨o1, e1, _⟩ := l a o e; ⟨o1, e1⟩
theorem none_of_less (l : Less σ' σ) {a : Addr} (e : σ a = none) : σ' a = none := by
  cases q : σ' a with
  | none => rfl
  | some o => obtain ⟨o1, e1, _⟩ := l a o q; rw [e1] at e; cases e
theorem ERel.less (X : ERel h₀ env ρ σ h) (l : Less σ' σ) : ERel h₀ env ρ σ' h :=
  ⟨X.kind, X.glob, X.bins, X.ns, ⟨X.nsoff.1, none_of_less l X.nsoff.2⟩, fun p hp => ⟨(X.cells p hp).1, (X.cells p hp).2.1, none_of_less l (X.cells p hp).2.2.1, (X.cells p hp).2.2.2⟩, X.apart, X.vars⟩
theorem ERel.forget (X : ERel h₀ env ρ σ h) (l : ∀ x v, ρ'.lookup x = some v → ρ.lookup x = some v) : ERel h₀ env ρ' σ h :=
  ⟨X.kind, X.glob, X.bins, X.ns, X.nsoff, X.cells, X.apart, fun x v e => X.vars x v (l x v e)⟩
theorem VarIs.keep {x : Str} {v : Value} (V : VarIs env h x v) (k1 : ∀ o, h.get? env.locals = some o → h'.get? env.locals = some o) (k2 : ∀ p ∈ env.cells, ∀ o, h.get? p.2 = some o → h'.get? p.2 = some o) : VarIs env h' x v := by
  rcases V with ⟨hk, m, hn, hm⟩ | ⟨hk, c, hc, o, ho, hd⟩
  · exact .inl ⟨hk, m, hn.at' k1, hm⟩
  · exact .inr ⟨hk, c, hc, o, k2 _ (mem_of_lookup hc) _ ho, hd⟩
/-- nothing of the frame's own has turned -/
theorem ERel.step {D : Addr → Prop} (X : ERel h₀ env ρ σ h) (p : Pres D h h') (k : TupKeep h h') (hL : ¬ D env.locals) (hC : ∀ q ∈ env.cells, ¬ D q.2)
    (sub : ∀ a, Dom σ' a → Dom σ a ∨ h.get? a = none) : ERel h₀ env ρ σ' h' := by
  have off : ∀ a ob, h.get? a = some ob → σ a = none → σ' a = none := fun a ob hl e => by
    cases q : σ' a with
    | none => rfl
    | some o =>
      rcases sub a ⟨o, q⟩ with ⟨o', e'⟩ | e'
      · rw [e'] at e; cases e
      · rw [e'] at hl; cases hl
  refine ⟨X.kind, X.glob, X.bins, ?_, ⟨X.nsoff.1, ?_⟩, fun q hq => ?_, X.apart, fun x v e => ?_⟩
  · obtain ⟨m, hm⟩ := X.ns; exact ⟨m, hm.at' fun o e => p.2 _ _ hL e⟩
  · obtain ⟨m, hm⟩ := X.ns
    obtain ⟨ob, es, ep, h1, _⟩ := hm
    exact off _ _ h1 X.nsoff.2
  · obtain ⟨⟨v, hv⟩, h1, h2, h3⟩ := X.cells q hq
    obtain ⟨o, ho, hd⟩ := hv
    exact ⟨⟨v, o, p.2 _ _ (hC q hq) ho, hd⟩, h1, off _ _ ho h2, h3⟩
  · obtain ⟨val, hv, hi⟩ := X.vars x v e
    exact ⟨val, hv.keep (fun o e => p.2 _ _ hL e) (fun q hq o e => p.2 _ _ (hC q hq) e), hi.keep k⟩
end

-- the judgement
section
variable (prog : Program) (w : World) (h₀ : Heap)
noncomputable def Post {α β : Type} (Mod : Addr → Prop) (R : Heap → α → β → Prop) (env : Env) (σ : Store) (s : Shared) (Q : β → Loc → Store → Prop) (v : α) (s' : Shared) : Prop :=
  ∃ h' tk b ρ' σ', s' = { s with heap := h', toks := tk } ∧ Pres (fun a => Dom σ a ∨ Mod a) s.heap h' ∧ SRel prog w h₀ σ' h' ∧ ERel h₀ env ρ' σ' h' ∧
    (∀ a, Dom σ' a → Dom σ a ∨ s.heap.get? a = none) ∧ R h' v b ∧ Q b ρ' σ'

noncomputable def WP {α β : Type} (n : Nat) (Mod : Addr → Prop) (R : Heap → α → β → Prop) (env : Env) (H : List (Value × PV)) (t : Sem α) (ρ : Loc) (σ : Store) (Q : β → Loc → Store → Prop) : Prop :=
  ∀ A s, Ok n A → SRel prog w h₀ σ s.heap → ERel h₀ env ρ σ s.heap → Held H s.heap →
    wpAny (model prog w) A t (Post prog w h₀ Mod R env σ s Q) (fun _ _ => False) s
end

/-- what a statement may turn: its frame's own -/
noncomputable def Own (env : Env) : Addr → Prop := fun a => a = env.locals ∨ ∃ p ∈ env.cells, p.2 = a

section
variable {prog : Program} {w : World} {h₀ : Heap} {α β γ δ : Type} {n : Nat} {Mod : Addr → Prop} {R : Heap → α → β → Prop} {R' : Heap → γ → δ → Prop} {env : Env} {H : List (Value × PV)} {ρ : Loc} {σ : Store}
/-- what may turn is no tuple -/
noncomputable def NoTup (Mod : Addr → Prop) (env : Env) : Prop := ∀ a, Mod a → Own env a
theorem ERel.ownNoTup {h : Heap} (X : ERel h₀ env ρ σ h) {a : Addr} (o : Own env a) (items : Array Value) (k : Nat) : ¬ IsT h a items k := by
  intro e
  rcases o with rfl | ⟨p, hp, rfl⟩
  · obtain ⟨m, ob, es, ep, h1, h2, _⟩ := X.ns
    rw [e] at h1; cases h1; cases h2
  · obtain ⟨⟨v, ob, h1, h2⟩, _⟩ := X.cells p hp
    rw [e] at h1; cases h1; cases h2
theorem Post.elim {Q : β → Loc → Store → Prop} {s s' : Shared} {v : α} {C : Prop} (x : Post prog w h₀ Mod R env σ s Q v s') (k : ∀ h' tk b ρ' σ', s' = { s with heap := h', toks := tk } → Pres (fun a => Dom σ a ∨ Mod a) s.heap h' → SRel prog w h₀ σ' h' → ERel h₀ env ρ' σ' h' →
    (∀ a, Dom σ' a → Dom σ a ∨ s.heap.get? a = none) → R h' v b → Q b ρ' σ' → C) : C := by
  obtain ⟨h', tk, b, ρ', σ', e, p, S, X, sub, r, q⟩ := x
  exact k h' tk b ρ' σ' e p S X sub r q
theorem Post.trans {Q : δ → Loc → Store → Prop} {s s₁ : Shared} {h₁ : Heap} {tk : Nat} {σ₁ : Store} {ρ₁ : Loc} {c : γ} {s₂ : Shared} (hM : NoTup Mod env) (X₁ : ERel h₀ env ρ₁ σ₁ s₁.heap)
    (e : s₁ = { s with heap := h₁, toks := tk }) (p : Pres (fun a => Dom σ a ∨ Mod a) s.heap h₁) (sub : ∀ a, Dom σ₁ a → Dom σ a ∨ s.heap.get? a = none)
    (x : Post prog w h₀ Mod R' env σ₁ s₁ Q c s₂) : Post prog w h₀ Mod R' env σ s Q c s₂ := by
  refine x.elim fun h' tk' b ρ' σ' e p' S X sub' r q => ?_
  subst e
  subst e
  refine ⟨h', tk', b, ρ', σ', rfl, ⟨trivial, fun a o na ea => p'.2 a o (fun d => ?_) (p.2 a o na ea)⟩, S, X, fun a d => ?_, r, q⟩
  · rcases d with d | d
    · rcases sub a d with d | d
      · exact na (.inl d)
      · rw [d] at ea; cases ea
    · exact na (.inr d)
  · rcases sub' a d with d | d
    · exact sub a d
    · cases q : s.heap.get? a with
      | none => exact .inr rfl
      | some o =>
        by_cases hd : Dom σ a
        · exact .inl hd
        · by_cases hm : Mod a
          · exfalso
            rcases hM a hm with rfl | ⟨z, hz, rfl⟩
            · obtain ⟨m, ob, es, ep, h1, _⟩ := X₁.ns
              rw [show h₁.get? env.locals = none from d] at h1; cases h1
            · obtain ⟨⟨v, ob, h1, h2⟩, _⟩ := X₁.cells z hz
              rw [show h₁.get? z.2 = none from d] at h1; cases h1
          · have := p.2 a o (fun h => h.elim hd hm) q
            rw [show h₁.get? a = none from d] at this; cases this

theorem WP.mono {t : Sem α} {Q Q' : β → Loc → Store → Prop} (h : WP prog w h₀ n Mod R env H t ρ σ Q) (hq : ∀ b ρ' σ', Q b ρ' σ' → Q' b ρ' σ') : WP prog w h₀ n Mod R env H t ρ σ Q' := fun A s ok S X hh =>
  wpAny_mono (h A s ok S X hh) (fun v s' x => x.elim fun h' tk b ρ' σ' e p S' X' sub r q => ⟨h', tk, b, ρ', σ', e, p, S', X', sub, r, hq _ _ _ q⟩) fun _ _ e => e

/-- one part, then the rest -/
theorem WP.seq (hM : NoTup Mod env) {m : Sem α} {t : Sem γ} {k : α → Sem γ} {Q : δ → Loc → Store → Prop} {HH : α → β → List (Value × PV)}
    (ht : ∀ A s Q' E, wpAny (model prog w) A m (fun v s₁ => wpAny (model prog w) A (k v) Q' E s₁) E s → wpAny (model prog w) A t Q' E s)
    (hR : ∀ h v b, R h v b → Held (HH v b) h)
    (h : WP prog w h₀ n Mod R env H m ρ σ (fun b ρ₁ σ₁ => ∀ v, (∃ h, R h v b) → WP prog w h₀ n Mod R' env (HH v b ++ H) (k v) ρ₁ σ₁ Q)) : WP prog w h₀ n Mod R' env H t ρ σ Q := fun A s ok S X hh => by
  refine ht A s _ _ (wpAny_mono (h A s ok S X hh) (fun v s₁ x => ?_) fun _ _ e => e)
  refine x.elim fun h' tk b ρ' σ' e p S' X' sub r q => ?_
  subst e
  have k := S.tupKeep p (fun a d => d.imp (fun q => q) fun d => X.ownNoTup (hM a d))
  refine wpAny_mono (q v ⟨_, r⟩ A _ ok S' X' (fun z hz => ?_)) (fun v' s₂ x => Post.trans hM X' rfl p sub x) fun _ _ e => e
  rcases List.mem_append.mp hz with hz | hz
  · exact hR _ _ _ r z hz
  · exact (hh z hz).keep k
end

end Mine
end

section
namespace Mine

noncomputable def NoMod : Addr → Prop := fun _ => False
theorem noMod (env : Env) : NoTup NoMod env := fun _ h => h.elim
theorem ownMod (env : Env) : NoTup (Own env) env := fun _ h => h

section
variable (prog : Program) (w : World) (h₀ : Heap)
/-- an expression: the frame's names stay -/
noncomputable def WE {α β : Type} (n : Nat) (R : Heap → α → β → Prop) (env : Env) (H : List (Value × PV)) (t : Sem α) (ρ : Loc) (σ : Store) (Q : β → Store → Prop) : Prop :=
  WP prog w h₀ n NoMod R env H t ρ σ fun b ρ' σ' => ρ' = ρ ∧ Q b σ'
abbrev WV (n : Nat) (env : Env) (H : List (Value × PV)) (t : Sem Value) (ρ : Loc) (σ : Store) (Q : PV → Store → Prop) : Prop := WE prog w h₀ n Is env H t ρ σ Q
abbrev WL (n : Nat) (env : Env) (H : List (Value × PV)) (t : Sem (List Value)) (ρ : Loc) (σ : Store) (Q : List PV → Store → Prop) : Prop := WE prog w h₀ n IsAll env H t ρ σ Q
abbrev WB (n : Nat) (env : Env) (H : List (Value × PV)) (t : Sem Bool) (ρ : Loc) (σ : Store) (Q : Bool → Store → Prop) : Prop := WE prog w h₀ n (fun _ v b => v = b) env H t ρ σ Q

inductive PFlow where
  | next | brk | cont | ret (v : PV)
inductive FlowIs (h : Heap) : Flow → PFlow → Prop
  | next : FlowIs h .next .next
  | brk : FlowIs h .brk .brk
  | cont : FlowIs h .cont .cont
  | ret {v : Value} {x : PV} : Is h v x → FlowIs h (.ret v) (.ret x)
/-- a statement -/
abbrev WS (n : Nat) (env : Env) (t : Sem Flow) (ρ : Loc) (σ : Store) (Q : PFlow → Loc → Store → Prop) : Prop := WP prog w h₀ n (Own env) FlowIs env [] t ρ σ Q
end

section
variable {prog : Program} {w : World} {h₀ : Heap} {α β γ δ : Type} {n : Nat} {Mod : Addr → Prop} {R : Heap → α → β → Prop} {R' : Heap → γ → δ → Prop} {env : Env} {H : List (Value × PV)} {ρ : Loc} {σ : Store}

theorem WE.mono {t : Sem α} {Q Q' : β → Store → Prop} (h : WE prog w h₀ n R env H t ρ σ Q) (hq : ∀ b σ', Q b σ' → Q' b σ') : WE prog w h₀ n R env H t ρ σ Q' := WP.mono h fun b ρ' σ' ⟨e, q⟩ => ⟨e, hq _ _ q⟩

/-- fewer facts held -/
theorem WP.held {t : Sem α} {Q : β → Loc → Store → Prop} {H' : List (Value × PV)} (h : WP prog w h₀ n Mod R env H' t ρ σ Q) (hs : ∀ p ∈ H', p ∈ H) : WP prog w h₀ n Mod R env H t ρ σ Q := fun A s ok S X hh => h A s ok S X fun p hp => hh p (hs p hp)
theorem WP.know {t : Sem α} {Q : β → Loc → Store → Prop} {ρ' : Loc} {σ' : Store} (h : WP prog w h₀ n Mod R env H t ρ' σ' Q) (l : Less σ' σ) (lr : ∀ x v, ρ'.lookup x = some v → ρ.lookup x = some v) : WP prog w h₀ n Mod R env H t ρ σ Q := fun A s ok S X hh =>
  wpAny_mono (h A s ok (S.less l) ((X.less l).forget lr) hh) (fun v s' x => x.elim fun h' tk b ρ' σ' e p S' X' sub r q => ⟨h', tk, b, ρ', σ', e, p.mono (fun a d => d.imp (l.dom ·) id), S', X', fun a d => (sub a d).imp (l.dom ·) id, r, q⟩) fun _ _ e => e
/-- less is wanted at the end -/
theorem WP.drop {t : Sem α} {Q Q' : β → Loc → Store → Prop} (h : WP prog w h₀ n Mod R env H t ρ σ Q) (hq : ∀ b ρ' σ', Q b ρ' σ' → ∃ ρ'' σ'', Less σ'' σ' ∧ (∀ x v, ρ''.lookup x = some v → ρ'.lookup x = some v) ∧ Q' b ρ'' σ'') : WP prog w h₀ n Mod R env H t ρ σ Q' := fun A s ok S X hh =>
  wpAny_mono (h A s ok S X hh) (fun v s' x => x.elim fun h' tk b ρ' σ' e p S' X' sub r q => by
    obtain ⟨ρ'', σ'', l, lr, q'⟩ := hq _ _ _ q
    exact ⟨h', tk, b, ρ'', σ'', e, p, S'.less l, (X'.less l).forget lr, fun a d => sub a (l.dom d), r, q'⟩) fun _ _ e => e
theorem WE.drop {t : Sem α} {Q Q' : β → Store → Prop} (h : WE prog w h₀ n R env H t ρ σ Q) (hq : ∀ b σ', Q b σ' → ∃ σ'', Less σ'' σ' ∧ Q' b σ'') : WE prog w h₀ n R env H t ρ σ Q' :=
  WP.drop h fun b ρ' σ' ⟨e, q⟩ => let ⟨σ'', l, q'⟩ := hq b σ' q; ⟨ρ', σ'', l, fun _ _ e => e, e, q'⟩

theorem WE.seq {m : Sem α} {t : Sem γ} {k : α → Sem γ} {Q : δ → Store → Prop} {HH : α → β → List (Value × PV)}
    (ht : ∀ A s Q' E, wpAny (model prog w) A m (fun v s₁ => wpAny (model prog w) A (k v) Q' E s₁) E s → wpAny (model prog w) A t Q' E s)
    (hR : ∀ h v b, R h v b → Held (HH v b) h)
    (h : WE prog w h₀ n R env H m ρ σ (fun b σ₁ => ∀ v, (∃ h, R h v b) → WE prog w h₀ n R' env (HH v b ++ H) (k v) ρ σ₁ Q)) : WE prog w h₀ n R' env H t ρ σ Q :=
  WP.seq (noMod env) ht hR (WP.mono h fun b ρ₁ σ₁ ⟨e, q⟩ v hv => by subst e; exact q v hv)
theorem WV.seq {m : Sem Value} {t : Sem γ} {k : Value → Sem γ} {Q : δ → Store → Prop}
    (ht : ∀ A s Q' E, wpAny (model prog w) A m (fun v s₁ => wpAny (model prog w) A (k v) Q' E s₁) E s → wpAny (model prog w) A t Q' E s)
    (h : WV prog w h₀ n env H m ρ σ (fun b σ₁ => ∀ v, WE prog w h₀ n R' env ((v, b) :: H) (k v) ρ σ₁ Q)) : WE prog w h₀ n R' env H t ρ σ Q :=
  WE.seq (HH := fun v b => [(v, b)]) ht (fun h v b r p hp => by rw [List.mem_singleton.mp hp]; exact r) (WE.mono h fun b σ₁ q v _ => q v)
theorem WB.seq {m : Sem Bool} {t : Sem γ} {k : Bool → Sem γ} {Q : δ → Store → Prop}
    (ht : ∀ A s Q' E, wpAny (model prog w) A m (fun v s₁ => wpAny (model prog w) A (k v) Q' E s₁) E s → wpAny (model prog w) A t Q' E s)
    (h : WB prog w h₀ n env H m ρ σ (fun b σ₁ => WE prog w h₀ n R' env H (k b) ρ σ₁ Q)) : WE prog w h₀ n R' env H t ρ σ Q :=
  WE.seq (HH := fun v b => []) ht (fun h v b r p hp => by cases hp) (WE.mono h fun b σ₁ q v hv => by obtain ⟨_, rfl⟩ := hv; simpa using q)
/-- the heap stays -/
theorem WE.leaf {t : Sem α} {b : β} {Q : β → Store → Prop} (q : Q b σ)
    (ht : ∀ A s (Q' : α → Shared → Prop), Ok n A → SRel prog w h₀ σ s.heap → ERel h₀ env ρ σ s.heap → Held H s.heap → (∀ v tk, R s.heap v b → Q' v { s with toks := tk }) → wpAny (model prog w) A t Q' (fun _ _ => False) s) : WE prog w h₀ n R env H t ρ σ Q :=
  fun A s ok S X hh => ht A s _ ok S X hh fun v tk r => ⟨s.heap, tk, b, ρ, σ, rfl, Pres.refl, S, X, fun a d => .inl d, r, rfl, q⟩

/-- a new object that may turn -/
theorem WE.newObj {t : Sem Value} {o : MObj} {Q : PV → Store → Prop} (q : ∀ a, σ a = none → Q (.loc a) (upd σ a o))
    (ht : ∀ A s (Q' : Value → Shared → Prop), Ok n A → SRel prog w h₀ σ s.heap → ERel h₀ env ρ σ s.heap → Held H s.heap →
      (∀ h' tk a, Pres NoMod s.heap h' → s.heap.get? a = none → Rep prog w h' a o → Q' (.ref a) { s with heap := h', toks := tk }) → wpAny (model prog w) A t Q' (fun _ _ => False) s) : WV prog w h₀ n env H t ρ σ Q := fun A s ok S X hh =>
  ht A s _ ok S X hh fun h' tk a p ha r => by
    have fr : σ a = none := by
      cases e : σ a with
      | none => rfl
      | some o' => obtain ⟨ob, e2, _⟩ := (S.objs _ _ e).get; rw [ha] at e2; cases e2
    have k : TupKeep s.heap h' := fun b items n' e => p.2 b _ (fun f => f) e
    have sub : ∀ b, Dom (upd σ a o) b → Dom σ b ∨ s.heap.get? b = none := fun b ⟨o', e⟩ => by
      by_cases hb : b = a
      · subst hb; exact .inr ha
      · rw [upd_ne _ _ hb] at e; exact .inl ⟨o', e⟩
    have X' := X.step (σ' := upd σ a o) p k (fun f => f) (fun _ _ f => f) sub
    refine ⟨h', tk, .loc a, ρ, upd σ a o, rfl, p.mono (fun b d => d.elim), ⟨fun b ob e => p.2 b ob (fun f => f) (S.base b ob e), trivial, fun b o' e => ?_, fun b o' e => ?_⟩, X', sub, .loc a, rfl, q a fr⟩
    · by_cases hb : b = a
      · subst hb; rw [upd_same] at e; cases e; exact r
      · rw [upd_ne _ _ hb] at e; exact (S.objs b o' e).keep k fun ob eo => p.2 b ob (fun f => f) eo
    · by_cases hb : b = a
      · subst hb
        cases q' : h₀.get? b with
        | none => rfl
        | some ob => have e2 := S.base _ _ q'; rw [ha] at e2; cases e2
      · rw [upd_ne _ _ hb] at e; exact S.off b o' e

/-- new objects that stay: the value is firm -/
theorem WE.newFirm {t : Sem α} {b : β} {Q : β → Store → Prop} (q : Q b σ)
    (ht : ∀ A s (Q' : α → Shared → Prop), Ok n A → SRel prog w h₀ σ s.heap → ERel h₀ env ρ σ s.heap → Held H s.heap →
      (∀ v h' tk, Pres NoMod s.heap h' → R h' v b → Q' v { s with heap := h', toks := tk }) → wpAny (model prog w) A t Q' (fun _ _ => False) s) : WE prog w h₀ n R env H t ρ σ Q := fun A s ok S X hh =>
  ht A s _ ok S X hh fun v h' tk p r => by
    have k : TupKeep s.heap h' := fun b items n' e => p.2 b _ (fun f => f) e
    exact ⟨h', tk, b, ρ, σ, rfl, p.mono (fun b d => d.elim), ⟨fun b ob e => p.2 b ob (fun f => f) (S.base b ob e), trivial, fun b o' e => (S.objs b o' e).keep k fun ob eo => p.2 b ob (fun f => f) eo, S.off⟩,
      X.step p k (fun f => f) (fun _ _ f => f) (fun _ d => .inl d), fun _ d => .inl d, r, rfl, q⟩

/-- one object turns -/
theorem WE.turn {t : Sem α} {b : β} {a : Addr} {o o' : MObj} {Q : β → Store → Prop} (e : σ a = some o) (q : Q b (upd σ a o'))
    (ht : ∀ A s (Q' : α → Shared → Prop), Ok n A → SRel prog w h₀ σ s.heap → ERel h₀ env ρ σ s.heap → Held H s.heap → Rep prog w s.heap a o →
      (∀ v h' tk, Pres (fun c => c = a) s.heap h' → (TupKeep s.heap h' → Rep prog w h' a o' ∧ R h' v b) → Q' v { s with heap := h', toks := tk }) → wpAny (model prog w) A t Q' (fun _ _ => False) s) : WE prog w h₀ n R env H t ρ σ Q := fun A s ok S X hh =>
  ht A s _ ok S X hh (S.objs a o e) fun v h' tk p r => by
    have k : TupKeep s.heap h' := S.tupKeep p fun c hc => .inl (by subst hc; exact ⟨o, e⟩)
    obtain ⟨r1, r2⟩ := r k
    have sub : ∀ b, Dom (upd σ a o') b → Dom σ b ∨ s.heap.get? b = none := fun b ⟨o2, e2⟩ => by
      by_cases hb : b = a
      · subst hb; exact .inl ⟨o, e⟩
      · rw [upd_ne _ _ hb] at e2; exact .inl ⟨o2, e2⟩
    have nL : env.locals ≠ a := fun h => by have := X.nsoff.2; rw [h, e] at this; cases this
    refine ⟨h', tk, b, ρ, upd σ a o', rfl, p.mono (fun c hc => .inl (by subst hc; exact ⟨o, e⟩)), ⟨fun c ob ec => p.2 c ob (fun h => ?_) (S.base c ob ec), trivial, fun c o2 ec => ?_, fun c o2 ec => ?_⟩,
      X.step p k nL (fun z hz h => ?_) sub, sub, r2, rfl, q⟩
    · subst h; rw [S.off _ _ e] at ec; cases ec
    · by_cases hb : c = a
      · subst hb; rw [upd_same] at ec; cases ec; exact r1
      · rw [upd_ne _ _ hb] at ec; exact (S.objs c o2 ec).keep k fun ob eo => p.2 c ob hb eo
    · by_cases hb : c = a
      · subst hb; exact S.off _ _ e
      · rw [upd_ne _ _ hb] at ec; exact S.off c o2 ec
    · have := (X.cells z hz).2.2.1; rw [h, e] at this; cases this
end

section
variable {prog : Program} {w : World} {h₀ : Heap} {n : Nat} {env : Env} {H : List (Value × PV)} {ρ : Loc} {σ : Store} {Q : PV → Store → Prop}

theorem we_int {i : Int} {k : Nat} {pos : Pos} (q : Q (.int i) σ) : WV prog w h₀ n env H (eval (.Constant (.int i) k pos) env) ρ σ Q := WE.leaf q fun A s Q' ok S X hh hQ => wpAny_Constant_int (hQ _ _ (.int _ _))
end

end Mine
end

section
namespace Mine

section
variable {prog : Program} {w : World} {h₀ : Heap} {α β γ δ : Type} {n : Nat} {Mod : Addr → Prop} {R : Heap → α → β → Prop} {R' : Heap → γ → δ → Prop} {env : Env} {H : List (Value × PV)} {ρ : Loc} {σ : Store}

theorem held_int {h : Heap} {v : Value} {i : Int} (x : Held H h) (m : (v, PV.int i) ∈ H) : ∃ t, v = .int i t := by
  have := x _ m; cases this; exact ⟨_, rfl⟩
theorem held_bool {h : Heap} {v : Value} {i : Bool} (x : Held H h) (m : (v, PV.bool i) ∈ H) : v = .bool i := by
  have := x _ m; cases this; rfl
theorem held_loc {h : Heap} {v : Value} {a : Addr} (x : Held H h) (m : (v, PV.loc a) ∈ H) : v = .ref a := by
  have := x _ m; cases this; rfl
theorem held_tup {h : Heap} {v : Value} {xs : List PV} (x : Held H h) (m : (v, PV.tup xs) ∈ H) : ∃ a n vs, v = .ref a ∧ IsT h a (List.toArray vs) n ∧ IsAll h vs xs := by
  have := x _ m; cases this with | tup t r => exact ⟨_, _, _, rfl, t, r⟩

/-- two parts, then the rest -/
theorem WV.seq2 {m1 m2 : Sem Value} {t : Sem γ} {k : Value → Value → Sem γ} {Q : δ → Store → Prop}
    (ht : ∀ A s Q' E, wpAny (model prog w) A m1 (fun a s₁ => wpAny (model prog w) A m2 (fun b s₂ => wpAny (model prog w) A (k a b) Q' E s₂) E s₁) E s → wpAny (model prog w) A t Q' E s)
    (h : WV prog w h₀ n env H m1 ρ σ (fun x σ₁ => ∀ a, WV prog w h₀ n env ((a, x) :: H) m2 ρ σ₁ (fun y σ₂ => ∀ b, WE prog w h₀ n R' env ((b, y) :: (a, x) :: H) (k a b) ρ σ₂ Q))) : WE prog w h₀ n R' env H t ρ σ Q := fun A s ok S X hh => by
  refine ht A s _ _ (wpAny_mono (h A s ok S X hh) (fun a s₁ x => ?_) fun _ _ e => e)
  refine x.elim fun h' tk b ρ' σ' e p S' X' sub r q => ?_
  obtain ⟨rfl, q⟩ := q
  subst e
  have k1 := S.tupKeep p (fun a d => d.imp (fun q => q) fun d => d.elim)
  have hh' := (hh.keep k1).cons r
  refine wpAny_mono (q a A _ ok S' X' hh') (fun c s₂ x => ?_) fun _ _ e => e
  obtain ⟨h2, tk2, b2, ρ2, σ2, rfl, p2, S2, X2, sub2, r2, rfl, q2⟩ := x
  have k2 := S'.tupKeep p2 (fun a d => d.imp (fun q => q) fun d => d.elim)
  refine wpAny_mono (q2 c A _ ok S2 X2 ((hh'.keep k2).cons r2)) (fun v s₃ x => ?_) fun _ _ e => e
  exact Post.trans (noMod env) X' rfl p sub (Post.trans (noMod env) X2 rfl p2 sub2 x)
theorem WE.run {m : Sem α} {Q1 : β → Store → Prop} (h : WE prog w h₀ n R env H m ρ σ Q1) {A : Around} {s : Shared} (ok : Ok n A) (S : SRel prog w h₀ σ s.heap) (X : ERel h₀ env ρ σ s.heap) (hh : Held H s.heap) {Q' : α → Shared → Prop}
    (hq : ∀ v s₁ b σ₁, SRel prog w h₀ σ₁ s₁.heap → ERel h₀ env ρ σ₁ s₁.heap → Held H s₁.heap → R s₁.heap v b → Q1 b σ₁ → (∀ (Q : δ → Loc → Store → Prop) c s₂, Post prog w h₀ NoMod R' env σ₁ s₁ Q c s₂ → Post prog w h₀ NoMod R' env σ s Q c s₂) → Q' v s₁) :
    wpAny (model prog w) A m Q' (fun _ _ => False) s :=
  wpAny_mono (h A s ok S X hh) (fun v s₁ x => by
    refine x.elim fun h' tk b ρ' σ' e p S' X' sub r q => ?_
    obtain ⟨e2, q⟩ := q
    subst e; subst e2
    exact hq v _ b σ' S' X' (hh.keep (S.tupKeep p (fun a d => d.imp (fun q => q) fun d => d.elim))) r q fun Q c s₂ x => Post.trans (noMod env) X' rfl p sub x) fun _ _ e => e
theorem Post.here {Q : β → Loc → Store → Prop} {s : Shared} {v : α} {b : β} (S : SRel prog w h₀ σ s.heap) (X : ERel h₀ env ρ σ s.heap) (r : R s.heap v b) (q : Q b ρ σ) : Post prog w h₀ Mod R env σ s Q v s :=
  ⟨s.heap, s.toks, b, ρ, σ, rfl, Pres.refl, S, X, fun _ d => .inl d, r, q⟩
theorem WE.more {t : Sem γ} {Q : δ → Store → Prop} (h : WE prog w h₀ n R' env [] t ρ σ Q) : WE prog w h₀ n R' env H t ρ σ Q := WP.held h fun _ hp => by cases hp
end

section
variable {prog : Program} {w : World} {h₀ : Heap} {n : Nat} {env : Env} {H : List (Value × PV)} {ρ : Loc} {σ : Store} {Q : PV → Store → Prop}

theorem we_str {x : Str} {k : Nat} {pos : Pos} (q : Q (.str x) σ) : WV prog w h₀ n env H (eval (.Constant (.str x) k pos) env) ρ σ Q := WE.leaf q fun A s Q' ok S X hh hQ => wpAny_Constant_str (hQ _ _ (.str _ _))
theorem we_bool {x : Bool} {k : Nat} {pos : Pos} (q : Q (.bool x) σ) : WV prog w h₀ n env H (eval (.Constant (.bool x) k pos) env) ρ σ Q := WE.leaf q fun A s Q' ok S X hh hQ => Constant_bool (hQ _ s.toks (.bool _))
theorem we_none {k : Nat} {pos : Pos} (q : Q .none σ) : WV prog w h₀ n env H (eval (.Constant .none k pos) env) ρ σ Q := WE.leaf q fun A s Q' ok S X hh hQ => Constant_none (hQ _ s.toks .none)
theorem wv_loadName {x : Str} {v : PV} (e : ρ.lookup x = some v) (q : Q v σ) (hc : (x == ("__classdict__" : Str)) = false := by decide) : WV prog w h₀ n env H (loadName env x) ρ σ Q := WE.leaf q fun A s Q' ok S X hh hQ => by
  obtain ⟨val, hv, hi⟩ := X.vars _ _ e
  rcases hv with ⟨hk, m, hn, hm⟩ | ⟨hk, c, hl, hcell⟩
  · exact wpAny_loadName_local X.kind hk hn hm (hQ val s.toks hi)
  · rcases hk with hk | hk
    · exact wpAny_loadName_cell X.kind hk hl hcell (hQ val s.toks hi)
    · exact wpAny_loadName_free X.kind hk hl hcell (hQ val s.toks hi) hc
theorem we_name {x : Str} {pos : Pos} {v : PV} (e : ρ.lookup x = some v) (q : Q v σ) (hd : (x == ("__debug__" : Str)) = false := by decide) (hc : (x == ("__classdict__" : Str)) = false := by decide) : WV prog w h₀ n env H (eval (.Name x pos) env) ρ σ Q :=
  fun A s ok S X hh => wpAny_Name (wv_loadName (prog := prog) (w := w) (h₀ := h₀) (n := n) (H := H) e q hc A s ok S X hh) hd

/-- what an operator answers -/
noncomputable def LBin (prog : Program) (w : World) (h₀ : Heap) (n : Nat) (op : Operator) (x y : PV) (σ : Store) (Q : PV → Store → Prop) : Prop :=
  ∀ env ρ H a b, (a, x) ∈ H → (b, y) ∈ H → WV prog w h₀ n env H (binaryOp op a b) ρ σ Q
theorem we_bin {l r : Expr} {op : Operator} {pos : Pos}
    (h : WV prog w h₀ n env [] (eval l env) ρ σ fun x σ₁ => WV prog w h₀ n env [] (eval r env) ρ σ₁ fun y σ₂ => LBin prog w h₀ n op x y σ₂ Q) :
    WV prog w h₀ n env [] (eval (.BinOp l op r pos) env) ρ σ Q :=
  WV.seq2 (fun A s Q' E hh => wpAny_BinOp hh) (WE.mono h fun x σ₁ q a => WE.more (WE.mono q fun y σ₂ q b => q _ _ _ _ _ (.tail _ (.head _)) (.head _)))

theorem lb_add_int {i j : Int} (q : Q (.int (i + j)) σ) : LBin prog w h₀ n .Add (.int i) (.int j) σ Q := fun env ρ H a b ha hb => WE.leaf q fun A s Q' ok S X hh hQ => by
  obtain ⟨t, rfl⟩ := held_int hh ha; obtain ⟨u, rfl⟩ := held_int hh hb; exact PyProof.Rows.add_int (hQ _ _ (.int _ _))
theorem lb_sub_int {i j : Int} (q : Q (.int (i - j)) σ) : LBin prog w h₀ n .Sub (.int i) (.int j) σ Q := fun env ρ H a b ha hb => WE.leaf q fun A s Q' ok S X hh hQ => by
  obtain ⟨t, rfl⟩ := held_int hh ha; obtain ⟨u, rfl⟩ := held_int hh hb; exact PyProof.Rows.sub_int (hQ _ _ (.int _ _))
theorem lb_mul_int {i j : Int} (hm : i.natAbs < 2 ^ 60) (q : Q (.int (i * j)) σ) : LBin prog w h₀ n .Mult (.int i) (.int j) σ Q := fun env ρ H a b ha hb => WE.leaf q fun A s Q' ok S X hh hQ => by
  obtain ⟨t, rfl⟩ := held_int hh ha; obtain ⟨u, rfl⟩ := held_int hh hb; exact PyProof.Rows.mul_int (hQ _ _ (.int _ _)) (IntMulOk.of_left (PySem.intBits_le_64 (by omega) (by omega)))
theorem lb_div_int {i j : Int} (h0 : j ≠ 0) (hb : j.natAbs < 1073741824) (q : Q (.int (i.fdiv j)) σ) : LBin prog w h₀ n .FloorDiv (.int i) (.int j) σ Q := fun env ρ H a b ha hb' => WE.leaf q fun A s Q' ok S X hh hQ => by
  obtain ⟨t, rfl⟩ := held_int hh ha; obtain ⟨u, rfl⟩ := held_int hh hb'; exact PyProof.Rows.floordiv_int h0 (hQ _ _ (.int _ _)) (.inl (PyProof.noPylong_small hb))
theorem lb_mod_int {i j : Int} (h0 : j ≠ 0) (q : Q (.int (i.fmod j)) σ) : LBin prog w h₀ n .Mod (.int i) (.int j) σ Q := fun env ρ H a b ha hb' => WE.leaf q fun A s Q' ok S X hh hQ => by
  obtain ⟨t, rfl⟩ := held_int hh ha; obtain ⟨u, rfl⟩ := held_int hh hb'; exact PyProof.Rows.mod_int' h0 (hQ _ _ (.int _ _))
theorem lb_add_list {a b : Addr} {xs ys : List PV} (ea : σ a = some (.lst xs)) (eb : σ b = some (.lst ys)) (hs : xs.length + ys.length ≤ 1000000) (q : ∀ c, σ c = none → Q (.loc c) (upd σ c (.lst (xs ++ ys)))) : LBin prog w h₀ n .Add (.loc a) (.loc b) σ Q := fun env ρ H u v ha hb => WE.newObj q fun A s Q' ok S X hh hQ => by
  have := held_loc hh ha; subst this; have := held_loc hh hb; subst this
  obtain ⟨vs, k, l1, i1⟩ := S.objs _ _ ea
  obtain ⟨ws, k2, l2, i2⟩ := S.objs _ _ eb
  have e1 := i1.length; have e2 := i2.length
  refine PySem.P.add_list l1 l2 ?_ (by simp only [List.size_toArray]; unfold sizeLine; (first | lia | omega))
  have p : Pres NoMod s.heap (s.heap.push { cls := .type "list", data := .seq (vs.toArray ++ ws.toArray) }) := Pres.refl.push _
  refine hQ _ s.toks _ p (fresh _) ⟨vs ++ ws, 0, ?_, ?_⟩
  · rw [← List.append_toArray]; exact IsL.new _ _
  · have k : TupKeep s.heap (s.heap.push { cls := .type "list", data := .seq (vs.toArray ++ ws.toArray) }) := fun b items n' e => p.2 b _ (fun f => f) e
    exact (i1.append i2).keep k

/-- what a comparison answers; the heap stays -/
noncomputable def LCmp (prog : Program) (w : World) (h₀ : Heap) (op : CmpOp) (x y : PV) (σ : Store) (r : Bool) : Prop :=
  ∀ A s a b (Q : Value → Shared → Prop), Ok 0 A → SRel prog w h₀ σ s.heap → Is s.heap a x → Is s.heap b y → (∀ tk, Q (.bool r) { s with toks := tk }) → wpAny (model prog w) A (compareOp op a b) Q (fun _ _ => False) s
theorem we_cmp {l r : Expr} {op : CmpOp} {pos : Pos} 
    (h : WV prog w h₀ n env [] (eval l env) ρ σ fun x σ₁ => WV prog w h₀ n env [] (eval r env) ρ σ₁ fun y σ₂ => ∃ b, LCmp prog w h₀ op x y σ₂ b ∧ Q (.bool b) σ₂) 
    (hm : behindInMarks op r = false := by with_unfolding_all rfl) :
    WV prog w h₀ n env [] (eval (.Compare l [op] [r] pos) env) ρ σ Q :=
  WV.seq2 (fun A s Q' E hh => wpAny_Compare1 hh hm) (WE.mono h fun x σ₁ q a => WE.more (WE.mono q fun y σ₂ ⟨r, c, q⟩ b => WE.leaf q fun A s Q' ok S X hh hQ =>
    c A s a b _ (ok.mono (Nat.zero_le _)) S (hh _ (.tail _ (.head _))) (hh _ (.head _)) fun tk => hQ _ _ (.bool _)))
variable {QB : Bool → Store → Prop}
theorem wt_cmp {l r : Expr} {op : CmpOp} {pos : Pos} {whole : Sem Value}
    (h : WV prog w h₀ n env [] (eval l env) ρ σ fun x σ₁ => WV prog w h₀ n env [] (eval r env) ρ σ₁ fun y σ₂ => ∃ b, LCmp prog w h₀ op x y σ₂ b ∧ QB b σ₂) 
    (hm : behindInMarks op r = false := by with_unfolding_all rfl) :
    WB prog w h₀ n env [] (isTrue (.Compare l [op] [r] pos) env whole) ρ σ QB :=
  WV.seq2 (k := fun a b => compareOp op a b >>= truthy) (fun A s Q' E hh Γ p hΓ => by
      simp only [isTrue_Compare1, markedBehindIn_of_false hm, Sem.wp_bind', Sem.wp_holding, Sem.wp_cmd_standAt, Sem.wp_operate]
      exact Sem.wp_mono _ Γ _ (fun a p₁ s₁ h₁ => Sem.wp_mono _ Γ _ (fun b _ s₂ h₂ => by simpa only [Sem.wp_bind'] using h₂ Γ _ hΓ)
        (fun _ _ _ h' => h') _ _ (h₁ Γ p₁ hΓ)) (fun _ _ _ h' => h') _ _ (hh Γ p hΓ)) (WE.mono h fun x σ₁ q a => WE.more (WE.mono q fun y σ₂ ⟨r, c, q⟩ b => WE.leaf q fun A s Q' ok S X hh hQ =>
    wpAny_bind (c A s a b _ (ok.mono (Nat.zero_le _)) S (hh _ (.tail _ (.head _))) (hh _ (.head _)) fun tk => wpAny_truthy_bool (hQ _ _ rfl))))
theorem wt_or_nil {pos : Pos} {whole : Sem Value} (q : QB false σ) : WB prog w h₀ n env [] (isTrue (.BoolOp .Or [] pos) env whole) ρ σ QB := WE.leaf q fun A s Q' ok S X hh hQ => isTrue_or_nil (hQ _ _ rfl)
theorem wt_or {x : Expr} {rest : List Expr} {pos : Pos} {whole : Sem Value}
    (h : WB prog w h₀ n env [] (isTrue x env (eval x env)) ρ σ fun c σ₁ => if c then QB true σ₁ else WB prog w h₀ n env [] (isTrue (.BoolOp .Or rest pos) env whole) ρ σ₁ QB) :
    WB prog w h₀ n env [] (isTrue (.BoolOp .Or (x :: rest) pos) env whole) ρ σ QB := fun A s ok S X hh => isTrue_or (h.run ok S X hh fun v s₁ b σ₁ S₁ X₁ hh₁ r q tr => by
      subst r; cases v
      · exact wpAny_mono (q A s₁ ok S₁ X₁ hh₁) (fun v s₂ x => tr _ _ _ x) fun _ _ e => e
      · exact tr _ _ _ (Post.here S₁ X₁ rfl ⟨rfl, q⟩))
theorem wt_and {x : Expr} {rest : List Expr} {pos : Pos} {whole : Sem Value}
    (h : WB prog w h₀ n env [] (isTrue x env (eval x env)) ρ σ fun c σ₁ => if c then WB prog w h₀ n env [] (isTrue (.BoolOp .And rest pos) env whole) ρ σ₁ QB else QB false σ₁) :
    WB prog w h₀ n env [] (isTrue (.BoolOp .And (x :: rest) pos) env whole) ρ σ QB := fun A s ok S X hh => isTrue_and (h.run ok S X hh fun v s₁ b σ₁ S₁ X₁ hh₁ r q tr => by
      subst r; cases v
      · exact tr _ _ _ (Post.here S₁ X₁ rfl ⟨rfl, q⟩)
      · exact wpAny_mono (q A s₁ ok S₁ X₁ hh₁) (fun v s₂ x => tr _ _ _ x) fun _ _ e => e)
/-- a value asked for its truth: a bool -/
theorem wt_plain {e : Expr} {whole : Sem Value} (h : WV prog w h₀ n env [] whole ρ σ fun x σ₁ => ∃ b, x = .bool b ∧ QB b σ₁)
    (he : isTrue e env whole = (do let v ← whole; standAt e.pos; holding [v] (truthy v)) := by rfl) : WB prog w h₀ n env [] (isTrue e env whole) ρ σ QB :=
  WV.seq (fun A s Q' E hh => isTrue_plain hh he) (WE.mono h fun x σ₁ ⟨b, e, q⟩ v => by
    subst e; exact WE.leaf q fun A s Q' ok S X hh hQ => by have := held_bool hh (.head _); subst this; exact wpAny_truthy_bool (hQ _ s.toks rfl))
theorem we_if {test body orelse : Expr} {pos : Pos} (h : WB prog w h₀ n env [] (isTrue test env (eval test env)) ρ σ fun c σ₁ => if c then WV prog w h₀ n env [] (eval body env) ρ σ₁ Q else WV prog w h₀ n env [] (eval orelse env) ρ σ₁ Q) :
    WV prog w h₀ n env [] (eval (.IfExp test body orelse pos) env) ρ σ Q :=
  WB.seq (k := fun c => if c then eval body env else eval orelse env) (fun A s Q' E hh => IfExp_ (wpAny_mono hh (fun c s' h' => by cases c <;> exact h') fun _ _ e => e)) (WE.mono h fun c σ₁ q => by cases c <;> exact q)

-- lists of parts
variable {QL : List PV → Store → Prop}
theorem wl_nil {pos : Pos} (q : QL [] σ) : WL prog w h₀ n env [] (spliced (backTo pos (starEach [] env))) ρ σ QL := WE.leaf q fun A s Q' ok S X hh hQ => Calls.spliced_nil (hQ _ s.toks .nil)
theorem wl_cons {e : Expr} {es : List Expr} {pos : Pos} (h : WV prog w h₀ n env [] (eval e env) ρ σ fun x σ₁ => WL prog w h₀ n env [] (spliced (backTo pos (starEach es env))) ρ σ₁ fun xs σ₂ => QL (x :: xs) σ₂)
    (he : starEach (e :: es) env = (false, eval e env) :: starEach es env := by rfl) : WL prog w h₀ n env [] (spliced (backTo pos (starEach (e :: es) env))) ρ σ QL := by
  rw [he]
  exact fun A s ok S X hh => Calls.spliced_cons (h.run ok S X hh fun v s₁ x σ₁ S₁ X₁ hh₁ r q tr => (WE.more (H := [(v, x)]) q).run ok S₁ X₁ (hh₁.cons r) fun vs s₂ xs σ₂ S₂ X₂ hh₂ r₂ q₂ tr₂ => 
    tr _ _ _ (tr₂ _ _ _ (Post.here S₂ X₂ (.cons (hh₂ _ (.head _)) r₂) ⟨rfl, q₂⟩)))
end

end Mine
end

section
namespace Mine

mutual
noncomputable def Ty.deep : Ty → Nat
  | .tup ts => Ty.deeps ts + 1
  | .seq t => t.deep + 1
  | _ => 0
noncomputable def Ty.deeps : List Ty → Nat
  | [] => 0
  | t :: ts => max t.deep (Ty.deeps ts)
end
mutual
theorem HasTy.deep : ∀ (t : Ty) (x : PV), HasTy t x → x.deep ≤ t.deep
  | t, x, h => by
    cases x <;> cases t <;> first | exact False.elim h | exact Nat.zero_le _ | exact Nat.succ_le_succ (HasTys.deep _ _ h) | exact Nat.succ_le_succ (AllTy.deep _ _ h)
theorem HasTys.deep : ∀ (ts : List Ty) (xs : List PV), HasTys ts xs → PV.deeps xs ≤ Ty.deeps ts
  | ts, [], h => Nat.zero_le _
  | [], x :: xs, h => False.elim h
  | t :: ts, x :: xs, h => Nat.max_le.mpr ⟨Nat.le_trans (HasTy.deep t x (And.left h)) (Nat.le_max_left ..), Nat.le_trans (HasTys.deep ts xs (And.right h)) (Nat.le_max_right ..)⟩
theorem AllTy.deep : ∀ (t : Ty) (xs : List PV), AllTy t xs → PV.deeps xs ≤ t.deep
  | t, [], h => Nat.zero_le _
  | t, x :: xs, h => Nat.max_le.mpr ⟨HasTy.deep t x (And.left h), AllTy.deep t xs (And.right h)⟩
end
section
variable {prog : Program} {w : World} {h₀ : Heap} {σ : Store}
theorem in1_units (A : Around) : A.in1.units ≤ A.units + 1 := Nat.le_refl _

theorem lc_lt {i j : Int} : LCmp prog w h₀ .Lt (.int i) (.int j) σ (decide (i < j)) := fun A s a b Q ok S ha hb hQ => by cases ha; cases hb; exact PyProof.Rows.lt_int (hQ s.toks)
theorem lc_le {i j : Int} : LCmp prog w h₀ .LtE (.int i) (.int j) σ (decide (i ≤ j)) := fun A s a b Q ok S ha hb hQ => by cases ha; cases hb; exact PyProof.Rows.le_int (hQ s.toks)
theorem lc_gt {i j : Int} : LCmp prog w h₀ .Gt (.int i) (.int j) σ (decide (j < i)) := fun A s a b Q ok S ha hb hQ => by cases ha; cases hb; exact PyProof.Rows.gt_int (hQ s.toks)
theorem lc_eq {i j : Int} : LCmp prog w h₀ .Eq (.int i) (.int j) σ (decide (i = j)) := fun A s a b Q ok S ha hb hQ => by cases ha; cases hb; exact PyProof.Rows.eq_int (hQ s.toks)
theorem lc_ne {i j : Int} : LCmp prog w h₀ .NotEq (.int i) (.int j) σ (!decide (i = j)) := fun A s a b Q ok S ha hb hQ => by cases ha; cases hb; exact PyProof.Rows.ne_int (hQ s.toks)
theorem lc_is_none {x : PV} : LCmp prog w h₀ .Is x .none σ (match x with | .none => true | _ => false) := fun A s a b Q ok S ha hb hQ => by
  cases hb
  refine is_none ?_
  have := hQ s.toks
  cases ha <;> exact this
theorem lc_lt_ord {x y : PV} (T : Ty) (hd : T.deep ≤ 50) (hx : HasTy T x) (ho : Ord x y) : LCmp prog w h₀ .Lt x y σ (PV.lt x y) := fun A s a b Q ok S ha hb hQ =>
  (ltAt_ord 50 A s a b x y (Nat.le_trans (HasTy.deep _ _ hx) hd) (by have := ok.room; (first | lia | omega)) ha hb ho prog w _ Q (hQ s.toks) : _)
theorem seqEq {A : Around} {s : Shared} {vs ws : List Value} {xs ys : List PV} (hd : PV.deeps xs ≤ 50) (hu : A.units + 60 < cLine) (hx : IsAll s.heap vs xs) (hy : IsAll s.heap ws ys) (hs : Sims xs ys) :
    ∀ (j : Nat) (h1 : j < vs.toArray.size) (h2 : j < ws.toArray.size), EqAt A.in1 s vs.toArray[j] ws.toArray[j] (PV.beq (xs.getD j .none) (ys.getD j .none)) := fun j h1 h2 => by
  have l1 := hx.length; have l2 := hy.length
  simp only [List.size_toArray] at h1 h2
  obtain ⟨x, ex, ix⟩ := hx.get' (i := j) (List.getElem?_eq_getElem h1)
  obtain ⟨y, ey, iy⟩ := hy.get' (i := j) (List.getElem?_eq_getElem h2)
  have e1 : xs.getD j .none = x := by simp [List.getD, ex]
  have e2 : ys.getD j .none = y := by simp [List.getD, ey]
  rw [e1, e2]
  simp only [List.getElem_toArray]
  have := in1_units A
  exact eqAt_sim 50 _ s _ _ x y (Nat.le_trans (PV.deep_le (List.mem_of_getElem? ex)) hd) (by (first | lia | omega)) ix iy (hs.get ex ey)
theorem lc_ne_tup {xs ys : List PV} (hd : PV.deeps xs ≤ 50) (hs : Sims xs ys) : LCmp prog w h₀ .NotEq (.tup xs) (.tup ys) σ (!PV.beqs xs ys) := fun A s a b Q ok S ha hb hQ => by
  cases ha with | tup ta ra => cases hb with | tup tb rb => 
    show wpAny _ _ (richCompare .NotEq _ _) _ _ _
    have e := RcNeAt.tuples (IsTup_of ta) (IsTup_of tb) (A := A) (by have := ok.room; (first | lia | omega)) (seqEq hd (by have := ok.room; (first | lia | omega)) ra rb hs)
    have l1 := ra.length; have l2 := rb.length
    refine e prog w _ _ ?_
    have h2 := hQ s.toks
    rw [beqs_all .none] at h2
    simp only [List.size_toArray, l1, l2]
    exact h2
theorem IsL.isList {h : Heap} {a : Addr} {items : Array Value} {n : Nat} (x : IsL h a items n) : h.IsList a items := ⟨_, x, rfl, n, rfl⟩
theorem lc_eq_list {a b : Addr} {xs ys : List PV} (ea : σ a = some (.lst xs)) (eb : σ b = some (.lst ys)) (hd : PV.deeps xs ≤ 50) (hs : Sims xs ys) : LCmp prog w h₀ .Eq (.loc a) (.loc b) σ (PV.beqs xs ys) := fun A s u v Q ok S ha hb hQ => by
  cases ha; cases hb
  obtain ⟨vs, k, l1, i1⟩ := S.objs _ _ ea
  obtain ⟨ws, k2, l2, i2⟩ := S.objs _ _ eb
  have n1 := i1.length; have n2 := i2.length
  refine cmp_ofEq ?_
  have h2 := hQ s.toks
  rw [beqs_all .none] at h2
  by_cases e : xs.length = ys.length
  · refine RcAt.lists (IsL.isList l1) (IsL.isList l2) (by simp; (first | lia | omega)) (by have := ok.room; (first | lia | omega)) (seqEq hd (by have := ok.room; (first | lia | omega)) i1 i2 hs) prog w _ _ ?_
    have e1 : (xs.length == ys.length) = true := by simpa using e
    rw [e1, Bool.and_true, ← e, Nat.min_self] at h2
    simpa only [List.size_toArray, n1] using h2
  · refine RcAt.lists_lengths (IsL.isList l1) (IsL.isList l2) (by simp; (first | lia | omega)) (by have := ok.room; (first | lia | omega)) prog w _ _ ?_
    have e1 : (xs.length == ys.length) = false := by simpa using e
    rw [e1, Bool.and_false] at h2
    exact h2
theorem lc_ne_list {a b : Addr} {xs ys : List PV} (ea : σ a = some (.lst xs)) (eb : σ b = some (.lst ys)) (hd : PV.deeps xs ≤ 50) (hs : Sims xs ys) : LCmp prog w h₀ .NotEq (.loc a) (.loc b) σ (!PV.beqs xs ys) := fun A s u v Q ok S ha hb hQ => by
  cases ha; cases hb
  obtain ⟨vs, k, l1, i1⟩ := S.objs _ _ ea
  obtain ⟨ws, k2, l2, i2⟩ := S.objs _ _ eb
  have n1 := i1.length; have n2 := i2.length
  show wpAny _ _ (richCompare .NotEq _ _) _ _ _
  have h2 := hQ s.toks
  rw [beqs_all .none] at h2
  by_cases e : xs.length = ys.length
  · refine RcNeAt.lists (IsL.isList l1) (IsL.isList l2) (by simp; (first | lia | omega)) (by have := ok.room; (first | lia | omega)) (seqEq hd (by have := ok.room; (first | lia | omega)) i1 i2 hs) prog w _ _ ?_
    have e1 : (xs.length == ys.length) = true := by simpa using e
    rw [e1, Bool.and_true, ← e, Nat.min_self] at h2
    simpa only [List.size_toArray, n1] using h2
  · refine RcNeAt.lists_lengths (IsL.isList l1) (IsL.isList l2) (by simp; (first | lia | omega)) (by have := ok.room; (first | lia | omega)) prog w _ _ ?_
    have e1 : (xs.length == ys.length) = false := by simpa using e
    rw [e1, Bool.and_false] at h2
    exact h2

open Classical in
theorem anyIs {h : Heap} {vs : List Value} {xs : List PV} {u : Value} {k : PV} (H : IsAll h vs xs) (hu : Is h u k) (hs : ∀ x ∈ xs, Sim x k) (f : Value → Bool) (hf : ∀ v x, v ∈ vs → x ∈ xs → Is h v x → f v = PV.beq x k) : vs.toArray.any f = xs.any (PV.beq · k) := by
  rw [List.any_toArray]
  induction vs generalizing xs with
  | nil => cases H; rfl
  | cons v vs ih =>
    cases H with
    | cons a r =>
      simp only [List.any_cons]
      rw [hf _ _ (.head _) (.head _) a, ih r (fun x hx => hs x (.tail _ hx)) (fun v x hv hx => hf v x (.tail _ hv) (.tail _ hx))]
open Classical in
/-- is it k? -/
noncomputable def isk (h : Heap) (k : PV) (v : Value) : Bool := @decide (Is h v k) (Classical.propDecidable _)
theorem isk_beq {h : Heap} {v : Value} {x k : PV} (a : Is h v x) (s : Sim x k) : isk h k v = PV.beq x k := by
  unfold isk
  rw [Bool.eq_iff_iff, PV.beq_iff, @decide_eq_true_iff _ (Classical.propDecidable _)]
  exact ⟨fun b => Is.simEq a b s, fun e => e ▸ a⟩
theorem inSeq {A : Around} {s : Shared} {vs : List Value} {xs : List PV} {u : Value} {k : PV} (hu : A.units + 60 < cLine) (H : IsAll s.heap vs xs) (iu : Is s.heap u k) (hs : ∀ x ∈ xs, Sim x k) (hd : PV.deeps xs ≤ 50) :
    ∀ y ∈ vs.toArray, EqAt A.in1 s y u (isk s.heap k y) := fun y hy => by
  obtain ⟨x, hx, ix⟩ := H.mem (by simpa using hy)
  rw [isk_beq ix (hs x hx)]
  have := in1_units A
  exact eqAt_sim 50 _ s _ _ x k (Nat.le_trans (PV.deep_le hx) hd) (by (first | lia | omega)) ix iu (hs x hx)
theorem deeps_le {T : Ty} {xs : List PV} (hx : ∀ x ∈ xs, HasTy T x) (hd : T.deep ≤ 50) : PV.deeps xs ≤ 50 := Nat.le_trans (AllTy.deep T xs (AllTy.iff.mpr hx)) hd
theorem lc_notin_list {a : Addr} {xs : List PV} {k : PV} (T : Ty) (ea : σ a = some (.lst xs)) (hx : ∀ x ∈ xs, HasTy T x) (hk : HasTy T k) (hd : T.deep ≤ 50) : LCmp prog w h₀ .NotIn k (.loc a) σ (!xs.any (PV.beq · k)) := fun A s u v Q ok S ha hb hQ => by
  cases hb
  obtain ⟨vs, n, l1, i1⟩ := S.objs _ _ ea
  have sm : ∀ x ∈ xs, Sim x k := fun x h => HasTy.sim T _ _ (hx x h) hk
  refine notIn_listAt (isk s.heap k) (IsL.isList l1) (inSeq (by have := ok.room; (first | lia | omega)) i1 ha sm (deeps_le hx hd)) ?_
  rw [anyIs i1 ha sm _ fun v x hv hx i => isk_beq i (sm x hx)]
  exact hQ s.toks
-- dicts
noncomputable def dget (es : List (PV × PV)) (k : PV) : Option PV := (es.find? fun e => PV.beq e.1 k).map (·.2)
theorem decide_beq (x k : PV) (i : Decidable (x = k)) : @decide (x = k) i = PV.beq x k := by rw [Bool.eq_iff_iff, PV.beq_iff, decide_eq_true_iff]
theorem dget_isSome (es : List (PV × PV)) (k : PV) : (dget es k).isSome = es.any fun e => PV.beq e.1 k := by
  unfold dget
  rw [Option.isSome_map]
  induction es with
  | nil => rfl
  | cons e es ih =>
    simp only [List.find?_cons, List.any_cons]
    cases h : PV.beq e.1 k
    · simpa using ih
    · simp
theorem dt_get {h : Heap} {k : PV} : ∀ {kvs : List (PV × Addr × Value)} {es : List (PV × PV)}, kvs.map (·.1) = es.map (·.1) → IsAll h (kvs.map (·.2.2)) (es.map (·.2)) →
    (dget es k = none → @atKey PV PV.decEq kvs k = none) ∧ ∀ x, dget es k = some x → ∃ v, @atKey PV PV.decEq kvs k = some v ∧ Is h v.2 x
  | [], es, e, H => by
    cases es with
    | nil => exact ⟨fun _ => rfl, fun x hx => by simp [dget] at hx⟩
    | cons => simp at e
  | kv :: kvs, es, e, H => by
    cases es with
    | nil => simp at e
    | cons e1 es =>
      simp only [List.map_cons, List.cons.injEq] at e
      simp only [List.map_cons] at H
      cases H with
      | cons a r =>
        have ih := dt_get (k := k) e.2 r
        unfold dget atKey at ih ⊢
        simp only [List.find?_cons]
        rw [e.1, decide_beq]
        cases q : PV.beq e1.1 k
        · exact ih
        · refine ⟨fun hx => by simp at hx, fun x hx => ?_⟩
          simp only [Option.map_some, Option.some.injEq] at hx ⊢
          exact ⟨_, rfl, hx ▸ a⟩
/-- the key stands in the heap as a tuple -/
theorem Is.tup_ref {h : Heap} {v : Value} {xs : List PV} (a : Is h v (.tup xs)) : ∃ p, v = .ref p := by cases a; exact ⟨_, rfl⟩
theorem lc_in_dt {a : Addr} {T : Ty} {es : List (PV × PV)} {xs : List PV} (ea : σ a = some (.dt T es)) (hk : HasTy T (.tup xs)) (hh : Hsh 3 (.tup xs)) : LCmp prog w h₀ .In (.tup xs) (.loc a) σ (es.any fun e => PV.beq e.1 (.tup xs)) := fun A s u v Q ok S ha hb hQ => by
  cases hb
  obtain ⟨p, rfl⟩ := ha.tup_ref
  obtain ⟨hs, kvs, D, e1, e2⟩ := S.objs _ _ ea
  obtain ⟨g1, g2⟩ := dt_get (k := .tup xs) e1 e2
  refine @wpAny_in_heap _ _ _ PV.decEq (tupKind prog w T) _ _ _ _ _ _ _ _ (by have := ok.room; have := in1_units A; show A.in1.units + 10 < cLine; omega) ⟨ha, hk, hh⟩ hs D ?_
  have e : (@atKey PV PV.decEq kvs (.tup xs)).isSome = es.any fun e => PV.beq e.1 (.tup xs) := by
    rw [← dget_isSome]
    cases q : dget es (.tup xs) with
    | none => rw [g1 q]; rfl
    | some x => obtain ⟨v, e, _⟩ := g2 x q; rw [e]; rfl
  rw [e]
  exact hQ _
end

end Mine
end

section
namespace Mine

noncomputable def pures (vs : List Value) : List (Bool × Sem Value) := vs.map fun v => (false, pure v)
noncomputable def callTail (f : Value) (pos : Pos) (first vs : List Value) : Sem Value := do
  standAt pos
  let r ← match ← keeperOf f with
    | .frame | .boundFrame | .machine => call f (first ++ vs)
    | .caller => operate (f :: (first ++ vs)) (call f (first ++ vs))
  holding [r] point
  pure r
theorem wp_callWith (M : Model) (Γ : Ctx) (pos : Pos) (f : Value) (first : List Value) (args : List (Bool × Sem Value)) (hplain : args.any (·.1) = false) (Q : Value → Pos → Shared → Prop) (E : Value → Pos → Shared → Prop) (p : Pos) (s : Shared) :
    Sem.wp M Γ (callWith pos f first args []) Q E p s = Sem.wp M Γ (spliced args) (fun vs p s => Sem.wp M Γ (callTail f pos first vs) Q E p s) E p s := by
  have e : evalArgs f true args [] = (do let pos ← spliced args; holding (pos ++ []) (do
      let kw ← (pure [] : Sem (List Value))
      return ⟨pos, []⟩)) := by
    cases args with
    | nil => rfl
    | cons a rest =>
      obtain ⟨b, t⟩ := a
      have : b = false := by simpa using (show (b || rest.any (·.1)) = false from hplain) |> fun h => (Bool.or_eq_false_iff.mp h).1
      subst this
      rfl
  unfold callWith
  rw [e]
  simp -iota only [hplain, Sem.wp_bind', Sem.wp_holding, Sem.wp_pure', Sem.wp_cmd_standAt, callTail, List.any_nil, Bool.or_false]
  congr 1
  funext vs p' s'
  congr 1
  funext k p'' s''
  by_cases c : args.length + 2 * ([] : List (Option Str × Sem Value)).length > 30
  · cases k <;> simp only [Sem.wp_operate, callMarked, Sem.wp_keep, Sem.wp_bind', if_pos c]
  · cases k <;> simp only [Sem.wp_operate, callMarked, if_neg c, Sem.wp_bind', Sem.wp_keep]
theorem spliced_pures (vs : List Value) : ∀ (M : Model) (Γ : Ctx) (Q : List Value → Pos → Shared → Prop) (E : Value → Pos → Shared → Prop) (p : Pos) (s : Shared), Sem.wp M Γ (spliced (pures vs)) Q E p s = Q vs p s := by
  induction vs with
  | nil => intro M Γ Q E p s; simp [pures, spliced, Sem.wp_pure']
  | cons v vs ih =>
    intro M Γ Q E p s
    have e : pures (v :: vs) = (false, pure v) :: pures vs := rfl
    rw [e, spliced]
    simp only [Bool.false_eq_true, if_false, Sem.wp_bind', Sem.wp_holding, Sem.wp_pure', ih, List.cons_append, List.nil_append]
theorem callWith_split {M : Model} {A : Around} {E : Value → Shared → Prop} {s : Shared} {pos : Pos} {f : Value} {first : List Value} {args : List (Bool × Sem Value)} {Q : Value → Shared → Prop} (hplain : args.any (·.1) = false)
    (h : wpAny M A (spliced args) (fun vs s₁ => wpAny M A (callWith pos f first (pures vs) []) Q E s₁) E s) : wpAny M A (callWith pos f first args []) Q E s := fun Γ p hΓ => by
  rw [wp_callWith _ _ _ _ _ _ hplain]
  refine Sem.wp_mono M Γ _ (fun vs p₁ s₁ h₁ => ?_) (fun _ _ _ h' => h') _ _ (h Γ p hΓ)
  have h2 := h₁ Γ p₁ hΓ
  rw [wp_callWith _ _ _ _ _ _ (by simp [pures]), spliced_pures] at h2
  exact h2

section
variable {prog : Program} {w : World} {h₀ : Heap} {n : Nat} {env : Env} {ρ : Loc} {σ : Store} {Q : PV → Store → Prop}
/-- a call of f with these -/
noncomputable def LCall (prog : Program) (w : World) (h₀ : Heap) (n : Nat) (f : Value) (first xs : List PV) (σ : Store) (Q : PV → Store → Prop) : Prop :=
  ∀ env ρ H pos fs vs, fs.length = first.length → vs.length = xs.length → (∀ p ∈ fs.zip first ++ vs.zip xs, p ∈ H) → WV prog w h₀ n env H (callWith pos f fs (pures vs) []) ρ σ Q
/-- the name stands for this object -/
noncomputable def GName (prog : Program) (w : World) (h₀ : Heap) (env : Env) (ρ : Loc) (x : Str) (f : Value) : Prop :=
  ∀ A s σ (p : Pos) (Q : Value → Shared → Prop), SRel prog w h₀ σ s.heap → ERel h₀ env ρ σ s.heap → Q f s → wpAny (model prog w) A (eval (.Name x p) env) Q (fun _ _ => False) s
theorem we_call {x : Str} {p pos : Pos} {f : Value} {args : List Expr} (g : GName prog w h₀ env ρ x f) (h : WL prog w h₀ n env [] (spliced (backTo pos (starEach args env))) ρ σ fun xs σ₁ => LCall prog w h₀ n f [] xs σ₁ Q)
    (hplain : (backTo pos (starEach args env)).any (·.1) = false := by rfl) :
    WV prog w h₀ n env [] (eval (.Call (.Name x p) args [] pos) env) ρ σ Q := fun A s ok S X hh =>
  Call_Name rfl (g A s σ p _ S X (callWith_split hplain (h.run ok S X hh fun vs s₁ xs σ₁ S₁ X₁ hh₁ r q tr =>
    wpAny_mono (q env ρ (vs.zip xs) pos [] vs rfl r.length (fun p hp => by simpa using hp) A s₁ ok S₁ X₁ (by have := Held.all (H := []) hh₁ r; simpa using this)) (fun v s₂ x => tr _ _ _ x) fun _ _ e => e)))

/-- a method of a built-in object -/
noncomputable def MethIs (prog : Program) (w : World) (h₀ : Heap) (σ : Store) (x : PV) (name : Str) (id : String) : Prop :=
  ∃ T, PlainAttrs T ∧ Slot T name id ∧ typeOf (.builtin id) = pure (.type "method_descriptor") ∧ ∀ (s : Shared) (v : Value), SRel prog w h₀ σ s.heap → Is s.heap v x → s.TypeIs v T ∧ (∀ a, v = .ref a → ∃ ob, s.heap.get? a = some ob ∧ ob.dict = none)
/-- the tree with the object's method looked up; then its arguments -/
theorem call_method_split {A : Around} {E : Value → Shared → Prop} {s : Shared} {o : Expr} {name : Str} {apos pos : Pos} {args : List Expr} {Q : Value → Shared → Prop}
    (hbase : attributeBase o name env (eval o env) = eval o env)
    (hfew : ((backTo pos (starEach args env)).all (fun x => !x.1) && (backToKw pos (keywordEach [] env)).all (fun x => x.1.isSome)
      && decide (args.length + ([] : List Keyword).length + (if ([] : List Keyword).isEmpty then 0 else 1) < 30)) = true)
    (hline : (apos.endLine == pos.line) = true) (hplain : (backTo pos (starEach args env)).any (·.1) = false)
    (h : wpAny (model prog w) A (eval o env) (fun ov s₁ => ∃ T id, PlainAttrs T ∧ Slot T name id ∧ typeOf (.builtin id) = pure (.type "method_descriptor") ∧ s₁.TypeIs ov T ∧ (∀ a, ov = .ref a → ∃ ob, s₁.heap.get? a = some ob ∧ ob.dict = none) ∧
      wpAny (model prog w) A (spliced (backTo pos (starEach args env))) (fun vs s₂ => wpAny (model prog w) A (callWith pos (.builtin id) [ov] (pures vs) []) Q E s₂) E s₁) E s) :
    wpAny (model prog w) A (eval (.Call (.Attribute o name apos) args [] pos) env) Q E s :=
  wpAny_Call_method_late hbase hfew hline rfl (wpAny_mono h (fun ov s₁ ⟨T, id, a, b, c, d, e, f⟩ => ⟨T, id, a, b, c, d, e, callWith_split hplain f⟩) fun _ _ e => e)
theorem we_method {o : Expr} {name : Str} {apos pos : Pos} {args : List Expr}
    (h : WV prog w h₀ n env [] (eval o env) ρ σ fun x σ₁ => ∃ id, MethIs prog w h₀ σ₁ x name id ∧ WL prog w h₀ n env [] (spliced (backTo pos (starEach args env))) ρ σ₁ fun xs σ₂ => LCall prog w h₀ n (.builtin id) [x] xs σ₂ Q)
    (hbase : attributeBase o name env (eval o env) = eval o env := by rfl)
    (hfew : ((backTo pos (starEach args env)).all (fun x => !x.1) && (backToKw pos (keywordEach [] env)).all (fun x => x.1.isSome)
      && decide (args.length + ([] : List Keyword).length + (if ([] : List Keyword).isEmpty then 0 else 1) < 30)) = true := by rfl)
    (hline : (apos.endLine == pos.line) = true := by rfl) (hplain : (backTo pos (starEach args env)).any (·.1) = false := by rfl) :
    WV prog w h₀ n env [] (eval (.Call (.Attribute o name apos) args [] pos) env) ρ σ Q := fun A s ok S X hh =>
  call_method_split hbase hfew hline hplain (h.run ok S X hh fun v s₁ x σ₁ S₁ X₁ hh₁ r q tr => by
    obtain ⟨id, ⟨T, a, b, c, d⟩, q⟩ := q
    obtain ⟨d1, d2⟩ := d s₁ v S₁ r
    refine ⟨T, id, a, b, c, d1, d2, (WE.more (H := [(v, x)]) q).run (R' := Is) ok S₁ X₁ (hh₁.cons r) fun vs s₂ xs σ₂ S₂ X₂ hh₂ r₂ q₂ tr₂ => ?_⟩
    refine wpAny_mono (q₂ env ρ (vs.zip xs ++ [(v, x)]) pos [v] vs rfl r₂.length (fun p hp => ?_) A s₂ ok S₂ X₂ (Held.all hh₂ r₂)) (fun v s₃ x => tr _ _ _ (tr₂ _ _ _ x)) fun _ _ e => e
    rcases List.mem_append.mp hp with hp | hp
    · exact List.mem_append_right _ hp
    · exact List.mem_append_left _ hp)

theorem meth_list {σ : Store} {a : Addr} {xs : List PV} {name : Str} {id : String} (e : σ a = some (.lst xs)) (pa : PlainAttrs "list") (sl : Slot "list" name id) (ty : typeOf (.builtin id) = pure (.type "method_descriptor") := by rfl) : MethIs prog w h₀ σ (.loc a) name id :=
  ⟨"list", pa, sl, ty, fun s v S r => by
    cases r
    obtain ⟨vs, n, l1, i1⟩ := S.objs _ _ e
    exact ⟨(IsL.isList l1).typeIs, fun b hb => by cases hb; exact ⟨_, l1, rfl⟩⟩⟩
end

end Mine
end

section
namespace Mine

section
variable {prog : Program} {w : World} {h₀ : Heap} {γ δ : Type} {R' : Heap → γ → δ → Prop} {n : Nat} {env : Env} {H : List (Value × PV)} {ρ : Loc} {σ : Store}
theorem free_of {s : Heap} (S : SRel prog w h₀ σ s) {a : Addr} (ha : s.get? a = none) : σ a = none := by
  cases e : σ a with
  | none => rfl
  | some o' => obtain ⟨ob, e2, _⟩ := (S.objs _ _ e).get; rw [ha] at e2; cases e2
theorem newStep {s : Shared} {h' : Heap} {a : Addr} {o : MObj} (S : SRel prog w h₀ σ s.heap) (X : ERel h₀ env ρ σ s.heap) (hh : Held H s.heap) (p : Pres NoMod s.heap h') (ha : s.heap.get? a = none) (r : Rep prog w h' a o) :
    SRel prog w h₀ (upd σ a o) h' ∧ ERel h₀ env ρ (upd σ a o) h' ∧ Held H h' ∧
      ∀ tk (Q : δ → Loc → Store → Prop) c s₂, Post prog w h₀ NoMod R' env (upd σ a o) { s with heap := h', toks := tk } Q c s₂ → Post prog w h₀ NoMod R' env σ s Q c s₂ := by
  have k : TupKeep s.heap h' := fun b items n' e => p.2 b _ (fun f => f) e
  have sub : ∀ b, Dom (upd σ a o) b → Dom σ b ∨ s.heap.get? b = none := fun b ⟨o', e⟩ => by
    by_cases hb : b = a
    · subst hb; exact .inr ha
    · rw [upd_ne _ _ hb] at e; exact .inl ⟨o', e⟩
  have X' := X.step (σ' := upd σ a o) p k (fun f => f) (fun _ _ f => f) sub
  refine ⟨⟨fun b ob e => p.2 b ob (fun f => f) (S.base b ob e), trivial, fun b o' e => ?_, fun b o' e => ?_⟩, X', hh.keep k, fun tk Q c s₂ x => Post.trans (noMod env) X' rfl (p.mono fun _ f => f.elim) sub x⟩
  · by_cases hb : b = a
    · subst hb; rw [upd_same] at e; cases e; exact r
    · rw [upd_ne _ _ hb] at e; exact (S.objs b o' e).keep k fun ob eo => p.2 b ob (fun f => f) eo
  · by_cases hb : b = a
    · subst hb
      cases q' : h₀.get? b with
      | none => rfl
      | some ob => have e2 := S.base _ _ q'; rw [ha] at e2; cases e2
    · rw [upd_ne _ _ hb] at e; exact S.off b o' e
theorem turnStep {s : Shared} {h' : Heap} {a : Addr} {o o' : MObj} (S : SRel prog w h₀ σ s.heap) (X : ERel h₀ env ρ σ s.heap) (hh : Held H s.heap) (e : σ a = some o) (p : Pres (fun c => c = a) s.heap h') (r : Rep prog w h' a o') :
    SRel prog w h₀ (upd σ a o') h' ∧ ERel h₀ env ρ (upd σ a o') h' ∧ Held H h' ∧
      ∀ tk (Q : δ → Loc → Store → Prop) c s₂, Post prog w h₀ NoMod R' env (upd σ a o') { s with heap := h', toks := tk } Q c s₂ → Post prog w h₀ NoMod R' env σ s Q c s₂ := by
  have k : TupKeep s.heap h' := S.tupKeep p fun c hc => .inl (by subst hc; exact ⟨o, e⟩)
  have sub : ∀ b, Dom (upd σ a o') b → Dom σ b ∨ s.heap.get? b = none := fun b ⟨o2, e2⟩ => by
    by_cases hb : b = a
    · subst hb; exact .inl ⟨o, e⟩
    · rw [upd_ne _ _ hb] at e2; exact .inl ⟨o2, e2⟩
  have nL : env.locals ≠ a := fun h => by have := X.nsoff.2; rw [h, e] at this; cases this
  have X' := X.step p k nL (fun z hz h => by have := (X.cells z hz).2.2.1; rw [h, e] at this; cases this) sub
  refine ⟨⟨fun c ob ec => p.2 c ob (fun h => ?_) (S.base c ob ec), trivial, fun c o2 ec => ?_, fun c o2 ec => ?_⟩,
      X', hh.keep k, fun tk Q c s₂ x => Post.trans (noMod env) X' rfl (p.mono fun c hc => .inl (by subst hc; exact ⟨o, e⟩)) sub x⟩
  · subst h; rw [S.off _ _ e] at ec; cases ec
  · by_cases hb : c = a
    · subst hb; rw [upd_same] at ec; cases ec; exact r
    · rw [upd_ne _ _ hb] at ec; exact (S.objs c o2 ec).keep k fun ob eo => p.2 c ob hb eo
  · by_cases hb : c = a
    · subst hb; exact S.off _ _ e
    · rw [upd_ne _ _ hb] at ec; exact S.off c o2 ec
end

-- storing into a dict
noncomputable def dset (es : List (PV × PV)) (k v : PV) : List (PV × PV) :=
  if es.any (fun e => PV.beq e.1 k) then es.map (fun e => if PV.beq e.1 k then (e.1, v) else e) else es ++ [(k, v)]
theorem dset_length (es : List (PV × PV)) (k v : PV) : (dset es k v).length ≤ es.length + 1 := by
  unfold dset; split <;> simp
theorem dv_any {k : PV} : ∀ {kvs : List (PV × Value)} {es : List (PV × PV)}, kvs.map (·.1) = es.map (·.1) → (kvs.any fun kv => @decide (kv.1 = k) (PV.decEq kv.1 k)) = es.any fun e => PV.beq e.1 k
  | [], es, e => by cases es <;> simp_all
  | kv :: kvs, es, e => by
    cases es with
    | nil => simp at e
    | cons e1 es =>
      simp only [List.map_cons, List.cons.injEq] at e
      simp only [List.any_cons]
      rw [dv_any e.2, decide_beq, e.1]
theorem dv_set {h : Heap} {k x : PV} {v : Value} {kvs : List (PV × Value)} {es : List (PV × PV)} (e : kvs.map (·.1) = es.map (·.1)) (H : IsAll h (kvs.map (·.2)) (es.map (·.2))) (iv : Is h v x) :
    (@stored PV PV.decEq kvs k v).map (·.1) = (dset es k x).map (·.1) ∧ IsAll h ((@stored PV PV.decEq kvs k v).map (·.2)) ((dset es k x).map (·.2)) := by
  unfold stored dset
  rw [dv_any e]
  cases es.any fun e => PV.beq e.1 k
  · simp only [Bool.false_eq_true, if_false, List.map_append, List.map_cons, List.map_nil, e, true_and]
    exact H.snoc iv
  · simp only [if_true]
    induction kvs generalizing es with
    | nil =>
      cases es with
      | nil => exact ⟨rfl, .nil⟩
      | cons => simp at e
    | cons kv kvs ih =>
      cases es with
      | nil => simp at e
      | cons e1 es =>
        simp only [List.map_cons, List.cons.injEq] at e
        simp only [List.map_cons] at H
        cases H with
        | cons a r =>
          obtain ⟨i1, i2⟩ := ih e.2 r
          simp only [List.map_cons]
          rw [i1]
          by_cases q : kv.1 = k
          · have q2 : PV.beq e1.1 k = true := by rw [PV.beq_iff, ← e.1]; exact q
            simp only [if_pos q, q2, if_true, e.1, true_and]
            exact .cons iv i2
          · have q2 : PV.beq e1.1 k = false := by rw [Bool.eq_false_iff]; intro b; exact q (by rw [e.1]; exact (PV.beq_iff _ _).mp b)
            simp only [if_neg q, q2, Bool.false_eq_true, if_false, e.1, true_and]
            exact .cons a i2
theorem dt_some {h : Heap} {k : PV} {kvs : List (PV × Addr × Value)} {es : List (PV × PV)} (e1 : kvs.map (·.1) = es.map (·.1)) (e2 : IsAll h (kvs.map (·.2.2)) (es.map (·.2))) : (@atKey PV PV.decEq kvs k).isSome = es.any fun e => PV.beq e.1 k := by
  obtain ⟨g1, g2⟩ := dt_get (k := k) e1 e2
  rw [← dget_isSome]
  cases q : dget es k with
  | none => rw [g1 q]; rfl
  | some x => obtain ⟨v, e, _⟩ := g2 x q; rw [e]; rfl
theorem dt_set {h : Heap} {k x : PV} {p : Addr} {v : Value} {kvs : List (PV × Addr × Value)} {es : List (PV × PV)} (e : kvs.map (·.1) = es.map (·.1)) (H : IsAll h (kvs.map (·.2.2)) (es.map (·.2))) (iv : Is h v x) :
    (@storedH PV PV.decEq kvs k p v).map (·.1) = (dset es k x).map (·.1) ∧ IsAll h ((@storedH PV PV.decEq kvs k p v).map (·.2.2)) ((dset es k x).map (·.2)) := by
  unfold storedH dset
  rw [dt_some e H]
  cases es.any fun e => PV.beq e.1 k
  · simp only [Bool.false_eq_true, if_false, List.map_append, List.map_cons, List.map_nil, e, true_and]
    exact H.snoc iv
  · simp only [if_true]
    induction kvs generalizing es with
    | nil =>
      cases es with
      | nil => exact ⟨rfl, .nil⟩
      | cons => simp at e
    | cons kv kvs ih =>
      cases es with
      | nil => simp at e
      | cons e1 es =>
        simp only [List.map_cons, List.cons.injEq] at e
        simp only [List.map_cons] at H
        cases H with
        | cons a r =>
          obtain ⟨i1, i2⟩ := ih e.2 r
          simp only [List.map_cons]
          rw [i1]
          unfold putAt at i2 ⊢
          by_cases q : kv.1 = k
          · have q2 : PV.beq e1.1 k = true := by rw [PV.beq_iff, ← e.1]; exact q
            simp only [if_pos q, q2, if_true, e.1, true_and]
            exact .cons iv i2
          · have q2 : PV.beq e1.1 k = false := by rw [Bool.eq_false_iff]; intro b; exact q (by rw [e.1]; exact (PV.beq_iff _ _).mp b)
            simp only [if_neg q, q2, Bool.false_eq_true, if_false, e.1, true_and]
            exact .cons a i2

section
variable {prog : Program} {w : World} {h₀ : Heap} {n : Nat} {env : Env} {ρ : Loc} {σ : Store} {Q : PV → Store → Prop}
noncomputable def unitR (_ : Heap) (_ : Unit) (_ : Unit) : Prop := True
/-- storing an item -/
noncomputable def LSet (prog : Program) (w : World) (h₀ : Heap) (x k v : PV) (σ : Store) (Q : Store → Prop) : Prop :=
  ∀ n env ρ H a b c, (a, x) ∈ H → (b, k) ∈ H → (c, v) ∈ H → WE prog w h₀ n unitR env H (setItem a b c) ρ σ (fun _ σ' => Q σ')
theorem Pres.sameBut {a : Addr} {h h' : Heap} (hs : Heap.SameBut a h h') : Pres (fun c => c = a) h h' := Pres.same Pres.refl hs (.inl rfl)
theorem kvs_size {α : Type} {kvs : List (PV × α)} {es : List (PV × PV)} (e : kvs.map (·.1) = es.map (·.1)) (hl : es.length ≤ 1000000) : kvs.length ≤ sizeLine := by
  have : kvs.length = es.length := by simpa using congrArg List.length e
  unfold sizeLine; (first | lia | omega)
theorem ls_dt {a : Addr} {T : Ty} {es : List (PV × PV)} {xs : List PV} {v : PV} {Q : Store → Prop} (e : σ a = some (.dt T es)) (hk : HasTy T (.tup xs)) (hh : Hsh 3 (.tup xs)) (hl : es.length ≤ 1000000) (q : Q (upd σ a (.dt T (dset es (.tup xs) v)))) : LSet prog w h₀ (.loc a) (.tup xs) v σ Q :=
  fun n env ρ H u b c hu hb hc => WE.turn e (b := ()) q fun A s Q' ok S X hh' hr hQ => by
    have := held_loc hh' hu; subst this
    obtain ⟨hs, kvs, D, e1, e2⟩ := hr
    have ib := hh' _ hb
    obtain ⟨p, rfl⟩ := ib.tup_ref
    refine @wpAny_setItem_heap _ _ _ PV.decEq (tupKind prog w T) _ _ _ _ _ _ _ _ _ (by have := ok.room; have := in1_units A; show A.in1.units + 10 < cLine; (first | lia | omega)) ⟨ib, hk, hh⟩ D (fun h' D' hs' => ?_) (kvs_size e1 hl)
    refine hQ _ h' _ (Pres.sameBut hs') fun kp => ⟨⟨hs, _, D', ?_⟩, trivial⟩
    exact dt_set e1 (e2.keep kp) ((hh' _ hc).keep kp)

-- reading an item
noncomputable def LGet (prog : Program) (w : World) (h₀ : Heap) (x k : PV) (σ : Store) (r : PV) : Prop :=
  ∀ A s a b (Q : Value → Shared → Prop), Ok 0 A → SRel prog w h₀ σ s.heap → Is s.heap a x → Is s.heap b k → (∀ v tk, Is s.heap v r → Q v { s with toks := tk }) →
    (∃ T id, s.TypeIs a T ∧ typeLookup (.type T) "__getitem__" = pure (some (.builtin id))) ∧ wpAny (model prog w) A (getItem a b) Q (fun _ _ => False) s
theorem we_sub {value slice : Expr} {pos : Pos} (h : WV prog w h₀ n env [] (eval value env) ρ σ fun x σ₁ => WV prog w h₀ n env [] (eval slice env) ρ σ₁ fun y σ₂ => ∃ r, LGet prog w h₀ x y σ₂ r ∧ Q r σ₂)
    (hs : ∀ o i, subscripted slice false o i = operate [o, i] (getItem o i) := by intro _ _; with_unfolding_all rfl) : WV prog w h₀ n env [] (eval (.Subscript value slice pos) env) ρ σ Q :=
  WV.seq2 (fun A s Q' E hh => Subscript_ hh) (WE.mono h fun x σ₁ q a => WE.more (WE.mono q fun y σ₂ ⟨r, c, q⟩ b => WE.leaf q fun A s Q' ok S X hh hQ => by
    obtain ⟨⟨T, id, ht, hl⟩, hw⟩ := c A s a b Q' (ok.mono (Nat.zero_le _)) S (hh _ (.tail _ (.head _))) (hh _ (.head _)) fun v tk r => hQ v tk r
    exact tail_any ht hl hw (hs a b)))
theorem lg_list {a : Addr} {xs : List PV} {k : Int} {r : PV} (e : σ a = some (.lst xs)) (h0 : 0 ≤ k) (hk : k < 2 ^ 63) (hr : xs[k.toNat]? = some r) : LGet prog w h₀ (.loc a) (.int k) σ r := fun A s u v Q ok S ha hb hQ => by
  cases ha; cases hb
  obtain ⟨vs, n, l1, i1⟩ := S.objs _ _ e
  obtain ⟨x, ex, ix⟩ := i1.get hr
  exact ⟨⟨"list", _, (IsL.isList l1).typeIs, slot_list_getitem.lookup⟩, wpAny_getItem_list (IsL.isList l1) h0 hk (by simpa using ex) (hQ _ s.toks ix)⟩
theorem lg_list_last {a : Addr} {xs : List PV} {r : PV} (e : σ a = some (.lst xs)) (hr : xs[xs.length - 1]? = some r) : LGet prog w h₀ (.loc a) (.int (-1)) σ r := fun A s u v Q ok S ha hb hQ => by
  cases ha; cases hb
  obtain ⟨vs, n, l1, i1⟩ := S.objs _ _ e
  obtain ⟨x, ex, ix⟩ := i1.get hr
  have hl := i1.length
  have : xs.length ≠ 0 := by intro h; have : xs = [] := List.length_eq_zero_iff.mp h; subst this; simp at hr
  refine ⟨⟨"list", _, (IsL.isList l1).typeIs, slot_list_getitem.lookup⟩, wpAny_getItem_list_neg (IsL.isList l1) (by (first | lia | omega)) (by simp; (first | lia | omega)) (by (first | lia | omega)) ?_ (hQ _ s.toks ix)⟩
  have : ((-1 : Int) + (vs.toArray.size : Nat)).toNat = xs.length - 1 := by simp only [List.size_toArray]; (first | lia | omega)
  rw [this]; simpa using ex
theorem lg_tup {xs : List PV} {k : Int} {r : PV} (h0 : 0 ≤ k) (hk : k < 2 ^ 63) (hr : xs[k.toNat]? = some r) : LGet prog w h₀ (.tup xs) (.int k) σ r := fun A s u v Q ok S ha hb hQ => by
  cases hb
  obtain ⟨a, n, vs, rfl, t, i1⟩ := held_tup (H := [(u, .tup xs)]) (fun p hp => by rw [List.mem_singleton.mp hp]; exact ha) (.head _)
  obtain ⟨x, ex, ix⟩ := i1.get hr
  have hl := i1.length
  obtain ⟨hlt, _⟩ := List.getElem?_eq_some_iff.mp hr
  have it : IsTup s.heap _ _ := ⟨_, t, rfl, _, rfl⟩
  refine ⟨⟨"tuple", _, it.typeIs, slot_tuple_getitem.lookup⟩, getItem_tuple it (by (first | lia | omega)) hk (j := k.toNat) ?_ (by simpa using ex) (hQ _ s.toks ix)⟩
  unfold seqIndex?
  have h1 : ¬ k < 0 := by (first | lia | omega)
  have h2 : k < (vs.length : Nat) := by (first | lia | omega)
  simp only [if_neg h1, List.size_toArray]
  simp [h0, h2]
theorem lg_dt {a : Addr} {T : Ty} {es : List (PV × PV)} {xs : List PV} {r : PV} (e : σ a = some (.dt T es)) (hk : HasTy T (.tup xs)) (hh : Hsh 3 (.tup xs)) (hr : dget es (.tup xs) = some r) : LGet prog w h₀ (.loc a) (.tup xs) σ r := fun A s u v Q ok S ha hb hQ => by
  cases ha
  obtain ⟨p, rfl⟩ := hb.tup_ref
  obtain ⟨hs, kvs, D, e1, e2⟩ := S.objs _ _ e
  obtain ⟨v', ev, iv⟩ := (dt_get e1 e2).2 r hr
  refine ⟨⟨"dict", _, by obtain ⟨ob, ents, ep, ho, hx, _⟩ := D; exact ⟨ob, ho, hx.1⟩, slot_dict_getitem.lookup⟩, ?_⟩
  exact @wpAny_getItem_heap _ _ _ PV.decEq (tupKind prog w T) _ _ _ _ _ _ _ _ _ (by have := ok.room; have := in1_units A; show A.in1.units + 10 < cLine; (first | lia | omega)) ⟨hb, hk, hh⟩ D ev (hQ _ _ iv)

-- displays
theorem we_list {elts : List Expr} {pos : Pos} (h : WL prog w h₀ n env [] (spliced (backTo pos (starEach elts env))) ρ σ fun xs σ₁ => xs.length ≤ 1000000 ∧ ∀ c, σ₁ c = none → Q (.loc c) (upd σ₁ c (.lst xs))) :
    WV prog w h₀ n env [] (eval (.List elts pos) env) ρ σ Q := fun A s ok S X hh => List_ (h.run ok S X hh fun vs s₁ xs σ₁ S₁ X₁ hh₁ r q tr => by
  have hl := r.length
  refine wpAny_newObj_type ?_ (by show vs.toArray.size ≤ sizeLine; have := q.1; simp only [List.size_toArray]; unfold sizeLine; (first | lia | omega))
  have p : Pres NoMod s₁.heap (s₁.heap.push { cls := .type "list", data := .seq vs.toArray }) := Pres.refl.push _
  have kp : TupKeep s₁.heap (s₁.heap.push { cls := .type "list", data := .seq vs.toArray }) := fun b items n' e => p.2 b _ (fun f => f) e
  obtain ⟨S₂, X₂, hh₂, tr₂⟩ := newStep (γ := Value) (δ := PV) (R' := Is) (o := .lst xs) S₁ X₁ hh₁ p (fresh _) ⟨vs, 0, IsL.new _ _, r.keep kp⟩
  exact tr _ _ _ (tr₂ s₁.toks _ _ _ (Post.here S₂ X₂ (.loc _) ⟨rfl, q.2 _ (free_of S₁ (fresh _))⟩)))
theorem we_tup {elts : List Expr} {k : Nat} {pos : Pos} (h : WL prog w h₀ n env [] (spliced (backTo pos (starEach elts env))) ρ σ fun xs σ₁ => xs.length ≤ 1000000 ∧ Q (.tup xs) σ₁) :
    WV prog w h₀ n env [] (eval (.Tuple elts k pos) env) ρ σ Q := fun A s ok S X hh => Tuple_ (h.run ok S X hh fun vs s₁ xs σ₁ S₁ X₁ hh₁ r q tr => by
  have hl := r.length
  refine wpAny_newObj_type ?_ (by show vs.toArray.size ≤ sizeLine; have := q.1; simp only [List.size_toArray]; unfold sizeLine; omega)
  have p : Pres NoMod s₁.heap (s₁.heap.push { cls := .type "tuple", data := .seq vs.toArray }) := Pres.refl.push _
  have kp : TupKeep s₁.heap (s₁.heap.push { cls := .type "tuple", data := .seq vs.toArray }) := fun b items n' e => p.2 b _ (fun f => f) e
  have x := WE.newFirm (prog := prog) (w := w) (h₀ := h₀) (n := 0) (R := Is) (env := env) (H := []) (ρ := ρ) (σ := σ₁) (t := pure (.ref s₁.heap.objs.size)) (b := .tup xs) (Q := Q) q.2
  refine tr _ _ _ ⟨_, s₁.toks, .tup xs, ρ, σ₁, rfl, p.mono (fun b d => d.elim), ⟨fun b ob e => p.2 b ob (fun f => f) (S₁.base b ob e), trivial, fun b o' e => (S₁.objs b o' e).keep kp fun ob eo => p.2 b ob (fun f => f) eo, S₁.off⟩,
      X₁.step p kp (fun f => f) (fun _ _ f => f) (fun _ d => .inl d), fun _ d => .inl d, .tup (Heap.get?_push_size _ rfl) (r.keep kp), rfl, q.2⟩)
end

end Mine
end

section
namespace Mine

-- facts of the model that the library has for keys that are values only
section
variable {prog : Program} {w : World} {K : Type} [DecidableEq K] {knd : HeapKind prog w K} {A : Around} {E : Value → Shared → Prop} {s : Shared}
/-- a dict's entries, whatever the keys -/
noncomputable def Ents (h : Heap) (d : Addr) (es : Array DictEntry) (ep : Nat) : Prop := ∃ o, h.get? d = some o ∧ o.ExactDict ∧ o.data = .dict es ep
theorem Ents.typeIs {d : Addr} {es : Array DictEntry} {ep : Nat} (x : Ents s.heap d es ep) : s.TypeIs (.ref d) "dict" := let ⟨o, ho, hx, _⟩ := x; ⟨o, ho, hx.1⟩
theorem meets_len_ents {d : Addr} {es : Array DictEntry} {ep : Nat} (hd : (d == sysModules) = false) :
    MeetsIn prog w (Builtin.«dict.__len__» ⟨[.ref d], []⟩) (fun _ R s => Ents s.heap d es ep ∧ R (.ok (.ret (.int es.size s.toks))) { s with toks := s.toks + 1 }) :=
  .of_wp fun A R s ⟨⟨o, ho, hc, hdat⟩, h⟩ => by
    show wpAny _ _ (dictSize d >>= _) _ _ s
    unfold dictSize
    refine wpAny_bind (wpAny_bind (wpAny_dictEntries ho hdat (wpAny_pure ?_)))
    show wpAny _ _ (Builtin.Dict.pendingCount d >>= _) _ _ s
    refine wpAny_bind (wpAny_pendingCount_other hd ?_)
    refine wpAny_ret_mkInt ?_
    simpa using h
theorem call_len_ents {d : Addr} {es : Array DictEntry} {ep : Nat} {Q : Value → Shared → Prop} (hd : (d == sysModules) = false) (hm : Ents s.heap d es ep) (hfit : (es.size : Int) < 2 ^ 63)
    (h : Q (.int es.size (s.toks + 1)) { s with toks := s.toks + 1 + 1 }) : wpAny (model prog w) A (call (.builtin "len") [.ref d]) Q E s := by
  refine Calls.call_function_entry kind_len plain_len entry_len (args_len1 _) ?_
  unfold Builtin.«len»
  refine wpAny_bind (m := oneArg "len" _) (wpAny_pure ?_)
  refine wpAny_bind (m := callSpecial? (.ref d) (Str.ofString "__len__")) (wpAny_callSpecial?_slot (name := Str.ofString "__len__") hm.typeIs F.slot_dict_len
    (call_meetsIn F.slot_dict_len hm.typeIs F.entry_dict_len (F.args_dict_len_1 _) (meets_len_ents hd) ⟨hm, ?_⟩))
  show wpAny _ _ _ _ _ { s with toks := s.toks + 1 }
  refine wpAny_bind (wpAny_holding (wpAny_pure ?_))
  refine wpAny_bind (wpAny_letGo ?_)
  show wpAny _ _ (if ((es.size : Nat) : Int) < 0 then _ else _) _ _ _
  rw [if_neg (by (first | lia | omega))]
  show wpAny _ _ (if ((es.size : Nat) : Int) ≥ 2 ^ 63 then _ else _) _ _ _
  rw [if_neg (by (first | lia | omega))]
  exact wpAny_bind (wpAny_mkInt (wpAny_pure ⟨_, rfl, h⟩))
end

end Mine
end

section
namespace Mine

section
variable {prog : Program} {w : World} {h₀ : Heap} {n : Nat} {env : Env} {ρ : Loc} {σ : Store} {Q : PV → Store → Prop}

/-- a call of an object that is none of the text's own, with these -/
noncomputable def LFn (prog : Program) (w : World) (h₀ : Heap) (n : Nat) (f : Value) (xs : List PV) (σ : Store) (Q : PV → Store → Prop) : Prop :=
  ∀ env ρ H vs, vs.length = xs.length → (∀ p ∈ vs.zip xs, p ∈ H) → WV prog w h₀ n env H (call f vs) ρ σ Q
theorem evalArgs_pures {M : Model} {A : Around} {E : Value → Shared → Prop} {s : Shared} {f : Value} {vs : List Value} {Q : Args → Shared → Prop} (h : Q ⟨vs, []⟩ s) : wpAny M A (evalArgs f true (pures vs) []) Q E s := by
  cases vs with
  | nil => exact evalArgs_nil3 h
  | cons v vs =>
    refine evalArgs_plain (x := pure v) (rest := pures vs) ?_
    exact fun Γ p hΓ => by
      have := spliced_pures (v :: vs) M Γ (fun a p s => Q ⟨a, []⟩ s) (fun e p s => E e s) p s
      exact this ▸ h
theorem lcall_fn {id : String} {first xs : List PV} (h : LFn prog w h₀ n (.builtin id) (first ++ xs) σ Q) : LCall prog w h₀ n (.builtin id) first xs σ Q := fun env ρ H pos fs vs l1 l2 hp A s ok S X hh => by
  refine callWith_builtin (by simp [pures]) (evalArgs_pures ?_)
  refine h env ρ H (fs ++ vs) (by simp [l1, l2]) (fun p hp' => hp p ?_) A s ok S X hh
  rwa [List.zip_append l1] at hp'
theorem lcall_type {T : String} {xs : List PV} (h : LFn prog w h₀ n (.type T) xs σ Q) : LCall prog w h₀ n (.type T) [] xs σ Q := fun env ρ H pos fs vs l1 l2 hp A s ok S X hh => by
  have : fs = [] := List.length_eq_zero_iff.mp l1
  subst this
  exact PyProof.Rows.callWith_type (by simp [pures]) (evalArgs_pures (h env ρ H vs l2 (fun p hp' => hp p (by simpa using hp')) A s ok S X hh))

theorem Is.intEq {h : Heap} {i j : Int} {t : Tok} (e : i = j) : Is h (.int i t) (.int j) := e ▸ .int i t
theorem one_of {vs : List Value} {x : PV} (h : vs.length = [x].length) : ∃ v, vs = [v] := List.length_eq_one_iff.mp h
theorem two_of {vs : List Value} {x y : PV} (h : vs.length = [x, y].length) : ∃ u v, vs = [u, v] := by
  obtain ⟨u, r, rfl⟩ := List.exists_cons_of_length_eq_add_one h
  obtain ⟨v, rfl⟩ := List.length_eq_one_iff.mp (Nat.succ.inj h)
  exact ⟨u, v, rfl⟩
theorem three_of {vs : List Value} {x y z : PV} (h : vs.length = [x, y, z].length) : ∃ u v t, vs = [u, v, t] := by
  obtain ⟨u, r, rfl⟩ := List.exists_cons_of_length_eq_add_one h
  obtain ⟨v, t, rfl⟩ := two_of (x := y) (y := z) (Nat.succ.inj h)
  exact ⟨u, v, t, rfl⟩

theorem lf_len_list {a : Addr} {xs : List PV} (e : σ a = some (.lst xs)) (hl : xs.length ≤ 1000000) (q : Q (.int xs.length) σ) : LFn prog w h₀ n (.builtin "len") [.loc a] σ Q := fun env ρ H vs l hp => WE.leaf q fun A s Q' ok S X hh hQ => by
  obtain ⟨v, rfl⟩ := one_of l
  have := held_loc hh (hp _ (.head _)); subst this
  obtain ⟨ws, k, l1, i1⟩ := S.objs _ _ e
  have hl' := i1.length
  refine call_len_list (Mine.IsL.isList l1) (by simp; (first | lia | omega)) ?_
  exact hQ (.int ws.toArray.size (s.toks + 1)) (s.toks + 1 + 1) (.intEq (by simp [hl']))
theorem lf_len_dv {a : Addr} {es : List (PV × PV)} (e : σ a = some (.dv es)) (hl : es.length ≤ 1000000) (q : Q (.int es.length) σ) : LFn prog w h₀ n (.builtin "len") [.loc a] σ Q := fun env ρ H vs l hp => WE.leaf q fun A s Q' ok S X hh hQ => by
  obtain ⟨v, rfl⟩ := one_of l
  have := held_loc hh (hp _ (.head _)); subst this
  obtain ⟨hs, kvs, D, e1, e2⟩ := S.objs _ _ e
  have hk : kvs.length = es.length := by simpa using congrArg List.length e1
  refine @call_len_dict _ _ _ PV.decEq (valKind prog w) _ _ _ _ _ _ hs D (by (first | lia | omega)) ?_
  exact hQ (.int kvs.length (s.toks + 1)) (s.toks + 1 + 1) (.intEq (by simp [hk]))
theorem lf_len_dt {a : Addr} {T : Ty} {es : List (PV × PV)} (e : σ a = some (.dt T es)) (hl : es.length ≤ 1000000) (q : Q (.int es.length) σ) : LFn prog w h₀ n (.builtin "len") [.loc a] σ Q := fun env ρ H vs l hp => WE.leaf q fun A s Q' ok S X hh hQ => by
  obtain ⟨v, rfl⟩ := one_of l
  have := held_loc hh (hp _ (.head _)); subst this
  obtain ⟨hs, kvs, ⟨ob, ents, ep, ho, hx, hd, he, his⟩, e1, e2⟩ := S.objs _ _ e
  have hk : kvs.length = es.length := by simpa using congrArg List.length e1
  have hk2 : ents.size = es.length := by
    have : ents.toList.length = kvs.length := by rw [he]; simp
    simpa [hk] using this
  refine call_len_ents (es := ents) (ep := ep) hs ⟨ob, ho, hx, hd⟩ (by (first | lia | omega)) ?_
  exact hQ (.int ents.size (s.toks + 1)) (s.toks + 1 + 1) (.intEq (by simp [hk2]))

-- lists' methods
theorem update_same {a : Addr} {f : Obj → Obj} (h : Heap) : Pres (fun c => c = a) h (h.update a f) := Pres.sameBut (Heap.SameBut.update ..)
theorem IsAll.insert {h : Heap} {ws : List Value} {xs : List PV} {v : Value} {x : PV} (i : IsAll h ws xs) (iv : Is h v x) (k : Nat) : IsAll h (ws.take k ++ v :: ws.drop k) (xs.take k ++ x :: xs.drop k) := (i.take k).append (.cons iv (i.drop k))
theorem lc_insert {a : Addr} {xs : List PV} {x : PV} {k : Int} (e : σ a = some (.lst xs)) (h0 : 0 ≤ k) (hk : k.toNat ≤ xs.length) (hl : xs.length ≤ 1000000) (q : Q .none (upd σ a (.lst (xs.take k.toNat ++ x :: xs.drop k.toNat)))) :
    LCall prog w h₀ n (.builtin "list.insert") [.loc a] [.int k, x] σ Q := lcall_fn fun env ρ H vs l1 hp => WE.turn e (b := .none) q fun A s Q' ok S X hh hr hQ => by
  obtain ⟨f, i, v, rfl⟩ := three_of l1
  have := held_loc hh (hp _ (.head _)); subst this
  obtain ⟨t, rfl⟩ := held_int hh (hp _ (.tail _ (.head _)))
  obtain ⟨ws, m, il, i1⟩ := hr
  have hl' := i1.length
  refine call_meets F.slot_list_insert ⟨_, il, rfl⟩ F.entry_list_insert (F.args_list_insert_3 _ _ _) (AutoSeq1.list_insert_list_int_val_1 a ws.toArray m k t v ?_ (by simp; unfold sizeLine; (first | lia | omega))) ⟨il, ?_⟩
  · unfold Builtin.List.listFitsIndex
    simp; (first | lia | omega)
  have e1 : ∀ (ys : Array Value), ys = ws.toArray → (have j := if k < 0 then (k + (ys.size : Int)).toNat else min k.toNat ys.size; (ys.extract 0 j).push v ++ ys.extract j) = (ws.take k.toNat ++ v :: ws.drop k.toNat).toArray := by
    intro ys hy
    subst hy
    have : ¬ k < 0 := by (first | lia | omega)
    simp only [this, if_false, List.size_toArray]
    have e2 : min k.toNat ws.length = k.toNat := by (first | lia | omega)
    rw [e2]
    apply Array.toList_inj.mp
    simp [List.extract_eq_take_drop]
    exact List.take_of_length_le (by simp)
  have hu := IsL.update il (fun xs => have j := if k < 0 then (k + (xs.size : Int)).toNat else min k.toNat xs.size; (xs.extract 0 j).push v ++ xs.extract j)
  rw [e1 _ rfl] at hu
  exact hQ .none _ s.toks (update_same _) fun kp => ⟨⟨ws.take k.toNat ++ v :: ws.drop k.toNat, _, hu, (i1.keep kp).insert ((hh _ (hp _ (.tail _ (.tail _ (.head _))))).keep kp) _⟩, .none⟩

-- dicts' methods
end

end Mine
end

section
namespace Mine

theorem pick_upto (items : Array Value) (k : Int) (h0 : 0 ≤ k) : slicePick items none (some k) none = (items.toList.take k.toNat).toArray := by
  have h1 : slicePick items none (some k) none = slicePick items (some ((0 : Nat) : Int)) (some ((min k.toNat items.size : Nat) : Int)) none := by
    have e1 : ¬ k < 0 := by (first | lia | omega)
    have e2 : max (0 : Int) (min k (items.size : Int)) = max 0 (min ((min k.toNat items.size : Nat) : Int) (items.size : Int)) := by
      clear e1
      rcases Nat.le_total k.toNat items.size with h | h
      · rw [Nat.min_eq_left h, Int.toNat_of_nonneg h0]
      · rw [Nat.min_eq_right h, Int.min_self, Int.min_eq_right (Int.ofNat_le.mpr h |> fun h => by rwa [Int.toNat_of_nonneg h0] at h)]
    have e3 : ¬ (((min k.toNat items.size : Nat) : Int) < 0) := by (first | lia | omega)
    have e4 : (0 : Int) = max 0 (min ((0 : Nat) : Int) (items.size : Int)) := by (first | lia | omega)
    have e5 : ¬ (((0 : Nat) : Int) < 0) := by (first | lia | omega)
    simp only [slicePick, sliceBounds, Option.getD_none, show ((1 : Int) > 0) = True from by simp, if_true, if_neg e1, e2, if_neg e3, if_neg e5]
    rw [← e4]
  rw [h1, slicePick_run _ _ _ (by (first | lia | omega)) (by (first | lia | omega))]
  congr 1
  simp only [List.drop_zero, Nat.sub_zero]
  rcases Nat.le_total k.toNat items.size with h | h
  · rw [Nat.min_eq_left h]
  · rw [Nat.min_eq_right h, List.take_of_length_le (by simp), List.take_of_length_le (by simpa using h)]

section
variable {prog : Program} {w : World} {h₀ : Heap} {n : Nat} {env : Env} {ρ : Loc} {σ : Store} {Q : PV → Store → Prop}

noncomputable def ListAt (prog : Program) (w : World) (h₀ : Heap) (σ : Store) (a : Addr) (xs : List PV) : Prop := ∀ h, SRel prog w h₀ σ h → ∃ vs : List Value, h.IsList a vs.toArray ∧ IsAll h vs xs
theorem ListAt.of {a : Addr} {xs : List PV} (e : σ a = some (.lst xs)) : ListAt prog w h₀ σ a xs := fun h S => by
  obtain ⟨vs, n, l, i⟩ := S.objs _ _ e; exact ⟨vs, Mine.IsL.isList l, i⟩

theorem we_slice_upto {value e : Expr} {p pos : Pos}
    (h : WV prog w h₀ n env [] (eval value env) ρ σ fun x σ₁ => WV prog w h₀ n env [] (eval e env) ρ σ₁ fun y σ₂ => ∃ a xs k, x = .loc a ∧ y = .int k ∧ 0 ≤ k ∧ ListAt prog w h₀ σ₂ a xs ∧ xs.length ≤ 1000000 ∧
      ∀ c, σ₂ c = none → Q (.loc c) (upd σ₂ c (.lst (xs.take k.toNat))))
    (ht : ∀ o r, letTemporaryGo value o r = pure () := by intro _ _; rfl) :
    WV prog w h₀ n env [] (eval (.Subscript value (.Slice none (some e) none p) pos) env) ρ σ Q := fun A s ok S X hh =>
  wpAny_Subscript_list_slice (h.run (R' := Is) (γ := Value) (δ := PV) ok S X hh fun o s₁ x σ₁ S₁ X₁ hh₁ r₁ q₁ tr₁ => by
    rw [evalPart_none]
    refine wpAny_pure ?_
    rw [evalPart_some]
    refine (WE.more (H := [(o, x)]) q₁).run (R' := Is) (γ := Value) (δ := PV) ok S₁ X₁ (hh₁.cons r₁) fun vu s₂ y σ₂ S₂ X₂ hh₂ r₂ q₂ tr₂ => ?_
    obtain ⟨a, xs, k, rfl, rfl, h0, hl, hsz, q⟩ := q₂
    obtain ⟨vs, il, i⟩ := hl _ S₂
    have := held_loc hh₂ (.head _); subst this
    cases r₂ with | int _ t => 
    have len := i.length
    refine ⟨a, vs.toArray, none, some k, rfl, il, by simp; unfold sizeLine; (first | lia | omega), .none, .int _ _, ?_⟩
    rw [pick_upto _ _ h0]
    have p : Pres NoMod s₂.heap ((s₂.heap.push { cls := .type "slice", data := .fields #[.none, .int k t, .none] }).push { cls := .type "list", data := .seq (vs.take k.toNat).toArray }) := (Pres.refl.push _).push _
    have kp : TupKeep s₂.heap _ := fun b items n' e => p.2 b _ (fun f => f) e
    have rp : Rep prog w ((s₂.heap.push { cls := .type "slice", data := .fields #[.none, .int k t, .none] }).push { cls := .type "list", data := .seq (vs.take k.toNat).toArray }) (s₂.heap.objs.size + 1) (.lst (xs.take k.toNat)) := by
      refine ⟨vs.take k.toNat, 0, ?_, (i.take _).keep kp⟩
      have := IsL.new (s₂.heap.push { cls := .type "slice", data := .fields #[.none, .int k t, .none] }) (vs.take k.toNat).toArray
      rw [Heap.size_push] at this
      exact this
    obtain ⟨S₃, X₃, hh₃, tr₃⟩ := newStep (γ := Value) (δ := PV) (R' := Is) (o := .lst (xs.take k.toNat)) S₂ X₂ hh₂ p (Heap.get?_none_of_le (Nat.le_succ _)) rp
    exact tr₁ _ _ _ (tr₂ _ _ _ (tr₃ s₂.toks _ _ _ (Post.here S₃ X₃ (.loc _) ⟨rfl, q _ (free_of S₂ (Heap.get?_none_of_le (Nat.le_succ _)))⟩)))) ht

-- dicts written out
theorem notSys {s : Heap} (hbig : ∃ b o, sysModules < b ∧ h₀.get? b = some o) (S : SRel prog w h₀ σ s) : (s.objs.size == sysModules) = false := by
  obtain ⟨b, o, hb, ho⟩ := hbig
  exact beq_eq_false_iff_ne.mpr (Nat.ne_of_gt (Nat.lt_trans hb (Heap.lt_size (S.base _ _ ho))))
theorem rep_dv_new {s : Heap} (hbig : ∃ b o, sysModules < b ∧ h₀.get? b = some o) (S : SRel prog w h₀ σ s) : Rep prog w (s.push { cls := .type "dict", data := .dict #[] }) s.objs.size (.dv []) :=
  ⟨notSys hbig S, [], @Heap.DictOf.new _ _ _ PV.decEq (valKind prog w) s, rfl, .nil⟩
theorem rep_dt_new {T : Ty} {s : Heap} (hbig : ∃ b o, sysModules < b ∧ h₀.get? b = some o) (S : SRel prog w h₀ σ s) : Rep prog w (s.push { cls := .type "dict", data := .dict #[] }) s.objs.size (.dt T []) :=
  ⟨notSys hbig S, [], @Heap.DictOfH.new _ _ _ PV.decEq (tupKind prog w T) s, rfl, .nil⟩
theorem we_dict0_dt {pos : Pos} (T : Ty) (hbig : ∃ b o, sysModules < b ∧ h₀.get? b = some o) (q : ∀ a, σ a = none → Q (.loc a) (upd σ a (.dt T []))) : WV prog w h₀ n env [] (eval (.Dict [] [] pos) env) ρ σ Q :=
  WE.newObj q fun A s Q' ok S X hh hQ => wpAny_Dict_empty (hQ _ s.toks _ (Pres.refl.push _) (fresh _) (rep_dt_new hbig S))
theorem upd_upd (σ : Store) (a : Addr) (o o' : MObj) : upd (upd σ a o) a o' = upd σ a o' := by funext b; unfold upd; split <;> rfl
theorem we_dict1 {k v : Expr} {pos : Pos} (T : Ty) (hbig : ∃ b o, sysModules < b ∧ h₀.get? b = some o)
    (h : ∀ a, σ a = none → WV prog w h₀ n env [] (eval k env) ρ (upd σ a (.dt T [])) fun x σ₁ => WV prog w h₀ n env [] (eval v env) ρ σ₁ fun y σ₂ => ∃ ks, x = .tup ks ∧ HasTy T (.tup ks) ∧ Hsh 3 (.tup ks) ∧ σ₂ a = some (.dt T []) ∧ Q (.loc a) (upd σ₂ a (.dt T [(.tup ks, y)]))) :
    WV prog w h₀ n env [] (eval (.Dict [some k] [v] pos) env) ρ σ Q := fun A s ok S X hh => by
  refine wpAny_Dict_any rfl rfl (by simp) (by simp) ?_
  obtain ⟨S₀, X₀, hh₀, tr₀⟩ := newStep (γ := Value) (δ := PV) (R' := Is) (o := .dt T []) S X hh (Pres.refl.push _) (fresh _) (rep_dt_new (T := T) hbig S)
  have fr := free_of S (fresh s.heap)
  show wpAny _ _ (evalPairs [(eval k env, do let x ← eval v env; standAt pos; pure x)]) _ _ _
  unfold evalPairs
  refine wpAny_bind ((h _ fr).run (R' := Is) (γ := Value) (δ := PV) (s := { s with heap := s.heap.push { cls := .type "dict", data := .dict #[] } }) ok S₀ X₀ hh₀ fun kv s₁ x σ₁ S₁ X₁ hh₁ r₁ q₁ tr₁ => ?_)
  refine wpAny_bind (wpAny_holding (wpAny_bind ((WE.more (H := [(kv, x)]) q₁).run (R' := Is) (γ := Value) (δ := PV) ok S₁ X₁ (hh₁.cons r₁) fun vv s₂ y σ₂ S₂ X₂ hh₂ r₂ q₂ tr₂ => ?_)))
  refine wpAny_bind (wpAny_standAt (wpAny_pure (wpAny_bind (wpAny_holding (wpAny_pure (wpAny_pure ?_))))))
  obtain ⟨ks, rfl, hk, hs, e, q⟩ := q₂
  have ik := hh₂ _ (.head _)
  obtain ⟨p, rfl⟩ := ik.tup_ref
  unfold storeAll
  rw [List.forIn_cons]
  obtain ⟨hm, kvs, D, e1, e2⟩ := S₂.objs _ _ e
  refine wpAny_bind (wpAny_bind (@wpAny_dictSet_heap _ _ _ PV.decEq (tupKind prog w T) _ _ _ _ _ _ _ _ _ (by have := ok.room; show A.units + 10 < cLine; (first | lia | omega)) ⟨ik, hk, hs⟩ D (fun h' D' hs' => wpAny_pure ?_) (kvs_size e1 (by simp))))
  dsimp only
  rw [List.forIn_nil]
  refine wpAny_pure ?_
  have kp : TupKeep s₂.heap h' := S₂.tupKeep (Pres.sameBut hs') fun c hc => .inl (by subst hc; exact ⟨_, e⟩)
  obtain ⟨S₃, X₃, hh₃, tr₃⟩ := turnStep (γ := Value) (δ := PV) (R' := Is) (o' := .dt T [(.tup ks, y)]) S₂ X₂ hh₂ e (Pres.sameBut hs') ⟨hm, _, D', dt_set (es := []) e1 (e2.keep kp) (r₂.keep kp)⟩
  exact tr₀ s.toks _ _ _ (tr₁ _ _ _ (tr₂ _ _ _ (tr₃ _ _ _ _ (Post.here (s := { s₂ with heap := h', toks := s₂.toks + drawsPV (.tup ks) }) S₃ X₃ (.loc _) ⟨rfl, q⟩))))
end

end Mine
end

section
namespace Mine

theorem pairwise_ne {l : List (Str × Addr)} (h : l.Pairwise fun x y => x.2 ≠ y.2) {a b : Str × Addr} (ha : a ∈ l) (hb : b ∈ l) (hne : a ≠ b) : a.2 ≠ b.2 := by
  induction l with
  | nil => cases ha
  | cons x l ih =>
    obtain ⟨h1, h2⟩ := List.pairwise_cons.mp h
    rcases List.mem_cons.mp ha with rfl | ha
    · rcases List.mem_cons.mp hb with rfl | hb
      · exact absurd rfl hne
      · exact h1 _ hb
    · rcases List.mem_cons.mp hb with rfl | hb
      · exact fun e => h1 _ (by assumption) e.symm
      · exact ih h2 ha hb
theorem ns_unique {h : Heap} {a : Addr} {m m' : Str → Option Value} (x : h.Ns a m) (y : h.Ns a m') : m = m' := by
  obtain ⟨o, es, ep, h1, h2, h3, h4⟩ := x
  obtain ⟨o', es', ep', h1', h2', h3', h4'⟩ := y
  rw [h1] at h1'; cases h1'
  rw [h2] at h2'; cases h2'
  funext z; rw [← h4, ← h4']
/-- a way from one state to another -/
structure Stp (Mod : Addr → Prop) (σ : Store) (s : Shared) (σ₁ : Store) (s₁ : Shared) : Prop where
  eq : ∃ h tk, s₁ = { s with heap := h, toks := tk }
  pres : Pres (fun a => Dom σ a ∨ Mod a) s.heap s₁.heap
  sub : ∀ a, Dom σ₁ a → Dom σ a ∨ s.heap.get? a = none
theorem Stp.refl {Mod : Addr → Prop} {σ : Store} {s : Shared} : Stp Mod σ s σ s := ⟨⟨s.heap, s.toks, rfl⟩, Pres.refl, fun _ d => .inl d⟩
theorem Stp.mono {Mod Mod' : Addr → Prop} {σ σ₁ : Store} {s s₁ : Shared} (x : Stp Mod σ s σ₁ s₁) (h : ∀ a, Mod a → Mod' a) : Stp Mod' σ s σ₁ s₁ := ⟨x.eq, x.pres.mono fun a d => d.imp id (h a), x.sub⟩
theorem Stp.trans {Mod : Addr → Prop} {σ σ₁ σ₂ : Store} {s s₁ s₂ : Shared} (x : Stp Mod σ s σ₁ s₁) (y : Stp Mod σ₁ s₁ σ₂ s₂) (al : ∀ a o, Mod a → s.heap.get? a = some o → ∃ o, s₁.heap.get? a = some o) : Stp Mod σ s σ₂ s₂ := by
  obtain ⟨⟨h, tk, rfl⟩, p, sub⟩ := x
  obtain ⟨⟨h', tk', rfl⟩, p', sub'⟩ := y
  refine ⟨⟨h', tk', rfl⟩, ⟨trivial, fun a o na ea => p'.2 a o (fun d => ?_) (p.2 a o na ea)⟩, fun a d => ?_⟩
  · rcases d with d | d
    · rcases sub a d with d | d
      · exact na (.inl d)
      · rw [d] at ea; cases ea
    · exact na (.inr d)
  · rcases sub' a d with d | d
    · exact sub a d
    · cases q : s.heap.get? a with
      | none => exact .inr rfl
      | some o =>
        by_cases hd : Dom σ a
        · exact .inl hd
        · exfalso
          have d' : h.get? a = none := d
          by_cases hm : Mod a
          · obtain ⟨o', e⟩ := al a o hm q
            rw [show h.get? a = none from d] at e; cases e
          · have := p.2 a o (fun h => h.elim hd hm) q
            rw [d'] at this; cases this

section
variable {prog : Program} {w : World} {h₀ : Heap} {α β γ δ : Type} {n : Nat} {Mod : Addr → Prop} {R : Heap → α → β → Prop} {R' : Heap → γ → δ → Prop} {env : Env} {H : List (Value × PV)} {ρ : Loc} {σ : Store}
theorem ERel.alive {h : Heap} (X : ERel h₀ env ρ σ h) {a : Addr} (o : Own env a) : ∃ ob, h.get? a = some ob := by
  rcases o with rfl | ⟨p, hp, rfl⟩
  · obtain ⟨m, ob, es, ep, h1, _⟩ := X.ns; exact ⟨_, h1⟩
  · obtain ⟨⟨v, ob, h1, h2⟩, _⟩ := X.cells p hp; exact ⟨_, h1⟩
theorem Post.of {Q : β → Loc → Store → Prop} {s s₁ : Shared} {σ₁ : Store} {ρ₁ : Loc} {v : α} {b : β} (x : Stp Mod σ s σ₁ s₁) (S : SRel prog w h₀ σ₁ s₁.heap) (X : ERel h₀ env ρ₁ σ₁ s₁.heap) (r : R s₁.heap v b) (q : Q b ρ₁ σ₁) : Post prog w h₀ Mod R env σ s Q v s₁ := by
  obtain ⟨⟨h, tk, rfl⟩, p, sub⟩ := x
  exact ⟨h, tk, b, ρ₁, σ₁, rfl, p, S, X, sub, r, q⟩
theorem Post.stp {Q : β → Loc → Store → Prop} {s s₁ : Shared} {v : α} (x : Post prog w h₀ Mod R env σ s Q v s₁) : ∃ b ρ₁ σ₁, Stp Mod σ s σ₁ s₁ ∧ SRel prog w h₀ σ₁ s₁.heap ∧ ERel h₀ env ρ₁ σ₁ s₁.heap ∧ R s₁.heap v b ∧ Q b ρ₁ σ₁ := by
  refine x.elim fun h' tk b ρ' σ' e p S X sub r q => ?_
  subst e
  exact ⟨b, ρ', σ', ⟨⟨_, _, rfl⟩, p, sub⟩, S, X, r, q⟩
theorem Stp.tupKeep {s s₁ : Shared} {σ₁ : Store} (hM : NoTup Mod env) (x : Stp Mod σ s σ₁ s₁) (S : SRel prog w h₀ σ s.heap) (X : ERel h₀ env ρ σ s.heap) : TupKeep s.heap s₁.heap :=
  S.tupKeep x.pres (fun a d => d.imp id fun d => X.ownNoTup (hM a d))
theorem Stp.andThen {s s₁ s₂ : Shared} {σ₁ σ₂ : Store} {ρ₁ : Loc} (hM : NoTup Mod env) (x : Stp Mod σ s σ₁ s₁) (y : Stp Mod σ₁ s₁ σ₂ s₂) (X₁ : ERel h₀ env ρ₁ σ₁ s₁.heap) : Stp Mod σ s σ₂ s₂ :=
  x.trans y fun a _ hm _ => X₁.alive (hM a hm)
/-- running a part: then everything is known -/
theorem WP.go {m : Sem α} {Q1 : β → Loc → Store → Prop} (hM : NoTup Mod env) (h : WP prog w h₀ n Mod R env H m ρ σ Q1) {A : Around} {s : Shared} (ok : Ok n A) (S : SRel prog w h₀ σ s.heap) (X : ERel h₀ env ρ σ s.heap) (hh : Held H s.heap) {Q' : α → Shared → Prop} {E : Value → Shared → Prop}
    (hq : ∀ v s₁ b ρ₁ σ₁, Stp Mod σ s σ₁ s₁ → SRel prog w h₀ σ₁ s₁.heap → ERel h₀ env ρ₁ σ₁ s₁.heap → Held H s₁.heap → R s₁.heap v b → Q1 b ρ₁ σ₁ → Q' v s₁) :
    wpAny (model prog w) A m Q' E s :=
  wpAny_mono (h A s ok S X hh) (fun v s₁ x => by
    obtain ⟨b, ρ', σ', st, S', X', r, q⟩ := x.stp
    exact hq v _ b ρ' σ' st S' X' (hh.keep (st.tupKeep hM S X)) r q) fun _ _ e => e.elim

-- a name stored
theorem lookup_cons_self (x : Str) (v : PV) (ρ : Loc) : List.lookup x ((x, v) :: ρ) = some v := by simp [List.lookup_cons]
noncomputable def StorM (Mod : Addr → Prop) (env : Env) (x : Str) : Prop := (env.kindOf x = some .local ∧ Mod env.locals) ∨ (env.kindOf x = some .cell ∧ ∃ c, env.cells.lookup x = some c ∧ Mod c)
theorem wp_storeM {x : Str} {val : Value} {v : PV} {Q : Unit → Loc → Store → Prop} (hM : NoTup Mod env) (hk : StorM Mod env x) (m : (val, v) ∈ H) (q : Q () ((x, v) :: ρ) σ) :
    WP prog w h₀ n Mod unitR env H (storeName env x val) ρ σ Q := fun A s ok S X hh => by
  have iv := hh _ m
  have other : ∀ (a : Addr) (h' : Heap), Mod a → Heap.SameBut a s.heap h' →
      (h' : Heap) = h' ∧ Pres (fun c => Dom σ c ∨ Mod c) s.heap h' ∧ SRel prog w h₀ σ h' ∧ TupKeep s.heap h' := fun a h' ha hs => by
    have p : Pres (fun c => Dom σ c ∨ Mod c) s.heap h' := Pres.same Pres.refl hs (.inl (.inr ha))
    have k : TupKeep s.heap h' := S.tupKeep p fun c d => d.imp id fun d => X.ownNoTup (hM c d)
    have ne : ∀ b o, h₀.get? b = some o → b ≠ a := fun b o e q => by
      subst q
      rcases hM _ ha with rfl | ⟨z, hz, rfl⟩
      · rw [X.nsoff.1] at e; cases e
      · rw [(X.cells z hz).2.1] at e; cases e
    have ne2 : ∀ b o, σ b = some o → b ≠ a := fun b o e q => by
      subst q
      rcases hM _ ha with rfl | ⟨z, hz, rfl⟩
      · rw [X.nsoff.2] at e; cases e
      · rw [(X.cells z hz).2.2.1] at e; cases e
    exact ⟨rfl, p, ⟨fun b o e => (hs.2 b (ne b o e)).trans (S.base b o e), trivial, fun b o e => (S.objs b o e).keep k fun ob eo => (hs.2 b (ne2 b o e)).trans eo, S.off⟩, k⟩
  rcases hk with ⟨hk, hml⟩ | ⟨hk, c, hc, hmc⟩
  · obtain ⟨m, hm⟩ := X.ns
    refine wpAny_storeName_local hk hm (fun h' hn hs => ?_) (by rw [X.kind]; rfl)
    obtain ⟨_, p, S', k⟩ := other env.locals h' hml hs
    refine ⟨h', _, (), (x, v) :: ρ, σ, rfl, p, S', ⟨X.kind, X.glob, X.bins, ⟨_, hn⟩, X.nsoff, fun z hz => ?_, X.apart, fun y u e => ?_⟩, fun _ d => .inl d, trivial, q⟩
    · obtain ⟨⟨cv, o, h1, h2⟩, r⟩ := X.cells z hz
      exact ⟨⟨cv, o, (hs.2 _ r.2.2).trans h1, h2⟩, r⟩
    · by_cases hy : y = x
      · subst hy
        rw [lookup_cons_self] at e; cases e
        exact ⟨val, .inl ⟨hk, _, hn, by simp⟩, iv.keep k⟩
      · have e' : ρ.lookup y = some u := by
          have hb : (y == x) = false := beq_eq_false_iff_ne.mpr hy
          simpa [List.lookup_cons, hb] using e
        obtain ⟨val', hv, hi⟩ := X.vars y u e'
        refine ⟨val', ?_, hi.keep k⟩
        rcases hv with ⟨hk', m', hn', hm'⟩ | ⟨hk', c, hc, o, ho, hd⟩
        · refine .inl ⟨hk', _, hn, ?_⟩
          simp only [if_neg hy]
          rw [ns_unique hm hn']; exact hm'
        · exact .inr ⟨hk', c, hc, o, (hs.2 _ (X.cells _ (mem_of_lookup hc)).2.2.2).trans ho, hd⟩
  · obtain ⟨⟨cv, hcv⟩, hc1, hc2, hc3⟩ := X.cells _ (mem_of_lookup hc)
    refine wpAny_storeName_cell X.kind hk hc hcv fun h' hn hs => ?_
    obtain ⟨_, p, S', k⟩ := other c h' hmc hs
    obtain ⟨m, hm⟩ := X.ns
    have hm' : h'.Ns env.locals m := hm.at' fun o e => (hs.2 _ (fun q => hc3 q.symm)).trans e
    refine ⟨h', s.toks, (), (x, v) :: ρ, σ, rfl, p, S', ⟨X.kind, X.glob, X.bins, ⟨_, hm'⟩, X.nsoff, fun z hz => ?_, X.apart, fun y u e => ?_⟩, fun _ d => .inl d, trivial, q⟩
    · obtain ⟨⟨zv, o, h1, h2⟩, r⟩ := X.cells z hz
      by_cases hz2 : z.2 = c
      · exact ⟨⟨_, hz2 ▸ hn⟩, r⟩
      · exact ⟨⟨zv, o, (hs.2 _ hz2).trans h1, h2⟩, r⟩
    · by_cases hy : y = x
      · subst hy
        rw [lookup_cons_self] at e; cases e
        exact ⟨val, .inr ⟨.inl hk, c, hc, hn⟩, iv.keep k⟩
      · have e' : ρ.lookup y = some u := by
          have hb : (y == x) = false := beq_eq_false_iff_ne.mpr hy
          simpa [List.lookup_cons, hb] using e
        obtain ⟨val', hv, hi⟩ := X.vars y u e'
        refine ⟨val', ?_, hi.keep k⟩
        rcases hv with ⟨hk', m', hn', hm2⟩ | ⟨hk', c', hc', o, ho, hd⟩
        · exact .inl ⟨hk', m', hn'.at' fun o e => (hs.2 _ (fun q => hc3 q.symm)).trans e, hm2⟩
        · refine .inr ⟨hk', c', hc', o, (hs.2 _ fun q => hy ?_).trans ho, hd⟩
          have h1 : (x, c) ∈ env.cells := PySem.mem_of_lookup hc
          have h2 : (y, c') ∈ env.cells := PySem.mem_of_lookup hc'
          by_cases h3 : ((y, c') : Str × Addr) = (x, c)
          · exact congrArg Prod.fst h3
          · exact absurd q (pairwise_ne X.apart h2 h1 h3)
theorem wp_store {x : Str} {val : Value} {v : PV} {Q : Unit → Loc → Store → Prop} (hk : env.kindOf x = some .local ∨ (env.kindOf x = some .cell ∧ ∃ c, env.cells.lookup x = some c)) (m : (val, v) ∈ H) (q : Q () ((x, v) :: ρ) σ) :
    WP prog w h₀ n (Own env) unitR env H (storeName env x val) ρ σ Q :=
  wp_storeM (ownMod env) (hk.imp (fun h => ⟨h, .inl rfl⟩) fun ⟨h, c, hc⟩ => ⟨h, c, hc, .inr ⟨_, PySem.mem_of_lookup hc, rfl⟩⟩) m q
end

end Mine
end

section
namespace Mine

noncomputable def Sub (ρ' ρ : Loc) : Prop := ∀ x v, ρ'.lookup x = some v → ρ.lookup x = some v
theorem Sub.refl (ρ : Loc) : Sub ρ ρ := fun _ _ e => e

section
variable {prog : Program} {w : World} {h₀ : Heap} {α β γ δ : Type} {n : Nat} {Mod : Addr → Prop} {R : Heap → α → β → Prop} {env : Env} {H : List (Value × PV)} {ρ : Loc} {σ : Store}

theorem firmStep {s : Shared} {h' : Heap} (S : SRel prog w h₀ σ s.heap) (X : ERel h₀ env ρ σ s.heap) (hh : Held H s.heap) (p : Pres NoMod s.heap h') :
    SRel prog w h₀ σ h' ∧ ERel h₀ env ρ σ h' ∧ Held H h' ∧ ∀ tk Mod, Stp Mod σ s σ { s with heap := h', toks := tk } := by
  have k : TupKeep s.heap h' := fun b items n' e => p.2 b _ (fun f => f) e
  exact ⟨⟨fun b ob e => p.2 b ob (fun f => f) (S.base b ob e), trivial, fun b o' e => (S.objs b o' e).keep k fun ob eo => p.2 b ob (fun f => f) eo, S.off⟩,
    X.step p k (fun f => f) (fun _ _ f => f) (fun _ d => .inl d), hh.keep k, fun tk Mod => ⟨⟨h', tk, rfl⟩, p.mono fun _ f => f.elim, fun _ d => .inl d⟩⟩

noncomputable def Stor (env : Env) (x : Str) : Prop := env.kindOf x = some .local ∨ (env.kindOf x = some .cell ∧ ∃ c, env.cells.lookup x = some c)
/-- a target -/
noncomputable def WT (prog : Program) (w : World) (h₀ : Heap) (n : Nat) (Mod : Addr → Prop) (env : Env) (target : Expr) (x : PV) (ρ : Loc) (σ : Store) (Q : Loc → Store → Prop) : Prop :=
  ∀ H v, (v, x) ∈ H → WP prog w h₀ n Mod unitR env H (assign target env v) ρ σ (fun _ ρ' σ' => Q ρ' σ')
theorem wt_name {x : Str} {p : Pos} {v : PV} {Q : Loc → Store → Prop} (hM : NoTup Mod env) (hk : StorM Mod env x) (q : Q ((x, v) :: ρ) σ) : WT prog w h₀ n Mod env (.Name x p) v ρ σ Q := fun H val m A s ok S X hh =>
  wpAny_assign_Name (wp_storeM hM hk m q A s ok S X hh)
theorem wt_pair {x y : Str} {p1 p2 pos : Pos} {k : Nat} {a b : PV} {Q : Loc → Store → Prop} (hM : NoTup Mod env) (hx : StorM Mod env x) (hy : StorM Mod env y) (q : Q ((y, b) :: (x, a) :: ρ) σ) :
    WT prog w h₀ n Mod env (.Tuple [.Name x p1, .Name y p2] k pos) (.tup [a, b]) ρ σ Q := fun H val m A s ok S X hh => by
  obtain ⟨t, kk, vs, rfl, it, i⟩ := held_tup hh m
  rw [PyProof.Rows.assign_Tuple]
  refine wpAny_bind (wpAny_standAt ?_)
  unfold unpack
  obtain ⟨va, vb, rfl, ia, ib⟩ := i.two
  show wpAny _ _ ((holding [.ref t] (unpackItems (.ref t) 2 none)) >>= fun items => assignInOrder [fun v => (do standAt p1; bindName env x v), fun v => (do standAt p2; bindName env y v)] items) _ _ _
  refine wpAny_bind (wpAny_holding (unpackItems_tuple (A := A) (t := t) (items := [va, vb].toArray) ok.handled ⟨_, it, rfl, _, rfl⟩ fun h' he => ?_))
  have p : Pres NoMod s.heap h' := ⟨trivial, fun c o _ e => he c o (fun q => by rw [q, fresh] at e; cases e) e⟩
  obtain ⟨S₁, X₁, hh₁, st⟩ := firmStep S X (H := (va, a) :: (vb, b) :: H) (fun z hz => by
    rcases List.mem_cons.mp hz with rfl | hz
    · exact ia
    · rcases List.mem_cons.mp hz with rfl | hz
      · exact ib
      · exact hh _ hz) p
  show wpAny _ _ (holding [vb] (do standAt p1; bindName env x va) >>= fun _ => (holding [] (do standAt p2; bindName env y vb) >>= fun _ => pure ())) _ _ _
  refine wpAny_bind (wpAny_holding (wpAny_bind (wpAny_standAt (wpAny_bindName ?_))))
  refine WP.go hM (wp_storeM hM (n := n) (Q := fun _ ρ' σ' => ρ' = (x, a) :: ρ ∧ σ' = σ) hx (.head _) ⟨rfl, rfl⟩) (s := { s with heap := h' }) ok S₁ X₁ hh₁ fun _ s₂ _ ρ₂ σ₂ st₂ S₂ X₂ hh₂ _ q₂ => ?_
  obtain ⟨rfl, rfl⟩ := q₂
  refine wpAny_bind (wpAny_holding (wpAny_bind (wpAny_standAt (wpAny_bindName ?_))))
  refine WP.go hM (wp_storeM hM (n := n) (Q := fun _ ρ' σ' => Q ρ' σ') hy (.tail _ (.head _)) q) ok S₂ X₂ hh₂ fun u s₃ _ ρ₃ σ₃ st₃ S₃ X₃ hh₃ _ q₃ => ?_
  exact wpAny_pure (Post.of (b := ()) (((st s.toks Mod).andThen hM st₂ X₁).andThen hM st₃ X₂) S₃ X₃ trivial q₃)

theorem Stor.own {x : Str} (h : Stor env x) : StorM (Own env) env x := h.imp (fun h => ⟨h, .inl rfl⟩) fun ⟨h, c, hc⟩ => ⟨h, c, hc, .inr ⟨_, PySem.mem_of_lookup hc, rfl⟩⟩
-- statements
variable {Q : PFlow → Loc → Store → Prop}
theorem ws_nil (q : Q .next ρ σ) : WS prog w h₀ n env (execs [] env) ρ σ Q := fun A s ok S X hh => wpAny_execs_nil (Post.here S X .next q)
theorem ws_cons {st : Stmt} {rest : List Stmt} (h : WS prog w h₀ n env (exec st env) ρ σ fun f ρ₁ σ₁ => match f with | .next => WS prog w h₀ n env (execs rest env) ρ₁ σ₁ Q | f => Q f ρ₁ σ₁) :
    WS prog w h₀ n env (execs (st :: rest) env) ρ σ Q := fun A s ok S X hh => wpAny_execs_cons (WP.go (ownMod env) h ok S X hh fun f s₁ b ρ₁ σ₁ st S₁ X₁ hh₁ r q => by
  cases r with
  | next => exact wpAny_mono (q A s₁ ok S₁ X₁ hh₁) (fun v s₂ x => by
      obtain ⟨b, ρ₂, σ₂, st₂, S₂, X₂, r₂, q₂⟩ := x.stp
      exact Post.of (st.andThen (ownMod env) st₂ X₁) S₂ X₂ r₂ q₂) fun _ _ e => e
  | brk => exact Post.of st S₁ X₁ .brk q
  | cont => exact Post.of st S₁ X₁ .cont q
  | ret i => exact Post.of st S₁ X₁ (.ret i) q)
/-- an expression first -/
theorem WE.before {m : Sem α} {QE : β → Store → Prop} (h : WE prog w h₀ n R env H m ρ σ QE) {A : Around} {s : Shared} (ok : Ok n A) (S : SRel prog w h₀ σ s.heap) (X : ERel h₀ env ρ σ s.heap) (hh : Held H s.heap)
    {Q₂ : α → Shared → Prop} {E : Value → Shared → Prop} (hq : ∀ v s₁ b σ₁, Stp NoMod σ s σ₁ s₁ → SRel prog w h₀ σ₁ s₁.heap → ERel h₀ env ρ σ₁ s₁.heap → Held H s₁.heap → R s₁.heap v b → QE b σ₁ → Q₂ v s₁) : wpAny (model prog w) A m Q₂ E s :=
  WP.go (noMod env) h ok S X hh fun v s₁ b ρ₁ σ₁ st S₁ X₁ hh₁ r q => by obtain ⟨rfl, q⟩ := q; exact hq v s₁ b σ₁ st S₁ X₁ hh₁ r q
theorem Stp.own {s s₁ : Shared} {σ₁ : Store} (x : Stp NoMod σ s σ₁ s₁) : Stp (Own env) σ s σ₁ s₁ := x.mono fun _ f => f.elim
/-- the rest of a statement after a part -/
theorem Post.after {R' : Heap → γ → δ → Prop} {Q' : δ → Loc → Store → Prop} {t : Sem γ} {s s₁ : Shared} {σ₁ : Store} {ρ₁ : Loc} {A : Around} (st : Stp (Own env) σ s σ₁ s₁) (S₁ : SRel prog w h₀ σ₁ s₁.heap) (X₁ : ERel h₀ env ρ₁ σ₁ s₁.heap) (hh₁ : Held H s₁.heap) (ok : Ok n A)
    (q : WP prog w h₀ n (Own env) R' env H t ρ₁ σ₁ Q') {E : Value → Shared → Prop} : wpAny (model prog w) A t (Post prog w h₀ (Own env) R' env σ s Q') E s₁ :=
  wpAny_mono (q A s₁ ok S₁ X₁ hh₁) (fun v s₂ x => by
      obtain ⟨b, ρ₂, σ₂, st₂, S₂, X₂, r₂, q₂⟩ := x.stp
      exact Post.of (st.andThen (ownMod env) st₂ X₁) S₂ X₂ r₂ q₂) fun _ _ e => e.elim

theorem ws_assign {x : Str} {pos' pos : Pos} {value : Expr} (hk : Stor env x) (h : WV prog w h₀ n env [] (eval value env) ρ σ fun v σ₁ => Q .next ((x, v) :: ρ) σ₁)
    (hs : swapsWith value (some (.Name x pos')) pos.line env = pure false := by rfl) : WS prog w h₀ n env (exec (.Assign [.Name x pos'] value pos) env) ρ σ Q := fun A s ok S X hh =>
  wpAny_Assign_Name (WP.go (noMod env) h ok S X hh fun v s₁ b ρ₁ σ₁ st S₁ X₁ hh₁ r q => by
    obtain ⟨rfl, q⟩ := q
    refine WP.go (ownMod env) (wp_store (n := n) (H := [(v, b)]) (Q := fun _ ρ' σ' => Q .next ρ' σ') hk (.head _) q) ok S₁ X₁ (hh₁.cons r) fun u s₂ c ρ₂ σ₂ st₂ S₂ X₂ hh₂ _ q₂ => ?_
    exact Post.of ((Stp.own st).andThen (ownMod env) st₂ X₁) S₂ X₂ .next q₂) hs
theorem ws_expr {e : Expr} {pos : Pos} (h : WV prog w h₀ n env [] (eval e env) ρ σ fun v σ₁ => v = .none ∧ Q .next ρ σ₁)
    (hi : interactive env = false := by rfl) (hs : swapsWith e none pos.line env = pure false := by rfl) : WS prog w h₀ n env (exec (.Expr e pos) env) ρ σ Q := fun A s ok S X hh =>
  wpAny_Expr (WP.go (noMod env) h ok S X hh fun v s₁ b ρ₁ σ₁ st S₁ X₁ hh₁ r q => by
    obtain ⟨rfl, rfl, q⟩ := q
    cases r
    exact Post.of (Stp.own st) S₁ X₁ .next q) hi hs
theorem ws_return {e : Expr} {pos : Pos} (h : WV prog w h₀ n env [] (eval e env) ρ σ fun v σ₁ => Q (.ret v) ρ σ₁) : WS prog w h₀ n env (exec (.Return (some e) pos) env) ρ σ Q := fun A s ok S X hh =>
  wpAny_Return_some (WP.go (noMod env) h ok S X hh fun v s₁ b ρ₁ σ₁ st S₁ X₁ hh₁ r q => by
    obtain ⟨rfl, q⟩ := q
    exact Post.of (Stp.own st) S₁ X₁ (.ret r) q)
theorem ws_if {test : Expr} {body orelse : List Stmt} {pos : Pos} (h : WB prog w h₀ n env [] (isTrue test env (eval test env)) ρ σ fun b σ₁ => if b then WS prog w h₀ n env (execs body env) ρ σ₁ Q else WS prog w h₀ n env (execs orelse env) ρ σ₁ Q) :
    WS prog w h₀ n env (exec (.If test body orelse pos) env) ρ σ Q := fun A s ok S X hh =>
  wpAny_If (WP.go (noMod env) h ok S X hh fun v s₁ b ρ₁ σ₁ st S₁ X₁ hh₁ r q => by
    obtain ⟨rfl, q⟩ := q
    subst r
    cases v
    · exact Post.after (Stp.own st) S₁ X₁ hh₁ ok q
    · exact Post.after (Stp.own st) S₁ X₁ hh₁ ok q)
theorem ws_iadd {x : Str} {pos' pos : Pos} {value : Expr} {i : Int} (hk : Stor env x) (e : ρ.lookup x = some (.int i)) (h : WV prog w h₀ n env [] (eval value env) ρ σ fun v σ₁ => ∃ j, v = .int j ∧ Q .next ((x, .int (i + j)) :: ρ) σ₁)
    (hc : (x == ("__classdict__" : Str)) = false := by decide) : WS prog w h₀ n env (exec (.AugAssign (.Name x pos') .Add value pos) env) ρ σ Q := fun A s ok S X hh =>
  wpAny_AugAssign_Name (WP.go (noMod env) (wv_loadName (prog := prog) (w := w) (h₀ := h₀) (n := n) (env := env) (H := []) (Q := fun v σ' => v = .int i ∧ σ' = σ) e ⟨rfl, rfl⟩ hc) ok S X hh fun v s₁ b ρ₁ σ₁ st S₁ X₁ hh₁ r q => by
    obtain ⟨rfl, rfl, rfl⟩ := q
    cases r
    refine WP.go (noMod env) h ok S₁ X₁ hh₁ fun v₂ s₂ b₂ ρ₂ σ₂ st₂ S₂ X₂ hh₂ r₂ q₂ => ?_
    obtain ⟨rfl, j, rfl, q⟩ := q₂
    cases r₂
    refine PyProof.Rows.iadd_int ?_
    refine WP.go (ownMod env) (wp_store (n := n) (H := [(.int (i + j) s₂.toks, .int (i + j))]) (Q := fun _ ρ' σ' => Q .next ρ' σ') hk (.head _) q) (s := { s₂ with toks := s₂.toks + 1 }) ok S₂ X₂ (hh₂.cons (.int _ _)) fun u s₃ c ρ₃ σ₃ st₃ S₃ X₃ hh₃ _ q₃ => ?_
    have st2' : Stp NoMod σ₁ s₁ σ₂ { s₂ with toks := s₂.toks + 1 } := by
      obtain ⟨⟨h, tk, e⟩, p, sub⟩ := st₂
      exact ⟨⟨s₂.heap, s₂.toks + 1, by rw [e]⟩, p, sub⟩
    exact Post.of (((Stp.own st).andThen (ownMod env) (Stp.own st2') X₁).andThen (ownMod env) st₃ X₂) S₃ X₃ .next q₃)

theorem Stp.tok {s s₁ : Shared} {σ₁ : Store} (x : Stp Mod σ s σ₁ s₁) (tk : Nat) : Stp Mod σ s σ₁ { s₁ with toks := tk } := by
  obtain ⟨⟨h, tk', e⟩, p, sub⟩ := x
  exact ⟨⟨s₁.heap, tk, by rw [e]⟩, p, sub⟩
/-- o[i] = value -/
theorem ws_set {o i value : Expr} {pos' pos : Pos} (h : WV prog w h₀ n env [] (eval value env) ρ σ fun v σ₁ => WV prog w h₀ n env [] (eval o env) ρ σ₁ fun x σ₂ => WV prog w h₀ n env [] (eval i env) ρ σ₂ fun k σ₃ => LSet prog w h₀ x k v σ₃ fun σ₄ => Q .next ρ σ₄)
    (hs : swapsWith value (some (.Subscript o i pos')) pos.line env = pure false := by rfl) : WS prog w h₀ n env (exec (.Assign [.Subscript o i pos'] value pos) env) ρ σ Q := fun A s ok S X hh =>
  wpAny_Assign_Subscript (WE.before h ok S X hh fun v s₁ b σ₁ st₁ S₁ X₁ hh₁ r₁ q₁ =>
    WE.before (WE.more (H := [(v, b)]) q₁) ok S₁ X₁ (hh₁.cons r₁) fun v2 s₂ b2 σ₂ st₂ S₂ X₂ hh₂ r₂ q₂ =>
    WE.before (WE.more (H := [(v2, b2), (v, b)]) q₂) ok S₂ X₂ (hh₂.cons r₂) fun v3 s₃ b3 σ₃ st₃ S₃ X₃ hh₃ r₃ q₃ =>
    WE.before (q₃ n env ρ [(v3, b3), (v2, b2), (v, b)] v2 v3 v (.tail _ (.head _)) (.head _) (.tail _ (.tail _ (.head _)))) ok S₃ X₃ (hh₃.cons r₃) fun u s₄ b4 σ₄ st₄ S₄ X₄ hh₄ r₄ q₄ =>
    Post.of (Stp.own (((st₁.andThen (noMod env) st₂ X₁).andThen (noMod env) st₃ X₂).andThen (noMod env) st₄ X₃)) S₄ X₄ .next q₄) hs
/-- o[x] += value, of ints -/
theorem ws_iadd_sub {o i value : Expr} {pos' pos : Pos} (h : WV prog w h₀ n env [] (eval o env) ρ σ fun x σ₁ => WV prog w h₀ n env [] (eval i env) ρ σ₁ fun k σ₂ => ∃ a, LGet prog w h₀ x k σ₂ (.int a) ∧
      WV prog w h₀ n env [] (eval value env) ρ σ₂ fun v σ₃ => ∃ b, v = .int b ∧ LSet prog w h₀ x k (.int (a + b)) σ₃ fun σ₄ => Q .next ρ σ₄)
    (ha : ∀ ov iv new, augStore i ov iv new = (do holding [new, ov, iv] (setItem ov iv new); release [new, ov, iv] []; pure .next) := by intro _ _ _; rfl) :
    WS prog w h₀ n env (exec (.AugAssign (.Subscript o i pos') .Add value pos) env) ρ σ Q := fun A s ok S X hh =>
  wpAny_AugAssign_Subscript_any (WE.before h ok S X hh fun ov s₁ b σ₁ st₁ S₁ X₁ hh₁ r₁ q₁ =>
    WE.before (WE.more (H := [(ov, b)]) q₁) ok S₁ X₁ (hh₁.cons r₁) fun iv s₂ k σ₂ st₂ S₂ X₂ hh₂ r₂ q₂ => by
    obtain ⟨a, hg, q₂⟩ := q₂
    refine wpAny_mono (E := fun _ _ => False) (hg A s₂ ov iv (fun v s' => ∃ tk, s' = { s₂ with toks := tk } ∧ Is s₂.heap v (.int a)) (ok.mono (Nat.zero_le _)) S₂ (hh₂ _ (.head _)) r₂ fun v tk r => ⟨tk, rfl, r⟩).2 (fun old s' hx => ?_) fun _ _ e => e.elim
    obtain ⟨tk, rfl, ro⟩ := hx
    cases ro
    refine WE.before (WE.more (H := [(iv, k), (ov, b)]) q₂) (s := { s₂ with toks := tk }) ok S₂ X₂ (hh₂.cons r₂) fun v s₃ c σ₃ st₃ S₃ X₃ hh₃ r₃ q₃ => ?_
    obtain ⟨j, rfl, q₃⟩ := q₃
    cases r₃
    refine PyProof.Rows.iadd_int ?_
    refine WE.before (q₃ n env ρ [(.int (a + j) s₃.toks, .int (a + j)), (iv, k), (ov, b)] ov iv (.int (a + j) s₃.toks) (.tail _ (.tail _ (.head _))) (.tail _ (.head _)) (.head _)) (s := { s₃ with toks := s₃.toks + 1 }) ok S₃ X₃ (hh₃.cons (.int _ _)) fun u s₄ b4 σ₄ st₄ S₄ X₄ hh₄ r₄ q₄ => ?_
    exact Post.of (Stp.own (((st₁.andThen (noMod env) (st₂.tok tk) X₁).andThen (noMod env) (st₃.tok (s₃.toks + 1)) X₂).andThen (noMod env) st₄ X₃)) S₄ X₄ .next q₄) ha

/-- while -/
theorem ws_while {test : Expr} {body : List Stmt} {pos : Pos} (Inv : Nat → Loc → Store → Prop) (N : Nat) (h0 : Inv N ρ σ)
    (h : ∀ k ρ' σ', Inv k ρ' σ' → WB prog w h₀ n env [] (isTrue test env (eval test env)) ρ' σ' fun b σ₂ => if b then WS prog w h₀ n env (execs body env) ρ' σ₂ fun f ρ₃ σ₃ => match f with
        | .next | .cont => ∃ m ρ₄, m < k ∧ Sub ρ₄ ρ₃ ∧ Inv m ρ₄ σ₃
        | .brk => Q .next ρ₃ σ₃
        | .ret v => Q (.ret v) ρ₃ σ₃
      else Q .next ρ' σ₂) :
    WS prog w h₀ n env (exec (.While test body [] pos) env) ρ σ Q := fun A s ok S X hh => by
  refine wpAny_While (codeAny_whileLoop (fun k s' => ∃ ρ' σ', Stp (Own env) σ s σ' s' ∧ SRel prog w h₀ σ' s'.heap ∧ ERel h₀ env ρ' σ' s'.heap ∧ Inv k ρ' σ') ?_ N ⟨ρ, σ, .refl, S, X, h0⟩)
  rintro k s' ⟨ρ', σ', st, S', X', inv⟩
  refine WE.before (h k ρ' σ' inv) ok S' X' (H := []) (fun _ hp => by cases hp) fun v s₂ b σ₂ st₂ S₂ X₂ hh₂ r q => ?_
  subst r
  have st12 := st.andThen (ownMod env) (Stp.own st₂) X'
  cases v
  · exact wpAny_execs_nil (Post.of st12 S₂ X₂ .next q)
  · refine WP.go (ownMod env) q ok S₂ X₂ hh₂ fun f s₃ b ρ₃ σ₃ st₃ S₃ X₃ hh₃ r q => ?_
    have st13 := st12.andThen (ownMod env) st₃ X₂
    cases r with
    | next => obtain ⟨m, ρ₄, hm, hs, inv'⟩ := q; exact ⟨m, hm, ρ₄, σ₃, st13, S₃, X₃.forget hs, inv'⟩
    | cont => obtain ⟨m, ρ₄, hm, hs, inv'⟩ := q; exact ⟨m, hm, ρ₄, σ₃, st13, S₃, X₃.forget hs, inv'⟩
    | brk => exact Post.of st13 S₃ X₃ .next q
    | ret i => exact Post.of st13 S₃ X₃ (.ret i) q
end

end Mine
end

section
namespace Mine

/-- an iterator: its own objects, where it stands, what it hands out -/
structure ItOk (prog : Program) (w : World) (h₀ : Heap) (target : Expr) (it : Value) (own : Addr → Prop) (K : Nat → Heap → Prop) (Md : Nat → Value → Heap → Prop) (elem : Store → Nat → Option PV) (good : Store → Prop) : Prop where
  keep : ∀ i h h', K i h → (∀ a o, own a → h.get? a = some o → h'.get? a = some o) → K i h'
  live : ∀ i h a, K i h → own a → ∃ o, h.get? a = some o ∧ o.cls ≠ .type "tuple"
  item : ∀ i σ A s (Q : Option Value → Shared → Prop) x, good σ → Ok 0 A → SRel prog w h₀ σ s.heap → K i s.heap → elem σ i = some x →
    (∀ v h' tk, Pres own s.heap h' → Md i v h' → (TupKeep s.heap h' → Is h' v x) → Q (some v) { s with heap := h', toks := tk }) → wpAny (model prog w) A (pyNext it) Q (fun _ _ => False) s
  done : ∀ i σ A s (Q : Option Value → Shared → Prop), good σ → Ok 0 A → SRel prog w h₀ σ s.heap → K i s.heap → elem σ i = none →
    (∀ h' tk, Pres own s.heap h' → Q none { s with heap := h', toks := tk }) → wpAny (model prog w) A (pyNext it) Q (fun _ _ => False) s
  go : ∀ i v A s (Q : Unit → Shared → Prop), Md i v s.heap → (∀ h', K (i + 1) h' → Pres own s.heap h' → Q () { s with heap := h' }) → wpAny (model prog w) A (letOwnedTupleGo target it v) Q (fun _ _ => False) s
  midlive : ∀ i v h a, Md i v h → own a → ∃ o, h.get? a = some o ∧ o.cls ≠ .type "tuple"
  self : ∀ i A s (Q : Value → Shared → Prop), K i s.heap → Q it s → wpAny (model prog w) A (pyIter it) Q (fun _ _ => False) s

section
variable {prog : Program} {w : World} {h₀ : Heap} {α β γ δ : Type} {n : Nat} {Mod : Addr → Prop} {R : Heap → α → β → Prop} {env : Env} {H : List (Value × PV)} {ρ : Loc} {σ : Store}

/-- what is the iterator's own is nobody else's -/
structure Apart (h₀ : Heap) (env : Env) (own : Addr → Prop) (σ : Store) : Prop where
  old : ∀ a, own a → h₀.get? a = none
  free : ∀ a, own a → σ a = none
  frame : ∀ a, own a → ¬ Own env a
noncomputable def Elems := Store → Nat → Option PV
/-- an iterable -/
noncomputable def WIter (prog : Program) (w : World) (h₀ : Heap) (n : Nat) (env : Env) (target e : Expr) (ρ : Loc) (σ : Store) (Q : Elems → (Store → Prop) → Store → Prop) : Prop :=
  ∀ A s (Q' : Value → Shared → Prop), Ok n A → SRel prog w h₀ σ s.heap → ERel h₀ env ρ σ s.heap →
    (∀ it s₁ σ₁ own K Md elem good, Stp NoMod σ s σ₁ s₁ → SRel prog w h₀ σ₁ s₁.heap → ERel h₀ env ρ σ₁ s₁.heap → ItOk prog w h₀ target it own K Md elem good → K 0 s₁.heap →
      (∀ a, own a → s.heap.get? a = none ∨ Dom σ a) → Apart h₀ env own σ₁ → Q elem good σ₁ → Q' it s₁) →
    wpAny (model prog w) A (eval e env) (fun x s₁ => wpAny (model prog w) A (pyIter x) Q' (fun _ _ => False) s₁) (fun _ _ => False) s

/-- one object set of the iterator's turns -/
theorem ownStep {own : Addr → Prop} {s : Shared} {h' : Heap} (S : SRel prog w h₀ σ s.heap) (X : ERel h₀ env ρ σ s.heap) (hh : Held H s.heap) (ap : Apart h₀ env own σ) (live : ∀ a, own a → ∃ o, s.heap.get? a = some o ∧ o.cls ≠ .type "tuple") (p : Pres own s.heap h') :
    SRel prog w h₀ σ h' ∧ ERel h₀ env ρ σ h' ∧ Held H h' ∧ TupKeep s.heap h' ∧ ∀ tk, Stp own σ s σ { s with heap := h', toks := tk } := by
  have k : TupKeep s.heap h' := S.tupKeep p fun a d => .inr fun items m e => by
    obtain ⟨o, e1, e2⟩ := live a d
    rw [e] at e1; cases e1; exact e2 rfl
  refine ⟨⟨fun b ob e => p.2 b ob (fun f => by have := ap.old b f; rw [this] at e; cases e) (S.base b ob e), trivial, fun b o' e => (S.objs b o' e).keep k fun ob eo => p.2 b ob (fun f => by rw [ap.free b f] at e; cases e) eo, S.off⟩,
    X.step p k (fun f => ap.frame _ f (.inl rfl)) (fun q hq f => ap.frame _ f (.inr ⟨q, hq, rfl⟩)) (fun _ d => .inl d), hh.keep k, k, fun tk => ⟨⟨h', tk, rfl⟩, p.mono fun _ f => .inr f, fun _ d => .inl d⟩⟩

/-- a part, then a part with what it owns, as one -/
theorem Stp.join {Mod own : Addr → Prop} {σ σ₁ σ' : Store} {s s₁ s' : Shared} (x : Stp NoMod σ s σ₁ s₁) (y : Stp (fun a => Mod a ∨ own a) σ₁ s₁ σ' s') (fr : ∀ a, own a → s.heap.get? a = none ∨ Dom σ a) : Stp Mod σ s σ' s' := by
  refine ⟨?_, ⟨trivial, fun a o na ea => y.pres.2 a o (fun d => ?_) (x.pres.2 a o (fun d => d.elim (fun d => na (.inl d)) id) ea)⟩, fun a d => ?_⟩
  · obtain ⟨h1, tk1, e1⟩ := x.eq
    obtain ⟨h2, tk2, e2⟩ := y.eq
    exact ⟨h2, tk2, by rw [e2, e1]⟩
  · rcases d with d | d | d
    · rcases x.sub a d with d | d
      · exact na (.inl d)
      · rw [d] at ea; cases ea
    · exact na (.inr d)
    · rcases fr a d with e | e
      · rw [e] at ea; cases ea
      · exact na (.inl e)
  · rcases y.sub a d with d | d
    · exact x.sub a d
    · cases q2 : s.heap.get? a with
      | none => exact .inr rfl
      | some o =>
        by_cases hd : Dom σ a
        · exact .inl hd
        · have := x.pres.2 a o (fun h => h.elim hd id) q2
          rw [d] at this; cases this
/-- for -/
theorem ws_for {target iter : Expr} {body : List Stmt} {pos : Pos} {Q : PFlow → Loc → Store → Prop}
    (h : WIter prog w h₀ n env target iter ρ σ fun elem good σ₁ => ∃ (Inv : Nat → Loc → Store → Prop) (N : Nat), Inv 0 ρ σ₁ ∧ ∀ i ρ' σ', Inv i ρ' σ' → good σ' ∧ match elem σ' i with
      | none => Q .next ρ' σ'
      | some x => i < N ∧ WT prog w h₀ n (Own env) env target x ρ' σ' fun ρ₂ σ₂ => WS prog w h₀ n env (execs body env) ρ₂ σ₂ fun f ρ₃ σ₃ => match f with
        | .next | .cont => ∃ ρ₄, Sub ρ₄ ρ₃ ∧ Inv (i + 1) ρ₄ σ₃
        | .brk => Q .next ρ₃ σ₃
        | .ret v => Q (.ret v) ρ₃ σ₃)
    (hs : ∀ x, foldedSetIterable iter env x = pure x := by intro _; rfl) :
    WS prog w h₀ n env (exec (.For target iter body [] pos) env) ρ σ Q := fun A s ok S X hh => by
  refine wpAny_For (h A s _ ok S X fun it s₁ σ₁ own K Md elem good st₁ S₁ X₁ io k0 fr ap q => ?_) hs
  obtain ⟨Inv, N, i0, hstep⟩ := q
  -- at the end of all
  have fin : ∀ {ρ' : Loc} {σ' : Store} {s' : Shared} {R : Flow} {b : PFlow}, Stp (fun a => Own env a ∨ own a) σ₁ s₁ σ' s' → SRel prog w h₀ σ' s'.heap → ERel h₀ env ρ' σ' s'.heap → FlowIs s'.heap R b → Q b ρ' σ' → Post prog w h₀ (Own env) FlowIs env σ s Q R s' :=
    fun st S' X' r q => Post.of (st₁.join st fr) S' X' r q
  have al : ∀ {i : Nat} {ρ' : Loc} {σ' : Store} {s' : Shared}, K i s'.heap → ERel h₀ env ρ' σ' s'.heap → ∀ a o, (Own env a ∨ own a) → s₁.heap.get? a = some o → ∃ o, s'.heap.get? a = some o := fun hk X' a o ha _ => by
    rcases ha with ha | ha
    · exact X'.alive ha
    · obtain ⟨o, e, _⟩ := io.live _ _ a hk ha; exact ⟨o, e⟩
  refine codeAny_forLoop_any (I := fun k s' => ∃ i ρ' σ', k = N - i ∧ Stp (fun a => Own env a ∨ own a) σ₁ s₁ σ' s' ∧ SRel prog w h₀ σ' s'.heap ∧ ERel h₀ env ρ' σ' s'.heap ∧ K i s'.heap ∧ Apart h₀ env own σ' ∧ Inv i ρ' σ') ?_ _ ⟨0, ρ, σ₁, rfl, .refl, S₁, X₁, k0, ap, i0⟩
  rintro k s' ⟨i, ρ', σ', rfl, st, S', X', kk, ap', inv⟩
  obtain ⟨hg, hm⟩ := hstep i ρ' σ' inv
  have stp_own : ∀ {h' : Heap} {tk : Nat} {σ' : Store} {s' : Shared}, Stp own σ' s' σ' { s' with heap := h', toks := tk } → Stp (fun a => Own env a ∨ own a) σ' s' σ' { s' with heap := h', toks := tk } := fun x => x.mono fun _ f => .inr f
  cases he : elem σ' i with
  | none =>
    rw [he] at hm
    refine wpAny_mono (E := fun _ _ => False) (io.done i σ' A s' _ hg (ok.mono (Nat.zero_le _)) S' kk he fun h' tk p => ?_) (fun _ _ x => x) fun _ _ e => e.elim
    obtain ⟨S₂, X₂, _, _, st₂⟩ := ownStep S' X' (H := []) (fun _ hp => by cases hp) ap' (fun a ha => io.live i _ a kk ha) p
    exact wpAny_execs_nil (fin (st.trans (stp_own (st₂ tk)) (al kk X')) S₂ X₂ .next hm)
  | some x =>
    rw [he] at hm
    obtain ⟨hN, hm⟩ := hm
    refine wpAny_mono (E := fun _ _ => False) (io.item i σ' A s' _ x hg (ok.mono (Nat.zero_le _)) S' kk he fun v h' tk p md iv => ?_) (fun _ _ x => x) fun _ _ e => e.elim
    obtain ⟨S₂, X₂, _, k₂, st₂⟩ := ownStep S' X' (H := []) (fun _ hp => by cases hp) ap' (fun a ha => io.live i _ a kk ha) p
    have iv := iv k₂
    refine wpAny_mono (E := fun _ _ => False) (io.go i v A { s' with heap := h', toks := tk } _ md fun h3 k3 p3 => ?_) (fun _ _ x => x) fun _ _ e => e.elim
    obtain ⟨S₃, X₃, hh₃, k₃, st₃⟩ := ownStep (s := { s' with heap := h', toks := tk }) S₂ X₂ (H := [(v, x)]) (fun _ hp => by rw [List.mem_singleton.mp hp]; exact iv) ap' (fun a ha => io.midlive i v _ a md ha) p3
    have alm : ∀ a o, (Own env a ∨ own a) → s₁.heap.get? a = some o → ∃ o, h'.get? a = some o := fun a o ha _ => by
      rcases ha with ha | ha
      · exact X₂.alive ha
      · obtain ⟨o, e, _⟩ := io.midlive _ _ _ a md ha; exact ⟨o, e⟩
    have st13 := (st.trans (stp_own (st₂ tk)) (al kk X')).trans (stp_own (st₃ tk)) alm
    refine WP.go (ownMod env) (hm [(v, x)] v (.head _)) (s := { s' with heap := h3, toks := tk }) ok S₃ X₃ hh₃ fun u s₄ _ ρ₄ σ₄ st₄ S₄ X₄ hh₄ _ q₄ => ?_
    have kp : ∀ {s s' : Shared} {σ σ' : Store} {i : Nat}, Apart h₀ env own σ → Stp (Own env) σ s σ' s' → K i s.heap → K i s'.heap ∧ Apart h₀ env own σ' := fun {s s' σ σ' i} ap st kk => by
      refine ⟨io.keep i _ _ kk fun a o ha e => st.pres.2 a o (fun d => ?_) e, ap.old, fun a ha => ?_, ap.frame⟩
      · rcases d with ⟨o', e'⟩ | d
        · rw [ap.free a ha] at e'; cases e'
        · exact ap.frame a ha d
      · cases e : σ' a with
        | none => rfl
        | some o =>
          rcases st.sub a ⟨o, e⟩ with ⟨o', e'⟩ | e'
          · rw [ap.free a ha] at e'; cases e'
          · obtain ⟨ob, e2, _⟩ := io.live i _ a kk ha
            rw [e2] at e'; cases e'
    obtain ⟨k4, ap4⟩ := kp ap' st₄ k3
    have st14 := st13.trans (st₄.mono fun _ f => .inl f) (al k3 X₃)
    refine WP.go (ownMod env) q₄ ok S₄ X₄ (fun _ hp => by cases hp) fun f s₅ b ρ₅ σ₅ st₅ S₅ X₅ hh₅ r q₅ => ?_
    obtain ⟨k5, ap5⟩ := kp ap4 st₅ k4
    have st15 := st14.trans (st₅.mono fun _ f => .inl f) (al k4 X₄)
    cases r with
    | next => obtain ⟨ρ₆, hs, inv'⟩ := q₅; exact ⟨_, by omega, i + 1, ρ₆, σ₅, rfl, st15, S₅, X₅.forget hs, k5, ap5, inv'⟩
    | cont => obtain ⟨ρ₆, hs, inv'⟩ := q₅; exact ⟨_, by omega, i + 1, ρ₆, σ₅, rfl, st15, S₅, X₅.forget hs, k5, ap5, inv'⟩
    | brk => exact fin st15 S₅ X₅ .next q₅
    | ret iv => exact fin st15 S₅ X₅ (.ret iv) q₅
end

end Mine
end

section
namespace Mine

noncomputable def compIfs (ifs : List Expr) (env : Env) : Sem Bool := forIn ifs true fun c r => if r = true then do let ok ← isTrue c env (eval c env); pure (ForInStep.yield ok) else pure (ForInStep.yield r)
noncomputable def compIn (elt : Expr) (gens : List Comprehension) (scope : Scope) (pos : Pos) (d : Nat) (acc : Value) (env : Env) : Sem Unit :=
  match gens[d + 1]? with
  | some g' => do
        let x ← eval g'.iter env
        standAt g'.iter.pos
        let x ← foldedSetIterable g'.iter env x
        let it ← holding [x] (pyIter x)
        let _ ← runOwn (.compStart (.ListComp elt gens scope pos) (d + 1) it acc env) env
  | none => do let _ ← call (.builtin "list.append") [acc, ← eval elt env]
theorem compTurn_eq (elt : Expr) (gens : List Comprehension) (scope : Scope) (pos : Pos) (d : Nat) (it acc : Value) (env : Env) (target iter : Expr) (ifs : List Expr) (hg : gens[d]? = some ⟨target, iter, ifs, 0⟩) (ha : ∀ g ∈ gens, g.is_async = 0) :
    compTurn (.ListComp elt gens scope pos) d it acc env = (standAt iter.pos >>= fun _ => pyNext it >>= fun r => match r with
      | none => pure (.done .next)
      | some v => letOwnedTupleGo target it v >>= fun _ => assign target env v >>= fun _ => compIfs ifs env >>= fun ok =>
        (if ok then compIn elt gens scope pos d acc env else pure ()) >>= fun _ => again (.compLoop (.ListComp elt gens scope pos) d it acc env)) := by
  unfold compTurn
  simp only [hg]
  show (standAt iter.pos >>= fun _ => pyNext it >>= fun r => _) = _
  congr 1; funext _; congr 1; funext r
  cases r with
  | none => rfl
  | some v =>
    dsimp only
    congr 1; funext _; congr 1; funext _
    unfold compIfs compIn
    congr 1
    funext ok
    cases ok
    · rfl
    · simp only [if_true]
      cases q : gens[d+1]? with
      | none => simp
      | some g' => 
        have := ha g' (List.mem_of_getElem? q)
        simp [this]

theorem compTurn_eq2 (elt : Expr) (gens : List Comprehension) (scope : Scope) (pos : Pos) (d : Nat) (it acc : Value) (env : Env) (target iter : Expr) (ifs : List Expr) (hg : gens[d]? = some ⟨target, iter, ifs, 0⟩) (ha : ∀ g ∈ gens, g.is_async = 0) :
    compTurn (.ListComp elt gens scope pos) d it acc env = (standAt iter.pos >>= fun _ => pyNext it >>= fun r => match r with
      | none => pure (.done .next)
      | some v => letOwnedTupleGo target it v >>= fun _ => assign target env v >>= fun _ => (compIfs ifs env >>= fun ok =>
        if ok then compIn elt gens scope pos d acc env else pure ()) >>= fun _ => again (.compLoop (.ListComp elt gens scope pos) d it acc env)) := by
  rw [compTurn_eq _ _ _ _ _ _ _ _ _ _ _ hg ha]
  congr 1; funext _; congr 1; funext r
  cases r with
  | none => rfl
  | some v => simp only [bind_assoc]
section
variable {prog : Program} {w : World} {A : Around} {R : Result → Shared → Prop} {s : Shared}
theorem comp_loop {elt target iter : Expr} {ifs : List Expr} {gens : List Comprehension} {scope : Scope} {pos : Pos} {d : Nat} {it acc : Value} {env : Env} (hg : gens[d]? = some ⟨target, iter, ifs, 0⟩) (ha : ∀ g ∈ gens, g.is_async = 0) (I : Nat → Shared → Prop)
    (turn : ∀ k s, I k s → wpAny (model prog w) A (pyNext it) (fun r s₁ => match r with
      | none => R (.ok .next) s₁
      | some v => wpAny (model prog w) A (letOwnedTupleGo target it v) (fun _ s₂ => wpAny (model prog w) A (assign target env v) (fun _ s₃ => wpAny (model prog w) A (compIfs ifs env >>= fun ok => if ok then compIn elt gens scope pos d acc env else pure ()) (fun _ s₅ => ∃ m, m < k ∧ I m s₅) (fun _ _ => False) s₃) (fun _ _ => False) s₂) (fun _ _ => False) s₁) (fun _ _ => False) s)
    (k : Nat) (h : I k s) : codeAny (model prog w) A (.compLoop (.ListComp elt gens scope pos) d it acc env) R s := by
  refine codeAny_loop rfl I (fun n s hI => ?_) k h
  show wpAny _ _ ((compTurn (.ListComp elt gens scope pos) d it acc env).onRaise (fun x => do noteFrame x env; theTreesLotGoes x)) _ _ s
  refine wpAny_noted ?_
  rw [compTurn_eq2 _ _ _ _ _ _ _ _ _ _ _ hg ha]
  refine wpAny_bind (wpAny_standAt (wpAny_bind (wpAny_mono (turn n s hI) (fun r s₁ h₁ => ?_) fun _ _ h' => h'.elim)))
  cases r with
  | none => exact wpAny_pure h₁
  | some v =>
    exact wpAny_bind (wpAny_mono h₁ (fun _ s₂ h₂ => wpAny_bind (wpAny_mono h₂ (fun _ s₃ h₃ => wpAny_bind (wpAny_mono h₃ (fun _ s₅ h₅ => wpAny_pure ⟨rfl, h₅⟩) fun _ _ e => e.elim)) fun _ _ e => e.elim)) fun _ _ e => e.elim)
theorem comp_start {elt target iter : Expr} {ifs : List Expr} {gens : List Comprehension} {scope : Scope} {pos : Pos} {d : Nat} {it acc : Value} {env : Env} (hg : gens[d]? = some ⟨target, iter, ifs, 0⟩)
    (h0 : codeAny (model prog w) A (.compLoop (.ListComp elt gens scope pos) d it acc env) R s)
    (hi : ∀ A (Q : Value → Shared → Prop), Q it s → wpAny (model prog w) A (pyIter it) Q (fun _ _ => False) s) :
    codeAny (model prog w) A (.compStart (.ListComp elt gens scope pos) d it acc env) R s := by
  refine codeAny_of_tree ?_
  show wpAny _ _ ((compStart (.ListComp elt gens scope pos) d it acc env).onRaise (fun x => do noteFrame x env; standAt theWindowsPlace)) _ _ s
  refine wpAny_notedAt ?_
  unfold compStart
  have e1 : (clausesOf (.ListComp elt gens scope pos))[d]? = some ⟨target, iter, ifs, 0⟩ := hg
  simp only [e1]
  show wpAny _ _ (ask >>= _) _ _ s
  refine wpAny_bind (wpAny_askSetting (wpAny_ite ?_))
  split
  · first
      | exact wpAny_bind (wpAny_pure (wpAny_pure (And.intro rfl h0)))
      | exact wpAny_pure (And.intro rfl h0)
  · have hh : wpAny (model prog w) (A.under (.compStart (.ListComp elt gens scope pos) d it acc env)) (pyIter it) (fun it' s' => it' = it ∧ s' = s) (fun _ _ => False) s := hi _ _ ⟨rfl, rfl⟩
    first
      | exact wpAny_bind (wpAny_rule (wpAny_bind (wpAny_standAt (wpAny_bind (wpAny_mono hh (fun it' s' h' => by obtain ⟨rfl, rfl⟩ := h'; exact wpAny_pure (And.intro rfl h0)) fun _ _ x => x.elim)))))
      | (refine wpAny_bind (wpAny_rule ?_); exact wpAny_bind (wpAny_standAt (wpAny_bind (wpAny_mono hh (fun it' s' h' => by obtain ⟨rfl, rfl⟩ := h'; exact wpAny_pure (And.intro rfl h0)) fun _ _ x => x.elim))))
end

end Mine
end

section
namespace Mine

section
variable {prog : Program} {w : World} {h₀ : Heap} {α β γ δ : Type} {n : Nat} {Mod : Addr → Prop} {R : Heap → α → β → Prop} {env : Env} {H : List (Value × PV)} {ρ : Loc} {σ : Store}

theorem less_upd {σ : Store} {a : Addr} {o : MObj} (f : σ a = none) : Less σ (upd σ a o) := Less.upd_free f
/-- what is known of one object more is kept -/
theorem WE.frame {t : Sem α} {Y : β → Prop} {D : Addr} {o : MObj} (hD : σ D = none) (h : WE prog w h₀ n R env H t ρ σ fun b σ' => σ' = σ ∧ Y b) :
    WE prog w h₀ n R env H t ρ (upd σ D o) fun b σ' => σ' = upd σ D o ∧ Y b := fun A s ok S X hh => by
  refine WE.before h ok (S.less (less_upd hD)) (X.less (less_upd hD)) hh fun v s₁ b σ₁ st S₁ X₁ hh₁ r q => ?_
  obtain ⟨rfl, y⟩ := q
  have oD := S.objs D o (upd_same _ _ _)
  have nD : ¬ Dom σ₁ D := fun ⟨o', e⟩ => by rw [hD] at e; cases e
  have k := st.tupKeep (noMod env) (S.less (less_upd hD)) (X.less (less_upd hD))
  have oD' : Rep prog w s₁.heap D o := oD.keep k fun ob eo => st.pres.2 D ob (fun d => d.elim nD id) eo
  refine Post.of ⟨st.eq, st.pres.mono fun a d => d.imp (fun ⟨o', e⟩ => ⟨o', upd_old e hD⟩) id, fun a d => .inl d⟩ ⟨S₁.base, trivial, fun a o' e => ?_, fun a o' e => S.off a o' e⟩ ?_ r ⟨rfl, rfl, y⟩
  · by_cases ha : a = D
    · subst ha; rw [upd_same] at e; cases e; exact oD'
    · rw [upd_ne _ _ ha] at e; exact S₁.objs a o' e
  · have fr : ∀ a, σ₁ a = none → a ≠ D → upd σ₁ D o a = none := fun a e ne => by rw [upd_ne _ _ ne]; exact e
    have hL : env.locals ≠ D := fun e => by have := X.nsoff.2; rw [e, upd_same] at this; cases this
    exact ⟨X₁.kind, X₁.glob, X₁.bins, X₁.ns, ⟨X₁.nsoff.1, X.nsoff.2⟩, fun p hp => ⟨(X₁.cells p hp).1, (X₁.cells p hp).2.1, (X.cells p hp).2.2.1, (X₁.cells p hp).2.2.2⟩, X₁.apart, X₁.vars⟩
theorem WIter.frame {target e : Expr} {P : Elems → (Store → Prop) → Prop} {D : Addr} {o : MObj} (hD : σ D = none) (h : WIter prog w h₀ n env target e ρ σ fun elem good σ' => σ' = σ ∧ P elem good) :
    WIter prog w h₀ n env target e ρ (upd σ D o) fun elem good σ' => σ' = upd σ D o ∧ P elem good := fun A s Q' ok S X hQ => by
  refine h A s Q' ok (S.less (less_upd hD)) (X.less (less_upd hD)) fun it s₁ σ₁ own K Md elem good st S₁ X₁ io k0 fr ap q => ?_
  obtain ⟨rfl, y⟩ := q
  have oD := S.objs D o (upd_same _ _ _)
  have nD : ¬ Dom σ₁ D := fun ⟨o', e⟩ => by rw [hD] at e; cases e
  have k := st.tupKeep (noMod env) (S.less (less_upd hD)) (X.less (less_upd hD))
  have oD' : Rep prog w s₁.heap D o := oD.keep k fun ob eo => st.pres.2 D ob (fun d => d.elim nD id) eo
  refine hQ it s₁ (upd σ₁ D o) own K Md elem good ⟨st.eq, st.pres.mono fun a d => d.imp (fun ⟨o', e⟩ => ⟨o', upd_old e hD⟩) id, fun a d => .inl d⟩ ⟨S₁.base, trivial, fun a o' e => ?_, fun a o' e => S.off a o' e⟩
    ⟨X₁.kind, X₁.glob, X₁.bins, X₁.ns, ⟨X₁.nsoff.1, X.nsoff.2⟩, fun p hp => ⟨(X₁.cells p hp).1, (X₁.cells p hp).2.1, (X.cells p hp).2.2.1, (X₁.cells p hp).2.2.2⟩, X₁.apart, X₁.vars⟩ io k0 (fun a ha => (fr a ha).imp id fun ⟨o', e⟩ => ⟨o', upd_old e hD⟩) ⟨ap.old, fun a ha => ?_, ap.frame⟩ ⟨rfl, y⟩
  · by_cases ha : a = D
    · subst ha; rw [upd_same] at e; cases e; exact oD'
    · rw [upd_ne _ _ ha] at e; exact S₁.objs a o' e
  · have ne : a ≠ D := fun e => by
      obtain ⟨ob, e2, _⟩ := oD.get
      rcases fr a ha with e3 | ⟨o', e3⟩
      · rw [← e, e3] at e2; cases e2
      · rw [e, hD] at e3; cases e3
    rw [upd_ne _ _ ne]; exact ap.free a ha

/-- one turn's part: tests, then what is emitted -/
noncomputable def JEl (prog : Program) (w : World) (h₀ : Heap) (n : Nat) (Mod : Addr → Prop) (env : Env) (ifs : List Expr) (inner : Sem Unit) (ρ : Loc) (σ : Store) (D : Addr) (ys : List PV) : Prop :=
  ∀ acc, acc.length + ys.length ≤ 1000000 → WP prog w h₀ n Mod unitR env [] (compIfs ifs env >>= fun ok => if ok then inner else pure ()) ρ (upd σ D (.lst acc)) fun _ ρ' σ' => Sub ρ ρ' ∧ σ' = upd σ D (.lst (acc ++ ys))

/-- the loop of one clause -/
theorem comp_code {elt target iter : Expr} {ifs : List Expr} {gens : List Comprehension} {scope : Scope} {pos : Pos} {d : Nat} {it : Value} {D : Addr} {own : Addr → Prop} {K : Nat → Heap → Prop} {Md : Nat → Value → Heap → Prop} {elem : Elems} {good : Store → Prop} {items : List PV} {g : PV → List PV} {acc₀ : List PV}
    {A : Around} {s : Shared} {RR : Result → Shared → Prop} (hg : gens[d]? = some ⟨target, iter, ifs, 0⟩) (ha : ∀ g ∈ gens, g.is_async = 0) (hM : NoTup Mod env) (hlen : (acc₀ ++ items.flatMap g).length ≤ 1000000)
    (ok : Ok n A) (S : SRel prog w h₀ (upd σ D (.lst acc₀)) s.heap) (X : ERel h₀ env ρ (upd σ D (.lst acc₀)) s.heap) (io : ItOk prog w h₀ target it own K Md elem good) (k0 : K 0 s.heap) (ap : Apart h₀ env own (upd σ D (.lst acc₀)))
    (hel : ∀ acc, good (upd σ D (.lst acc)) ∧ ∀ i, elem (upd σ D (.lst acc)) i = items[i]?)
    (hb : ∀ x ∈ items, ∀ acc, WT prog w h₀ n Mod env target x ρ (upd σ D (.lst acc)) fun ρ₂ σ₂ => Sub ρ ρ₂ ∧ σ₂ = upd σ D (.lst acc) ∧ JEl prog w h₀ n Mod env ifs (compIn elt gens scope pos d (.ref D) env) ρ₂ σ D (g x))
    (hR : ∀ s' ρ', Stp (fun a => Mod a ∨ own a) (upd σ D (.lst acc₀)) s (upd σ D (.lst (acc₀ ++ items.flatMap g))) s' → SRel prog w h₀ (upd σ D (.lst (acc₀ ++ items.flatMap g))) s'.heap → ERel h₀ env ρ' (upd σ D (.lst (acc₀ ++ items.flatMap g))) s'.heap → Sub ρ ρ' → RR (.ok .next) s') :
    codeAny (model prog w) A (.compLoop (.ListComp elt gens scope pos) d it (.ref D) env) RR s := by
  have hfree : ∀ acc acc' a, (upd σ D (.lst acc)) a = none → (upd σ D (.lst acc')) a = none := fun acc acc' a e => by
    by_cases h : a = D
    · subst h; rw [upd_same] at e; cases e
    · rw [upd_ne _ _ h] at e ⊢; exact e
  have al : ∀ {i : Nat} {ρ' : Loc} {σ' : Store} {s' : Shared}, K i s'.heap → ERel h₀ env ρ' σ' s'.heap → ∀ a o, (Mod a ∨ own a) → s.heap.get? a = some o → ∃ o, s'.heap.get? a = some o := fun hk X' a o ha _ => by
    rcases ha with ha | ha
    · exact X'.alive (hM _ ha)
    · obtain ⟨o, e, _⟩ := io.live _ _ a hk ha; exact ⟨o, e⟩
  refine comp_loop hg ha (I := fun k s' => ∃ i, k = items.length - i ∧ i ≤ items.length ∧ Stp (fun a => Mod a ∨ own a) (upd σ D (.lst acc₀)) s (upd σ D (.lst (acc₀ ++ (items.take i).flatMap g))) s' ∧
    SRel prog w h₀ (upd σ D (.lst (acc₀ ++ (items.take i).flatMap g))) s'.heap ∧ ERel h₀ env ρ (upd σ D (.lst (acc₀ ++ (items.take i).flatMap g))) s'.heap ∧ K i s'.heap) ?_ _ ⟨0, rfl, Nat.zero_le _, by simpa using Stp.refl, by simpa using S, by simpa using X, k0⟩
  rintro k s' ⟨i, rfl, hi, st, S', X', kk⟩
  obtain ⟨hgood, hel'⟩ := hel (acc₀ ++ (items.take i).flatMap g)
  have ap' : Apart h₀ env own (upd σ D (.lst (acc₀ ++ (items.take i).flatMap g))) := ⟨ap.old, fun a h => hfree _ _ a (ap.free a h), ap.frame⟩
  have stp_own : ∀ {h' : Heap} {tk : Nat} {σ' : Store} {s' : Shared}, Stp own σ' s' σ' { s' with heap := h', toks := tk } → Stp (fun a => Mod a ∨ own a) σ' s' σ' { s' with heap := h', toks := tk } := fun x => x.mono fun _ f => .inr f
  cases he : items[i]? with
  | none =>
    refine io.done i _ A s' _ hgood (ok.mono (Nat.zero_le _)) S' kk ((hel' i).trans he) fun h' tk p => ?_
    obtain ⟨S₂, X₂, _, _, st₂⟩ := ownStep S' X' (H := []) (fun _ hp => by cases hp) ap' (fun a ha => io.live i _ a kk ha) p
    have e : items.take i = items := List.take_of_length_le (by simpa using he)
    rw [e] at S₂ X₂ st₂ st S' X'
    exact hR _ ρ (st.trans (stp_own (st₂ tk)) (al kk X')) S₂ X₂ (Sub.refl _)
  | some x =>
    obtain ⟨hlt, hx⟩ := List.getElem?_eq_some_iff.mp he
    refine io.item i _ A s' _ x hgood (ok.mono (Nat.zero_le _)) S' kk ((hel' i).trans he) fun v h' tk p md iv => ?_
    obtain ⟨S₂, X₂, _, k₂, st₂⟩ := ownStep S' X' (H := []) (fun _ hp => by cases hp) ap' (fun a ha => io.live i _ a kk ha) p
    have iv := iv k₂
    refine io.go i v A { s' with heap := h', toks := tk } _ md fun h3 k3 p3 => ?_
    obtain ⟨S₃, X₃, hh₃, k₃, st₃⟩ := ownStep (s := { s' with heap := h', toks := tk }) S₂ X₂ (H := [(v, x)]) (fun _ hp => by rw [List.mem_singleton.mp hp]; exact iv) ap' (fun a ha => io.midlive i v _ a md ha) p3
    have alm : ∀ a o, (Mod a ∨ own a) → s.heap.get? a = some o → ∃ o, h'.get? a = some o := fun a o ha _ => by
      rcases ha with ha | ha
      · exact X₂.alive (hM _ ha)
      · obtain ⟨o, e, _⟩ := io.midlive _ _ _ a md ha; exact ⟨o, e⟩
    have st13 := (st.trans (stp_own (st₂ tk)) (al kk X')).trans (stp_own (st₃ tk)) alm
    have kp : ∀ {s s' : Shared} {acc acc' : List PV} {i : Nat}, Apart h₀ env own (upd σ D (.lst acc)) → Stp Mod (upd σ D (.lst acc)) s (upd σ D (.lst acc')) s' → K i s.heap → K i s'.heap := fun {s s' acc acc' i} ap st kk =>
      io.keep i _ _ kk fun a o ha e => st.pres.2 a o (fun d => by
        rcases d with ⟨o', e'⟩ | d
        · rw [ap.free a ha] at e'; cases e'
        · exact ap.frame a ha (hM _ d)) e
    have hbx := hb x (List.mem_of_getElem? he) (acc₀ ++ (items.take i).flatMap g)
    refine WP.go hM (hbx [(v, x)] v (.head _)) (s := { s' with heap := h3, toks := tk }) ok S₃ X₃ hh₃ fun u s₄ _ ρ₄ σ₄ st₄ S₄ X₄ hh₄ _ q₄ => ?_
    obtain ⟨sub4, rfl, je⟩ := q₄
    have k4 := kp ap' st₄ k3
    have st14 := st13.trans (st₄.mono fun _ f => .inl f) (al k3 X₃)
    -- tests and emission as one tree
    have hl5 : (acc₀ ++ (items.take i).flatMap g).length + (g x).length ≤ 1000000 := by
      refine Nat.le_trans ?_ hlen
      have e : (acc₀ ++ (items.take i).flatMap g).length + (g x).length = (acc₀ ++ (items.take (i + 1)).flatMap g).length := by
        rw [List.take_add_one, he]; simp [List.flatMap_append]; (first | lia | omega)
      rw [e]
      have e2 : items.flatMap g = (items.take (i + 1)).flatMap g ++ (items.drop (i + 1)).flatMap g := by rw [← List.flatMap_append, List.take_append_drop]
      rw [e2]; simp only [List.length_append]; (first | lia | omega)
    have w5 := je (acc₀ ++ (items.take i).flatMap g) hl5 A s₄ ok S₄ X₄ (fun _ hp => by cases hp)
    exact wpAny_mono w5 (fun u s₅ x5 => by
        obtain ⟨b, ρ₅, σ₅, st₅, S₅, X₅, r₅, hs5, rfl⟩ := x5.stp
        have e : (acc₀ ++ (items.take i).flatMap g) ++ g x = acc₀ ++ (items.take (i + 1)).flatMap g := by
          rw [List.take_add_one, he]; simp [List.flatMap_append]
        rw [e] at st₅ S₅ X₅
        have k5 := kp ap' st₅ k4
        have st15 := st14.trans (st₅.mono fun _ f => .inl f) (al k4 X₄)
        exact ⟨_, by (first | lia | omega), i + 1, rfl, hlt, st15, S₅, X₅.forget fun y u e => hs5 y u (sub4 y u e), k5⟩) fun _ _ e => e
end

end Mine
end

section
namespace Mine

noncomputable def OnlyLoc (env : Env) : Addr → Prop := fun a => a = env.locals
theorem onlyLoc (env : Env) : NoTup (OnlyLoc env) env := fun _ h => .inl h
theorem storL {env : Env} {x : Str} (h : env.kindOf x = some .local) : StorM (OnlyLoc env) env x := .inl ⟨h, rfl⟩

section
variable {prog : Program} {w : World} {h₀ : Heap} {n : Nat} {Mod : Addr → Prop} {env : Env} {H : List (Value × PV)} {ρ : Loc} {σ : Store}

theorem compIfs_nil {M : Model} {A : Around} {E : Value → Shared → Prop} {s : Shared} {inner : Sem Unit} {Q : Unit → Shared → Prop} (h : wpAny M A inner Q E s) : wpAny M A (compIfs [] env >>= fun ok => if ok then inner else pure ()) Q E s := by
  show wpAny M A (pure true >>= fun ok => if ok then inner else pure ()) Q E s
  exact wpAny_bind (wpAny_pure h)
theorem compIfs_one {M : Model} {A : Around} {E : Value → Shared → Prop} {s : Shared} {c : Expr} {inner : Sem Unit} {Q : Unit → Shared → Prop}
    (h : wpAny M A (isTrue c env (eval c env)) (fun b s₁ => if b then wpAny M A inner Q E s₁ else Q () s₁) E s) : wpAny M A (compIfs [c] env >>= fun ok => if ok then inner else pure ()) Q E s := by
  have e : compIfs [c] env = isTrue c env (eval c env) := by
    unfold compIfs
    simp [List.forIn_cons]
  rw [e]
  refine wpAny_bind (wpAny_mono h (fun b s₁ h₁ => ?_) fun _ _ x => x)
  cases b
  · exact wpAny_pure h₁
  · exact h₁

variable {elt : Expr} {gens : List Comprehension} {scope : Scope} {pos : Pos} {d : Nat} {D : Addr} {ys : List PV}
/-- the end of the clauses: the element is appended -/
theorem jel_emit (hM : NoTup Mod env) (hD : σ D = none) (hg : gens[d + 1]? = none) (h : WV prog w h₀ n env [] (eval elt env) ρ σ fun y σ' => σ' = σ ∧ ys = [y]) : JEl prog w h₀ n Mod env [] (compIn elt gens scope pos d (.ref D) env) ρ σ D ys := fun acc hl A s ok S X hh => by
  refine compIfs_nil ?_
  unfold compIn
  rw [hg]
  show wpAny _ _ (eval elt env >>= fun y => call (.builtin "list.append") [.ref D, y] >>= fun _ => pure ()) _ _ _
  refine wpAny_bind (WE.before (WE.frame (o := .lst acc) hD h) ok S X hh fun v s₁ y σ₁ st S₁ X₁ hh₁ r q => ?_)
  obtain ⟨rfl, rfl⟩ := q
  obtain ⟨ws, k, il, i1⟩ := S₁.objs D _ (upd_same _ _ _)
  have hl' := i1.length
  simp only [List.length_singleton] at hl
  refine wpAny_bind (call_meets F.slot_list_append ⟨_, il, rfl⟩ F.entry_list_append (F.args_list_append_2 _ _) (list_append D ws.toArray k v (by simp; unfold sizeLine; (first | lia | omega))) ⟨il, ?_⟩)
  refine wpAny_pure ?_
  have hu := IsL.update il (fun xs => xs.push v)
  have e1 : ws.toArray.push v = (ws ++ [v]).toArray := by simp
  rw [e1] at hu
  have kp : TupKeep s₁.heap (s₁.heap.update D (Obj.mapSeq fun xs => xs.push v)) := S₁.tupKeep (update_same _) fun c hc => .inl (by subst hc; exact ⟨_, upd_same _ _ _⟩)
  obtain ⟨S₂, X₂, hh₂, tr₂⟩ := turnStep (γ := Value) (δ := PV) (R' := Is) (o' := .lst (acc ++ [y])) S₁ X₁ hh₁ (upd_same σ D (.lst acc)) (update_same _) ⟨ws ++ [v], _, hu, (i1.keep kp).snoc (r.keep kp)⟩
  rw [upd_upd] at S₂ X₂
  have st2 : Stp Mod (upd σ D (.lst acc)) s₁ (upd σ D (.lst (acc ++ [y]))) { s₁ with heap := s₁.heap.update D (Obj.mapSeq fun xs => xs.push v) } :=
    ⟨⟨_, _, rfl⟩, (update_same _).mono fun c hc => .inl (by subst hc; exact ⟨_, upd_same _ _ _⟩), fun a ⟨o, e⟩ => .inl (by
      by_cases ha : a = D
      · subst ha; exact ⟨_, upd_same _ _ _⟩
      · rw [upd_ne _ _ ha] at e; exact ⟨o, by rw [upd_ne _ _ ha]; exact e⟩)⟩
  exact Post.of (b := ()) ((st.mono fun _ f => f.elim).andThen hM st2 X₁) S₂ X₂ trivial ⟨Sub.refl _, rfl⟩
/-- one test -/
theorem jel_if {c : Expr} {inner : Sem Unit} (hM : NoTup Mod env) (hD : σ D = none) (h : WB prog w h₀ n env [] (isTrue c env (eval c env)) ρ σ fun b σ' => σ' = σ ∧ if b then JEl prog w h₀ n Mod env [] inner ρ σ D ys else ys = []) : JEl prog w h₀ n Mod env [c] inner ρ σ D ys := fun acc hl A s ok S X hh => by
  refine compIfs_one (WE.before (WE.frame (o := .lst acc) hD h) ok S X hh fun v s₁ b σ₁ st S₁ X₁ hh₁ r q => ?_)
  subst r
  obtain ⟨rfl, q⟩ := q
  cases v
  · simp only [Bool.false_eq_true, if_false] at q ⊢
    subst q
    exact Post.of (b := ()) (st.mono fun _ f => f.elim) S₁ X₁ trivial ⟨Sub.refl _, by simp⟩
  · simp only [if_true] at q ⊢
    have e : (compIfs [] env >>= fun ok => if ok then inner else pure ()) = inner := by
      show (pure true >>= fun ok => if ok then inner else pure ()) = inner
      simp
    have := q acc hl A s₁ ok S₁ X₁ hh₁
    rw [e] at this
    refine wpAny_mono this (fun u s₂ x => ?_) fun _ _ e => e
    obtain ⟨b, ρ₂, σ₂, st₂, S₂, X₂, r₂, q₂⟩ := x.stp
    exact Post.of ((st.mono fun _ f => f.elim).andThen hM st₂ X₁) S₂ X₂ r₂ q₂
/-- the spec of one clause: the items, what each gives -/
noncomputable def ClauseOk (prog : Program) (w : World) (h₀ : Heap) (n : Nat) (Mod : Addr → Prop) (env : Env) (target : Expr) (ifs : List Expr) (inner : Sem Unit) (ρ : Loc) (σ : Store) (D : Addr) (x : PV) (ys : List PV) : Prop :=
  ∃ ρ₂, (∀ σ, WT prog w h₀ n Mod env target x ρ σ fun ρ' σ' => ρ' = ρ₂ ∧ σ' = σ) ∧ Sub ρ ρ₂ ∧ JEl prog w h₀ n Mod env ifs inner ρ₂ σ D ys
/-- a clause within a clause -/
theorem jel_nest {target iter : Expr} {ifs : List Expr} (hM : NoTup Mod env) (hD : σ D = none) (hg : gens[d + 1]? = some ⟨target, iter, ifs, 0⟩) (ha : ∀ g ∈ gens, g.is_async = 0)
    (h : WIter prog w h₀ n env target iter ρ σ fun elem good σ' => σ' = σ ∧ ∃ (items : List PV) (g : PV → List PV), (∀ σ', Less σ σ' → good σ' ∧ ∀ i, elem σ' i = items[i]?) ∧
      (∀ x ∈ items, ClauseOk prog w h₀ n Mod env target ifs (compIn elt gens scope pos (d + 1) (.ref D) env) ρ σ D x (g x)) ∧ ys = items.flatMap g)
    (hs : ∀ x, foldedSetIterable iter env x = pure x := by intro _; rfl) :
    JEl prog w h₀ n Mod env [] (compIn elt gens scope pos d (.ref D) env) ρ σ D ys := fun acc hl A s ok S X hh => by
  refine compIfs_nil ?_
  unfold compIn
  rw [hg]
  show wpAny _ _ (eval iter env >>= fun x => standAt iter.pos >>= fun _ => foldedSetIterable iter env x >>= fun x => holding [x] (pyIter x) >>= fun it => runOwn (.compStart (.ListComp elt gens scope pos) (d + 1) it (.ref D) env) env >>= fun _ => pure ()) _ _ _
  refine wpAny_bind (wpAny_mono (WIter.frame (o := .lst acc) hD h A s _ ok S X fun it s₁ σ₁ own K Md elem good st₁ S₁ X₁ io k0 fr ap q => ?_) (fun x s₁ h₁ => wpAny_bind (wpAny_standAt (wpAny_bind (wpAny_of_eq (hs x) (wpAny_bind (wpAny_holding (wpAny_mono h₁ (fun it s₂ h₂ => h₂) fun _ _ e => e))))))) fun _ _ e => e)
  obtain ⟨rfl, items, g, hel, hb, rfl⟩ := q
  refine wpAny_bind (wpAny_runOwn ?_)
  have lss : ∀ acc : List PV, Less σ (upd σ D (.lst acc)) := fun acc => Less.upd_free hD
  have ok' : Ok n (A.mark none) := ok
  refine comp_start hg (comp_code (g := g) (items := items) hg ha hM (by simp only [List.length_append]; exact hl) ok' S₁ X₁ io k0 ap (fun acc => hel _ (lss acc)) (fun x hx acc => ?_) fun s' ρ' st' S' X' hsub => ?_) (fun A Q hQ => io.self 0 A s₁ Q k0 hQ)
  · obtain ⟨ρ₂, h1, h2, h3⟩ := hb x hx
    intro H v hv
    exact WP.mono (h1 (upd σ D (.lst acc)) H v hv) fun _ ρ' σ' ⟨e1, e2⟩ => by subst e1; subst e2; exact ⟨h2, rfl, h3⟩
  · show wpAny _ _ (pure ()) _ _ _
    refine wpAny_pure ?_
    refine Post.of (b := ()) ?_ S' X' trivial ⟨hsub, rfl⟩
    obtain ⟨⟨h1, tk1, rfl⟩, p1, sub1⟩ := st₁
    obtain ⟨⟨h2, tk2, rfl⟩, p2, sub2⟩ := st'
    refine ⟨⟨h2, tk2, rfl⟩, ⟨trivial, fun a o na ea => ?_⟩, fun a d => ?_⟩
    · have e1 := p1.2 a o (fun d => d.elim (fun d => na (.inl d)) id) ea
      refine p2.2 a o (fun d => ?_) e1
      rcases d with d | d | d
      · rcases sub1 a d with d | d
        · exact na (.inl d)
        · rw [d] at ea; cases ea
      · exact na (.inr d)
      · rcases fr a d with e | e
        · rw [e] at ea; cases ea
        · exact na (.inl e)
    · obtain ⟨o, e⟩ := d
      by_cases hda : a = D
      · subst hda; exact .inl ⟨_, upd_same _ _ _⟩
      · rw [upd_ne _ _ hda] at e; exact .inl ⟨o, by rw [upd_ne _ _ hda]; exact e⟩

/-- what a comprehension leaves behind -/
theorem comp_tail {own Md : Addr → Prop} {σ₁ : Store} {h0 h1 H3 h₁ h5 : Heap} {D : Addr} {zs : List PV}
    (S₁ : SRel prog w h₀ σ₁ h1) (X₁ : ERel h₀ env ρ σ₁ h1) (ap : Apart h₀ env own σ₁) (p1 : Pres (fun a => Dom σ a ∨ NoMod a) h0 h1) (sub1 : ∀ a, Dom σ₁ a → Dom σ a ∨ h0.get? a = none)
    (p2 : Pres NoMod h1 H3) (p3 : Pres NoMod H3 h₁) (p5 : Pres (fun a => Dom (upd σ₁ D (.lst [])) a ∨ Md a ∨ own a) h₁ h5) (hMd : ∀ a, Md a → H3.get? a = none)
    (hDn : h1.get? D = none) (live : ∀ a, own a → ∃ o, h1.get? a = some o ∧ o.cls ≠ .type "tuple")
    (fr : ∀ a, own a → h0.get? a = none ∨ Dom σ a) :
    ERel h₀ env ρ (upd σ₁ D (.lst zs)) h5 ∧ Pres (fun a => Dom σ a ∨ NoMod a) h0 h5 ∧ ∀ a, Dom (upd σ₁ D (.lst zs)) a → Dom σ a ∨ h0.get? a = none := by
  have keep1 : ∀ a o, a ≠ D → ¬ Dom σ₁ a → ¬ own a → h1.get? a = some o → h5.get? a = some o := fun a o neD nd no e1 => by
    have e3 : H3.get? a = some o := p2.2 a o (fun f => f) e1
    refine p5.2 a o (fun d => ?_) (p3.2 a o (fun f => f) e3)
    rcases d with ⟨o', e'⟩ | d | d
    · rw [upd_ne _ _ neD] at e'; exact nd ⟨o', e'⟩
    · rw [hMd a d] at e3; cases e3
    · exact no d
  have neD : ∀ a o, h1.get? a = some o → a ≠ D := fun a o e q => by rw [q, hDn] at e; cases e
  have keepAll : ∀ a o, ¬ Dom σ a → h0.get? a = some o → h5.get? a = some o := fun a o na ea => by
    have e1 : h1.get? a = some o := p1.2 a o (fun d => d.elim na id) ea
    refine keep1 a o (neD a o e1) (fun d => ?_) (fun d => ?_) e1
    · rcases sub1 a d with d | d
      · exact na d
      · rw [d] at ea; cases ea
    · rcases fr a d with e | e
      · rw [e] at ea; cases ea
      · exact na e
  have kt : TupKeep h1 h5 := fun b its m e => keep1 b _ (neD b _ e) (fun ⟨o, e'⟩ => by
    obtain ⟨ob, e2, e3⟩ := (S₁.objs b o e').get
    rw [show h1.get? b = some _ from e] at e2; cases e2; exact e3 rfl) (fun ho => by
    obtain ⟨ob, e2, e3⟩ := live b ho
    rw [show h1.get? b = some _ from e] at e2; cases e2; exact e3 rfl) e
  have pX : Pres (fun a => Dom σ₁ a ∨ own a) h1 h5 := ⟨trivial, fun a o na e => keep1 a o (neD a o e) (fun d => na (.inl d)) (fun d => na (.inr d)) e⟩
  refine ⟨X₁.step pX kt (fun d => d.elim (fun ⟨o, e⟩ => by have := X₁.nsoff.2; rw [e] at this; cases this) fun d => ap.frame _ d (.inl rfl))
    (fun q hq d => d.elim (fun ⟨o, e⟩ => by have := (X₁.cells q hq).2.2.1; rw [e] at this; cases this) fun d => ap.frame _ d (.inr ⟨q, hq, rfl⟩)) (fun a ⟨o, e⟩ => by
      by_cases ha : a = D
      · subst ha; exact .inr hDn
      · rw [upd_ne _ _ ha] at e; exact .inl ⟨o, e⟩), ⟨trivial, fun a o na ea => keepAll a o (fun d => na (.inl d)) ea⟩, fun a ⟨o, e⟩ => ?_⟩
  by_cases ha : a = D
  · subst ha
    cases q : h0.get? a with
    | none => exact .inr rfl
    | some ob =>
      by_cases hd : Dom σ a
      · exact .inl hd
      · have := p1.2 a ob (fun d => d.elim hd id) q
        rw [hDn] at this; cases this
  · rw [upd_ne _ _ ha] at e; exact sub1 a ⟨o, e⟩
theorem cells_apart {cl cs : List (Str × Addr)} (hcl : ∀ p ∈ cl, p ∈ cs) (hn : (cl.map (·.1)).Nodup) (hp : cs.Pairwise fun x y => x.2 ≠ y.2) : cl.Pairwise fun x y => x.2 ≠ y.2 :=
  List.Pairwise.imp_of_mem (fun {a b} ha hb (h : a.1 ≠ b.1) => pairwise_ne hp (hcl _ ha) (hcl _ hb) fun e => h (congrArg Prod.fst e)) (List.pairwise_map.mp hn)
/-- the names that a comprehension takes from around it -/
structure CapOk (env : Env) (scope : Scope) (cl : List (Str × Addr)) (C : Addr) (ρ ρc : Loc) : Prop where
  names : ∀ x v, ρc.lookup x = some v → ρ.lookup x = some v ∧ (env.kindOf x = some .cell ∨ env.kindOf x = some .free) ∧ ((compEnvC scope cl C env).kindOf x = some .cell ∨ (compEnvC scope cl C env).kindOf x = some .free) ∧ ∃ c, env.cells.lookup x = some c ∧ cl.lookup x = some c
/-- the comprehension's own frame, let go -/
theorem offStep {C : Addr} {mC : Str → Option Value} {h h' : Heap} (S : SRel prog w h₀ σ h) (X : ERel h₀ env ρ σ h) (ap : Apart h₀ env (· = C) σ) (hn : h.Ns C mC) (hsb : Heap.SameBut C h h') : SRel prog w h₀ σ h' ∧ ERel h₀ env ρ σ h' := by
  have p : Pres (· = C) h h' := Pres.same Pres.refl hsb (.inl rfl)
  have k : TupKeep h h' := fun b its m e => (hsb.2 b (fun q => by
    obtain ⟨ob, es, ep, q1, q2, _⟩ := hn
    rw [← q, show h.get? b = some _ from e] at q1; cases q1; cases q2)).trans e
  exact ⟨⟨fun b ob e => p.2 b ob (fun f => by have := ap.old b f; rw [this] at e; cases e) (S.base b ob e), trivial, fun b o' e => (S.objs b o' e).keep k fun ob eo => p.2 b ob (fun f => by rw [ap.free b f] at e; cases e) eo, S.off⟩,
    X.step p k (fun f => ap.frame _ f (.inl rfl)) (fun q hq f => ap.frame _ f (.inr ⟨q, hq, rfl⟩)) (fun _ d => .inl d)⟩
theorem stp_off {Mod : Addr → Prop} {s s' : Shared} {σ₁ : Store} {C : Addr} {h' : Heap} (st : Stp Mod σ s σ₁ s') (hCs : ¬ Dom σ C → s.heap.get? C = none) (hsb : Heap.SameBut C s'.heap h') : Stp Mod σ s σ₁ { s' with heap := h' } := by
  obtain ⟨⟨h1, tk1, rfl⟩, p, sub⟩ := st
  refine ⟨⟨h', tk1, rfl⟩, ⟨trivial, fun a o na ea => (hsb.2 a fun q => ?_).trans (p.2 a o na ea)⟩, sub⟩
  rw [q] at ea na
  rw [hCs fun d => na (.inl d)] at ea; cases ea
/-- what a list comprehension asks -/
noncomputable def CompAsk (prog : Program) (w : World) (h₀ : Heap) (n : Nat) (env : Env) (elt target iter : Expr) (ifs : List Expr) (gens : List Comprehension) (scope : Scope) (pos : Pos) (cl : List (Str × Addr)) (ρc ρ : Loc) (σ : Store) (Q : Addr → Store → Prop) : Prop :=
  WIter prog w h₀ n env target iter ρ σ fun elem good σ₁ => ∃ (items : List PV) (g : PV → List PV), (∀ σ', Less σ₁ σ' → good σ' ∧ ∀ i, elem σ' i = items[i]?) ∧ (items.flatMap g).length ≤ 1000000 ∧
      (∀ C D, σ₁ D = none → ∀ x ∈ items, ClauseOk prog w h₀ n (OnlyLoc (compEnvC scope cl C env)) (compEnvC scope cl C env) target ifs (compIn elt gens scope pos 0 (.ref D) (compEnvC scope cl C env)) ρc σ₁ D x (g x)) ∧
      ∀ D, σ₁ D = none → Q D (upd σ₁ D (.lst (items.flatMap g)))
/-- a list comprehension, up to its frame's end -/
theorem comp_run {target iter : Expr} {ifs : List Expr} {rest : List Comprehension} {cl : List (Str × Addr)} {ρc : Loc} (hgens : gens = ⟨target, iter, ifs, 0⟩ :: rest) (ha : ∀ g ∈ gens, g.is_async = 0)
    (hclos : closureFor scope env = pure cl) (hkind : scope.kind = .function) (hcell : ∀ y ∈ scope.names, y.2 ≠ .cell) (hnames : ∀ y ∈ scope.names, y.2 = .local → scope.names.lookup y.1 = some .local)
    (hcl : ∀ p ∈ cl, p ∈ env.cells) (hclp : (cl.map (·.1)).Nodup) (hcap : ∀ C, CapOk env scope cl C ρ ρc) {use : Option (Value → Sem Unit)} {A : Around} {s : Shared} {QU : Value → Shared → Prop} (ok : Ok n A) (S : SRel prog w h₀ σ s.heap) (X : ERel h₀ env ρ σ s.heap) {QA : Addr → Store → Prop}
    (h : CompAsk prog w h₀ n env elt target iter ifs gens scope pos cl ρc ρ σ QA)
    (fin : ∀ D C s' mC σ', QA D σ' → Stp NoMod σ s σ' s' → SRel prog w h₀ σ' s'.heap → ERel h₀ env ρ σ' s'.heap → s'.heap.Ns C mC → Apart h₀ env (· = C) σ' → (¬ Dom σ C → s.heap.get? C = none) → compPost (model prog w) A (fun _ _ => False) use QU (.ref D) C (.ok .next) s')
    (hs : ∀ x, foldedSetIterable iter env x = pure x := by intro _; rfl) :
    wpAny (model prog w) A (comprehension (.ListComp elt gens scope pos) scope env (firstIterPos gens pos) (newList []) (firstAsync gens) (firstIter gens env) use) QU (fun _ _ => False) s := by
  subst hgens
  refine wpAny_comprehension_free (use := use) rfl hs hclos hkind hnames ?_
  refine h A s _ ok S X fun it s₂ σ₁ own K Md elem good st₁ S₁ X₁ io k0 fr ap q => ?_
  obtain ⟨items, g, hel, hlen, hb, hQ⟩ := q
  refine wpAny_newObj_type ?_ (by show ([] : List Value).toArray.size ≤ sizeLine; simp)
  have p2 : Pres NoMod s₂.heap (s₂.heap.push { cls := .type "list", data := .seq ([] : List Value).toArray }) := Pres.refl.push _
  obtain ⟨S₃, X₃, hh₃, tr₃⟩ := newStep (γ := Value) (δ := PV) (R' := Is) (H := []) (o := .lst []) S₁ X₁ (fun _ hp => by cases hp) p2 (fresh _) ⟨[], 0, IsL.new _ _, .nil⟩
  have frD := free_of S₁ (fresh s₂.heap)
  generalize hD : s₂.heap.objs.size = D at *
  have hDn : s₂.heap.get? D = none := by rw [← hD]; exact fresh _
  generalize hH3 : s₂.heap.push { cls := .type "list", data := .seq ([] : List Value).toArray } = H3 at *
  refine wpAny_newFunctionEnv hcell (by intro y hy; simp at hy) (fun h₁ hns hsb => ?_) hkind
  dsimp only at hns hsb ⊢
  generalize hC : H3.objs.size = C at hns hsb ⊢
  have hCn : H3.get? C = none := by rw [← hC]; exact fresh _
  have p3 : Pres NoMod H3 h₁ := Pres.same (Pres.refl.push _) hsb (.inr hCn)
  obtain ⟨S₄, X₄, hh₄, st₄⟩ := firmStep (s := { s₂ with heap := H3 }) (H := []) S₃ X₃ (fun _ hp => by cases hp) p3
  have hCσ : upd σ₁ D (.lst []) C = none := free_of S₃ hCn
  have hCh : h₀.get? C = none := by
    cases e : h₀.get? C with
    | none => rfl
    | some o => have := S₃.base _ _ e; rw [hCn] at this; cases this
  have Xc : ERel h₀ (compEnvC scope cl C env) ρc (upd σ₁ D (.lst [])) h₁ := by
    refine ⟨hkind, X₄.glob, X₄.bins, ⟨_, hns⟩, ⟨hCh, hCσ⟩, fun p hp => ?_, cells_apart hcl hclp X₃.apart, fun x v e => ?_⟩
    · obtain ⟨⟨cv, o, h1, h2⟩, h3, h4, h5⟩ := X₃.cells p (hcl p hp)
      refine ⟨(X₄.cells p (hcl p hp)).1, h3, h4, fun e => ?_⟩
      have e' : p.2 = C := e
      rw [e', hCn] at h1; cases h1
    · obtain ⟨e1, hk, hk2, c, hc1, hc2⟩ := (hcap C).names x v e
      obtain ⟨val, hv, hi⟩ := X₄.vars x v e1
      refine ⟨val, .inr ⟨hk2, c, hc2, ?_⟩, hi⟩
      rcases hv with ⟨hk', _⟩ | ⟨_, c', hc', hcell'⟩
      · rcases hk with hk | hk <;> rw [hk] at hk' <;> cases hk'
      · rw [hc1] at hc'; cases hc'; exact hcell'
  have apc : Apart h₀ (compEnvC scope cl C env) own (upd σ₁ D (.lst [])) := by
    have neD : ∀ a, own a → a ≠ D := fun a ha e => by
      obtain ⟨o, e2, _⟩ := io.live 0 _ a k0 ha
      rw [e, hDn] at e2; cases e2
    refine ⟨ap.old, fun a ha => by rw [upd_ne _ _ (neD a ha)]; exact ap.free a ha, fun a ha ho => ?_⟩
    rcases ho with e | ⟨p, hp, e⟩
    · obtain ⟨o, e2, _⟩ := io.live 0 _ a k0 ha
      have e3 := p2.2 a o (fun f => f) e2
      have e' : a = C := e
      rw [e', hCn] at e3; cases e3
    · exact ap.frame a ha (.inr ⟨p, hcl p hp, e⟩)
  have k1 : K 0 h₁ := io.keep 0 _ _ k0 fun a o ha e => p3.2 a o (fun f => f) (p2.2 a o (fun f => f) e)
  have lss : ∀ acc : List PV, Less σ₁ (upd σ₁ D (.lst acc)) := fun acc => Less.upd_free frD
  show codeAny _ _ (.compStart (.ListComp elt (⟨target, iter, ifs, 0⟩ :: rest) scope pos) 0 it (.ref D) (compEnvC scope cl C env)) _ _
  refine comp_start rfl (comp_code (d := 0) (g := g) (items := items) (acc₀ := []) (Mod := OnlyLoc (compEnvC scope cl C env)) rfl ha (onlyLoc _) (by simpa using hlen) ok S₄ Xc io k1 apc (fun acc => hel _ (lss acc)) (fun x hx acc => ?_) fun s' ρ' st' S' X' hsub => ?_)
    (fun A Q hQ => io.self 0 A _ Q k1 hQ)
  · obtain ⟨ρ₂, h1, h2, h3⟩ := hb C D frD x hx
    intro H v hv
    exact WP.mono (h1 (upd σ₁ D (.lst acc)) H v hv) fun _ ρ' σ' ⟨e1, e2⟩ => by subst e1; subst e2; exact ⟨h2, rfl, h3⟩
  · simp only [List.nil_append] at st' S' X'
    obtain ⟨mC, hmC⟩ := X'.ns
    obtain ⟨⟨h1, tk1, rfl⟩, p1, sub1⟩ := st₁
    obtain ⟨⟨h5, tk5, rfl⟩, p5, sub5⟩ := st'
    obtain ⟨Xf, pf, sf⟩ := comp_tail (zs := items.flatMap g) S₁ X₁ ap p1 sub1 p2 p3 p5 (fun a (d : a = C) => by rw [d]; exact hCn) hDn (fun a ho => io.live 0 _ a k0 ho) fr
    refine fin D C _ mC _ (hQ D frD) ⟨⟨h5, tk5, rfl⟩, pf, sf⟩ S' Xf hmC ⟨fun a e => by rw [show a = C from e]; exact hCh, fun a e => ?_, fun a e ho => ?_⟩ fun nd => ?_
    · rw [show a = C from e]
      by_cases hCD : C = D
      · rw [hCD, upd_same] at hCσ; cases hCσ
      · rw [upd_ne _ _ hCD] at hCσ ⊢; exact hCσ
    · rw [show a = C from e] at ho
      obtain ⟨o, ho⟩ := X₃.alive ho
      rw [show H3.get? C = some o from ho] at hCn; cases hCn
    · cases q : s.heap.get? C with
      | none => rfl
      | some o =>
        have e3 := p2.2 C o (fun f => f) (p1.2 C o (fun d => d.elim nd id) q)
        rw [hCn] at e3; cases e3
/-- a list comprehension -/
theorem we_listcomp {target iter : Expr} {ifs : List Expr} {rest : List Comprehension} {cl : List (Str × Addr)} {ρc : Loc} {Q : PV → Store → Prop} (hgens : gens = ⟨target, iter, ifs, 0⟩ :: rest) (ha : ∀ g ∈ gens, g.is_async = 0)
    (hclos : closureFor scope env = pure cl) (hkind : scope.kind = .function) (hcell : ∀ y ∈ scope.names, y.2 ≠ .cell) (hnames : ∀ y ∈ scope.names, y.2 = .local → scope.names.lookup y.1 = some .local)
    (hcl : ∀ p ∈ cl, p ∈ env.cells) (hclp : (cl.map (·.1)).Nodup) (hcap : ∀ C, CapOk env scope cl C ρ ρc)
    (h : CompAsk prog w h₀ n env elt target iter ifs gens scope pos cl ρc ρ σ fun D σ' => Q (.loc D) σ')
    (hs : ∀ x, foldedSetIterable iter env x = pure x := by intro _; rfl) :
    WV prog w h₀ n env [] (eval (.ListComp elt gens scope pos) env) ρ σ Q := fun A s ok S X hh => by
  rw [eval_ListComp]
  refine comp_run (use := none) hgens ha hclos hkind hcell hnames hcl hclp hcap ok S X h (fun D C s' mC σ' q st S' X' hn ap hCs => ⟨mC, hn, fun h' hsb => ?_⟩) hs
  obtain ⟨S2, X2⟩ := offStep S' X' ap hn hsb
  exact Post.of (stp_off st hCs hsb) S2 X2 (.loc D) ⟨rfl, q⟩
/-- a list comprehension, laid under a name of the same frame -/
theorem ws_listcomp {y : Str} {py spos : Pos} {target iter : Expr} {ifs : List Expr} {rest : List Comprehension} {cl : List (Str × Addr)} {ρc : Loc} {Q : PFlow → Loc → Store → Prop} (hgens : gens = ⟨target, iter, ifs, 0⟩ :: rest) (hy : Stor env y) (ha : ∀ g ∈ gens, g.is_async = 0)
    (hclos : closureFor scope env = pure cl) (hkind : scope.kind = .function) (hcell : ∀ y ∈ scope.names, y.2 ≠ .cell) (hnames : ∀ y ∈ scope.names, y.2 = .local → scope.names.lookup y.1 = some .local)
    (hcl : ∀ p ∈ cl, p ∈ env.cells) (hclp : (cl.map (·.1)).Nodup) (hcap : ∀ C, CapOk env scope cl C ρ ρc)
    (h : CompAsk prog w h₀ n env elt target iter ifs gens scope pos cl ρc ρ σ fun D σ' => Q .next ((y, .loc D) :: ρ) σ')
    (hsw : swapsWith (.ListComp elt gens scope pos) (some (.Name y py)) spos.line env = pure true)
    (hs : ∀ x, foldedSetIterable iter env x = pure x := by intro _; rfl) :
    WS prog w h₀ n env (exec (.Assign [.Name y py] (.ListComp elt gens scope pos) spos) env) ρ σ Q := fun A s ok S X hh => by
  rw [exec_Assign_Name_used _ _ _ _ hsw]
  refine wpAny_bind (wpAny_standAt (wpAny_bind ?_))
  show wpAny _ A (do let _ ← comprehension (.ListComp elt gens scope pos) scope env (firstIterPos gens pos) (newList []) (firstAsync gens) (firstIter gens env) (some (assign (.Name y py) env))) _ _ s
  refine wpAny_bind (wpAny_mono (comp_run (use := some (assign (.Name y py) env)) (QU := fun _ s' => Post prog w h₀ (Own env) FlowIs env σ s Q .next s') hgens ha hclos hkind hcell hnames hcl hclp hcap ok S X h (fun D C s' mC σ' q st S' X' hn ap hCs => ?_) hs) (fun _ s' hq => wpAny_pure (wpAny_pure hq)) fun _ _ e => e)
  show wpAny _ A (assign (.Name y py) env (.ref D)) _ _ _
  refine wpAny_assign_Name (WP.go (ownMod env) (wp_store (n := n) (H := [(.ref D, .loc D)]) (Q := fun _ ρ' σ'' => ρ' = (y, .loc D) :: ρ ∧ σ'' = σ') hy (.head _) ⟨rfl, rfl⟩) ok S' X' (fun _ hp => by rw [List.mem_singleton.mp hp]; exact .loc D) fun u s₂ c ρ₂ σ₂ st₂ S₂ X₂ hh₂ _ q₂ => ?_)
  obtain ⟨rfl, rfl⟩ := q₂
  have hn2 : s₂.heap.Ns C mC := by
    obtain ⟨o, es, ep, q1, r⟩ := hn
    exact ⟨o, es, ep, st₂.pres.2 C o (fun d => d.elim (fun ⟨o', e⟩ => by rw [ap.free C rfl] at e; cases e) (ap.frame C rfl)) q1, r⟩
  refine ⟨mC, hn2, fun h' hsb => ?_⟩
  obtain ⟨S₃, X₃⟩ := offStep S₂ X₂ ap hn2 hsb
  exact Post.of (stp_off ((Stp.mono st fun _ f => f.elim).andThen (ownMod env) st₂ X') hCs hsb) S₃ X₃ .next q
end

end Mine
end

section
namespace Mine

section
variable {prog : Program} {w : World} {h₀ : Heap} {n : Nat} {env : Env} {ρ : Loc} {σ : Store} {Q : Elems → (Store → Prop) → Store → Prop}

noncomputable def unownedTypes : List String := ["enumerate", "zip", "dict_itemiterator", "dict_reverseitemiterator", "odict_iterator", "itertools.zip_longest", "itertools.pairwise"]
/-- an iterator of another kind owns no tuple -/
theorem go_other {M : Model} {A : Around} {E : Value → Shared → Prop} {s : Shared} {target : Expr} {it : Addr} {v : Value} {T : String} {o : Obj} {vs : Array Value} {Q : Unit → Shared → Prop} (ho : s.heap.get? it = some o) (hc : o.cls = .type T) (hd : o.data = .fields vs) (hT : unownedTypes.contains T = false) (h : Q () s) :
    wpAny M A (letOwnedTupleGo target (.ref it) v) Q E s := by
  have key : unownedTypes.contains T = false := hT
  unfold unownedTypes at key
  unfold letOwnedTupleGo
  cases target <;> first | exact wpAny_pure h | (
    cases v <;> first | exact wpAny_pure h | (
      refine wpAny_bind (wpAny_load ho ?_)
      rw [hc, hd]
      dsimp only
      rw [key]
      simp only [Bool.false_and, Bool.false_eq_true, if_false]
      exact wpAny_pure h))

noncomputable def elemL (l : Addr) : Elems := fun σ i => match σ l with | some (.lst ys) => ys[i]? | _ => none
noncomputable def goodL (l : Addr) : Store → Prop := fun σ => ∃ ys, σ l = some (.lst ys)
theorem elemL_of {l : Addr} {σ : Store} {ys : List PV} (e : σ l = some (.lst ys)) (i : Nat) : elemL l σ i = ys[i]? := by unfold elemL; rw [e]
theorem itOk_list (target : Expr) (I l : Addr) : ItOk prog w h₀ target (.ref I) (fun a => a = I) (fun i h => h.IsListIter I l i) (fun i _ h => h.IsListIter I l (i + 1)) (elemL l) (goodL l) where
  keep := fun i h h' ⟨o, ho, r⟩ k => ⟨o, k I o rfl ho, r⟩
  live := fun i h a ⟨o, ho, hc, r⟩ e => by subst e; exact ⟨o, ho, by rw [hc]; decide⟩
  midlive := fun i v h a ⟨o, ho, hc, r⟩ e => by subst e; exact ⟨o, ho, by rw [hc]; decide⟩
  item := fun i σ A s Q x ⟨ys, e⟩ ok S k he hQ => by
    rw [elemL_of e] at he
    obtain ⟨vs, n, il, i1⟩ := S.objs _ _ e
    obtain ⟨v, hv, iv⟩ := i1.get he
    exact wpAny_pyNext_list_item k (Mine.IsL.isList il) (by simpa using hv) fun h' k' hs => hQ v h' s.toks (Pres.sameBut hs) k' fun kp => iv.keep kp
  done := fun i σ A s Q ⟨ys, e⟩ ok S k he hQ => by
    rw [elemL_of e] at he
    obtain ⟨vs, n, il, i1⟩ := S.objs _ _ e
    have hl := i1.length
    exact wpAny_pyNext_list_end ok.handled k (Mine.IsL.isList il) (by simp only [List.getElem?_eq_none_iff] at he; simp; (first | lia | omega)) fun h' hs => hQ h' s.toks (Pres.ext hs rfl)
  go := fun i v A s Q k hQ => by
    obtain ⟨o, ho, hc, hd⟩ := id k
    exact go_other ho hc hd (by decide) (hQ s.heap k Pres.refl)
  self := fun i A s Q k hQ => wpAny_pyIter_listiter k hQ

/-- what is new at the end of a way -/
theorem newOwn {s s₁ : Shared} {σ₁ : Store} (st : Stp NoMod σ s σ₁ s₁) (S₁ : SRel prog w h₀ σ₁ s₁.heap) (X₁ : ERel h₀ env ρ σ₁ s₁.heap) {a : Addr} (e : s₁.heap.get? a = none) :
    (s.heap.get? a = none ∨ Dom σ a) ∧ h₀.get? a = none ∧ σ₁ a = none ∧ ¬ Own env a := by
  refine ⟨?_, ?_, free_of S₁ e, fun ho => ?_⟩
  · cases q : s.heap.get? a with
    | none => exact .inl rfl
    | some o =>
      by_cases hd : Dom σ a
      · exact .inr hd
      · have := st.pres.2 _ o (fun d => d.elim hd id) q
        rw [e] at this; cases this
  · cases q : h₀.get? a with
    | none => rfl
    | some o => have := S₁.base _ _ q; rw [e] at this; cases this
  · obtain ⟨ob, e2⟩ := X₁.alive ho
    rw [e] at e2; cases e2
theorem wi_list {target e : Expr} (h : WV prog w h₀ n env [] (eval e env) ρ σ fun x σ₁ => ∃ l ys, x = .loc l ∧ σ₁ l = some (.lst ys) ∧ Q (elemL l) (goodL l) σ₁) : WIter prog w h₀ n env target e ρ σ Q := fun A s Q' ok S X hQ =>
  WE.before h ok S X (H := []) (fun _ hp => by cases hp) fun v s₁ x σ₁ st S₁ X₁ hh₁ r q => by
    obtain ⟨l, ys, rfl, e, q⟩ := q
    cases r
    obtain ⟨vs, n, il, i1⟩ := S₁.objs _ _ e
    refine wpAny_pyIter_list (Mine.IsL.isList il) ?_
    have p : Pres NoMod s₁.heap (s₁.heap.push { cls := .type "list_iterator", data := .fields #[.ref l, .int 0 0] }) := Pres.refl.push _
    obtain ⟨S₂, X₂, hh₂, st₂⟩ := firmStep (H := []) S₁ X₁ (fun _ hp => by cases hp) p
    have nw := fun a (ha : a = s₁.heap.objs.size) => newOwn st S₁ X₁ (a := a) (by subst ha; exact fresh _)
    exact hQ _ _ σ₁ _ _ _ _ _ (st.andThen (noMod env) (st₂ s₁.toks NoMod) X₁) S₂ X₂ (itOk_list target s₁.heap.objs.size l) ⟨_, Heap.get?_push_size _ rfl, rfl, rfl⟩ (fun a ha => (nw a ha).1) ⟨fun a ha => (nw a ha).2.1, fun a ha => (nw a ha).2.2.1, fun a ha => (nw a ha).2.2.2⟩ q

noncomputable def elemS (x : Str) : Elems := fun _ i => (x.cps[i]?).map fun c => .str ⟨#[c]⟩
noncomputable def elemR (a b : Int) : Elems := fun _ i => if a + (i : Int) < b then some (.int (a + (i : Int))) else none
theorem itOk_range (target : Expr) (I : Addr) (a b : Int) : ItOk prog w h₀ target (.ref I) (fun c => c = I) (fun i h => (i : Int) ≤ max 0 (b - a) ∧ IsRangeIter h I (a + (i : Int) * 1) (max 0 (b - a) - (i : Int)) 1) (fun i _ h => ((i + 1 : Nat) : Int) ≤ max 0 (b - a) ∧ IsRangeIter h I (a + ((i + 1 : Nat) : Int) * 1) (max 0 (b - a) - ((i + 1 : Nat) : Int)) 1) (elemR a b) (fun _ => True) where
  keep := fun i h h' ⟨l, ho⟩ k => ⟨l, k I _ rfl ho⟩
  live := fun i h c ⟨l, ho⟩ e => by subst e; exact ⟨_, ho, by simp⟩
  midlive := fun i v h c ⟨l, ho⟩ e => by subst e; exact ⟨_, ho, by simp⟩
  item := fun i σ A s Q y _ ok S ⟨l, k⟩ he hQ => by
    unfold elemR at he
    split at he
    · rename_i hlt
      cases he
      refine wpAny_pyNext_range_item k (by omega) fun h' k' hs => hQ _ h' _ (Pres.sameBut hs) ⟨by omega, ?_⟩ fun kp => ?_
      · have e1 : a + ((i + 1 : Nat) : Int) * 1 = a + (i : Int) * 1 + 1 := by omega
        have e2 : max 0 (b - a) - ((i + 1 : Nat) : Int) = max 0 (b - a) - (i : Int) - 1 := by omega
        rw [e1, e2]; exact k'
      · exact .intEq (by omega)
    · cases he
  done := fun i σ A s Q _ ok S ⟨l, k⟩ he hQ => by
    unfold elemR at he
    split at he
    · cases he
    · exact wpAny_pyNext_range_end ok.handled k (by omega) fun h' hs => hQ h' s.toks (Pres.ext hs rfl)
  go := fun i v A s Q k hQ => go_other k.2 rfl rfl (by decide) (hQ s.heap k Pres.refl)
  self := fun i A s Q k hQ => by
    have hT : s.TypeIs (.ref I) "range_iterator" := ⟨_, k.2, rfl⟩
    refine wpAny_pyIter_slot hT F.slot_range_iterator_iter (wpAny_call_entry F.slot_range_iterator_iter hT F.entry_range_iterator_iter ?_ (F.args_range_iterator_iter_1 _))
    show wpAny _ _ (ret (.ref I)) _ _ s
    exact wpAny_pure ⟨_, rfl, "range_iterator", _, hT, F.slot_range_iterator_next.lookup, hQ⟩
theorem range_small {a b : Int} (ha : a.natAbs ≤ 1000000) (hb : b.natAbs ≤ 1000000) : Builtin.Range.small a b 1 = true ∧ Builtin.Range.rangeSize a b 1 = max 0 (b - a) := by
  have e : Builtin.Range.rangeSize a b 1 = max 0 (b - a) := by
    clear ha hb
    unfold Builtin.Range.rangeSize
    simp only [show ((1 : Int) > 0) = True from by simp, if_true]
    split <;> omega
  refine ⟨?_, e⟩
  have ha' : -1000000 ≤ a ∧ a ≤ 1000000 := by clear hb e; omega
  have hb' : -1000000 ≤ b ∧ b ≤ 1000000 := by clear ha ha' e; omega
  clear ha hb
  unfold Builtin.Range.small
  rw [e]
  unfold Builtin.Range.rangeFitsLong
  simp
  omega
/-- range(b), range(a, b) -/
theorem wi_range {target : Expr} {x : Str} {p pos : Pos} {args : List Expr} (g : GName prog w h₀ env ρ x (.type "range")) (h : WL prog w h₀ n env [] (spliced (backTo pos (starEach args env))) ρ σ fun xs σ₁ => ∃ a b, ((xs = [.int b] ∧ a = 0) ∨ xs = [.int a, .int b]) ∧ a.natAbs ≤ 1000000 ∧ b.natAbs ≤ 1000000 ∧ Q (elemR a b) (fun _ => True) σ₁)
    (hplain : (backTo pos (starEach args env)).any (·.1) = false := by rfl) :
    WIter prog w h₀ n env target (.Call (.Name x p) args [] pos) ρ σ Q := fun A s Q' ok S X hQ =>
  Call_Name rfl (g A s σ p _ S X (callWith_split hplain (WE.before h ok S X (H := []) (fun _ hp => by cases hp) fun vs s₁ xs σ₁ st S₁ X₁ hh₁ r q => by
    obtain ⟨a, b, hx, ha, hb, q⟩ := q
    refine PyProof.Rows.callWith_type (by simp [pures]) (evalArgs_pures ?_)
    obtain ⟨sm, sz⟩ := range_small ha hb
    have fin : ∀ {t u v : Tok} {tk : Nat}, wpAny (model prog w) A (pyIter (.ref s₁.heap.objs.size)) Q' (fun _ _ => False) { s₁ with heap := s₁.heap.push { cls := .type "range", data := .fields #[.int a t, .int b u, .int 1 v] }, toks := tk } := by
      intro t u v tk
      refine wpAny_pyIter_range (a := a) (b := b) (c := 1) (t := t) (u := u) (v := v) (Heap.get?_push_size _ rfl) sm ?_
      rw [sz]
      have p1 : Pres NoMod s₁.heap ((s₁.heap.push { cls := .type "range", data := .fields #[.int a t, .int b u, .int 1 v] }).push { cls := .type "range_iterator", data := .fields #[rawInt a, rawInt (max 0 (b - a)), rawInt 1] }) := (Pres.refl.push _).push _
      obtain ⟨S₂, X₂, hh₂, st₂⟩ := firmStep (H := []) S₁ X₁ (fun _ hp => by cases hp) p1
      have nw := fun c (hc : c = (s₁.heap.push { cls := .type "range", data := .fields #[.int a t, .int b u, .int 1 v] }).objs.size) => newOwn st S₁ X₁ (a := c) (by subst hc; rw [Heap.size_push]; exact Heap.get?_none_of_le (Nat.le_succ _))
      refine hQ _ _ σ₁ _ _ _ _ _ (st.andThen (noMod env) (st₂ tk NoMod) X₁) S₂ X₂ (itOk_range target _ a b) ⟨by omega, ?_⟩ (fun a ha => (nw a ha).1) ⟨fun a ha => (nw a ha).2.1, fun a ha => (nw a ha).2.2.1, fun a ha => (nw a ha).2.2.2⟩ q
      have e1 : a + ((0 : Nat) : Int) * 1 = a := by omega
      have e2 : max 0 (b - a) - ((0 : Nat) : Int) = max 0 (b - a) := by omega
      rw [e1, e2]
      exact Heap.get?_push_size _ rfl
    rcases hx with ⟨rfl, rfl⟩ | rfl
    · cases r with | cons r1 r2 => cases r2; cases r1 with | int _ t => exact call_range_1 fin
    · cases r with | cons r1 r2 => cases r2 with | cons r2 r3 => cases r3; cases r1 with | int _ t => cases r2 with | int _ u => exact call_range_2 fin)))
end

end Mine
end

section
namespace Mine

section
variable {prog : Program} {w : World} {h₀ : Heap} {n : Nat} {env : Env} {ρ : Loc} {σ : Store} {Q : Elems → (Store → Prop) → Store → Prop}

noncomputable def elemE (l : Addr) : Elems := fun σ i => (elemL l σ i).map fun x => .tup [.int i, x]
theorem itOk_enum (elts : List Expr) (k : Nat) (pos : Pos) (e it l : Addr) (hne : e ≠ it) : ItOk prog w h₀ (.Tuple elts k pos) (.ref e) (fun a => a = e ∨ a = it)
    (fun i h => (∃ old, IsEnum h e it i old) ∧ h.IsListIter it l i) (fun i v h => (∃ x a, IsEnumOut h e it ((i : Int) + 1) x a ∧ v = .ref a) ∧ h.IsListIter it l (i + 1)) (elemE l) (goodL l) where
  keep := fun i h h' ⟨⟨old, k1⟩, ⟨o, ho, r⟩⟩ k => ⟨⟨old, k e _ (.inl rfl) k1⟩, ⟨o, k it o (.inr rfl) ho, r⟩⟩
  live := fun i h a ⟨⟨old, k1⟩, ⟨o, ho, hc, r⟩⟩ ea => by
    rcases ea with rfl | rfl
    · exact ⟨_, k1, by simp⟩
    · exact ⟨o, ho, by rw [hc]; decide⟩
  midlive := fun i v h a ⟨⟨x, b, k1, _⟩, ⟨o, ho, hc, r⟩⟩ ea => by
    rcases ea with rfl | rfl
    · exact ⟨_, k1, by simp⟩
    · exact ⟨o, ho, by rw [hc]; decide⟩
  item := fun i σ A s Q y ⟨ys, es⟩ ok S ⟨⟨old, k1⟩, k2⟩ he hQ => by
    unfold elemE at he
    rw [elemL_of es] at he
    cases hy : ys[i]? with
    | none => rw [hy] at he; cases he
    | some x =>
      rw [hy] at he
      simp only [Option.map_some, Option.some.injEq] at he
      subst he
      obtain ⟨vs, n, il, i1⟩ := S.objs _ _ es
      obtain ⟨v, hv, iv⟩ := i1.get hy
      refine wpAny_pyNext_enum_item k1 k2 (Mine.IsL.isList il) (by simpa using hv) hne fun h' ke k2' ht hsz hk => ?_
      have p : Pres (fun a => a = e ∨ a = it) s.heap h' := ⟨trivial, fun b o nb eb => hk b o (fun q => nb (.inl q)) (fun q => nb (.inr q)) eb⟩
      refine hQ _ h' _ p ⟨⟨v, _, ke, rfl⟩, k2'⟩ fun kp => ?_
      exact .tup (vs := [.int i s.toks, v]) (n := 0) (by simpa using ht) (.cons (.int _ _) (.cons (iv.keep kp) .nil))
  done := fun i σ A s Q ⟨ys, es⟩ ok S ⟨⟨old, k1⟩, k2⟩ he hQ => by
    unfold elemE at he
    rw [elemL_of es] at he
    have hy : ys[i]? = none := by simpa using he
    obtain ⟨vs, n, il, i1⟩ := S.objs _ _ es
    have hl := i1.length
    exact wpAny_pyNext_enum_end ok.handled k1 k2 (Mine.IsL.isList il) (by simp only [List.getElem?_eq_none_iff] at hy; simp; (first | lia | omega)) fun h' hs => hQ h' s.toks (Pres.ext hs (.inr rfl))
  go := fun i v A s Q ⟨⟨x, a, k1, e1⟩, k2⟩ hQ => by
    subst e1
    refine wpAny_letOwnedTupleGo_enum k1 fun h' ke hs => hQ h' ⟨⟨x, by
      have e : ((i : Int) + 1) = ((i + 1 : Nat) : Int) := by (first | lia | omega)
      rw [← e]; exact ke⟩, ?_⟩ ((Pres.sameBut hs).mono fun a ha => .inl ha)
    obtain ⟨o, ho, r⟩ := k2
    exact ⟨o, (hs.2 it (fun q => hne q.symm)).trans ho, r⟩
  self := fun i A s Q ⟨⟨old, k1⟩, k2⟩ hQ => wpAny_pyIter_enum k1 hQ
theorem wi_enum {elts : List Expr} {k : Nat} {tpos : Pos} {x : Str} {p pos : Pos} {args : List Expr} (g : GName prog w h₀ env ρ x (.type "enumerate")) (h : WL prog w h₀ n env [] (spliced (backTo pos (starEach args env))) ρ σ fun xs σ₁ => ∃ l ys, xs = [.loc l] ∧ σ₁ l = some (.lst ys) ∧ Q (elemE l) (goodL l) σ₁)
    (hplain : (backTo pos (starEach args env)).any (·.1) = false := by rfl) :
    WIter prog w h₀ n env (.Tuple elts k tpos) (.Call (.Name x p) args [] pos) ρ σ Q := fun A s Q' ok S X hQ =>
  Call_Name rfl (g A s σ p _ S X (callWith_split hplain (WE.before h ok S X (H := []) (fun _ hp => by cases hp) fun vs s₁ xs σ₁ st S₁ X₁ hh₁ r q => by
    obtain ⟨l, ys, rfl, e, q⟩ := q
    refine PyProof.Rows.callWith_type (by simp [pures]) (evalArgs_pures ?_)
    cases r with | cons r1 r2 => 
    cases r2; cases r1
    obtain ⟨ws, m, il, i1⟩ := S₁.objs _ _ e
    refine call_enumerate_1 il fun h' ke kl hsz hk => ?_
    refine wpAny_pyIter_enum ke ?_
    have p1 : Pres NoMod s₁.heap h' := ⟨trivial, fun b o _ eb => hk b o eb⟩
    obtain ⟨S₂, X₂, hh₂, st₂⟩ := firmStep (H := []) S₁ X₁ (fun _ hp => by cases hp) p1
    have nw := fun c (hc : c = s₁.heap.objs.size + 1 ∨ c = s₁.heap.objs.size) => newOwn st S₁ X₁ (a := c) (Heap.get?_none_of_le (by rcases hc with rfl | rfl <;> (first | lia | omega)))
    refine hQ _ _ σ₁ _ _ _ _ _ (st.andThen (noMod env) (st₂ s₁.toks NoMod) X₁) S₂ X₂ (itOk_enum elts k tpos _ _ l (Nat.succ_ne_self _)) ⟨⟨_, ke⟩, kl⟩ (fun a ha => (nw a ha).1) ⟨fun a ha => (nw a ha).2.1, fun a ha => (nw a ha).2.2.1, fun a ha => (nw a ha).2.2.2⟩ q)))
end

end Mine
end

section
namespace Mine

-- a dict's views and their iterators, whatever the keys are
section
variable {prog : Program} {w : World} {A : Around} {E : Value → Shared → Prop} {s : Shared} {d : Addr} {es : Array DictEntry} {ep : Nat}

theorem meets_values_ents (hd : (d == sysModules) = false) :
    MeetsIn prog w (Builtin.«dict.values» ⟨[.ref d], []⟩) (fun _ R s => Ents s.heap d es ep ∧ R (.ok (.ret (.ref s.heap.objs.size))) { s with heap := s.heap.push { cls := .type "dict_values", data := .fields #[.ref d] } }) :=
  .of_wp fun A R s ⟨hm, h⟩ => by
    refine wpAny_bind ?_
    unfold Builtin.Dict.noArgs
    refine wpAny_bind (wpAny_notOrdered_dict hm.typeIs (wpAny_pure ?_))
    show wpAny _ _ (Builtin.Dict.showsAll d >>= _) _ _ s
    unfold Builtin.Dict.showsAll
    rw [if_neg (by rw [hd]; exact Bool.false_ne_true)]
    exact wpAny_bind (wpAny_pure (wpAny_bind (wpAny_newObj_type (wpAny_pure ⟨_, rfl, h⟩))))
theorem meets_items_ents (hd : (d == sysModules) = false) :
    MeetsIn prog w (Builtin.«dict.items» ⟨[.ref d], []⟩) (fun _ R s => Ents s.heap d es ep ∧ R (.ok (.ret (.ref s.heap.objs.size))) { s with heap := s.heap.push { cls := .type "dict_items", data := .fields #[.ref d] } }) :=
  .of_wp fun A R s ⟨hm, h⟩ => by
    unfold Builtin.«dict.items»
    refine wpAny_bind ?_
    unfold Builtin.Dict.noArgs
    refine wpAny_bind (wpAny_notOrdered_dict hm.typeIs (wpAny_pure ?_))
    show wpAny _ _ (Builtin.Dict.showsAll d >>= _) _ _ s
    unfold Builtin.Dict.showsAll
    rw [if_neg (by rw [hd]; exact Bool.false_ne_true)]
    exact wpAny_bind (wpAny_pure (wpAny_bind (wpAny_newObj_type (wpAny_pure ⟨_, rfl, h⟩))))

theorem iter_values_ents {v : Addr} {Q : Value → Shared → Prop} (hv : s.heap.IsValuesView v d) (hm : Ents s.heap d es ep)
    (hQ : Q (.ref s.heap.objs.size) { s with heap := s.heap.push { cls := .type "dict_valueiterator", data := .fields #[.ref d, .int 0 0, .int es.size 0, .int ep 0] } }) :
    wpAny (model prog w) A (pyIter (.ref v)) Q E s := by
  obtain ⟨ov, hov, hcv, hdv⟩ := id hv
  obtain ⟨o, ho, hc, hdat⟩ := id hm
  refine wpAny_pyIter_slot hv.typeIs F.slot_dict_values_iter (wpAny_call_entry F.slot_dict_values_iter hv.typeIs F.entry_dict_values_iter ?_ (F.args_dict_values_iter_1 _))
  unfold Builtin.«dict_values.__iter__»
  refine wpAny_bind (wpAny_pure (wpAny_bind ?_))
  unfold Builtin.Dict_items.dictOf
  refine wpAny_bind (wpAny_field hov hdv (x := .ref d) rfl (wpAny_pure (wpAny_bind ?_)))
  unfold Builtin.Dict_items.newIterator
  refine wpAny_bind (wpAny_dictEntries ho hdat (wpAny_bind (wpAny_dictEpoch ho hdat ?_)))
  have hown : Builtin.Dict_items.ownsTuple "dict_valueiterator" = false := by decide
  simp -iota only [hown, Bool.false_eq_true, if_false]
  refine wpAny_newObj_type (wpAny_pure ⟨_, rfl, "dict_valueiterator", _, ⟨_, Heap.get?_push_size _ rfl, rfl⟩, F.slot_dict_valueiterator_next.lookup, ?_⟩)
  simpa [rawInt] using hQ
theorem iter_items_ents {v : Addr} {Q : Value → Shared → Prop} (hv : s.heap.IsItemsView v d) (hm : Ents s.heap d es ep)
    (hQ : Q (.ref s.heap.objs.size) { s with heap := s.heap.push { cls := .type "dict_itemiterator", data := .fields #[.none, .bool false, .ref d, .int 0 0, .int es.size 0, .int ep 0, .none, .none] } }) :
    wpAny (model prog w) A (pyIter (.ref v)) Q E s := by
  obtain ⟨ov, hov, hcv, hdv⟩ := id hv
  obtain ⟨o, ho, hc, hdat⟩ := id hm
  refine wpAny_pyIter_slot hv.typeIs F.slot_dict_items_iter (wpAny_call_entry F.slot_dict_items_iter hv.typeIs F.entry_dict_items_iter ?_ (F.args_dict_items_iter_1 _))
  unfold Builtin.«dict_items.__iter__»
  refine wpAny_bind (wpAny_pure (wpAny_bind ?_))
  unfold Builtin.Dict_items.dictOf
  refine wpAny_bind (wpAny_field hov hdv (x := .ref d) rfl (wpAny_pure (wpAny_bind ?_)))
  unfold Builtin.Dict_items.newIterator
  refine wpAny_bind (wpAny_dictEntries ho hdat (wpAny_bind (wpAny_dictEpoch ho hdat ?_)))
  have hown : Builtin.Dict_items.ownsTuple "dict_itemiterator" = true := by decide
  simp -iota only [hown, if_true]
  refine wpAny_newObj_type (wpAny_pure ⟨_, rfl, "dict_itemiterator", _, ⟨_, Heap.get?_push_size _ rfl, rfl⟩, F.slot_dict_itemiterator_next.lookup, ?_⟩)
    (by simp only [sizeOk, Builtin.Dict_items.ownedTupleFields, List.size_toArray, List.length_append, List.length_cons, List.length_nil, sizeLine_eq]; (first | lia | omega))
  simpa [rawInt, Builtin.Dict_items.ownedTupleFields] using hQ

theorem next_values_item {it : Addr} {i : Nat} {e : DictEntry} {Q : Option Value → Shared → Prop} (hit : s.heap.IsValIter it d i es.size ep) (hm : Ents s.heap d es ep) (hx : es[i]? = some e)
    (hQ : ∀ h', h'.IsValIter it d (i + 1) es.size ep → Heap.SameBut it s.heap h' → Q (some e.val) { s with heap := h' }) :
    wpAny (model prog w) A (pyNext (.ref it)) Q E s := by
  obtain ⟨o, ho, hc, hd⟩ := id hit
  obtain ⟨od, hod, hcd, hdd⟩ := id hm
  obtain ⟨hlt, he⟩ := Array.getElem?_eq_some_iff.mp hx
  unfold pyNext
  refine wpAny_bind (wpAny_attempt (wpAny_callSpecial?_slot (name := Str.ofString "__next__") hit.typeIs F.slot_dict_valueiterator_next
    (wpAny_call_entry F.slot_dict_valueiterator_next hit.typeIs F.entry_dict_valueiterator_next ?_ (F.args_dict_valueiterator_next_1 _))))
  refine wpAny_bind (wpAny_pure (wpAny_bind (wpAny_bind ?_)))
  first | refine wpAny_bind (wpAny_typeNameOfWhole_valiter hit.typeIs (wpAny_pure ?_)) | refine wpAny_bind (wpAny_typeNameOf_valiter hit.typeIs (wpAny_pure ?_))
  refine wpAny_bind (wpAny_fieldsOf ho hd ?_)
  have hown : Builtin.Dict_items.ownsTuple "dict_valueiterator" = false := by decide
  simp -iota only [hown, Bool.false_eq_true, if_false]
  show wpAny _ _ (if (Value.ref d == Value.none) = true then _ else _) _ _ s
  rw [if_neg (show ¬ ((Value.ref d == Value.none) = true) from Bool.false_ne_true)]
  refine wpAny_bind (wpAny_pure (wpAny_bind (wpAny_dictEntries hod hdd ?_)))
  rw [if_neg (by simp)]
  refine wpAny_bind (wpAny_pure (wpAny_bind (wpAny_dictEpoch hod hdd ?_)))
  rw [if_neg (by simp)]
  refine wpAny_pure ?_
  simp only [show ¬ ((i : Int) < 0) from by (first | lia | omega), if_false, Int.toNat_natCast, hx]
  refine wpAny_bind ?_
  first | refine wpAny_bind (wpAny_typeNameOfWhole_valiter hit.typeIs (wpAny_pure ?_)) | refine wpAny_bind (wpAny_typeNameOf_valiter hit.typeIs (wpAny_pure ?_))
  refine wpAny_bind (wpAny_isOneOf_valiter hit.typeIs ?_)
  show wpAny _ _ (setField (.ref it) 1 (rawInt ((i : Int) + 1)) >>= _) _ _ s
  refine wpAny_bind (wpAny_setField ho hd (by simp) ?_)
  have hit' : (s.heap.update it (Obj.mapFields (·.setIfInBounds 1 (rawInt ((i : Int) + 1))))).IsValIter it d (i + 1) es.size ep :=
    ⟨_, Heap.get?_update_self _ ho (Obj.isFreed_of_fields (Obj.data_mapFields hd _)), (Obj.cls_mapFields ..).trans hc, by rw [Obj.data_mapFields hd]; simp [rawInt]⟩
  refine wpAny_bind (wpAny_holding ?_)
  refine wpAny_bind (wpAny_isOneOf_valiter (s := { s with heap := s.heap.update it (Obj.mapFields (·.setIfInBounds 1 (rawInt ((i : Int) + 1)))) }) hit'.typeIs ?_)
  refine wpAny_bind (wpAny_isOneOf_valiter (s := { s with heap := s.heap.update it (Obj.mapFields (·.setIfInBounds 1 (rawInt ((i : Int) + 1)))) }) hit'.typeIs ?_)
  show wpAny _ _ (pure e.val) _ _ _
  exact wpAny_pure (wpAny_pure ⟨_, rfl, wpAny_pure (hQ _ hit' (Heap.SameBut.update ..))⟩)
theorem next_values_end {it : Addr} {i : Nat} {Q : Option Value → Shared → Prop} (hh : A.handled = none) (hit : s.heap.IsValIter it d i es.size ep) (hm : Ents s.heap d es ep) (hx : es[i]? = none)
    (hQ : ∀ h', Heap.ExtBut it s.heap h' → Q none { s with heap := h' }) : wpAny (model prog w) A (pyNext (.ref it)) Q E s := by
  obtain ⟨o, ho, hc, hd⟩ := id hit
  obtain ⟨od, hod, hcd, hdd⟩ := id hm
  unfold pyNext
  refine wpAny_bind (wpAny_attempt (wpAny_callSpecial?_slot (name := Str.ofString "__next__") hit.typeIs F.slot_dict_valueiterator_next
    (wpAny_call_entry F.slot_dict_valueiterator_next hit.typeIs F.entry_dict_valueiterator_next ?_ (F.args_dict_valueiterator_next_1 _))))
  refine wpAny_bind (wpAny_pure (wpAny_bind (wpAny_bind ?_)))
  first | refine wpAny_bind (wpAny_typeNameOfWhole_valiter hit.typeIs (wpAny_pure ?_)) | refine wpAny_bind (wpAny_typeNameOf_valiter hit.typeIs (wpAny_pure ?_))
  refine wpAny_bind (wpAny_fieldsOf ho hd ?_)
  have hown : Builtin.Dict_items.ownsTuple "dict_valueiterator" = false := by decide
  simp -iota only [hown, Bool.false_eq_true, if_false]
  show wpAny _ _ (if (Value.ref d == Value.none) = true then _ else _) _ _ s
  rw [if_neg (show ¬ ((Value.ref d == Value.none) = true) from Bool.false_ne_true)]
  refine wpAny_bind (wpAny_pure (wpAny_bind (wpAny_dictEntries hod hdd ?_)))
  rw [if_neg (by simp)]
  refine wpAny_bind (wpAny_pure (wpAny_bind (wpAny_dictEpoch hod hdd ?_)))
  rw [if_neg (by simp)]
  refine wpAny_pure ?_
  simp only [show ¬ ((i : Int) < 0) from by (first | lia | omega), if_false, Int.toNat_natCast, hx]
  refine wpAny_bind ?_
  first | refine wpAny_bind (wpAny_typeNameOfWhole_valiter hit.typeIs (wpAny_pure ?_)) | refine wpAny_bind (wpAny_typeNameOf_valiter hit.typeIs (wpAny_pure ?_))
  show wpAny _ _ (setField (.ref it) 0 .none >>= _) _ _ s
  refine wpAny_bind (wpAny_setField ho hd (by simp) ?_)
  show wpAny _ _ (newExc (.type "StopIteration") [] >>= _) _ _ _
  refine wpAny_bind ?_
  simp -iota only [newExc, newTuple]
  refine wpAny_bind (wpAny_newObj_type ?_ (by size_fits))
  refine wpAny_bind (m := firstArgMember _ _) (wpAny_of_eq (a := Value.none) (by first | rfl | (simp -iota only [firstArgMember]; rfl)) ?_)
  refine wpAny_newObj_type ?_ (by size_fits)
  simp -iota only [raiseNew]
  refine wpAny_bind (wpAny_handled ?_)
  rw [show A.in1.handled = none from hh]
  refine wpAny_bind (wpAny_pure (wpAny_throw ?_))
  refine wpAny_bind (wpAny_isInstance (T := "StopIteration") (b := true) ⟨_, Heap.get?_push_size _ rfl, rfl⟩ isSubtype_stop ?_)
  exact wpAny_pure (hQ _ (((Heap.SameBut.update ..).extBut.push _).push _))

abbrev ItemIt (h : Heap) (it d : Addr) (i n ep : Nat) (f0 f1 ok ov : Value) : Prop :=
  h.get? it = some { cls := .type "dict_itemiterator", dict := none, data := .fields #[f0, f1, .ref d, .int i 0, .int n 0, .int ep 0, ok, ov], slots := #[] }
/-- the next pair: the tuple is the iterator's own, or one more -/
theorem next_items_any {it : Addr} {i : Nat} {e : DictEntry} {f0 f1 ok ov : Value} {Q : Option Value → Shared → Prop} (hit : ItemIt s.heap it d i es.size ep f0 f1 ok ov) (hm : Ents s.heap d es ep) (hx : es[i]? = some e)
    (hf : (f0 = .none ∧ f1 = .bool false) ∨ ∃ a oa f, f0 = rawInt ((a : Nat) : Int) ∧ f1 = .bool f ∧ s.heap.get? a = some oa ∧ a ≠ it)
    (q1 : f0 = .none → ∀ h', IsItemIterOut h' it d (i + 1) es.size ep e.key e.val s.heap.objs.size → h'.get? s.heap.objs.size = some { cls := .type "tuple", data := .seq #[e.key, e.val] } →
      (∀ b o, b ≠ it → s.heap.get? b = some o → h'.get? b = some o) → Q (some (.ref s.heap.objs.size)) { s with heap := h' })
    (q2 : f0 ≠ .none → ∀ h', ItemIt h' it d (i + 1) es.size ep f0 (.bool true) ok ov → h'.get? s.heap.objs.size = some { cls := .type "tuple", data := .seq #[e.key, e.val] } →
      (∀ b o, b ≠ it → s.heap.get? b = some o → h'.get? b = some o) → Q (some (.ref s.heap.objs.size)) { s with heap := h' }) :
    wpAny (model prog w) A (pyNext (.ref it)) Q E s := by
  obtain ⟨hp, g, dr, tk, os⟩ := s
  obtain ⟨od, hod, hcd, hdd⟩ := id hm
  obtain ⟨hlt, he⟩ := Array.getElem?_eq_some_iff.mp hx
  have hT : Shared.TypeIs ⟨hp, g, dr, tk, os⟩ (.ref it) "dict_itemiterator" := ⟨_, hit, rfl⟩
  unfold pyNext
  refine wpAny_bind (wpAny_attempt (wpAny_callSpecial?_slot (name := Str.ofString "__next__") hT F.slot_dict_itemiterator_next
    (wpAny_call_entry F.slot_dict_itemiterator_next hT F.entry_dict_itemiterator_next ?_ (F.args_dict_itemiterator_next_1 _))))
  refine wpAny_bind (wpAny_pure (wpAny_bind (wpAny_bind ?_)))
  first | refine wpAny_bind (wpAny_typeNameOfWhole_itemiter hT (wpAny_pure ?_)) | refine wpAny_bind (wpAny_typeNameOf_itemiter hT (wpAny_pure ?_))
  refine wpAny_bind (wpAny_fieldsOf hit rfl ?_)
  have hown : Builtin.Dict_items.ownsTuple "dict_itemiterator" = true := by decide
  simp -iota only [hown, if_true]
  show wpAny _ _ (if (Value.ref d == Value.none) = true then _ else _) _ _ _
  rw [if_neg (show ¬ ((Value.ref d == Value.none) = true) from Bool.false_ne_true)]
  refine wpAny_bind (wpAny_pure (wpAny_bind (wpAny_dictEntries hod hdd ?_)))
  rw [if_neg (by simp)]
  refine wpAny_bind (wpAny_pure (wpAny_bind (wpAny_dictEpoch hod hdd ?_)))
  rw [if_neg (by simp)]
  refine wpAny_pure ?_
  simp only [show ¬ ((i : Int) < 0) from by (first | lia | omega), if_false, Int.toNat_natCast, hx]
  refine wpAny_bind ?_
  first | refine wpAny_bind (wpAny_typeNameOfWhole_itemiter hT (wpAny_pure ?_)) | refine wpAny_bind (wpAny_typeNameOf_itemiter hT (wpAny_pure ?_))
  refine wpAny_bind (wpAny_isOneOf_itemiter hT ?_)
  show wpAny _ _ (setField (.ref it) 3 (rawInt ((i : Int) + 1)) >>= _) _ _ ⟨hp, g, dr, tk, os⟩
  refine wpAny_bind (wpAny_setField_rec hit (by simp) fun h₁ he₁ hs₁ => ?_)
  replace hs₁ : Heap.SameBut it hp h₁ := hs₁
  replace he₁ : ItemIt h₁ it d (i + 1) es.size ep f0 f1 ok ov := by
    have e : ((i + 1 : Nat) : Int) = (i : Int) + 1 := by (first | lia | omega)
    unfold ItemIt; rw [e]; simpa [rawInt] using he₁
  have hT₁ : Shared.TypeIs ⟨h₁, g, dr, tk, os⟩ (.ref it) "dict_itemiterator" := ⟨_, he₁, rfl⟩
  refine wpAny_bind (wpAny_holding (wpAny_bind (wpAny_isOneOf_itemiter hT₁ (wpAny_bind (wpAny_isOneOf_itemiter hT₁ ?_)))))
  show wpAny _ _ (Builtin.Dict_items.pairFromOwner (.ref it) 6 e.key e.val) _ _ ⟨h₁, g, dr, tk, os⟩
  unfold Builtin.Dict_items.pairFromOwner
  refine wpAny_bind (wpAny_newTuple ?_)
  have he₂ : ItemIt (h₁.push { cls := .type "tuple", data := .seq #[e.key, e.val] }) it d (i + 1) es.size ep f0 f1 ok ov := Heap.get?_push_of_some _ he₁
  generalize hh₂ : h₁.push { cls := .type "tuple", data := .seq #[e.key, e.val] } = h₂ at he₂
  have hz₁ : h₁.objs.size = hp.objs.size := hs₁.1
  have hil : it < hp.objs.size := Heap.lt_size hit
  have ht₂ : h₂.get? hp.objs.size = some { cls := .type "tuple", data := .seq #[e.key, e.val] } := by rw [← hh₂, ← hz₁]; exact Heap.get?_push_size _ rfl
  have hk₂ : ∀ b o, b ≠ it → hp.get? b = some o → h₂.get? b = some o := fun b o hb e => by rw [← hh₂]; exact Heap.get?_push_of_some _ (hs₁.extBut b o hb e)
  show wpAny _ _ (Builtin.Dict_items.ownedTupleIsFree (.ref it) >>= _) _ _ ⟨h₂, g, dr, tk, os⟩
  rw [hz₁]
  clear hh₂ he₁ hs₁ hT₁ hz₁ h₁
  have hne : hp.objs.size ≠ it := Nat.ne_of_gt hil
  rcases hf with ⟨rfl, rfl⟩ | ⟨a, oa, f, rfl, rfl, hoa, hai⟩
  · refine wpAny_bind ?_
    unfold Builtin.Dict_items.ownedTupleIsFree
    refine wpAny_bind (wpAny_field he₂ rfl (x := .none) rfl (wpAny_pure ?_))
    simp only [if_true]
    refine wpAny_bind (wpAny_field he₂ rfl (x := ok) rfl ?_)
    refine wpAny_bind (wpAny_field he₂ rfl (x := ov) rfl ?_)
    refine wpAny_bind (wpAny_setField_rec he₂ (by simp) fun h₃ he₃ hs₃ => ?_)
    replace hs₃ : Heap.SameBut it h₂ h₃ := hs₃
    replace he₃ : IsItemIter h₃ it d (i + 1) es.size ep e.key ov := he₃
    refine wpAny_bind (wpAny_setField_rec he₃ (by simp) fun h₄ he₄ hs₄ => ?_)
    replace hs₄ : Heap.SameBut it h₃ h₄ := hs₄
    replace he₄ : IsItemIter h₄ it d (i + 1) es.size ep e.key e.val := he₄
    refine wpAny_bind (wpAny_setField_rec he₄ (by simp) fun h₅ he₅ hs₅ => ?_)
    replace hs₅ : Heap.SameBut it h₄ h₅ := hs₅
    replace he₅ : IsItemIterOut h₅ it d (i + 1) es.size ep e.key e.val hp.objs.size := he₅
    refine wpAny_bind (wpAny_setField_rec he₅ (by simp) fun h₆ he₆ hs₆ => ?_)
    replace hs₆ : Heap.SameBut it h₅ h₆ := hs₆
    replace he₆ : IsItemIterOut h₆ it d (i + 1) es.size ep e.key e.val hp.objs.size := he₆
    exact wpAny_bind (wpAny_letGo (wpAny_pure (wpAny_pure ⟨_, rfl, wpAny_pure (q1 rfl h₆ he₆ (hs₆.extBut _ _ hne (hs₅.extBut _ _ hne (hs₄.extBut _ _ hne (hs₃.extBut _ _ hne ht₂))))
      fun b o hb e => hs₆.extBut b o hb (hs₅.extBut b o hb (hs₄.extBut b o hb (hs₃.extBut b o hb (hk₂ b o hb e)))))⟩)))
  · have hoa₂ := hk₂ a oa hai hoa
    have q2 := q2 (fun e => by cases e)
    refine wpAny_bind ?_
    unfold Builtin.Dict_items.ownedTupleIsFree
    refine wpAny_bind (wpAny_field he₂ rfl (x := rawInt (a : Int)) rfl ?_)
    show wpAny _ _ (loadIfAlive ((a : Int).toNat) >>= _) _ _ _
    rw [Int.toNat_natCast]
    refine wpAny_bind (kdx_alive (s := ⟨h₂, g, dr, tk, os⟩) hoa₂ ?_)
    simp only [Option.isNone_some, Bool.false_eq_true, if_false]
    refine wpAny_bind (wpAny_field he₂ rfl (x := .bool f) rfl ?_)
    by_cases hft : f = true
    · subst hft
      refine (wpAny_ite_split (fun h => absurd h (by simp)) fun _ => wpAny_pure ?_)
      simp only [Bool.false_eq_true, if_false]
      exact wpAny_pure (wpAny_pure ⟨_, rfl, wpAny_pure (q2 h₂ he₂ ht₂ hk₂)⟩)
    · have hff : f = false := by simpa using hft
      subst hff
      refine (wpAny_ite_split (fun _ => ?_) fun h => absurd rfl h)
      refine wpAny_bind (wpAny_setField_rec he₂ (by simp) fun h₃ he₃ hs₃ => ?_)
      refine wpAny_pure ?_
      simp only [Bool.false_eq_true, if_false]
      exact wpAny_pure (wpAny_pure ⟨_, rfl, wpAny_pure (q2 h₃ he₃ (hs₃.extBut _ _ hne ht₂) fun b o hb e => hs₃.extBut b o hb (hk₂ b o hb e))⟩)
theorem next_items_item {it : Addr} {i : Nat} {e : DictEntry} {ok ov : Value} {Q : Option Value → Shared → Prop} (hit : IsItemIter s.heap it d i es.size ep ok ov) (hm : Ents s.heap d es ep) (hx : es[i]? = some e)
    (hQ : ∀ h', IsItemIterOut h' it d (i + 1) es.size ep e.key e.val s.heap.objs.size → h'.get? s.heap.objs.size = some { cls := .type "tuple", data := .seq #[e.key, e.val] } →
      (∀ b o, b ≠ it → s.heap.get? b = some o → h'.get? b = some o) → Q (some (.ref s.heap.objs.size)) { s with heap := h' }) :
    wpAny (model prog w) A (pyNext (.ref it)) Q E s := next_items_any hit hm hx (.inl ⟨rfl, rfl⟩) (fun _ => hQ) fun h => absurd rfl h
theorem next_items_end {it : Addr} {i : Nat} {f0 f1 ok ov : Value} {Q : Option Value → Shared → Prop} (hh : A.handled = none) (hit : ItemIt s.heap it d i es.size ep f0 f1 ok ov) (hm : Ents s.heap d es ep) (hx : es[i]? = none)
    (hQ : ∀ h', Heap.ExtBut it s.heap h' → Q none { s with heap := h' }) : wpAny (model prog w) A (pyNext (.ref it)) Q E s := by
  obtain ⟨od, hod, hcd, hdd⟩ := id hm
  have hT : s.TypeIs (.ref it) "dict_itemiterator" := ⟨_, hit, rfl⟩
  unfold pyNext
  refine wpAny_bind (wpAny_attempt (wpAny_callSpecial?_slot (name := Str.ofString "__next__") hT F.slot_dict_itemiterator_next
    (wpAny_call_entry F.slot_dict_itemiterator_next hT F.entry_dict_itemiterator_next ?_ (F.args_dict_itemiterator_next_1 _))))
  refine wpAny_bind (wpAny_pure (wpAny_bind (wpAny_bind ?_)))
  first | refine wpAny_bind (wpAny_typeNameOfWhole_itemiter hT (wpAny_pure ?_)) | refine wpAny_bind (wpAny_typeNameOf_itemiter hT (wpAny_pure ?_))
  refine wpAny_bind (wpAny_fieldsOf hit rfl ?_)
  have hown : Builtin.Dict_items.ownsTuple "dict_itemiterator" = true := by decide
  simp -iota only [hown, if_true]
  show wpAny _ _ (if (Value.ref d == Value.none) = true then _ else _) _ _ s
  rw [if_neg (show ¬ ((Value.ref d == Value.none) = true) from Bool.false_ne_true)]
  refine wpAny_bind (wpAny_pure (wpAny_bind (wpAny_dictEntries hod hdd ?_)))
  rw [if_neg (by simp)]
  refine wpAny_bind (wpAny_pure (wpAny_bind (wpAny_dictEpoch hod hdd ?_)))
  rw [if_neg (by simp)]
  refine wpAny_pure ?_
  simp only [show ¬ ((i : Int) < 0) from by (first | lia | omega), if_false, Int.toNat_natCast, hx]
  refine wpAny_bind ?_
  first | refine wpAny_bind (wpAny_typeNameOfWhole_itemiter hT (wpAny_pure ?_)) | refine wpAny_bind (wpAny_typeNameOf_itemiter hT (wpAny_pure ?_))
  show wpAny _ _ (setField (.ref it) 2 .none >>= _) _ _ s
  refine wpAny_bind (wpAny_setField hit rfl (by simp) ?_)
  show wpAny _ _ (newExc (.type "StopIteration") [] >>= _) _ _ _
  refine wpAny_bind ?_
  simp -iota only [newExc, newTuple]
  refine wpAny_bind (wpAny_newObj_type ?_ (by size_fits))
  refine wpAny_bind (m := firstArgMember _ _) (wpAny_of_eq (a := Value.none) (by first | rfl | (simp -iota only [firstArgMember]; rfl)) ?_)
  refine wpAny_newObj_type ?_ (by size_fits)
  simp -iota only [raiseNew]
  refine wpAny_bind (wpAny_handled ?_)
  rw [show A.in1.handled = none from hh]
  refine wpAny_bind (wpAny_pure (wpAny_throw ?_))
  refine wpAny_bind (wpAny_isInstance (T := "StopIteration") (b := true) ⟨_, Heap.get?_push_size _ rfl, rfl⟩ isSubtype_stop ?_)
  exact wpAny_pure (hQ _ (((Heap.SameBut.update ..).extBut.push _).push _))
end

end Mine
end

section
namespace Mine

section
variable {prog : Program} {w : World} {h₀ : Heap} {n : Nat} {env : Env} {ρ : Loc} {σ : Store} {Q : Elems → (Store → Prop) → Store → Prop}

noncomputable def elemD (f : PV × PV → PV) (d : Addr) : Elems := fun σ i => match σ d with | some (.dx _ _ es) => (es[i]?).map f | _ => none
noncomputable def goodD (d : Addr) (ob : Obj) (T : Ty) (es : List (PV × PV)) : Store → Prop := fun σ => σ d = some (.dx ob T es)
theorem elemD_of {f : PV × PV → PV} {d : Addr} {σ : Store} {ob : Obj} {T : Ty} {es : List (PV × PV)} (e : σ d = some (.dx ob T es)) (i : Nat) : elemD f d σ i = (es[i]?).map f := by unfold elemD; rw [e]
/-- the entries of an exact dict -/
theorem dx_ents {h : Heap} {d : Addr} {ob : Obj} {T : Ty} {es : List (PV × PV)} {ents : Array DictEntry} {ep : Nat} (x : Rep prog w h d (.dx ob T es)) (hd : ob.data = .dict ents ep) :
    Ents h d ents ep ∧ ents.size = es.length ∧ ∀ (i : Nat) (p : PV × PV), es[i]? = some p → ∃ e : DictEntry, ents[i]? = some e ∧ Is h e.key p.1 ∧ Is h e.val p.2 := by
  obtain ⟨hg, hs, kvs, ⟨ob', ents', ep', ho, hx, hd', he, his, hn⟩, h1, h2⟩ := x
  rw [hg] at ho; cases ho
  rw [hd] at hd'; cases hd'
  have hk : kvs.length = es.length := by simpa using congrArg List.length h1
  have hsz : ents.size = kvs.length := by
    have : ents.toList.length = kvs.length := by rw [he]; simp
    simpa using this
  refine ⟨⟨ob, hg, hx, hd⟩, by (first | lia | omega), fun i p hp => ?_⟩
  obtain ⟨hlt, _⟩ := List.getElem?_eq_some_iff.mp hp
  have hlt' : i < kvs.length := by (first | lia | omega)
  have e1 : kvs[i].1 = p.1 := by
    have := congrArg (fun l => l[i]?) h1
    simp only [List.getElem?_map, hp, List.getElem?_eq_getElem hlt', Option.map_some, Option.some.injEq] at this
    exact this
  have e2 : ents[i]? = some (@entryOfKey prog w PV PV.decEq (tupKind prog w T) kvs[i]) := by
    have := congrArg (fun l => l[i]?) he
    simpa [List.getElem?_eq_getElem hlt'] using this
  refine ⟨_, e2, ?_, ?_⟩
  · have := (his kvs[i] (List.getElem_mem hlt')).1
    rw [e1] at this
    exact this
  · obtain ⟨v, hv, iv⟩ := h2.get (i := i) (x := p.2) (by simp [hp])
    simp only [List.getElem?_map, List.getElem?_eq_getElem hlt', Option.map_some, Option.some.injEq] at hv
    rw [← hv] at iv
    exact iv

theorem itOk_values (target : Expr) (I d : Addr) {ob : Obj} {T : Ty} {es : List (PV × PV)} {ents : Array DictEntry} {ep : Nat} (hd : ob.data = .dict ents ep) :
    ItOk prog w h₀ target (.ref I) (fun a => a = I) (fun i h => h.IsValIter I d i ents.size ep) (fun i _ h => h.IsValIter I d (i + 1) ents.size ep) (elemD (·.2) d) (goodD d ob T es) where
  keep := fun i h h' ⟨o, ho, r⟩ k => ⟨o, k I o rfl ho, r⟩
  live := fun i h a ⟨o, ho, hc, r⟩ e => by subst e; exact ⟨o, ho, by rw [hc]; decide⟩
  midlive := fun i v h a ⟨o, ho, hc, r⟩ e => by subst e; exact ⟨o, ho, by rw [hc]; decide⟩
  item := fun i σ A s Q x e ok S k he hQ => by
    rw [elemD_of e] at he
    cases hp : es[i]? with
    | none => rw [hp] at he; cases he
    | some p =>
      rw [hp] at he
      simp only [Option.map_some, Option.some.injEq] at he
      subst he
      obtain ⟨hm, hsz, hget⟩ := dx_ents (S.objs _ _ e) hd
      obtain ⟨en, hen, ik, iv⟩ := hget i p hp
      exact next_values_item k hm hen fun h' k' hs => hQ _ h' s.toks (Pres.sameBut hs) k' fun kp => iv.keep kp
  done := fun i σ A s Q e ok S k he hQ => by
    rw [elemD_of e] at he
    have hp : es[i]? = none := by simpa using he
    obtain ⟨hm, hsz, hget⟩ := dx_ents (S.objs _ _ e) hd
    exact next_values_end ok.handled k hm (by simp only [List.getElem?_eq_none_iff] at hp; simp; (first | lia | omega)) fun h' hs => hQ h' s.toks (Pres.ext hs rfl)
  go := fun i v A s Q k hQ => by
    obtain ⟨o, ho, hc, hd⟩ := id k
    exact go_other ho hc hd (by decide) (hQ s.heap k Pres.refl)
  self := fun i A s Q k hQ => by
    exact wpAny_pyIter_valiter k hQ
theorem entry_itemiter_iter : entryFor table "dict_itemiterator.__iter__" = some Builtin.«dict_keyiterator.__iter__» :=
  entryFor_alias (id' := "dict_keyiterator.__iter__") (by kernel_rfl) rfl (by decide +kernel) (by kernel_rfl)
theorem itOk_items (elts : List Expr) (tk : Nat) (tpos : Pos) (I d : Addr) {ob : Obj} {T : Ty} {es : List (PV × PV)} {ents : Array DictEntry} {ep : Nat} (hd : ob.data = .dict ents ep) :
    ItOk prog w h₀ (.Tuple elts tk tpos) (.ref I) (fun a => a = I) (fun i h => ∃ ok ov, IsItemIter h I d i ents.size ep ok ov) (fun i v h => ∃ ok ov a, IsItemIterOut h I d (i + 1) ents.size ep ok ov a ∧ v = .ref a)
      (elemD (fun p => .tup [p.1, p.2]) d) (goodD d ob T es) where
  keep := fun i h h' ⟨ok, ov, k1⟩ k => ⟨ok, ov, k I _ rfl k1⟩
  live := fun i h a ⟨ok, ov, k1⟩ e => by subst e; exact ⟨_, k1, by simp⟩
  midlive := fun i v h a ⟨ok, ov, b, k1, _⟩ e => by subst e; exact ⟨_, k1, by simp⟩
  item := fun i σ A s Q x e ok S ⟨k0, v0, k⟩ he hQ => by
    rw [elemD_of e] at he
    cases hp : es[i]? with
    | none => rw [hp] at he; cases he
    | some p =>
      rw [hp] at he
      simp only [Option.map_some, Option.some.injEq] at he
      subst he
      obtain ⟨hm, hsz, hget⟩ := dx_ents (S.objs _ _ e) hd
      obtain ⟨en, hen, ik, iv⟩ := hget i p hp
      refine next_items_item k hm hen fun h' k' ht hk => hQ _ h' s.toks ⟨trivial, fun b o nb eb => hk b o nb eb⟩ ⟨_, _, _, k', rfl⟩ fun kp => ?_
      exact .tup (vs := [en.key, en.val]) (n := 0) (by simpa using ht) (.cons (ik.keep kp) (.cons (iv.keep kp) .nil))
  done := fun i σ A s Q e ok S ⟨k0, v0, k⟩ he hQ => by
    rw [elemD_of e] at he
    have hp : es[i]? = none := by simpa using he
    obtain ⟨hm, hsz, hget⟩ := dx_ents (S.objs _ _ e) hd
    exact next_items_end ok.handled k hm (by simp only [List.getElem?_eq_none_iff] at hp; simp; (first | lia | omega)) fun h' hs => hQ h' s.toks (Pres.ext hs rfl)
  go := fun i v A s Q ⟨ok, ov, a, k1, e1⟩ hQ => by
    subst e1
    exact wpAny_letOwnedTupleGo_items k1 fun h' ke hs => hQ h' ⟨_, _, ke⟩ (Pres.sameBut hs)
  self := fun i A s Q ⟨ok, ov, k⟩ hQ => by
    have hT : s.TypeIs (.ref I) "dict_itemiterator" := ⟨_, k, rfl⟩
    refine wpAny_pyIter_slot hT F.slot_dict_itemiterator_iter (wpAny_call_entry F.slot_dict_itemiterator_iter hT entry_itemiter_iter ?_ (F.args_dict_itemiterator_iter_1 _))
    show wpAny _ _ (ret (.ref I)) _ _ s
    exact wpAny_pure ⟨_, rfl, "dict_itemiterator", _, hT, F.slot_dict_itemiterator_next.lookup, hQ⟩

/-- a dict of a known object -/
theorem exactly {s : Heap} {d : Addr} {T : Ty} {es : List (PV × PV)} (S : SRel prog w h₀ σ s) (e : σ d = some (.dt T es)) : ∃ ob ents ep, ob.data = .dict ents ep ∧ Ents s d ents ep ∧ (d == sysModules) = false ∧ ents.size = es.length ∧ SRel prog w h₀ (upd σ d (.dx ob T es)) s := by
  have r := S.objs _ _ e
  obtain ⟨hs, kvs, ⟨ob, ents, ep, ho, hx, hd, he, his, hn⟩, h1, h2⟩ := id r
  have r' : Rep prog w s d (.dx ob T es) := ⟨ho, r⟩
  refine ⟨ob, ents, ep, hd, ⟨ob, ho, hx, hd⟩, hs, (dx_ents r' hd).2.1, S.base, trivial, fun a o ea => ?_, fun a o ea => ?_⟩
  · by_cases ha : a = d
    · subst ha; rw [upd_same] at ea; cases ea; exact r'
    · rw [upd_ne _ _ ha] at ea; exact S.objs a o ea
  · by_cases ha : a = d
    · subst ha; exact S.off _ _ e
    · rw [upd_ne _ _ ha] at ea; exact S.off a o ea
theorem ERel.same {σ σ' : Store} {h : Heap} (X : ERel h₀ env ρ σ h) (e : ∀ a, σ a = none → σ' a = none) : ERel h₀ env ρ σ' h :=
  ⟨X.kind, X.glob, X.bins, X.ns, ⟨X.nsoff.1, e _ X.nsoff.2⟩, fun p hp => ⟨(X.cells p hp).1, (X.cells p hp).2.1, e _ (X.cells p hp).2.2.1, (X.cells p hp).2.2.2⟩, X.apart, X.vars⟩
theorem upd_none {σ : Store} {d a : Addr} {o o' : MObj} (e : σ d = some o) (h : σ a = none) : upd σ d o' a = none := by
  rw [upd_ne _ _ (fun q => by rw [q, e] at h; cases h)]; exact h

theorem wi_values {target o : Expr} {apos pos : Pos} (h : WV prog w h₀ n env [] (eval o env) ρ σ fun x σ₁ => ∃ d T es, x = .loc d ∧ σ₁ d = some (.dt T es) ∧ ∀ ob, Q (elemD (·.2) d) (goodD d ob T es) (upd σ₁ d (.dx ob T es)))
    (hbase : attributeBase o "values" env (eval o env) = eval o env := by rfl) (hline : (apos.endLine == pos.line) = true := by rfl) :
    WIter prog w h₀ n env target (.Call (.Attribute o "values" apos) [] [] pos) ρ σ Q := fun A s Q' ok S X hQ =>
  call_method_split hbase rfl hline rfl (WE.before h ok S X (H := []) (fun _ hp => by cases hp) fun v s₁ x σ₁ st S₁ X₁ hh₁ r q => by
    obtain ⟨d, T, es, rfl, e, q⟩ := q
    cases r
    obtain ⟨ob, ents, ep, hd, hm, hs, hsz, S₂⟩ := exactly S₁ e
    refine ⟨"dict", "dict.values", PySem.F.plainAttrs_dict, F.slot_dict_values, F.type_dict_values, hm.typeIs, fun a ha => by cases ha; obtain ⟨o, ho, hx, _⟩ := hm; exact ⟨o, ho, hx.2.1⟩, ?_⟩
    refine Calls.spliced_nil (callWith_builtin (by simp [pures]) (evalArgs_pures ?_))
    refine call_meetsIn F.slot_dict_values hm.typeIs F.entry_dict_values (F.args_dict_values_1 _) (meets_values_ents (es := ents) (ep := ep) hs) ⟨hm, ?_⟩
    have hm' : Ents (s₁.heap.push { cls := .type "dict_values", data := .fields #[.ref d] }) d ents ep := by
      obtain ⟨o, ho, r⟩ := hm; exact ⟨o, Heap.get?_push_of_some _ ho, r⟩
    refine iter_values_ents ⟨_, Heap.get?_push_size _ rfl, rfl, rfl⟩ hm' ?_
    have p1 : Pres NoMod s₁.heap ((s₁.heap.push { cls := .type "dict_values", data := .fields #[.ref d] }).push { cls := .type "dict_valueiterator", data := .fields #[.ref d, .int 0 0, .int ents.size 0, .int ep 0] }) := (Pres.refl.push _).push _
    have X₂ := X₁.same (σ' := upd σ₁ d (.dx ob T es)) (fun a h => upd_none e h)
    obtain ⟨S₃, X₃, hh₃, st₃⟩ := firmStep (H := []) S₂ X₂ (fun _ hp => by cases hp) p1
    have nw := fun c (hc : c = (s₁.heap.push { cls := .type "dict_values", data := .fields #[.ref d] }).objs.size) => newOwn st S₁ X₁ (a := c) (by subst hc; rw [Heap.size_push]; exact Heap.get?_none_of_le (Nat.le_succ _))
    have st2 : Stp NoMod σ s (upd σ₁ d (.dx ob T es)) { s₁ with heap := (s₁.heap.push { cls := .type "dict_values", data := .fields #[.ref d] }).push { cls := .type "dict_valueiterator", data := .fields #[.ref d, .int 0 0, .int ents.size 0, .int ep 0] } } := by
      refine st.trans ⟨⟨_, s₁.toks, rfl⟩, p1.mono fun _ f => f.elim, fun a ⟨o, ea⟩ => .inl ?_⟩ fun a o f => f.elim
      by_cases ha : a = d
      · subst ha; exact ⟨_, e⟩
      · rw [upd_ne _ _ ha] at ea; exact ⟨_, ea⟩
    exact hQ _ _ _ _ _ _ _ _ st2 S₃ X₃ (itOk_values target _ d hd) ⟨_, Heap.get?_push_size _ rfl, rfl, rfl⟩ (fun a ha => (nw a ha).1) ⟨fun a ha => (nw a ha).2.1, fun a ha => upd_none e (nw a ha).2.2.1, fun a ha => (nw a ha).2.2.2⟩ (q ob))
theorem wi_items {o : Expr} {elts : List Expr} {k : Nat} {tpos apos pos : Pos} (h : WV prog w h₀ n env [] (eval o env) ρ σ fun x σ₁ => ∃ d T es, x = .loc d ∧ σ₁ d = some (.dt T es) ∧ ∀ ob, Q (elemD (fun p => .tup [p.1, p.2]) d) (goodD d ob T es) (upd σ₁ d (.dx ob T es)))
    (hbase : attributeBase o "items" env (eval o env) = eval o env := by rfl) (hline : (apos.endLine == pos.line) = true := by rfl) :
    WIter prog w h₀ n env (.Tuple elts k tpos) (.Call (.Attribute o "items" apos) [] [] pos) ρ σ Q := fun A s Q' ok S X hQ =>
  call_method_split hbase rfl hline rfl (WE.before h ok S X (H := []) (fun _ hp => by cases hp) fun v s₁ x σ₁ st S₁ X₁ hh₁ r q => by
    obtain ⟨d, T, es, rfl, e, q⟩ := q
    cases r
    obtain ⟨ob, ents, ep, hd, hm, hs, hsz, S₂⟩ := exactly S₁ e
    refine ⟨"dict", "dict.items", PySem.F.plainAttrs_dict, F.slot_dict_items, F.type_dict_items, hm.typeIs, fun a ha => by cases ha; obtain ⟨o, ho, hx, _⟩ := hm; exact ⟨o, ho, hx.2.1⟩, ?_⟩
    refine Calls.spliced_nil (callWith_builtin (by simp [pures]) (evalArgs_pures ?_))
    refine call_meetsIn F.slot_dict_items hm.typeIs F.entry_dict_items (F.args_dict_items_1 _) (meets_items_ents (es := ents) (ep := ep) hs) ⟨hm, ?_⟩
    have hm' : Ents (s₁.heap.push { cls := .type "dict_items", data := .fields #[.ref d] }) d ents ep := by
      obtain ⟨o, ho, r⟩ := hm; exact ⟨o, Heap.get?_push_of_some _ ho, r⟩
    refine iter_items_ents ⟨_, Heap.get?_push_size _ rfl, rfl, rfl⟩ hm' ?_
    have p1 : Pres NoMod s₁.heap ((s₁.heap.push { cls := .type "dict_items", data := .fields #[.ref d] }).push { cls := .type "dict_itemiterator", data := .fields #[.none, .bool false, .ref d, .int 0 0, .int ents.size 0, .int ep 0, .none, .none] }) := (Pres.refl.push _).push _
    have X₂ := X₁.same (σ' := upd σ₁ d (.dx ob T es)) (fun a h => upd_none e h)
    obtain ⟨S₃, X₃, hh₃, st₃⟩ := firmStep (H := []) S₂ X₂ (fun _ hp => by cases hp) p1
    have nw := fun c (hc : c = (s₁.heap.push { cls := .type "dict_items", data := .fields #[.ref d] }).objs.size) => newOwn st S₁ X₁ (a := c) (by subst hc; rw [Heap.size_push]; exact Heap.get?_none_of_le (Nat.le_succ _))
    have st2 : Stp NoMod σ s (upd σ₁ d (.dx ob T es)) { s₁ with heap := (s₁.heap.push { cls := .type "dict_items", data := .fields #[.ref d] }).push { cls := .type "dict_itemiterator", data := .fields #[.none, .bool false, .ref d, .int 0 0, .int ents.size 0, .int ep 0, .none, .none] } } := by
      refine st.trans ⟨⟨_, s₁.toks, rfl⟩, p1.mono fun _ f => f.elim, fun a ⟨o, ea⟩ => .inl ?_⟩ fun a o f => f.elim
      by_cases ha : a = d
      · subst ha; exact ⟨_, e⟩
      · rw [upd_ne _ _ ha] at ea; exact ⟨_, ea⟩
    exact hQ _ _ _ _ _ _ _ _ st2 S₃ X₃ (itOk_items elts k tpos _ d hd) ⟨_, _, Heap.get?_push_size _ rfl⟩ (fun a ha => (nw a ha).1) ⟨fun a ha => (nw a ha).2.1, fun a ha => upd_none e (nw a ha).2.2.1, fun a ha => (nw a ha).2.2.2⟩ (q ob))
end

end Mine
end

section
namespace Mine

/-- the tree with ranks for answers -/
noncomputable def TW (r : Nat → Int) (n : Nat) {α : Type} : KasT α → (α → Prop) → Prop
  | .ret a, Q => Q a
  | .ask i j k, Q => i < n ∧ j < n ∧ TW r n (k (decide (r i < r j))) Q
theorem TW_bind {r : Nat → Int} {n : Nat} {α β : Type} {f : α → KasT β} {Q : β → Prop} : ∀ t : KasT α, TW r n t (fun a => TW r n (f a) Q) → TW r n (t.bind f) Q
  | .ret a, h => h
  | .ask i j k, h => ⟨h.1, h.2.1, TW_bind _ h.2.2⟩
theorem TW_wp {r : Nat → Int} {n : Nat} {α : Type} {Q : α → Prop} {G : α → Shared → Prop} {cmp : Nat → Nat → (Bool → Shared → Prop) → Shared → Prop} {s : Shared}
    (hc : ∀ i j (C : Bool → Shared → Prop), i < n → j < n → C (decide (r i < r j)) s → cmp i j C s) (hq : ∀ a, Q a → G a s) : ∀ t : KasT α, TW r n t Q → t.kasWp cmp G s
  | .ret a, h => hq a h
  | .ask i j k, h => hc i j _ h.1 h.2.1 (TW_wp hc hq _ h.2.2)

section
variable {r : Nat → Int} {n : Nat}
noncomputable def kp (r : Nat → Int) (p : Array Nat) (k : Nat) : Int := r (p.getD k 0)
noncomputable def PermN (n : Nat) (p : Array Nat) : Prop := p.toList.Perm (List.range n)
noncomputable def Up (r : Nat → Int) (p : Array Nat) (m : Nat) : Prop := ∀ i j, i ≤ j → j < m → kp r p i ≤ kp r p j
noncomputable def Down (r : Nat → Int) (p : Array Nat) (m : Nat) : Prop := ∀ i j, i ≤ j → j < m → kp r p j ≤ kp r p i
theorem PermN.size {p : Array Nat} (h : PermN n p) : p.size = n := by have := h.length_eq; simpa using this
theorem PermN.lt {p : Array Nat} (h : PermN n p) (h1 : 1 ≤ n) (k : Nat) : p.getD k 0 < n := by
  by_cases hk : k < p.size
  · have : p[k] ∈ p.toList := by simp
    have := h.mem_iff.mp this
    have e : p.getD k 0 = p[k] := by simp [Array.getD, hk]
    rw [e]; exact List.mem_range.mp this
  · have e : p.getD k 0 = 0 := by simp [Array.getD, hk]
    rw [e]; (first | lia | omega)
theorem kp_opt (p : Array Nat) (k : Nat) : kp r p k = r ((p[k]?).getD 0) := by
  unfold kp
  congr 1
  by_cases hk : k < p.size <;> simp [Array.getD, hk]
theorem kp_rev {p : Array Nat} {i j : Nat} (hj : j ≤ p.size) (k : Nat) : kp r (kas_rev p i j) k = if i ≤ k ∧ k < j then kp r p (i + j - 1 - k) else kp r p k := by
  rw [kp_opt, kp_opt, kp_opt]
  unfold kas_rev
  rw [getElem?_mirror_all hj]
  split <;> rfl
theorem PermN.rev {p : Array Nat} (h : PermN n p) (i j : Nat) : PermN n (kas_rev p i j) := (Array.perm_iff_toList_perm.mp (mirror_perm _ _ _ _)).trans h
theorem kp_bubble {p : Array Nat} {src d : Nat} (hs : src < p.size) (hd : d ≤ src) (k : Nat) : kp r (bubble p src d) k = if k = src - d then kp r p src else if src - d < k ∧ k ≤ src then kp r p (k - 1) else kp r p k := by
  rw [kp_opt, kp_opt, kp_opt, kp_opt, getElem?_bubble hs d hd]
  split
  · rfl
  · split <;> rfl
theorem PermN.bubble {p : Array Nat} (h : PermN n p) (i j : Nat) : PermN n (bubble p i j) := (Array.perm_iff_toList_perm.mp (bubble_perm _ _ _)).trans h

theorem tw_asc {p : Array Nat} (hp : PermN n p) (h1 : 1 ≤ n) {Q : Nat → Prop} : ∀ (f m : Nat), 1 ≤ m → Up r p m → (∀ m', m ≤ m' → m' ≤ m + f → Up r p m' → (m' = m + f ∨ kp r p m' < kp r p (m' - 1)) → Q m') → TW r n (kas_asc p f m) Q
  | 0, m, hm, hu, hq => hq m (Nat.le_refl _) (Nat.le_refl _) hu (.inl rfl)
  | f + 1, m, hm, hu, hq => by
    refine ⟨hp.lt h1 _, hp.lt h1 _, ?_⟩
    show TW r n (if decide (kp r p m < kp r p (m - 1)) = true then KasT.ret m else kas_asc p f (m + 1)) Q
    by_cases hc : kp r p m < kp r p (m - 1)
    · rw [if_pos (by simpa using hc)]
      exact hq m (Nat.le_refl _) (by (first | lia | omega)) hu (.inr hc)
    · rw [if_neg (by simpa using hc)]
      refine tw_asc hp h1 f (m + 1) (by (first | lia | omega)) (fun i j hij hj => ?_) fun m' a b c d => hq m' (by (first | lia | omega)) (by (first | lia | omega)) c (by rcases d with d | d; exact .inl (by (first | lia | omega)); exact .inr d)
      by_cases hjm : j < m
      · exact hu i j hij hjm
      · have : j = m := by (first | lia | omega)
        subst this
        by_cases him : i = j
        · subst him; exact Int.le_refl _
        · have := hu i (j - 1) (by (first | lia | omega)) (by (first | lia | omega))
          (first | lia | omega)

/-- the tail of equals -/
noncomputable def Flat (r : Nat → Int) (p : Array Nat) (a b : Nat) : Prop := ∀ k, a ≤ k → k < b → kp r p k = kp r p (b - 1)
theorem down_rev {p : Array Nat} {a b m : Nat} (hb : b ≤ p.size) (hf : Flat r p a b) (hd : Down r p m) : Down r (kas_rev p a b) m := by
  have e : ∀ k, kp r (kas_rev p a b) k = kp r p k := fun k => by
    rw [kp_rev hb]
    split
    · rename_i h; rw [hf _ (by omega) (by omega), hf k h.1 h.2]
    · rfl
  intro i j hij hj
  rw [e, e]; exact hd i j hij hj
theorem flat_one (p : Array Nat) (m : Nat) : Flat r p (m + 1 - (0 + 1)) (m + 1) := fun k a b => by
  have : k = m := by (first | lia | omega)
  subst this; rfl
theorem up_one (p : Array Nat) : Up r p 1 := fun i j hij hj => by
  have : i = j := by (first | lia | omega)
  subst this; exact Int.le_refl _
theorem tw_desc (h1 : 1 ≤ n) {Q : Array Nat × Nat × Nat → Prop} : ∀ (f : Nat) (p : Array Nat) (m q : Nat), PermN n p → 1 ≤ m → m + f ≤ n → Down r p m → q + 1 ≤ m → Flat r p (m - (q + 1)) m →
    (∀ p' m' q', PermN n p' → m ≤ m' → m' ≤ n → Down r p' m' → q' + 1 ≤ m' → Flat r p' (m' - (q' + 1)) m' → Q (p', m', q')) → TW r n (kas_desc f p m q) Q
  | 0, p, m, q, hp, hm, hf, hd, hq1, hfl, hq => hq p m q hp (Nat.le_refl _) (by (first | lia | omega)) hd hq1 hfl
  | f + 1, p, m, q, hp, hm, hf, hd, hq1, hfl, hq => by
    have flat1 : ∀ (p' : Array Nat) (k : Nat), Flat r p' k (k + 1) := fun p' k x hx hx2 => by
      have : x = k := by (first | lia | omega)
      subst this; rfl
    refine ⟨hp.lt h1 _, hp.lt h1 _, ?_⟩
    show TW r n (if decide (kp r p m < kp r p (m - 1)) = true then _ else _) Q
    by_cases hc : kp r p m < kp r p (m - 1)
    · rw [if_pos (by simpa using hc)]
      have hd' : Down r p (m + 1) := fun i j hij hj => by
        by_cases hjm : j < m
        · exact hd i j hij hjm
        · have : j = m := by (first | lia | omega)
          subst this
          by_cases him : i = j
          · subst him; exact Int.le_refl _
          · have := hd i (j - 1) (by (first | lia | omega)) (by (first | lia | omega)); (first | lia | omega)
      split
      · refine tw_desc h1 f _ (m + 1) 0 (hp.rev _ _) (by (first | lia | omega)) (by (first | lia | omega)) (down_rev (by rw [hp.size]; (first | lia | omega)) hfl hd') (by (first | lia | omega)) (by simpa using flat1 _ m) fun p' m' q' a b c d e g => hq p' m' q' a (by (first | lia | omega)) c d e g
      · refine tw_desc h1 f _ (m + 1) 0 hp (by (first | lia | omega)) (by (first | lia | omega)) hd' (by (first | lia | omega)) (by simpa using flat1 _ m) fun p' m' q' a b c d e g => hq p' m' q' a (by (first | lia | omega)) c d e g
    · rw [if_neg (by simpa using hc)]
      refine ⟨hp.lt h1 _, hp.lt h1 _, ?_⟩
      show TW r n (if decide (kp r p (m - 1) < kp r p m) = true then _ else _) Q
      by_cases hc2 : kp r p (m - 1) < kp r p m
      · rw [if_pos (by simpa using hc2)]
        exact hq p m q hp (Nat.le_refl _) (by (first | lia | omega)) hd hq1 hfl
      · rw [if_neg (by simpa using hc2)]
        have he : kp r p m = kp r p (m - 1) := by (first | lia | omega)
        refine tw_desc h1 f _ (m + 1) (q + 1) hp (by (first | lia | omega)) (by (first | lia | omega)) (fun i j hij hj => ?_) (by (first | lia | omega)) (fun k hk hk2 => ?_) fun p' m' q' a b c d e g => hq p' m' q' a (by (first | lia | omega)) c d e g
        · by_cases hjm : j < m
          · exact hd i j hij hjm
          · have : j = m := by (first | lia | omega)
            subst this
            by_cases him : i = j
            · subst him; exact Int.le_refl _
            · have := hd i (j - 1) (by (first | lia | omega)) (by (first | lia | omega)); (first | lia | omega)
        · have e1 : m + 1 - 1 = m := by (first | lia | omega)
          rw [e1]
          by_cases hkm : k < m
          · rw [hfl k (by (first | lia | omega)) hkm, he]
          · have : k = m := by (first | lia | omega)
            subst this; rfl
theorem up_of_down {p : Array Nat} {m : Nat} (hm : m ≤ p.size) (hd : Down r p m) : Up r (kas_rev p 0 m) m := fun i j hij hj => by
  rw [kp_rev hm, kp_rev hm, if_pos ⟨Nat.zero_le _, by omega⟩, if_pos ⟨Nat.zero_le _, hj⟩]
  exact hd _ _ (by omega) (by omega)
theorem tw_tail3 (h1 : 1 ≤ n) {p : Array Nat} {m : Nat} {Q : Nat × Array Nat → Prop} (hp : PermN n p) (hm : 1 ≤ m) (hmn : m ≤ n) (hd : Down r p m) (hq : ∀ m' p', PermN n p' → 1 ≤ m' → m' ≤ n → Up r p' m' → Q (m', p')) : TW r n (kas_tail3 m n p) Q := by
  unfold kas_tail3
  refine TW_bind _ (tw_asc (hp.rev _ _) h1 (n - m) m hm (up_of_down (by rw [hp.size]; exact hmn) hd) fun m' a b c d => ?_)
  exact hq m' _ (hp.rev _ _) (by (first | lia | omega)) (by (first | lia | omega)) c
theorem tw_descPart (h1 : 1 ≤ n) {p : Array Nat} {m : Nat} {Q : Nat × Array Nat → Prop} (hp : PermN n p) (hmn : m + 1 ≤ n) (hd : Down r p (m + 1)) (hq : ∀ m' p', PermN n p' → 1 ≤ m' → m' ≤ n → Up r p' m' → Q (m', p')) : TW r n (kas_descPart m n p) Q := by
  unfold kas_descPart
  refine TW_bind _ (tw_desc h1 (n - (m + 1)) p (m + 1) 0 hp (by (first | lia | omega)) (by (first | lia | omega)) hd (by (first | lia | omega)) (flat_one p m) fun p' m' q' a b c d e g => ?_)
  dsimp only
  split
  · exact tw_tail3 h1 (a.rev _ _) (by (first | lia | omega)) c (down_rev (by rw [a.size]; exact c) g d) hq
  · exact tw_tail3 h1 a (by (first | lia | omega)) c d hq
theorem tw_count (h2 : 2 ≤ n) {p : Array Nat} {Q : Nat × Array Nat → Prop} (hp : PermN n p) (hq : ∀ m' p', PermN n p' → 1 ≤ m' → m' ≤ n → Up r p' m' → Q (m', p')) : TW r n (kas_count n p) Q := by
  unfold kas_count
  refine TW_bind _ (tw_asc hp (by (first | lia | omega)) (n - 1) 1 (Nat.le_refl _) (up_one p) fun m a b c d => ?_)
  split
  · exact hq m p hp a (by (first | lia | omega)) c
  · rename_i hne
    have hne : m ≠ n := by simpa using hne
    have hlt : kp r p m < kp r p (m - 1) := by rcases d with d | d; (first | lia | omega); exact d
    split
    · rename_i hm1
      refine ⟨hp.lt (by (first | lia | omega)) _, hp.lt (by (first | lia | omega)) _, ?_⟩
      show TW r n (if decide (kp r p 0 < kp r p (m - 1)) = true then _ else _) Q
      by_cases hc : kp r p 0 < kp r p (m - 1)
      · rw [if_pos (by simpa using hc)]
        exact hq m p hp a (by (first | lia | omega)) c
      · rw [if_neg (by simpa using hc)]
        have fl : Flat r p 0 m := fun k _ hk => by
          have := c 0 k (Nat.zero_le _) hk
          have := c k (m - 1) (by (first | lia | omega)) (by (first | lia | omega))
          (first | lia | omega)
        have d0 : Down r p (m + 1) := fun i j hij hj => by
          by_cases hjm : j < m
          · rw [fl i (Nat.zero_le _) (by (first | lia | omega)), fl j (Nat.zero_le _) hjm]; exact Int.le_refl _
          · have : j = m := by (first | lia | omega)
            subst this
            by_cases him : i = j
            · subst him; exact Int.le_refl _
            · rw [fl i (Nat.zero_le _) (by (first | lia | omega))]; (first | lia | omega)
        exact tw_descPart (by (first | lia | omega)) (hp.rev _ _) (by (first | lia | omega)) (down_rev (by rw [hp.size]; (first | lia | omega)) fl d0) hq
    · have hm1 : m = 1 := by (first | lia | omega)
      subst hm1
      refine tw_descPart (by (first | lia | omega)) hp (by (first | lia | omega)) (fun i j hij hj => ?_) hq
      by_cases hij' : i = j
      · subst hij'; exact Int.le_refl _
      · have e1 : i = 0 := by (first | lia | omega)
        have e2 : j = 1 := by (first | lia | omega)
        subst e1; subst e2
        have : (1 : Nat) - 1 = 0 := rfl
        rw [this] at hlt; (first | lia | omega)
theorem tw_place (h1 : 1 ≤ n) {p : Array Nat} {k : Nat} (hp : PermN n p) (hu : Up r p k) {Q : Nat → Prop} : ∀ (f l x : Nat), l ≤ x → x ≤ k → x ≤ l + f → (∀ i, i < l → kp r p i ≤ kp r p k) → (∀ i, x ≤ i → i < k → kp r p k < kp r p i) →
    (∀ l', l' ≤ k → (∀ i, i < l' → kp r p i ≤ kp r p k) → (∀ i, l' ≤ i → i < k → kp r p k < kp r p i) → Q l') → TW r n (kas_place p k f l x) Q
  | 0, l, x, a, b, c, d, e, hq => by
    have : l = x := by (first | lia | omega)
    subst this
    exact hq l b d e
  | f + 1, l, x, a, b, c, d, e, hq => by
    show TW r n (if l ≥ x then KasT.ret l else KasT.ask (p.getD k 0) (p.getD ((l + x) / 2) 0) fun c => if c = true then kas_place p k f l ((l + x) / 2) else kas_place p k f ((l + x) / 2 + 1) x) Q
    split
    · have : l = x := by (first | lia | omega)
      subst this
      exact hq l b d e
    · rename_i hlx
      refine ⟨hp.lt h1 _, hp.lt h1 _, ?_⟩
      show TW r n (if decide (kp r p k < kp r p ((l + x) / 2)) = true then _ else _) Q
      by_cases hc : kp r p k < kp r p ((l + x) / 2)
      · rw [if_pos (by simpa using hc)]
        refine tw_place h1 hp hu f l ((l + x) / 2) (by (first | lia | omega)) (by (first | lia | omega)) (by (first | lia | omega)) d (fun i hi hik => ?_) hq
        have := hu ((l + x) / 2) i hi hik; (first | lia | omega)
      · rw [if_neg (by simpa using hc)]
        refine tw_place h1 hp hu f ((l + x) / 2 + 1) x (by (first | lia | omega)) b (by (first | lia | omega)) (fun i hi => ?_) e hq
        have := hu i ((l + x) / 2) (by (first | lia | omega)) (by (first | lia | omega)); (first | lia | omega)
theorem tw_bin (h1 : 1 ≤ n) {Q : Array Nat → Prop} : ∀ (f : Nat) (p : Array Nat) (k : Nat), PermN n p → k + f = n → Up r p k → (∀ p', PermN n p' → Up r p' n → Q p') → TW r n (kas_bin f p k) Q
  | 0, p, k, hp, hk, hu, hq => by
    have : k = n := by (first | lia | omega)
    subst this; exact hq p hp hu
  | f + 1, p, k, hp, hk, hu, hq => by
    unfold kas_bin
    refine TW_bind _ (tw_place h1 hp hu k 0 k (Nat.zero_le _) (Nat.le_refl _) (by (first | lia | omega)) (fun i hi => by (first | lia | omega)) (fun i h h' => by (first | lia | omega)) fun l a b c => ?_)
    refine tw_bin h1 f _ (k + 1) (hp.bubble _ _) (by (first | lia | omega)) (fun i j hij hj => ?_) hq
    have hks : k < p.size := by rw [hp.size]; (first | lia | omega)
    have e : k - (k - l) = l := by (first | lia | omega)
    rw [kp_bubble hks (by (first | lia | omega)), kp_bubble hks (by (first | lia | omega)), e]
    by_cases h1 : i = l
    · rw [if_pos h1]
      by_cases h2 : j = l
      · rw [if_pos h2]; exact Int.le_refl _
      · rw [if_neg h2, if_pos (by (first | lia | omega))]
        have := c (j - 1) (by (first | lia | omega)) (by (first | lia | omega)); (first | lia | omega)
    · rw [if_neg h1]
      by_cases h2 : j = l
      · rw [if_pos h2, if_neg (by (first | lia | omega))]
        exact b i (by (first | lia | omega))
      · rw [if_neg h2]
        by_cases h3 : l < i ∧ i ≤ k
        · rw [if_pos h3, if_pos (by (first | lia | omega))]
          exact hu _ _ (by (first | lia | omega)) (by (first | lia | omega))
        · rw [if_neg h3]
          by_cases h4 : l < j ∧ j ≤ k
          · rw [if_pos h4]
            exact hu _ _ (by (first | lia | omega)) (by (first | lia | omega))
          · rw [if_neg h4]
            exact hu _ _ hij (by (first | lia | omega))
theorem tw_sort (h2 : 2 ≤ n) {Q : Array Nat → Prop} (hq : ∀ p, PermN n p → Up r p n → Q p) : TW r n (kas_sort n) Q := by
  unfold kas_sort
  refine TW_bind _ (tw_count h2 (by unfold PermN; simp) fun m p hp hm hmn hu => ?_)
  dsimp only
  have e : max m 1 = m := by (first | lia | omega)
  split
  · rw [e]
    exact tw_bin (by (first | lia | omega)) (n - m) p m hp (by (first | lia | omega)) hu hq
  · have : m = n := by (first | lia | omega)
    subst this
    exact hq p hp hu
end

end Mine
end

section
namespace Mine

noncomputable def Ext (h₀ h : Heap) : Prop := ∀ b o, h₀.get? b = some o → h.get? b = some o
/-- a function of the text's own -/
structure FnOk (h₀ : Heap) (fa : Addr) (fd : FuncData) (body : List Stmt) : Prop where
  obj : ∃ o, h₀.get? fa = some o ∧ o.data = .func fd
  body : fd.body = .stmts body
  lim : ∀ h, Ext h₀ h → h.NoLimit
  code : ∀ h, Ext h₀ h → h.CodeRec fd.code fd.qualname
  kind : fd.scope.kind = .function
  gen : fd.scope.isGenerator = false
  cor : fd.scope.isCoroutine = false
  glob : fd.globals = mainGlobals
  bins : fd.builtins = builtinsNs
  clo : fd.closure = []

theorem bindL_not {k : Str → Option NameKind} {x : Str} : ∀ (b : List (Str × Value)) (m : Str → Option Value), x ∉ b.map (·.1) → bindL k b m x = m x
  | [], m, _ => rfl
  | (n, v) :: r, m, h => by
    simp only [List.map_cons, List.mem_cons, not_or] at h
    unfold bindL
    rw [bindL_not r _ h.2]
    split
    · simp [h.1]
    · rfl
theorem bindL_mem {k : Str → Option NameKind} {x : Str} {v : Value} : ∀ (b : List (Str × Value)) (m : Str → Option Value), (b.map (·.1)).Nodup → (x, v) ∈ b → k x = some .local → bindL k b m x = some v
  | (n, w) :: r, m, hn, h, hk => by
    simp only [List.map_cons, List.nodup_cons] at hn
    unfold bindL
    rcases List.mem_cons.mp h with e | h
    · cases e
      rw [bindL_not r _ hn.1, if_pos hk]; simp
    · exact bindL_mem r _ hn.2 h hk
theorem bindC_not {k : Str → Option NameKind} {x : Str} : ∀ (b : List (Str × Value)) (m : Str → Option Value), x ∉ b.map (·.1) → bindC k b m x = m x
  | [], m, _ => rfl
  | (n, v) :: r, m, h => by
    simp only [List.map_cons, List.mem_cons, not_or] at h
    unfold bindC
    rw [bindC_not r _ h.2]
    split
    · rfl
    · simp [h.1]
theorem bindC_mem {k : Str → Option NameKind} {x : Str} {v : Value} : ∀ (b : List (Str × Value)) (m : Str → Option Value), (b.map (·.1)).Nodup → (x, v) ∈ b → k x ≠ some .local → bindC k b m x = some v
  | (n, w) :: r, m, hn, h, hk => by
    simp only [List.map_cons, List.nodup_cons] at hn
    unfold bindC
    rcases List.mem_cons.mp h with e | h
    · cases e
      rw [bindC_not r _ hn.1, if_neg hk]; simp
    · exact bindC_mem r _ hn.2 h hk
theorem lookup_pairs {h : Heap} : ∀ {b : List (Str × Value)} {ps : Loc}, b.map (·.1) = ps.map (·.1) → IsAll h (b.map (·.2)) (ps.map (·.2)) → ∀ x p, ps.lookup x = some p → ∃ v, (x, v) ∈ b ∧ Is h v p
  | [], [], _, _, x, p, e => by simp at e
  | (n, v) :: b, (n', q) :: ps, e, i, x, p, hl => by
    simp only [List.map_cons, List.cons.injEq] at e i
    cases i with
    | cons a r =>
      by_cases hx : x = n'
      · subst hx
        rw [lookup_cons_self] at hl; cases hl
        exact ⟨v, by rw [e.1]; exact .head _, a⟩
      · have hb : (x == n') = false := beq_eq_false_iff_ne.mpr hx
        simp only [List.lookup_cons, hb] at hl
        obtain ⟨u, hu, iu⟩ := lookup_pairs e.2 r x p hl
        exact ⟨u, .tail _ hu, iu⟩
  | [], _ :: _, e, _, _, _, _ => by simp at e
  | _ :: _, [], e, _, _, _, _ => by simp at e

section
variable {prog : Program} {w : World} {h₀ : Heap} {n : Nat} {env : Env} {ρ : Loc} {σ : Store} {Q : PV → Store → Prop}
theorem Ok.deeper {A : Around} (x : Ok (n + 1) A) (e : Env) : Ok n (A.deeper e) := ⟨x.handled, by have := x.depth; show A.depth + 1 + 2 * n ≤ 500; (first | lia | omega), by have := x.units; show A.units + 3 + 40 * n ≤ 9000; (first | lia | omega)⟩
/-- how parameters are bound -/
noncomputable def Binds (h₀ : Heap) (fd : FuncData) (xs : List PV) (ps : Loc) : Prop :=
  ∀ s vs, Ext h₀ s.heap → IsAll s.heap vs xs → ∃ b : List (Str × Value), BindsTo s fd ⟨vs, []⟩ b ∧ b.map (·.1) = ps.map (·.1) ∧ IsAll s.heap (b.map (·.2)) (ps.map (·.2))
theorem lookup_nodup {l : List (Str × Addr)} (h : (l.map (·.1)).Nodup) {q : Str × Addr} (hq : q ∈ l) : l.lookup q.1 = some q.2 := by
  induction l with
  | nil => cases hq
  | cons a l ih =>
    simp only [List.map_cons, List.nodup_cons] at h
    obtain ⟨an, ac⟩ := a
    obtain ⟨qn, qc⟩ := q
    rcases List.mem_cons.mp hq with e | hq'
    · cases e; simp [List.lookup]
    · have hne : (qn == an) = false := beq_eq_false_iff_ne.mpr fun e => h.1 (by subst e; exact List.mem_map.mpr ⟨(qn, qc), hq', rfl⟩)
      show List.lookup qn ((an, ac) :: l) = _
      unfold List.lookup
      rw [hne]
      exact ih h.2 hq'
theorem lcall_def {fa : Addr} {fd : FuncData} {body : List Stmt} {xs : List PV} {ps : Loc} (f : FnOk h₀ fa fd body) (hb : Binds h₀ fd xs ps) (hn : (ps.map (·.1)).Nodup) (hcn : ∀ k, ((cellsFrom k fd.scope.names []).map (·.1)).Nodup)
    (hk : ∀ p ∈ ps, fd.scope.names.lookup p.1 = some .local ∨ (fd.scope.names.lookup p.1 = some .cell ∧ ∀ k, ((cellsFrom k fd.scope.names []).lookup p.1).isSome = true))
    (h : ∀ L, WS prog w h₀ n (callEnvC fd L fa) (execs body (callEnvC fd L fa)) ps σ fun r ρ' σ' => match r with | .ret v => Q v σ' | .next => Q .none σ' | _ => False) :
    LCall prog w h₀ (n + 1) (.ref fa) [] xs σ Q := fun env ρ H pos fs vs l1 l2 hp A s ok S X hh => by
  have : fs = [] := List.length_eq_zero_iff.mp l1
  subst this
  have iv : IsAll s.heap vs xs := Held.isAll (H := []) l2 fun p hp' => hh p (hp p (by simpa using hp'))
  obtain ⟨o, ho, hd⟩ := f.obj
  refine callWith_function (o := o) (fd := fd) (evalArgs_pures ⟨⟨S.base _ _ ho, hd⟩, wpAny_call ?_⟩)
  simp only [List.nil_append]
  obtain ⟨b, hbind, e1, e2⟩ := hb s vs S.base iv
  have kinds : ∀ x ∈ b, fd.scope.names.lookup x.1 = some .local ∨ (fd.scope.names.lookup x.1 = some .cell ∧ ∀ k, ((cellsFrom k fd.scope.names []).lookup x.1).isSome = true) := fun x hx => by
    have : x.1 ∈ ps.map (·.1) := by rw [← e1]; exact List.mem_map_of_mem hx
    obtain ⟨p, hp1, hp2⟩ := List.mem_map.mp this
    rw [← hp2]; exact hk p hp1
  refine codeAny_call_function (by have := ok.depth; show A.depth < 1000; (first | lia | omega)) (S.base _ _ ho) hd f.cor f.gen f.body (f.code _ S.base) (hbind _ _ _ _ ?_)
  rw [f.clo]
  refine wpAny_newFunctionEnv_cells f.kind (fun x hx => (kinds x hx).imp id fun y => ⟨y.1, y.2 _⟩) fun env' he s' x => ?_
  subst he
  refine ⟨(f.lim _ S.base).keeps x.toInCall.keep, codeAny_func ?_⟩
  have x' : InCallC s (callEnvC fd s.heap.objs.size fa).locals (bindL (callEnvC fd s.heap.objs.size fa).kindOf b fun _ => none) (callEnvC fd s.heap.objs.size fa).cells (bindC (callEnvC fd s.heap.objs.size fa).kindOf b fun _ => none) s' := x
  show wpAny _ (A.deeper (callEnvC fd s.heap.objs.size fa)) (execs body (callEnvC fd s.heap.objs.size fa)) _ _ s'
  generalize hE : callEnvC fd s.heap.objs.size fa = E at x' ⊢
  have hL : E.locals = s.heap.objs.size := by rw [← hE]; rfl
  have hsc : E.scope = fd.scope := by rw [← hE]; rfl
  obtain ⟨h1, tk1, rfl⟩ := x'.toInCall.same
  have p : Pres NoMod s.heap h1 := ⟨trivial, fun c oc _ e => x'.toInCall.keep c oc e⟩
  obtain ⟨S₁, X₁, hh₁, st₁⟩ := firmStep (H := []) S X (fun _ hp => by cases hp) p
  have kp : TupKeep s.heap h1 := fun c its k e => p.2 c _ (fun f => f) e
  have cellFresh : ∀ q ∈ E.cells, s.heap.get? q.2 = none ∧ q.2 ≠ E.locals := fun q hq => by
    have := x'.above q.1 q.2 hq
    rw [hL] at this
    exact ⟨Heap.get?_none_of_le (Nat.le_of_lt this), by rw [hL]; exact Nat.ne_of_gt this⟩
  have locFresh : s.heap.get? E.locals = none := by rw [hL]; exact fresh _
  have base_none : ∀ a, s.heap.get? a = none → h₀.get? a = none := fun a e => by
    cases q : h₀.get? a with
    | none => rfl
    | some ob => have := S.base _ _ q; rw [e] at this; cases this
  have XE : ERel h₀ E ps σ h1 := by
    refine ⟨by rw [hsc]; exact f.kind, by rw [← hE]; exact f.glob, by rw [← hE]; exact f.bins, ⟨_, x'.toInCall.ns⟩, ⟨base_none _ locFresh, free_of S locFresh⟩, fun q hq => ⟨?_, base_none _ (cellFresh q hq).1, free_of S (cellFresh q hq).1, (cellFresh q hq).2⟩, x'.apart, fun y v e => ?_⟩
    · -- the cell stands there
      have hcnE : (E.cells.map (·.1)).Nodup := by rw [← hE]; exact hcn _
      exact ⟨_, x'.cell q.1 q.2 (lookup_nodup hcnE hq)⟩
    · obtain ⟨val, hm, hi⟩ := lookup_pairs e1 e2 y v e
      refine ⟨val, ?_, hi.keep kp⟩
      rcases kinds _ hm with hkl | ⟨hkc, hcl⟩
      · have hkE : E.kindOf y = some .local := by show E.scope.names.lookup y = _; rw [hsc]; exact hkl
        exact .inl ⟨hkE, _, x'.toInCall.ns, bindL_mem b _ (by rw [e1]; exact hn) hm hkE⟩
      · have hkE : E.kindOf y = some .cell := by show E.scope.names.lookup y = _; rw [hsc]; exact hkc
        have hcl' : (E.cells.lookup y).isSome = true := by rw [← hE]; exact hcl _
        obtain ⟨c, hc⟩ := Option.isSome_iff_exists.mp hcl'
        refine .inr ⟨.inl hkE, c, hc, ?_⟩
        have := x'.cell y c hc
        rw [bindC_mem b _ (by rw [e1]; exact hn) hm (by rw [hkE]; simp)] at this
        exact this
  have ws := h s.heap.objs.size
  rw [hE] at ws
  refine WP.go (ownMod E) ws (Ok.deeper ok E) (s := { s with heap := h1, toks := tk1 }) S₁ XE (fun _ hp => by cases hp) fun r s₂ br ρ₂ σ₂ st₂ S₂ X₂ hh₂ rr q => ?_
  -- back in the caller's frame
  have frs : ∀ a, Own E a → s.heap.get? a = none := fun a ha => by
    rcases ha with rfl | ⟨q, hq, rfl⟩
    · exact locFresh
    · exact (cellFresh q hq).1
  have stf : Stp NoMod σ s σ₂ s₂ := by
    obtain ⟨⟨h2, tk2, rfl⟩, p2, sub2⟩ := st₂
    refine ⟨⟨h2, tk2, rfl⟩, ⟨trivial, fun a o na ea => p2.2 a o (fun d => ?_) (p.2 a o (fun f => f) ea)⟩, fun a d => ?_⟩
    · rcases d with d | d
      · exact na (.inl d)
      · rw [frs a d] at ea; cases ea
    · rcases sub2 a d with d | d
      · exact .inl d
      · cases e : s.heap.get? a with
        | none => exact .inr rfl
        | some o => have := p.2 a o (fun f => f) e; rw [show h1.get? a = none from d] at this; cases this
  have k2 := stf.tupKeep (noMod env) S X
  have Xf : ERel h₀ env ρ σ₂ s₂.heap := X.step stf.pres k2 (fun d => d.elim (fun ⟨o, e⟩ => by have := X.nsoff.2; rw [e] at this; cases this) id)
    (fun q hq d => d.elim (fun ⟨o, e⟩ => by have := (X.cells q hq).2.2.1; rw [e] at this; cases this) id) stf.sub
  cases rr with
  | next => exact Post.of (R := Is) (b := .none) stf S₂ Xf .none ⟨rfl, q⟩
  | brk => exact q.elim
  | cont => exact q.elim
  | ret i => exact Post.of (R := Is) stf S₂ Xf i ⟨rfl, q⟩

-- names of the top
/-- a name of the top: this object -/
noncomputable def TopIs (h₀ : Heap) (x : Str) (f : Value) : Prop :=
  ∀ (M : Model) A E s (env : Env) (Q : Value → Shared → Prop), Ext h₀ s.heap → env.globals = mainGlobals → env.builtins = builtinsNs → Q f s → wpAny M A (loadGlobal env x) Q E s
theorem TopIs.global {x : Str} {f : Value} {m : Str → Option Value} (hg : h₀.Ns mainGlobals m) (hv : m x = some f) : TopIs h₀ x f := fun M A E s env Q e g b q =>
  loadGlobal_global (by rw [g]; exact hg.at' fun o ho => e _ _ ho) hv q
theorem TopIs.builtin {x : Str} {f : Value} {m mb : Str → Option Value} (hg : h₀.Ns mainGlobals m) (hn : m x = none) (hb : h₀.Ns builtinsNs mb) (hv : mb x = some f) : TopIs h₀ x f := fun M A E s env Q e g b q =>
  loadGlobal_builtin (by rw [g]; exact hg.at' fun o ho => e _ _ ho) hn (by rw [b]; exact hb.at' fun o ho => e _ _ ho) hv q
theorem gname {x : Str} {f : Value} (t : TopIs h₀ x f) (hk : env.kindOf x = some .globalImplicit) (hd : (x == ("__debug__" : Str)) = false := by decide) : GName prog w h₀ env ρ x f := fun A s σ p Q S X q =>
  Name_function_global X.kind hk (t _ _ _ _ _ _ S.base X.glob X.bins q) hd
end

end Mine
end

section
namespace Mine

-- the order of values
theorem str_ext {a b : Str} (h : a.cps.toList = b.cps.toList) : a = b := by
  cases a; cases b; simp only at h; congr; exact Array.toList_inj.mp h
mutual
theorem lt_irrefl : ∀ x : PV, PV.lt x x = false
  | .none => rfl
  | .bool _ => rfl
  | .int i => decide_eq_false (Int.lt_irrefl i)
  | .str s => decide_eq_false (List.lt_irrefl _)
  | .tup xs => lts_irrefl xs
  | .loc _ => rfl
theorem lts_irrefl : ∀ xs : List PV, PV.lts xs xs = false
  | [] => rfl
  | x :: xs => by
    have : PV.beq x x = true := (PV.beq_iff x x).mpr rfl
    rw [lts_cons, if_pos this]
    exact lts_irrefl xs
end
mutual
theorem lt_total : ∀ x y : PV, Ord x y → PV.lt x y = false → PV.lt y x = false → x = y
  | .int a, .int b, _, h1, h2 => congrArg PV.int (Int.le_antisymm (Int.not_lt.mp (of_decide_eq_false h2)) (Int.not_lt.mp (of_decide_eq_false h1)))
  | .str a, .str b, _, h1, h2 => congrArg PV.str (str_ext (List.le_antisymm (List.not_lt.mp (of_decide_eq_false h2)) (List.not_lt.mp (of_decide_eq_false h1))))
  | .tup xs, .tup ys, o, h1, h2 => by rw [lts_total xs ys o h1 h2]
  | .none, y, o, _, _ => by cases y <;> exact o.elim
  | .bool _, y, o, _, _ => by cases y <;> exact o.elim
  | .loc _, y, o, _, _ => by cases y <;> exact o.elim
theorem lts_total : ∀ xs ys : List PV, Ords xs ys → PV.lts xs ys = false → PV.lts ys xs = false → xs = ys
  | [], [], _, _, _ => rfl
  | [], y :: ys, _, h, _ => absurd h.symm Bool.false_ne_true
  | x :: xs, [], _, _, h => absurd h.symm Bool.false_ne_true
  | x :: xs, y :: ys, o, h1, h2 => by
    rw [lts_cons] at h1 h2
    have sym : PV.beq y x = PV.beq x y := by rw [Bool.eq_iff_iff, PV.beq_iff, PV.beq_iff]; exact eq_comm
    rw [sym] at h2
    cases hb : PV.beq x y
    · simp only [hb, Bool.false_eq_true, if_false] at h1 h2
      have := lt_total x y o.1 h1 h2
      rw [(PV.beq_iff x y).mpr this] at hb; cases hb
    · simp only [hb, if_true] at h1 h2
      rw [(PV.beq_iff x y).mp hb, lts_total xs ys o.2 h1 h2]
end
mutual
theorem lt_trans : ∀ x y z : PV, PV.lt x y = true → PV.lt y z = true → PV.lt x z = true
  | .int a, y, z, h1, h2 => by
    cases y <;> first | exact absurd h1 Bool.false_ne_true | skip
    cases z <;> first | exact absurd h2 Bool.false_ne_true | exact decide_eq_true (Int.lt_trans (of_decide_eq_true h1) (of_decide_eq_true h2))
  | .str a, y, z, h1, h2 => by
    cases y <;> first | exact absurd h1 Bool.false_ne_true | skip
    cases z <;> first | exact absurd h2 Bool.false_ne_true | exact decide_eq_true (List.lt_trans (of_decide_eq_true h1) (of_decide_eq_true h2))
  | .tup xs, y, z, h1, h2 => by
    cases y <;> first | exact absurd h1 Bool.false_ne_true | skip
    cases z <;> first | exact absurd h2 Bool.false_ne_true | exact lts_trans xs _ _ h1 h2
  | .none, y, z, h1, _ => absurd h1 Bool.false_ne_true
  | .bool _, y, z, h1, _ => absurd h1 Bool.false_ne_true
  | .loc _, y, z, h1, _ => absurd h1 Bool.false_ne_true
theorem lts_trans : ∀ xs ys zs : List PV, PV.lts xs ys = true → PV.lts ys zs = true → PV.lts xs zs = true
  | [], [], [], h1, _ => absurd h1 Bool.false_ne_true
  | [], y :: ys, [], _, h2 => absurd h2 Bool.false_ne_true
  | [], ys, z :: zs, _, _ => rfl
  | x :: xs, [], zs, h1, _ => absurd h1 Bool.false_ne_true
  | x :: xs, y :: ys, [], _, h2 => absurd h2 Bool.false_ne_true
  | x :: xs, y :: ys, z :: zs, h1, h2 => by
    rw [lts_cons] at h1 h2 ⊢
    cases hb : PV.beq x y
    · simp only [hb, Bool.false_eq_true, if_false] at h1
      cases hc : PV.beq y z
      · simp only [hc, Bool.false_eq_true, if_false] at h2
        have h3 := lt_trans x y z h1 h2
        cases hd : PV.beq x z
        · simpa using h3
        · rw [(PV.beq_iff x z).mp hd, lt_irrefl] at h3; cases h3
      · have := (PV.beq_iff y z).mp hc
        subst this
        rw [hb]; simpa using h1
    · have := (PV.beq_iff x y).mp hb
      subst this
      simp only [hb, if_true] at h1
      cases hc : PV.beq x z
      · simp only [hc, Bool.false_eq_true, if_false] at h2 ⊢; exact h2
      · simp only [hc, if_true] at h2 ⊢; exact lts_trans xs ys zs h1 h2
end
theorem lt_asymm {x y : PV} (h : PV.lt x y = true) : PV.lt y x = false := by
  cases e : PV.lt y x
  · rfl
  · have := lt_trans x y x h e; rw [lt_irrefl] at this; cases this

-- types that have an order
mutual
noncomputable def Ty.ord : Ty → Bool
  | .bool => false
  | .tup ts => Ty.ords ts
  | .seq t => t.ord
  | _ => true
noncomputable def Ty.ords : List Ty → Bool
  | [] => true
  | t :: ts => t.ord && Ty.ords ts
end
mutual
theorem HasTy.ord : ∀ (t : Ty) (x y : PV), t.ord = true → HasTy t x → HasTy t y → Ord x y
  | t, x, y, ho, hx, hy => by
    cases t <;> cases x <;> (first | exact False.elim hx | skip) <;> cases y <;> first | exact False.elim hy | exact absurd ho Bool.false_ne_true | exact True.intro | exact HasTys.ord _ _ _ ho hx hy | exact AllTy.ord _ _ _ (by exact ho) hx hy
theorem HasTys.ord : ∀ (ts : List Ty) (xs ys : List PV), Ty.ords ts = true → HasTys ts xs → HasTys ts ys → Ords xs ys
  | ts, [], ys, _, _, _ => by cases ys <;> exact True.intro
  | ts, x :: xs, [], _, _, _ => True.intro
  | [], x :: xs, y :: ys, _, hx, _ => False.elim hx
  | t :: ts, x :: xs, y :: ys, ho, hx, hy =>
    have ho' := (Bool.and_eq_true _ _).mp (show (t.ord && Ty.ords ts) = true from ho)
    ⟨HasTy.ord t x y ho'.1 (And.left hx) (And.left hy), HasTys.ord ts xs ys ho'.2 (And.right hx) (And.right hy)⟩
theorem AllTy.ord : ∀ (t : Ty) (xs ys : List PV), t.ord = true → AllTy t xs → AllTy t ys → Ords xs ys
  | t, [], ys, _, _, _ => by cases ys <;> exact True.intro
  | t, x :: xs, [], _, _, _ => True.intro
  | t, x :: xs, y :: ys, ho, hx, hy => ⟨HasTy.ord t x y ho (And.left hx) (And.left hy), AllTy.ord t xs ys ho (And.right hx) (And.right hy)⟩
end

-- ranks
/-- how many are smaller -/
noncomputable def rank (xs : List PV) (i : Nat) : Int := ((xs.filter fun y => PV.lt y (xs.getD i .none)).length : Nat)
theorem filter_len_lt {α : Type} {p q : α → Bool} {l : List α} (h : ∀ a, p a = true → q a = true) {b : α} (hb : b ∈ l) (h1 : p b = false) (h2 : q b = true) : (l.filter p).length < (l.filter q).length := by
  induction l with
  | nil => cases hb
  | cons a l ih =>
    have mono : ∀ l : List α, (l.filter p).length ≤ (l.filter q).length := fun l => by
      induction l with
      | nil => simp
      | cons a l ih =>
        simp only [List.filter_cons]
        cases hp : p a
        · cases hq : q a <;> simp <;> omega
        · rw [h a hp]; simp; omega
    rcases List.mem_cons.mp hb with rfl | hb
    · simp only [List.filter_cons, h1, h2, Bool.false_eq_true, if_false, if_true, List.length_cons]
      have := mono l; omega
    · have := ih hb
      simp only [List.filter_cons]
      cases hp : p a
      · cases hq : q a <;> simp <;> omega
      · rw [h a hp]; simp; omega
theorem rank_lt {xs : List PV} {T : Ty} (ho : T.ord = true) (hT : ∀ x ∈ xs, HasTy T x) {i j : Nat} (hi : i < xs.length) (hj : j < xs.length) : decide (rank xs i < rank xs j) = PV.lt (xs.getD i .none) (xs.getD j .none) := by
  have gi : xs.getD i .none = xs[i] := by simp [hi]
  have gj : xs.getD j .none = xs[j] := by simp [hj]
  unfold rank
  rw [gi, gj]
  have mi : xs[i] ∈ xs := List.getElem_mem hi
  have mj : xs[j] ∈ xs := List.getElem_mem hj
  cases h : PV.lt xs[i] xs[j]
  · apply decide_eq_false
    intro hlt
    cases h2 : PV.lt xs[j] xs[i]
    · have := lt_total _ _ (HasTy.ord T _ _ ho (hT _ mi) (hT _ mj)) h h2
      rw [this] at hlt
      exact absurd hlt (Int.lt_irrefl _)
    · have := filter_len_lt (p := fun y => PV.lt y xs[j]) (q := fun y => PV.lt y xs[i]) (l := xs) (fun a ha => lt_trans _ _ _ ha h2) mj (lt_irrefl _) h2
      omega
  · apply decide_eq_true
    have := filter_len_lt (p := fun y => PV.lt y xs[i]) (q := fun y => PV.lt y xs[j]) (l := xs) (fun a ha => lt_trans _ _ _ ha h) mi (lt_irrefl _) h
    omega
/-- sorted: the same ones, in order -/
noncomputable def SortOf (xs ys : List PV) : Prop := ys.Perm xs ∧ ys.Pairwise fun a b => PV.lt b a = false
theorem sortOf_of {xs : List PV} {T : Ty} (ho : T.ord = true) (hT : ∀ x ∈ xs, HasTy T x) {p : Array Nat} (hp : PermN xs.length p) (hu : Up (rank xs) p xs.length) : SortOf xs (p.toList.map fun i => xs.getD i .none) := by
  constructor
  · have h1 := List.Perm.map (fun i => xs.getD i PV.none) hp
    refine h1.trans ?_
    have : (List.range xs.length).map (fun i => xs.getD i PV.none) = xs := by
      apply List.ext_getElem?
      intro k
      by_cases hk : k < xs.length
      · simp [hk]
      · simp [Nat.le_of_not_lt hk]
    rw [this]
  · rw [List.pairwise_iff_getElem]
    intro a b ha hb hab
    have sz := hp.size
    simp only [List.length_map, Array.length_toList] at ha hb
    simp only [List.getElem_map, Array.getElem_toList]
    have h1 : p[a] < xs.length := List.mem_range.mp (hp.mem_iff.mp (by simp))
    have h2 : p[b] < xs.length := List.mem_range.mp (hp.mem_iff.mp (by simp))
    rw [← rank_lt ho hT h2 h1]
    apply decide_eq_false
    have := hu a b (by (first | lia | omega)) (by (first | lia | omega))
    unfold kp at this
    have e1 : p.getD a 0 = p[a] := by simp [Array.getD, ha]
    have e2 : p.getD b 0 = p[b] := by simp [Array.getD, hb]
    rw [e1, e2] at this
    (first | lia | omega)
end Mine
end

section
namespace Mine

section
variable {prog : Program} {w : World} {A : Around} {E : Value → Shared → Prop} {s : Shared} {T : Ty}

theorem oneLt_pv {b : Bool} {p q : Value} {x y : PV} {Q : Bool → Shared → Prop} (hd : x.deep ≤ 60) (hu : A.units + 200 < cLine) (hp : Is s.heap p x) (hq : Is s.heap q y) (ho : Ord x y) (h : Q (PV.lt x y) s) : wpAny (model prog w) A (oneLt' b p q) Q E s := by
  cases b
  · exact kat_one p q (ltAt_ord 60 A s p q x y hd (by (first | lia | omega)) hp hq ho prog w _ _ h)
  · cases hp with
    | none => cases hq <;> exact ho.elim
    | bool _ => cases hq <;> exact ho.elim
    | loc _ => cases hq <;> exact ho.elim
    | int i t => cases hq with
      | int j u => exact oneLt_int h
      | _ => exact ho.elim
    | str i t => cases hq with
      | str j u => exact oneLt_str h
      | _ => exact ho.elim
    | tup t r => cases hq with
      | tup t' r' =>
        have hT : s.TypeIs (.ref _) "tuple" := ⟨_, t, rfl⟩
        rw [oneLt'_eq]
        simp only [if_true]
        refine wpAny_bind (wpAny_cRoomFor (by (first | lia | omega)) ?_)
        refine wpAny_bind (wpAny_callSpecialIfBound?_slot (name := Str.ofString "__lt__") hT F.slot_tuple_lt (wpAny_call_entry F.slot_tuple_lt hT F.entry_tuple_lt ?_ (F.args_tuple_lt_2 _ _)))
        simp only [PV.deep] at hd
        exact tuple_lt_tree A.in1 s prog w 59 _ _ _ _ _ _ _ _ _ _ (by have := in1_units A; (first | lia | omega)) (by (first | lia | omega)) t t' r r' ho
          (fun u v x y hux hvy hxy hdx => ltAt_ord 59 A.in1 s u v x y hdx (by have := in1_units A; (first | lia | omega)) hux hvy hxy) ⟨_, rfl, wpAny_truthy_bool h⟩
      | _ => exact ho.elim

/-- the kinds under which these are compared rightly -/
noncomputable def KindOk (κ : SortKind) (T : Ty) : Prop := κ = oneType' ∨ κ = general' ∨ ((∃ b, κ = tuples' b) ∧ ∀ x, HasTy T x → ∃ xs, x = .tup xs)
theorem katLex_pv {b : Bool} {Q : Bool → Shared → Prop} (hu : A.units + 200 < cLine) : ∀ (vs ws : List Value) (xs ys : List PV) (i : Nat) (fin : Bool), IsAll s.heap vs xs → IsAll s.heap ws ys → Ords xs ys → PV.deeps xs ≤ 60 → fin = (if xs.length < ys.length then true else false) ∨ True →
    (fin = PV.lts (xs.drop ys.length) (ys.drop xs.length)) → Q (PV.lts xs ys) s → KatLex prog w A b fin Q (vs.zip ws) i s
  | [], ws, xs, ys, i, fin, hx, hy, ho, hd, _, hf, h => by
    cases hx
    refine kat_nil ?_
    rw [hf]; simpa using h
  | v :: vs, [], xs, ys, i, fin, hx, hy, ho, hd, _, hf, h => by
    cases hy
    refine kat_nil ?_
    rw [hf]; simpa using h
  | v :: vs, u :: ws, xs0, ys0, i, fin, hx, hy, ho, hd, hh, hf, h => by
    cases hx with | cons a r => 
    cases hy with | cons a' r' => 
    rename_i x xs y ys
    simp only [PV.deeps] at hd
    refine kat_cons (eqAt_sim 60 A s _ _ x y (by (first | lia | omega)) (by (first | lia | omega)) a a' (Ord.sim _ _ ho.1) prog w _ _ ?_)
    simp only [PV.lts] at h
    cases hb : PV.beq x y
    · rw [hb] at h
      exact kat_no (oneLt_pv (by (first | lia | omega)) hu a a' ho.1 h)
    · rw [hb] at h
      exact kat_yes (katLex_pv hu vs ws xs ys (i + 1) fin r r' ho.2 (by (first | lia | omega)) (.inr trivial) (by simpa using hf) h)
theorem lts_rest : ∀ xs ys : List PV, decide (xs.length < ys.length) = PV.lts (xs.drop ys.length) (ys.drop xs.length)
  | xs, ys => by
    by_cases h : xs.length < ys.length
    · rw [decide_eq_true h, List.drop_eq_nil_of_le (by (first | lia | omega))]
      cases e : ys.drop xs.length with
      | nil => have := congrArg List.length e; simp at this; (first | lia | omega)
      | cons a l => simp [PV.lts]
    · rw [decide_eq_false h, List.drop_eq_nil_of_le (as := ys) (by (first | lia | omega))]
      cases xs.drop ys.length <;> simp [PV.lts]
theorem keyLt_pv {κ : SortKind} {p q : Value} {x y : PV} {Q : Bool → Shared → Prop} (hκ : KindOk κ T) (hTo : T.ord = true) (hd : T.deep ≤ 50) (hu : A.units + 200 < cLine) (hp : Is s.heap p x) (hq : Is s.heap q y) (hx : HasTy T x) (hy : HasTy T y) (h : Q (PV.lt x y) s) :
    wpAny (model prog w) A (keyLt' κ p q) Q E s := by
  have ho := HasTy.ord T x y hTo hx hy
  have hdx : x.deep ≤ 50 := Nat.le_trans (HasTy.deep _ _ hx) hd
  rcases hκ with rfl | rfl | ⟨⟨b, rfl⟩, htup⟩
  · rw [keyLt'_oneType]; exact oneLt_pv (by (first | lia | omega)) hu hp hq ho h
  · show wpAny _ _ (oneLt' false p q) Q E s
    exact oneLt_pv (by (first | lia | omega)) hu hp hq ho h
  · obtain ⟨xs, rfl⟩ := htup x hx
    obtain ⟨ys, rfl⟩ := htup y hy
    cases hp with | tup t r => cases hq with | tup t' r' =>
    simp only [PV.deep] at hdx
    refine kat_lt t rfl t' rfl ?_
    have l1 := r.length; have l2 := r'.length
    simp only [List.size_toArray]
    rw [l1, l2]
    exact katLex_pv hu _ _ xs ys 0 _ r r' ho (by (first | lia | omega)) (.inr trivial) (lts_rest xs ys) h

-- which kind
noncomputable def TypeOk (s : Shared) (v : Value) : Prop := ∀ (M : Model) A E (Q : Value → Shared → Prop), (∀ t, Q t s) → wpAny M A (typeOf v) Q E s
theorem typeOk_of {v : Value} {x : PV} {T : Ty} (i : Is s.heap v x) (hx : HasTy T x) : TypeOk s v := fun M A E Q h => by
  cases i with
  | none => cases T <;> exact hx.elim
  | bool b => exact wpAny_typeOf (PySem.typeIs_bool s b) (h _)
  | int i t => exact wpAny_typeOf (typeIs_int s i t) (h _)
  | str x t => exact wpAny_typeOf (typeIs_str s x t) (h _)
  | tup t r => exact wpAny_typeOf (T := "tuple") ⟨_, t, rfl⟩ (h _)
  | loc a => cases T <;> exact hx.elim
theorem mapM_types {M : Model} : ∀ (vs : List Value) (Q : List Value → Shared → Prop), (∀ v ∈ vs, TypeOk s v) → (∀ ts, Q ts s) → wpAny M A (vs.mapM typeOf) Q E s
  | [], Q, _, h => by rw [List.mapM_nil]; exact wpAny_pure (h [])
  | v :: vs, Q, hv, h => by
    rw [List.mapM_cons]
    exact wpAny_bind (hv v (.head _) _ _ _ _ fun t => wpAny_bind (mapM_types vs _ (fun u hu => hv u (.tail _ hu)) fun ts => wpAny_pure (h _)))
theorem oneType_any {M : Model} {vs : Array Value} {Q : Option Value → Shared → Prop} (hv : ∀ v ∈ vs.toList, TypeOk s v) (h : ∀ o, Q o s) : wpAny M A (oneTypeOnly' vs) Q E s := by
  rw [oneTypeOnly'_eq]
  obtain ⟨l⟩ := vs
  rw [List.mapM_toArray, map_eq_pure_bind]
  refine wpAny_bind (wpAny_bind (mapM_types l _ hv fun ts => wpAny_pure ?_))
  split
  · exact wpAny_pure (h _)
  · exact wpAny_pure (h _)
theorem firsts_pv {T : Ty} (hT : ∀ x, HasTy T x → ∃ xs, x = .tup xs) : ∀ (vs : List Value) (xs : List PV) (Q : List (Option Value) → Shared → Prop), IsAll s.heap vs xs → (∀ x ∈ xs, HasTy T x) → (∀ fs, (∀ v, some v ∈ fs → TypeOk s v) → Q fs s) → wpAny (model prog w) A (vs.mapM firstOfTuple') Q E s
  | [], _, Q, _, _, h => by rw [List.mapM_nil]; exact wpAny_pure (h [] (fun v hv => by cases hv))
  | v :: vs, _, Q, hv, hx, h => by
    cases hv with | cons a r => 
    rw [List.mapM_cons]
    refine wpAny_bind ?_
    have hy := hx _ (.head _)
    obtain ⟨ys, rfl⟩ := hT _ hy
    cases a with | tup t i => 
    rw [kas_first_eq]
    refine wpAny_bind (wpAny_typeOf (T := "tuple") ⟨_, t, rfl⟩ ?_)
    rw [if_neg (by decide)]
    refine wpAny_bind (listItems_at t rfl (wpAny_pure ?_))
    refine wpAny_bind (firsts_pv hT vs _ _ r (fun x hx' => hx x (.tail _ hx')) fun fs hf => wpAny_pure (h _ fun u hu => ?_))
    rcases List.mem_cons.mp hu with hu | hu
    · cases i with
      | nil => simp at hu
      | cons a' r' =>
        simp at hu
        subst hu
        cases T with
        | tup ts => cases ts with
          | nil => exact hy.elim
          | cons t0 ts => exact typeOk_of a' hy.1
        | seq t0 => exact typeOk_of a' hy.1
        | _ => exact hy.elim
    · exact hf u hu
theorem kind_pv {T : Ty} {vs : List Value} {xs : List PV} {Q : SortKind → Shared → Prop} (hTo : T.ord = true) (h2 : 2 ≤ vs.length) (i : IsAll s.heap vs xs) (hx : ∀ x ∈ xs, HasTy T x) (h : ∀ κ, KindOk κ T → Q κ s) : wpAny (model prog w) A (keyKind' vs.toArray) Q E s := by
  have all : ∀ v ∈ vs, ∃ x ∈ xs, Is s.heap v x := fun v hv => i.mem hv
  have tup : (∀ x, HasTy T x → ∃ xs, x = .tup xs) → wpAny (model prog w) A (keyKind' vs.toArray) Q E s := fun hT => by
    rw [kat_kind_eq, List.mapM_toArray, map_eq_pure_bind]
    refine wpAny_bind (wpAny_bind (firsts_pv hT vs xs _ i hx fun fs hf => wpAny_pure ?_))
    split
    · refine wpAny_bind (wpAny_rule (wpAny_bind (oneType_any (fun v hv => ?_) fun o => wpAny_pure (h _ (.inr (.inr ⟨⟨_, rfl⟩, hT⟩))))))
      simp at hv
      exact hf v hv
    · split
      · exact wpAny_pure (h _ (.inr (.inl rfl)))
      · refine wpAny_bind (oneType_any (fun v hv => ?_) fun o => ?_)
        · obtain ⟨x, hx', ix⟩ := all v (by simpa using hv)
          exact typeOk_of ix (hx x hx')
        · split
          · exact wpAny_pure (h _ (.inl rfl))
          · exact wpAny_pure (h _ (.inr (.inl rfl)))
  cases T with
  | int =>
    refine kas_kind (T := .type "int") h2 (fun v hv => ?_) rfl rfl (h _ (.inl rfl))
    obtain ⟨x, hx', ix⟩ := all v hv
    cases ix <;> first | exact Looks.now | exact (hx _ hx').elim
  | str =>
    refine kas_kind (T := .type "str") h2 (fun v hv => ?_) rfl rfl (h _ (.inl rfl))
    obtain ⟨x, hx', ix⟩ := all v hv
    cases ix <;> first | exact Looks.now | exact (hx _ hx').elim
  | bool => exact absurd hTo Bool.false_ne_true
  | tup ts => exact tup fun x hx' => by cases x <;> first | exact ⟨_, rfl⟩ | exact hx'.elim
  | seq t => exact tup fun x hx' => by cases x <;> first | exact ⟨_, rfl⟩ | exact hx'.elim

/-- the tree of the sort -/
theorem sortTree_pv {T : Ty} {κ : SortKind} {vs : List Value} {xs : List PV} {G : Array Nat → Shared → Prop} (hκ : KindOk κ T) (hTo : T.ord = true) (hd : T.deep ≤ 50) (hu : A.units + 200 < cLine) (h2 : 2 ≤ vs.length) (i : IsAll s.heap vs xs) (hx : ∀ x ∈ xs, HasTy T x)
    (h : ∀ p, PermN xs.length p → Up (rank xs) p xs.length → G p s) : (kas_sort vs.length).kasWp (kas_ask prog w A κ vs) G s := by
  have hl := i.length
  rw [hl] at h2 ⊢
  refine TW_wp (r := rank xs) (n := xs.length) (Q := fun p => PermN xs.length p ∧ Up (rank xs) p xs.length) (fun a b C ha hb hC => ?_) (fun p hp => h p hp.1 hp.2) _ (tw_sort h2 fun p hp hu => ⟨hp, hu⟩)
  have ga : vs.getD a Value.none = vs[a] := by simp [hl, ha]
  have gb : vs.getD b Value.none = vs[b] := by simp [hl, hb]
  have xa : xs.getD a .none = xs[a] := by simp [ha]
  have xb : xs.getD b .none = xs[b] := by simp [hb]
  show wpAny _ _ (keyLt' κ (vs.getD a Value.none) (vs.getD b Value.none)) C _ s
  rw [ga, gb]
  obtain ⟨va, eva, iva⟩ := i.get (i := a) (x := xs[a]) (by simp [ha])
  obtain ⟨vb, evb, ivb⟩ := i.get (i := b) (x := xs[b]) (by simp [hb])
  rw [List.getElem?_eq_getElem (by omega)] at eva evb
  cases eva; cases evb
  refine keyLt_pv hκ hTo hd hu iva ivb (hx _ (List.getElem_mem _)) (hx _ (List.getElem_mem _)) ?_
  rw [rank_lt hTo hx ha hb, xa, xb] at hC
  exact hC
end

end Mine
end

section
namespace Mine

theorem IsAll.pick {h : Heap} {vs : List Value} {xs : List PV} (i : IsAll h vs xs) : ∀ (l : List Nat), (∀ k ∈ l, k < xs.length) → IsAll h (l.map fun k => vs.getD k Value.none) (l.map fun k => xs.getD k .none)
  | [], _ => .nil
  | k :: l, hl => by
    have hk := hl k (.head _)
    obtain ⟨v, hv, iv⟩ := i.get (i := k) (x := xs[k]) (by simp [hk])
    have e1 : vs.getD k Value.none = v := by simp [hv]
    have e2 : xs.getD k .none = xs[k] := by simp [hk]
    simp only [List.map_cons]
    rw [e1, e2]
    exact .cons iv (IsAll.pick i l fun j hj => hl j (.tail _ hj))

section
variable {prog : Program} {w : World} {A : Around} {E : Value → Shared → Prop} {s : Shared} {T : Ty}

theorem list_sort_pv {a : Addr} {vs : List Value} {xs : List PV} {n : Nat} {P : Fin → Shared → Prop} (hTo : T.ord = true) (hd : T.deep ≤ 50) (hu : A.units + 200 < cLine) (ho : s.heap.get? a = some (seqObj "list" vs.toArray n))
    (i : IsAll s.heap vs xs) (hx : ∀ x ∈ xs, HasTy T x) (h64 : vs.length < 64)
    (h : ∀ (out : List Value) (ys : List PV), SortOf xs ys → IsAll s.heap out ys → P (.done (.ret .none)) { s with heap := sortedHeap s.heap a vs out.toArray }) :
    wpAny (model prog w) A (Builtin.«list.sort» ⟨[.ref a], []⟩) P E s := by
  rw [list_sort_plain]
  have ha : a < s.heap.objs.size := Heap.lt_size ho
  refine wpAny_bind (listItems_at ho rfl ?_)
  refine wpAny_bind (listUpdate_at ho rfl ?_ (by rw [List.size_toArray, sizeLine_eq]; (first | lia | omega)) (Nat.zero_le _))
  obtain ⟨e1, ho1⟩ : ∃ e1, (s.heap.update a (Obj.mapSeq fun _ => #[])).get? a = some (seqObj "list" #[] e1) := ⟨_, get?_update_seq ho (fun _ => #[])⟩
  refine wpAny_bind (seqEpoch_at ho1 rfl ?_)
  refine wpAny_bind (wpAny_newTuple ?_ (by show vs.length ≤ _; rw [sizeLine_eq]; (first | lia | omega)))
  refine wpAny_bind (wpAny_newList ?_ (Nat.zero_le _))
  refine wpAny_holding ?_
  have ho6 : (((s.heap.update a (Obj.mapSeq fun _ => #[])).push (seqObj "tuple" vs.toArray 0)).push (seqObj "list" #[] 0)).get? a = some (seqObj "list" #[] e1) := by
    rw [Heap.get?_push_ne _ _ _ (by rw [size_push', Heap.size_update]; exact Nat.ne_of_lt (Nat.lt_succ_of_lt ha)), Heap.get?_push_ne _ _ _ (by rw [Heap.size_update]; exact Nat.ne_of_lt ha)]
    exact ho1
  show wpAny (model prog w) A _ P E { s with heap := ((s.heap.update a (Obj.mapSeq fun _ => #[])).push (seqObj "tuple" vs.toArray 0)).push (seqObj "list" #[] 0) }
  dsimp only
  have hsz : vs.toArray.size = vs.length := by simp
  have hlen := i.length
  by_cases h2 : vs.toArray.size < 2
  · rw [if_pos h2, if_pos h2]
    refine wpAny_bind (wpAny_pure ?_)
    rw [StateT.run_pure]
    refine wpAny_bind (wpAny_pure ?_)
    dsimp only
    refine wpAny_bind (seqEpoch_at ho6 rfl ?_)
    have e2 : (arrOf (SortSt.mk' general' (vs.toArray.zip vs.toArray) #[] 7 none)).map (·.2) = vs.toArray := by
      show (vs.toArray.zip vs.toArray).map (·.2) = vs.toArray
      apply Array.toList_inj.mp
      simp [List.map_snd_zip]
    rw [e2]
    refine wpAny_bind (listUpdate_at ho6 rfl ?_ (Nat.zero_le _) (by rw [sizeLine_eq]; (first | lia | omega)))
    simp only [bne_self_eq_false, Bool.false_eq_true, if_false]
    refine wpAny_pure (h vs xs ⟨List.Perm.refl _, ?_⟩ i)
    match xs, hlen with
    | [], _ => exact .nil
    | [x], _ => exact List.pairwise_singleton ..
    | _ :: _ :: _, hlen => simp at hlen; (first | lia | omega)
  · rw [if_neg h2, if_neg h2]
    have kp : TupKeep s.heap (((s.heap.update a (Obj.mapSeq fun _ => #[])).push (seqObj "tuple" vs.toArray 0)).push (seqObj "list" #[] 0)) := fun b its m e => by
      refine Heap.get?_push_of_some _ (Heap.get?_push_of_some _ ?_)
      refine ((Heap.SameBut.update s.heap a (Obj.mapSeq fun _ => #[])).2 b (fun q => ?_)).trans e
      subst q
      have := (show s.heap.get? b = _ from e).symm.trans ho
      simp [seqObj] at this
    have i6 := i.keep kp
    refine wpAny_bind (wpAny_mono (E := fun _ _ => False) (kind_pv (Q := fun κ s' => KindOk κ T ∧ s' = { s with heap := ((s.heap.update a (Obj.mapSeq fun _ => #[])).push (seqObj "tuple" vs.toArray 0)).push (seqObj "list" #[] 0) }) hTo (by (first | lia | omega)) i6 hx fun κ hκ => ⟨hκ, rfl⟩) (fun κ s' hk => ?_) fun _ _ e => e.elim)
    obtain ⟨hκ, rfl⟩ := hk
    refine wpAny_bind (wpAny_mono (kat_run (E := E) (ks := vs) (vs := vs) (κ := κ) (G := fun p s' => (PermN xs.length p ∧ Up (rank xs) p xs.length) ∧ s' = { s with heap := ((s.heap.update a (Obj.mapSeq fun _ => #[])).push (seqObj "tuple" vs.toArray 0)).push (seqObj "list" #[] 0) })
      (Q := fun st' s' => ∃ p : Array Nat, arrOf st' = p.map (kas_item (vs.toArray.zip vs.toArray)) ∧ failedOf st' = none ∧ (PermN xs.length p ∧ Up (rank xs) p xs.length) ∧ s' = { s with heap := ((s.heap.update a (Obj.mapSeq fun _ => #[])).push (seqObj "tuple" vs.toArray 0)).push (seqObj "list" #[] 0) })
      rfl (by (first | lia | omega)) h64 (fun p st' s' h1 h2 h3 h4 => ⟨p, h2, h3, h4.1, h4.2⟩) (sortTree_pv hκ hTo hd hu (by (first | lia | omega)) i6 hx fun p hp hu => ⟨⟨hp, hu⟩, rfl⟩)) ?_ fun _ _ e => e)
    rintro ⟨⟨⟩, st'⟩ s' ⟨p, har, hf, ⟨hp, hup⟩, rfl⟩
    dsimp only
    refine wpAny_bind (seqEpoch_at ho6 rfl ?_)
    rw [kat_snds rfl har]
    refine wpAny_bind (listUpdate_at ho6 rfl ?_ (Nat.zero_le _) (by have := hp.size; simp; rw [sizeLine_eq]; (first | lia | omega)))
    rw [hf]
    simp only [bne_self_eq_false, Bool.false_eq_true, if_false]
    exact wpAny_pure (h _ _ (sortOf_of hTo hx hp hup) (IsAll.pick i _ fun k hk => List.mem_range.mp (hp.mem_iff.mp hk)))
end

section
variable {prog : Program} {w : World} {h₀ : Heap} {n : Nat} {env : Env} {ρ : Loc} {σ : Store} {Q : PV → Store → Prop}

/-- gathering a value's items -/
noncomputable def Collects (prog : Program) (w : World) (h₀ : Heap) (σ : Store) (x : PV) (xs : List PV) : Prop :=
  ∀ A s v (Q : List Value → Shared → Prop), Ok 0 A → SRel prog w h₀ σ s.heap → Is s.heap v x → (∀ vs h' tk, Pres NoMod s.heap h' → IsAll h' vs xs → Q vs { s with heap := h', toks := tk }) → wpAny (model prog w) A (collect v) Q (fun _ _ => False) s
theorem pres_push_update {h : Heap} {f : Obj → Obj} {o : Obj} : Pres NoMod h ((h.push o).update h.objs.size f) :=
  Pres.same (Pres.refl.push _) (Heap.SameBut.update ..) (.inr (fresh _))
theorem collects_list {a : Addr} {xs : List PV} (e : σ a = some (.lst xs)) (hl : xs.length ≤ 1000000) : Collects prog w h₀ σ (.loc a) xs := fun A s v Q ok S i hQ => by
  cases i
  obtain ⟨vs, n, il, i1⟩ := S.objs _ _ e
  have len := i1.length
  refine collect_list (Mine.IsL.isList il) ?_ (by rw [sizeLine_eq]; (first | lia | omega))
  have p : Pres NoMod s.heap ((s.heap.push (seqObj "list" #[] 0)).update s.heap.objs.size (Obj.mapSeq (· ++ vs.toArray))) := pres_push_update
  exact hQ vs _ s.toks p (i1.keep fun b its m e => p.2 b _ (fun f => f) e)
theorem lf_sorted {x : PV} {xs : List PV} (T : Ty) (hTo : T.ord = true) (hd : T.deep ≤ 50) (hc : Collects prog w h₀ σ x xs) (hx : ∀ y ∈ xs, HasTy T y) (h64 : xs.length < 64)
    (q : ∀ ys, SortOf xs ys → ∀ c, σ c = none → Q (.loc c) (upd σ c (.lst ys))) : LFn prog w h₀ (n + 1) (.builtin "sorted") [x] σ Q := fun env ρ H vs l hp A s ok S X hh => by
  obtain ⟨v, rfl⟩ := one_of l
  have iv := hh _ (hp _ (.head _))
  refine Calls.call_function_entry kind_sorted plain_sorted entry_sorted (args_sorted1 _) ?_
  unfold Builtin.«sorted»
  refine wpAny_bind (m := checkCount "sorted" 1 1 _) (wpAny_pure ?_)
  refine wpAny_bind (wpAny_mono (E := fun _ _ => False) (hc A.in1 s v (fun ws s' => ∃ h' tk, s' = { s with heap := h', toks := tk } ∧ Pres NoMod s.heap h' ∧ IsAll h' ws xs) ⟨ok.handled, by have := ok.depth; show A.depth + 2 * 0 ≤ 500; (first | lia | omega), by have := ok.units; have := in1_units A; (first | lia | omega)⟩ S iv fun ws h' tk p i => ⟨h', tk, rfl, p, i⟩) (fun ws s' hs => ?_) fun _ _ e => e.elim)
  obtain ⟨h', tk, rfl, p, i⟩ := hs
  have len := i.length
  refine wpAny_bind (wpAny_newList ?_ (by rw [sizeLine_eq]; (first | lia | omega)))
  have hoL : (h'.push (seqObj "list" ws.toArray 0)).get? h'.objs.size = some (seqObj "list" ws.toArray 0) := Heap.get?_push_size _ rfl
  have kp : TupKeep h' (h'.push (seqObj "list" ws.toArray 0)) := fun b its m e => Heap.get?_push_of_some _ e
  show wpAny _ _ _ _ _ { s with heap := h'.push (seqObj "list" ws.toArray 0), toks := tk }
  refine wpAny_bind (wpAny_holding (wpAny_call_entry slot_list_sort ⟨_, hoL, rfl⟩ entry_list_sort (list_sort_pv hTo hd (by have := ok.room; have := in1_units A; have := in1_units A.in1; (first | lia | omega)) hoL (i.keep kp) hx (by (first | lia | omega)) fun out ys hs io => ⟨_, rfl, ?_⟩) (args_list_sort _)))
  refine wpAny_pure ⟨_, rfl, ?_⟩
  have fr : h'.get? h'.objs.size = none := fresh _
  have pf : Pres NoMod h' (sortedHeap (h'.push (seqObj "list" ws.toArray 0)) h'.objs.size ws out.toArray) := by
    unfold sortedHeap
    exact Pres.same (((Pres.same (Pres.refl.push _) (Heap.SameBut.update ..) (.inr fr)).push _).push _) (Heap.SameBut.update ..) (.inr fr)
  have p2 : Pres NoMod s.heap (sortedHeap (h'.push (seqObj "list" ws.toArray 0)) h'.objs.size ws out.toArray) := ⟨trivial, fun b o nb e => pf.2 b o nb (p.2 b o nb e)⟩
  have hne : s.heap.get? h'.objs.size = none := by
    cases e : s.heap.get? h'.objs.size with
    | none => rfl
    | some o => have := p.2 _ o (fun f => f) e; rw [fr] at this; cases this
  obtain ⟨e1, ho1⟩ : ∃ e1, ((h'.push (seqObj "list" ws.toArray 0)).update h'.objs.size (Obj.mapSeq fun _ => #[])).get? h'.objs.size = some (seqObj "list" #[] e1) := ⟨_, get?_update_seq hoL (fun _ => #[])⟩
  obtain ⟨e2, ho2⟩ : ∃ e2, (sortedHeap (h'.push (seqObj "list" ws.toArray 0)) h'.objs.size ws out.toArray).get? h'.objs.size = some (seqObj "list" out.toArray e2) :=
    ⟨_, get?_update_seq (Heap.get?_push_of_some _ (Heap.get?_push_of_some _ ho1)) (fun _ => out.toArray)⟩
  have kp3 : TupKeep (h'.push (seqObj "list" ws.toArray 0)) (sortedHeap (h'.push (seqObj "list" ws.toArray 0)) h'.objs.size ws out.toArray) := fun b its m e => by
    by_cases hb : b = h'.objs.size
    · subst hb
      have := (show (h'.push (seqObj "list" ws.toArray 0)).get? _ = _ from e).symm.trans hoL
      simp [seqObj] at this
    · unfold sortedHeap
      refine (Heap.SameBut.update _ _ _).2 b hb |>.trans (Heap.get?_push_of_some _ (Heap.get?_push_of_some _ (((Heap.SameBut.update _ _ _).2 b hb).trans e)))
  obtain ⟨S₂, X₂, hh₂, tr₂⟩ := newStep (γ := Value) (δ := PV) (R' := Is) (o := .lst ys) S X hh p2 hne ⟨out, e2, ho2, io.keep kp3⟩
  exact tr₂ tk _ _ _ (Post.here (s := { s with heap := sortedHeap (h'.push (seqObj "list" ws.toArray 0)) h'.objs.size ws out.toArray, toks := tk }) S₂ X₂ (.loc _) ⟨rfl, q ys hs _ (free_of S hne)⟩)
end

end Mine
end

section
namespace Mine

section
variable {prog : Program} {w : World} {h₀ : Heap} {n : Nat} {env : Env} {ρ : Loc} {σ : Store} {Q : PV → Store → Prop}

/-- tuple(a list) -/
theorem lf_tuple {a : Addr} {xs : List PV} (e : σ a = some (.lst xs)) (hl : xs.length ≤ 1000000) (q : Q (.tup xs) σ) : LFn prog w h₀ n (.type "tuple") [.loc a] σ Q := fun env ρ H vs l hp => WE.newFirm q fun A s Q' ok S X hh hQ => by
  obtain ⟨v, rfl⟩ := one_of l
  have := held_loc hh (hp _ (.head _)); subst this
  obtain ⟨ws, k, il, i1⟩ := S.objs _ _ e
  have hl' := i1.length
  refine PySem.call_tuple_list (Mine.IsL.isList il) (fun h' hk => ?_) (by rw [sizeLine_eq]; simp; (first | lia | omega))
  have p : Pres NoMod s.heap (h'.push { cls := .type "tuple", data := .seq ws.toArray }) := ⟨trivial, fun b o _ eb => Heap.get?_push_of_some _ (hk b o eb)⟩
  exact hQ _ _ s.toks p (.tup (Heap.get?_push_size _ rfl) (i1.keep fun b its m e => p.2 b _ (fun f => f) e))
theorem lf_int_bool {b : Bool} (q : Q (.int (if b then 1 else 0)) σ) : LFn prog w h₀ n (.type "int") [.bool b] σ Q := fun env ρ H vs l hp => WE.leaf q fun A s Q' ok S X hh hQ => by
  obtain ⟨v, rfl⟩ := one_of l
  have := held_bool hh (hp _ (.head _)); subst this
  exact call_int_bool (hQ _ _ (.int _ _))
/-- isinstance(an int, tuple) -/
theorem we_isi {x y : Str} {p p2 pos : Pos} {e : Expr} (g : GName prog w h₀ env ρ x (.builtin "isinstance")) (g2 : GName prog w h₀ env ρ y (.type "tuple"))
    (h : WV prog w h₀ n env [] (eval e env) ρ σ fun v σ₁ => ∃ i, v = .int i ∧ Q (.bool false) σ₁) (he : starEach [e, .Name y p2] env = [(false, eval e env), (false, eval (.Name y p2) env)] := by rfl) :
    WV prog w h₀ n env [] (eval (.Call (.Name x p) [e, .Name y p2] [] pos) env) ρ σ Q := fun A s ok S X hh => by
  refine Call_Name rfl (g A s σ p _ S X (callWith_split (by rw [he]; rfl) ?_))
  rw [he]
  refine Calls.spliced_cons (x := eval e env) (rest := [(false, eval (.Name y p2) env)]) (h.run (R' := Is) (γ := Value) (δ := PV) ok S X hh fun v s₁ b σ₁ S₁ X₁ hh₁ r q tr => ?_)
  obtain ⟨i, rfl, q⟩ := q
  cases r
  refine Calls.spliced_cons (x := eval (.Name y p2) env) (rest := []) (g2 A s₁ σ₁ p2 _ S₁ X₁ (Calls.spliced_nil ?_))
  refine callWith_builtin (by simp [pures]) (evalArgs_pures ?_)
  exact IsiPair.int_tuple (tr _ _ _ (Post.here (s := { s₁ with toks := s₁.toks + 1 }) S₁ X₁ (.bool _) ⟨rfl, q⟩))

noncomputable def sumL : List Int → Int := fun l => l.foldl (· + ·) 0
theorem preSum_eq (ns : List Int) : ∀ k, k ≤ ns.length → preSum (fun i => ns.getD i 0) k = sumL (ns.take k)
  | 0, _ => rfl
  | k + 1, h => by
    show preSum (fun i => ns.getD i 0) k + ns.getD k 0 = _
    rw [preSum_eq ns k (by (first | lia | omega))]
    have hk : k < ns.length := by (first | lia | omega)
    unfold sumL
    rw [List.take_add_one, List.getElem?_eq_getElem hk, List.foldl_append]
    simp [hk]
theorem lf_sum {a : Addr} {ns : List Int} (e : σ a = some (.lst (ns.map .int))) (q : Q (.int (sumL ns)) σ) : LFn prog w h₀ n (.builtin "sum") [.loc a] σ Q := fun env ρ H vs l hp => WE.newFirm q fun A s Q' ok S X hh hQ => by
  obtain ⟨v, rfl⟩ := one_of l
  have := held_loc hh (hp _ (.head _)); subst this
  obtain ⟨ws, k, il, i1⟩ := S.objs _ _ e
  have hl' : ws.length = ns.length := by have := i1.length; simpa using this
  have len : a < s.heap.objs.size := Heap.lt_size il
  refine call_sum_walkG (wpAny_pyIter_list (Mine.IsL.isList il) ⟨_, _, _, _, _, _, fun i => ns.getD i 0, rfl, Walks.list (A := A.in1) ok.handled s.heap.objs.size a (Nat.ne_of_lt len) ws.toArray, ⟨⟨_, Heap.get?_push_size _ rfl, rfl, rfl⟩, (Mine.IsL.isList il).push _⟩, fun b hb => ?_, fun i v hv => ?_, fun h' tk t' hk => ?_⟩)
  · rw [Heap.size_push]
    rcases List.mem_cons.mp hb with rfl | hb
    · exact Nat.lt_succ_self _
    · rw [List.mem_singleton.mp hb]; exact Nat.lt_succ_of_lt len
  · obtain ⟨x, ex, ix⟩ := i1.get' (i := i) (v := v) (by simpa using hv)
    simp only [List.getElem?_map, Option.map_eq_some_iff] at ex
    obtain ⟨m, em, rfl⟩ := ex
    cases ix with | int _ t => exact ⟨t, by simp [List.getD, em]⟩
  · have p : Pres NoMod s.heap h' := ⟨trivial, fun b o _ eb => hk b o (fun hm => by
      rw [List.mem_singleton.mp hm] at eb; rw [fresh] at eb; cases eb) (Heap.get?_push_of_some _ eb)⟩
    have e2 : preSum (fun i => ns.getD i 0) ws.toArray.size = sumL ns := by
      rw [preSum_eq ns _ (by simp; (first | lia | omega))]
      simp [hl']
    rw [e2]
    exact hQ _ _ tk p (.int _ _)
end

end Mine
end

section
namespace Mine

section
variable {prog : Program} {w : World} {A : Around} {E : Value → Shared → Prop} {s : Shared}
set_option maxRecDepth 100000 in
/-- a list has no such attribute -/
theorem keys_miss {a : Addr} {xs : Array Value} {k : Nat} {Q : Option Value → Shared → Prop} (hx : s.heap.get? a = some { cls := .type "list", dict := none, data := .seq xs k, slots := #[] }) (hA : A.handled = none)
    (h : ∀ h' tk, (∀ b ob, s.heap.get? b = some ob → h'.get? b = some ob) → Q none { s with heap := h', toks := tk }) : wpAny (model prog w) A (getAttr? (.ref a) "keys") Q E s := by
  obtain ⟨hp, g, d, tk, os⟩ := s
  have hT : ∀ tk', (⟨hp, g, d, tk', os⟩ : Shared).TypeIs (.ref a) "list" := fun _ => ⟨_, hx, rfl⟩
  have hmiss : typeLookup (.type "list") (Str.ofString "keys") = pure none := by rw [typeLookup_type, builtinLookup_eq_fast]; kernel_rfl
  have hname : (["__module__", "__name__", "__qualname__", "__doc__", "__annotations__"] : List Str).contains (Str.ofString "keys") = false := by decide +kernel
  have f1 := sub_AttributeError
  have f3 := F.slot_list_getattribute.lookup
  have f4 := F.slot_list_getattribute.bind (.ref a)
  have f5 := am_list_getattr_none
  unfold getAttr? getAttrBy? getAttrBy
  repeat (any_goals (first | assumption | exact hT _ | ((with_reducible show wpAny _ _ (call (Value.builtin "list.__getattribute__") _ _) _ _ _); refine call_meets F.slot_list_getattribute (hT _) am_entry_list_getattribute (F.args_list_getattribute_2 _ _) (meets_getattribute_miss_list a xs k #[] (Str.ofString "keys") _ hmiss hname (by decide +kernel)) ⟨hx, hA, fun h' tk' e hx' => ?_⟩) | wp_step))
  obtain ⟨t', u', he⟩ := hx'.there
  show wpAny _ _ (getattributeRaised _ _ _ _ _ _ _) _ _ _
  unfold getattributeRaised
  repeat (any_goals (first | assumption | wp_step))
  exact h _ _ hx'.keeps
end

/-- a dict's next state -/
noncomputable def dput : MObj → PV → PV → MObj
  | .dv es, k, v => .dv (dset es k v)
  | .dt T es, k, v => .dt T (dset es k v)
  | o, _, _ => o
noncomputable def fits : MObj → PV → Prop
  | .dv _, k => Hsh 0 k
  | .dt T _, k => (∃ ks, k = .tup ks) ∧ HasTy T k ∧ Hsh 3 k
  | _, _ => False
noncomputable def dlen : MObj → Nat
  | .dv es => es.length
  | .dt _ es => es.length
  | _ => 0
theorem dlen_dput (o : MObj) (k v : PV) : dlen (dput o k v) ≤ dlen o + 1 := by
  cases o <;> first | exact dset_length .. | exact Nat.zero_le _
theorem fits_dput {o : MObj} {k v k' : PV} (h : fits o k') : fits (dput o k v) k' := by cases o <;> exact h
noncomputable def dputs (o : MObj) (ps : List (PV × PV)) : MObj := ps.foldl (fun o p => dput o p.1 p.2) o

section
variable {prog : Program} {w : World} {A : Around} {E : Value → Shared → Prop} {s : Shared}
theorem dictSet_pv {d : Addr} {o : MObj} {kv vv : Value} {k v : PV} {Q : Unit → Shared → Prop} (hu : A.units + 10 < cLine) (r : Rep prog w s.heap d o) (hf : fits o k) (hl : dlen o ≤ 1000000) (ik : Is s.heap kv k) (iv : Is s.heap vv v)
    (hQ : ∀ h' tk, Rep prog w h' d (dput o k v) → Heap.SameBut d s.heap h' → Q () { s with heap := h', toks := tk }) : wpAny (model prog w) A (dictSet d kv vv) Q E s := by
  have kpo : ∀ h', Heap.SameBut d s.heap h' → TupKeep s.heap h' := fun h' hs b its m e => by
    refine (hs.2 b (fun q => ?_)).trans e
    subst q
    obtain ⟨ob, e2, e3⟩ := r.get
    rw [show s.heap.get? b = _ from e] at e2; cases e2; exact e3 rfl
  cases o with
  | dv es =>
    obtain ⟨hs, kvs, D, e1, e2⟩ := r
    refine @wpAny_dictSet_pairs _ _ _ PV.decEq (valKind prog w) _ _ _ _ _ k _ _ _ (isVal_of_is ik hf) D (fun h' D' hs' => ?_) (kvs_size e1 hl)
    exact hQ h' _ ⟨hs, _, D', dv_set e1 (e2.keep (kpo h' hs')) (iv.keep (kpo h' hs'))⟩ hs'
  | dt T es =>
    obtain ⟨⟨ks, rfl⟩, hk, hh⟩ := hf
    obtain ⟨p, rfl⟩ := ik.tup_ref
    obtain ⟨hs, kvs, D, e1, e2⟩ := r
    refine @wpAny_dictSet_heap _ _ _ PV.decEq (tupKind prog w T) _ _ _ _ _ _ _ _ _ hu ⟨ik, hk, hh⟩ D (fun h' D' hs' => ?_) (kvs_size e1 hl)
    exact hQ h' _ ⟨hs, _, D', dt_set e1 (e2.keep (kpo h' hs')) (iv.keep (kpo h' hs'))⟩ hs'
  | lst xs => exact hf.elim
  | dx ob T es => exact hf.elim
  | raw ob => exact hf.elim
theorem plain_update_loop : plainId "dict.update.loop" = true := by decide +kernel
theorem entry_update_loop : entryFor table "dict.update.loop" = some Builtin.«dict.update.loop» := entryFor_of_tree (by kernel_rfl)
/-- the loop of dict(pairs) -/
theorem update_loop {d it l : Addr} {vs : List Value} {ps : List (PV × PV)} {R : Result → Shared → Prop} (hh : A.handled = none) (hu : A.units + 20 < cLine) (hdi : d ≠ it) (hdl : d ≠ l) (hil : it ≠ l) :
    ∀ (k i : Nat) (s : Shared) (o : MObj) (j : Int), ps.length - i = k → i ≤ ps.length → s.heap.IsListIter it l i → s.heap.IsList l vs.toArray → IsAll s.heap vs (ps.map fun p => .tup [p.1, p.2]) → Rep prog w s.heap d o →
      (∀ p ∈ ps, fits o p.1) → dlen o + k ≤ 1000000 →
      (∀ h' tk, Pres (fun c => c = d ∨ c = it) s.heap h' → Rep prog w h' d (dputs o (ps.drop i)) → R (.ok (.ret .none)) { s with heap := h', toks := tk }) →
      codeAny (model prog w) A (.builtin "dict.update.loop" ⟨[.ref d, .ref it, rawInt j, .none], []⟩) R s := by
  intro k
  induction k with
  | zero =>
    intro i s o j hk hi hit hl iv r hf hlen hR
    refine codeAny_builtin entry_update_loop ?_
    rw [Around.under_plainId plain_update_loop _]
    show wpAny _ A.in1 (pyNext (.ref it) >>= _) _ _ s
    have len := iv.length
    refine wpAny_bind (wpAny_pyNext_list_end hh hit hl (by simp; simp at len; (first | lia | omega)) fun h' hs => ?_)
    have e : ps.drop i = [] := List.drop_eq_nil_of_le (by (first | lia | omega))
    rw [e] at hR
    have p : Pres (fun c => c = d ∨ c = it) s.heap h' := Pres.ext hs (.inr rfl)
    have kp : TupKeep s.heap h' := fun b its m e => by
      refine hs b _ (fun q => ?_) e
      subst q
      obtain ⟨oi, ho, hc, _⟩ := hit
      rw [show s.heap.get? b = _ from e] at ho; cases ho; simp at hc
    show wpAny _ _ (Builtin.Dict.addKeywords d [] >>= _) _ _ _
    exact wpAny_bind (wpAny_pure (wpAny_pure (hR h' s.toks p (r.keep kp fun ob eo => hs d ob hdi eo))))
  | succ k ih =>
    intro i s o j hk hi hit hl iv r hf hlen hR
    have hlt : i < ps.length := by (first | lia | omega)
    refine codeAny_builtin entry_update_loop ?_
    rw [Around.under_plainId plain_update_loop _]
    show wpAny _ A.in1 (pyNext (.ref it) >>= _) _ _ s
    obtain ⟨v, hv, ivx⟩ := iv.get (i := i) (x := .tup [ps[i].1, ps[i].2]) (by simp [hlt])
    refine wpAny_bind (wpAny_pyNext_list_item hit hl (by simpa using hv) fun h1 hit1 hs1 => ?_)
    have kp1 : TupKeep s.heap h1 := fun b its m e => by
      refine (hs1.2 b (fun q => ?_)).trans e
      subst q
      obtain ⟨oi, ho, hc, _⟩ := hit
      rw [show s.heap.get? b = _ from e] at ho; cases ho; simp at hc
    have ivx1 := ivx.keep kp1
    cases ivx1 with | tup t ivs => 
    rename_i ta tn tvs
    obtain ⟨kv, vv, rfl, ik, ivv⟩ := ivs.two
    have r1 : Rep prog w h1 d o := r.keep kp1 fun ob eo => (hs1.2 d hdi).trans eo
    refine wpAny_bind (wpAny_holding ?_)
    refine wpAny_bind (wpAny_tryCatch ?_)
    unfold Builtin.Dict.pairItems
    refine wpAny_bind (wpAny_typeOf (T := "tuple") ⟨_, t, rfl⟩ ?_)
    rw [if_pos (by decide)]
    refine wpAny_bind (wpAny_seqItems t rfl (wpAny_pure ?_))
    show wpAny _ _ (holding [kv, vv] (dictSet d kv vv)) _ _ _
    refine wpAny_holding (dictSet_pv (s := { s with heap := h1 }) (by have := in1_units A; (first | lia | omega)) r1 (hf _ (List.getElem_mem hlt)) (by (first | lia | omega)) ik ivv fun h2 tk r2 hs2 => ?_)
    have kp2 : TupKeep h1 h2 := fun b its m e => by
      refine (hs2.2 b (fun q => ?_)).trans e
      subst q
      obtain ⟨ob, e2, e3⟩ := r1.get
      rw [show h1.get? b = _ from e] at e2; cases e2; exact e3 rfl
    refine wpAny_pure ⟨plainId_quiet plain_update_loop _, ?_⟩
    obtain ⟨oi, hoi, roi⟩ := hit1
    obtain ⟨ol, hol, rol⟩ := hl
    have dr : ps.drop i = ps[i] :: ps.drop (i + 1) := List.drop_eq_getElem_cons hlt
    refine ih (i + 1) { s with heap := h2, toks := tk } (dput o ps[i].1 ps[i].2) (j + 1) (by (first | lia | omega)) hlt ⟨oi, (hs2.2 it (fun q => hdi q.symm)).trans hoi, roi⟩ ⟨ol, (hs2.2 l (fun q => hdl q.symm)).trans ((hs1.2 l (fun q => hil q.symm)).trans hol), rol⟩ ((iv.keep kp1).keep kp2) r2
      (fun p hp => fits_dput (hf p hp)) (by have := dlen_dput o ps[i].1 ps[i].2; (first | lia | omega)) fun h3 tk3 p3 r3 => ?_
    refine hR h3 tk3 ⟨trivial, fun b ob nb eb => p3.2 b ob nb ((hs2.2 b (fun q => nb (.inl q))).trans ((hs1.2 b (fun q => nb (.inr q))).trans eb))⟩ ?_
    rw [dr]; exact r3
end

end Mine
end

section
namespace Mine

section
variable {prog : Program} {w : World} {h₀ : Heap} {n : Nat} {env : Env} {ρ : Loc} {σ : Store} {Q : PV → Store → Prop}

/-- dict(a list of pairs) -/
theorem lf_dict {a : Addr} {ps : List (PV × PV)} (o : MObj) (ho : (o = .dv []) ∨ ∃ T, o = .dt T []) (hbig : ∃ b o, sysModules < b ∧ h₀.get? b = some o) (e : σ a = some (.lst (ps.map fun p => .tup [p.1, p.2]))) (hf : ∀ p ∈ ps, fits o p.1) (hl : ps.length ≤ 900000)
    (q : ∀ c, σ c = none → Q (.loc c) (upd σ c (dputs o ps))) : LFn prog w h₀ (n + 1) (.type "dict") [.loc a] σ Q := fun env ρ H vs l hp => WE.newObj q fun A s Q' ok S X hh hQ => by
  obtain ⟨v, rfl⟩ := one_of l
  have := held_loc hh (hp _ (.head _)); subst this
  obtain ⟨ws, k, il, i1⟩ := S.objs _ _ e
  have hlen := i1.length
  have hu := ok.units
  refine callType_codes (Q₁ := fun obj s₁ => obj = .ref s.heap.objs.size ∧ s₁ = { s with heap := s.heap.push { cls := .type "dict", data := .dict #[] } }) F.kt_called_dict (F.kt_typeCall_dict_1 _) F.entry_dict_init (kt_code_dict_new _ ⟨rfl, rfl⟩) ?_
  rintro obj s₁ ⟨rfl, rfl⟩
  have hne : s.heap.objs.size ≠ a := fun e => by have := fresh s.heap; rw [e, show s.heap.get? a = _ from il] at this; cases this
  have r0 : Rep prog w (s.heap.push { cls := .type "dict", data := .dict #[] }) s.heap.objs.size o := by
    rcases ho with rfl | ⟨T, rfl⟩
    · exact rep_dv_new hbig S
    · exact rep_dt_new hbig S
  have l0 : dlen o = 0 := by rcases ho with rfl | ⟨T, rfl⟩ <;> rfl
  have hT : Shared.TypeIs { s with heap := s.heap.push { cls := .type "dict", data := .dict #[] } } (.ref s.heap.objs.size) "dict" := ⟨_, Heap.get?_push_size _ rfl, rfl⟩
  have il1 : (s.heap.push { cls := .type "dict", data := .dict #[] }).get? a = some { cls := .type "list", dict := none, data := .seq ws.toArray k, slots := #[] } := Heap.get?_push_of_some _ il
  refine ⟨hT, F.args_dict_init_2 _ _, ?_⟩
  unfold Builtin.«dict.__init__»
  refine wpAny_bind ?_
  unfold Builtin.Dict.selfAndRest
  refine wpAny_bind (wpAny_notOrdered_dict hT ?_)
  show wpAny _ _ (pure (s.heap.objs.size, [Value.ref a])) _ _ _
  refine wpAny_pure ?_
  show wpAny _ _ (Builtin.Dict.updateFrom "dict.__init__" s.heap.objs.size (.ref a) [] .none) _ _ _
  unfold Builtin.Dict.updateFrom
  refine wpAny_bind (wpAny_typeOf (T := "list") ⟨_, il1, rfl⟩ ?_)
  rw [if_pos (by decide)]
  refine wpAny_bind (keys_miss (s := { s with heap := s.heap.push { cls := .type "dict", data := .dict #[] } }) il1 ok.handled fun h1 tk1 hk1 => ?_)
  simp only [Option.isNone_none, if_true]
  refine wpAny_bind (wpAny_rule ?_)
  have il2 : h1.get? a = some { cls := .type "list", dict := none, data := .seq ws.toArray k, slots := #[] } := hk1 _ _ il1
  refine wpAny_bind (wpAny_pyIter_list (s := { s with heap := h1, toks := tk1 }) (l := a) (items := ws.toArray) ⟨_, il2, rfl, _, rfl⟩ ?_)
  refine wpAny_bind (wpAny_pure (wpAny_pure ⟨plainId_quiet plain_update_loop _, ?_⟩))
  have kp1 : TupKeep s.heap h1 := fun b its m eb => hk1 b _ (Heap.get?_push_of_some _ eb)
  have kpI : TupKeep h1 (h1.push { cls := .type "list_iterator", data := .fields #[.ref a, .int 0 0] }) := fun b its m eb => Heap.get?_push_of_some _ eb
  have kp0 : TupKeep (s.heap.push { cls := .type "dict", data := .dict #[] }) (h1.push { cls := .type "list_iterator", data := .fields #[.ref a, .int 0 0] }) := fun b its m eb => Heap.get?_push_of_some _ (hk1 b _ eb)
  have r1 : Rep prog w (h1.push { cls := .type "list_iterator", data := .fields #[.ref a, .int 0 0] }) s.heap.objs.size o := r0.keep kp0 fun ob eo => Heap.get?_push_of_some _ (hk1 _ _ eo)
  obtain ⟨od, hod, _⟩ := r1.get
  have hd1 : h1.get? s.heap.objs.size = some { cls := .type "dict", data := .dict #[] } := hk1 _ _ (Heap.get?_push_size _ rfl)
  refine update_loop (d := s.heap.objs.size) (it := h1.objs.size) (l := a) (vs := ws) (ps := ps) (A := A.in1) ok.handled (by have := ok.room; have := in1_units A; (first | lia | omega))
    (fun e => by rw [e, fresh] at hd1; cases hd1) hne (fun e => by rw [← e, fresh] at il2; cases il2)
    ps.length 0 { s with heap := h1.push { cls := .type "list_iterator", data := .fields #[.ref a, .int 0 0] }, toks := tk1 } o 0 (by simp) (Nat.zero_le _) ⟨_, Heap.get?_push_size _ rfl, rfl, rfl⟩ ⟨_, Heap.get?_push_of_some _ il2, rfl, _, rfl⟩ ((i1.keep kp1).keep kpI) r1 hf (by (first | lia | omega)) fun h2 tk2 p2 r2 => ?_
  refine ⟨rfl, hQ h2 tk2 _ ⟨trivial, fun b ob nb eb => p2.2 b ob (fun hc => ?_) (Heap.get?_push_of_some _ (hk1 b ob (Heap.get?_push_of_some _ eb)))⟩ (fresh _) (by simpa using r2)⟩
  rcases hc with rfl | rfl
  · rw [fresh] at eb; cases eb
  · have := hk1 _ _ (Heap.get?_push_of_some _ eb); rw [fresh] at this; cases this
end

end Mine
end

section
namespace Mine

-- a dict's keys and their iterator, whatever the keys are
section
variable {prog : Program} {w : World} {A : Around} {E : Value → Shared → Prop} {s : Shared} {d : Addr} {es : Array DictEntry} {ep : Nat}

theorem iter_keys_ents {Q : Value → Shared → Prop} (hd : (d == sysModules) = false) (hm : Ents s.heap d es ep)
    (hQ : Q (.ref s.heap.objs.size) { s with heap := s.heap.push { cls := .type "dict_keyiterator", data := .fields #[.ref d, .int 0 0, .int es.size 0, .int ep 0] } }) :
    wpAny (model prog w) A (pyIter (.ref d)) Q E s := by
  obtain ⟨o, ho, hc, hdat⟩ := id hm
  have hT : s.TypeIs (.ref d) "dict" := hm.typeIs
  refine wpAny_pyIter_slot hT F.slot_dict_iter (wpAny_call_entry F.slot_dict_iter hT F.entry_dict_iter ?_ (F.args_dict_iter_1 _))
  unfold Builtin.«dict.__iter__»
  refine wpAny_bind ?_
  unfold Builtin.Dict.dictSlotNone
  refine wpAny_bind (wpAny_notOrdered_dict hT ?_)
  show wpAny _ _ (pure (Value.ref d)) _ _ s
  refine wpAny_pure ?_
  show wpAny _ _ (Builtin.Dict.showsAll d >>= _) _ _ s
  unfold Builtin.Dict.showsAll
  rw [if_neg (by rw [hd]; exact Bool.false_ne_true)]
  refine wpAny_bind (wpAny_pure ?_)
  refine wpAny_bind (wpAny_dictEntries ho hdat ?_)
  refine wpAny_bind (wpAny_dictEpoch ho hdat ?_)
  refine wpAny_bind (wpAny_newObj_type (wpAny_pure ⟨_, rfl, "dict_keyiterator", _, ⟨_, Heap.get?_push_size _ rfl, rfl⟩, F.slot_dict_keyiterator_next.lookup, ?_⟩))
  simpa [rawInt] using hQ


theorem next_keys_item {it : Addr} {i : Nat} {e : DictEntry} {Q : Option Value → Shared → Prop} (hit : s.heap.IsKeyIter it d i es.size ep) (hm : Ents s.heap d es ep) (hx : es[i]? = some e)
    (hQ : ∀ h', h'.IsKeyIter it d (i + 1) es.size ep → Heap.SameBut it s.heap h' → Q (some e.key) { s with heap := h' }) :
    wpAny (model prog w) A (pyNext (.ref it)) Q E s := by
  obtain ⟨o, ho, hc, hd⟩ := id hit
  obtain ⟨od, hod, hcd, hdd⟩ := id hm
  unfold pyNext
  refine wpAny_bind (wpAny_attempt (wpAny_callSpecial?_slot (name := Str.ofString "__next__") hit.typeIs F.slot_dict_keyiterator_next
    (wpAny_call_entry F.slot_dict_keyiterator_next hit.typeIs F.entry_dict_keyiterator_next ?_ (F.args_dict_keyiterator_next_1 _))))
  refine wpAny_bind (wpAny_pure ?_)
  refine wpAny_bind ?_
  refine wpAny_bind ?_
  first | refine wpAny_bind (wpAny_typeNameOfWhole_keyiter hit.typeIs (wpAny_pure ?_)) | refine wpAny_bind (wpAny_typeNameOf_keyiter hit.typeIs (wpAny_pure ?_))
  refine wpAny_bind (wpAny_fieldsOf ho hd ?_)
  have hown : Builtin.Dict_items.ownsTuple "dict_keyiterator" = false := by decide
  simp -iota only [hown, Bool.false_eq_true, if_false]
  show wpAny _ _ (if (Value.ref d == Value.none) = true then _ else _) _ _ s
  rw [if_neg (show ¬ ((Value.ref d == Value.none) = true) from Bool.false_ne_true)]
  refine wpAny_bind (wpAny_pure ?_)
  refine wpAny_bind (wpAny_dictEntries hod hdd ?_)
  rw [if_neg (by simp)]
  refine wpAny_bind (wpAny_pure ?_)
  refine wpAny_bind (wpAny_dictEpoch hod hdd ?_)
  rw [if_neg (by simp)]
  refine wpAny_pure ?_

  simp only [show ¬ ((i : Int) < 0) from by (first | lia | omega), if_false, Int.toNat_natCast, hx]
  refine wpAny_bind ?_
  first | refine wpAny_bind (wpAny_typeNameOfWhole_keyiter hit.typeIs (wpAny_pure ?_)) | refine wpAny_bind (wpAny_typeNameOf_keyiter hit.typeIs (wpAny_pure ?_))
  refine wpAny_bind (wpAny_isOneOf_keyiter hit.typeIs ?_)
  show wpAny _ _ (setField (.ref it) 1 (rawInt ((i : Int) + 1)) >>= _) _ _ s
  refine wpAny_bind (wpAny_setField ho hd (by simp) ?_)
  have hit' : (s.heap.update it (Obj.mapFields (·.setIfInBounds 1 (rawInt ((i : Int) + 1))))).IsKeyIter it d (i + 1) es.size ep :=
    ⟨_, Heap.get?_update_self _ ho (Obj.isFreed_of_fields (Obj.data_mapFields hd _)), (Obj.cls_mapFields ..).trans hc, by rw [Obj.data_mapFields hd]; simp [rawInt]⟩
  refine wpAny_bind (wpAny_holding ?_)
  refine wpAny_bind (wpAny_isOneOf_keyiter (s := { s with heap := s.heap.update it (Obj.mapFields (·.setIfInBounds 1 (rawInt ((i : Int) + 1)))) }) hit'.typeIs ?_)
  show wpAny _ _ (pure e.key) _ _ _
  exact wpAny_pure (wpAny_pure ⟨_, rfl, wpAny_pure (hQ _ hit' (Heap.SameBut.update ..))⟩)


theorem next_keys_end {it : Addr} {i : Nat} {Q : Option Value → Shared → Prop} (hh : A.handled = none) (hit : s.heap.IsKeyIter it d i es.size ep) (hm : Ents s.heap d es ep) (hx : es[i]? = none)
    (hQ : ∀ h', Heap.ExtBut it s.heap h' → Q none { s with heap := h' }) : wpAny (model prog w) A (pyNext (.ref it)) Q E s := by
  obtain ⟨o, ho, hc, hd⟩ := id hit
  obtain ⟨od, hod, hcd, hdd⟩ := id hm
  unfold pyNext
  refine wpAny_bind (wpAny_attempt (wpAny_callSpecial?_slot (name := Str.ofString "__next__") hit.typeIs F.slot_dict_keyiterator_next
    (wpAny_call_entry F.slot_dict_keyiterator_next hit.typeIs F.entry_dict_keyiterator_next ?_ (F.args_dict_keyiterator_next_1 _))))
  refine wpAny_bind (wpAny_pure ?_)
  refine wpAny_bind ?_
  refine wpAny_bind ?_
  first | refine wpAny_bind (wpAny_typeNameOfWhole_keyiter hit.typeIs (wpAny_pure ?_)) | refine wpAny_bind (wpAny_typeNameOf_keyiter hit.typeIs (wpAny_pure ?_))
  refine wpAny_bind (wpAny_fieldsOf ho hd ?_)
  have hown : Builtin.Dict_items.ownsTuple "dict_keyiterator" = false := by decide
  simp -iota only [hown, Bool.false_eq_true, if_false]
  show wpAny _ _ (if (Value.ref d == Value.none) = true then _ else _) _ _ s
  rw [if_neg (show ¬ ((Value.ref d == Value.none) = true) from Bool.false_ne_true)]
  refine wpAny_bind (wpAny_pure ?_)
  refine wpAny_bind (wpAny_dictEntries hod hdd ?_)
  rw [if_neg (by simp)]
  refine wpAny_bind (wpAny_pure ?_)
  refine wpAny_bind (wpAny_dictEpoch hod hdd ?_)
  rw [if_neg (by simp)]
  refine wpAny_pure ?_
  simp only [show ¬ ((i : Int) < 0) from by (first | lia | omega), if_false, Int.toNat_natCast, hx]
  refine wpAny_bind ?_
  first | refine wpAny_bind (wpAny_typeNameOfWhole_keyiter hit.typeIs (wpAny_pure ?_)) | refine wpAny_bind (wpAny_typeNameOf_keyiter hit.typeIs (wpAny_pure ?_))
  show wpAny _ _ (setField (.ref it) 0 .none >>= _) _ _ s
  refine wpAny_bind (wpAny_setField ho hd (by simp) ?_)
  show wpAny _ _ (newExc (.type "StopIteration") [] >>= _) _ _ _
  refine wpAny_bind ?_
  simp -iota only [newExc, newTuple]
  refine wpAny_bind (wpAny_newObj_type ?_ (by size_fits))
  refine wpAny_bind (m := firstArgMember _ _) (wpAny_of_eq (a := Value.none) (by first | rfl | (simp -iota only [firstArgMember]; rfl)) ?_)
  refine wpAny_newObj_type ?_ (by size_fits)
  simp -iota only [raiseNew]
  refine wpAny_bind (wpAny_handled ?_)
  rw [show A.in1.handled = none from hh]
  refine wpAny_bind (wpAny_pure (wpAny_throw ?_))
  refine wpAny_bind (wpAny_isInstance (T := "StopIteration") (b := true) ⟨_, Heap.get?_push_size _ rfl, rfl⟩ isSubtype_stop ?_)
  exact wpAny_pure (hQ _ (((Heap.SameBut.update ..).extBut.push _).push _))

theorem Ents.at {h h' : Heap} (x : Ents h d es ep) (k : ∀ o, h.get? d = some o → h'.get? d = some o) : Ents h' d es ep := by
  obtain ⟨o, ho, r⟩ := x; exact ⟨o, k o ho, r⟩
theorem Ents.lt {h : Heap} (x : Ents h d es ep) : d < h.objs.size := by obtain ⟨o, ho, r⟩ := x; exact Heap.lt_size ho
theorem walks_keys (hh : A.handled = none) (I : Addr) (hne : d ≠ I) :
    Walks prog w A I [I, d] [I] es.size (fun i v => ∃ e, es[i]? = some e ∧ v = e.key) (fun i h => h.IsKeyIter I d i es.size ep ∧ Ents h d es ep) where
  sub := fun b hb => by simp at hb; simp [hb]
  frame := fun _ _ _ st hk => ⟨st.1.at fun o e => hk I (by simp) o e, Ents.at st.2 fun o e => hk d (by simp) o e⟩
  item := fun i s Q E hi st hQ => by
    refine next_keys_item st.1 st.2 (Array.getElem?_eq_getElem hi) fun h' hit' hs' => ?_
    exact hQ _ h' s.toks ⟨_, Array.getElem?_eq_getElem hi, rfl⟩ ⟨hit', Ents.at st.2 fun o e => hs'.extBut d o hne e⟩ fun b o hb e => hs'.extBut b o (fun h => hb (by simp [h])) e
  done := fun s Q E st hQ => next_keys_end hh st.1 st.2 (by simp) fun h' he' => hQ h' s.toks fun b o hb e => he' b o (fun h => hb (by simp [h])) e
  self := fun _ _ _ _ st hQ => wpAny_pyIter_keyiter st.1 hQ
theorem src_keys (lo : (d == sysModules) = false) : KdlSrc prog w "dict" d d es.size (fun i v => ∃ e, es[i]? = some e ∧ v = e.key) (fun h => Ents h d es ep) where
  type := fun _ hm => hm.typeIs
  there := fun _ hm => ⟨hm.lt, hm.lt⟩
  keep := fun _ _ hm hk => hm.at fun o e => hk d (.inl rfl) o e
  notList := by decide
  notTuple := by decide
  hint := fun _ _ _ _ hm hq => kdl_hint_dict hm.typeIs hq
  iter := fun _ _ hh hm => ⟨_, _, (fun _ _ hq => iter_keys_ents lo hm hq), walks_keys hh _ (Nat.ne_of_lt hm.lt), ⟨⟨_, Heap.get?_push_size _ rfl, rfl, rfl⟩, hm.at fun o e => Heap.get?_push_of_some _ e⟩⟩
end

end Mine
end

section
namespace Mine

theorem is_of_isVal {h : Heap} {k : PV} {v : Value} (e : isVal k v = true) : Is h v k := by
  rcases isVal_cases e with ⟨i, t, rfl, rfl⟩ | ⟨x, t, rfl, rfl⟩
  · exact .int ..
  · exact .str ..

section
variable {prog : Program} {w : World} {h₀ : Heap} {n : Nat} {env : Env} {ρ : Loc} {σ : Store}

theorem dv_ents {h : Heap} {d : Addr} {es : List (PV × PV)} (x : Rep prog w h d (.dv es)) :
    ∃ ents ep, (d == sysModules) = false ∧ Ents h d ents ep ∧ ents.size = es.length ∧ ∀ (i : Nat) (p : PV × PV), es[i]? = some p → ∃ e : DictEntry, ents[i]? = some e ∧ Is h e.key p.1 ∧ Is h e.val p.2 := by
  obtain ⟨hs, kvs, ⟨ob, ents, ep, ho, hx, hd, hk, hp, hn⟩, h1, h2⟩ := x
  have hl : kvs.length = es.length := by simpa using congrArg List.length h1
  have hsz : ents.size = kvs.length := by rw [← @Pairs.length prog w PV PV.decEq (valKind prog w) _ _ hp]; simp
  refine ⟨ents, ep, hs, ⟨ob, ho, hx, hd⟩, by (first | lia | omega), fun i p hi => ?_⟩
  obtain ⟨hlt, _⟩ := List.getElem?_eq_some_iff.mp hi
  have hlt' : i < kvs.length := by (first | lia | omega)
  have hlt2 : i < ents.size := by (first | lia | omega)
  have e1 : kvs[i].1 = p.1 := by
    have := congrArg (fun l => l[i]?) h1
    simp only [List.getElem?_map, hi, List.getElem?_eq_getElem hlt', Option.map_some, Option.some.injEq] at this
    exact this
  have g := @Pairs.get? prog w PV PV.decEq (valKind prog w) _ _ hp (i := i) (e := ents[i]) (k := kvs[i].1) (v := kvs[i].2) (by simp [hlt2]) (by simp [hlt'])
  refine ⟨ents[i], by simp [hlt2], ?_, ?_⟩
  · rw [← e1]; exact is_of_isVal g.1
  · rw [g.2]
    obtain ⟨v, hv, iv⟩ := h2.get (i := i) (x := p.2) (by simp [hi])
    simp only [List.getElem?_map, List.getElem?_eq_getElem hlt', Option.map_some, Option.some.injEq] at hv
    rw [← hv] at iv
    exact iv
theorem dt_ents {h : Heap} {d : Addr} {T : Ty} {es : List (PV × PV)} (x : Rep prog w h d (.dt T es)) :
    ∃ ents ep, (d == sysModules) = false ∧ Ents h d ents ep ∧ ents.size = es.length ∧ ∀ (i : Nat) (p : PV × PV), es[i]? = some p → ∃ e : DictEntry, ents[i]? = some e ∧ Is h e.key p.1 ∧ Is h e.val p.2 := by
  obtain ⟨hs, kvs, ⟨ob, ents, ep, ho, hx, hd, r⟩, h1⟩ := id x
  have x' : Rep prog w h d (.dx ob T es) := ⟨ho, x⟩
  exact ⟨ents, ep, hs, dx_ents x' hd⟩
theorem isAll_of {h : Heap} : ∀ {vs : List Value} {xs : List PV}, vs.length = xs.length → (∀ (i : Nat) (v : Value) (x : PV), vs[i]? = some v → xs[i]? = some x → Is h v x) → IsAll h vs xs
  | [], [], _, _ => .nil
  | v :: vs, x :: xs, hl, hv => .cons (hv 0 v x rfl rfl) (isAll_of (by simpa using hl) fun i v' x' a b => hv (i + 1) v' x' (by simpa using a) (by simpa using b))
theorem collects_ents {d : Addr} {es : List (PV × PV)} (hx : ∀ h, (SRel prog w h₀ σ h) → ∃ ents ep, (d == sysModules) = false ∧ Ents h d ents ep ∧ ents.size = es.length ∧ ∀ (i : Nat) (p : PV × PV), es[i]? = some p → ∃ e : DictEntry, ents[i]? = some e ∧ Is h e.key p.1 ∧ Is h e.val p.2)
    (hl : es.length ≤ 1000000) : Collects prog w h₀ σ (.loc d) (es.map (·.1)) := fun A s v Q ok S i hQ => by
  cases i
  obtain ⟨ents, ep, hs, hm, hsz, hget⟩ := hx _ S
  refine kdu_collect (src_keys hs) ok.handled hm (by rw [sizeLine_eq]; (first | lia | omega)) fun h' tk acc hk ha => ?_
  have kp : TupKeep s.heap h' := fun b its m e => hk b _ e
  have hal := ha.1
  refine hQ _ h' tk ⟨trivial, fun b o nb e => hk b o e⟩ (isAll_of (by simp [hal, hsz]) fun i v x a b => ?_)
  obtain ⟨e, he, rfl⟩ := ha.2 i v (by simpa using a)
  simp only [List.getElem?_map, Option.map_eq_some_iff] at b
  obtain ⟨p, hp, rfl⟩ := b
  obtain ⟨e', he', ik, _⟩ := hget i p hp
  rw [he] at he'; cases he'
  exact ik.keep kp
theorem collects_dv {d : Addr} {es : List (PV × PV)} (e : σ d = some (.dv es)) (hl : es.length ≤ 1000000) : Collects prog w h₀ σ (.loc d) (es.map (·.1)) :=
  collects_ents (fun h S => dv_ents (S.objs _ _ e)) hl
theorem collects_dt {d : Addr} {T : Ty} {es : List (PV × PV)} (e : σ d = some (.dt T es)) (hl : es.length ≤ 1000000) : Collects prog w h₀ σ (.loc d) (es.map (·.1)) :=
  collects_ents (fun h S => dt_ents (S.objs _ _ e)) hl
end

end Mine
end

section
namespace Mine

section
variable {prog : Program} {w : World} {h₀ : Heap} {n : Nat} {env : Env} {ρ : Loc} {σ : Store}

noncomputable def Binder (env : Env) (f : Value → Sem Unit) (x : Str) : Prop := ∀ (M : Model) (A : Around) (E : Value → Shared → Prop) (s : Shared) (Q : Unit → Shared → Prop) (v : Value), wpAny M A (storeName env x v) Q E s → wpAny M A (f v) Q E s
theorem Binder.name {x : Str} {p : Pos} : Binder env (fun v => do standAt p; bindName env x v) x := fun M A E s Q v h => wpAny_bind (wpAny_standAt (wpAny_bindName h))

noncomputable def binds : List Str → List PV → Loc → Loc
  | x :: xs, v :: vs, ρ => binds xs vs ((x, v) :: ρ)
  | _, _, ρ => ρ
inductive Binders (env : Env) : List (Value → Sem Unit) → List Str → Prop where
  | nil : Binders env [] []
  | cons {f fs x xs} (h : Binder env f x) (k : Stor env x) (r : Binders env fs xs) : Binders env (f :: fs) (x :: xs)
theorem wp_inorder {H : List (Value × PV)} {Q : Unit → Loc → Store → Prop} : ∀ {fs : List (Value → Sem Unit)} {xs : List Str}, Binders env fs xs → ∀ {items : List Value} {vs : List PV} {ρ : Loc}, items.length = xs.length → vs.length = xs.length → (∀ p ∈ items.zip vs, p ∈ H) → Q () (binds xs vs ρ) σ →
    WP prog w h₀ n (Own env) unitR env H (assignInOrder fs items) ρ σ Q := by
  intro fs xs b
  induction b with
  | nil =>
    intro items vs ρ hi hv hm q A s ok S X hh
    cases items <;> simp at hi
    cases vs <;> simp at hv
    exact wpAny_pure (Post.of (b := ()) .refl S X trivial q)
  | @cons f fs x xs h k r ih =>
    intro items vs ρ hi hv hm q A s ok S X hh
    cases items with
    | nil => simp at hi
    | cons i items =>
      cases vs with
      | nil => simp at hv
      | cons v vs =>
        refine wpAny_bind (wpAny_holding (h _ _ _ _ _ _ ?_))
        refine WP.go (ownMod env) (wp_store (n := n) (H := H) (Q := fun _ ρ' σ' => ρ' = (x, v) :: ρ ∧ σ' = σ) k (hm _ (.head _)) ⟨rfl, rfl⟩) ok S X hh fun _ s₂ _ ρ₂ σ₂ st₂ S₂ X₂ hh₂ _ q₂ => ?_
        obtain ⟨rfl, rfl⟩ := q₂
        refine WP.go (ownMod env) (ih (items := items) (vs := vs) (by simpa using hi) (by simpa using hv) (fun p hp => hm p (.tail _ hp)) q) ok S₂ X₂ hh₂ fun u s₃ _ ρ₃ σ₃ st₃ S₃ X₃ hh₃ _ q₃ => ?_
        exact Post.of (b := ()) (st₂.andThen (ownMod env) st₃ X₂) S₃ X₃ trivial q₃
variable {Q : PFlow → Loc → Store → Prop}
/-- names = a tuple -/
theorem ws_unpack {elts : List Expr} {k : Nat} {tpos pos : Pos} {value : Expr} (xs : List Str) (hb : Binders env ((assignEach elts env).map (·.2)) xs)
    (h : WV prog w h₀ n env [] (eval value env) ρ σ fun v σ₁ => ∃ vs, v = .tup vs ∧ vs.length = xs.length ∧ Q .next (binds xs vs ρ) σ₁)
    (hs : swapsWithSole [.Tuple elts k tpos] value pos.line env = pure false := by rfl)
    (hw : swappedStores [.Tuple elts k tpos] value env = pure none := by rfl) (hln : (assignEach elts env).length = xs.length := by rfl) (hstar : (assignEach elts env).findIdx? (·.1) = none := by rfl) : WS prog w h₀ n env (exec (.Assign [.Tuple elts k tpos] value pos) env) ρ σ Q := fun A s ok S X hh =>
  Assign_Tuple (WP.go (noMod env) h ok S X hh fun v s₁ b ρ₁ σ₁ st S₁ X₁ hh₁ r q => by
    obtain ⟨rfl, vs, rfl, hl, q⟩ := q
    obtain ⟨t, kk, its, rfl, it, i⟩ := held_tup (hh₁.cons r) (.head _)
    refine assign_Tuple_tuple (t := t) (items := its.toArray) ok.handled ⟨_, it, rfl, _, rfl⟩ (by have := i.length; simp; (first | lia | omega)) hstar fun h' he => ?_
    have p : Pres NoMod s₁.heap h' := ⟨trivial, fun c o _ e => he c o (fun q => by rw [q, fresh] at e; cases e) e⟩
    obtain ⟨S₂, X₂, hh₂, st₂⟩ := firmStep S₁ X₁ (hh₁.all i) p
    refine WP.go (ownMod env) (wp_inorder (n := n) (Q := fun _ ρ' σ' => ρ' = binds xs vs ρ₁ ∧ σ' = σ₁) hb (by have := i.length; simp; (first | lia | omega)) hl (fun p hp => List.mem_append_left _ (by simpa using hp)) ⟨rfl, rfl⟩) (s := { s₁ with heap := h' }) ok S₂ X₂ hh₂ fun u s₃ _ ρ₃ σ₃ st₃ S₃ X₃ hh₃ _ q₃ => ?_
    obtain ⟨rfl, rfl⟩ := q₃
    exact Post.of (((Stp.own st).andThen (ownMod env) (st₂ s₁.toks _) X₁).andThen (ownMod env) st₃ X₂) S₃ X₃ .next q) hs hw
end

end Mine
end

section
namespace Mine

theorem newFunctionEnv_one {M : Model} {A : Around} {E : Value → Shared → Prop} {s : Shared} {scope : Scope} {globals : Addr} {cl : List (Str × Addr)} {qual : Str} {env : Env} {cx : Str} {Q : Env → Shared → Prop}
    (hc1 : ∀ k, cellsFrom k scope.names cl = (cx, k) :: cl) (hp1 : ∀ h, pushCells h scope.names = h.push { cls := .type "cell", data := .cell none })
    (hQ : Q (newEnv scope s.heap.objs.size globals ((cx, s.heap.objs.size + 1) :: cl) qual none .none (some env) builtinsNs) { s with heap := (s.heap.push { cls := .type "dict", data := .dict #[] }).push { cls := .type "cell", data := .cell none } }) :
    wpAny M A (newFunctionEnv scope globals cl [] qual none .none (some env)) Q E s := by
  simp only [newFunctionEnv, Option.isSome_some, if_true]
  refine wpAny_bind (wpAny_alloc ?_)
  refine wpAny_bind (wpAny_layCells _ (fun name kind cells => by cases hkc : kind == NameKind.cell <;> simp [hkc]) _ _ _ _ ?_)
  rw [List.forIn_nil]
  refine wpAny_bind (wpAny_pure (wpAny_pure ?_))
  rw [hc1, hp1]
  simpa [Heap.size_push, newEnv] using hQ
noncomputable def LocCell (C : Addr) : Addr → Prop := fun a => a = C ∨ a = C + 1
theorem locCell {scope : Scope} {cl : List (Str × Addr)} {C : Addr} {env : Env} {cx : Str} : NoTup (LocCell C) (compEnvC scope ((cx, C + 1) :: cl) C env) := fun a h => h.imp id fun h => ⟨_, .head _, h.symm⟩
theorem storC {scope : Scope} {cl : List (Str × Addr)} {C : Addr} {env : Env} {cx : Str} (h : (compEnvC scope ((cx, C + 1) :: cl) C env).kindOf cx = some .cell) : StorM (LocCell C) (compEnvC scope ((cx, C + 1) :: cl) C env) cx :=
  .inr ⟨h, C + 1, by show List.lookup cx ((cx, C + 1) :: cl) = _; simp [List.lookup_cons], .inr rfl⟩

section
variable {prog : Program} {w : World} {h₀ : Heap} {n : Nat} {Mod : Addr → Prop} {env : Env} {H : List (Value × PV)} {ρ : Loc} {σ : Store}

/-- a list comprehension with a cell of its own -/
theorem we_listcomp1 (cx : Str) {target iter : Expr} {ifs : List Expr} {rest : List Comprehension} {cl : List (Str × Addr)} {ρc : Loc} {Q : PV → Store → Prop} (hgens : gens = ⟨target, iter, ifs, 0⟩ :: rest) (ha : ∀ g ∈ gens, g.is_async = 0)
    (hclos : closureFor scope env = pure cl) (hkind : scope.kind = .function) (hc1 : ∀ k, cellsFrom k scope.names cl = (cx, k) :: cl) (hp1 : ∀ h, pushCells h scope.names = h.push { cls := .type "cell", data := .cell none }) (hnames : ∀ y ∈ scope.names, y.2 = .local → scope.names.lookup y.1 = some .local)
    (hcl : ∀ p ∈ cl, p ∈ env.cells) (hclp : (cl.map (·.1)).Nodup) (hcap : ∀ C, CapOk env scope ((cx, C + 1) :: cl) C ρ ρc)
    (h : WIter prog w h₀ n env target iter ρ σ fun elem good σ₁ => ∃ (items : List PV) (g : PV → List PV), (∀ σ', Less σ₁ σ' → good σ' ∧ ∀ i, elem σ' i = items[i]?) ∧ (items.flatMap g).length ≤ 1000000 ∧
      (∀ C D, σ₁ D = none → ∀ x ∈ items, ClauseOk prog w h₀ n (LocCell C) (compEnvC scope ((cx, C + 1) :: cl) C env) target ifs (compIn elt gens scope pos 0 (.ref D) (compEnvC scope ((cx, C + 1) :: cl) C env)) ρc σ₁ D x (g x)) ∧
      ∀ D, σ₁ D = none → Q (.loc D) (upd σ₁ D (.lst (items.flatMap g))))
    (hs : ∀ x, foldedSetIterable iter env x = pure x := by intro _; rfl) :
    WV prog w h₀ n env [] (eval (.ListComp elt gens scope pos) env) ρ σ Q := fun A s ok S X hh => by
  subst hgens
  rw [eval_ListComp]
  refine wpAny_comprehension_free (use := none) rfl hs hclos hkind hnames ?_
  refine h A s _ ok S X fun it s₂ σ₁ own K Md elem good st₁ S₁ X₁ io k0 fr ap q => ?_
  obtain ⟨items, g, hel, hlen, hb, hQ⟩ := q
  refine wpAny_newObj_type ?_ (by show ([] : List Value).toArray.size ≤ sizeLine; simp)
  have p2 : Pres NoMod s₂.heap (s₂.heap.push { cls := .type "list", data := .seq ([] : List Value).toArray }) := Pres.refl.push _
  obtain ⟨S₃, X₃, hh₃, tr₃⟩ := newStep (γ := Value) (δ := PV) (R' := Is) (H := []) (o := .lst []) S₁ X₁ (fun _ hp => by cases hp) p2 (fresh _) ⟨[], 0, IsL.new _ _, .nil⟩
  have frD := free_of S₁ (fresh s₂.heap)
  generalize hD : s₂.heap.objs.size = D at *
  have hDn : s₂.heap.get? D = none := by rw [← hD]; exact fresh _
  generalize hH3 : s₂.heap.push { cls := .type "list", data := .seq ([] : List Value).toArray } = H3 at *
  refine newFunctionEnv_one hc1 hp1 ?_
  dsimp only
  have hns := (Heap.Ns.new H3 (.type "dict")).keeps fun b o (e : (H3.push _).get? b = some o) => Heap.get?_push_of_some { cls := .type "cell", data := .cell none } e
  have hcl1 : ((H3.push { cls := .type "dict", data := .dict #[] }).push { cls := .type "cell", data := .cell none }).get? (H3.objs.size + 1) = some { cls := .type "cell", data := .cell none } := by
    have := Heap.get?_push_size (H3.push { cls := .type "dict", data := .dict #[] }) (o := { cls := .type "cell", data := .cell none }) rfl
    rw [Heap.size_push] at this; exact this
  have p3 : Pres NoMod H3 ((H3.push { cls := .type "dict", data := .dict #[] }).push { cls := .type "cell", data := .cell none }) := (Pres.refl.push _).push _
  have hCn1 : H3.get? (H3.objs.size + 1) = none := Heap.get?_none_of_le (Nat.le_succ _)
  generalize hh₁ : (H3.push { cls := .type "dict", data := .dict #[] }).push { cls := .type "cell", data := .cell none } = h₁ at hns hcl1 p3 ⊢
  generalize hC : H3.objs.size = C at hns hcl1 hCn1 ⊢
  have hCn : H3.get? C = none := by rw [← hC]; exact fresh _
  obtain ⟨S₄, X₄, hh₄, st₄⟩ := firmStep (s := { s₂ with heap := H3 }) (H := []) S₃ X₃ (fun _ hp => by cases hp) p3
  have hCσ : upd σ₁ D (.lst []) C = none := free_of S₃ hCn
  have hCh : h₀.get? C = none := by
    cases e : h₀.get? C with
    | none => rfl
    | some o => have := S₃.base _ _ e; rw [hCn] at this; cases this
  have hCσ1 : upd σ₁ D (.lst []) (C + 1) = none := free_of S₃ hCn1
  have hCh1 : h₀.get? (C + 1) = none := by
    cases e : h₀.get? (C + 1) with
    | none => rfl
    | some o => have := S₃.base _ _ e; rw [hCn1] at this; cases this
  have Xc : ERel h₀ (compEnvC scope ((cx, C + 1) :: cl) C env) ρc (upd σ₁ D (.lst [])) h₁ := by
    refine ⟨hkind, X₄.glob, X₄.bins, ⟨_, hns⟩, ⟨hCh, hCσ⟩, fun p hp => ?_, List.pairwise_cons.mpr ⟨fun p hp e => ?_, cells_apart hcl hclp X₃.apart⟩, fun x v e => ?_⟩
    · rcases List.mem_cons.mp hp with rfl | hp
      · exact ⟨⟨none, _, hcl1, rfl⟩, hCh1, hCσ1, Nat.succ_ne_self C⟩
      obtain ⟨⟨cv, o, h1, h2⟩, h3, h4, h5⟩ := X₃.cells p (hcl p hp)
      refine ⟨(X₄.cells p (hcl p hp)).1, h3, h4, fun e => ?_⟩
      have e' : p.2 = C := e
      rw [e', hCn] at h1; cases h1
    · obtain ⟨⟨cv, o, h1, h2⟩, _⟩ := X₃.cells p (hcl p hp)
      have e' : C + 1 = p.2 := e
      rw [← e', hCn1] at h1; cases h1
    · obtain ⟨e1, hk, hk2, c, hc1, hc2⟩ := (hcap C).names x v e
      obtain ⟨val, hv, hi⟩ := X₄.vars x v e1
      refine ⟨val, .inr ⟨hk2, c, hc2, ?_⟩, hi⟩
      rcases hv with ⟨hk', _⟩ | ⟨_, c', hc', hcell'⟩
      · rcases hk with hk | hk <;> rw [hk] at hk' <;> cases hk'
      · rw [hc1] at hc'; cases hc'; exact hcell'
  have apc : Apart h₀ (compEnvC scope ((cx, C + 1) :: cl) C env) own (upd σ₁ D (.lst [])) := by
    have neD : ∀ a, own a → a ≠ D := fun a ha e => by
      obtain ⟨o, e2, _⟩ := io.live 0 _ a k0 ha
      rw [e, hDn] at e2; cases e2
    refine ⟨ap.old, fun a ha => by rw [upd_ne _ _ (neD a ha)]; exact ap.free a ha, fun a ha ho => ?_⟩
    rcases ho with e | ⟨p, hp, e⟩
    · obtain ⟨o, e2, _⟩ := io.live 0 _ a k0 ha
      have e3 := p2.2 a o (fun f => f) e2
      have e' : a = C := e
      rw [e', hCn] at e3; cases e3
    · rcases List.mem_cons.mp hp with rfl | hp
      · obtain ⟨o, e2, _⟩ := io.live 0 _ a k0 ha
        have e3 := p2.2 a o (fun f => f) e2
        have e' : C + 1 = a := e
        rw [← e', hCn1] at e3; cases e3
      exact ap.frame a ha (.inr ⟨p, hcl p hp, e⟩)
  have k1 : K 0 h₁ := io.keep 0 _ _ k0 fun a o ha e => p3.2 a o (fun f => f) (p2.2 a o (fun f => f) e)
  have lss : ∀ acc : List PV, Less σ₁ (upd σ₁ D (.lst acc)) := fun acc => Less.upd_free frD
  show codeAny _ _ (.compStart (.ListComp elt (⟨target, iter, ifs, 0⟩ :: rest) scope pos) 0 it (.ref D) (compEnvC scope ((cx, C + 1) :: cl) C env)) _ _
  refine comp_start rfl (comp_code (d := 0) (g := g) (items := items) (acc₀ := []) (Mod := LocCell C) rfl ha locCell (by simpa using hlen) ok S₄ Xc io k1 apc (fun acc => hel _ (lss acc)) (fun x hx acc => ?_) fun s' ρ' st' S' X' hsub => ?_)
    (fun A Q hQ => io.self 0 A _ Q k1 hQ)
  · obtain ⟨ρ₂, h1, h2, h3⟩ := hb C D frD x hx
    intro H v hv
    exact WP.mono (h1 (upd σ₁ D (.lst acc)) H v hv) fun _ ρ' σ' ⟨e1, e2⟩ => by subst e1; subst e2; exact ⟨h2, rfl, h3⟩
  · simp only [List.nil_append] at st' S' X'
    obtain ⟨mC, hmC⟩ := X'.ns
    refine ⟨mC, hmC, fun h' hsb' => ?_⟩
    obtain ⟨⟨h1, tk1, rfl⟩, p1, sub1⟩ := st₁
    obtain ⟨⟨h5, tk5, rfl⟩, p5, sub5⟩ := st'
    obtain ⟨Xf, pf, sf⟩ := comp_tail (zs := items.flatMap g) S₁ X₁ ap p1 sub1 p2 p3 p5 (fun a d => d.elim (fun d => by rw [d]; exact hCn) fun d => by rw [d]; exact hCn1) hDn (fun a ho => io.live 0 _ a k0 ho) fr
    obtain ⟨S2, X2⟩ := offStep S' Xf ⟨fun a e => by rw [show a = C from e]; exact hCh, fun a e => (by
      rw [show a = C from e]
      by_cases hCD : C = D
      · rw [hCD, upd_same] at hCσ; cases hCσ
      · rw [upd_ne _ _ hCD] at hCσ ⊢; exact hCσ), fun a e ho => (by
      rw [show a = C from e] at ho
      obtain ⟨o, ho⟩ := X₃.alive ho
      rw [show H3.get? C = some o from ho] at hCn; cases hCn)⟩ hmC hsb'
    refine Post.of (stp_off (C := C) ⟨⟨h5, tk5, rfl⟩, pf, sf⟩ (fun nd => ?_) hsb') S2 X2 (.loc D) ⟨rfl, hQ D frD⟩
    cases q : s.heap.get? C with
    | none => rfl
    | some o =>
      have e3 := p2.2 C o (fun f => f) (p1.2 C o (fun d => d.elim nd id) q)
      rw [hCn] at e3; cases e3
end

end Mine
end

section
namespace Mine

noncomputable def bodyAt (p : Program) (k : Nat) : List Stmt := match p.main.body[k]? with | some (.FunctionDef _ _ b _ _ _ _ _ _ _) => b | _ => []
noncomputable def argsAt (p : Program) (k : Nat) : Arguments := match p.main.body[k]? with | some (.FunctionDef _ a _ _ _ _ _ _ _ _) => a | _ => { posonlyargs := [], args := [], vararg := none, kwonlyargs := [], kw_defaults := [], kwarg := none, defaults := [] }
noncomputable def scopeAt (p : Program) (k : Nat) : Scope := match p.main.body[k]? with | some (.FunctionDef _ _ _ _ _ _ s _ _ _) => s | _ => p.main.scope

theorem Sub.nil (ρ : Loc) : Sub [] ρ := fun x v e => by simp at e
theorem Sub.cons {x : Str} {v : PV} {ρ' ρ : Loc} (e : ρ.lookup x = some v) (h : Sub ρ' ρ) : Sub ((x, v) :: ρ') ρ := fun y u hy => by
  by_cases q : y = x
  · subst q; rw [lookup_cons_self] at hy; cases hy; exact e
  · have hb : (y == x) = false := beq_eq_false_iff_ne.mpr q
    simp only [List.lookup_cons, hb] at hy
    exact h y u hy
section
variable {prog : Program} {w : World} {h₀ : Heap} {n : Nat} {env : Env} {ρ : Loc} {σ : Store} {Q : PFlow → Loc → Store → Prop}
/-- the names set in order -/
theorem ws_norm {t : Sem Flow} (ρ' : Loc) (hs : Sub ρ' ρ) (h : WS prog w h₀ n env t ρ' σ Q) : WS prog w h₀ n env t ρ σ Q := WP.know h (Less.refl σ) hs
theorem if_dec_pos {p : Prop} [Decidable p] {X Y : Prop} (h : p) (x : X) : if decide p = true then X else Y := by rw [decide_eq_true h]; exact x
theorem if_dec_neg {p : Prop} [Decidable p] {X Y : Prop} (h : ¬ p) (y : Y) : if decide p = true then X else Y := by rw [decide_eq_false h]; exact y
theorem if_not_pos {p : Prop} [Decidable p] {X Y : Prop} (h : p) (y : Y) : if (!decide p) = true then X else Y := by rw [decide_eq_true h]; exact y
theorem if_not_neg {p : Prop} [Decidable p] {X Y : Prop} (h : ¬ p) (x : X) : if (!decide p) = true then X else Y := by rw [decide_eq_false h]; exact x
/-- what is asked at the end, by a name of its own -/
theorem ws_abs {t : Sem Flow} (h : ∀ Q' : PFlow → Loc → Store → Prop, (∀ f ρ₁ σ₁, Q f ρ₁ σ₁ → Q' f ρ₁ σ₁) → WS prog w h₀ n env t ρ σ Q') : WS prog w h₀ n env t ρ σ Q := h Q fun _ _ _ x => x
/-- less is known of the store -/
theorem ws_less {t : Sem Flow} {σ' : Store} (l : Less σ' σ) (h : WS prog w h₀ n env t ρ σ' Q) : WS prog w h₀ n env t ρ σ Q := WP.know h l (fun _ _ e => e)
end
end Mine
end

section
namespace Mine

/-- add_callers' table -/
noncomputable def copied (es : List (PV × PV)) : List (PV × PV) := es.foldl (fun acc p => dset acc p.1 p.2) []
noncomputable def addOne (acc : List (PV × PV)) (p : PV × PV) : List (PV × PV) :=
  match dget acc p.1, p.2 with
  | some (.int a), .int b => dset acc p.1 (.int (a + b))
  | _, _ => dset acc p.1 p.2
noncomputable def addTab (es fs : List (PV × PV)) : List (PV × PV) := fs.foldl addOne (copied es)
noncomputable def IntVals (es : List (PV × PV)) : Prop := ∀ p ∈ es, ∃ i, p.2 = .int i
noncomputable def KeysT (T : Ty) (es : List (PV × PV)) : Prop := ∀ p ∈ es, ∃ ks, p.1 = .tup ks ∧ HasTy T (.tup ks) ∧ Hsh 3 (.tup ks)

theorem dset_vals {es : List (PV × PV)} {k v : PV} (h : IntVals es) (hv : ∃ i, v = .int i) : IntVals (dset es k v) := by
  unfold dset
  split
  · intro p hp
    obtain ⟨q, hq, rfl⟩ := List.mem_map.mp hp
    split
    · exact hv
    · exact h q hq
  · intro p hp
    rcases List.mem_append.mp hp with hp | hp
    · exact h p hp
    · rw [List.mem_singleton.mp hp]; exact hv
theorem copied_vals {es : List (PV × PV)} (h : IntVals es) : IntVals (copied es) := by
  have : ∀ (l acc : List (PV × PV)), IntVals l → IntVals acc → IntVals (l.foldl (fun acc p => dset acc p.1 p.2) acc) := by
    intro l
    induction l with
    | nil => intro acc _ h; exact h
    | cons p l ih => intro acc hl ha; exact ih _ (fun q hq => hl q (.tail _ hq)) (dset_vals ha (hl p (.head _)))
  exact this es [] h (fun _ hp => by cases hp)
theorem addOne_vals {acc : List (PV × PV)} {p : PV × PV} (h : IntVals acc) (hp : ∃ i, p.2 = .int i) : IntVals (addOne acc p) := by
  unfold addOne
  split
  · exact dset_vals h ⟨_, rfl⟩
  · exact dset_vals h hp
theorem dget_vals {es : List (PV × PV)} {k x : PV} (h : IntVals es) (e : dget es k = some x) : ∃ i, x = .int i := by
  unfold dget at e
  obtain ⟨p, hp, rfl⟩ := Option.map_eq_some_iff.mp e
  exact h p (List.mem_of_find?_eq_some hp)
theorem copied_length (es : List (PV × PV)) : (copied es).length ≤ es.length := by
  have : ∀ (l acc : List (PV × PV)), (l.foldl (fun acc p => dset acc p.1 p.2) acc).length ≤ acc.length + l.length := by
    intro l
    induction l with
    | nil => intro acc; simp
    | cons p l ih => intro acc; simp only [List.foldl_cons, List.length_cons]; have := ih (dset acc p.1 p.2); have := dset_length acc p.1 p.2; (first | lia | omega)
  have := this es []
  simp only [List.length_nil, Nat.zero_add] at this
  exact this
theorem addOne_length (acc : List (PV × PV)) (p : PV × PV) : (addOne acc p).length ≤ acc.length + 1 := by
  unfold addOne
  split <;> exact dset_length ..
theorem adds_length (fs acc : List (PV × PV)) : (fs.foldl addOne acc).length ≤ acc.length + fs.length := by
  induction fs generalizing acc with
  | nil => simp
  | cons p l ih => simp only [List.foldl_cons, List.length_cons]; have := ih (addOne acc p); have := addOne_length acc p; (first | lia | omega)
theorem adds_vals {fs acc : List (PV × PV)} (hf : IntVals fs) (ha : IntVals acc) : IntVals (fs.foldl addOne acc) := by
  induction fs generalizing acc with
  | nil => exact ha
  | cons p l ih => exact ih (fun q hq => hf q (.tail _ hq)) (addOne_vals ha (hf p (.head _)))
theorem take_succ_fold {α β : Type} (f : β → α → β) (b : β) (l : List α) {i : Nat} {p : α} (h : l[i]? = some p) : (l.take (i + 1)).foldl f b = f ((l.take i).foldl f b) p := by
  rw [List.take_add_one, h, List.foldl_append]; rfl
theorem upd_comm (σ : Store) {a c : Addr} (o o' : MObj) (h : a ≠ c) : upd (upd σ a o) c o' = upd (upd σ c o') a o := by
  funext b; unfold upd
  by_cases h1 : b = c
  · subst h1; simp [Ne.symm h]
  · by_cases h2 : b = a <;> simp [h1, h2, h]
noncomputable def valsOf (es : List (PV × PV)) : List Int := es.map fun p => match p.2 with | .int i => i | _ => 0
theorem valsOf_get {es : List (PV × PV)} (h : IntVals es) {i : Nat} {p : PV × PV} (e : es[i]? = some p) : ∃ v, p.2 = .int v ∧ (valsOf es)[i]? = some v := by
  obtain ⟨v, hv⟩ := h p (List.mem_of_getElem? e)
  exact ⟨v, hv, by unfold valsOf; rw [List.getElem?_map, e]; simp [hv]⟩
theorem sumL_take {l : List Int} {i : Nat} {v : Int} (e : l[i]? = some v) : sumL (l.take (i + 1)) = sumL (l.take i) + v := by
  rw [List.take_add_one, e]
  show ((l.take i) ++ [v]).foldl (· + ·) 0 = _
  rw [List.foldl_append]; rfl
end Mine
end

section
namespace Mine

noncomputable def freesOf (look : Str → Option Addr) : List (Str × NameKind) → List (Str × Addr) → List (Str × Addr)
  | [], acc => acc
  | (n, k) :: r, acc => if k == .free then freesOf look r ((n, (look n).getD 0) :: acc) else freesOf look r acc
theorem closureFor_eq {scope : Scope} {env : Env} (h : ∀ y ∈ scope.names, y.2 = .free → (env.cells.lookup y.1).isSome = true) : closureFor scope env = pure (freesOf (fun x => env.cells.lookup x) scope.names []) := by
  have key : ∀ (names : List (Str × NameKind)) (acc : List (Str × Addr)), (∀ y ∈ names, y.2 = .free → (env.cells.lookup y.1).isSome = true) →
      (forIn names acc fun (x : Str × NameKind) (cs : List (Str × Addr)) => (do if x.2 == .free then pure (ForInStep.yield ((x.1, ← cellOf env x.1) :: cs)) else pure (ForInStep.yield cs) : Sem (ForInStep (List (Str × Addr))))) = pure (freesOf (fun x => env.cells.lookup x) names acc) := by
    intro names
    induction names with
    | nil => intro acc _; rw [List.forIn_nil]; rfl
    | cons y r ih =>
      intro acc hy
      obtain ⟨n, k⟩ := y
      rw [List.forIn_cons]
      unfold freesOf
      by_cases hk : (k == NameKind.free) = true
      · obtain ⟨c, hc⟩ := Option.isSome_iff_exists.mp (hy (n, k) (.head _) (by simpa using hk))
        have e : cellOf env n = pure c := by unfold cellOf; rw [show env.cells.lookup n = some c from hc]
        dsimp only
        rw [if_pos hk, if_pos hk, e]
        simp only [pure_bind]
        rw [ih _ fun z hz => hy z (.tail _ hz)]
        rw [show env.cells.lookup n = some c from hc]; rfl
      · dsimp only
        rw [if_neg hk, if_neg hk]
        simp only [pure_bind]
        exact ih _ fun z hz => hy z (.tail _ hz)
  unfold closureFor
  have := key scope.names [] h
  simp only [bind_pure] at this ⊢
  exact this

theorem lookup_relabel {env : Env} : ∀ {names : List (Str × NameKind)} {x : Str} {k : NameKind}, names.lookup x = some k →
    (names.map fun (n, k) => if (k == NameKind.free && env.scope.kind == .function && env.kindOf n == some .cell) then (n, NameKind.cell) else (n, k)).lookup x = some k ∨
    (k = .free ∧ (names.map fun (n, k) => if (k == NameKind.free && env.scope.kind == .function && env.kindOf n == some .cell) then (n, NameKind.cell) else (n, k)).lookup x = some .cell)
  | [], _, _, h => by simp at h
  | (n, k) :: r, x, k', h => by
    have ih := @lookup_relabel env r x k'
    show List.lookup x ((if (k == NameKind.free && env.scope.kind == .function && env.kindOf n == some .cell) = true then (n, NameKind.cell) else (n, k)) :: _) = _ ∨ (_ ∧ List.lookup x ((if (k == NameKind.free && env.scope.kind == .function && env.kindOf n == some .cell) = true then (n, NameKind.cell) else (n, k)) :: _) = _)
    cases hx : x == n with
    | true =>
      simp only [List.lookup_cons, hx] at h
      cases h
      by_cases hc : (k == NameKind.free && env.scope.kind == .function && env.kindOf n == some .cell) = true
      · rw [if_pos hc]
        refine .inr ⟨?_, by simp [List.lookup_cons, hx]⟩
        simp only [Bool.and_eq_true] at hc
        simpa using hc.1.1
      · rw [if_neg hc]; exact .inl (by simp [List.lookup_cons, hx])
    | false =>
      simp only [List.lookup_cons, hx] at h
      by_cases hc : (k == NameKind.free && env.scope.kind == .function && env.kindOf n == some .cell) = true
      · rw [if_pos hc]; simp only [List.lookup_cons, hx]; exact ih h
      · rw [if_neg hc]; simp only [List.lookup_cons, hx]; exact ih h
section
variable {env : Env} {scope : Scope} {cl : List (Str × Addr)} {C : Addr} {ρ ρc : Loc}
theorem compKind {x : Str} {k : NameKind} (h : scope.names.lookup x = some k) (hk : k ≠ .free) : (compEnvC scope cl C env).kindOf x = some k := by
  rcases lookup_relabel (env := env) h with e | ⟨e, _⟩
  · exact e
  · exact absurd e hk
theorem compFree {x : Str} (h : scope.names.lookup x = some .free) : (compEnvC scope cl C env).kindOf x = some .cell ∨ (compEnvC scope cl C env).kindOf x = some .free := by
  rcases lookup_relabel (env := env) h with e | ⟨_, e⟩
  · exact .inr e
  · exact .inl e
theorem CapOk.nil : CapOk env scope cl C ρ [] := ⟨fun x v e => by simp at e⟩
theorem CapOk.cons {x : Str} {v : PV} {c : Addr} (e : ρ.lookup x = some v) (k1 : env.kindOf x = some .cell ∨ env.kindOf x = some .free) (k2 : scope.names.lookup x = some .free) (c1 : env.cells.lookup x = some c) (c2 : cl.lookup x = some c)
    (r : CapOk env scope cl C ρ ρc) : CapOk env scope cl C ρ ((x, v) :: ρc) := ⟨fun y u ey => by
  by_cases q : y = x
  · subst q
    rw [lookup_cons_self] at ey; cases ey
    exact ⟨e, k1, compFree k2, c, c1, c2⟩
  · have hb : (y == x) = false := beq_eq_false_iff_ne.mpr q
    simp only [List.lookup_cons, hb] at ey
    exact r.names y u ey⟩
end

/-- what an iterator gives, as long as the store stays -/
noncomputable def Itm (elem : Elems) (good : Store → Prop) (σ : Store) (xs : List PV) : Prop := ∀ σ', Less σ σ' → good σ' ∧ ∀ i, elem σ' i = xs[i]?
theorem itm_list {σ : Store} {l : Addr} {ys : List PV} (e : σ l = some (.lst ys)) : Itm (elemL l) (goodL l) σ ys := fun σ' ls => ⟨⟨ys, ls.lst e⟩, elemL_of (ls.lst e)⟩
theorem itm_range {σ : Store} {a b : Int} {m : Nat} (h : (m : Int) = max 0 (b - a)) : Itm (elemR a b) (fun _ => True) σ ((List.range m).map fun (k : Nat) => PV.int (a + (k : Int))) := fun σ' ls => ⟨trivial, fun i => by
  unfold elemR
  rw [List.getElem?_map]
  by_cases hi : i < m
  · rw [List.getElem?_range hi, if_pos (by (first | lia | omega))]; rfl
  · rw [List.getElem?_eq_none (by simp; (first | lia | omega)), if_neg (by (first | lia | omega))]; rfl⟩
theorem flatMap_back {α : Type} {f : α → PV} {u : PV → α} (hu : ∀ a, u (f a) = a) (H : α → List PV) (ls : List α) : (ls.map f).flatMap (fun x => H (u x)) = ls.flatMap H := by
  rw [List.flatMap_map]; congr 1; funext a; rw [hu]

section
variable {prog : Program} {w : World} {h₀ : Heap} {n : Nat} {Mod : Addr → Prop} {env : Env} {ρ : Loc} {σ : Store} {elt : Expr} {gens : List Comprehension} {scope : Scope} {pos : Pos} {d : Nat} {D : Addr} {ys : List PV} {α : Type}

/-- the comprehension's items by a list of any kind -/
theorem compAsk_of {target iter : Expr} {ifs : List Expr} {rest : List Comprehension} {cl : List (Str × Addr)} {ρc : Loc} {QA : Addr → Store → Prop} (ls : List α) (f : α → PV) (u : PV → α) (hu : ∀ a, u (f a) = a) (H : α → List PV)
    (h : WIter prog w h₀ n env target iter ρ σ fun elem good σ₁ => Itm elem good σ₁ (ls.map f) ∧ (ls.flatMap H).length ≤ 1000000 ∧
      (∀ C D, σ₁ D = none → ∀ a ∈ ls, ClauseOk prog w h₀ n (OnlyLoc (compEnvC scope cl C env)) (compEnvC scope cl C env) target ifs (compIn elt (⟨target, iter, ifs, 0⟩ :: rest) scope pos 0 (.ref D) (compEnvC scope cl C env)) ρc σ₁ D (f a) (H a)) ∧
      ∀ D, σ₁ D = none → QA D (upd σ₁ D (.lst (ls.flatMap H)))) : CompAsk prog w h₀ n env elt target iter ifs (⟨target, iter, ifs, 0⟩ :: rest) scope pos cl ρc ρ σ QA :=
  fun A s Q' ok S X hQ => h A s Q' ok S X fun it s₁ σ₁ own K Md elem good st S₁ X₁ io k0 fr ap q => hQ it s₁ σ₁ own K Md elem good st S₁ X₁ io k0 fr ap (by
    obtain ⟨q1, q2, q3, q4⟩ := q
    refine ⟨ls.map f, fun x => H (u x), q1, by rw [flatMap_back hu]; exact q2, fun C D hD x hx => ?_, fun D hD => by rw [flatMap_back hu]; exact q4 D hD⟩
    obtain ⟨a, ha, rfl⟩ := List.mem_map.mp hx
    show ClauseOk prog w h₀ n _ _ _ _ _ _ _ _ _ (H (u (f a)))
    rw [hu]; exact q3 C D hD a ha)
theorem we_comp {target iter : Expr} {ifs : List Expr} {rest : List Comprehension} (cl : List (Str × Addr)) (ρc : Loc) {Q : PV → Store → Prop} (ls : List α) (f : α → PV) (u : PV → α) (hu : ∀ a, u (f a) = a) (H : α → List PV)
    (hclos : closureFor scope env = pure cl) (hcell : ∀ y ∈ scope.names, y.2 ≠ .cell) (hnames : ∀ y ∈ scope.names, y.2 = .local → scope.names.lookup y.1 = some .local)
    (hcl : ∀ p ∈ cl, p ∈ env.cells) (hclp : (cl.map (·.1)).Nodup) (hcap : ∀ C, CapOk env scope cl C ρ ρc)
    (h : WIter prog w h₀ n env target iter ρ σ fun elem good σ₁ => Itm elem good σ₁ (ls.map f) ∧ (ls.flatMap H).length ≤ 1000000 ∧
      (∀ C D, σ₁ D = none → ∀ a ∈ ls, ClauseOk prog w h₀ n (OnlyLoc (compEnvC scope cl C env)) (compEnvC scope cl C env) target ifs (compIn elt (⟨target, iter, ifs, 0⟩ :: rest) scope pos 0 (.ref D) (compEnvC scope cl C env)) ρc σ₁ D (f a) (H a)) ∧
      ∀ D, σ₁ D = none → Q (.loc D) (upd σ₁ D (.lst (ls.flatMap H))))
    (hkind : scope.kind = .function := by rfl) (ha : ∀ g ∈ (⟨target, iter, ifs, 0⟩ :: rest : List Comprehension), g.is_async = 0 := by simp) (hs : ∀ x, foldedSetIterable iter env x = pure x := by intro _; rfl) :
    WV prog w h₀ n env [] (eval (.ListComp elt (⟨target, iter, ifs, 0⟩ :: rest) scope pos) env) ρ σ Q :=
  we_listcomp rfl ha hclos hkind hcell hnames hcl hclp hcap (compAsk_of ls f u hu H h) hs
noncomputable def freesIn (names : List (Str × NameKind)) (cs : List (Str × Addr)) : Bool := names.all fun y => !(y.2 == .free) || (cs.lookup y.1).isSome
noncomputable def plainIn (names : List (Str × NameKind)) : Bool := names.all fun y => !(y.2 == .cell) && (!(y.2 == .local) || names.lookup y.1 == some .local)
theorem freesIn_of {names : List (Str × NameKind)} {cs : List (Str × Addr)} (h : freesIn names cs = true) : ∀ y ∈ names, y.2 = .free → (cs.lookup y.1).isSome = true := fun y hy e => by
  have := List.all_eq_true.mp h y hy
  rw [e] at this
  simpa using this
theorem plainIn_cell {names : List (Str × NameKind)} (h : plainIn names = true) : ∀ y ∈ names, y.2 ≠ .cell := fun y hy e => by
  have := List.all_eq_true.mp h y hy
  rw [e] at this
  simp at this
theorem plainIn_local {names : List (Str × NameKind)} (h : plainIn names = true) : ∀ y ∈ names, y.2 = .local → names.lookup y.1 = some .local := fun y hy e => by
  have := List.all_eq_true.mp h y hy
  rw [e] at this
  simpa using this
theorem SubL.nil {cs : List (Str × Addr)} : ∀ p ∈ ([] : List (Str × Addr)), p ∈ cs := fun p hp => by cases hp
theorem SubL.cons {x : Str × Addr} {l cs : List (Str × Addr)} (h : x ∈ cs) (r : ∀ p ∈ l, p ∈ cs) : ∀ p ∈ x :: l, p ∈ cs := fun p hp => by
  rcases List.mem_cons.mp hp with rfl | hp
  · exact h
  · exact r p hp
theorem asyncs_of {gens : List Comprehension} (h : (gens.all fun g => g.is_async == 0) = true) : ∀ g ∈ gens, g.is_async = 0 := fun g hg => by
  have := List.all_eq_true.mp h g hg
  simpa using this
/-- a comprehension, its outer conditions by looking -/
theorem we_compb {target iter : Expr} {ifs : List Expr} {rest : List Comprehension} {cs : List (Str × Addr)} (hcs : env.cells = cs) (cl : List (Str × Addr)) (ρc : Loc) {Q : PV → Store → Prop} (ls : List α) (f : α → PV) (u : PV → α) (hu : ∀ a, u (f a) = a) (H : α → List PV)
    (hfree : freesIn scope.names cs = true) (hce : freesOf (fun x => cs.lookup x) scope.names [] = cl) (hplain : plainIn scope.names = true)
    (hcl : ∀ p ∈ cl, p ∈ cs) (hclp : (cl.map (·.1)).Nodup) (hcap : ∀ C, CapOk env scope cl C ρ ρc)
    (h : WIter prog w h₀ n env target iter ρ σ fun elem good σ₁ => Itm elem good σ₁ (ls.map f) ∧ (ls.flatMap H).length ≤ 1000000 ∧
      (∀ C D, σ₁ D = none → ∀ a ∈ ls, ClauseOk prog w h₀ n (OnlyLoc (compEnvC scope cl C env)) (compEnvC scope cl C env) target ifs (compIn elt (⟨target, iter, ifs, 0⟩ :: rest) scope pos 0 (.ref D) (compEnvC scope cl C env)) ρc σ₁ D (f a) (H a)) ∧
      ∀ D, σ₁ D = none → Q (.loc D) (upd σ₁ D (.lst (ls.flatMap H))))
    (hkind : scope.kind = .function := by rfl) (ha : ((⟨target, iter, ifs, 0⟩ :: rest : List Comprehension).all fun g => g.is_async == 0) = true := by rfl) (hs : ∀ x, foldedSetIterable iter env x = pure x := by intro _; rfl) :
    WV prog w h₀ n env [] (eval (.ListComp elt (⟨target, iter, ifs, 0⟩ :: rest) scope pos) env) ρ σ Q := by
  subst hcs
  exact we_comp cl ρc ls f u hu H ((closureFor_eq (freesIn_of hfree)).trans (by rw [hce])) (plainIn_cell hplain) (plainIn_local hplain) hcl hclp hcap h hkind (asyncs_of ha) hs
theorem we_comp1 {target iter : Expr} {ifs : List Expr} {rest : List Comprehension} (cx : Str) (cl : List (Str × Addr)) (ρc : Loc) {Q : PV → Store → Prop} (ls : List α) (f : α → PV) (u : PV → α) (hu : ∀ a, u (f a) = a) (H : α → List PV)
    (hclos : closureFor scope env = pure cl) (hc1 : ∀ k, cellsFrom k scope.names cl = (cx, k) :: cl) (hp1 : ∀ h, pushCells h scope.names = h.push { cls := .type "cell", data := .cell none }) (hnames : ∀ y ∈ scope.names, y.2 = .local → scope.names.lookup y.1 = some .local)
    (hcl : ∀ p ∈ cl, p ∈ env.cells) (hclp : (cl.map (·.1)).Nodup) (hcap : ∀ C, CapOk env scope ((cx, C + 1) :: cl) C ρ ρc)
    (h : WIter prog w h₀ n env target iter ρ σ fun elem good σ₁ => Itm elem good σ₁ (ls.map f) ∧ (ls.flatMap H).length ≤ 1000000 ∧
      (∀ C D, σ₁ D = none → ∀ a ∈ ls, ClauseOk prog w h₀ n (LocCell C) (compEnvC scope ((cx, C + 1) :: cl) C env) target ifs (compIn elt (⟨target, iter, ifs, 0⟩ :: rest) scope pos 0 (.ref D) (compEnvC scope ((cx, C + 1) :: cl) C env)) ρc σ₁ D (f a) (H a)) ∧
      ∀ D, σ₁ D = none → Q (.loc D) (upd σ₁ D (.lst (ls.flatMap H))))
    (hkind : scope.kind = .function := by rfl) (ha : ∀ g ∈ (⟨target, iter, ifs, 0⟩ :: rest : List Comprehension), g.is_async = 0 := by simp) (hs : ∀ x, foldedSetIterable iter env x = pure x := by intro _; rfl) :
    WV prog w h₀ n env [] (eval (.ListComp elt (⟨target, iter, ifs, 0⟩ :: rest) scope pos) env) ρ σ Q :=
  we_listcomp1 cx rfl ha hclos hkind hc1 hp1 hnames hcl hclp hcap (fun A s Q' ok S X hQ => h A s Q' ok S X fun it s₁ σ₁ own K Md elem good st S₁ X₁ io k0 fr ap q => hQ it s₁ σ₁ own K Md elem good st S₁ X₁ io k0 fr ap (by
    obtain ⟨q1, q2, q3, q4⟩ := q
    refine ⟨ls.map f, fun x => H (u x), q1, by rw [flatMap_back hu]; exact q2, fun C D hD x hx => ?_, fun D hD => by rw [flatMap_back hu]; exact q4 D hD⟩
    obtain ⟨a, ha, rfl⟩ := List.mem_map.mp hx
    show ClauseOk prog w h₀ n _ _ _ _ _ _ _ _ _ (H (u (f a)))
    rw [hu]; exact q3 C D hD a ha)) hs
theorem jel_comp {target iter : Expr} {ifs : List Expr} (hM : NoTup Mod env) (hD : σ D = none) (ls : List α) (f : α → PV) (u : PV → α) (hu : ∀ a, u (f a) = a) (H : α → List PV) (hg : gens[d + 1]? = some ⟨target, iter, ifs, 0⟩) (ha : ∀ g ∈ gens, g.is_async = 0)
    (h : WIter prog w h₀ n env target iter ρ σ fun elem good σ' => σ' = σ ∧ Itm elem good σ (ls.map f) ∧
      (∀ a ∈ ls, ClauseOk prog w h₀ n Mod env target ifs (compIn elt gens scope pos (d + 1) (.ref D) env) ρ σ D (f a) (H a)))
    (hs : ∀ x, foldedSetIterable iter env x = pure x := by intro _; rfl) :
    JEl prog w h₀ n Mod env [] (compIn elt gens scope pos d (.ref D) env) ρ σ D (ls.flatMap H) :=
  jel_nest hM hD hg ha (fun A s Q' ok S X hQ => h A s Q' ok S X fun it s₁ σ₁ own K Md elem good st S₁ X₁ io k0 fr ap q => hQ it s₁ σ₁ own K Md elem good st S₁ X₁ io k0 fr ap (by
    obtain ⟨q1, q2, q3⟩ := q
    refine ⟨q1, ls.map f, fun x => H (u x), q2, fun x hx => ?_, (flatMap_back hu H ls).symm⟩
    obtain ⟨a, ha, rfl⟩ := List.mem_map.mp hx
    show ClauseOk prog w h₀ n _ _ _ _ _ _ _ _ _ (H (u (f a)))
    rw [hu]; exact q3 a ha)) hs
/-- a target that is a name, then the elements -/
theorem clause_name {x : Str} {p : Pos} {v : PV} {ifs : List Expr} {inner : Sem Unit} (hM : NoTup Mod env) (hk : StorM Mod env x) (hsub : Sub ρ ((x, v) :: ρ)) (h : JEl prog w h₀ n Mod env ifs inner ((x, v) :: ρ) σ D ys) :
    ClauseOk prog w h₀ n Mod env (.Name x p) ifs inner ρ σ D v ys := ⟨(x, v) :: ρ, fun σ => wt_name hM hk ⟨rfl, rfl⟩, hsub, h⟩
theorem clause_pair {x y : Str} {p1 p2 tpos : Pos} {k : Nat} {a b : PV} {ifs : List Expr} {inner : Sem Unit} (hM : NoTup Mod env) (hx : StorM Mod env x) (hy : StorM Mod env y) (hsub : Sub ρ ((y, b) :: (x, a) :: ρ)) (h : JEl prog w h₀ n Mod env ifs inner ((y, b) :: (x, a) :: ρ) σ D ys) :
    ClauseOk prog w h₀ n Mod env (.Tuple [.Name x p1, .Name y p2] k tpos) ifs inner ρ σ D (.tup [a, b]) ys := ⟨(y, b) :: (x, a) :: ρ, fun σ => wt_pair hM hx hy ⟨rfl, rfl⟩, hsub, h⟩
end
end Mine
end

section
namespace Mine
section
variable {prog : Program} {w : World} {h₀ : Heap} {n : Nat} {env : Env} {ρ : Loc} {σ : Store} {H : List (Value × PV)}
theorem we_neg {x : Expr} {pos : Pos} {Q : PV → Store → Prop} (h : WV prog w h₀ n env [] (eval x env) ρ σ fun v σ₁ => ∃ i, v = .int i ∧ Q (.int (-i)) σ₁) : WV prog w h₀ n env [] (eval (.UnaryOp .USub x pos) env) ρ σ Q := 
  WV.seq (k := fun v => unaryOp .USub v) (fun A s Q' E hh => UnaryOp_ hh) (WE.mono h fun x σ₁ ⟨i, e, q⟩ v => by
    subst e
    exact WE.leaf q fun A s Q' ok S X hh hQ => by obtain ⟨t, rfl⟩ := held_int hh (.head _); exact PyProof.Rows.neg_int (hQ _ _ (.int _ _)))
/-- at the end less is told -/
theorem ws_drop {t : Sem Flow} {Q Q' : PFlow → Loc → Store → Prop} (h : WS prog w h₀ n env t ρ σ Q) (hq : ∀ f ρ' σ', Q f ρ' σ' → ∃ σ'', Less σ'' σ' ∧ Q' f ρ' σ'') : WS prog w h₀ n env t ρ σ Q' :=
  WP.drop h fun b ρ' σ' q => let ⟨σ'', l, q'⟩ := hq b ρ' σ' q; ⟨ρ', σ'', l, fun _ _ e => e, q'⟩
end
theorem flatMap_len {α β : Type} {f : α → List β} {m : Nat} : ∀ {l : List α}, (∀ a ∈ l, (f a).length ≤ m) → (l.flatMap f).length ≤ l.length * m
  | [], _ => by simp
  | a :: l, h => by
    rw [List.flatMap_cons, List.length_append, List.length_cons, Nat.succ_mul]
    have := h a (.head _)
    have := flatMap_len (l := l) fun b hb => h b (.tail _ hb)
    (first | lia | omega)
noncomputable def unL : PV → Int × Int
  | .tup [.int a, .int b] => (a, b)
  | _ => (0, 0)
noncomputable def unI : PV → Int
  | .int a => a
  | _ => 0
theorem Less.free {σ : Store} {σ' : Store} (l : Less σ σ') {c : Addr} {o : MObj} (h : σ' c = none) : Less σ (upd σ' c o) := l.trans (Less.upd_free h)
end Mine
end

section
namespace Mine

/-- a function of the text, as it stands written -/
noncomputable def FnIn (K : Frag) (f : Addr) (p : Program) (k : Nat) (fd : FuncData) : Prop :=
  ∃ c d sl, K.lookup f = some ⟨c, d, .func fd, sl⟩ ∧ fd.body = .stmts (bodyAt p k) ∧ fd.scope = scopeAt p k ∧ codeIn K fd.code fd.qualname = true ∧
    fd.scope.kind = .function ∧ fd.scope.isGenerator = false ∧ fd.scope.isCoroutine = false ∧ fd.globals = mainGlobals ∧ fd.builtins = builtinsNs ∧ fd.closure = []
theorem FnIn.ok {K : Frag} {f : Addr} {p : Program} {k : Nat} {fd : FuncData} {h₀ : Heap} (x : FnIn K f p k fd) (X : K.In h₀) (hl : h₀.NoLimit) : FnOk h₀ f fd (bodyAt p k) := by
  obtain ⟨c, d, sl, e1, e2, e3, e4, e5, e6, e7, e8, e9, e10⟩ := x
  exact ⟨⟨_, X _ _ e1, rfl⟩, e2, fun h e => hl.keeps e, fun h e => codeRec_of (X.keeps e) e4, e5, e6, e7, e8, e9, e10⟩
theorem FnIn.scope {K : Frag} {f : Addr} {p : Program} {k : Nat} {fd : FuncData} (x : FnIn K f p k fd) : fd.scope = scopeAt p k := by
  obtain ⟨c, d, sl, e1, e2, e3, _⟩ := x; exact e3
theorem binds1 {K : Frag} {h₀ : Heap} {fd : FuncData} {x : PV} {ps : Loc} (X : K.In h₀) (g : Value → List (Str × Value)) (e : ∀ v S, peek K S (bindArgs fd ⟨[v], []⟩) = some (g v))
    (hk : ∀ v, (g v).map (·.1) = ps.map (·.1)) (hv : ∀ (h : Heap) v, Is h v x → IsAll h ((g v).map (·.2)) (ps.map (·.2))) : Binds h₀ fd [x] ps := fun s vs ex i => by
  cases i with
  | cons a r => cases r; exact ⟨_, kp_binds (X.keeps ex) fun S => e _ S, hk _, hv _ _ a⟩
theorem binds2 {K : Frag} {h₀ : Heap} {fd : FuncData} {x y : PV} {ps : Loc} (X : K.In h₀) (g : Value → Value → List (Str × Value)) (e : ∀ v u S, peek K S (bindArgs fd ⟨[v, u], []⟩) = some (g v u))
    (hk : ∀ v u, (g v u).map (·.1) = ps.map (·.1)) (hv : ∀ (h : Heap) v u, Is h v x → Is h u y → IsAll h ((g v u).map (·.2)) (ps.map (·.2))) : Binds h₀ fd [x, y] ps := fun s vs ex i => by
  cases i with
  | cons a r => cases r with
    | cons b r => cases r; exact ⟨_, kp_binds (X.keeps ex) fun S => e _ _ S, hk _ _, hv _ _ _ a b⟩
theorem binds4 {K : Frag} {h₀ : Heap} {fd : FuncData} {x y z t : PV} {ps : Loc} (X : K.In h₀) (g : Value → Value → Value → Value → List (Str × Value)) (e : ∀ v u a b S, peek K S (bindArgs fd ⟨[v, u, a, b], []⟩) = some (g v u a b))
    (hk : ∀ v u a b, (g v u a b).map (·.1) = ps.map (·.1)) (hv : ∀ (h : Heap) v u a b, Is h v x → Is h u y → Is h a z → Is h b t → IsAll h ((g v u a b).map (·.2)) (ps.map (·.2))) : Binds h₀ fd [x, y, z, t] ps := fun s vs ex i => by
  cases i with
  | cons a r => cases r with
    | cons b r => cases r with
      | cons c r => cases r with
        | cons d r => cases r; exact ⟨_, kp_binds (X.keeps ex) fun S => e _ _ _ _ S, hk _ _ _ _, hv _ _ _ _ _ a b c d⟩
theorem top_own {K : Frag} {h₀ : Heap} {p : Program} {loose : List Str} {mean : ExcName → Option Value} {mg mb : Str → Option Value} (X : K.In h₀) (T : Top p loose mean mg mb h₀) {x : Str} {f : Value} (e : nsIn K mainGlobals x = some (some f)) : TopIs h₀ x f :=
  TopIs.global T.g (mg_of X T.g e)
theorem top_built {K : Frag} {h₀ : Heap} {p : Program} {loose : List Str} {mean : ExcName → Option Value} {mg mb : Str → Option Value} (X : K.In h₀) (T : Top p loose mean mg mb h₀) {x : Str} {f : Value} (e : nsIn K mainGlobals x = some none) (hb : bootBuiltins x = some f) (hn : x ≠ "__name__") : TopIs h₀ x f :=
  TopIs.builtin T.g (mg_none_of X T.g e) T.b ((T.builtins x hn).trans hb)
theorem isAll_ints {h : Heap} : ∀ {vs : List Value} {ns : List Int}, IntsAre vs ns → IsAll h vs (ns.map PV.int)
  | _, _, .nil => .nil
  | _, _, .cons n t r => .cons (.int _ _) (isAll_ints r)
theorem script_at {prog : Program} {w : World} {h₀ : Heap} {a : Addr} {vs : List Value} {ns : List Int} (hL : h₀.IsList a vs.toArray) (hI : IntsAre vs ns) : ∀ σ, ListAt prog w h₀ σ a (ns.map PV.int) := fun σ h S => by
  obtain ⟨o, ho, r⟩ := hL
  exact ⟨vs, ⟨o, S.base _ _ ho, r⟩, isAll_ints hI⟩
noncomputable def noStore : Store := fun _ => none
theorem srel0 {prog : Program} {w : World} {h₀ h : Heap} (k : ∀ b o, h₀.get? b = some o → h.get? b = some o) : SRel prog w h₀ noStore h := ⟨k, trivial, fun a o e => (by cases e), fun a o e => (by cases e)⟩
theorem erel0 {h₀ h : Heap} {L : Addr} {env : Env} {m : Str → Option Value} {x : Str} {a : Addr} (F : Fr h₀ L h m) (hL : L = h₀.objs.size) (hloc : env.locals = L) (hk : env.scope.kind = .function) (hg : env.globals = mainGlobals) (hb : env.builtins = builtinsNs)
    (hc : ∀ p ∈ env.cells, ∃ o v, h.get? p.2 = some o ∧ o.data = .cell v ∧ p.2 ≠ L ∧ h₀.get? p.2 = none) (hap : env.cells.Pairwise fun x y => x.2 ≠ y.2) (hx : env.kindOf x = some .local) (hv : m x = some (.ref a)) : ERel h₀ env [(x, .loc a)] noStore h := by
  refine ⟨hk, hg, hb, ⟨m, by rw [hloc]; exact F.ns⟩, ⟨by rw [hloc, hL]; exact fresh _, rfl⟩, fun p hp => ?_, hap, fun y v e => ?_⟩
  · obtain ⟨o, v, h1, h2, h3, h4⟩ := hc p hp
    exact ⟨⟨v, o, h1, h2⟩, h4, rfl, by rw [hloc]; exact h3⟩
  · by_cases q : y = x
    · subst q
      rw [lookup_cons_self] at e; cases e
      exact ⟨_, .inl ⟨hx, m, by rw [hloc]; exact F.ns, hv⟩, .loc _⟩
    · have hb : (y == x) = false := beq_eq_false_iff_ne.mpr q
      simp [List.lookup_cons, hb] at e
/-- the law's walk, ended -/
theorem law_end {prog : Program} {w : World} {c : ClaimW} {cl : Str → Option Addr} {mean : ExcName → Option Value} {args : List WData} {s₁ : Shared} {h₁ : Heap} {tk : Nat} {env : Env} {body : List Stmt} {A : Around} {ρ : Loc} {n : Nat} {E : Value → Shared → Prop}
    (ok : Ok n A) (F : ∀ b o, s₁.heap.get? b = some o → h₁.get? b = some o) (X : ERel s₁.heap env ρ noStore h₁) (hL : s₁.heap.objs.size ≤ env.locals) (hg : s₁.gens = #[]) (hn : ∀ cls, c.raises args cls = false) (hp : c.post args (.bool true) args = true)
    (h : WS prog w s₁.heap n env (execs body env) ρ noStore fun f _ _ => f = .ret (.bool true)) :
    wpAny (model prog w) A (execs body env) (fun f s' => GoodW c cl mean args s₁ (.ok (.ret (match f with | .ret v => v | _ => .none))) s') E { heap := h₁, gens := s₁.gens, drawn := s₁.drawn, toks := tk, os := s₁.os } := by
  refine wpAny_mono (h A { heap := h₁, gens := s₁.gens, drawn := s₁.drawn, toks := tk, os := s₁.os } ok (srel0 F) X (fun _ hp => by cases hp)) (fun f s' x => ?_) fun _ _ e => e.elim
  obtain ⟨h', tk', b, ρ', σ', rfl, p, S, X', sub, r, q⟩ := x
  subst q
  cases r with
  | ret i =>
    cases i
    obtain ⟨m, hm⟩ := X'.ns
    exact goodW_bool (L := env.locals) (m := m) ⟨hm, S.base, hL⟩ hg hn hp rfl
end Mine
end

section
namespace Mine

-- sorting, in plain lists
noncomputable def insT {α : Type} (lt : α → α → Bool) (x : α) : List α → List α
  | [] => [x]
  | y :: ys => if lt y x then y :: insT lt x ys else x :: y :: ys
noncomputable def sortT {α : Type} (lt : α → α → Bool) : List α → List α
  | [] => []
  | x :: xs => insT lt x (sortT lt xs)
noncomputable def dedupStep {α : Type} [DecidableEq α] (acc : List α) (x : α) : List α := if x ∈ acc then acc else acc ++ [x]
noncomputable def dedup {α : Type} [DecidableEq α] (l : List α) : List α := l.foldl dedupStep []

section
variable {α β : Type} {lt : α → α → Bool}
theorem insT_perm (x : α) : ∀ l : List α, (insT lt x l).Perm (x :: l)
  | [] => .refl _
  | y :: l => by
    unfold insT
    split
    · exact ((insT_perm x l).cons y).trans (.swap ..)
    · exact .refl _
theorem sortT_perm : ∀ l : List α, (sortT lt l).Perm l
  | [] => .refl _
  | x :: l => (insT_perm x _).trans ((sortT_perm l).cons x)
theorem insT_mem {x y : α} {l : List α} : y ∈ insT lt x l ↔ y = x ∨ y ∈ l := by rw [(insT_perm x l).mem_iff, List.mem_cons]
theorem insT_sorted (tr : ∀ a b c, lt a b = true → lt b c = true → lt a c = true) (asy : ∀ a b, lt a b = true → lt b a = false) (tot : ∀ a b, lt a b = false → lt b a = false → a = b) (x : α) : ∀ l : List α, (l.Pairwise fun a b => lt b a = false) → (insT lt x l).Pairwise fun a b => lt b a = false
  | [], _ => List.pairwise_singleton ..
  | y :: l, h => by
    obtain ⟨h1, h2⟩ := List.pairwise_cons.mp h
    unfold insT
    cases hc : lt y x
    · simp only [Bool.false_eq_true, if_false]
      refine List.pairwise_cons.mpr ⟨fun z hz => ?_, h⟩
      rcases List.mem_cons.mp hz with rfl | hz
      · exact hc
      · cases hzx : lt z x
        · rfl
        · cases hyz : lt y z
          · have := tot y z hyz (h1 z hz)
            subst this; rw [hc] at hzx; cases hzx
          · rw [tr y z x hyz hzx] at hc; cases hc
    · simp only [if_true]
      refine List.pairwise_cons.mpr ⟨fun z hz => ?_, insT_sorted tr asy tot x l h2⟩
      rcases insT_mem.mp hz with rfl | hz
      · exact asy _ _ hc
      · exact h1 z hz
theorem sortT_sorted (tr : ∀ a b c, lt a b = true → lt b c = true → lt a c = true) (asy : ∀ a b, lt a b = true → lt b a = false) (tot : ∀ a b, lt a b = false → lt b a = false → a = b) : ∀ l : List α, (sortT lt l).Pairwise fun a b => lt b a = false
  | [] => .nil
  | x :: l => insT_sorted tr asy tot x _ (sortT_sorted tr asy tot l)
theorem sorted_unique : ∀ {ys zs : List α}, (∀ a ∈ ys, ∀ b ∈ ys, lt a b = false → lt b a = false → a = b) → ys.Perm zs → (ys.Pairwise fun a b => lt b a = false) → (zs.Pairwise fun a b => lt b a = false) → ys = zs
  | [], zs, _, p, _, _ => by have := p.length_eq; cases zs <;> simp_all
  | y :: ys, [], _, p, _, _ => by have := p.length_eq; simp at this
  | y :: ys, z :: zs, tot, p, h1, h2 => by
    obtain ⟨a1, a2⟩ := List.pairwise_cons.mp h1
    obtain ⟨b1, b2⟩ := List.pairwise_cons.mp h2
    have hzm : z ∈ y :: ys := p.mem_iff.mpr (.head _)
    have e : y = z := by
      have hy : y ∈ z :: zs := p.mem_iff.mp (.head _)
      rcases List.mem_cons.mp hy with rfl | hy
      · rfl
      · rcases List.mem_cons.mp hzm with rfl | hz
        · rfl
        · exact tot _ (.head _) _ hzm (b1 _ hy) (a1 _ hz)
    subst e
    rw [sorted_unique (fun a ha b hb => tot a (.tail _ ha) b (.tail _ hb)) (List.perm_cons y |>.mp p) a2 b2]
theorem insT_split {x : α} : ∀ {xs : List α} {k : Nat}, k ≤ xs.length → (∀ (i : Nat) (y : α), i < k → xs[i]? = some y → lt y x = true) → (∀ (i : Nat) (y : α), k ≤ i → xs[i]? = some y → lt y x = false) → xs.take k ++ x :: xs.drop k = insT lt x xs
  | [], k, hk, _, _ => by simp at hk; subst hk; rfl
  | y :: xs, 0, _, _, h2 => by
    unfold insT
    rw [h2 0 y (Nat.le_refl _) rfl]; rfl
  | y :: xs, k + 1, hk, h1, h2 => by
    unfold insT
    rw [h1 0 y (Nat.succ_pos _) rfl]
    simp only [List.take_succ_cons, List.drop_succ_cons, List.cons_append, if_true]
    rw [insT_split (by simpa using hk) (fun i z hi e => h1 (i + 1) z (by (first | lia | omega)) (by simpa using e)) (fun i z hi e => h2 (i + 1) z (by (first | lia | omega)) (by simpa using e))]
/-- the place found in a sorted list -/
theorem place_mem (asy : ∀ a, lt a a = false) {x : α} {xs : List α} {k : Nat} (h1 : ∀ (i : Nat) (y : α), i < k → xs[i]? = some y → lt y x = true) (h2 : ∀ (i : Nat) (y : α), k ≤ i → xs[i]? = some y → lt y x = false) (tot : ∀ y, lt y x = false → lt x y = false → y = x)
    (hs : xs.Pairwise fun a b => lt b a = false) : x ∈ xs ↔ xs[k]? = some x := by
  refine ⟨fun h => ?_, fun h => List.mem_of_getElem? h⟩
  obtain ⟨i, hi, e⟩ := List.mem_iff_getElem.mp h
  have hik : k ≤ i := by
    rcases Nat.lt_or_ge i k with hlt | hge
    · have := h1 i x hlt (by simp [hi, e]); rw [asy] at this; cases this
    · exact hge
  have hk : k < xs.length := by (first | lia | omega)
  rcases Nat.eq_or_lt_of_le hik with rfl | hlt
  · simp [hk, e]
  · have h3 := h2 k xs[k] (Nat.le_refl _) (by simp [hk])
    have h4 := List.pairwise_iff_getElem.mp hs k i hk hi hlt
    rw [e] at h4
    rw [List.getElem?_eq_getElem hk, tot _ h3 h4]

variable [DecidableEq α] [DecidableEq β]
theorem dedupStep_mem {acc : List α} {x y : α} : y ∈ dedupStep acc x ↔ y ∈ acc ∨ y = x := by
  unfold dedupStep
  split
  · constructor
    · exact .inl
    · rintro (h | rfl) <;> assumption
  · simp
theorem dedupStep_nodup {acc : List α} {x : α} (h : acc.Nodup) : (dedupStep acc x).Nodup := by
  unfold dedupStep
  split
  · exact h
  · rename_i hx
    refine List.nodup_append.mpr ⟨h, by simp, fun a ha b hb => ?_⟩
    rw [List.mem_singleton.mp hb]; rintro rfl; exact hx ha
theorem foldDedup_mem {y : α} : ∀ {l acc : List α}, y ∈ l.foldl dedupStep acc ↔ y ∈ acc ∨ y ∈ l
  | [], acc => by simp
  | x :: l, acc => by rw [List.foldl_cons, foldDedup_mem, dedupStep_mem, List.mem_cons]; simp only [or_assoc]
theorem foldDedup_nodup : ∀ {l acc : List α}, acc.Nodup → (l.foldl dedupStep acc).Nodup
  | [], acc, h => h
  | x :: l, acc, h => foldDedup_nodup (l := l) (dedupStep_nodup h)
theorem dedup_mem {y : α} {l : List α} : y ∈ dedup l ↔ y ∈ l := by unfold dedup; rw [foldDedup_mem]; simp
theorem dedup_nodup (l : List α) : (dedup l).Nodup := foldDedup_nodup .nil
theorem foldDedup_length : ∀ {l acc : List α}, (l.foldl dedupStep acc).length ≤ acc.length + l.length
  | [], acc => by simp
  | x :: l, acc => by
    rw [List.foldl_cons, List.length_cons]
    have := foldDedup_length (l := l) (acc := dedupStep acc x)
    have : (dedupStep acc x).length ≤ acc.length + 1 := by unfold dedupStep; split <;> simp
    (first | lia | omega)
theorem dedup_length (l : List α) : (dedup l).length ≤ l.length := by have := foldDedup_length (l := l) (acc := []); simpa [dedup] using this
end

-- and in values
theorem sortOf_eq {α : Type} {f : α → PV} {lt : α → α → Bool} {T : Ty} {l : List α} {ys : List PV} (hT : T.ord = true) (hx : ∀ x ∈ l, HasTy T (f x)) (hl : ∀ a b, PV.lt (f a) (f b) = lt a b)
    (tr : ∀ a b c, lt a b = true → lt b c = true → lt a c = true) (asy : ∀ a b, lt a b = true → lt b a = false) (tot : ∀ a b, lt a b = false → lt b a = false → a = b) (s : SortOf (l.map f) ys) : ys = (sortT lt l).map f := by
  have hy : ∀ y ∈ ys, HasTy T y := fun y hy => by
    obtain ⟨x, hx', rfl⟩ := List.mem_map.mp (s.1.mem_iff.mp hy)
    exact hx x hx'
  refine sorted_unique (lt := PV.lt) (fun a ha b hb h1 h2 => lt_total a b (HasTy.ord T a b hT (hy a ha) (hy b hb)) h1 h2) (s.1.trans ((sortT_perm l).map f).symm) s.2 ?_
  refine List.pairwise_map.mpr ((sortT_sorted tr asy tot l).imp fun {a b} h => ?_)
  rw [hl]; exact h
theorem dset_keys (es : List (PV × PV)) (k v : PV) : (dset es k v).map (·.1) = if es.any (fun e => PV.beq e.1 k) then es.map (·.1) else es.map (·.1) ++ [k] := by
  unfold dset
  split
  · rw [List.map_map]
    refine List.map_congr_left fun e _ => ?_
    show (if _ then _ else _ : PV × PV).1 = e.1
    split <;> rfl
  · simp
theorem any_beq {es : List (PV × PV)} {k : PV} : es.any (fun e => PV.beq e.1 k) = true ↔ k ∈ es.map (·.1) := by
  rw [List.any_eq_true]
  constructor
  · rintro ⟨e, he, hb⟩
    rw [← (PV.beq_iff _ _).mp hb]; exact List.mem_map_of_mem he
  · intro h
    obtain ⟨e, he, rfl⟩ := List.mem_map.mp h
    exact ⟨e, he, (PV.beq_iff _ _).mpr rfl⟩
theorem dsets_keys {α : Type} [DecidableEq α] {f : α → PV} (hf : ∀ a b, f a = f b → a = b) : ∀ (ps : List (PV × PV)) (l acc : List α) (es : List (PV × PV)), ps.map (·.1) = l.map f → es.map (·.1) = acc.map f →
    (ps.foldl (fun o p => dset o p.1 p.2) es).map (·.1) = (l.foldl dedupStep acc).map f
  | [], l, acc, es, e1, e2 => by cases l <;> simp_all
  | p :: ps, [], acc, es, e1, e2 => by simp at e1
  | p :: ps, x :: l, acc, es, e1, e2 => by
    simp only [List.map_cons, List.cons.injEq] at e1
    simp only [List.foldl_cons]
    refine dsets_keys hf ps l _ _ e1.2 ?_
    rw [dset_keys, e1.1]
    unfold dedupStep
    by_cases h : x ∈ acc
    · rw [if_pos h, if_pos (any_beq.mpr (by rw [e2]; exact List.mem_map_of_mem h)), e2]
    · rw [if_neg h, if_neg (fun h' => by
        have := any_beq.mp h'
        rw [e2] at this
        obtain ⟨a, ha, e⟩ := List.mem_map.mp this
        rw [hf a x e] at ha; exact h ha), e2]
      simp
theorem dputs_dv (es ps : List (PV × PV)) : dputs (.dv es) ps = .dv (ps.foldl (fun o p => dset o p.1 p.2) es) := by
  induction ps generalizing es with
  | nil => rfl
  | cons p ps ih => exact ih _
theorem dputs_dt (T : Ty) (es ps : List (PV × PV)) : dputs (.dt T es) ps = .dt T (ps.foldl (fun o p => dset o p.1 p.2) es) := by
  induction ps generalizing es with
  | nil => rfl
  | cons p ps ih => exact ih _
end Mine
end

section
namespace Mine

/-- a line: rise and start; a spot -/
abbrev Ln := Int × Int
noncomputable def ltI (a b : Int) : Bool := decide (a < b)
noncomputable def ltP (a b : Int × Int) : Bool := if a.1 = b.1 then decide (a.2 < b.2) else decide (a.1 < b.1)
noncomputable def pvL (p : Int × Int) : PV := .tup [.int p.1, .int p.2]
theorem pvL_inj (a b : Int × Int) (h : pvL a = pvL b) : a = b := by
  unfold pvL at h
  simp only [PV.tup.injEq, List.cons.injEq, PV.int.injEq, and_true] at h
  exact Prod.ext h.1 h.2
theorem pvI_inj (a b : Int) (h : PV.int a = PV.int b) : a = b := by injection h
noncomputable def lineOf (number : Int) : Ln := ((number.fmod 45).fmod 5 - 2, (number.fmod 45).fdiv 5 - 4)
noncomputable def spotOf (p q : Ln) : Int × Int := ((12 * (q.2 - p.2)).fdiv (p.1 - q.1), p.1 * (12 * (q.2 - p.2)).fdiv (p.1 - q.1) + 12 * p.2)
noncomputable def onsRaw (ls : List Ln) : List Int := ls.flatMap fun p => ls.flatMap fun q => if p.1 = q.1 then [] else [(spotOf p q).1]
noncomputable def onsOf (ls : List Ln) : List Int := sortT ltI (dedup (onsRaw ls ++ [0]))
noncomputable def placesOf (o : List Int) : List Int := [10 * o.headD 0 - 10] ++ ((List.range (o.length - 1)).map fun k => 5 * (o.getD k 0 + o.getD (k + 1) 0)) ++ [10 * o.getD (o.length - 1) 0 + 10]
noncomputable def highsOf (ls : List Ln) (on : Int) : List Int := sortT ltI (ls.map fun l => l.1 * on + 120 * l.2)
noncomputable def sampOf (hs : List Int) : List Int := [hs.headD 0 - 1] ++ hs.map (· + 1)
noncomputable def signOf (ls : List Ln) (on high : Int) : List Int := ls.map fun l => if l.1 * on + 120 * l.2 < high then 1 else 0
noncomputable def signsAll (ls : List Ln) : List (List Int) := (placesOf (onsOf ls)).flatMap fun on => (sampOf (highsOf ls on)).map fun high => signOf ls on high
noncomputable def signsOf (ls : List Ln) : List (List Int) := dedup (signsAll ls)
/-- lines of the law -/
noncomputable def Fit (ls : List Ln) : Prop := ls.length ≤ 5 ∧ ∀ l ∈ ls, -2 ≤ l.1 ∧ l.1 ≤ 2 ∧ -4 ≤ l.2 ∧ l.2 ≤ 4

theorem ltI_pv (a b : Int) : PV.lt (.int a) (.int b) = ltI a b := rfl
theorem ltP_pv (a b : Int × Int) : PV.lt (pvL a) (pvL b) = ltP a b := by
  unfold ltP
  show (if (a.1 == b.1) = true then (if (a.2 == b.2) = true then false else decide (a.2 < b.2)) else decide (a.1 < b.1)) = _
  by_cases h : a.1 = b.1
  · simp [h]; (first | lia | omega)
  · simp [h]
theorem ltI_tr (a b c : Int) (h1 : ltI a b = true) (h2 : ltI b c = true) : ltI a c = true := by unfold ltI at *; simp only [decide_eq_true_eq] at *; (first | lia | omega)
theorem ltI_asy (a b : Int) (h : ltI a b = true) : ltI b a = false := by unfold ltI at *; simp only [decide_eq_true_eq, decide_eq_false_iff_not] at *; (first | lia | omega)
theorem ltI_tot (a b : Int) (h1 : ltI a b = false) (h2 : ltI b a = false) : a = b := by unfold ltI at *; simp only [decide_eq_false_iff_not] at *; omega
theorem ltP_tr (a b c : Int × Int) (h1 : ltP a b = true) (h2 : ltP b c = true) : ltP a c = true := by
  rw [← ltP_pv] at *; exact lt_trans _ _ _ h1 h2
theorem ltP_asy (a b : Int × Int) (h : ltP a b = true) : ltP b a = false := by rw [← ltP_pv] at *; exact lt_asymm h
theorem ltP_tot (a b : Int × Int) (h1 : ltP a b = false) (h2 : ltP b a = false) : a = b := by
  unfold ltP at *
  by_cases h : a.1 = b.1
  · rw [if_pos h] at h1
    rw [if_pos h.symm] at h2
    simp only [decide_eq_false_iff_not] at h1 h2
    exact Prod.ext h (by (first | lia | omega))
  · rw [if_neg h] at h1
    rw [if_neg (Ne.symm h)] at h2
    simp only [decide_eq_false_iff_not] at h1 h2
    exact absurd (by (first | lia | omega)) h
theorem ltP_irr (a : Int × Int) : ltP a a = false := by unfold ltP; simp
end Mine
end

section
namespace Mine

noncomputable def linesOf (sc : List Int) : List Ln := dedup ((sc.take 5).map lineOf)
noncomputable def metRaw (pre : List Ln) (l : Ln) : List (Int × Int) := pre.flatMap fun q => if q.1 = l.1 then [] else [spotOf l q]
noncomputable def metOf (pre : List Ln) (l : Ln) : List (Int × Int) := sortT ltP (dedup (metRaw pre l))
noncomputable def spotsStep (acc : List (Int × Int)) (s : Int × Int) : List (Int × Int) := if s ∈ acc then acc else insT ltP s acc
noncomputable def spotsAt (ls : List Ln) : Nat → List (Int × Int)
  | 0 => []
  | j + 1 => (metOf (ls.take j) (ls.getD j (0, 0))).foldl spotsStep (spotsAt ls j)
noncomputable def toldAt (ls : List Ln) : Nat → Int
  | 0 => 1
  | j + 1 => toldAt ls j + 1 + ((metOf (ls.take j) (ls.getD j (0, 0))).length : Nat)
noncomputable def onL (l : Ln) (s : Int × Int) : Bool := decide (l.1 * s.1 + 12 * l.2 = s.2)
/-- one more line through a spot -/
noncomputable def bump (cs : List ((Int × Int) × Int)) (s : Int × Int) : List ((Int × Int) × Int) :=
  if s ∈ cs.map (·.1) then cs.map (fun c => if c.1 = s then (c.1, c.2 + 1) else c) else cs ++ [(s, 1)]
noncomputable def bumpIf (l : Ln) (cs : List ((Int × Int) × Int)) (s : Int × Int) : List ((Int × Int) × Int) := if onL l s then bump cs s else cs
noncomputable def callsOf (ls : List Ln) (S : List (Int × Int)) : List ((Int × Int) × Int) := ls.foldl (fun cs l => S.foldl (bumpIf l) cs) []

/-- what the law asks, of lines -/
structure Facts (ls : List Ln) (S : List (Int × Int)) (C : List ((Int × Int) × Int)) (P : Int) : Prop where
  sorted : sortT ltP S = S
  len : C.length = S.length
  two : ∀ c ∈ C, 2 ≤ c.2
  parts : P = 1 + (ls.length : Int) + sumL (C.map fun c => c.2 - 1)
  told : toldAt ls ls.length = P
  signs : ((signsOf ls).length : Int) = P
  euler : P - ((ls.length : Int) + sumL (C.map (·.2))) + (S.length : Int) = 1
  pieces : (ls.length : Int) + sumL (C.map (·.2)) = sumL (ls.map fun l => 1 + ((S.filter (onL l)).length : Int))
  alike : (dedup (ls.map (·.1))).length = 1 → P = (ls.length : Int) + 1
  most : P ≤ 1 + (ls.length : Int) + ((ls.length : Int) * ((ls.length : Int) - 1)).fdiv 2

theorem spotsStep_sorted {acc : List (Int × Int)} {s : Int × Int} (h : acc.Pairwise fun a b => ltP b a = false) : (spotsStep acc s).Pairwise fun a b => ltP b a = false := by
  unfold spotsStep
  split
  · exact h
  · exact insT_sorted ltP_tr ltP_asy ltP_tot s acc h
theorem spotsFold_sorted : ∀ (m acc : List (Int × Int)), (acc.Pairwise fun a b => ltP b a = false) → (m.foldl spotsStep acc).Pairwise fun a b => ltP b a = false
  | [], acc, h => h
  | s :: m, acc, h => spotsFold_sorted m _ (spotsStep_sorted h)
theorem spotsAt_sorted (ls : List Ln) : ∀ j, (spotsAt ls j).Pairwise fun a b => ltP b a = false
  | 0 => .nil
  | j + 1 => spotsFold_sorted _ _ (spotsAt_sorted ls j)
theorem spotsStep_length (acc : List (Int × Int)) (s : Int × Int) : (spotsStep acc s).length ≤ acc.length + 1 := by
  unfold spotsStep
  split
  · (first | lia | omega)
  · have := (insT_perm (lt := ltP) s acc).length_eq; rw [this]; simp
theorem spotsFold_length : ∀ (m acc : List (Int × Int)), (m.foldl spotsStep acc).length ≤ acc.length + m.length
  | [], acc => by simp
  | s :: m, acc => by
    simp only [List.foldl_cons, List.length_cons]
    have := spotsFold_length m (spotsStep acc s)
    have := spotsStep_length acc s
    (first | lia | omega)
theorem metRaw_length (pre : List Ln) (l : Ln) : (metRaw pre l).length ≤ pre.length := by
  unfold metRaw
  induction pre with
  | nil => simp
  | cons q pre ih =>
    rw [List.flatMap_cons, List.length_append, List.length_cons]
    have : (if q.1 = l.1 then [] else [spotOf l q]).length ≤ 1 := by split <;> simp
    (first | lia | omega)
theorem metOf_length (pre : List Ln) (l : Ln) : (metOf pre l).length ≤ pre.length := by
  have h1 := (sortT_perm (lt := ltP) (dedup (metRaw pre l))).length_eq
  have h2 := dedup_length (metRaw pre l)
  have h3 := metRaw_length pre l
  unfold metOf
  (first | lia | omega)
theorem spotsAt_length (ls : List Ln) : ∀ j, (spotsAt ls j).length ≤ j * ls.length
  | 0 => by simp [spotsAt]
  | j + 1 => by
    have h1 := spotsFold_length (metOf (ls.take j) (ls.getD j (0, 0))) (spotsAt ls j)
    have h2 := metOf_length (ls.take j) (ls.getD j (0, 0))
    have h3 := spotsAt_length ls j
    have h4 : (ls.take j).length ≤ ls.length := by simp; (first | lia | omega)
    rw [Nat.succ_mul]
    unfold spotsAt
    (first | lia | omega)
-- the table of calls, in values
noncomputable def keyC (s : Int × Int) : PV := .tup [.str "on", pvL s, .str "lines"]
noncomputable def encC (c : (Int × Int) × Int) : PV × PV := (keyC c.1, .int c.2)
theorem keyC_inj (a b : Int × Int) (h : keyC a = keyC b) : a = b := by
  unfold keyC at h
  simp only [PV.tup.injEq, List.cons.injEq, and_true, true_and] at h
  exact pvL_inj a b h
noncomputable def TC : Ty := .tup [.str, .tup [.int, .int], .str]
theorem keyC_ty (s : Int × Int) : HasTy TC (keyC s) ∧ Hsh 3 (keyC s) := ⟨⟨trivial, ⟨trivial, trivial, trivial⟩, trivial, trivial⟩, ⟨trivial, ⟨trivial, trivial, trivial⟩, trivial, trivial⟩⟩
theorem encC_keys (cs : List ((Int × Int) × Int)) : KeysT TC (cs.map encC) := fun p hp => by
  obtain ⟨c, _, rfl⟩ := List.mem_map.mp hp
  exact ⟨_, rfl, (keyC_ty c.1).1, (keyC_ty c.1).2⟩
theorem encC_vals (cs : List ((Int × Int) × Int)) : IntVals (cs.map encC) := fun p hp => by
  obtain ⟨c, _, rfl⟩ := List.mem_map.mp hp
  exact ⟨_, rfl⟩
theorem encC_valsOf (cs : List ((Int × Int) × Int)) : valsOf (cs.map encC) = cs.map (·.2) := by
  unfold valsOf; rw [List.map_map]; rfl
theorem bump_keys (cs : List ((Int × Int) × Int)) (s : Int × Int) : (bump cs s).map (·.1) = dedupStep (cs.map (·.1)) s := by
  unfold bump dedupStep
  split
  · rw [List.map_map]
    refine List.map_congr_left fun c _ => ?_
    show (if _ then _ else _ : (Int × Int) × Int).1 = c.1
    split <;> rfl
  · simp
theorem any_keyC (cs : List ((Int × Int) × Int)) (s : Int × Int) : ((cs.map encC).any fun e => PV.beq e.1 (keyC s)) = decide (s ∈ cs.map (·.1)) := by
  rw [Bool.eq_iff_iff, any_beq, decide_eq_true_iff, List.map_map]
  constructor
  · intro h
    obtain ⟨c, hc, e⟩ := List.mem_map.mp h
    rw [← keyC_inj _ _ (show keyC c.1 = keyC s from e)]
    exact List.mem_map_of_mem hc
  · intro h
    obtain ⟨c, hc, rfl⟩ := List.mem_map.mp h
    exact List.mem_map.mpr ⟨c, hc, rfl⟩
theorem copied_nodup {es : List (PV × PV)} (h : (es.map (·.1)).Nodup) : copied es = es := by
  have key : ∀ (l acc : List (PV × PV)), ((acc ++ l).map (·.1)).Nodup → l.foldl (fun acc p => dset acc p.1 p.2) acc = acc ++ l := by
    intro l
    induction l with
    | nil => intro acc _; simp
    | cons p l ih =>
      intro acc hn
      simp only [List.foldl_cons]
      have hp : p.1 ∉ acc.map (·.1) := fun hm => by
        rw [List.map_append, List.nodup_append] at hn
        exact hn.2.2 _ hm _ (by simp) rfl
      have e : dset acc p.1 p.2 = acc ++ [p] := by
        unfold dset
        rw [if_neg (fun h => hp (any_beq.mp h))]
      rw [e, ih _ (by simpa using hn)]
      simp
  have := key es [] (by simpa using h)
  simpa [copied] using this
theorem addTab_bump {cs : List ((Int × Int) × Int)} (h : (cs.map (·.1)).Nodup) (s : Int × Int) : addTab (cs.map encC) [encC (s, 1)] = (bump cs s).map encC := by
  have hn : ((cs.map encC).map (·.1)).Nodup := by
    rw [List.map_map]
    have : ((fun x : PV × PV => x.1) ∘ encC) = keyC ∘ (fun c : (Int × Int) × Int => c.1) := rfl
    rw [this, ← List.map_map]
    exact List.Pairwise.map _ (fun a b hab e => hab (keyC_inj a b e)) h
  unfold addTab
  rw [copied_nodup hn]
  simp only [List.foldl_cons, List.foldl_nil]
  unfold addOne bump
  by_cases hm : s ∈ cs.map (·.1)
  · have h1 : (dget (cs.map encC) (keyC s)).isSome = true := by rw [dget_isSome, any_keyC]; simpa using hm
    obtain ⟨x, hx⟩ := Option.isSome_iff_exists.mp h1
    obtain ⟨u, rfl⟩ := dget_vals (encC_vals cs) hx
    show (match dget (cs.map encC) (keyC s), PV.int 1 with | some (.int a), .int b => dset (cs.map encC) (keyC s) (.int (a + b)) | _, _ => _) = _
    rw [hx, if_pos hm]
    dsimp only
    unfold dset
    rw [any_keyC, if_pos (by simpa using hm), List.map_map, List.map_map]
    refine List.map_congr_left fun c hc => ?_
    show (if PV.beq (keyC c.1) (keyC s) = true then (keyC c.1, PV.int (u + 1)) else encC c) = encC (if c.1 = s then (c.1, c.2 + 1) else c)
    by_cases hcs : c.1 = s
    · subst hcs
      rw [if_pos ((PV.beq_iff _ _).mpr rfl), if_pos rfl]
      have : u = c.2 := by
        unfold dget at hx
        obtain ⟨p, hp, e⟩ := Option.map_eq_some_iff.mp hx
        have hpm := List.mem_of_find?_eq_some hp
        have hpb := List.find?_some hp
        obtain ⟨c', hc', rfl⟩ := List.mem_map.mp hpm
        have e1 : c'.1 = c.1 := keyC_inj _ _ ((PV.beq_iff _ _).mp hpb)
        have e2 : c' = c := by
          obtain ⟨i, hi, ei⟩ := List.mem_iff_getElem.mp hc'
          obtain ⟨j, hj, ej⟩ := List.mem_iff_getElem.mp hc
          have hij : i = j := by
            have hpw := List.pairwise_iff_getElem.mp (show (cs.map (·.1)).Pairwise (· ≠ ·) from h)
            rcases Nat.lt_trichotomy i j with hlt | rfl | hlt
            · exact absurd (show (cs.map (·.1))[i]'(by simpa using hi) = (cs.map (·.1))[j]'(by simpa using hj) by simp [ei, ej, e1]) (hpw i j (by simpa using hi) (by simpa using hj) hlt)
            · rfl
            · exact absurd (show (cs.map (·.1))[j]'(by simpa using hj) = (cs.map (·.1))[i]'(by simpa using hi) by simp [ei, ej, e1]) (hpw j i (by simpa using hj) (by simpa using hi) hlt)
          subst hij
          rw [← ei, ← ej]
        subst e2
        have : PV.int c'.2 = PV.int u := e
        injection this with this
        exact this.symm
      rw [this]; rfl
    · rw [if_neg (fun h => hcs (keyC_inj _ _ ((PV.beq_iff _ _).mp h))), if_neg hcs]
  · have h1 : dget (cs.map encC) (keyC s) = none := by
      have : (dget (cs.map encC) (keyC s)).isSome = false := by rw [dget_isSome, any_keyC]; simpa using hm
      simpa using this
    show (match dget (cs.map encC) (keyC s), PV.int 1 with | some (.int a), .int b => _ | _, _ => dset (cs.map encC) (keyC s) (.int 1)) = _
    rw [h1, if_neg hm]
    dsimp only
    unfold dset
    rw [any_keyC, if_neg (by simpa using hm), List.map_append]
    rfl
theorem bump_nodup {cs : List ((Int × Int) × Int)} (h : (cs.map (·.1)).Nodup) (s : Int × Int) : ((bump cs s).map (·.1)).Nodup := by rw [bump_keys]; exact dedupStep_nodup h
theorem bump_length (cs : List ((Int × Int) × Int)) (s : Int × Int) : (bump cs s).length ≤ cs.length + 1 := by unfold bump; split <;> simp
end Mine
end

section
namespace Mine

section
variable {prog : Program} {w : World} {h₀ : Heap} {n : Nat} {ρ : Loc} {σ : Store} {Q : PV → Store → Prop}
/-- how bisect_left goes -/
noncomputable def BisectAt (prog : Program) (w : World) (h₀ : Heap) (n : Nat) (σ : Store) (fa : Addr) (a : Addr) (xs : List PV) (x : PV) (args : List PV) : Prop :=
  ∀ Q : PV → Store → Prop, (∀ k : Nat, k ≤ xs.length → (∀ (i : Nat) (y : PV), i < k → xs[i]? = some y → PV.lt y x = true) → (∀ (i : Nat) (y : PV), k ≤ i → xs[i]? = some y → PV.lt y x = false) → Q (.int k) σ) → LCall prog w h₀ n (.ref fa) [] args σ Q
theorem bisect_spec {fa : Addr} {fd : FuncData} (f : FnOk h₀ fa fd (bodyAt Challenge.pw_ho0003_02 5)) (hs : fd.scope = scopeAt Challenge.pw_ho0003_02 5) (hlen : TopIs h₀ "len" (.builtin "len"))
    {a : Addr} {xs args : List PV} {x : PV} (ea : σ a = some (.lst xs)) (hl : xs.length ≤ 1000000) (hbind : Binds h₀ fd args [("a", .loc a), ("x", x), ("lo", .int 0), ("hi", .none), ("key", .none)])
    (T : Ty) (hT : T.deep ≤ 50) (hty : ∀ y ∈ xs, HasTy T y) (hord : ∀ y ∈ xs, Ord y x) (hmono : ∀ (i j : Nat) (y z : PV), i ≤ j → xs[i]? = some y → xs[j]? = some z → PV.lt z x = true → PV.lt y x = true) :
    BisectAt prog w h₀ (n + 1) σ fa a xs x args := fun Q q => by
  have hn : fd.scope.names = (scopeAt Challenge.pw_ho0003_02 5).names := by rw [hs]
  refine lcall_def f hbind (by show List.Nodup [("a" : Str), "x", "lo", "hi", "key"]; decide) (fun k => by rw [hn]; exact List.nodup_nil) (fun p hp => ?_) fun L => ?_
  · rw [hn]
    refine .inl ?_
    simp only [List.mem_cons, List.not_mem_nil, or_false] at hp
    rcases hp with rfl | rfl | rfl | rfl | rfl <;> rfl
  generalize hE : callEnvC fd L fa = env
  have hk : ∀ y, env.kindOf y = (scopeAt Challenge.pw_ho0003_02 5).names.lookup y := fun y => by rw [← hE]; show fd.scope.names.lookup y = _; rw [hn]
  have st : ∀ y, (scopeAt Challenge.pw_ho0003_02 5).names.lookup y = some .local → Stor env y := fun y h => .inl ((hk y).trans h)
  have hint : interactive env = false := by rw [← hE]; unfold interactive; show (fd.scope.kind == .module && _) = false; rw [f.kind]; rfl
  have gl : ∀ ρ, GName prog w h₀ env ρ "len" (.builtin "len") := fun ρ => gname hlen ((hk _).trans rfl)
  refine ws_cons (ws_if (wt_cmp (we_name (by rfl) (we_int ⟨_, lc_lt, ?_⟩))))
  refine ws_nil ?_
  refine ws_cons (ws_if (wt_cmp (we_name (by rfl) (we_none ⟨_, lc_is_none, ?_⟩))))
  refine ws_cons (ws_assign (st _ rfl) (we_call (gl _) (wl_cons (we_name (by rfl) (wl_nil (lcall_fn (lf_len_list ea hl ?_)))))))
  refine ws_nil ?_
  refine ws_cons (ws_if (wt_cmp (we_name (by rfl) (we_none ⟨_, lc_is_none, ?_⟩))))
  refine ws_norm [("lo", .int (0 : Nat)), ("hi", .int xs.length), ("a", .loc a), ("x", x)] (by repeat (first | exact Sub.nil _ | refine Sub.cons (by rfl) ?_)) ?_
  refine ws_cons (ws_while (fun k ρ' σ' => σ' = σ ∧ ∃ lo hi : Nat, k = hi - lo ∧ lo ≤ hi ∧ hi ≤ xs.length ∧ (∀ (i : Nat) (y : PV), i < lo → xs[i]? = some y → PV.lt y x = true) ∧ (∀ (i : Nat) (y : PV), hi ≤ i → xs[i]? = some y → PV.lt y x = false) ∧
    ρ' = ([("lo", .int lo), ("hi", .int hi), ("a", .loc a), ("x", x)] : Loc)) xs.length ?_ ?_)
  · refine ⟨rfl, 0, xs.length, rfl, Nat.zero_le _, Nat.le_refl _, fun i y h => by (first | lia | omega), fun i y h hy => ?_, rfl⟩
    rw [List.getElem?_eq_none h] at hy; cases hy
  rintro k ρ' σ' ⟨rfl, lo, hi, rfl, h1, h2, h3, h4, rfl⟩
  refine wt_cmp (we_name (by rfl) (we_name (by rfl) ⟨_, lc_lt, ?_⟩))
  by_cases hlt : lo < hi
  · refine if_dec_pos (by (first | lia | omega)) ?_
    refine ws_abs fun Q1 q1 => ?_
    refine ws_cons (ws_assign (st _ rfl) (we_bin (we_bin (we_name (by rfl) (we_name (by rfl) (lb_add_int (we_int (lb_div_int (by decide) (by decide) ?_))))))))
    obtain ⟨mid, hmid, hm1, hm2⟩ : ∃ mid : Nat, ((lo : Int) + (hi : Int)).fdiv 2 = mid ∧ lo ≤ mid ∧ mid < hi := ⟨(lo + hi) / 2, by rw [Int.fdiv_eq_ediv_of_nonneg _ (by decide)]; (first | lia | omega), by (first | lia | omega), by (first | lia | omega)⟩
    rw [hmid]
    obtain ⟨z, hz⟩ : ∃ z, xs[mid]? = some z := ⟨_, List.getElem?_eq_getElem (by (first | lia | omega))⟩
    have hzm := List.mem_of_getElem? hz
    refine ws_cons (ws_if (wt_cmp (we_sub (we_name (by rfl) (we_name (by rfl) ⟨z, lg_list ea (by (first | lia | omega)) (by (first | lia | omega)) (by simpa using hz), we_name (by rfl) ⟨_, lc_lt_ord T hT (hty z hzm) (hord z hzm), ?_⟩⟩)))))
    cases hc : PV.lt z x
    · refine ws_cons (ws_assign (st _ rfl) (we_name (by rfl) ?_))
      refine ws_nil (ws_nil (q1 _ _ _ ⟨mid - lo, [("lo", .int lo), ("hi", .int mid), ("a", .loc a), ("x", x)], by (first | lia | omega), by repeat (first | exact Sub.nil _ | refine Sub.cons (by rfl) ?_), rfl, lo, mid, rfl, hm1, by (first | lia | omega), h3, fun i y hi hy => ?_, rfl⟩))
      cases hyx : PV.lt y x
      · rfl
      · rw [hmono mid i z y hi hz hy hyx] at hc; cases hc
    · refine ws_cons (ws_assign (st _ rfl) (we_bin (we_name (by rfl) (we_int (lb_add_int ?_)))))
      refine ws_nil (ws_nil (q1 _ _ _ ⟨hi - (mid + 1), [("lo", .int (mid + 1 : Nat)), ("hi", .int hi), ("a", .loc a), ("x", x)], by (first | lia | omega), by repeat (first | exact Sub.nil _ | refine Sub.cons (by rfl) ?_), rfl, mid + 1, hi, rfl, by (first | lia | omega), h2, fun i y hi hy => ?_, h4, rfl⟩))
      exact hmono i mid y z (by (first | lia | omega)) hy hz hc
  · refine if_dec_neg (by (first | lia | omega)) ?_
    refine ws_nil (ws_cons (ws_return (we_name (by rfl) (q lo (by (first | lia | omega)) h3 fun i y h => h4 i y (by (first | lia | omega))))))

theorem insort_spec {fa : Addr} {fd : FuncData} (f : FnOk h₀ fa fd (bodyAt Challenge.pw_ho0003_02 4)) (hs : fd.scope = scopeAt Challenge.pw_ho0003_02 4) {ba : Addr} (hbis : TopIs h₀ "bisect_left" (.ref ba))
    {a : Addr} {xs : List PV} {x : PV} (ea : σ a = some (.lst xs)) (hl : xs.length < 1000000) (hbind : Binds h₀ fd [.loc a, x] [("a", .loc a), ("x", x), ("lo", .int 0), ("hi", .none), ("key", .none)])
    (hb : BisectAt prog w h₀ n σ ba a xs x [.loc a, x, .int 0, .none])
    (q : ∀ k : Nat, k ≤ xs.length → (∀ (i : Nat) (y : PV), i < k → xs[i]? = some y → PV.lt y x = true) → (∀ (i : Nat) (y : PV), k ≤ i → xs[i]? = some y → PV.lt y x = false) → Q .none (upd σ a (.lst (xs.take k ++ x :: xs.drop k)))) :
    LCall prog w h₀ (n + 1) (.ref fa) [] [.loc a, x] σ Q := by
  have hn : fd.scope.names = (scopeAt Challenge.pw_ho0003_02 4).names := by rw [hs]
  refine lcall_def f hbind (by show List.Nodup [("a" : Str), "x", "lo", "hi", "key"]; decide) (fun k => by rw [hn]; exact List.nodup_nil) (fun p hp => ?_) fun L => ?_
  · rw [hn]
    refine .inl ?_
    simp only [List.mem_cons, List.not_mem_nil, or_false] at hp
    rcases hp with rfl | rfl | rfl | rfl | rfl <;> rfl
  generalize hE : callEnvC fd L fa = env
  have hk : ∀ y, env.kindOf y = (scopeAt Challenge.pw_ho0003_02 4).names.lookup y := fun y => by rw [← hE]; show fd.scope.names.lookup y = _; rw [hn]
  have st : ∀ y, (scopeAt Challenge.pw_ho0003_02 4).names.lookup y = some .local → Stor env y := fun y h => .inl ((hk y).trans h)
  have hint : interactive env = false := by rw [← hE]; unfold interactive; show (fd.scope.kind == .module && _) = false; rw [f.kind]; rfl
  have gb : ∀ ρ, GName prog w h₀ env ρ "bisect_left" (.ref ba) := fun ρ => gname hbis ((hk _).trans rfl)
  refine ws_cons (ws_if (wt_cmp (we_name (by rfl) (we_none ⟨_, lc_is_none, ?_⟩))))
  refine ws_cons (ws_assign (st _ rfl) (we_call (gb _) (wl_cons (we_name (by rfl) (wl_cons (we_name (by rfl) (wl_cons (we_name (by rfl) (wl_cons (we_name (by rfl) (wl_nil (hb _ ?_))))))))))))
  intro k h1 h2 h3
  refine ws_nil ?_
  refine ws_cons (ws_expr (we_method (we_name (by rfl) ⟨_, meth_list ea PySem.F.plainAttrs_list PySem.F.slot_list_insert, wl_cons (we_name (by rfl) (wl_cons (we_name (by rfl) (wl_nil (lc_insert ea (by (first | lia | omega)) (by simpa using h1) (by (first | lia | omega)) ⟨rfl, ?_⟩)))))⟩)) hint)
  exact ws_nil (by simpa using q k h1 h2 h3)

end
end Mine
end

section
namespace Mine

section
variable {prog : Program} {w : World} {h₀ : Heap} {n : Nat} {ρ : Loc} {σ : Store} {Q : PV → Store → Prop}
theorem count_spec {fa : Addr} {fd : FuncData} (f : FnOk h₀ fa fd (bodyAt Challenge.pw_ho0003_02 2)) (hs : fd.scope = scopeAt Challenge.pw_ho0003_02 2) {a : Addr} {T : Ty} {es : List (PV × PV)} (ea : σ a = some (.dt T es)) (hv : IntVals es) (hbind : Binds h₀ fd [.loc a] [("callers", .loc a)])
    (q : Q (.int (sumL (valsOf es))) σ) : LCall prog w h₀ (n + 1) (.ref fa) [] [.loc a] σ Q := by
  have hn : fd.scope.names = (scopeAt Challenge.pw_ho0003_02 2).names := by rw [hs]
  refine lcall_def f hbind (by show List.Nodup [("callers" : Str)]; decide) (fun k => by rw [hn]; exact List.nodup_nil) (fun p hp => ?_) fun L => ?_
  · rw [hn]
    refine .inl ?_
    simp only [List.mem_cons, List.not_mem_nil, or_false] at hp
    subst hp; rfl
  generalize hE : callEnvC fd L fa = env
  have hk : ∀ y, env.kindOf y = (scopeAt Challenge.pw_ho0003_02 2).names.lookup y := fun y => by rw [← hE]; show fd.scope.names.lookup y = _; rw [hn]
  have st : ∀ y, (scopeAt Challenge.pw_ho0003_02 2).names.lookup y = some .local → Stor env y := fun y h => .inl ((hk y).trans h)
  have hint : interactive env = false := by rw [← hE]; unfold interactive; show (fd.scope.kind == .module && _) = false; rw [f.kind]; rfl
  refine ws_cons (ws_assign (st _ rfl) (we_int ?_))
  refine ws_cons (ws_for (wi_values (we_name (by rfl) ⟨a, T, es, rfl, ea, fun ob => ?_⟩)))
  refine ⟨fun i ρ' σ' => i ≤ es.length ∧ ρ' = ([("nc", .int (sumL ((valsOf es).take i))), ("callers", .loc a)] : Loc) ∧ σ' = upd σ a (.dx ob T es), es.length, ⟨Nat.zero_le _, rfl, rfl⟩, ?_⟩
  rintro i ρ' σ' ⟨hi, rfl, rfl⟩
  have ex : (upd σ a (.dx ob T es)) a = some (.dx ob T es) := upd_same _ _ _
  refine ⟨ex, ?_⟩
  rw [elemD_of ex]
  cases he : es[i]? with
  | none =>
    have hl : (valsOf es).length = es.length := by simp [valsOf]
    have e : (valsOf es).take i = valsOf es := List.take_of_length_le (by have := List.getElem?_eq_none_iff.mp he; (first | lia | omega))
    simp only [Option.map_none]
    refine ws_less (Less.back ea) ?_
    rw [e]
    exact ws_cons (ws_return (we_name (by rfl) q))
  | some p =>
    obtain ⟨v, hv1, hv2⟩ := valsOf_get hv he
    have hlt := (List.getElem?_eq_some_iff.mp he).1
    simp only [Option.map_some]
    refine ⟨hlt, wt_name (ownMod _) (st _ rfl).own ?_⟩
    rw [hv1]
    refine ws_cons (ws_iadd (st _ rfl) (by rfl) (we_name (by rfl) ⟨v, rfl, ?_⟩))
    refine ws_nil ⟨_, ?_, hlt, rfl, rfl⟩
    rw [sumL_take hv2]
    repeat (first | exact Sub.nil _ | refine Sub.cons (by rfl) ?_)

theorem add_spec {fa : Addr} {fd : FuncData} (f : FnOk h₀ fa fd (bodyAt Challenge.pw_ho0003_02 1)) (hs : fd.scope = scopeAt Challenge.pw_ho0003_02 1) (hbig : ∃ b o, sysModules < b ∧ h₀.get? b = some o) (his : TopIs h₀ "isinstance" (.builtin "isinstance")) (htup : TopIs h₀ "tuple" (.type "tuple"))
    {a b : Addr} {T : Ty} {es fs : List (PV × PV)} (ea : σ a = some (.dt T es)) (eb : σ b = some (.dt T fs)) (ke : KeysT T es) (kf : KeysT T fs) (ve : IntVals es) (vf : IntVals fs) (hle : es.length ≤ 1000) (hlf : fs.length ≤ 1000)
    (hbind : Binds h₀ fd [.loc a, .loc b] [("target", .loc a), ("source", .loc b)])
    (q : ∀ c, σ c = none → Q (.loc c) (upd σ c (.dt T (addTab es fs)))) : LCall prog w h₀ (n + 1) (.ref fa) [] [.loc a, .loc b] σ Q := by
  have hn : fd.scope.names = (scopeAt Challenge.pw_ho0003_02 1).names := by rw [hs]
  refine lcall_def f hbind (by show List.Nodup [("target" : Str), "source"]; decide) (fun k => by rw [hn]; exact List.nodup_nil) (fun p hp => ?_) fun L => ?_
  · rw [hn]
    refine .inl ?_
    simp only [List.mem_cons, List.not_mem_nil, or_false] at hp
    rcases hp with rfl | rfl <;> rfl
  generalize hE : callEnvC fd L fa = env
  have hk : ∀ y, env.kindOf y = (scopeAt Challenge.pw_ho0003_02 1).names.lookup y := fun y => by rw [← hE]; show fd.scope.names.lookup y = _; rw [hn]
  have st : ∀ y, (scopeAt Challenge.pw_ho0003_02 1).names.lookup y = some .local → Stor env y := fun y h => .inl ((hk y).trans h)
  have hint : interactive env = false := by rw [← hE]; unfold interactive; show (fd.scope.kind == .module && _) = false; rw [f.kind]; rfl
  have gi : ∀ ρ, GName prog w h₀ env ρ "isinstance" (.builtin "isinstance") := fun ρ => gname his ((hk _).trans rfl)
  have gt : ∀ ρ, GName prog w h₀ env ρ "tuple" (.type "tuple") := fun ρ => gname htup ((hk _).trans rfl)
  refine ws_cons (ws_assign (st _ rfl) (we_dict0_dt T hbig fun c hc => ?_))
  have hca : c ≠ a := fun e => by rw [e, ea] at hc; cases hc
  have hcb : c ≠ b := fun e => by rw [e, eb] at hc; cases hc
  refine ws_cons (ws_for (wi_items (we_name (by rfl) ⟨a, T, es, rfl, by rw [upd_ne _ _ (Ne.symm hca)]; exact ea, fun ob => ?_⟩)))
  refine ⟨fun i ρ' σ' => i ≤ es.length ∧ ρ' = ([("new_callers", .loc c), ("target", .loc a), ("source", .loc b)] : Loc) ∧ σ' = upd (upd σ a (.dx ob T es)) c (.dt T (copied (es.take i))), es.length,
    ⟨Nat.zero_le _, rfl, upd_comm _ _ _ hca⟩, ?_⟩
  rintro i ρ' σ' ⟨hi, rfl, rfl⟩
  have ex : (upd (upd σ a (.dx ob T es)) c (.dt T (copied (es.take i)))) a = some (.dx ob T es) := by rw [upd_ne _ _ (Ne.symm hca), upd_same]
  refine ⟨ex, ?_⟩
  rw [elemD_of ex]
  cases he : es[i]? with
  | some p =>
    have hlt := (List.getElem?_eq_some_iff.mp he).1
    obtain ⟨ks, k1, k2, k3⟩ := ke p (List.mem_of_getElem? he)
    simp only [Option.map_some]
    refine ⟨hlt, wt_pair (ownMod _) (st _ rfl).own (st _ rfl).own (ws_abs fun Q1 q1 => ?_)⟩
    have hlen : (copied (es.take i)).length ≤ 1000000 := by have := copied_length (es.take i); have := List.length_take_le i es; (first | lia | omega)
    refine ws_cons (ws_set (we_name (by rfl) (we_name (by rfl) (we_name (by rfl) ?_))))
    rw [k1]
    refine ls_dt (upd_same _ _ _) k2 k3 hlen ?_
    refine ws_nil (q1 _ _ _ ⟨_, ?_, hlt, rfl, ?_⟩)
    · repeat (first | exact Sub.nil _ | refine Sub.cons (by rfl) ?_)
    · have e2 : copied (es.take (i + 1)) = dset (copied (es.take i)) (.tup ks) p.2 := by rw [← k1]; exact take_succ_fold _ _ _ he
      rw [upd_upd, e2]
  | none =>
    have e : es.take i = es := List.take_of_length_le (List.getElem?_eq_none_iff.mp he)
    simp only [Option.map_none]
    rw [e]
    refine ws_less (Less.upd_both (Less.back ea) c _) ?_
    refine ws_cons (ws_for (wi_items (we_name (by rfl) ⟨b, T, fs, rfl, by rw [upd_ne _ _ (Ne.symm hcb)]; exact eb, fun ob => ?_⟩)))
    refine ⟨fun i ρ' σ' => i ≤ fs.length ∧ ρ' = ([("new_callers", .loc c), ("target", .loc a), ("source", .loc b)] : Loc) ∧ σ' = upd (upd σ b (.dx ob T fs)) c (.dt T ((fs.take i).foldl addOne (copied es))), fs.length,
      ⟨Nat.zero_le _, rfl, upd_comm _ _ _ hcb⟩, ?_⟩
    rintro i ρ' σ' ⟨hi, rfl, rfl⟩
    have ex : (upd (upd σ b (.dx ob T fs)) c (.dt T ((fs.take i).foldl addOne (copied es)))) b = some (.dx ob T fs) := by rw [upd_ne _ _ (Ne.symm hcb), upd_same]
    refine ⟨ex, ?_⟩
    rw [elemD_of ex]
    cases he : fs[i]? with
    | none =>
      have e : fs.take i = fs := List.take_of_length_le (List.getElem?_eq_none_iff.mp he)
      simp only [Option.map_none]
      rw [e]
      refine ws_less (Less.upd_both (Less.back eb) c _) ?_
      exact ws_cons (ws_return (we_name (by rfl) (q c hc)))
    | some p =>
      have hlt := (List.getElem?_eq_some_iff.mp he).1
      obtain ⟨ks, k1, k2, k3⟩ := kf p (List.mem_of_getElem? he)
      obtain ⟨v, hv⟩ := vf p (List.mem_of_getElem? he)
      simp only [Option.map_some]
      refine ⟨hlt, wt_pair (ownMod _) (st _ rfl).own (st _ rfl).own (ws_abs fun Q1 q1 => ?_)⟩
      have hlen : ((fs.take i).foldl addOne (copied es)).length ≤ 1000000 := by have := adds_length (fs.take i) (copied es); have := copied_length es; have := List.length_take_le i fs; (first | lia | omega)
      have e2 : (fs.take (i + 1)).foldl addOne (copied es) = addOne ((fs.take i).foldl addOne (copied es)) p := take_succ_fold _ _ _ he
      have va : IntVals ((fs.take i).foldl addOne (copied es)) := adds_vals (fun x hx => vf x (List.mem_of_mem_take hx)) (copied_vals ve)
      rw [k1, hv]
      refine ws_cons (ws_if (wt_cmp (we_name (by rfl) (we_name (by rfl) ⟨_, lc_in_dt (upd_same _ _ _) k2 k3, ?_⟩))))
      rw [← dget_isSome]
      generalize hacc : (fs.take i).foldl addOne (copied es) = acc at *
      cases hd : dget acc (.tup ks) with
      | none =>
        simp only [Option.isSome_none, Bool.false_eq_true, if_false]
        refine ws_cons (ws_set (we_name (by rfl) (we_name (by rfl) (we_name (by rfl) (ls_dt (upd_same _ _ _) k2 k3 hlen ?_)))))
        refine ws_nil (ws_nil (q1 _ _ _ ⟨_, ?_, hlt, rfl, ?_⟩))
        · repeat (first | exact Sub.nil _ | refine Sub.cons (by rfl) ?_)
        · rw [upd_upd, e2]
          have : addOne acc p = dset acc (.tup ks) (.int v) := by unfold addOne; rw [k1, hv, hd]
          rw [this]
      | some x =>
        obtain ⟨u, rfl⟩ := dget_vals va hd
        simp only [Option.isSome_some, if_true]
        refine ws_cons (ws_if (wt_plain (we_isi (gi _) (gt _) (we_name (by rfl) ⟨v, rfl, false, rfl, ?_⟩))))
        simp only [Bool.false_eq_true, if_false]
        refine ws_cons (ws_iadd_sub (we_name (by rfl) (we_name (by rfl) ⟨u, lg_dt (upd_same _ _ _) k2 k3 hd, we_name (by rfl) ⟨v, rfl, ls_dt (upd_same _ _ _) k2 k3 hlen ?_⟩⟩)))
        refine ws_nil (ws_nil (ws_nil (q1 _ _ _ ⟨_, ?_, hlt, rfl, ?_⟩)))
        · repeat (first | exact Sub.nil _ | refine Sub.cons (by rfl) ?_)
        · rw [upd_upd, e2]
          have : addOne acc p = dset acc (.tup ks) (.int (u + v)) := by unfold addOne; rw [k1, hv, hd]
          rw [this]
end
end Mine
end

section
namespace Mine

section
variable {prog : Program} {w : World} {h₀ : Heap} {n : Nat} {ρ : Loc} {σ : Store} {Q : PV → Store → Prop}
theorem line_spec {fa : Addr} {fd : FuncData} (f : FnOk h₀ fa fd (bodyAt Challenge.pw_ho0003_02 7)) (hs : fd.scope = scopeAt Challenge.pw_ho0003_02 7) {x : Int} (hbind : Binds h₀ fd [.int x] [("number", .int x)])
    (q : Q (pvL (lineOf x)) σ) : LCall prog w h₀ (n + 1) (.ref fa) [] [.int x] σ Q := by
  have hn : fd.scope.names = (scopeAt Challenge.pw_ho0003_02 7).names := by rw [hs]
  refine lcall_def f hbind (by show List.Nodup [("number" : Str)]; decide) (fun k => by rw [hn]; exact List.nodup_nil) (fun p hp => ?_) fun L => ?_
  · rw [hn]
    refine .inl ?_
    simp only [List.mem_cons, List.not_mem_nil, or_false] at hp
    subst hp; rfl
  generalize hE : callEnvC fd L fa = env
  refine ws_cons ?_
  refine ws_return ?_
  refine we_tup ?_
  refine wl_cons ?_
  refine we_bin ?_
  refine we_bin ?_
  refine we_bin ?_
  refine we_name (by rfl) ?_
  refine we_int ?_
  refine lb_mod_int (by decide) ?_
  refine we_int ?_
  refine lb_mod_int (by decide) ?_
  refine we_int ?_
  refine lb_sub_int ?_
  refine wl_cons ?_
  refine we_bin ?_
  refine we_bin ?_
  refine we_bin ?_
  refine we_name (by rfl) ?_
  refine we_int ?_
  refine lb_mod_int (by decide) ?_
  refine we_int ?_
  refine lb_div_int (by decide) (by decide) ?_
  refine we_int ?_
  refine lb_sub_int ?_
  refine wl_nil ?_
  exact ⟨by simp, q⟩

theorem spot_spec {fa : Addr} {fd : FuncData} (f : FnOk h₀ fa fd (bodyAt Challenge.pw_ho0003_02 8)) (hs : fd.scope = scopeAt Challenge.pw_ho0003_02 8) {a b : Ln} (hbind : Binds h₀ fd [pvL a, pvL b] [("one", pvL a), ("other", pvL b)])
    (hne : a.1 ≠ b.1) (ha : -2 ≤ a.1 ∧ a.1 ≤ 2) (hb : -2 ≤ b.1 ∧ b.1 ≤ 2)
    (q : Q (pvL (spotOf a b)) σ) : LCall prog w h₀ (n + 1) (.ref fa) [] [pvL a, pvL b] σ Q := by
  have hn : fd.scope.names = (scopeAt Challenge.pw_ho0003_02 8).names := by rw [hs]
  refine lcall_def f hbind (by show List.Nodup [("one" : Str), "other"]; decide) (fun k => by rw [hn]; exact List.nodup_nil) (fun p hp => ?_) fun L => ?_
  · rw [hn]
    refine .inl ?_
    simp only [List.mem_cons, List.not_mem_nil, or_false] at hp
    rcases hp with rfl | rfl <;> rfl
  generalize hE : callEnvC fd L fa = env
  have hk : ∀ y, env.kindOf y = (scopeAt Challenge.pw_ho0003_02 8).names.lookup y := fun y => by rw [← hE]; show fd.scope.names.lookup y = _; rw [hn]
  have st : ∀ y, (scopeAt Challenge.pw_ho0003_02 8).names.lookup y = some .local → Stor env y := fun y h => .inl ((hk y).trans h)
  refine ws_cons ?_
  refine ws_assign (st _ rfl) ?_
  refine we_bin ?_
  refine we_bin ?_
  refine we_int ?_
  refine we_bin ?_
  refine we_sub ?_
  refine we_name (by rfl) ?_
  refine we_int ?_
  refine ⟨.int b.2, lg_tup (by decide) (by decide) rfl, ?_⟩
  refine we_sub ?_
  refine we_name (by rfl) ?_
  refine we_int ?_
  refine ⟨.int a.2, lg_tup (by decide) (by decide) rfl, ?_⟩
  refine lb_sub_int ?_
  refine lb_mul_int (by decide) ?_
  refine we_bin ?_
  refine we_sub ?_
  refine we_name (by rfl) ?_
  refine we_int ?_
  refine ⟨.int a.1, lg_tup (by decide) (by decide) rfl, ?_⟩
  refine we_sub ?_
  refine we_name (by rfl) ?_
  refine we_int ?_
  refine ⟨.int b.1, lg_tup (by decide) (by decide) rfl, ?_⟩
  refine lb_sub_int ?_
  refine lb_div_int (by omega) (by omega) ?_
  refine ws_cons ?_
  refine ws_return ?_
  refine we_tup ?_
  refine wl_cons ?_
  refine we_name (by rfl) ?_
  refine wl_cons ?_
  refine we_bin ?_
  refine we_bin ?_
  refine we_sub ?_
  refine we_name (by rfl) ?_
  refine we_int ?_
  refine ⟨.int a.1, lg_tup (by decide) (by decide) rfl, ?_⟩
  refine we_name (by rfl) ?_
  refine lb_mul_int (by omega) ?_
  refine we_bin ?_
  refine we_int ?_
  refine we_sub ?_
  refine we_name (by rfl) ?_
  refine we_int ?_
  refine ⟨.int a.2, lg_tup (by decide) (by decide) rfl, ?_⟩
  refine lb_mul_int (by decide) ?_
  refine lb_add_int ?_
  refine wl_nil ?_
  exact ⟨by simp, q⟩
end
end Mine
end

section
namespace Mine

theorem unL_pv (a : Int × Int) : unL (pvL a) = a := rfl
theorem unI_pv (a : Int) : unI (.int a) = a := rfl
theorem onsRaw_len {ls : List Ln} (h : ls.length ≤ 5) : (onsRaw ls).length ≤ 25 := by
  have h1 : ∀ p ∈ ls, (ls.flatMap fun q : Ln => if p.1 = q.1 then [] else [(spotOf p q).1]).length ≤ 5 := fun p _ => by
    have := flatMap_len (l := ls) (f := fun q : Ln => if p.1 = q.1 then [] else [(spotOf p q).1]) (m := 1) fun q _ => by split <;> simp
    (first | lia | omega)
  have := flatMap_len (l := ls) h1
  unfold onsRaw
  (first | lia | omega)

section
variable {prog : Program} {w : World} {h₀ : Heap} {n : Nat} {ρ : Loc} {σ : Store} {Q : PV → Store → Prop}
/-- what the walk of _law_signs leans on -/
structure SignsCtx (h₀ : Heap) (fa : Addr) (fd : FuncData) (sa : Addr) (sfd : FuncData) : Prop where
  f : FnOk h₀ fa fd (bodyAt Challenge.pw_ho0003_02 9)
  hs : fd.scope = scopeAt Challenge.pw_ho0003_02 9
  fs : FnOk h₀ sa sfd (bodyAt Challenge.pw_ho0003_02 8)
  ss : sfd.scope = scopeAt Challenge.pw_ho0003_02 8
  sbind : ∀ a b : Ln, Binds h₀ sfd [pvL a, pvL b] [("one", pvL a), ("other", pvL b)]
  bind : ∀ l : Addr, Binds h₀ fd [.loc l] [("lines", .loc l)]
  big : ∃ b o, sysModules < b ∧ h₀.get? b = some o
  tsorted : TopIs h₀ "sorted" (.builtin "sorted")
  tdict : TopIs h₀ "dict" (.type "dict")
  trange : TopIs h₀ "range" (.type "range")
  tlen : TopIs h₀ "len" (.builtin "len")
  ttuple : TopIs h₀ "tuple" (.type "tuple")
  tint : TopIs h₀ "int" (.type "int")
  tspot : TopIs h₀ "_law_spot" (.ref sa)
/-- the frame of _law_signs -/
structure SignsEnv (env : Env) (L : Addr) : Prop where
  hk : ∀ y, env.kindOf y = (scopeAt Challenge.pw_ho0003_02 9).names.lookup y
  hcs : env.cells = ([("high", L + 1 + 1 + 1 + 1 + 1), ("highs", L + 1 + 1 + 1 + 1), ("on", L + 1 + 1 + 1), ("ons", L + 1 + 1), ("lines", L + 1)] : List (Str × Addr))

theorem signs_ons {fa sa : Addr} {fd sfd : FuncData} (c : SignsCtx h₀ fa fd sa sfd) {env : Env} {L : Addr} (e : SignsEnv env L) {l : Addr} {ls : List Ln} (el : σ l = some (.lst (ls.map pvL))) (hf : Fit ls) {pos : Pos} {s1 s2 : List Expr}
    {Q : PV → Store → Prop} (q : ∀ σ' o, Less σ σ' → σ' o = some (.lst ((onsOf ls).map .int)) → Q (.loc o) σ') :
    WV prog w h₀ (n + 1) env [] (eval (match bodyAt Challenge.pw_ho0003_02 9 with | .Assign _ v _ :: _ => v | _ => .Constant .none 0 pos) env) [("lines", .loc l)] σ Q := by
  obtain ⟨hk, hcs⟩ := e
  have hlen := onsRaw_len hf.1
  refine we_call (gname c.tsorted ((hk _).trans rfl)) ?_
  refine wl_cons ?_
  refine we_call (gname c.tdict ((hk _).trans rfl)) ?_
  refine wl_cons ?_
  refine we_bin ?_
  refine we_compb hcs [("lines", L + 1)] [("lines", .loc l)] ls pvL unL unL_pv (fun p => ls.flatMap fun q => if p.1 = q.1 then [] else [.tup [.int (spotOf p q).1, .int 1]]) (by rfl) (by rfl) (by rfl) (SubL.cons (by first | exact .head _ | exact .tail _ (.head _) | exact .tail _ (.tail _ (.head _)) | exact .tail _ (.tail _ (.tail _ (.head _))) | exact .tail _ (.tail _ (.tail _ (.tail _ (.head _))))) (SubL.nil)) (show List.Nodup (["lines"] : List Str) from by decide) (fun C => .cons (by rfl) (.inl ((hk _).trans rfl)) (by rfl) (by rw [hcs]; rfl) (by rfl) (.nil)) ?_
  have hraw : (ls.flatMap fun p : Ln => ls.flatMap fun q : Ln => if p.1 = q.1 then [] else [PV.tup [.int (spotOf p q).1, .int 1]]) = (onsRaw ls).map fun x => .tup [.int x, .int 1] := by
    unfold onsRaw
    rw [List.map_flatMap]
    congr 1; funext p
    rw [List.map_flatMap]
    congr 1; funext q
    split <;> rfl
  refine wi_list ?_
  refine we_name (by rfl) ?_
  refine ⟨l, ls.map pvL, rfl, el, itm_list el, by rw [hraw, List.length_map]; (first | lia | omega), ?_, ?_⟩
  · intro C D hD p hp
    refine clause_name (onlyLoc _) (storL (compKind rfl (by decide))) (by repeat (first | exact Sub.nil _ | refine Sub.cons (by rfl) ?_)) ?_
    refine jel_comp (onlyLoc _) hD ls pvL unL unL_pv (fun q => if p.1 = q.1 then [] else [.tup [.int (spotOf p q).1, .int 1]]) rfl (by simp) ?_
    refine wi_list ?_
    refine we_name (by rfl) ?_
    refine ⟨l, ls.map pvL, rfl, el, rfl, itm_list el, ?_⟩
    intro q hq
    refine clause_name (onlyLoc _) (storL (compKind rfl (by decide))) (by repeat (first | exact Sub.nil _ | refine Sub.cons (by rfl) ?_)) ?_
    refine jel_if (onlyLoc _) hD ?_
    refine wt_cmp ?_
    refine we_sub ?_
    refine we_name (by rfl) ?_
    refine we_int ?_
    refine ⟨.int p.1, lg_tup (by decide) (by decide) rfl, ?_⟩
    refine we_sub ?_
    refine we_name (by rfl) ?_
    refine we_int ?_
    refine ⟨.int q.1, lg_tup (by decide) (by decide) rfl, ?_⟩
    refine ⟨_, lc_ne, rfl, ?_⟩
    by_cases hpq : p.1 = q.1
    · simp [hpq]
    · simp only [hpq, decide_false, Bool.not_false, if_true, if_false]
      refine jel_emit (onlyLoc _) hD rfl ?_
      refine we_tup ?_
      refine wl_cons ?_
      refine we_sub ?_
      refine we_call (gname c.tspot (compKind rfl (by decide))) ?_
      refine wl_cons ?_
      refine we_name (by rfl) ?_
      refine wl_cons ?_
      refine we_name (by rfl) ?_
      refine wl_nil ?_
      refine spot_spec c.fs c.ss (c.sbind p q) hpq ⟨(hf.2 p hp).1, (hf.2 p hp).2.1⟩ ⟨(hf.2 q hq).1, (hf.2 q hq).2.1⟩ ?_
      refine we_int ?_
      refine ⟨.int (spotOf p q).1, lg_tup (by decide) (by decide) rfl, ?_⟩
      refine wl_cons ?_
      refine we_int ?_
      refine wl_nil ?_
      exact ⟨by simp, rfl, rfl⟩
  · intro D hD
    rw [hraw]
    refine we_list ?_
    refine wl_cons ?_
    refine we_tup ?_
    refine wl_cons ?_
    refine we_int ?_
    refine wl_cons ?_
    refine we_int ?_
    refine wl_nil ?_
    refine ⟨by simp, ?_⟩
    refine wl_nil ?_
    refine ⟨by simp, fun c2 hc2 => ?_⟩
    refine lb_add_list (upd_old (upd_same _ _ _) hc2) (upd_same _ _ _) (by simp; (first | lia | omega)) fun c3 hc3 => ?_
    refine wl_nil ?_
    have e3 : (onsRaw ls).map (fun x => PV.tup [.int x, .int 1]) ++ [.tup [.int 0, .int 1]] = ((onsRaw ls ++ [0]).map fun x => (PV.int x, PV.int 1)).map fun (p : PV × PV) => PV.tup [p.1, p.2] := by simp
    refine lcall_type (lf_dict (.dv []) (.inl rfl) c.big (ps := (onsRaw ls ++ [0]).map fun x => (PV.int x, PV.int 1)) (by rw [upd_same, e3]) (fun p hp => ?_) (by simp; (first | lia | omega)) fun c4 hc4 => ?_)
    · obtain ⟨x, _, rfl⟩ := List.mem_map.mp hp
      exact trivial
    refine wl_nil ?_
    rw [dputs_dv] at *
    generalize hes : ((onsRaw ls ++ [0]).map fun x => (PV.int x, PV.int 1)).foldl (fun (o : List (PV × PV)) (p : PV × PV) => dset o p.1 p.2) [] = es at *
    have hkeys : es.map (·.1) = (dedup (onsRaw ls ++ [0])).map PV.int := by
      rw [← hes]
      exact dsets_keys pvI_inj _ (onsRaw ls ++ [0]) [] [] (by simp) rfl
    have hdl := dedup_length (onsRaw ls ++ [0])
    have hel : es.length = (dedup (onsRaw ls ++ [0])).length := by have := congrArg List.length hkeys; simpa using this
    rw [List.length_append, List.length_singleton] at hdl
    have L1 := (((Less.upd_free hD).free hc2).free hc3).free hc4 (o := .dv es)
    generalize hs4 : upd (upd (upd (upd σ D (.lst ((onsRaw ls).map fun x => .tup [.int x, .int 1]))) c2 (.lst [.tup [.int 0, .int 1]])) c3 (.lst ((onsRaw ls).map (fun x => PV.tup [.int x, .int 1]) ++ [.tup [.int 0, .int 1]]))) c4 (.dv es) = σ4 at *
    have e4 : σ4 c4 = some (.dv es) := by rw [← hs4]; exact upd_same _ _ _
    have hcol := collects_dv (prog := prog) (w := w) (h₀ := h₀) e4 (by (first | lia | omega))
    rw [hkeys] at hcol
    refine lcall_fn (lf_sorted .int rfl (by decide) hcol (fun y hy => ?_) (by rw [List.length_map]; (first | lia | omega)) fun ys hsort c5 hc5 => ?_)
    · obtain ⟨x, _, rfl⟩ := List.mem_map.mp hy; exact trivial
    have e5 := sortOf_eq (f := PV.int) (lt := ltI) (T := .int) rfl (fun _ _ => trivial) ltI_pv ltI_tr ltI_asy ltI_tot hsort
    subst e5
    exact q _ _ (L1.free hc5) (upd_same _ _ _)
end
end Mine
end

section
namespace Mine

theorem onsOf_len {ls : List Ln} (h : ls.length ≤ 5) : 1 ≤ (onsOf ls).length ∧ (onsOf ls).length ≤ 26 := by
  have hp := (sortT_perm (lt := ltI) (dedup (onsRaw ls ++ [0]))).length_eq
  have h1 := dedup_length (onsRaw ls ++ [0])
  have h2 := onsRaw_len h
  have h3 : 0 ∈ dedup (onsRaw ls ++ [0]) := dedup_mem.mpr (by simp)
  have h4 := List.length_pos_of_mem h3
  unfold onsOf
  simp only [List.length_append, List.length_singleton] at h1
  (first | lia | omega)
theorem getD_some {l : List Int} {k : Nat} (h : k < l.length) : (l.map PV.int)[k]? = some (.int (l.getD k 0)) := by simp [h]
theorem headD_some {l : List Int} (h : 1 ≤ l.length) : (l.map PV.int)[0]? = some (.int (l.headD 0)) := by cases l <;> simp_all
noncomputable def unK1 : PV → Nat
  | .int a => (a - 1).toNat
  | _ => 0
theorem unK1_pv (k : Nat) : unK1 (.int (1 + (k : Int))) = k := by unfold unK1; simp; (first | lia | omega)
section
variable {prog : Program} {w : World} {h₀ : Heap} {n : Nat} {ρ : Loc} {σ : Store} {Q : PV → Store → Prop}
theorem signs_places {fa sa : Addr} {fd sfd : FuncData} (c : SignsCtx h₀ fa fd sa sfd) {env : Env} {L : Addr} (e : SignsEnv env L) {o l : Addr} {on : List Int} (eo : σ o = some (.lst (on.map .int))) (hl1 : 1 ≤ on.length) (hl2 : on.length ≤ 1000) {pos : Pos}
    {Q : PV → Store → Prop} (q : ∀ σ' p, Less σ σ' → σ' p = some (.lst ((placesOf on).map .int)) → Q (.loc p) σ') :
    WV prog w h₀ (n + 1) env [] (eval (match bodyAt Challenge.pw_ho0003_02 9 with | _ :: .Assign _ v _ :: _ => v | _ => .Constant .none 0 pos) env) [("ons", .loc o), ("lines", .loc l)] σ Q := by
  obtain ⟨hk, hcs⟩ := e
  refine we_bin ?_
  refine we_bin ?_
  refine we_list ?_
  refine wl_cons ?_
  refine we_bin ?_
  refine we_bin ?_
  refine we_int ?_
  refine we_sub ?_
  refine we_name (by rfl) ?_
  refine we_int ?_
  refine ⟨.int (on.headD 0), lg_list eo (by decide) (by decide) (headD_some hl1), ?_⟩
  refine lb_mul_int (by decide) ?_
  refine we_int ?_
  refine lb_sub_int ?_
  refine wl_nil ?_
  refine ⟨by simp, fun c1 hc1 => ?_⟩
  have eo1 := upd_old (o' := .lst [.int (10 * on.headD 0 - 10)]) eo hc1
  refine we_compb hcs [("ons", L + 1 + 1)] [("ons", .loc o)] (List.range (on.length - 1)) (fun k => .int (1 + (k : Int))) unK1 unK1_pv (fun k => [.int (5 * (on.getD k 0 + on.getD (k + 1) 0))]) (by rfl) (by rfl) (by rfl) (SubL.cons (by first | exact .head _ | exact .tail _ (.head _) | exact .tail _ (.tail _ (.head _)) | exact .tail _ (.tail _ (.tail _ (.head _))) | exact .tail _ (.tail _ (.tail _ (.tail _ (.head _))))) (SubL.nil)) (show List.Nodup (["ons"] : List Str) from by decide) (fun C => .cons (by rfl) (.inl ((hk _).trans rfl)) (by rfl) (by rw [hcs]; rfl) (by rfl) (.nil)) ?_
  have hfm : (List.range (on.length - 1)).flatMap (fun k => [PV.int (5 * (on.getD k 0 + on.getD (k + 1) 0))]) = ((List.range (on.length - 1)).map fun k => 5 * (on.getD k 0 + on.getD (k + 1) 0)).map PV.int := by
    rw [List.map_map, List.map_eq_flatMap]; rfl
  refine wi_range (gname c.trange ((hk _).trans rfl)) ?_
  refine wl_cons ?_
  refine we_int ?_
  refine wl_cons ?_
  refine we_call (gname c.tlen ((hk _).trans rfl)) ?_
  refine wl_cons ?_
  refine we_name (by rfl) ?_
  refine wl_nil ?_
  refine lcall_fn (lf_len_list eo1 (by simp; (first | lia | omega)) ?_)
  refine wl_nil ?_
  refine ⟨1, (on.map PV.int).length, .inr rfl, by decide, by simp; (first | lia | omega), itm_range (by simp; (first | lia | omega)), by rw [hfm]; simp; (first | lia | omega), ?_, ?_⟩
  · intro C D hD k hk'
    have hk2 := List.mem_range.mp hk'
    refine clause_name (onlyLoc _) (storL (compKind rfl (by decide))) (by repeat (first | exact Sub.nil _ | refine Sub.cons (by rfl) ?_)) ?_
    refine jel_emit (onlyLoc _) hD rfl ?_
    refine we_bin ?_
    refine we_int ?_
    refine we_bin ?_
    refine we_sub ?_
    refine we_name (by rfl) ?_
    refine we_bin ?_
    refine we_name (by rfl) ?_
    refine we_int ?_
    refine lb_sub_int ?_
    refine ⟨.int (on.getD k 0), lg_list eo1 (by (first | lia | omega)) (by (first | lia | omega)) ?_, ?_⟩
    · rw [show ((1 + (k : Int) - 1).toNat) = k by (first | lia | omega)]; exact getD_some (by (first | lia | omega))
    refine we_sub ?_
    refine we_name (by rfl) ?_
    refine we_name (by rfl) ?_
    refine ⟨.int (on.getD (k + 1) 0), lg_list eo1 (by (first | lia | omega)) (by (first | lia | omega)) ?_, ?_⟩
    · rw [show ((1 + (k : Int)).toNat) = k + 1 by (first | lia | omega)]; exact getD_some (by (first | lia | omega))
    refine lb_add_int ?_
    refine lb_mul_int (by decide) ?_
    exact ⟨rfl, rfl⟩
  · intro D hD
    rw [hfm]
    refine lb_add_list (upd_old (upd_same _ _ _) hD) (upd_same _ _ _) (by simp; (first | lia | omega)) fun c2 hc2 => ?_
    have eo2 := upd_old (o' := .lst (((List.range (on.length - 1)).map fun k => 5 * (on.getD k 0 + on.getD (k + 1) 0)).map PV.int)) eo1 hD
    have eo3 := upd_old (o' := .lst ([.int (10 * on.headD 0 - 10)] ++ ((List.range (on.length - 1)).map fun k => 5 * (on.getD k 0 + on.getD (k + 1) 0)).map PV.int)) eo2 hc2
    refine we_list ?_
    refine wl_cons ?_
    refine we_bin ?_
    refine we_bin ?_
    refine we_int ?_
    refine we_sub ?_
    refine we_name (by rfl) ?_
    refine we_neg ?_
    refine we_int ?_
    refine ⟨1, rfl, ?_⟩
    refine ⟨.int (on.getD (on.length - 1) 0), lg_list_last eo3 (by rw [List.length_map]; exact getD_some (by (first | lia | omega))), ?_⟩
    refine lb_mul_int (by decide) ?_
    refine we_int ?_
    refine lb_add_int ?_
    refine wl_nil ?_
    refine ⟨by simp, fun c3 hc3 => ?_⟩
    refine lb_add_list (upd_old (upd_same _ _ _) hc3) (upd_same _ _ _) (by simp; (first | lia | omega)) fun c4 hc4 => ?_
    refine q _ _ ((((Less.upd_free hc1).free hD).free hc2).free hc3 |>.free hc4) ?_
    rw [upd_same]
    unfold placesOf
    simp
end
end Mine
end

section
namespace Mine

noncomputable def pvS (l : List Int) : PV := .tup (l.map .int)
theorem map_int_inj : ∀ {a b : List Int}, a.map PV.int = b.map PV.int → a = b
  | [], [], _ => rfl
  | x :: a, y :: b, h => by
    simp only [List.map_cons, List.cons.injEq, PV.int.injEq] at h
    rw [h.1, map_int_inj h.2]
  | [], _ :: _, h => by simp at h
  | _ :: _, [], h => by simp at h
theorem pvS_inj (a b : List Int) (h : pvS a = pvS b) : a = b := by
  unfold pvS at h
  injection h with h
  exact map_int_inj h
theorem allInt : ∀ l : List Int, AllTy .int (l.map PV.int)
  | [] => trivial
  | x :: l => ⟨trivial, allInt l⟩
theorem hshInt : ∀ l : List Int, Hshs 2 (l.map PV.int)
  | [] => trivial
  | x :: l => ⟨trivial, hshInt l⟩
/-- the store within the loops -/
structure SI (σ σ' : Store) (p d : Addr) (pl : List Int) (done : List (List Int)) : Prop where
  less : Less σ σ'
  places : σ' p = some (.lst (pl.map .int))
  tab : ∃ es, σ' d = some (.dt (.seq .int) es) ∧ es.map (·.1) = (dedup done).map pvS
  ne : p ≠ d
  free : σ d = none
theorem SI.upd {σ σ' : Store} {p d c : Addr} {pl : List Int} {done : List (List Int)} {o : MObj} (s : SI σ σ' p d pl done) (h : σ' c = none) : SI σ (Mine.upd σ' c o) p d pl done := by
  obtain ⟨es, e1, e2⟩ := s.tab
  exact ⟨s.less.free h, upd_old s.places h, ⟨es, upd_old e1 h, e2⟩, s.ne, s.free⟩
noncomputable def signRow (ls : List Ln) (on : Int) : List (List Int) := (sampOf (highsOf ls on)).map fun high => signOf ls on high
theorem highsOf_len (ls : List Ln) (on : Int) : (highsOf ls on).length = ls.length := by
  have := (sortT_perm (lt := ltI) (ls.map fun l => l.1 * on + 120 * l.2)).length_eq
  unfold highsOf; simpa using this
theorem sampOf_eq (hs : List Int) : sampOf hs = [hs.headD 0 - 1] ++ (List.range hs.length).map fun k => hs.getD k 0 + 1 := by
  unfold sampOf
  congr 1
  refine List.ext_getElem (by simp) fun i h1 h2 => ?_
  simp at h1
  simp [h1]
theorem dedup_snoc {α : Type} [DecidableEq α] (l : List α) (x : α) : dedup (l ++ [x]) = dedupStep (dedup l) x := by unfold dedup; rw [List.foldl_append]; rfl
theorem flatMap_take {α β : Type} {f : α → List β} {l : List α} {i : Nat} {x : α} (h : l[i]? = some x) : (l.take (i + 1)).flatMap f = (l.take i).flatMap f ++ f x := by
  rw [List.take_add_one, h, List.flatMap_append]; simp
theorem map_take {α β : Type} {f : α → β} {l : List α} {i : Nat} {x : α} (h : l[i]? = some x) : (l.take (i + 1)).map f = (l.take i).map f ++ [f x] := by
  rw [List.take_add_one, h, List.map_append]; rfl

section
variable {prog : Program} {w : World} {h₀ : Heap} {n : Nat} {ρ : Loc} {σ : Store} {Q : PV → Store → Prop}
theorem signs_spec {fa sa : Addr} {fd sfd : FuncData} (c : SignsCtx h₀ fa fd sa sfd) {l : Addr} {ls : List Ln} (el : σ l = some (.lst (ls.map pvL))) (hf : Fit ls) (hne : 1 ≤ ls.length)
    (q : Q (.int (signsOf ls).length) σ) : LCall prog w h₀ (n + 2) (.ref fa) [] [.loc l] σ Q := by
  have hn : fd.scope.names = (scopeAt Challenge.pw_ho0003_02 9).names := by rw [c.hs]
  refine lcall_def c.f (c.bind l) (by show List.Nodup [("lines" : Str)]; decide) (fun k => by rw [hn]; exact (show List.Nodup [("high" : Str), "highs", "on", "ons", "lines"] from by decide)) (fun p hp => ?_) fun L => ?_
  · rw [hn]
    refine .inr ?_
    simp only [List.mem_cons, List.not_mem_nil, or_false] at hp
    subst hp
    exact ⟨rfl, fun k => rfl⟩
  generalize hE : callEnvC fd L fa = env
  have e : SignsEnv env L := by
    refine ⟨fun y => by rw [← hE]; show fd.scope.names.lookup y = _; rw [hn], ?_⟩
    rw [← hE]; show cellsFrom (L + 1) fd.scope.names [] = _; rw [hn]; rfl
  obtain ⟨hk, hcs⟩ := id e
  have st : ∀ y, (scopeAt Challenge.pw_ho0003_02 9).names.lookup y = some .local → Stor env y := fun y h => .inl ((hk y).trans h)
  have stc : ∀ y, (scopeAt Challenge.pw_ho0003_02 9).names.lookup y = some .cell → (∃ k, env.cells.lookup y = some k) → Stor env y := fun y h hc => .inr ⟨(hk y).trans h, hc⟩
  refine ws_drop (Q := fun f ρ' σ' => Less σ σ' ∧ f = .ret (.int (signsOf ls).length)) ?_ (fun f ρ' σ' ⟨h1, h2⟩ => ⟨σ, h1, by subst h2; exact q⟩)
  refine ws_abs fun Q0 q0 => ?_
  refine ws_cons ?_
  refine ws_assign (stc _ rfl ⟨_, by rw [hcs]; rfl⟩) (signs_ons c e (pos := default) (s1 := []) (s2 := []) el hf fun σ1 o l1 eo => ?_)
  have ol := onsOf_len hf.1
  refine ws_cons ?_
  refine ws_assign (st _ rfl) (signs_places c e (pos := default) eo ol.1 (by (first | lia | omega)) fun σ2 p l2 ep => ?_)
  have hpl : (placesOf (onsOf ls)).length ≤ 27 := by unfold placesOf; simp; (first | lia | omega)
  have l12 := l1.trans l2
  clear l1 l2
  unfold signsOf signsAll at q0
  generalize hPL : placesOf (onsOf ls) = pl at *
  refine ws_cons ?_
  refine ws_assign (st _ rfl) ?_
  refine we_dict0_dt (.seq .int) c.big fun d hd => ?_
  have si0 : SI σ (upd σ2 d (.dt (.seq .int) [])) p d pl [] := ⟨l12.free hd, upd_old ep hd, ⟨[], upd_same _ _ _, rfl⟩, fun e => (by rw [e, hd] at ep; cases ep), none_of_less l12 hd⟩
  generalize upd σ2 d (.dt (.seq .int) []) = σ3 at si0
  refine ws_norm [("found", .loc d), ("places", .loc p), ("lines", .loc l)] (by repeat (first | exact Sub.nil _ | refine Sub.cons (by rfl) ?_)) ?_
  refine ws_cons (ws_for (wi_list (we_name (by rfl) ⟨p, _, rfl, si0.places, ?_⟩)))
  refine ⟨fun j ρ' σ' => j ≤ pl.length ∧ ρ' = ([("found", .loc d), ("places", .loc p), ("lines", .loc l)] : Loc) ∧ SI σ σ' p d pl ((pl.take j).flatMap (signRow ls)), pl.length, ⟨Nat.zero_le _, rfl, by simpa using si0⟩, ?_⟩
  rintro j ρ' σ' ⟨hj, rfl, si⟩
  refine ⟨⟨_, si.places⟩, ?_⟩
  rw [elemL_of si.places, List.getElem?_map]
  have hrow : ∀ on ∈ pl, (signRow ls on).length ≤ 6 := fun on _ => by
    have := highsOf_len ls on
    have := hf.1
    unfold signRow sampOf
    simp only [List.length_map, List.length_append, List.length_singleton]
    (first | lia | omega)
  have hdone : ((pl.take j).flatMap (signRow ls)).length ≤ 200 := by
    have := flatMap_len (l := pl.take j) (f := signRow ls) (m := 6) fun a ha => hrow a (List.mem_of_mem_take ha)
    have := List.length_take_le j pl
    (first | lia | omega)
  cases he : pl[j]? with
  | none =>
    have e : pl.take j = pl := List.take_of_length_le (List.getElem?_eq_none_iff.mp he)
    rw [e] at si hdone
    obtain ⟨es, ed, ek⟩ := si.tab
    have hes : es.length = (dedup (pl.flatMap (signRow ls))).length := by have := congrArg List.length ek; simpa using this
    have hdd := dedup_length (pl.flatMap (signRow ls))
    simp only [Option.map_none]
    refine ws_cons ?_
    refine ws_return ?_
    refine we_call (gname c.tlen ((hk _).trans rfl)) ?_
    refine wl_cons ?_
    refine we_name (by rfl) ?_
    refine wl_nil ?_
    refine lcall_fn (lf_len_dt ed (by (first | lia | omega)) ?_)
    exact q0 _ _ _ ⟨si.less, by rw [hes]; rfl⟩
  | some on =>
    have hlt := (List.getElem?_eq_some_iff.mp he).1
    simp only [Option.map_some]
    refine ⟨hlt, wt_name (ownMod _) (stc _ rfl ⟨_, by rw [hcs]; rfl⟩).own (ws_abs fun Q1 q1 => ?_)⟩
    have el' := si.less.lst el
    refine ws_cons ?_
    refine ws_assign (stc _ rfl ⟨_, by rw [hcs]; rfl⟩) ?_
    refine we_call (gname c.tsorted ((hk _).trans rfl)) ?_
    refine wl_cons ?_
    refine we_compb hcs [("on", L + 1 + 1 + 1)] [("on", .int on)] ls pvL unL unL_pv (fun q => [.int (q.1 * on + 120 * q.2)]) (by rfl) (by rfl) (by rfl) (SubL.cons (by first | exact .head _ | exact .tail _ (.head _) | exact .tail _ (.tail _ (.head _)) | exact .tail _ (.tail _ (.tail _ (.head _))) | exact .tail _ (.tail _ (.tail _ (.tail _ (.head _))))) (SubL.nil)) (show List.Nodup (["on"] : List Str) from by decide) (fun C => .cons (by rfl) (.inl ((hk _).trans rfl)) (by rfl) (by rw [hcs]; rfl) (by rfl) (.nil)) ?_
    have hfm : ls.flatMap (fun q : Ln => [PV.int (q.1 * on + 120 * q.2)]) = (ls.map fun q : Ln => q.1 * on + 120 * q.2).map PV.int := by
      rw [List.map_map, List.map_eq_flatMap]; rfl
    have hf1 := hf.1
    refine wi_list ?_
    refine we_name (by rfl) ?_
    refine ⟨l, ls.map pvL, rfl, el', itm_list el', by rw [hfm]; simp; (first | lia | omega), ?_, ?_⟩
    · intro C D hD a ha
      obtain ⟨f1, f2, f3, f4⟩ := hf.2 a ha
      refine clause_pair (onlyLoc _) (storL (compKind rfl (by decide))) (storL (compKind rfl (by decide))) (by repeat (first | exact Sub.nil _ | refine Sub.cons (by rfl) ?_)) ?_
      refine jel_emit (onlyLoc _) hD rfl ?_
      refine we_bin ?_
      refine we_bin ?_
      refine we_name (by rfl) ?_
      refine we_name (by rfl) ?_
      refine lb_mul_int (by (first | lia | omega)) ?_
      refine we_bin ?_
      refine we_int ?_
      refine we_name (by rfl) ?_
      refine lb_mul_int (by decide) ?_
      refine lb_add_int ?_
      exact ⟨rfl, rfl⟩
    intro D hD
    rw [hfm]
    have si1 := si.upd (o := .lst ((ls.map fun q : Ln => q.1 * on + 120 * q.2).map PV.int)) hD
    refine wl_nil ?_
    refine lcall_fn (lf_sorted .int rfl (by decide) (collects_list (upd_same _ _ _) (by simp; (first | lia | omega))) (fun y hy => ?_) (by simp; (first | lia | omega)) fun ys hsort c5 hc5 => ?_)
    · obtain ⟨x, _, rfl⟩ := List.mem_map.mp hy; exact trivial
    have e5 := sortOf_eq (f := PV.int) (lt := ltI) (T := .int) rfl (fun _ _ => trivial) ltI_pv ltI_tr ltI_asy ltI_tot hsort
    subst e5
    have si2 := si1.upd (o := .lst ((sortT ltI (ls.map fun q : Ln => q.1 * on + 120 * q.2)).map PV.int)) hc5
    have eh : (upd (upd σ' D (.lst ((ls.map fun q : Ln => q.1 * on + 120 * q.2).map PV.int))) c5 (.lst ((sortT ltI (ls.map fun q : Ln => q.1 * on + 120 * q.2)).map PV.int))) c5 = some (.lst ((highsOf ls on).map PV.int)) := upd_same _ _ _
    have hhl := highsOf_len ls on
    generalize upd (upd σ' D (.lst ((ls.map fun q : Ln => q.1 * on + 120 * q.2).map PV.int))) c5 (.lst ((sortT ltI (ls.map fun q : Ln => q.1 * on + 120 * q.2)).map PV.int)) = σ4 at *
    clear si1
    have hsamp : sampOf (highsOf ls on) = [(highsOf ls on).headD 0 - 1] ++ (List.range (highsOf ls on).length).map fun k => (highsOf ls on).getD k 0 + 1 := sampOf_eq _
    have hrowe : signRow ls on = (sampOf (highsOf ls on)).map fun high => signOf ls on high := rfl
    have hsl : (sampOf (highsOf ls on)).length ≤ 6 := by rw [hsamp]; simp; (first | lia | omega)
    generalize highsOf ls on = hs at *
    refine ws_norm [("highs", .loc c5), ("on", .int on), ("found", .loc d), ("places", .loc p), ("lines", .loc l)] (by repeat (first | exact Sub.nil _ | refine Sub.cons (by rfl) ?_)) ?_
    refine ws_cons (ws_for ?_)
    refine wi_list ?_
    refine we_bin ?_
    refine we_list ?_
    refine wl_cons ?_
    refine we_bin ?_
    refine we_sub ?_
    refine we_name (by rfl) ?_
    refine we_int ?_
    refine ⟨.int (hs.headD 0), lg_list eh (by decide) (by decide) (headD_some (by (first | lia | omega))), ?_⟩
    refine we_int ?_
    refine lb_sub_int ?_
    refine wl_nil ?_
    refine ⟨by simp, fun c1 hc1 => ?_⟩
    have eh1 := upd_old (o' := .lst [.int (hs.headD 0 - 1)]) eh hc1
    have si3 := si2.upd (o := .lst [.int (hs.headD 0 - 1)]) hc1
    refine we_compb hcs [("highs", L + 1 + 1 + 1 + 1)] [("highs", .loc c5)] (List.range hs.length) (fun k => .int (1 + (k : Int))) unK1 unK1_pv (fun k => [.int (hs.getD k 0 + 1)]) (by rfl) (by rfl) (by rfl) (SubL.cons (by first | exact .head _ | exact .tail _ (.head _) | exact .tail _ (.tail _ (.head _)) | exact .tail _ (.tail _ (.tail _ (.head _))) | exact .tail _ (.tail _ (.tail _ (.tail _ (.head _))))) (SubL.nil)) (show List.Nodup (["highs"] : List Str) from by decide) (fun C => .cons (by rfl) (.inl ((hk _).trans rfl)) (by rfl) (by rw [hcs]; rfl) (by rfl) (.nil)) ?_
    have hfm2 : (List.range hs.length).flatMap (fun k => [PV.int (hs.getD k 0 + 1)]) = ((List.range hs.length).map fun k => hs.getD k 0 + 1).map PV.int := by
      rw [List.map_map, List.map_eq_flatMap]; rfl
    refine wi_range (gname c.trange ((hk _).trans rfl)) ?_
    refine wl_cons ?_
    refine we_int ?_
    refine wl_cons ?_
    refine we_bin ?_
    refine we_call (gname c.tlen ((hk _).trans rfl)) ?_
    refine wl_cons ?_
    refine we_name (by rfl) ?_
    refine wl_nil ?_
    refine lcall_fn (lf_len_list eh1 (by simp; (first | lia | omega)) ?_)
    refine we_int ?_
    refine lb_add_int ?_
    refine wl_nil ?_
    refine ⟨1, (hs.map PV.int).length + 1, .inr rfl, by decide, by simp; (first | lia | omega), itm_range (by simp <;> (first | lia | omega)), by rw [hfm2]; simp; (first | lia | omega), ?_, ?_⟩
    · intro C D hD k hk'
      have hk2 := List.mem_range.mp hk'
      refine clause_name (onlyLoc _) (storL (compKind rfl (by decide))) (by repeat (first | exact Sub.nil _ | refine Sub.cons (by rfl) ?_)) ?_
      refine jel_emit (onlyLoc _) hD rfl ?_
      refine we_bin ?_
      refine we_sub ?_
      refine we_name (by rfl) ?_
      refine we_bin ?_
      refine we_name (by rfl) ?_
      refine we_int ?_
      refine lb_sub_int ?_
      refine ⟨.int (hs.getD k 0), lg_list eh1 (by (first | lia | omega)) (by (first | lia | omega)) ?_, ?_⟩
      · rw [show ((1 + (k : Int) - 1).toNat) = k by (first | lia | omega)]; exact getD_some (by (first | lia | omega))
      refine we_int ?_
      refine lb_add_int ?_
      exact ⟨rfl, rfl⟩
    intro D hD
    rw [hfm2]
    have si4 := si3.upd (o := .lst (((List.range hs.length).map fun k => hs.getD k 0 + 1).map PV.int)) hD
    refine lb_add_list (upd_old (upd_same _ _ _) hD) (upd_same _ _ _) (by simp; (first | lia | omega)) fun c2 hc2 => ?_
    have elist : [PV.int (hs.headD 0 - 1)] ++ ((List.range hs.length).map fun k => hs.getD k 0 + 1).map PV.int = (sampOf hs).map PV.int := by rw [hsamp]; simp
    rw [elist]
    have si5 := si4.upd (o := .lst ((sampOf hs).map PV.int)) hc2
    have es0 : (upd (upd (upd σ4 c1 (.lst [.int (hs.headD 0 - 1)])) D (.lst (((List.range hs.length).map fun k => hs.getD k 0 + 1).map PV.int))) c2 (.lst ((sampOf hs).map PV.int))) c2 = some (.lst ((sampOf hs).map PV.int)) := upd_same _ _ _
    have hcd : c2 ≠ d := fun e => by
      obtain ⟨es, ed, _⟩ := si4.tab
      rw [e, ed] at hc2; cases hc2
    generalize upd (upd (upd σ4 c1 (.lst [.int (hs.headD 0 - 1)])) D (.lst (((List.range hs.length).map fun k => hs.getD k 0 + 1).map PV.int))) c2 (.lst ((sampOf hs).map PV.int)) = σ5 at *
    generalize hsm : sampOf hs = sm at *
    refine ⟨c2, _, rfl, es0, ?_⟩
    refine ⟨fun m ρ' σ' => m ≤ sm.length ∧ ρ' = ([("highs", .loc c5), ("on", .int on), ("found", .loc d), ("places", .loc p), ("lines", .loc l)] : Loc) ∧ σ' c2 = some (.lst (sm.map PV.int)) ∧
      SI σ σ' p d pl ((pl.take j).flatMap (signRow ls) ++ (sm.take m).map fun high => signOf ls on high), sm.length, ⟨Nat.zero_le _, rfl, es0, by simpa using si5⟩, ?_⟩
    rintro m ρ' σ6 ⟨hm, rfl, es6, si6⟩
    refine ⟨⟨_, es6⟩, ?_⟩
    rw [elemL_of es6, List.getElem?_map]
    cases hem : sm[m]? with
    | none =>
      have e : sm.take m = sm := List.take_of_length_le (List.getElem?_eq_none_iff.mp hem)
      rw [e, ← hrowe] at si6
      simp only [Option.map_none]
      refine ws_nil (q1 _ _ _ ⟨_, ?_, hlt, rfl, ?_⟩)
      · repeat (first | exact Sub.nil _ | refine Sub.cons (by rfl) ?_)
      · rw [flatMap_take he]; exact si6
    | some high =>
      have hlt2 := (List.getElem?_eq_some_iff.mp hem).1
      simp only [Option.map_some]
      refine ⟨hlt2, wt_name (ownMod _) (stc _ rfl ⟨_, by rw [hcs]; rfl⟩).own (ws_abs fun Q2 q2 => ?_)⟩
      have el6 := si6.less.lst el
      refine ws_cons ?_
      refine ws_set ?_
      refine we_int ?_
      refine we_name (by rfl) ?_
      refine we_call (gname c.ttuple ((hk _).trans rfl)) ?_
      refine wl_cons ?_
      refine we_compb hcs [("on", L + 1 + 1 + 1), ("high", L + 1 + 1 + 1 + 1 + 1)] [("on", .int on), ("high", .int high)] ls pvL unL unL_pv (fun q => [.int (if q.1 * on + 120 * q.2 < high then 1 else 0)]) (by rfl) (by rfl) (by rfl) (SubL.cons (by first | exact .head _ | exact .tail _ (.head _) | exact .tail _ (.tail _ (.head _)) | exact .tail _ (.tail _ (.tail _ (.head _))) | exact .tail _ (.tail _ (.tail _ (.tail _ (.head _))))) (SubL.cons (by first | exact .head _ | exact .tail _ (.head _) | exact .tail _ (.tail _ (.head _)) | exact .tail _ (.tail _ (.tail _ (.head _))) | exact .tail _ (.tail _ (.tail _ (.tail _ (.head _))))) (SubL.nil))) (show List.Nodup (["on", "high"] : List Str) from by decide) (fun C => .cons (by rfl) (.inl ((hk _).trans rfl)) (by rfl) (by rw [hcs]; rfl) (by rfl) (.cons (by rfl) (.inl ((hk _).trans rfl)) (by rfl) (by rw [hcs]; rfl) (by rfl) (.nil))) ?_
      have hfm3 : ls.flatMap (fun q : Ln => [PV.int (if q.1 * on + 120 * q.2 < high then 1 else 0)]) = (signOf ls on high).map PV.int := by
        unfold signOf
        rw [List.map_map, List.map_eq_flatMap]; rfl
      refine wi_list ?_
      refine we_name (by rfl) ?_
      refine ⟨l, ls.map pvL, rfl, el6, itm_list el6, by rw [hfm3]; simp [signOf]; (first | lia | omega), ?_, ?_⟩
      · intro C D hD a ha
        obtain ⟨f1, f2, f3, f4⟩ := hf.2 a ha
        refine clause_pair (onlyLoc _) (storL (compKind rfl (by decide))) (storL (compKind rfl (by decide))) (by repeat (first | exact Sub.nil _ | refine Sub.cons (by rfl) ?_)) ?_
        refine jel_emit (onlyLoc _) hD rfl ?_
        refine we_call (gname c.tint (compKind rfl (by decide))) ?_
        refine wl_cons ?_
        refine we_cmp ?_
        refine we_name (by rfl) ?_
        refine we_bin ?_
        refine we_bin ?_
        refine we_name (by rfl) ?_
        refine we_name (by rfl) ?_
        refine lb_mul_int (by (first | lia | omega)) ?_
        refine we_bin ?_
        refine we_int ?_
        refine we_name (by rfl) ?_
        refine lb_mul_int (by decide) ?_
        refine lb_add_int ?_
        refine ⟨_, lc_gt, ?_⟩
        refine wl_nil ?_
        refine lcall_type (lf_int_bool ?_)
        exact ⟨rfl, by simp⟩
      intro D6 hD6
      rw [hfm3]
      have hsg : ((signOf ls on high).map PV.int).length ≤ 1000000 := by simp [signOf]; (first | lia | omega)
      refine wl_nil ?_
      refine lcall_type (lf_tuple (upd_same _ _ _) hsg ?_)
      have si7 := si6.upd (o := .lst ((signOf ls on high).map PV.int)) hD6
      have es7 := upd_old (o' := .lst ((signOf ls on high).map PV.int)) es6 hD6
      obtain ⟨es, ed, ek⟩ := si7.tab
      have hel : es.length ≤ 300 := by
        have h1 := congrArg List.length ek
        simp only [List.length_map] at h1
        have h2 := dedup_length ((pl.take j).flatMap (signRow ls) ++ (sm.take m).map fun high => signOf ls on high)
        have h3 := List.length_take_le m sm
        rw [List.length_append, List.length_map] at h2
        (first | lia | omega)
      refine ls_dt ed (allInt _) (hshInt _) (by (first | lia | omega)) ?_
      refine ws_nil (q2 _ _ _ ⟨_, ?_, hlt2, rfl, ?_, ?_⟩)
      · repeat (first | exact Sub.nil _ | refine Sub.cons (by rfl) ?_)
      · rw [upd_ne _ _ hcd]; exact es7
      · rw [map_take hem, ← List.append_assoc]
        refine ⟨fun a o ea => ?_, by rw [upd_ne _ _ si7.ne]; exact si7.places, ⟨_, upd_same _ _ _, ?_⟩, si7.ne, si7.free⟩
        · rw [upd_ne _ _ (fun q => by rw [q, si7.free] at ea; cases ea)]; exact si7.less a o ea
        · have hp : (dset es (.tup ((signOf ls on high).map PV.int)) (.int 1)).map (·.1) = (dedupStep (dedup ((pl.take j).flatMap (signRow ls) ++ (sm.take m).map fun high => signOf ls on high)) (signOf ls on high)).map pvS :=
            dsets_keys pvS_inj [(.tup ((signOf ls on high).map PV.int), .int 1)] [signOf ls on high] _ es rfl ek
          rw [hp, dedup_snoc]
end
end Mine
end

section
namespace Mine

noncomputable def TL : Ty := .tup [.int, .int]
theorem pvL_ty (s : Int × Int) : HasTy TL (pvL s) ∧ Hsh 3 (pvL s) := ⟨⟨trivial, trivial, trivial⟩, ⟨trivial, trivial, trivial⟩⟩
theorem pvL_all (l : List (Int × Int)) : ∀ x ∈ l.map pvL, HasTy TL x := fun x hx => by obtain ⟨s, _, rfl⟩ := List.mem_map.mp hx; exact (pvL_ty s).1
theorem pvL_deeps : ∀ l : List (Int × Int), PV.deeps (l.map pvL) ≤ 50
  | [] => by simp [PV.deeps]
  | x :: l => by have := pvL_deeps l; simp [PV.deeps, PV.deep, pvL] at this ⊢; (first | lia | omega)
theorem pvL_sims : ∀ a b : List (Int × Int), Sims (a.map pvL) (b.map pvL)
  | [], _ => by simp [Sims]
  | _ :: _, [] => by simp [Sims]
  | x :: a, y :: b => ⟨HasTy.sim TL _ _ (pvL_ty x).1 (pvL_ty y).1, pvL_sims a b⟩
theorem sims_nil : ∀ xs : List PV, Sims xs []
  | [] => trivial
  | _ :: _ => trivial
theorem any_pvL (l : List (Int × Int)) (s : Int × Int) : ((l.map pvL).any (PV.beq · (pvL s))) = decide (s ∈ l) := by
  rw [Bool.eq_iff_iff, List.any_eq_true, decide_eq_true_iff]
  constructor
  · rintro ⟨x, hx, hb⟩
    obtain ⟨t, ht, rfl⟩ := List.mem_map.mp hx
    rw [← pvL_inj _ _ ((PV.beq_iff _ _).mp hb)]; exact ht
  · intro h; exact ⟨_, List.mem_map_of_mem h, (PV.beq_iff _ _).mpr rfl⟩
theorem swapped_none3 {x y z : Str} {p1 p2 p3 pos vpos : Pos} {k k' : Nat} {a b c : Expr} {env : Env} (h : env.kindOf x = some .cell) :
    swappedStores [.Tuple [.Name x p1, .Name y p2, .Name z p3] k pos] (.Tuple [a, b, c] k' vpos) env = pure none := by
  have hn : (env.kindOf x == some NameKind.local) = false := by rw [h]; rfl
  show ite _ (pure none) (ite _ (pure none) (ite _ (pure none) _)) = _
  split
  · rfl
  split
  · rfl
  rw [if_pos]
  have key : ∀ l : List Str, l.length ≤ 2 → (l.length != 3 || l.eraseDups.length != l.length) = true := fun l hl => by
    have : (l.length != 3) = true := bne_iff_ne.mpr (by (first | lia | omega))
    rw [this]; rfl
  refine key _ ?_
  rw [List.filterMap_cons_none]
  · exact List.length_filterMap_le ..
  · show (if (env.kindOf x == some NameKind.local && _) = true then _ else _) = none
    rw [hn]; rfl
theorem linesOf_snoc (l : List Int) (x : Int) : dedup ((l ++ [x]).map lineOf) = dedupStep (dedup (l.map lineOf)) (lineOf x) := by
  rw [List.map_append]; exact dedup_snoc _ _

section
variable {prog : Program} {w : World} {h₀ : Heap} {n : Nat} {ρ : Loc} {σ : Store}
/-- what the walk of law leans on -/
structure LawCtx (prog : Program) (w : World) (h₀ : Heap) (ga oa la ba ia aa ca : Addr) (gd od ld bd nd ad cd : FuncData) (a : Addr) (sc : List Int) : Prop where
  sg : SignsCtx h₀ ga gd oa od
  line : FnOk h₀ la ld (bodyAt Challenge.pw_ho0003_02 7)
  lineS : ld.scope = scopeAt Challenge.pw_ho0003_02 7
  lineB : ∀ x : Int, Binds h₀ ld [.int x] [("number", .int x)]
  tline : TopIs h₀ "_law_line" (.ref la)
  bis : FnOk h₀ ba bd (bodyAt Challenge.pw_ho0003_02 5)
  bisS : bd.scope = scopeAt Challenge.pw_ho0003_02 5
  bisB2 : ∀ a x, Binds h₀ bd [.loc a, x] [("a", .loc a), ("x", x), ("lo", .int 0), ("hi", .none), ("key", .none)]
  bisB4 : ∀ a x, Binds h₀ bd [.loc a, x, .int 0, .none] [("a", .loc a), ("x", x), ("lo", .int 0), ("hi", .none), ("key", .none)]
  tbis : TopIs h₀ "bisect_left" (.ref ba)
  ins : FnOk h₀ ia nd (bodyAt Challenge.pw_ho0003_02 4)
  insS : nd.scope = scopeAt Challenge.pw_ho0003_02 4
  insB : ∀ a x, Binds h₀ nd [.loc a, x] [("a", .loc a), ("x", x), ("lo", .int 0), ("hi", .none), ("key", .none)]
  tins : TopIs h₀ "insort_left" (.ref ia)
  add : FnOk h₀ aa ad (bodyAt Challenge.pw_ho0003_02 1)
  addS : ad.scope = scopeAt Challenge.pw_ho0003_02 1
  addB : ∀ a b : Addr, Binds h₀ ad [.loc a, .loc b] [("target", .loc a), ("source", .loc b)]
  tadd : TopIs h₀ "add_callers" (.ref aa)
  cnt : FnOk h₀ ca cd (bodyAt Challenge.pw_ho0003_02 2)
  cntS : cd.scope = scopeAt Challenge.pw_ho0003_02 2
  cntB : ∀ a : Addr, Binds h₀ cd [.loc a] [("callers", .loc a)]
  tcnt : TopIs h₀ "count_calls" (.ref ca)
  tsigns : TopIs h₀ "_law_signs" (.ref ga)
  tenum : TopIs h₀ "enumerate" (.type "enumerate")
  tsum : TopIs h₀ "sum" (.builtin "sum")
  tisi : TopIs h₀ "isinstance" (.builtin "isinstance")
  script : ∀ σ, ListAt prog w h₀ σ a (sc.map .int)
  scLen : sc.length ≤ 63
/-- the frame of law -/
structure LawEnv (env : Env) (c1 c2 : Addr) : Prop where
  hk : ∀ y, env.kindOf y = (scopeAt Challenge.pw_ho0003_02 10).names.lookup y
  hcs : env.cells = ([("spots", c2), ("line", c1)] : List (Str × Addr))
  hint : interactive env = false
noncomputable def lawBody : List Stmt := bodyAt Challenge.pw_ho0003_02 10

theorem law_lines {ga oa la ba ia aa ca : Addr} {gd od ld bd nd ad cd : FuncData} {a : Addr} {sc : List Int} (c : LawCtx prog w h₀ ga oa la ba ia aa ca gd od ld bd nd ad cd a sc) {env : Env} {c1 c2 : Addr} (e : LawEnv env c1 c2) {Q : PFlow → Loc → Store → Prop}
    (q : ∀ σ' lc, σ' lc = some (.lst ((linesOf sc).map pvL)) → WS prog w h₀ (n + 3) env (execs (lawBody.drop 2) env) [("lines", .loc lc)] σ' Q) :
    WS prog w h₀ (n + 3) env (execs lawBody env) [("script", .loc a)] σ Q := by
  obtain ⟨hk, hcs, hint⟩ := e
  have st : ∀ y, (scopeAt Challenge.pw_ho0003_02 10).names.lookup y = some .local → Stor env y := fun y h => .inl ((hk y).trans h)
  have stc : ∀ y, (scopeAt Challenge.pw_ho0003_02 10).names.lookup y = some .cell → (∃ k, env.cells.lookup y = some k) → Stor env y := fun y h hc => .inr ⟨(hk y).trans h, hc⟩
  have scl := c.scLen
  refine ws_cons ?_
  refine ws_assign (st _ rfl) ?_
  refine we_list ?_
  refine wl_nil ?_
  refine ⟨by simp, fun lc hlc => ?_⟩
  refine ws_cons ?_
  refine ws_for ?_
  refine wi_list ?_
  refine we_slice_upto ?_
  refine we_name (by rfl) ?_
  refine we_int ?_
  refine ⟨a, sc.map .int, 5, rfl, rfl, by decide, c.script _, by simp; (first | lia | omega), fun k hk' => ?_⟩
  have etk : (sc.map PV.int).take (5 : Int).toNat = (sc.take 5).map PV.int := by rw [List.map_take]; rfl
  rw [etk]
  refine ⟨k, _, rfl, upd_same _ _ _, ?_⟩
  unfold linesOf at q
  generalize sc.take 5 = tk at *
  have hkl : lc ≠ k := fun e => by rw [e] at hk'; rw [upd_same] at hk'; cases hk'
  refine ⟨fun j ρ' σ' => j ≤ tk.length ∧ ∃ lc, ρ' = ([("lines", .loc lc), ("script", .loc a)] : Loc) ∧ σ' k = some (.lst (tk.map PV.int)) ∧ σ' lc = some (.lst ((dedup ((tk.take j).map lineOf)).map pvL)), tk.length,
    ⟨Nat.zero_le _, lc, rfl, upd_same _ _ _, by rw [upd_ne _ _ hkl, upd_same]; rfl⟩, ?_⟩
  rintro j ρ' σ' ⟨hj, l1, rfl, ek, el⟩
  refine ⟨⟨_, ek⟩, ?_⟩
  rw [elemL_of ek, List.getElem?_map]
  cases he : tk[j]? with
  | none =>
    have e : tk.take j = tk := List.take_of_length_le (List.getElem?_eq_none_iff.mp he)
    rw [e] at el
    simp only [Option.map_none]
    exact ws_norm [("lines", .loc l1)] (by repeat (first | exact Sub.nil _ | refine Sub.cons (by rfl) ?_)) (q σ' l1 el)
  | some x =>
    have hlt := (List.getElem?_eq_some_iff.mp he).1
    simp only [Option.map_some]
    refine ⟨hlt, wt_name (ownMod _) (st _ rfl).own (ws_abs fun Q1 q1 => ?_)⟩
    have e2 : tk.take (j + 1) = tk.take j ++ [x] := by rw [List.take_add_one, he]; rfl
    have hlen : (dedup ((tk.take j).map lineOf)).length ≤ 1000 := by
      have := dedup_length ((tk.take j).map lineOf)
      have h2 : tk.length ≤ 63 := by
        have := congrArg List.length etk
        simp at this; (first | lia | omega)
      simp only [List.length_map, List.length_take] at this; (first | lia | omega)
    refine ws_cons ?_
    refine ws_assign (stc _ rfl ⟨_, by rw [hcs]; rfl⟩) ?_
    refine we_call (gname c.tline ((hk _).trans rfl)) ?_
    refine wl_cons ?_
    refine we_name (by rfl) ?_
    refine wl_nil ?_
    refine line_spec c.line c.lineS (c.lineB x) ?_
    refine ws_cons ?_
    refine ws_assign (st _ rfl) ?_
    refine we_bin ?_
    refine we_name (by rfl) ?_
    refine we_if ?_
    refine wt_cmp ?_
    refine we_name (by rfl) ?_
    refine we_name (by rfl) ?_
    refine ⟨_, lc_notin_list TL el (pvL_all _) (pvL_ty _).1 (by decide), ?_⟩
    rw [any_pvL]
    by_cases hm : lineOf x ∈ dedup ((tk.take j).map lineOf)
    · simp only [hm, decide_true, Bool.not_true, Bool.false_eq_true, if_false]
      refine we_list ?_
      refine wl_nil ?_
      refine ⟨by simp, fun c3 hc3 => ?_⟩
      refine lb_add_list (upd_old el hc3) (upd_same _ _ _) (by simp only [List.length_map, List.length_cons, List.length_nil]; (first | lia | omega)) fun c4 hc4 => ?_
      refine ws_nil (q1 _ _ _ ⟨_, ?_, hlt, c4, rfl, upd_old (upd_old ek hc3) hc4, ?_⟩)
      · repeat (first | exact Sub.nil _ | refine Sub.cons (by rfl) ?_)
      · rw [upd_same, e2, linesOf_snoc]
        unfold dedupStep
        rw [if_pos hm]; simp
    · simp only [hm, decide_false, Bool.not_false, if_true]
      refine we_list ?_
      refine wl_cons ?_
      refine we_name (by rfl) ?_
      refine wl_nil ?_
      refine ⟨by simp, fun c3 hc3 => ?_⟩
      refine lb_add_list (upd_old el hc3) (upd_same _ _ _) (by simp only [List.length_map, List.length_cons, List.length_nil]; (first | lia | omega)) fun c4 hc4 => ?_
      refine ws_nil (q1 _ _ _ ⟨_, ?_, hlt, c4, rfl, upd_old (upd_old ek hc3) hc4, ?_⟩)
      · repeat (first | exact Sub.nil _ | refine Sub.cons (by rfl) ?_)
      · rw [upd_same, e2, linesOf_snoc]
        unfold dedupStep
        rw [if_neg hm]; simp
end
end Mine
end

section
namespace Mine

theorem spotsFold_snoc (S : List (Int × Int)) (m : List (Int × Int)) (s : Int × Int) : (m ++ [s]).foldl spotsStep S = spotsStep (m.foldl spotsStep S) s := by rw [List.foldl_append]; rfl
theorem take_snoc {α : Type} {l : List α} {i : Nat} {x : α} (h : l[i]? = some x) : l.take (i + 1) = l.take i ++ [x] := by rw [List.take_add_one, h]; rfl
theorem sorted_mono {S : List (Int × Int)} (h : S.Pairwise fun a b => ltP b a = false) {s : Int × Int} {i j : Nat} {y z : Int × Int} (hij : i ≤ j) (hy : S[i]? = some y) (hz : S[j]? = some z) (hl : ltP z s = true) : ltP y s = true := by
  rcases Nat.eq_or_lt_of_le hij with rfl | hlt
  · rw [hy] at hz; cases hz; exact hl
  · obtain ⟨hi, ei⟩ := List.getElem?_eq_some_iff.mp hy
    obtain ⟨hj, ej⟩ := List.getElem?_eq_some_iff.mp hz
    have := List.pairwise_iff_getElem.mp h i j hi hj hlt
    rw [ei, ej] at this
    cases hyz : ltP y z
    · rw [ltP_tot y z hyz this]; exact hl
    · exact ltP_tr _ _ _ hyz hl
theorem getMap {S : List (Int × Int)} {i : Nat} {y : PV} (h : (S.map pvL)[i]? = some y) : ∃ s, S[i]? = some s ∧ y = pvL s := by
  rw [List.getElem?_map] at h
  obtain ⟨s, hs, e⟩ := Option.map_eq_some_iff.mp h
  exact ⟨s, hs, e.symm⟩
/-- the store within the first loop -/
structure LI (σ' : Store) (lc sa ca : Addr) (ls : List Ln) (S : List (Int × Int)) : Prop where
  lines : σ' lc = some (.lst (ls.map pvL))
  spots : σ' sa = some (.lst (S.map pvL))
  calls : σ' ca = some (.dt TC [])
  ne1 : lc ≠ sa
  ne2 : ca ≠ sa
section
variable {prog : Program} {w : World} {h₀ : Heap} {n : Nat} {ρ : Loc} {σ : Store}
theorem bisect_at {ga oa la ba ia aa ca : Addr} {gd od ld bd nd ad cd : FuncData} {a : Addr} {sc : List Int} (c : LawCtx prog w h₀ ga oa la ba ia aa ca gd od ld bd nd ad cd a sc) {sa : Addr} {S : List (Int × Int)} (es : σ sa = some (.lst (S.map pvL)))
    (hS : S.Pairwise fun a b => ltP b a = false) (hl : S.length ≤ 1000) (s : Int × Int) (args : List PV) (hb : Binds h₀ bd args [("a", .loc sa), ("x", pvL s), ("lo", .int 0), ("hi", .none), ("key", .none)]) : BisectAt prog w h₀ (n + 1) σ ba sa (S.map pvL) (pvL s) args :=
  bisect_spec c.bis c.bisS c.sg.tlen es (by simp; (first | lia | omega)) hb TL (by decide) (pvL_all S) (fun y hy => HasTy.ord TL _ _ rfl (pvL_all S y hy) (pvL_ty s).1) fun i j y z hij hy hz hlt => by
    obtain ⟨y', hy', rfl⟩ := getMap hy
    obtain ⟨z', hz', rfl⟩ := getMap hz
    rw [ltP_pv] at *
    exact sorted_mono hS hij hy' hz' hlt
theorem met_spec {ga oa la ba ia aa ca : Addr} {gd od ld bd nd ad cd : FuncData} {a : Addr} {sc : List Int} (c : LawCtx prog w h₀ ga oa la ba ia aa ca gd od ld bd nd ad cd a sc) {env : Env} {c1 c2 : Addr} (e : LawEnv env c1 c2) {ls : List Ln} (hf : Fit ls)
    {lc : Addr} (el : σ lc = some (.lst (ls.map pvL))) {j : Nat} (hj : j < ls.length) {l : Ln} (hl : l ∈ ls) {ρ : Loc} (h1 : ρ.lookup ("line" : Str) = some (pvL l)) (h2 : ρ.lookup ("lines" : Str) = some (PV.loc lc)) (h3 : ρ.lookup ("k" : Str) = some (PV.int j)) {pos : Pos}
    {Q : PV → Store → Prop} (q : ∀ σ' m, (∀ a o, σ a = some o → σ' a = some o) → σ m = none → σ' m = some (.lst ((metOf (ls.take j) l).map pvL)) → Q (.loc m) σ') :
    WV prog w h₀ (n + 2) env [] (eval (match lawBody with | _ :: _ :: _ :: _ :: .For _ _ (.Assign _ v _ :: _) _ _ :: _ => v | _ => .Constant .none 0 pos) env) ρ σ Q := by
  obtain ⟨hk, hcs, hint⟩ := e
  have hf1 := hf.1
  refine we_call (gname c.sg.tsorted ((hk _).trans rfl)) ?_
  refine wl_cons ?_
  refine we_call (gname c.sg.tdict ((hk _).trans rfl)) ?_
  refine wl_cons ?_
  have hraw : ((ls.take j).flatMap fun q : Ln => if q.1 = l.1 then [] else [PV.tup [pvL (spotOf l q), .int 1]]) = (metRaw (ls.take j) l).map fun s => .tup [pvL s, .int 1] := by
    unfold metRaw
    rw [List.map_flatMap]
    congr 1; funext q
    split <;> rfl
  have hml := metRaw_length (ls.take j) l
  have htl := List.length_take_le j ls
  refine we_comp [("line", c1)] [("line", pvL l)] (ls.take j) pvL unL unL_pv (fun q => if q.1 = l.1 then [] else [.tup [pvL (spotOf l q), .int 1]]) ((closureFor_eq (by intro y hy hf; simp only [List.mem_cons, List.not_mem_nil, or_false] at hy; rcases hy with rfl | rfl | rfl | rfl <;> first | (cases hf; done) | (rw [hcs]; rfl))).trans (by rw [hcs]; rfl)) (by intro y hy; simp only [List.mem_cons, List.not_mem_nil, or_false] at hy; rcases hy with rfl | rfl | rfl | rfl <;> intro h <;> cases h) (by intro y hy; simp only [List.mem_cons, List.not_mem_nil, or_false] at hy; rcases hy with rfl | rfl | rfl | rfl <;> intro h <;> first | rfl | cases h) (by rw [hcs]; simp) (by simp) (fun C => .cons h1 (.inl ((hk _).trans rfl)) (by rfl) (by rw [hcs]; rfl) (by rfl) (.nil)) ?_
  refine wi_list ?_
  refine we_slice_upto ?_
  refine we_name h2 ?_
  refine we_name h3 ?_
  refine ⟨lc, ls.map pvL, j, rfl, rfl, by (first | lia | omega), ListAt.of el, by simp; (first | lia | omega), fun k hk' => ?_⟩
  have etk : (ls.map pvL).take (j : Int).toNat = (ls.take j).map pvL := by rw [List.map_take]; rfl
  rw [etk]
  refine ⟨k, _, rfl, upd_same _ _ _, itm_list (upd_same _ _ _), by rw [hraw]; simp; (first | lia | omega), ?_, ?_⟩
  · intro C D hD b hb
    have hbl := List.mem_of_mem_take hb
    refine clause_name (onlyLoc _) (storL (compKind rfl (by decide))) (by repeat (first | exact Sub.nil _ | refine Sub.cons (by rfl) ?_)) ?_
    refine jel_if (onlyLoc _) hD ?_
    refine wt_cmp ?_
    refine we_sub ?_
    refine we_name (by rfl) ?_
    refine we_int ?_
    refine ⟨.int b.1, lg_tup (by decide) (by decide) rfl, ?_⟩
    refine we_sub ?_
    refine we_name (by rfl) ?_
    refine we_int ?_
    refine ⟨.int l.1, lg_tup (by decide) (by decide) rfl, ?_⟩
    refine ⟨_, lc_ne, rfl, ?_⟩
    by_cases hpq : b.1 = l.1
    · simp [hpq]
    · simp only [hpq, decide_false, Bool.not_false, if_true, if_false]
      refine jel_emit (onlyLoc _) hD rfl ?_
      refine we_tup ?_
      refine wl_cons ?_
      refine we_call (gname c.sg.tspot (compKind rfl (by decide))) ?_
      refine wl_cons ?_
      refine we_name (by rfl) ?_
      refine wl_cons ?_
      refine we_name (by rfl) ?_
      refine wl_nil ?_
      refine spot_spec c.sg.fs c.sg.ss (c.sg.sbind l b) (Ne.symm hpq) ⟨(hf.2 l hl).1, (hf.2 l hl).2.1⟩ ⟨(hf.2 b hbl).1, (hf.2 b hbl).2.1⟩ ?_
      refine wl_cons ?_
      refine we_int ?_
      refine wl_nil ?_
      exact ⟨by simp, rfl, rfl⟩
  · intro D hD
    rw [hraw]
    refine wl_nil ?_
    have e3 : (metRaw (ls.take j) l).map (fun s => PV.tup [pvL s, .int 1]) = ((metRaw (ls.take j) l).map fun s => (pvL s, PV.int 1)).map fun (p : PV × PV) => PV.tup [p.1, p.2] := by simp
    refine lcall_type (lf_dict (.dt TL []) (.inr ⟨TL, rfl⟩) c.sg.big (ps := (metRaw (ls.take j) l).map fun s => (pvL s, PV.int 1)) (by rw [upd_same, e3]) (fun p hp => ?_) (by simp; (first | lia | omega)) fun c4 hc4 => ?_)
    · obtain ⟨x, _, rfl⟩ := List.mem_map.mp hp
      exact ⟨⟨_, rfl⟩, (pvL_ty x).1, (pvL_ty x).2⟩
    refine wl_nil ?_
    rw [dputs_dt] at *
    generalize hes : ((metRaw (ls.take j) l).map fun s => (pvL s, PV.int 1)).foldl (fun (o : List (PV × PV)) (p : PV × PV) => dset o p.1 p.2) [] = es at *
    have hkeys : es.map (·.1) = (dedup (metRaw (ls.take j) l)).map pvL := by
      rw [← hes]
      exact dsets_keys pvL_inj _ (metRaw (ls.take j) l) [] [] (by simp) rfl
    have hdl := dedup_length (metRaw (ls.take j) l)
    have hel : es.length = (dedup (metRaw (ls.take j) l)).length := by have := congrArg List.length hkeys; simpa using this
    have keep : ∀ a o, σ a = some o → (upd (upd (upd σ k (.lst ((ls.take j).map pvL))) D (.lst ((metRaw (ls.take j) l).map fun s => PV.tup [pvL s, .int 1]))) c4 (.dt TL es)) a = some o := fun a o h => upd_old (upd_old (upd_old h hk') hD) hc4
    generalize hs4 : upd (upd (upd σ k (.lst ((ls.take j).map pvL))) D (.lst ((metRaw (ls.take j) l).map fun s => PV.tup [pvL s, .int 1]))) c4 (.dt TL es) = σ4 at *
    have e4 : σ4 c4 = some (.dt TL es) := by rw [← hs4]; exact upd_same _ _ _
    have hcol := collects_dt (prog := prog) (w := w) (h₀ := h₀) e4 (by (first | lia | omega))
    rw [hkeys] at hcol
    refine lcall_fn (lf_sorted TL rfl (by decide) hcol (pvL_all _) (by rw [List.length_map]; (first | lia | omega)) fun ys hsort c5 hc5 => ?_)
    have e5 := sortOf_eq (f := pvL) (lt := ltP) (T := TL) rfl (fun x _ => (pvL_ty x).1) ltP_pv ltP_tr ltP_asy ltP_tot hsort
    subst e5
    refine q _ _ (fun a o h => upd_old (keep a o h) hc5) ?_ (upd_same _ _ _)
    cases h : σ c5 with
    | none => rfl
    | some o => rw [keep c5 o h] at hc5; cases hc5
end
end Mine
end

section
namespace Mine

theorem beqs_nil {xs : List PV} : PV.beqs xs [] = decide (xs = []) := by rw [Bool.eq_iff_iff, PV.beqs_iff, decide_eq_true_iff]
theorem beqs_pvL (x y : Int × Int) : PV.beqs [.int x.1, .int x.2] [.int y.1, .int y.2] = decide (x = y) := by
  rw [Bool.eq_iff_iff, PV.beqs_iff, decide_eq_true_iff]
  constructor
  · intro h; exact pvL_inj x y (by unfold pvL; rw [h])
  · rintro rfl; rfl
theorem LI.set {σ' : Store} {lc sa ca : Addr} {ls : List Ln} {S S' : List (Int × Int)} (s : LI σ' lc sa ca ls S) : LI (Mine.upd σ' sa (.lst (S'.map pvL))) lc sa ca ls S' :=
  ⟨by rw [upd_ne _ _ s.ne1]; exact s.lines, upd_same _ _ _, by rw [upd_ne _ _ s.ne2]; exact s.calls, s.ne1, s.ne2⟩
noncomputable def spotBody : List Stmt := match lawBody with | _ :: _ :: _ :: _ :: .For _ _ (_ :: _ :: .For _ _ b _ _ :: _) _ _ :: _ => b | _ => []
noncomputable def spotLoc (told : Int) (mc sa ca lc : Addr) : Loc := [("told", .int told), ("met", .loc mc), ("spots", .loc sa), ("calls", .loc ca), ("lines", .loc lc)]
section
variable {prog : Program} {w : World} {h₀ : Heap} {n : Nat} {ρ : Loc} {σ : Store}
/-- one spot's turn -/
theorem spot_turn {ga oa la ba ia aa fa : Addr} {gd od ld bd nd ad cd : FuncData} {a : Addr} {sc : List Int} (c : LawCtx prog w h₀ ga oa la ba ia aa fa gd od ld bd nd ad cd a sc) {env : Env} {c1 c2 : Addr} (e : LawEnv env c1 c2) {lc sa ca mc : Addr} {S : List (Int × Int)} (es : σ sa = some (.lst (S.map pvL)))
    (hS : S.Pairwise fun a b => ltP b a = false) (hl : S.length ≤ 1000) (s : Int × Int) {told : Int}
    {Q : PFlow → Loc → Store → Prop} (q : ∀ σ' ρ', Sub (spotLoc told mc sa ca lc) ρ' → (σ' = σ ∧ spotsStep S s = S) ∨ σ' = upd σ sa (.lst ((spotsStep S s).map pvL)) → Q .next ρ' σ') :
    WS prog w h₀ (n + 3) env (execs spotBody env) (("spot", pvL s) :: spotLoc told mc sa ca lc) σ Q := by
  obtain ⟨hk, hcs, hint⟩ := e
  have st : ∀ y, (scopeAt Challenge.pw_ho0003_02 10).names.lookup y = some .local → Stor env y := fun y h => .inl ((hk y).trans h)
  unfold spotLoc
  refine ws_cons ?_
  refine ws_assign (st _ rfl) ?_
  refine we_call (gname c.tbis ((hk _).trans rfl)) ?_
  refine wl_cons ?_
  refine we_name (by rfl) ?_
  refine wl_cons ?_
  refine we_name (by rfl) ?_
  refine wl_nil ?_
  refine bisect_at c es hS hl s _ (c.bisB2 _ _) _ ?_
  intro k hk1 hk2 hk3
  have hk1' : k ≤ S.length := by simpa using hk1
  have g2 : ∀ (i : Nat) (y : Int × Int), i < k → S[i]? = some y → ltP y s = true := fun i y hi hy => by
    rw [← ltP_pv]; exact hk2 i (pvL y) hi (by rw [List.getElem?_map, hy]; rfl)
  have g3 : ∀ (i : Nat) (y : Int × Int), k ≤ i → S[i]? = some y → ltP y s = false := fun i y hi hy => by
    rw [← ltP_pv]; exact hk3 i (pvL y) hi (by rw [List.getElem?_map, hy]; rfl)
  have hmem : s ∈ S ↔ S[k]? = some s := place_mem ltP_irr g2 g3 (fun y h1 h2 => ltP_tot y s h1 h2) hS
  -- when it is laid in
  have lay : s ∉ S → WS prog w h₀ (n + 3) env (execs (match spotBody with | _ :: .If _ b _ _ :: _ => b | _ => []) env) [("place", .int k), ("spot", pvL s), ("told", .int told), ("met", .loc mc), ("spots", .loc sa), ("calls", .loc ca), ("lines", .loc lc)] σ
      fun f ρ₁ σ₁ => match f with | .next => WS prog w h₀ (n + 3) env (execs [] env) ρ₁ σ₁ Q | f => Q f ρ₁ σ₁ := fun hns => by
    refine ws_cons ?_
    refine ws_expr ?_ hint
    refine we_call (gname c.tins ((hk _).trans rfl)) ?_
    refine wl_cons ?_
    refine we_name (by rfl) ?_
    refine wl_cons ?_
    refine we_name (by rfl) ?_
    refine wl_nil ?_
    refine insort_spec c.ins c.insS c.tbis es (by simp; omega) (c.insB _ _) (bisect_at c es hS hl s _ (c.bisB4 _ _)) ?_
    intro k' j1 j2 j3
    have i2 : ∀ (i : Nat) (y : Int × Int), i < k' → S[i]? = some y → ltP y s = true := fun i y hi hy => by
      rw [← ltP_pv]; exact j2 i (pvL y) hi (by rw [List.getElem?_map, hy]; rfl)
    have i3 : ∀ (i : Nat) (y : Int × Int), k' ≤ i → S[i]? = some y → ltP y s = false := fun i y hi hy => by
      rw [← ltP_pv]; exact j3 i (pvL y) hi (by rw [List.getElem?_map, hy]; rfl)
    have e1 : (S.map pvL).take k' ++ pvL s :: (S.map pvL).drop k' = (spotsStep S s).map pvL := by
      unfold spotsStep
      rw [if_neg hns, ← insT_split (by simpa using j1) i2 i3]; simp
    rw [e1]
    refine ⟨rfl, ws_nil (ws_nil (q _ _ ?_ (.inr rfl)))⟩
    unfold spotLoc
    repeat (first | exact Sub.nil _ | refine Sub.cons (by rfl) ?_)
  refine ws_cons ?_
  refine ws_if ?_
  refine wt_or ?_
  refine wt_cmp ?_
  refine we_name (by rfl) ?_
  refine we_call (gname c.sg.tlen ((hk _).trans rfl)) ?_
  refine wl_cons ?_
  refine we_name (by rfl) ?_
  refine wl_nil ?_
  refine lcall_fn (lf_len_list es (by simp; omega) ?_)
  refine ⟨_, lc_eq, ?_⟩
  by_cases hkl : k = S.length
  · refine if_dec_pos (by simp; omega) ?_
    exact lay (fun h => by have := hmem.mp h; rw [hkl, List.getElem?_eq_none (Nat.le_refl _)] at this; cases this)
  · refine if_dec_neg (by simp; omega) ?_
    have hlt : k < S.length := by omega
    obtain ⟨y, hy⟩ : ∃ y, S[k]? = some y := ⟨_, List.getElem?_eq_getElem hlt⟩
    refine wt_or ?_
    refine wt_cmp ?_
    refine we_sub ?_
    refine we_name (by rfl) ?_
    refine we_name (by rfl) ?_
    refine ⟨pvL y, lg_list es (by omega) (by omega) (by simp [hy]), ?_⟩
    refine we_name (by rfl) ?_
    refine ⟨_, lc_ne_tup (by simp [PV.deeps, PV.deep]) ⟨trivial, trivial, trivial⟩, ?_⟩
    rw [beqs_pvL]
    by_cases hys : y = s
    · refine if_not_pos hys ?_
      have hin : s ∈ S := hmem.mpr (by rw [hy, hys])
      refine wt_or_nil ?_
      simp only [Bool.false_eq_true, if_false]
      refine ws_nil (ws_nil (q _ _ ?_ (.inl ⟨rfl, by unfold spotsStep; rw [if_pos hin]⟩)))
      unfold spotLoc
      repeat (first | exact Sub.nil _ | refine Sub.cons (by rfl) ?_)
    · refine if_not_neg hys ?_
      exact lay (fun h => by have := hmem.mp h; rw [hy] at this; cases this; exact hys rfl)
end
end Mine
end

section
namespace Mine

section
variable {prog : Program} {w : World} {h₀ : Heap} {n : Nat} {ρ : Loc} {σ : Store}
theorem law_spots {ga oa la ba ia aa fa : Addr} {gd od ld bd nd ad cd : FuncData} {a : Addr} {sc : List Int} (c : LawCtx prog w h₀ ga oa la ba ia aa fa gd od ld bd nd ad cd a sc) {env : Env} {c1 c2 : Addr} (e : LawEnv env c1 c2) {lc : Addr} {ls : List Ln} (hf : Fit ls) (el : σ lc = some (.lst (ls.map pvL)))
    {Q : PFlow → Loc → Store → Prop} (q0 : ls = [] → ∀ ρ' σ', Q (.ret (.bool true)) ρ' σ')
    (q : ls ≠ [] → ∀ σ' sa ca, LI σ' lc sa ca ls (spotsAt ls ls.length) → WS prog w h₀ (n + 3) env (execs (lawBody.drop 5) env) [("told", .int (toldAt ls ls.length)), ("spots", .loc sa), ("calls", .loc ca), ("lines", .loc lc)] σ' Q) :
    WS prog w h₀ (n + 3) env (execs (lawBody.drop 2) env) [("lines", .loc lc)] σ Q := by
  obtain ⟨hk, hcs, hint⟩ := id e
  have st : ∀ y, (scopeAt Challenge.pw_ho0003_02 10).names.lookup y = some .local → Stor env y := fun y h => .inl ((hk y).trans h)
  have stc : ∀ y, (scopeAt Challenge.pw_ho0003_02 10).names.lookup y = some .cell → (∃ k, env.cells.lookup y = some k) → Stor env y := fun y h hc => .inr ⟨(hk y).trans h, hc⟩
  have hf1 := hf.1
  refine ws_cons ?_
  refine ws_if ?_
  refine wt_cmp ?_
  refine we_name (by rfl) ?_
  refine we_list ?_
  refine wl_nil ?_
  refine ⟨by simp, fun d hd => ⟨_, lc_eq_list (upd_old el hd) (upd_same _ _ _) (pvL_deeps ls) (sims_nil _), ?_⟩⟩
  rw [beqs_nil]
  by_cases hne : ls = []
  · subst hne
    simp only [List.map_nil, decide_true, if_true]
    refine ws_cons ?_
    refine ws_return ?_
    refine we_bool ?_
    exact q0 rfl _ _
  refine if_dec_neg (by simpa using hne) ?_
  refine ws_nil ?_
  have q := q hne
  have el1 := upd_old (o' := .lst []) el hd
  generalize upd σ d (.lst []) = σ1 at el1
  clear el hd
  refine ws_cons ?_
  refine ws_unpack ["spots", "calls", "told"] (.cons .name (stc _ rfl ⟨_, by rw [hcs]; rfl⟩) (.cons .name (st _ rfl) (.cons .name (st _ rfl) .nil))) ?_ (hw := swapped_none3 ((hk _).trans rfl))
  refine we_tup ?_
  refine wl_cons ?_
  refine we_list ?_
  refine wl_nil ?_
  refine ⟨by simp, fun sa hsa => ?_⟩
  refine wl_cons ?_
  refine we_dict0_dt TC c.sg.big fun ca hca => ?_
  refine wl_cons ?_
  refine we_int ?_
  refine wl_nil ?_
  refine ⟨by simp, ?_⟩
  refine ⟨_, rfl, rfl, ?_⟩
  have li0 : LI (upd (upd σ1 sa (.lst [])) ca (.dt TC [])) lc sa ca ls (spotsAt ls 0) := by
    have hcs' : ca ≠ sa := fun e => by rw [e, upd_same] at hca; cases hca
    refine ⟨upd_old (upd_old el1 hsa) hca, upd_old (upd_same _ _ _) hca, upd_same _ _ _, fun e => (by rw [← e, el1] at hsa; cases hsa), hcs'⟩
  generalize upd (upd σ1 sa (.lst [])) ca (.dt TC []) = σ2 at li0
  refine ws_norm [("told", .int (toldAt ls 0)), ("spots", .loc sa), ("calls", .loc ca), ("lines", .loc lc)] (by repeat (first | exact Sub.nil _ | refine Sub.cons (by rfl) ?_)) ?_
  refine ws_cons (ws_for (wi_enum (gname c.tenum ((hk _).trans rfl)) (wl_cons (we_name (by rfl) (wl_nil ⟨lc, _, rfl, li0.lines, ?_⟩)))))
  refine ⟨fun j ρ' σ' => j ≤ ls.length ∧ ρ' = ([("told", .int (toldAt ls j)), ("spots", .loc sa), ("calls", .loc ca), ("lines", .loc lc)] : Loc) ∧ LI σ' lc sa ca ls (spotsAt ls j), ls.length, ⟨Nat.zero_le _, rfl, li0⟩, ?_⟩
  rintro j ρ' σ' ⟨hj, rfl, li⟩
  refine ⟨⟨_, li.lines⟩, ?_⟩
  unfold elemE
  rw [elemL_of li.lines, List.getElem?_map]
  cases he : ls[j]? with
  | none =>
    have : j = ls.length := by have := List.getElem?_eq_none_iff.mp he; (first | lia | omega)
    subst this
    simp only [Option.map_none]
    exact q σ' sa ca li
  | some l =>
    obtain ⟨hlt, hle⟩ := List.getElem?_eq_some_iff.mp he
    simp only [Option.map_some]
    refine ⟨hlt, wt_pair (ownMod _) (st _ rfl).own (stc _ rfl ⟨_, by rw [hcs]; rfl⟩).own (ws_abs fun Q1 q1 => ?_)⟩
    have hgd : ls.getD j (0, 0) = l := by simp [hlt, hle]
    have hlm : l ∈ ls := List.mem_of_getElem? he
    have hsl := spotsAt_length ls j
    have hml := metOf_length (ls.take j) l
    have htl := List.length_take_le j ls
    have hsl2 : (spotsAt ls j).length ≤ 50 := Nat.le_trans hsl (Nat.le_trans (Nat.mul_le_mul hj hf1) (by (first | lia | omega)))
    have e1 : spotsAt ls (j + 1) = (metOf (ls.take j) l).foldl spotsStep (spotsAt ls j) := by unfold spotsAt; rw [hgd]; cases j <;> rfl
    have e2 : toldAt ls (j + 1) = toldAt ls j + 1 + ((metOf (ls.take j) l).length : Nat) := by unfold toldAt; rw [hgd]; cases j <;> rfl
    refine ws_cons (ws_assign (st _ rfl) (met_spec c e hf li.lines hlt hlm (by rfl) (by rfl) (by rfl) (pos := default) fun σ3 m keep hm em => ?_))
    have li3 : LI σ3 lc sa ca ls (spotsAt ls j) := ⟨keep _ _ li.lines, keep _ _ li.spots, keep _ _ li.calls, li.ne1, li.ne2⟩
    have hms : m ≠ sa := fun e => by rw [e, li.spots] at hm; cases hm
    refine ws_cons ?_
    refine ws_assign (st _ rfl) ?_
    refine we_bin ?_
    refine we_bin ?_
    refine we_name (by rfl) ?_
    refine we_int ?_
    refine lb_add_int ?_
    refine we_call (gname c.sg.tlen ((hk _).trans rfl)) ?_
    refine wl_cons ?_
    refine we_name (by rfl) ?_
    refine wl_nil ?_
    refine lcall_fn (lf_len_list em (by simp; (first | lia | omega)) ?_)
    refine lb_add_int ?_
    have e3 : toldAt ls j + 1 + (((metOf (ls.take j) l).map pvL).length : Nat) = toldAt ls (j + 1) := by rw [e2]; simp
    rw [e3]
    generalize hmet : metOf (ls.take j) l = met at *
    refine ws_norm (spotLoc (toldAt ls (j + 1)) m sa ca lc) (by unfold spotLoc; repeat (first | exact Sub.nil _ | refine Sub.cons (by rfl) ?_)) ?_
    refine ws_cons (ws_for (wi_list (we_name (by rfl) ⟨m, _, rfl, em, ?_⟩)))
    refine ⟨fun i ρ' σ' => i ≤ met.length ∧ ρ' = spotLoc (toldAt ls (j + 1)) m sa ca lc ∧ LI σ' lc sa ca ls ((met.take i).foldl spotsStep (spotsAt ls j)) ∧ σ' m = some (.lst (met.map pvL)), met.length, ⟨Nat.zero_le _, rfl, li3, em⟩, ?_⟩
    rintro i ρ' σ4 ⟨hi, rfl, li4, em4⟩
    refine ⟨⟨_, em4⟩, ?_⟩
    rw [elemL_of em4, List.getElem?_map]
    cases hei : met[i]? with
    | none =>
      have e : met.take i = met := List.take_of_length_le (List.getElem?_eq_none_iff.mp hei)
      rw [e, ← e1] at li4
      simp only [Option.map_none]
      refine ws_nil (q1 _ _ _ ⟨_, ?_, hlt, rfl, li4⟩)
      unfold spotLoc
      repeat (first | exact Sub.nil _ | refine Sub.cons (by rfl) ?_)
    | some s =>
      have hlt2 := (List.getElem?_eq_some_iff.mp hei).1
      simp only [Option.map_some]
      refine ⟨hlt2, wt_name (ownMod _) (st _ rfl).own ?_⟩
      have hlen4 : ((met.take i).foldl spotsStep (spotsAt ls j)).length ≤ 1000 := by
        have := spotsFold_length (met.take i) (spotsAt ls j)
        have := List.length_take_le i met
        (first | lia | omega)
      refine spot_turn c e li4.spots (spotsFold_sorted _ _ (spotsAt_sorted ls j)) hlen4 s fun σ5 ρ5 hsub h5 => ?_
      have e5 : (met.take (i + 1)).foldl spotsStep (spotsAt ls j) = spotsStep ((met.take i).foldl spotsStep (spotsAt ls j)) s := by rw [take_snoc hei, spotsFold_snoc]
      refine ⟨_, hsub, hlt2, rfl, ?_, ?_⟩
      · rw [e5]
        rcases h5 with ⟨rfl, h⟩ | rfl
        · rw [h]; exact li4
        · exact li4.set
      · rcases h5 with ⟨rfl, h⟩ | rfl
        · exact em4
        · rw [upd_ne _ _ hms]; exact em4
end
end Mine
end

section
namespace Mine

section
variable {prog : Program} {w : World} {h₀ : Heap} {n : Nat} {ρ : Loc} {σ : Store}
theorem bumps_nodup (l : Ln) : ∀ (S : List (Int × Int)) (cs : List ((Int × Int) × Int)), (cs.map (·.1)).Nodup → ((S.foldl (bumpIf l) cs).map (·.1)).Nodup
  | [], cs, h => h
  | s :: S, cs, h => bumps_nodup l S _ (by unfold bumpIf; split; exact bump_nodup h s; exact h)
theorem bumps_length (l : Ln) : ∀ (S : List (Int × Int)) (cs : List ((Int × Int) × Int)), (S.foldl (bumpIf l) cs).length ≤ cs.length + S.length
  | [], cs => by simp
  | s :: S, cs => by
    simp only [List.foldl_cons, List.length_cons]
    have := bumps_length l S (bumpIf l cs s)
    have : (bumpIf l cs s).length ≤ cs.length + 1 := by
      unfold bumpIf; split
      · exact bump_length cs s
      · (first | lia | omega)
    (first | lia | omega)
noncomputable def callsUp (S : List (Int × Int)) (ls : List Ln) : List ((Int × Int) × Int) := ls.foldl (fun cs l => S.foldl (bumpIf l) cs) []
theorem callsFold_nodup (S : List (Int × Int)) : ∀ (ls : List Ln) (cs : List ((Int × Int) × Int)), (cs.map (·.1)).Nodup → ((ls.foldl (fun cs l => S.foldl (bumpIf l) cs) cs).map (·.1)).Nodup
  | [], cs, h => h
  | l :: ls, cs, h => callsFold_nodup S ls _ (bumps_nodup l S cs h)
theorem callsFold_length (S : List (Int × Int)) : ∀ (ls : List Ln) (cs : List ((Int × Int) × Int)), (ls.foldl (fun cs l => S.foldl (bumpIf l) cs) cs).length ≤ cs.length + ls.length * S.length
  | [], cs => by simp
  | l :: ls, cs => by
    simp only [List.foldl_cons, List.length_cons]
    have := callsFold_length S ls (S.foldl (bumpIf l) cs)
    have := bumps_length l S cs
    rw [Nat.succ_mul]
    (first | lia | omega)
structure LJ (σ' : Store) (lc sa ca : Addr) (ls : List Ln) (S : List (Int × Int)) (cs : List ((Int × Int) × Int)) : Prop where
  lines : σ' lc = some (.lst (ls.map pvL))
  spots : σ' sa = some (.lst (S.map pvL))
  calls : σ' ca = some (.dt TC (cs.map encC))
noncomputable def callLoc (ca : Addr) (told : Int) (sa lc : Addr) : Loc := [("calls", .loc ca), ("told", .int told), ("spots", .loc sa), ("lines", .loc lc)]
theorem law_calls {ga oa la ba ia aa fa : Addr} {gd od ld bd nd ad cd : FuncData} {a : Addr} {sc : List Int} (c : LawCtx prog w h₀ ga oa la ba ia aa fa gd od ld bd nd ad cd a sc) {env : Env} {c1 c2 : Addr} (e : LawEnv env c1 c2) {lc sa ca : Addr} {ls : List Ln} (hf : Fit ls) {S : List (Int × Int)} (hS : S.length ≤ 50) (li : LI σ lc sa ca ls S) {told : Int}
    {Q : PFlow → Loc → Store → Prop} (q : ∀ σ' ca', LJ σ' lc sa ca' ls S (callsOf ls S) → WS prog w h₀ (n + 3) env (execs (lawBody.drop 6) env) (callLoc ca' told sa lc) σ' Q) :
    WS prog w h₀ (n + 3) env (execs (lawBody.drop 5) env) [("told", .int told), ("spots", .loc sa), ("calls", .loc ca), ("lines", .loc lc)] σ Q := by
  obtain ⟨hk, hcs, hint⟩ := id e
  have st : ∀ y, (scopeAt Challenge.pw_ho0003_02 10).names.lookup y = some .local → Stor env y := fun y h => .inl ((hk y).trans h)
  have stc : ∀ y, (scopeAt Challenge.pw_ho0003_02 10).names.lookup y = some .cell → (∃ k, env.cells.lookup y = some k) → Stor env y := fun y h hc => .inr ⟨(hk y).trans h, hc⟩
  have hf1 := hf.1
  refine ws_norm (callLoc ca told sa lc) (by unfold callLoc; repeat (first | exact Sub.nil _ | refine Sub.cons (by rfl) ?_)) ?_
  refine ws_cons (ws_for (wi_list (we_name (by rfl) ⟨lc, _, rfl, li.lines, ?_⟩)))
  refine ⟨fun j ρ' σ' => j ≤ ls.length ∧ ∃ ca', ρ' = callLoc ca' told sa lc ∧ LJ σ' lc sa ca' ls S (callsUp S (ls.take j)), ls.length, ⟨Nat.zero_le _, ca, rfl, li.lines, li.spots, li.calls⟩, ?_⟩
  rintro j ρ' σ1 ⟨hj, ca1, rfl, lj⟩
  refine ⟨⟨_, lj.lines⟩, ?_⟩
  rw [elemL_of lj.lines, List.getElem?_map]
  cases he : ls[j]? with
  | none =>
    have e : ls.take j = ls := List.take_of_length_le (List.getElem?_eq_none_iff.mp he)
    rw [e] at lj
    simp only [Option.map_none]
    exact q σ1 ca1 lj
  | some l =>
    obtain ⟨hlt, hle⟩ := List.getElem?_eq_some_iff.mp he
    obtain ⟨f1, f2, f3, f4⟩ := hf.2 l (List.mem_of_getElem? he)
    simp only [Option.map_some]
    refine ⟨hlt, wt_name (ownMod _) (stc _ rfl ⟨_, by rw [hcs]; rfl⟩).own (ws_abs fun Q1 q1 => ?_)⟩
    have hn0 := callsFold_nodup S (ls.take j) [] .nil
    have hl0 := callsFold_length S (ls.take j) []
    have hl1 : (ls.take j).length * S.length ≤ 5 * 50 := Nat.mul_le_mul (Nat.le_trans (List.length_take_le j ls) (by (first | lia | omega))) hS
    have e1 : callsUp S (ls.take (j + 1)) = S.foldl (bumpIf l) (callsUp S (ls.take j)) := by unfold callsUp; rw [take_snoc he, List.foldl_append]; rfl
    change ((callsUp S (ls.take j)).map (·.1)).Nodup at hn0
    change (callsUp S (ls.take j)).length ≤ _ at hl0
    generalize callsUp S (ls.take j) = cs0 at *
    simp only [List.length_nil, Nat.zero_add] at hl0
    refine ws_norm ((("line" : Str), pvL l) :: callLoc ca1 told sa lc) (by unfold callLoc; repeat (first | exact Sub.nil _ | refine Sub.cons (by rfl) ?_)) ?_
    refine ws_cons (ws_for (wi_list (we_name (by rfl) ⟨sa, _, rfl, lj.spots, ?_⟩)))
    refine ⟨fun i ρ' σ' => i ≤ S.length ∧ ∃ ca', ρ' = (("line" : Str), pvL l) :: callLoc ca' told sa lc ∧ LJ σ' lc sa ca' ls S ((S.take i).foldl (bumpIf l) cs0), S.length, ⟨Nat.zero_le _, ca1, rfl, lj⟩, ?_⟩
    rintro i ρ' σ2 ⟨hi, ca2, rfl, lj2⟩
    refine ⟨⟨_, lj2.spots⟩, ?_⟩
    rw [elemL_of lj2.spots, List.getElem?_map]
    cases hei : S[i]? with
    | none =>
      have e : S.take i = S := List.take_of_length_le (List.getElem?_eq_none_iff.mp hei)
      rw [e, ← e1] at lj2
      simp only [Option.map_none]
      refine ws_nil (q1 _ _ _ ⟨_, ?_, hlt, ca2, rfl, lj2⟩)
      unfold callLoc
      repeat (first | exact Sub.nil _ | refine Sub.cons (by rfl) ?_)
    | some s =>
      have hlt2 := (List.getElem?_eq_some_iff.mp hei).1
      simp only [Option.map_some]
      refine ⟨hlt2, wt_name (ownMod _) (st _ rfl).own (ws_abs fun Q2 q2 => ?_)⟩
      have hn1 := bumps_nodup l (S.take i) cs0 hn0
      have hl2 := bumps_length l (S.take i) cs0
      have hl3 := List.length_take_le i S
      have e2 : (S.take (i + 1)).foldl (bumpIf l) cs0 = bumpIf l ((S.take i).foldl (bumpIf l) cs0) s := by rw [take_snoc hei, List.foldl_append]; rfl
      generalize (S.take i).foldl (bumpIf l) cs0 = cs1 at *
      unfold callLoc
      refine ws_cons ?_
      refine ws_if ?_
      refine wt_cmp ?_
      refine we_bin ?_
      refine we_bin ?_
      refine we_sub ?_
      refine we_name (by rfl) ?_
      refine we_int ?_
      refine ⟨.int l.1, lg_tup (by decide) (by decide) rfl, ?_⟩
      refine we_sub ?_
      refine we_name (by rfl) ?_
      refine we_int ?_
      refine ⟨.int s.1, lg_tup (by decide) (by decide) rfl, ?_⟩
      refine lb_mul_int (by (first | lia | omega)) ?_
      refine we_bin ?_
      refine we_int ?_
      refine we_sub ?_
      refine we_name (by rfl) ?_
      refine we_int ?_
      refine ⟨.int l.2, lg_tup (by decide) (by decide) rfl, ?_⟩
      refine lb_mul_int (by decide) ?_
      refine lb_add_int ?_
      refine we_sub ?_
      refine we_name (by rfl) ?_
      refine we_int ?_
      refine ⟨.int s.2, lg_tup (by decide) (by decide) rfl, ?_⟩
      refine ⟨_, lc_eq, ?_⟩
      by_cases hon : l.1 * s.1 + 12 * l.2 = s.2
      · refine if_dec_pos hon ?_
        have e3 : bumpIf l cs1 s = bump cs1 s := by unfold bumpIf onL; rw [decide_eq_true hon]; rfl
        refine ws_cons ?_
        refine ws_assign (st _ rfl) ?_
        refine we_call (gname c.tadd ((hk _).trans rfl)) ?_
        refine wl_cons ?_
        refine we_name (by rfl) ?_
        refine wl_cons ?_
        refine we_dict1 TC c.sg.big fun d hd => ?_
        refine we_tup ?_
        refine wl_cons ?_
        refine we_str ?_
        refine wl_cons ?_
        refine we_name (by rfl) ?_
        refine wl_cons ?_
        refine we_str ?_
        refine wl_nil ?_
        refine ⟨by simp, ?_⟩
        refine we_int ?_
        refine ⟨_, rfl, (keyC_ty s).1, (keyC_ty s).2, upd_same _ _ _, ?_⟩
        refine wl_nil ?_
        rw [upd_upd]
        have lj3 : LJ (upd σ2 d (.dt TC [(keyC s, .int 1)])) lc sa ca2 ls S cs1 := ⟨upd_old lj2.lines hd, upd_old lj2.spots hd, upd_old lj2.calls hd⟩
        have ed : (upd σ2 d (.dt TC [(keyC s, .int 1)])) d = some (.dt TC ([(s, 1)].map encC)) := upd_same _ _ _
        show LCall prog w h₀ (n + 3) (.ref aa) [] [.loc ca2, .loc d] (upd σ2 d (.dt TC [(keyC s, .int 1)])) _
        generalize upd σ2 d (.dt TC [(keyC s, .int 1)]) = σ3 at *
        refine add_spec c.add c.addS c.sg.big c.tisi c.sg.ttuple lj3.calls ed (encC_keys _) (encC_keys _) (encC_vals _) (encC_vals _) (by simp; (first | lia | omega)) (by simp) (c.addB _ _) fun ca3 hca3 => ?_
        have e4 : addTab (cs1.map encC) ([(s, (1 : Int))].map encC) = (bumpIf l cs1 s).map encC := by rw [e3]; exact addTab_bump hn1 s
        rw [e4, ← e2]
        refine ws_nil (ws_nil (q2 _ _ _ ⟨_, ?_, hlt2, ca3, rfl, upd_old lj3.lines hca3, upd_old lj3.spots hca3, upd_same _ _ _⟩))
        repeat (first | exact Sub.nil _ | refine Sub.cons (by rfl) ?_)
      · refine if_dec_neg hon ?_
        have e3 : bumpIf l cs1 s = cs1 := by unfold bumpIf onL; rw [decide_eq_false hon]; rfl
        refine ws_nil (ws_nil (q2 _ _ _ ⟨_, ?_, hlt2, ca2, rfl, by rw [e2, e3]; exact lj2⟩))
        repeat (first | exact Sub.nil _ | refine Sub.cons (by rfl) ?_)
end
end Mine
end

section
namespace Mine

theorem itm_vals {σ : Store} {d : Addr} {ob : Obj} {T : Ty} {es : List (PV × PV)} (e : σ d = some (.dx ob T es)) : Itm (elemD (·.2) d) (goodD d ob T es) σ (es.map (·.2)) := fun σ' ls => ⟨ls.dx e, fun i => by rw [elemD_of (ls.dx e), List.getElem?_map]⟩
theorem encC_snd (C : List ((Int × Int) × Int)) : (C.map encC).map (·.2) = (C.map (·.2)).map PV.int := by rw [List.map_map, List.map_map]; rfl
theorem beqs_self (xs : List PV) : PV.beqs xs xs = true := (PV.beqs_iff _ _).mpr rfl
section
variable {prog : Program} {w : World} {h₀ : Heap} {n : Nat} {ρ : Loc} {σ : Store} {env : Env} {H : List (Value × PV)} {α β : Type} {R : Heap → α → β → Prop}
theorem we_less {t : Sem α} {Q : β → Store → Prop} {σ' : Store} (l : Less σ' σ) (h : WE prog w h₀ n R env H t ρ σ' Q) : WE prog w h₀ n R env H t ρ σ Q := WP.know h l (fun _ _ e => e)
noncomputable def Told (f : PFlow) (_ : Loc) (_ : Store) : Prop := f = .ret (.bool true)
noncomputable def chkLoc (P : Int) (ca : Addr) (told : Int) (sa lc : Addr) : Loc := ("parts", .int P) :: callLoc ca told sa lc

theorem law_chk6 {ga oa la ba ia aa fa : Addr} {gd od ld bd nd ad cd : FuncData} {a : Addr} {sc : List Int} (c : LawCtx prog w h₀ ga oa la ba ia aa fa gd od ld bd nd ad cd a sc) {c1 c2 : Addr} (e : LawEnv env c1 c2) {lc sa ca : Addr} {ls : List Ln} {S : List (Int × Int)} {C : List ((Int × Int) × Int)} (hS : S.length ≤ 50) (hC : C.length ≤ 1000) (hl : ls.length ≤ 5)
    (lj : LJ σ lc sa ca ls S C) {told P : Int} (F : Facts ls S C P) {Q : PFlow → Loc → Store → Prop} (q : WS prog w h₀ (n + 3) env (execs (lawBody.drop 8) env) (chkLoc P ca told sa lc) σ Q) :
    WS prog w h₀ (n + 3) env (execs (lawBody.drop 6) env) (callLoc ca told sa lc) σ Q := by
  obtain ⟨hk, hcs, hint⟩ := id e
  have st : ∀ y, (scopeAt Challenge.pw_ho0003_02 10).names.lookup y = some .local → Stor env y := fun y h => .inl ((hk y).trans h)
  unfold callLoc
  refine ws_cons ?_
  refine ws_if ?_
  refine wt_or ?_
  refine wt_cmp ?_
  refine we_name (by rfl) ?_
  refine we_call (gname c.sg.tsorted ((hk _).trans rfl)) ?_
  refine wl_cons ?_
  refine we_name (by rfl) ?_
  refine wl_nil ?_
  refine lcall_fn (lf_sorted TL rfl (by decide) (collects_list lj.spots (by simp; (first | lia | omega))) (pvL_all _) (by simp; (first | lia | omega)) fun ys hsort c5 hc5 => ?_)
  have e5 := sortOf_eq (f := pvL) (lt := ltP) (T := TL) rfl (fun x _ => (pvL_ty x).1) ltP_pv ltP_tr ltP_asy ltP_tot hsort
  rw [F.sorted] at e5
  subst e5
  refine ⟨_, lc_ne_list (upd_old lj.spots hc5) (upd_same _ _ _) (pvL_deeps _) (pvL_sims _ _), ?_⟩
  rw [beqs_self]
  simp only [Bool.not_true, Bool.false_eq_true, if_false]
  refine we_less (Less.upd_free hc5) ?_
  refine wt_or ?_
  refine wt_cmp ?_
  refine we_call (gname c.sg.tlen ((hk _).trans rfl)) ?_
  refine wl_cons ?_
  refine we_name (by rfl) ?_
  refine wl_nil ?_
  refine lcall_fn (lf_len_dt lj.calls (by simp; (first | lia | omega)) ?_)
  refine we_call (gname c.sg.tlen ((hk _).trans rfl)) ?_
  refine wl_cons ?_
  refine we_name (by rfl) ?_
  refine wl_nil ?_
  refine lcall_fn (lf_len_list lj.spots (by simp; (first | lia | omega)) ?_)
  refine ⟨_, lc_ne, ?_⟩
  refine if_not_pos (by simp [F.len]) ?_
  have hnil : (C.map (·.2)).flatMap (fun v : Int => if v < 2 then [PV.int v] else []) = [] := by
    rw [List.flatMap_eq_nil_iff]
    intro v hv
    obtain ⟨x, hx, rfl⟩ := List.mem_map.mp hv
    have := F.two x hx
    rw [if_neg (by (first | lia | omega))]
  refine wt_or ?_
  refine wt_cmp ?_
  refine we_compb hcs [] [] (C.map (·.2)) PV.int unI unI_pv (fun v => if v < 2 then [.int v] else []) (by rfl) (by rfl) (by rfl) (SubL.nil) .nil (fun C => .nil) ?_
  refine wi_values ?_
  refine we_name (by rfl) ?_
  refine ⟨ca, TC, _, rfl, lj.calls, fun ob => ⟨by rw [← encC_snd]; exact itm_vals (upd_same _ _ _), by rw [hnil]; simp, ?_, ?_⟩⟩
  · intro C' D hD v hv
    refine clause_name (onlyLoc _) (storL (compKind rfl (by decide))) (by repeat (first | exact Sub.nil _ | refine Sub.cons (by rfl) ?_)) ?_
    refine jel_if (onlyLoc _) hD ?_
    refine wt_cmp ?_
    refine we_name (by rfl) ?_
    refine we_int ?_
    refine ⟨_, lc_lt, rfl, ?_⟩
    by_cases h2 : v < 2
    · rw [decide_eq_true h2]
      simp only [if_true, if_pos h2]
      refine jel_emit (onlyLoc _) hD rfl ?_
      refine we_name (by rfl) ?_
      exact ⟨rfl, rfl⟩
    · rw [decide_eq_false h2]
      simp only [Bool.false_eq_true, if_false, if_neg h2]
  intro D hD
  rw [hnil]
  have hDσ : σ D = none := by
    cases h : σ D with
    | none => rfl
    | some o => rw [upd_ne _ _ (fun q => by rw [q, upd_same] at hD; cases hD), h] at hD; cases hD
  refine we_less (Less.upd_both (Less.back lj.calls) D _) ?_
  refine we_list ?_
  refine wl_nil ?_
  refine ⟨by simp, fun d hd => ⟨_, lc_ne_list (upd_old (upd_same _ _ _) hd) (upd_same _ _ _) (by simp [PV.deeps]) trivial, ?_⟩⟩
  rw [beqs_self]
  simp only [Bool.not_true, Bool.false_eq_true, if_false]
  refine wt_or_nil ?_
  simp only [Bool.false_eq_true, if_false]
  refine ws_nil (ws_less ((Less.upd_free hDσ).free hd) ?_)
  -- parts
  have hsub : (C.map (·.2)).flatMap (fun v : Int => [PV.int (v - 1)]) = (C.map fun c => c.2 - 1).map PV.int := by
    rw [List.map_map, List.flatMap_map, List.map_eq_flatMap]; rfl
  refine ws_cons ?_
  refine ws_assign (st _ rfl) ?_
  refine we_bin ?_
  refine we_bin ?_
  refine we_int ?_
  refine we_call (gname c.sg.tlen ((hk _).trans rfl)) ?_
  refine wl_cons ?_
  refine we_name (by rfl) ?_
  refine wl_nil ?_
  refine lcall_fn (lf_len_list lj.lines (by simp; (first | lia | omega)) ?_)
  refine lb_add_int ?_
  refine we_call (gname c.tsum ((hk _).trans rfl)) ?_
  refine wl_cons ?_
  refine we_compb hcs [] [] (C.map (·.2)) PV.int unI unI_pv (fun v => [.int (v - 1)]) (by rfl) (by rfl) (by rfl) (SubL.nil) .nil (fun C => .nil) ?_
  refine wi_values ?_
  refine we_name (by rfl) ?_
  refine ⟨ca, TC, _, rfl, lj.calls, fun ob => ⟨by rw [← encC_snd]; exact itm_vals (upd_same _ _ _), by rw [hsub]; simp; (first | lia | omega), ?_, ?_⟩⟩
  · intro C' D hD v hv
    refine clause_name (onlyLoc _) (storL (compKind rfl (by decide))) (by repeat (first | exact Sub.nil _ | refine Sub.cons (by rfl) ?_)) ?_
    refine jel_emit (onlyLoc _) hD rfl ?_
    refine we_bin ?_
    refine we_name (by rfl) ?_
    refine we_int ?_
    refine lb_sub_int ?_
    exact ⟨rfl, rfl⟩
  intro D hD
  rw [hsub]
  have hDσ : σ D = none := by
    cases h : σ D with
    | none => rfl
    | some o => rw [upd_ne _ _ (fun q => by rw [q, upd_same] at hD; cases hD), h] at hD; cases hD
  refine we_less (Less.upd_both (Less.back lj.calls) D _) ?_
  refine wl_nil ?_
  refine lcall_fn (lf_sum (upd_same _ _ _) ?_)
  refine lb_add_int ?_
  have e6 : 1 + (((ls.map pvL).length : Nat) : Int) + sumL (C.map fun c => c.2 - 1) = P := by rw [F.parts]; simp
  rw [e6]
  exact ws_less (Less.upd_free hDσ) q
end
end Mine
end

section
namespace Mine

theorem filter_flat (S : List (Int × Int)) (l : Ln) : (S.flatMap fun s => if onL l s then [pvL s] else []) = (S.filter (onL l)).map pvL := by
  induction S with
  | nil => rfl
  | cons s S ih =>
    rw [List.flatMap_cons, ih, List.filter_cons]
    split <;> simp
section
variable {prog : Program} {w : World} {h₀ : Heap} {n : Nat} {ρ : Loc} {σ : Store} {env : Env}
theorem law_chk8 {ga oa la ba ia aa fa : Addr} {gd od ld bd nd ad cd : FuncData} {a : Addr} {sc : List Int} (c : LawCtx prog w h₀ ga oa la ba ia aa fa gd od ld bd nd ad cd a sc) {c1 c2 : Addr} (e : LawEnv env c1 c2) {lc sa ca : Addr} {ls : List Ln} {S : List (Int × Int)} {C : List ((Int × Int) × Int)} (hS : S.length ≤ 50) (hC : C.length ≤ 1000) (hf : Fit ls) (hne : 1 ≤ ls.length)
    (lj : LJ σ lc sa ca ls S C) {P : Int} (F : Facts ls S C P) {Q : PFlow → Loc → Store → Prop} (q : ∀ ρ' σ', Q (.ret (.bool true)) ρ' σ') :
    WS prog w h₀ (n + 3) env (execs (lawBody.drop 8) env) (chkLoc P ca (toldAt ls ls.length) sa lc) σ Q := by
  obtain ⟨hk, hcs, hint⟩ := id e
  have st : ∀ y, (scopeAt Challenge.pw_ho0003_02 10).names.lookup y = some .local → Stor env y := fun y h => .inl ((hk y).trans h)
  have hl := hf.1
  unfold chkLoc callLoc
  refine ws_cons ?_
  refine ws_if ?_
  refine wt_or ?_
  refine wt_cmp ?_
  refine we_name (by rfl) ?_
  refine we_name (by rfl) ?_
  refine ⟨_, lc_ne, ?_⟩
  refine if_not_pos F.told ?_
  refine wt_or ?_
  refine wt_cmp ?_
  refine we_call (gname c.tsigns ((hk _).trans rfl)) ?_
  refine wl_cons ?_
  refine we_name (by rfl) ?_
  refine wl_nil ?_
  refine signs_spec c.sg lj.lines hf hne ?_
  refine we_name (by rfl) ?_
  refine ⟨_, lc_ne, ?_⟩
  refine if_not_pos F.signs ?_
  refine wt_or_nil ?_
  simp only [Bool.false_eq_true, if_false]
  refine ws_nil ?_
  -- pieces
  refine ws_cons ?_
  refine ws_assign (st _ rfl) ?_
  refine we_bin ?_
  refine we_call (gname c.sg.tlen ((hk _).trans rfl)) ?_
  refine wl_cons ?_
  refine we_name (by rfl) ?_
  refine wl_nil ?_
  refine lcall_fn (lf_len_list lj.lines (by simp; (first | lia | omega)) ?_)
  refine we_call (gname c.tcnt ((hk _).trans rfl)) ?_
  refine wl_cons ?_
  refine we_name (by rfl) ?_
  refine wl_nil ?_
  refine count_spec c.cnt c.cntS lj.calls (encC_vals _) (c.cntB _) ?_
  refine lb_add_int ?_
  rw [encC_valsOf]
  have ell : (((ls.map pvL).length : Nat) : Int) = (ls.length : Int) := by simp
  rw [ell]
  refine ws_cons ?_
  refine ws_if ?_
  refine wt_or ?_
  refine wt_cmp ?_
  refine we_bin ?_
  refine we_bin ?_
  refine we_name (by rfl) ?_
  refine we_name (by rfl) ?_
  refine lb_sub_int ?_
  refine we_call (gname c.sg.tlen ((hk _).trans rfl)) ?_
  refine wl_cons ?_
  refine we_name (by rfl) ?_
  refine wl_nil ?_
  refine lcall_fn (lf_len_list lj.spots (by simp; (first | lia | omega)) ?_)
  refine lb_add_int ?_
  refine we_int ?_
  refine ⟨_, lc_ne, ?_⟩
  refine if_not_pos (by have := F.euler; simpa using this) ?_
  have hnum : ls.flatMap (fun l : Ln => [PV.int (1 + ((S.filter (onL l)).length : Int))]) = (ls.map fun l => 1 + ((S.filter (onL l)).length : Int)).map PV.int := by
    rw [List.map_map, List.map_eq_flatMap]; rfl
  refine wt_or ?_
  refine wt_cmp ?_
  refine we_name (by rfl) ?_
  refine we_call (gname c.tsum ((hk _).trans rfl)) ?_
  refine wl_cons ?_
  refine we_comp1 "line" [("spots", c2)] [("spots", .loc sa)] ls pvL unL unL_pv (fun l => [.int (1 + ((S.filter (onL l)).length : Int))]) ((closureFor_eq (by intro y hy hf; simp only [List.mem_cons, List.not_mem_nil, or_false] at hy; rcases hy with rfl | rfl | rfl | rfl <;> first | (cases hf; done) | (rw [hcs]; rfl))).trans (by rw [hcs]; rfl)) (fun k => by rfl) (fun h => by rfl) (by intro y hy; simp only [List.mem_cons, List.not_mem_nil, or_false] at hy; rcases hy with rfl | rfl | rfl | rfl <;> intro h <;> first | rfl | cases h) (by rw [hcs]; simp) (by simp) (fun C => .cons (by rfl) (.inl ((hk _).trans rfl)) (by rfl) (by rw [hcs]; rfl) (by rfl) .nil) ?_
  refine wi_list ?_
  refine we_name (by rfl) ?_
  refine ⟨lc, ls.map pvL, rfl, lj.lines, itm_list lj.lines, by rw [hnum]; simp; (first | lia | omega), ?_, ?_⟩
  · intro C' D hD l hlm
    obtain ⟨f1, f2, f3, f4⟩ := hf.2 l hlm
    refine clause_name locCell (storC (compKind rfl (by decide))) (by repeat (first | exact Sub.nil _ | refine Sub.cons (by rfl) ?_)) ?_
    refine jel_emit locCell hD rfl ?_
    refine WE.drop (Q := fun y σ' => Less σ σ' ∧ y = .int (1 + ((S.filter (onL l)).length : Int))) ?_ (fun b σ' h => ⟨σ, h.1, rfl, by rw [h.2]⟩)
    have hfl := List.length_filter_le (onL l) S
    refine we_bin ?_
    refine we_int ?_
    refine we_call (gname c.sg.tlen (compKind rfl (by decide))) ?_
    refine wl_cons ?_
    refine we_comp [("line", C' + 1)] [("line", pvL l)] S pvL unL unL_pv (fun s => if onL l s then [pvL s] else []) ((closureFor_eq (by intro y hy hf; simp only [List.mem_cons, List.not_mem_nil, or_false] at hy; rcases hy with rfl | rfl | rfl <;> first | (cases hf; done) | rfl)).trans rfl) (by intro y hy; simp only [List.mem_cons, List.not_mem_nil, or_false] at hy; rcases hy with rfl | rfl | rfl <;> intro h <;> cases h) (by intro y hy; simp only [List.mem_cons, List.not_mem_nil, or_false] at hy; rcases hy with rfl | rfl | rfl <;> intro h <;> first | rfl | cases h) (by intro p hp; rw [List.mem_singleton.mp hp]; exact .head _) (by simp) (fun C => .cons (by rfl) (.inl (compKind rfl (by decide))) (by rfl) (by rfl) (by rfl) .nil) ?_
    refine wi_list ?_
    refine we_name (by rfl) ?_
    refine ⟨sa, S.map pvL, rfl, lj.spots, itm_list lj.spots, by rw [filter_flat]; simp; (first | lia | omega), ?_, ?_⟩
    · intro C2 D2 hD2 s hs
      refine clause_name (onlyLoc _) (storL (compKind rfl (by decide))) (by repeat (first | exact Sub.nil _ | refine Sub.cons (by rfl) ?_)) ?_
      refine jel_if (onlyLoc _) hD2 ?_
      refine wt_cmp ?_
      refine we_bin ?_
      refine we_bin ?_
      refine we_sub ?_
      refine we_name (by rfl) ?_
      refine we_int ?_
      refine ⟨.int l.1, lg_tup (by decide) (by decide) rfl, ?_⟩
      refine we_sub ?_
      refine we_name (by rfl) ?_
      refine we_int ?_
      refine ⟨.int s.1, lg_tup (by decide) (by decide) rfl, ?_⟩
      refine lb_mul_int (by (first | lia | omega)) ?_
      refine we_bin ?_
      refine we_int ?_
      refine we_sub ?_
      refine we_name (by rfl) ?_
      refine we_int ?_
      refine ⟨.int l.2, lg_tup (by decide) (by decide) rfl, ?_⟩
      refine lb_mul_int (by decide) ?_
      refine lb_add_int ?_
      refine we_sub ?_
      refine we_name (by rfl) ?_
      refine we_int ?_
      refine ⟨.int s.2, lg_tup (by decide) (by decide) rfl, ?_⟩
      refine ⟨_, lc_eq, rfl, ?_⟩
      by_cases hon : l.1 * s.1 + 12 * l.2 = s.2
      · refine if_dec_pos hon ?_
        have e3 : onL l s = true := decide_eq_true hon
        rw [if_pos e3]
        refine jel_emit (onlyLoc _) hD2 rfl ?_
        refine we_name (by rfl) ?_
        exact ⟨rfl, rfl⟩
      · rw [decide_eq_false hon]
        have e3 : onL l s = false := decide_eq_false hon
        simp only [Bool.false_eq_true, if_false, e3]
    intro D2 hD2
    rw [filter_flat]
    refine wl_nil ?_
    refine lcall_fn (lf_len_list (upd_same _ _ _) (by simp; (first | lia | omega)) ?_)
    refine lb_add_int ?_
    exact ⟨Less.upd_free hD2, by simp⟩
  intro D hD
  rw [hnum]
  refine wl_nil ?_
  refine lcall_fn (lf_sum (upd_same _ _ _) ?_)
  refine ⟨_, lc_ne, ?_⟩
  refine if_not_pos F.pieces ?_
  refine wt_or_nil ?_
  simp only [Bool.false_eq_true, if_false]
  refine ws_nil (ws_less (Less.upd_free hD) ?_)
  -- lines alike in rise
  have hr : ls.flatMap (fun l : Ln => [PV.tup [.int l.1, .int 1]]) = ((ls.map (·.1)).map fun x => (PV.int x, PV.int 1)).map fun (p : PV × PV) => PV.tup [p.1, p.2] := by
    rw [List.map_map, List.map_map, List.map_eq_flatMap]; rfl
  refine ws_cons ?_
  refine ws_if ?_
  refine wt_and ?_
  refine wt_cmp ?_
  refine we_call (gname c.sg.tlen ((hk _).trans rfl)) ?_
  refine wl_cons ?_
  refine we_call (gname c.sg.tdict ((hk _).trans rfl)) ?_
  refine wl_cons ?_
  refine we_compb hcs [] [] ls pvL unL unL_pv (fun l => [.tup [.int l.1, .int 1]]) (by rfl) (by rfl) (by rfl) (SubL.nil) .nil (fun C => .nil) ?_
  refine wi_list ?_
  refine we_name (by rfl) ?_
  refine ⟨lc, ls.map pvL, rfl, lj.lines, itm_list lj.lines, by rw [hr]; simp; (first | lia | omega), ?_, ?_⟩
  · intro C' D hD l hlm
    refine clause_pair (onlyLoc _) (storL (compKind rfl (by decide))) (storL (compKind rfl (by decide))) (by repeat (first | exact Sub.nil _ | refine Sub.cons (by rfl) ?_)) ?_
    refine jel_emit (onlyLoc _) hD rfl ?_
    refine we_tup ?_
    refine wl_cons ?_
    refine we_name (by rfl) ?_
    refine wl_cons ?_
    refine we_int ?_
    refine wl_nil ?_
    refine ⟨by simp, ?_⟩
    exact ⟨rfl, rfl⟩
  intro D hD
  rw [hr]
  refine wl_nil ?_
  refine lcall_type (lf_dict (.dv []) (.inl rfl) c.sg.big (ps := (ls.map (·.1)).map fun x => (PV.int x, PV.int 1)) (upd_same _ _ _) (fun p hp => ?_) (by simp; (first | lia | omega)) fun c4 hc4 => ?_)
  · obtain ⟨x, _, rfl⟩ := List.mem_map.mp hp
    exact trivial
  rw [dputs_dv]
  generalize hes : ((ls.map (·.1)).map fun x => (PV.int x, PV.int 1)).foldl (fun (o : List (PV × PV)) (p : PV × PV) => dset o p.1 p.2) [] = es at *
  have hkeys : es.map (·.1) = (dedup (ls.map (·.1))).map PV.int := by
    rw [← hes]
    exact dsets_keys (f := PV.int) pvI_inj ((ls.map (·.1)).map fun x => (PV.int x, PV.int 1)) (ls.map (·.1)) [] [] (by rw [List.map_map]; rfl) rfl
  have hdl := dedup_length (ls.map (·.1))
  rw [List.length_map] at hdl
  have hel : es.length = (dedup (ls.map (·.1))).length := by have := congrArg List.length hkeys; simpa using this
  refine wl_nil ?_
  refine lcall_fn (lf_len_dv (upd_same _ _ _) (by (first | lia | omega)) ?_)
  refine we_less ((Less.upd_free hD).free hc4) ?_
  refine we_int ?_
  refine ⟨_, lc_eq, ?_⟩
  have fin : WS prog w h₀ (n + 3) env (execs (lawBody.drop 12) env) (("pieces", .int ((ls.length : Int) + sumL (C.map (·.2)))) :: chkLoc P ca (toldAt ls ls.length) sa lc) σ Q := by
    unfold chkLoc callLoc
    refine ws_cons ?_
    refine ws_return ?_
    refine we_cmp ?_
    refine we_name (by rfl) ?_
    refine we_bin ?_
    refine we_bin ?_
    refine we_int ?_
    refine we_call (gname c.sg.tlen ((hk _).trans rfl)) ?_
    refine wl_cons ?_
    refine we_name (by rfl) ?_
    refine wl_nil ?_
    refine lcall_fn (lf_len_list lj.lines (by simp; (first | lia | omega)) ?_)
    refine lb_add_int ?_
    refine we_bin ?_
    refine we_bin ?_
    refine we_call (gname c.sg.tlen ((hk _).trans rfl)) ?_
    refine wl_cons ?_
    refine we_name (by rfl) ?_
    refine wl_nil ?_
    refine lcall_fn (lf_len_list lj.lines (by simp; (first | lia | omega)) ?_)
    refine we_bin ?_
    refine we_call (gname c.sg.tlen ((hk _).trans rfl)) ?_
    refine wl_cons ?_
    refine we_name (by rfl) ?_
    refine wl_nil ?_
    refine lcall_fn (lf_len_list lj.lines (by simp; (first | lia | omega)) ?_)
    refine we_int ?_
    refine lb_sub_int ?_
    refine lb_mul_int ((by rw [ell]; (first | lia | omega))) ?_
    refine we_int ?_
    refine lb_div_int (by decide) (by decide) ?_
    refine lb_add_int ?_
    refine ⟨_, lc_le, ?_⟩
    rw [ell, decide_eq_true F.most]
    exact q _ _
  by_cases h1 : es.length = 1
  · refine if_dec_pos (by (first | lia | omega)) ?_
    refine wt_and ?_
    refine wt_cmp ?_
    refine we_name (by rfl) ?_
    refine we_bin ?_
    refine we_call (gname c.sg.tlen ((hk _).trans rfl)) ?_
    refine wl_cons ?_
    refine we_name (by rfl) ?_
    refine wl_nil ?_
    refine lcall_fn (lf_len_list lj.lines (by simp; (first | lia | omega)) ?_)
    refine we_int ?_
    refine lb_add_int ?_
    refine ⟨_, lc_ne, ?_⟩
    rw [ell, decide_eq_true (F.alike (by (first | lia | omega)))]
    simp only [Bool.not_true, Bool.false_eq_true, if_false]
    exact ws_nil fin
  · refine if_dec_neg (by (first | lia | omega)) ?_
    exact ws_nil fin
end
end Mine
end

section
namespace Mine

theorem fmod_bound (a b : Int) (hb : 0 < b) : 0 ≤ a.fmod b ∧ a.fmod b < b := ⟨Int.fmod_nonneg_of_pos _ hb, Int.fmod_lt_of_pos _ hb⟩
theorem lineOf_fit (x : Int) : -2 ≤ (lineOf x).1 ∧ (lineOf x).1 ≤ 2 ∧ -4 ≤ (lineOf x).2 ∧ (lineOf x).2 ≤ 4 := by
  unfold lineOf
  have h1 := fmod_bound x 45 (by decide)
  have h2 := fmod_bound (x.fmod 45) 5 (by decide)
  have h3 : (x.fmod 45).fdiv 5 = (x.fmod 45) / 5 := Int.fdiv_eq_ediv_of_nonneg _ (by decide)
  simp only [h3]
  omega
theorem linesOf_fit (sc : List Int) : Fit (linesOf sc) := by
  refine ⟨?_, fun l hl => ?_⟩
  · have := dedup_length ((sc.take 5).map lineOf)
    unfold linesOf
    simp only [List.length_map, List.length_take] at this
    (first | lia | omega)
  · obtain ⟨x, _, rfl⟩ := List.mem_map.mp (dedup_mem.mp hl)
    exact lineOf_fit x
section
variable {prog : Program} {w : World} {h₀ : Heap} {n : Nat} {ρ : Loc} {σ : Store} {env : Env}
theorem law_walk {ga oa la ba ia aa fa : Addr} {gd od ld bd nd ad cd : FuncData} {a : Addr} {sc : List Int} (c : LawCtx prog w h₀ ga oa la ba ia aa fa gd od ld bd nd ad cd a sc) {c1 c2 : Addr} (e : LawEnv env c1 c2)
    (hF : ∀ ls : List Ln, Fit ls → ls.Nodup → ls ≠ [] → ∃ P, Facts ls (spotsAt ls ls.length) (callsOf ls (spotsAt ls ls.length)) P) :
    WS prog w h₀ (n + 3) env (execs lawBody env) [("script", .loc a)] σ fun f _ _ => f = .ret (.bool true) := by
  refine law_lines c e fun σ1 lc el => ?_
  have hfit := linesOf_fit sc
  have hnd : (linesOf sc).Nodup := dedup_nodup _
  generalize linesOf sc = ls at *
  refine law_spots c e hfit el (fun _ _ _ => rfl) fun hne σ2 sa ca li => ?_
  obtain ⟨P, F⟩ := hF ls hfit hnd hne
  have hl := hfit.1
  have hS : (spotsAt ls ls.length).length ≤ 50 := Nat.le_trans (spotsAt_length ls ls.length) (Nat.le_trans (Nat.mul_le_mul hl hl) (by (first | lia | omega)))
  have hC : (callsOf ls (spotsAt ls ls.length)).length ≤ 1000 := by
    have h1 := callsFold_length (spotsAt ls ls.length) ls []
    have h2 := Nat.mul_le_mul hl hS
    simp only [List.length_nil, Nat.zero_add] at h1
    exact Nat.le_trans h1 (Nat.le_trans h2 (by (first | lia | omega)))
  generalize hSe : spotsAt ls ls.length = S at *
  have hne1 : 1 ≤ ls.length := by cases ls <;> simp_all
  refine law_calls c e hfit hS li fun σ3 ca' lj => ?_
  refine law_chk6 c e hS hC hl lj F ?_
  exact law_chk8 c e hS hC hfit hne1 lj F fun _ _ => rfl
end
end Mine
end

section
namespace Mine

-- the plain law: geometry
noncomputable def hgt (l : Ln) (X D : Int) : Int := l.1 * X + D * l.2
/-- signs at a place (X/D, Y/D) -/
noncomputable def sg (ls : List Ln) (X D Y : Int) : List Int := ls.map fun l => if hgt l X D < Y then 1 else 0
theorem signOf_sg (ls : List Ln) (on high : Int) : signOf ls on high = sg ls on 120 high := rfl
/-- lines that fit -/
noncomputable def FitL (l : Ln) : Prop := -2 ≤ l.1 ∧ l.1 ≤ 2 ∧ -4 ≤ l.2 ∧ l.2 ≤ 4
theorem div_exact (a b : Int) (h : 12 % a = 0) (ha : a ≠ 0) : a * ((12 * b).fdiv a) = 12 * b := by
  have h1 : a ∣ 12 * b := Int.dvd_trans (Int.dvd_of_emod_eq_zero h) (Int.dvd_mul_right 12 b)
  rw [Int.fdiv_eq_ediv_of_dvd h1]
  exact Int.mul_ediv_cancel' h1
theorem spot_on {p q : Ln} (hp : FitL p) (hq : FitL q) (hne : p.1 ≠ q.1) : (p.1 - q.1) * (spotOf p q).1 = 12 * (q.2 - p.2) := by
  refine div_exact _ _ ?_ (by (first | lia | omega))
  obtain ⟨a, b, _, _⟩ := hp
  obtain ⟨c, d, _, _⟩ := hq
  have : p.1 - q.1 = 1 ∨ p.1 - q.1 = 2 ∨ p.1 - q.1 = 3 ∨ p.1 - q.1 = 4 ∨ p.1 - q.1 = -1 ∨ p.1 - q.1 = -2 ∨ p.1 - q.1 = -3 ∨ p.1 - q.1 = -4 := by (first | lia | omega)
  rcases this with h | h | h | h | h | h | h | h <;> rw [h] <;> decide
theorem cross {p q : Ln} (hp : FitL p) (hq : FitL q) (hne : p.1 ≠ q.1) (X D : Int) : 12 * (hgt p X D - hgt q X D) = (p.1 - q.1) * (12 * X - D * (spotOf p q).1) := by
  have h := spot_on hp hq hne
  unfold hgt
  generalize (spotOf p q).1 = on at *
  grind
theorem spot_snd (p q : Ln) : (spotOf p q).2 = p.1 * (spotOf p q).1 + 12 * p.2 := rfl
theorem onL_iff {l : Ln} {s : Int × Int} : onL l s = true ↔ l.1 * s.1 + 12 * l.2 = s.2 := by unfold onL; exact decide_eq_true_iff
theorem onL_left (p q : Ln) : onL p (spotOf p q) = true := onL_iff.mpr rfl
theorem onL_right {p q : Ln} (hp : FitL p) (hq : FitL q) (hne : p.1 ≠ q.1) : onL q (spotOf p q) = true := by
  refine onL_iff.mpr ?_
  rw [spot_snd]
  have h := spot_on hp hq hne
  generalize (spotOf p q).1 = on at *
  grind
theorem mul_cancel {a x y : Int} (ha : a ≠ 0) (h : a * x = a * y) : x = y := Int.eq_of_mul_eq_mul_left ha h
theorem spot_unique {p q : Ln} (hp : FitL p) (hq : FitL q) (hne : p.1 ≠ q.1) {s : Int × Int} (h1 : onL p s = true) (h2 : onL q s = true) : s = spotOf p q := by
  have e1 := onL_iff.mp h1
  have e2 := onL_iff.mp h2
  have h := spot_on hp hq hne
  have : s.1 = (spotOf p q).1 := mul_cancel (a := p.1 - q.1) (by (first | lia | omega)) (by rw [h]; grind)
  refine Prod.ext this ?_
  rw [spot_snd, ← this, ← e1]
theorem slope_ne {p q : Ln} {s : Int × Int} (h1 : onL p s = true) (h2 : onL q s = true) (hne : p ≠ q) : p.1 ≠ q.1 := fun e => by
  have e1 := onL_iff.mp h1
  have e2 := onL_iff.mp h2
  rw [e] at e1
  exact hne (Prod.ext e (by (first | lia | omega)))
theorem sign_pos {a z : Int} (ha : 0 < a) : 0 < a * z ↔ 0 < z := by
  constructor
  · intro h
    rcases Int.lt_or_le 0 z with h1 | h1
    · exact h1
    · have := Int.mul_nonpos_of_nonneg_of_nonpos (Int.le_of_lt ha) h1; (first | lia | omega)
  · intro h; exact Int.mul_pos ha h
theorem sign_neg {a z : Int} (ha : a < 0) : 0 < a * z ↔ z < 0 := by
  have := sign_pos (a := -a) (z := -z) (by (first | lia | omega))
  rw [Int.neg_mul_neg] at this
  rw [this]; (first | lia | omega)
/-- two places on one side of where the lines cross -/
theorem same_side {p q : Ln} (hp : FitL p) (hq : FitL q) {X D X' D' : Int} (hD : 0 < D) (hD' : 0 < D') (h : hgt p X D < hgt q X D)
    (side : p.1 ≠ q.1 → (12 * X - D * (spotOf p q).1 < 0 → 12 * X' - D' * (spotOf p q).1 < 0) ∧ (0 < 12 * X - D * (spotOf p q).1 → 0 < 12 * X' - D' * (spotOf p q).1)) : hgt p X' D' < hgt q X' D' := by
  by_cases hne : p.1 = q.1
  · unfold hgt at *
    rw [hne] at h ⊢
    have h1 : D * p.2 < D * q.2 := by (first | lia | omega)
    have h2 : p.2 < q.2 := by
      rcases Int.lt_or_le p.2 q.2 with h | h
      · exact h
      · have := Int.mul_le_mul_of_nonneg_left h (Int.le_of_lt hD); (first | lia | omega)
    have := Int.mul_lt_mul_of_pos_left h2 hD'
    (first | lia | omega)
  · obtain ⟨s1, s2⟩ := side hne
    have c1 := cross hp hq hne X D
    have c2 := cross hp hq hne X' D'
    generalize (spotOf p q).1 = on at *
    have k1 : (p.1 - q.1) * (12 * X - D * on) < 0 := by (first | lia | omega)
    rcases Int.lt_or_gt_of_ne hne with hlt | hgt'
    · have : 0 < 12 * X - D * on := by
        have := (sign_pos (a := q.1 - p.1) (z := 12 * X - D * on) (by (first | lia | omega))).mp (by
          have e : (q.1 - p.1) * (12 * X - D * on) = - ((p.1 - q.1) * (12 * X - D * on)) := by rw [← Int.neg_mul]; congr 1; (first | lia | omega)
          (first | lia | omega))
        exact this
      have k2 := (sign_pos (a := q.1 - p.1) (z := 12 * X' - D' * on) (by (first | lia | omega))).mpr (s2 this)
      have e : (q.1 - p.1) * (12 * X' - D' * on) = - ((p.1 - q.1) * (12 * X' - D' * on)) := by rw [← Int.neg_mul]; congr 1; (first | lia | omega)
      (first | lia | omega)
    · have : 12 * X - D * on < 0 := by
        rcases Int.lt_or_le (12 * X - D * on) 0 with h | h
        · exact h
        · have := Int.mul_nonneg (show 0 ≤ p.1 - q.1 by (first | lia | omega)) h; (first | lia | omega)
      have k2 := (sign_neg (a := q.1 - p.1) (z := 12 * X' - D' * on) (by (first | lia | omega))).mpr (s1 this)
      have e : (q.1 - p.1) * (12 * X' - D' * on) = - ((p.1 - q.1) * (12 * X' - D' * on)) := by rw [← Int.neg_mul]; congr 1; (first | lia | omega)
      (first | lia | omega)
-- sampling
theorem cut_exists {T : List Int} (hT : T.Pairwise (· < ·)) (g : Int → Bool) (hg : ∀ a b, a ≤ b → g b = true → g a = true) : ∃ k, k ≤ T.length ∧ (∀ (i : Nat) (t : Int), i < k → T[i]? = some t → g t = true) ∧ ∀ (i : Nat) (t : Int), k ≤ i → T[i]? = some t → g t = false := by
  induction T with
  | nil => exact ⟨0, Nat.le_refl _, fun i t h => by (first | lia | omega), fun i t _ h => by simp at h⟩
  | cons a T ih =>
    obtain ⟨h1, h2⟩ := List.pairwise_cons.mp hT
    cases ha : g a
    · refine ⟨0, Nat.zero_le _, fun i t h => by (first | lia | omega), fun i t _ h => ?_⟩
      cases hgt : g t
      · rfl
      · have hm := List.mem_of_getElem? h
        rcases List.mem_cons.mp hm with rfl | hm
        · rw [ha] at hgt; cases hgt
        · rw [hg a t (Int.le_of_lt (h1 t hm)) hgt] at ha; cases ha
    · obtain ⟨k, k1, k2, k3⟩ := ih h2
      refine ⟨k + 1, by simpa using k1, fun i t hi h => ?_, fun i t hi h => ?_⟩
      · cases i with
        | zero => simp at h; rw [← h]; exact ha
        | succ i => exact k2 i t (by (first | lia | omega)) (by simpa using h)
      · cases i with
        | zero => (first | lia | omega)
        | succ i => exact k3 i t (by (first | lia | omega)) (by simpa using h)
theorem strict_of {T : List Int} (h : T.Pairwise fun a b => ltI b a = false) (hn : T.Nodup) : T.Pairwise (· < ·) := by
  have := List.pairwise_and_iff.mpr ⟨h, (show T.Pairwise (· ≠ ·) from hn)⟩
  refine this.imp fun {a b} ⟨h1, h2⟩ => ?_
  unfold ltI at h1
  simp only [decide_eq_false_iff_not] at h1
  (first | lia | omega)
theorem sortT_nodup {α : Type} {lt : α → α → Bool} {l : List α} (h : l.Nodup) : (sortT lt l).Nodup := (sortT_perm l).nodup_iff.mpr h
theorem onsOf_strict (ls : List Ln) : (onsOf ls).Pairwise (· < ·) := strict_of (sortT_sorted ltI_tr ltI_asy ltI_tot _) (sortT_nodup (dedup_nodup _))
theorem onsOf_mem {ls : List Ln} {x : Int} : x ∈ onsOf ls ↔ x = 0 ∨ ∃ p ∈ ls, ∃ q ∈ ls, p.1 ≠ q.1 ∧ x = (spotOf p q).1 := by
  unfold onsOf
  rw [(sortT_perm _).mem_iff, dedup_mem, List.mem_append]
  unfold onsRaw
  simp only [List.mem_flatMap, List.mem_singleton]
  constructor
  · rintro (⟨p, hp, q, hq, h⟩ | h)
    · split at h
      · cases h
      · rename_i hne
        exact .inr ⟨p, hp, q, hq, hne, List.mem_singleton.mp h⟩
    · exact .inl h
  · rintro (h | ⟨p, hp, q, hq, hne, h⟩)
    · exact .inr h
    · exact .inl ⟨p, hp, q, hq, by rw [if_neg hne, h]; simp⟩
/-- a place for each gap -/
theorem place_at {T : List Int} (hT : T.Pairwise (· < ·)) (hne : 1 ≤ T.length) {k : Nat} (hk : k ≤ T.length) :
    ∃ p ∈ placesOf T, (∀ (i : Nat) (t : Int), i < k → T[i]? = some t → 10 * t < p) ∧ ∀ (i : Nat) (t : Int), k ≤ i → T[i]? = some t → p < 10 * t := by
  have mono : ∀ (i j : Nat) (s t : Int), i < j → T[i]? = some s → T[j]? = some t → s < t := fun i j s t hij hs ht => by
    obtain ⟨hi, ei⟩ := List.getElem?_eq_some_iff.mp hs
    obtain ⟨hj, ej⟩ := List.getElem?_eq_some_iff.mp ht
    have := List.pairwise_iff_getElem.mp hT i j hi hj hij
    rw [ei, ej] at this; exact this
  have monoe : ∀ (i j : Nat) (s t : Int), i ≤ j → T[i]? = some s → T[j]? = some t → s ≤ t := fun i j s t hij hs ht => by
    rcases Nat.eq_or_lt_of_le hij with rfl | h
    · rw [hs] at ht; cases ht; exact Int.le_refl _
    · exact Int.le_of_lt (mono i j s t h hs ht)
  have get : ∀ i, i < T.length → T[i]? = some (T.getD i 0) := fun i h => by simp [h]
  unfold placesOf
  rcases Nat.eq_zero_or_pos k with rfl | hpos
  · refine ⟨10 * T.headD 0 - 10, by simp, fun i t h => by (first | lia | omega), fun i t _ h => ?_⟩
    have h0 : T[0]? = some (T.headD 0) := by cases T <;> simp_all
    have := monoe 0 i _ t (Nat.zero_le _) h0 h
    (first | lia | omega)
  · rcases Nat.eq_or_lt_of_le hk with rfl | hlt
    · refine ⟨10 * T.getD (T.length - 1) 0 + 10, by simp, fun i t hi h => ?_, fun i t hi h => ?_⟩
      · have := monoe i (T.length - 1) t _ (by (first | lia | omega)) h (get _ (by (first | lia | omega)))
        (first | lia | omega)
      · rw [List.getElem?_eq_none hi] at h; cases h
    · refine ⟨5 * (T.getD (k - 1) 0 + T.getD k 0), ?_, fun i t hi h => ?_, fun i t hi h => ?_⟩
      · refine List.mem_append_left _ (List.mem_append_right _ (List.mem_map.mpr ⟨k - 1, List.mem_range.mpr (by (first | lia | omega)), ?_⟩))
        rw [show k - 1 + 1 = k by (first | lia | omega)]
      · have h1 := monoe i (k - 1) t _ (by (first | lia | omega)) h (get _ (by (first | lia | omega)))
        have h2 := mono (k - 1) k _ _ (by (first | lia | omega)) (get _ (by (first | lia | omega))) (get _ hlt)
        (first | lia | omega)
      · have h1 := monoe k i _ t hi (get _ hlt) h
        have h2 := mono (k - 1) k _ _ (by (first | lia | omega)) (get _ (by (first | lia | omega))) (get _ hlt)
        (first | lia | omega)
theorem max_exists {α : Type} (f : α → Int) : ∀ {l : List α}, l ≠ [] → ∃ a ∈ l, ∀ b ∈ l, f b ≤ f a
  | [a], _ => ⟨a, .head _, fun b hb => by rw [List.mem_singleton.mp hb]; exact Int.le_refl _⟩
  | a :: b :: l, _ => by
    obtain ⟨c, hc, hmax⟩ := max_exists f (l := b :: l) (by simp)
    by_cases h : f a ≤ f c
    · refine ⟨c, .tail _ hc, fun d hd => ?_⟩
      rcases List.mem_cons.mp hd with rfl | hd
      · exact h
      · exact hmax d hd
    · refine ⟨a, .head _, fun d hd => ?_⟩
      rcases List.mem_cons.mp hd with rfl | hd
      · exact Int.le_refl _
      · have := hmax d hd; (first | lia | omega)
noncomputable def Real (ls : List Ln) (v : List Int) : Prop := ∃ X D Y, 0 < D ∧ v = sg ls X D Y
theorem sg_congr {ls : List Ln} {X D Y X' D' Y' : Int} (h : ∀ l ∈ ls, hgt l X D < Y ↔ hgt l X' D' < Y') : sg ls X D Y = sg ls X' D' Y' := by
  unfold sg
  refine List.map_congr_left fun l hl => ?_
  by_cases h1 : hgt l X D < Y
  · rw [if_pos h1, if_pos ((h l hl).mp h1)]
  · rw [if_neg h1, if_neg (fun h2 => h1 ((h l hl).mpr h2))]
theorem signs_real {ls : List Ln} (hf : ∀ l ∈ ls, FitL l) (hne : ls ≠ []) {v : List Int} : v ∈ signsAll ls ↔ Real ls v := by
  unfold signsAll
  constructor
  · intro h
    obtain ⟨on, _, h⟩ := List.mem_flatMap.mp h
    obtain ⟨high, _, rfl⟩ := List.mem_map.mp h
    exact ⟨on, 120, high, by decide, rfl⟩
  · rintro ⟨X, D, Y, hD, rfl⟩
    have hT := onsOf_strict ls
    have h0 : (0 : Int) ∈ onsOf ls := onsOf_mem.mpr (.inl rfl)
    obtain ⟨k, hk, c1, c2⟩ := cut_exists hT (fun t => decide (D * t ≤ 12 * X)) (fun a b hab h => by
      simp only [decide_eq_true_eq] at *
      have := Int.mul_le_mul_of_nonneg_left hab (Int.le_of_lt hD); (first | lia | omega))
    obtain ⟨p, hp, p1, p2⟩ := place_at hT (List.length_pos_of_mem h0) hk
    refine List.mem_flatMap.mpr ⟨p, hp, ?_⟩
    -- heights go on as they did
    have keep : ∀ a ∈ ls, ∀ b ∈ ls, hgt a X D < hgt b X D → hgt a p 120 < hgt b p 120 := fun a ha b hb h => by
      refine same_side (hf a ha) (hf b hb) hD (by decide) h fun hab => ?_
      have hm : (spotOf a b).1 ∈ onsOf ls := onsOf_mem.mpr (.inr ⟨a, ha, b, hb, hab, rfl⟩)
      obtain ⟨i, hi, ei⟩ := List.mem_iff_getElem.mp hm
      have e : (onsOf ls)[i]? = some (spotOf a b).1 := by simp [hi, ei]
      rcases Nat.lt_or_ge i k with hik | hik
      · have g1 := c1 i _ hik e
        have g2 := p1 i _ hik e
        simp only [decide_eq_true_eq] at g1
        exact ⟨fun h => by (first | lia | omega), fun h => by (first | lia | omega)⟩
      · have g1 := c2 i _ hik e
        have g2 := p2 i _ hik e
        simp only [decide_eq_false_iff_not] at g1
        exact ⟨fun h => by (first | lia | omega), fun h => by (first | lia | omega)⟩
    have hmem : ∀ l ∈ ls, l.1 * p + 120 * l.2 ∈ highsOf ls p := fun l hl => by
      unfold highsOf
      rw [(sortT_perm _).mem_iff]
      exact List.mem_map_of_mem hl
    have hmem2 : ∀ x ∈ highsOf ls p, ∃ l ∈ ls, hgt l p 120 = x := fun x hx => by
      unfold highsOf at hx
      rw [(sortT_perm _).mem_iff] at hx
      exact List.mem_map.mp hx
    by_cases hbel : (ls.filter fun l => decide (hgt l X D < Y)) = []
    · refine List.mem_map.mpr ⟨(highsOf ls p).headD 0 - 1, by unfold sampOf; simp, ?_⟩
      rw [signOf_sg]
      refine sg_congr fun l hl => ?_
      have hsort := sortT_sorted (lt := ltI) ltI_tr ltI_asy ltI_tot (ls.map fun l => l.1 * p + 120 * l.2)
      have hml := hmem l hl
      have h1 : ¬ hgt l X D < Y := fun h => by
        have : l ∈ ls.filter fun l => decide (hgt l X D < Y) := List.mem_filter.mpr ⟨hl, decide_eq_true h⟩
        rw [hbel] at this; cases this
      refine ⟨fun h => ?_, fun h => absurd h h1⟩
      exfalso
      change (highsOf ls p).Pairwise _ at hsort
      have hx : hgt l p 120 ∈ highsOf ls p := hml
      generalize highsOf ls p = hs at hsort hx h
      cases hs with
      | nil => cases hx
      | cons a hs =>
        obtain ⟨s1, _⟩ := List.pairwise_cons.mp hsort
        simp only [List.headD_cons] at h
        rcases List.mem_cons.mp hx with e | hx
        · (first | lia | omega)
        · have := s1 _ hx
          unfold ltI at this
          simp only [decide_eq_false_iff_not] at this
          (first | lia | omega)
    · obtain ⟨q, hq, hmax⟩ := max_exists (fun l => hgt l p 120) hbel
      obtain ⟨hqm, hqb⟩ := List.mem_filter.mp hq
      simp only [decide_eq_true_eq] at hqb
      refine List.mem_map.mpr ⟨hgt q p 120 + 1, by unfold sampOf; exact List.mem_append_right _ (List.mem_map.mpr ⟨_, hmem q hqm, rfl⟩), ?_⟩
      rw [signOf_sg]
      refine sg_congr fun l hl => ?_
      constructor
      · intro h
        rcases Int.lt_or_le (hgt l X D) Y with h1 | h1
        · exact h1
        · have := keep q hqm l hl (by (first | lia | omega))
          (first | lia | omega)
      · intro h
        have := hmax l (List.mem_filter.mpr ⟨hl, decide_eq_true h⟩)
        (first | lia | omega)
-- one line more
theorem sg_append (a b : List Ln) (X D Y : Int) : sg (a ++ b) X D Y = sg a X D Y ++ sg b X D Y := by unfold sg; rw [List.map_append]
/-- on the line l, off all others -/
noncomputable def OnLine (ls : List Ln) (l : Ln) (v : List Int) : Prop := ∃ X D, 0 < D ∧ (∀ p ∈ ls, hgt p X D ≠ hgt l X D) ∧ v = sg ls X D (hgt l X D)
noncomputable def bit (b : Bool) : Int := if b then 1 else 0
theorem sg_one (l : Ln) (X D Y : Int) : sg [l] X D Y = [bit (decide (hgt l X D < Y))] := by
  unfold sg bit
  by_cases h : hgt l X D < Y <;> simp [h]
theorem hgt_scale (l : Ln) (c X D : Int) : hgt l (c * X) (c * D) = c * hgt l X D := by unfold hgt; grind
theorem hgt_mix (l : Ln) (a b X D X' D' : Int) : hgt l (a * X + b * X') (a * D + b * D') = a * hgt l X D + b * hgt l X' D' := by unfold hgt; grind
theorem sg_iff {ls : List Ln} {X D Y X' D' Y' : Int} (h : sg ls X D Y = sg ls X' D' Y') : ∀ l ∈ ls, hgt l X D < Y ↔ hgt l X' D' < Y' := by
  unfold sg at h
  intro l hl
  have := List.map_inj_left.mp h l hl
  by_cases h1 : hgt l X D < Y <;> by_cases h2 : hgt l X' D' < Y' <;> simp [h1, h2] at this ⊢ <;> (first | lia | omega)
theorem both_iff {ls : List Ln} {l : Ln} {v : List Int} : (Real (ls ++ [l]) (v ++ [0]) ∧ Real (ls ++ [l]) (v ++ [1])) ↔ OnLine ls l v := by
  constructor
  · rintro ⟨⟨X0, D0, Y0, hD0, e0⟩, X1, D1, Y1, hD1, e1⟩
    rw [sg_append, sg_one] at e0 e1
    obtain ⟨a0, b0⟩ := List.append_inj' e0 (by simp)
    obtain ⟨a1, b1⟩ := List.append_inj' e1 (by simp)
    have h0 : ¬ hgt l X0 D0 < Y0 := fun h => by simp [bit, h] at b0
    have h1 : hgt l X1 D1 < Y1 := by
      rcases Int.lt_or_le (hgt l X1 D1) Y1 with h | h
      · exact h
      · simp [bit, show ¬ hgt l X1 D1 < Y1 by omega] at b1
    have same := sg_iff (a0.symm.trans a1)
    -- A, B: how far the two places are from the line
    have hA : 0 < 2 * hgt l X0 D0 - (2 * Y0 - 1) := by omega
    have hB : 0 < (2 * Y1 - 1) - 2 * hgt l X1 D1 := by omega
    generalize hAe : 2 * hgt l X0 D0 - (2 * Y0 - 1) = A at hA
    generalize hBe : (2 * Y1 - 1) - 2 * hgt l X1 D1 = B at hB
    -- the place on the line between them
    have eY : hgt l (B * (2 * X0) + A * (2 * X1)) (B * (2 * D0) + A * (2 * D1)) = B * (2 * Y0 - 1) + A * (2 * Y1 - 1) := by
      rw [hgt_mix, hgt_scale, hgt_scale]
      have k1 : 2 * hgt l X0 D0 = A + (2 * Y0 - 1) := by omega
      have k2 : 2 * hgt l X1 D1 = (2 * Y1 - 1) - B := by omega
      rw [k1, k2]; grind
    have side : ∀ p ∈ ls, (hgt p X0 D0 < Y0 → hgt p (B * (2 * X0) + A * (2 * X1)) (B * (2 * D0) + A * (2 * D1)) < B * (2 * Y0 - 1) + A * (2 * Y1 - 1)) ∧
        (¬ hgt p X0 D0 < Y0 → B * (2 * Y0 - 1) + A * (2 * Y1 - 1) < hgt p (B * (2 * X0) + A * (2 * X1)) (B * (2 * D0) + A * (2 * D1))) := fun p hp => by
      rw [hgt_mix, hgt_scale, hgt_scale]
      have sm := same p hp
      constructor
      · intro h
        have g1 : 2 * hgt p X0 D0 < 2 * Y0 - 1 := by omega
        have g2 : 2 * hgt p X1 D1 < 2 * Y1 - 1 := by have := sm.mp h; omega
        have := Int.mul_lt_mul_of_pos_left g1 hB
        have := Int.mul_lt_mul_of_pos_left g2 hA
        omega
      · intro h
        have g1 : 2 * Y0 - 1 < 2 * hgt p X0 D0 := by omega
        have g2 : 2 * Y1 - 1 < 2 * hgt p X1 D1 := by have := (not_congr sm).mp h; omega
        have := Int.mul_lt_mul_of_pos_left g1 hB
        have := Int.mul_lt_mul_of_pos_left g2 hA
        omega
    refine ⟨B * (2 * X0) + A * (2 * X1), B * (2 * D0) + A * (2 * D1), ?_, fun p hp => ?_, ?_⟩
    · have := Int.mul_pos hB (show 0 < 2 * D0 by omega)
      have := Int.mul_pos hA (show 0 < 2 * D1 by omega)
      omega
    · rw [eY]
      obtain ⟨s1, s2⟩ := side p hp
      by_cases h : hgt p X0 D0 < Y0
      · have := s1 h; omega
      · have := s2 h; omega
    · rw [eY, a0]
      refine sg_congr fun p hp => ?_
      obtain ⟨s1, s2⟩ := side p hp
      constructor
      · exact s1
      · intro h
        rcases Int.lt_or_le (hgt p X0 D0) Y0 with h1 | h1
        · exact h1
        · have := s2 (by omega); omega
  · rintro ⟨X, D, hD, off, rfl⟩
    constructor
    · refine ⟨X, D, hgt l X D, hD, ?_⟩
      rw [sg_append, sg_one]
      simp [bit]
    · refine ⟨2 * X, 2 * D, 2 * hgt l X D + 1, by omega, ?_⟩
      rw [sg_append, sg_one]
      congr 1
      · refine sg_congr fun p hp => ?_
        have := off p hp
        rw [hgt_scale]; omega
      · rw [hgt_scale]
        simp [bit, show 2 * hgt l X D < 2 * hgt l X D + 1 by omega]
theorem real_snoc {ls : List Ln} {l : Ln} {w : List Int} (h : Real (ls ++ [l]) w) : ∃ v, Real ls v ∧ (w = v ++ [0] ∨ w = v ++ [1]) := by
  obtain ⟨X, D, Y, hD, rfl⟩ := h
  refine ⟨sg ls X D Y, ⟨X, D, Y, hD, rfl⟩, ?_⟩
  rw [sg_append, sg_one]
  unfold bit
  split <;> simp
theorem real_ext {ls : List Ln} {v : List Int} (l : Ln) (h : Real ls v) : Real (ls ++ [l]) (v ++ [0]) ∨ Real (ls ++ [l]) (v ++ [1]) := by
  obtain ⟨X, D, Y, hD, rfl⟩ := h
  have : sg (ls ++ [l]) X D Y = sg ls X D Y ++ [bit (decide (hgt l X D < Y))] := by rw [sg_append, sg_one]
  unfold bit at this
  split at this
  · exact .inr ⟨X, D, Y, hD, this.symm⟩
  · exact .inl ⟨X, D, Y, hD, this.symm⟩
/-- as many as before, and those that the new line cuts -/
theorem count_snoc {ls : List Ln} {l : Ln} {K K' J : List (List Int)} (hK : K.Nodup) (hK' : K'.Nodup) (hJ : J.Nodup) (mK : ∀ v, v ∈ K ↔ Real (ls ++ [l]) v) (mK' : ∀ v, v ∈ K' ↔ Real ls v) (mJ : ∀ v, v ∈ J ↔ OnLine ls l v) :
    K.length = K'.length + J.length := by
  have hJsub : ∀ v, v ∈ J → v ∈ K' := fun v hv => by
    obtain ⟨h1, _⟩ := both_iff.mpr ((mJ v).mp hv)
    obtain ⟨u, hu, e⟩ := real_snoc h1
    rcases e with e | e
    · rw [List.append_inj_left' e rfl]; exact (mK' u).mpr hu
    · rw [List.append_inj_left' e rfl]; exact (mK' u).mpr hu
  have len0 : ∀ (L : List (List Int)), L.Nodup → (∀ b : Int, ((L.map fun v => v ++ [b])).Nodup) := fun L hL b =>
    List.Pairwise.map _ (fun x y hxy e => hxy (List.append_inj_left' e rfl)) hL
  -- those that go on with 0, with 1
  let Z := K'.filter fun v => decide (v ++ [0] ∈ K)
  let O := K'.filter fun v => decide (v ++ [1] ∈ K)
  have p1 : K.Perm (Z.map (fun v => v ++ [0]) ++ O.map fun v => v ++ [1]) := by
    refine (List.perm_ext_iff_of_nodup hK ?_).mpr fun w => ?_
    · refine List.nodup_append.mpr ⟨len0 _ (hK'.filter _) 0, len0 _ (hK'.filter _) 1, fun a ha b hb e => ?_⟩
      obtain ⟨u, _, rfl⟩ := List.mem_map.mp ha
      obtain ⟨u', _, rfl⟩ := List.mem_map.mp hb
      have := List.append_inj_right' e rfl
      simp at this
    · rw [List.mem_append, List.mem_map, List.mem_map]
      constructor
      · intro hw
        obtain ⟨v, hv, e⟩ := real_snoc ((mK w).mp hw)
        rcases e with rfl | rfl
        · exact .inl ⟨v, List.mem_filter.mpr ⟨(mK' v).mpr hv, decide_eq_true hw⟩, rfl⟩
        · exact .inr ⟨v, List.mem_filter.mpr ⟨(mK' v).mpr hv, decide_eq_true hw⟩, rfl⟩
      · rintro (⟨v, hv, rfl⟩ | ⟨v, hv, rfl⟩)
        · exact of_decide_eq_true (List.mem_filter.mp hv).2
        · exact of_decide_eq_true (List.mem_filter.mp hv).2
  have e1 := p1.length_eq
  rw [List.length_append, List.length_map, List.length_map] at e1
  have p2 : J.Perm (K'.filter fun v => decide (v ++ [0] ∈ K) && decide (v ++ [1] ∈ K)) := by
    refine (List.perm_ext_iff_of_nodup hJ (hK'.filter _)).mpr fun v => ?_
    rw [List.mem_filter, mJ, ← both_iff, Bool.and_eq_true, decide_eq_true_iff, decide_eq_true_iff, mK, mK]
    constructor
    · intro h
      exact ⟨hJsub v ((mJ v).mpr (both_iff.mp h)), h⟩
    · exact fun h => h.2
  have e2 := p2.length_eq
  have key : ∀ L : List (List Int), (∀ v ∈ L, v ++ [0] ∈ K ∨ v ++ [1] ∈ K) → (L.filter fun v => decide (v ++ [0] ∈ K)).length + (L.filter fun v => decide (v ++ [1] ∈ K)).length = L.length + (L.filter fun v => decide (v ++ [0] ∈ K) && decide (v ++ [1] ∈ K)).length := by
    intro L
    induction L with
    | nil => intro _; rfl
    | cons v L ih =>
      intro h
      have hv := h v (.head _)
      have := ih fun u hu => h u (.tail _ hu)
      simp only [List.filter_cons]
      by_cases a : v ++ [0] ∈ K <;> by_cases b : v ++ [1] ∈ K <;> simp only [a, b, decide_true, decide_false, Bool.and_true, Bool.and_false, Bool.true_and, Bool.false_and, if_true, if_false, Bool.false_eq_true, List.length_cons] <;> first | (first | lia | omega) | (exfalso; exact hv.elim a b)
  have := key K' fun v hv => by
    rcases real_ext l ((mK' v).mp hv) with h | h
    · exact .inl ((mK _).mpr h)
    · exact .inr ((mK _).mpr h)
  change K.length = (K'.filter fun v => decide (v ++ [0] ∈ K)).length + (K'.filter fun v => decide (v ++ [1] ∈ K)).length at e1
  (first | lia | omega)
theorem met_mem {ls : List Ln} {l : Ln} {s : Int × Int} : s ∈ metOf ls l ↔ ∃ q ∈ ls, q.1 ≠ l.1 ∧ s = spotOf l q := by
  unfold metOf
  rw [(sortT_perm _).mem_iff, dedup_mem]
  unfold metRaw
  rw [List.mem_flatMap]
  constructor
  · rintro ⟨q, hq, h⟩
    split at h
    · cases h
    · rename_i hne
      exact ⟨q, hq, hne, List.mem_singleton.mp h⟩
  · rintro ⟨q, hq, hne, rfl⟩
    exact ⟨q, hq, by rw [if_neg hne]; simp⟩
theorem met_nodup (ls : List Ln) (l : Ln) : (metOf ls l).Nodup := sortT_nodup (dedup_nodup _)
theorem met_ons (ls : List Ln) (l : Ln) : ((metOf ls l).map (·.1)).Pairwise (· < ·) := by
  refine List.pairwise_map.mpr ?_
  have h := List.pairwise_and_iff.mpr ⟨sortT_sorted (lt := ltP) ltP_tr ltP_asy ltP_tot (dedup (metRaw ls l)), (show (metOf ls l).Pairwise (· ≠ ·) from met_nodup ls l)⟩
  refine h.imp_of_mem fun {a b} ha hb ⟨h1, h2⟩ => ?_
  obtain ⟨p, _, _, rfl⟩ := met_mem.mp ha
  obtain ⟨q, _, _, rfl⟩ := met_mem.mp hb
  unfold ltP at h1
  split at h1
  · rename_i e
    exact absurd (Prod.ext e.symm (by rw [spot_snd, spot_snd, e])) h2
  · simp only [decide_eq_false_iff_not] at h1
    rename_i e
    (first | lia | omega)
noncomputable def gapAt (T : List Int) (k : Nat) : Int := if k = 0 then 2 * T.headD 0 - 1 else 2 * T.getD (k - 1) 0 + 1
theorem gap_at {T : List Int} (hT : T.Pairwise (· < ·)) {k : Nat} (hk : k ≤ T.length) : (∀ (i : Nat) (t : Int), i < k → T[i]? = some t → 2 * t < gapAt T k) ∧ ∀ (i : Nat) (t : Int), k ≤ i → T[i]? = some t → gapAt T k < 2 * t := by
  have mono : ∀ (i j : Nat) (s t : Int), i < j → T[i]? = some s → T[j]? = some t → s < t := fun i j s t hij hs ht => by
    obtain ⟨hi, ei⟩ := List.getElem?_eq_some_iff.mp hs
    obtain ⟨hj, ej⟩ := List.getElem?_eq_some_iff.mp ht
    have := List.pairwise_iff_getElem.mp hT i j hi hj hij
    rw [ei, ej] at this; exact this
  have monoe : ∀ (i j : Nat) (s t : Int), i ≤ j → T[i]? = some s → T[j]? = some t → s ≤ t := fun i j s t hij hs ht => by
    rcases Nat.eq_or_lt_of_le hij with rfl | h
    · rw [hs] at ht; cases ht; exact Int.le_refl _
    · exact Int.le_of_lt (mono i j s t h hs ht)
  have get : ∀ i, i < T.length → T[i]? = some (T.getD i 0) := fun i h => by simp [h]
  unfold gapAt
  rcases Nat.eq_zero_or_pos k with rfl | hpos
  · rw [if_pos rfl]
    refine ⟨fun i t h => by (first | lia | omega), fun i t _ h => ?_⟩
    have h0 : T[0]? = some (T.headD 0) := by cases T <;> simp_all
    have := monoe 0 i _ t (Nat.zero_le _) h0 h
    (first | lia | omega)
  · rw [if_neg (by (first | lia | omega))]
    refine ⟨fun i t hi h => ?_, fun i t hi h => ?_⟩
    · have := monoe i (k - 1) t _ (by (first | lia | omega)) h (get _ (by (first | lia | omega)))
      (first | lia | omega)
    · have := mono (k - 1) i _ t (by (first | lia | omega)) (get _ (by (first | lia | omega))) h
      (first | lia | omega)
theorem spot_comm {p q : Ln} (hp : FitL p) (hq : FitL q) (hne : p.1 ≠ q.1) : spotOf p q = spotOf q p :=
  spot_unique hq hp (Ne.symm hne) (onL_right hp hq hne) (onL_left p q)
noncomputable def lineRow (ls : List Ln) (l : Ln) (k : Nat) : List Int := sg ls (gapAt ((metOf ls l).map (·.1)) k) 24 (hgt l (gapAt ((metOf ls l).map (·.1)) k) 24)
theorem line_count {ls : List Ln} {l : Ln} (hf : ∀ p ∈ ls, FitL p) (hl : FitL l) (hn : l ∉ ls) :
    ((List.range ((metOf ls l).length + 1)).map (lineRow ls l)).Nodup ∧ ∀ v, v ∈ (List.range ((metOf ls l).length + 1)).map (lineRow ls l) ↔ OnLine ls l v := by
  have hT := met_ons ls l
  have hm : ∀ p ∈ ls, p.1 ≠ l.1 → (spotOf p l).1 ∈ (metOf ls l).map (·.1) := fun p hp hne => by
    rw [spot_comm (hf p hp) hl hne]
    exact List.mem_map_of_mem (met_mem.mpr ⟨p, hp, hne, rfl⟩)
  have hm2 : ∀ t ∈ (metOf ls l).map (·.1), ∃ p ∈ ls, p.1 ≠ l.1 ∧ t = (spotOf p l).1 := fun t ht => by
    obtain ⟨s, hs, rfl⟩ := List.mem_map.mp ht
    obtain ⟨p, hp, hne, rfl⟩ := met_mem.mp hs
    exact ⟨p, hp, hne, by rw [spot_comm (hf p hp) hl hne]⟩
  have hlen : ((metOf ls l).map (·.1)).length = (metOf ls l).length := List.length_map ..
  unfold lineRow
  generalize (metOf ls l).map (·.1) = T at *
  rw [← hlen]
  refine ⟨?_, fun v => ?_⟩
  · refine List.pairwise_map.mpr ((List.pairwise_lt_range).imp_of_mem fun {i k} hi hk hik e => ?_)
    have hk' := List.mem_range.mp hk
    have hiT : i < T.length := by (first | lia | omega)
    have ei : T[i]? = some T[i] := List.getElem?_eq_getElem hiT
    obtain ⟨p, hp, hne, et⟩ := hm2 T[i] (List.getElem_mem hiT)
    have g1 := (gap_at hT (k := i) (by (first | lia | omega))).2 i _ (Nat.le_refl _) ei
    have g2 := (gap_at hT (k := k) (by (first | lia | omega))).1 i _ hik ei
    have si := sg_iff e p hp
    rw [et] at g1 g2
    have c1 := cross (hf p hp) hl hne (gapAt T i) 24
    have c2 := cross (hf p hp) hl hne (gapAt T k) 24
    generalize (spotOf p l).1 = on at *
    generalize gapAt T i = a at *
    generalize gapAt T k = b at *
    have z1 : 0 < 24 * on - 12 * a := by (first | lia | omega)
    have z2 : 0 < 12 * b - 24 * on := by (first | lia | omega)
    rcases Int.lt_or_gt_of_ne hne with h | h
    · have k1 := Int.mul_pos (show 0 < l.1 - p.1 by (first | lia | omega)) z1
      have k2 := Int.mul_pos (show 0 < l.1 - p.1 by (first | lia | omega)) z2
      have e1 : (p.1 - l.1) * (12 * a - 24 * on) = (l.1 - p.1) * (24 * on - 12 * a) := by grind
      have e2 : (p.1 - l.1) * (12 * b - 24 * on) = - ((l.1 - p.1) * (12 * b - 24 * on)) := by grind
      (first | lia | omega)
    · have k1 := Int.mul_pos (show 0 < p.1 - l.1 by (first | lia | omega)) z1
      have k2 := Int.mul_pos (show 0 < p.1 - l.1 by (first | lia | omega)) z2
      have e1 : (p.1 - l.1) * (12 * a - 24 * on) = - ((p.1 - l.1) * (24 * on - 12 * a)) := by grind
      (first | lia | omega)
  · rw [List.mem_map]
    constructor
    · rintro ⟨k, hk, rfl⟩
      have hk' := List.mem_range.mp hk
      obtain ⟨g1, g2⟩ := gap_at hT (k := k) (by (first | lia | omega))
      refine ⟨gapAt T k, 24, by decide, fun p hp e => ?_, rfl⟩
      by_cases hne : p.1 = l.1
      · unfold hgt at e
        rw [hne] at e
        exact hn ((show l = p from Prod.ext hne.symm (by (first | lia | omega))) ▸ hp)
      · have hmm := hm p hp hne
        obtain ⟨i, hi, ei⟩ := List.mem_iff_getElem.mp hmm
        have ei' : T[i]? = some (spotOf p l).1 := by rw [List.getElem?_eq_getElem hi, ei]
        have c1 := cross (hf p hp) hl hne (gapAt T k) 24
        have hz : (p.1 - l.1) * (12 * gapAt T k - 24 * (spotOf p l).1) = 0 := by rw [← c1, e]; (first | lia | omega)
        rcases Int.mul_eq_zero.mp hz with h | h
        · (first | lia | omega)
        · rcases Nat.lt_or_ge i k with hik | hik
          · have := g1 i _ hik ei'; (first | lia | omega)
          · have := g2 i _ hik ei'; (first | lia | omega)
    · rintro ⟨X, D, hD, off, rfl⟩
      obtain ⟨k, hk, c1, c2⟩ := cut_exists hT (fun t => decide (D * t < 12 * X)) (fun a b hab h => by
        simp only [decide_eq_true_eq] at *
        have := Int.mul_le_mul_of_nonneg_left hab (Int.le_of_lt hD); (first | lia | omega))
      obtain ⟨g1, g2⟩ := gap_at hT hk
      refine ⟨k, List.mem_range.mpr (by (first | lia | omega)), sg_congr fun p hp => ?_⟩
      have sides : p.1 ≠ l.1 → (D * (spotOf p l).1 < 12 * X ∧ 2 * (spotOf p l).1 < gapAt T k) ∨ (12 * X < D * (spotOf p l).1 ∧ gapAt T k < 2 * (spotOf p l).1) := fun hne => by
        obtain ⟨i, hi, ei⟩ := List.mem_iff_getElem.mp (hm p hp hne)
        have ei' : T[i]? = some (spotOf p l).1 := by rw [List.getElem?_eq_getElem hi, ei]
        rcases Nat.lt_or_ge i k with hik | hik
        · have h := c1 i _ hik ei'
          simp only [decide_eq_true_eq] at h
          exact .inl ⟨h, g1 i _ hik ei'⟩
        · have h := c2 i _ hik ei'
          simp only [decide_eq_false_iff_not] at h
          refine .inr ⟨?_, g2 i _ hik ei'⟩
          have c := cross (hf p hp) hl hne X D
          have ho := off p hp
          rcases Int.lt_or_eq_of_le (show 12 * X ≤ D * (spotOf p l).1 by (first | lia | omega)) with h1 | h1
          · exact h1
          · rw [h1, Int.sub_self, Int.mul_zero] at c; (first | lia | omega)
      constructor
      · intro h
        refine same_side (hf p hp) hl (by decide) hD h fun hne => ?_
        rcases sides hne with ⟨a, b⟩ | ⟨a, b⟩ <;> constructor <;> intro _ <;> (first | lia | omega)
      · intro h
        refine same_side (hf p hp) hl hD (by decide) h fun hne => ?_
        rcases sides hne with ⟨a, b⟩ | ⟨a, b⟩ <;> constructor <;> intro _ <;> (first | lia | omega)
theorem take_getD {ls : List Ln} {j : Nat} (h : j < ls.length) : ls.take (j + 1) = ls.take j ++ [ls.getD j (0, 0)] := by
  rw [List.take_add_one]; simp [h]
theorem getD_mem {ls : List Ln} {j : Nat} (h : j < ls.length) : ls.getD j (0, 0) ∈ ls := by simp [h]
theorem not_before {ls : List Ln} (hn : ls.Nodup) {j : Nat} (h : j < ls.length) : ls.getD j (0, 0) ∉ ls.take j := fun hm => by
  obtain ⟨i, hi, e⟩ := List.mem_iff_getElem.mp hm
  rw [List.length_take] at hi
  rw [List.getElem_take] at e
  have hpw := List.pairwise_iff_getElem.mp (show ls.Pairwise (· ≠ ·) from hn) i j (by (first | lia | omega)) h (by (first | lia | omega))
  refine hpw (e.trans ?_)
  simp [h]
theorem told_succ (ls : List Ln) (j : Nat) : toldAt ls (j + 1) = toldAt ls j + 1 + ((metOf (ls.take j) (ls.getD j (0, 0))).length : Nat) := rfl
theorem signs_told {ls : List Ln} (hf : ∀ l ∈ ls, FitL l) (hn : ls.Nodup) (hne : ls ≠ []) : ((signsOf ls).length : Int) = toldAt ls ls.length := by
  have key : ∀ j, j ≤ ls.length → ∃ K : List (List Int), K.Nodup ∧ (∀ v, v ∈ K ↔ Real (ls.take j) v) ∧ (K.length : Int) = toldAt ls j := by
    intro j
    induction j with
    | zero =>
      intro _
      refine ⟨[[]], by simp, fun v => ?_, rfl⟩
      rw [List.mem_singleton]
      constructor
      · rintro rfl; exact ⟨0, 1, 0, by decide, rfl⟩
      · rintro ⟨X, D, Y, _, rfl⟩; rfl
    | succ j ih =>
      intro hj
      obtain ⟨K', n', m', c'⟩ := ih (by (first | lia | omega))
      have hjl : j < ls.length := by (first | lia | omega)
      have e := take_getD hjl
      have hlm := getD_mem hjl
      have hnb := not_before hn hjl
      have ht := told_succ ls j
      generalize ls.getD j (0, 0) = l at *
      have hf' : ∀ p ∈ ls.take j, FitL p := fun p hp => hf p (List.mem_of_mem_take hp)
      obtain ⟨jn, jm⟩ := line_count hf' (hf l hlm) hnb
      have hfk : ∀ p ∈ ls.take j ++ [l], FitL p := fun p hp => by
        rcases List.mem_append.mp hp with h | h
        · exact hf' p h
        · rw [List.mem_singleton.mp h]; exact hf l hlm
      have mk : ∀ v, v ∈ dedup (signsAll (ls.take j ++ [l])) ↔ Real (ls.take j ++ [l]) v := fun v => by rw [dedup_mem]; exact signs_real hfk (by simp)
      have hc := count_snoc (dedup_nodup _) n' jn mk m' jm
      rw [e]
      refine ⟨_, dedup_nodup _, mk, ?_⟩
      rw [List.length_map, List.length_range] at hc
      rw [ht, ← c']
      (first | lia | omega)
  obtain ⟨K, n, m, c⟩ := key ls.length (Nat.le_refl _)
  rw [List.take_length] at m
  have p : (signsOf ls).Perm K := (List.perm_ext_iff_of_nodup (dedup_nodup _) n).mpr fun v => by
    rw [dedup_mem, m, signs_real hf hne]
  rw [p.length_eq, c]

-- sums
noncomputable def tot {α : Type} (l : List α) (f : α → Nat) : Nat := match l with
  | [] => 0
  | a :: l => f a + tot l f
theorem tot_add {α : Type} (l : List α) (f g : α → Nat) : tot l (fun a => f a + g a) = tot l f + tot l g := by
  induction l with
  | nil => rfl
  | cons a l ih => simp only [tot, ih]; (first | lia | omega)
theorem tot_zero {α : Type} (l : List α) : tot l (fun _ => 0) = 0 := by
  induction l with
  | nil => rfl
  | cons a l ih => simp only [tot, ih]
theorem tot_swap {α β : Type} (l : List α) (r : List β) (f : α → β → Nat) : tot l (fun a => tot r (f a)) = tot r (fun b => tot l (fun a => f a b)) := by
  induction l with
  | nil => simp only [tot, tot_zero]
  | cons a l ih => simp only [tot, ih, tot_add]
theorem tot_congr {α : Type} {l : List α} {f g : α → Nat} (h : ∀ a ∈ l, f a = g a) : tot l f = tot l g := by
  induction l with
  | nil => rfl
  | cons a l ih => simp only [tot]; rw [h a (.head _), ih fun b hb => h b (.tail _ hb)]
theorem tot_filter {α : Type} (l : List α) (p : α → Bool) : (l.filter p).length = tot l (fun a => if p a then 1 else 0) := by
  induction l with
  | nil => rfl
  | cons a l ih =>
    simp only [tot, List.filter_cons]
    split <;> simp only [List.length_cons, ih] <;> (first | lia | omega)
theorem tot_one {α : Type} (l : List α) : tot l (fun _ => 1) = l.length := by
  induction l with
  | nil => rfl
  | cons a l ih => simp only [tot, ih, List.length_cons]; (first | lia | omega)
theorem tot_append {α : Type} (a b : List α) (f : α → Nat) : tot (a ++ b) f = tot a f + tot b f := by
  induction a with
  | nil => simp [tot]
  | cons x a ih => simp only [List.cons_append, tot, ih]; (first | lia | omega)
theorem len_flat {α β : Type} (l : List α) (f : α → List β) : (l.flatMap f).length = tot l (fun a => (f a).length) := by
  induction l with
  | nil => rfl
  | cons a l ih => rw [List.flatMap_cons, List.length_append, ih]; rfl
theorem told_tot (ls : List Ln) (j : Nat) : toldAt ls j = 1 + (j : Int) + (tot (List.range j) (fun i => (metOf (ls.take i) (ls.getD i (0, 0))).length) : Nat) := by
  induction j with
  | zero => rfl
  | succ j ih =>
    rw [told_succ, ih, List.range_succ, tot_append]
    simp only [tot]
    (first | lia | omega)
/-- each but the first -/
theorem later_count (ls : List Ln) (p : Ln → Bool) : ∀ j, j ≤ ls.length → tot (List.range j) (fun i => if p (ls.getD i (0, 0)) && (ls.take i).any p then 1 else 0) + (if (ls.take j).any p then 1 else 0) = ((ls.take j).filter p).length := by
  intro j
  induction j with
  | zero => intro _; rfl
  | succ j ih =>
    intro hj
    have := ih (by omega)
    rw [List.range_succ, tot_append, take_getD (by omega), List.any_append, List.filter_append, List.length_append]
    simp only [tot, List.any_cons, List.any_nil, Bool.or_false, List.filter_cons, List.filter_nil]
    generalize p (ls.getD j (0, 0)) = b at *
    generalize (ls.take j).any p = c at *
    cases b <;> cases c <;> simp at this ⊢ <;> omega

-- spots
theorem spotsStep_mem {acc : List (Int × Int)} {s x : Int × Int} : x ∈ spotsStep acc s ↔ x ∈ acc ∨ x = s := by
  unfold spotsStep
  split
  · constructor
    · exact .inl
    · rintro (h | rfl) <;> assumption
  · rw [insT_mem]; exact Or.comm
theorem spotsFold_mem {x : Int × Int} : ∀ {m acc : List (Int × Int)}, x ∈ m.foldl spotsStep acc ↔ x ∈ acc ∨ x ∈ m
  | [], acc => by simp
  | s :: m, acc => by rw [List.foldl_cons, spotsFold_mem, spotsStep_mem, List.mem_cons]; simp only [or_assoc]
theorem spotsStep_nodup {acc : List (Int × Int)} {s : Int × Int} (h : acc.Nodup) : (spotsStep acc s).Nodup := by
  unfold spotsStep
  split
  · exact h
  · rename_i hs
    exact (insT_perm s acc).nodup_iff.mpr (List.nodup_cons.mpr ⟨hs, h⟩)
theorem spotsFold_nodup : ∀ {m acc : List (Int × Int)}, acc.Nodup → (m.foldl spotsStep acc).Nodup
  | [], acc, h => h
  | s :: m, acc, h => spotsFold_nodup (m := m) (spotsStep_nodup h)
theorem spotsAt_nodup (ls : List Ln) : ∀ j, (spotsAt ls j).Nodup
  | 0 => .nil
  | j + 1 => spotsFold_nodup (spotsAt_nodup ls j)
theorem spotsAt_mem {ls : List Ln} {x : Int × Int} : ∀ {j : Nat}, x ∈ spotsAt ls j ↔ ∃ i, i < j ∧ x ∈ metOf (ls.take i) (ls.getD i (0, 0))
  | 0 => by simp [spotsAt]
  | j + 1 => by
    show x ∈ (metOf (ls.take j) (ls.getD j (0, 0))).foldl spotsStep (spotsAt ls j) ↔ _
    rw [spotsFold_mem, spotsAt_mem (j := j)]
    constructor
    · rintro (⟨i, hi, h⟩ | h)
      · exact ⟨i, by (first | lia | omega), h⟩
      · exact ⟨j, by (first | lia | omega), h⟩
    · rintro ⟨i, hi, h⟩
      rcases Nat.lt_or_eq_of_le (show i ≤ j by (first | lia | omega)) with h1 | rfl
      · exact .inl ⟨i, h1, h⟩
      · exact .inr h
theorem met_iff {ls : List Ln} (hf : ∀ l ∈ ls, FitL l) (hn : ls.Nodup) {j : Nat} (hj : j < ls.length) {s : Int × Int} :
    s ∈ metOf (ls.take j) (ls.getD j (0, 0)) ↔ s ∈ spotsAt ls ls.length ∧ (onL (ls.getD j (0, 0)) s && (ls.take j).any fun l => onL l s) = true := by
  have hlm := getD_mem hj
  have hnb := not_before hn hj
  rw [Bool.and_eq_true, List.any_eq_true]
  constructor
  · intro h
    refine ⟨spotsAt_mem.mpr ⟨j, hj, h⟩, ?_⟩
    obtain ⟨q, hq, hne, rfl⟩ := met_mem.mp h
    exact ⟨onL_left _ _, q, hq, onL_right (hf _ hlm) (hf q (List.mem_of_mem_take hq)) (Ne.symm hne)⟩
  · rintro ⟨_, h1, q, hq, h2⟩
    have hne : q ≠ ls.getD j (0, 0) := fun e => hnb (e ▸ hq)
    have hs := slope_ne h2 h1 hne
    exact met_mem.mpr ⟨q, hq, hs, spot_unique (hf _ hlm) (hf q (List.mem_of_mem_take hq)) (Ne.symm hs) h1 h2⟩
theorem spot_two {ls : List Ln} (hf : ∀ l ∈ ls, FitL l) (hn : ls.Nodup) {s : Int × Int} (h : s ∈ spotsAt ls ls.length) : ∃ p ∈ ls, ∃ q ∈ ls, p ≠ q ∧ onL p s = true ∧ onL q s = true := by
  obtain ⟨j, hj, h⟩ := spotsAt_mem.mp h
  obtain ⟨q, hq, hne, rfl⟩ := met_mem.mp h
  have hq' := List.mem_of_mem_take hq
  exact ⟨_, getD_mem hj, q, hq', fun e => not_before hn hj (e ▸ hq), onL_left _ _, onL_right (hf _ (getD_mem hj)) (hf q hq') (Ne.symm hne)⟩
/-- spots met, line by line, are lines through spots, but the first of each -/
theorem met_total {ls : List Ln} (hf : ∀ l ∈ ls, FitL l) (hn : ls.Nodup) :
    tot (List.range ls.length) (fun i => (metOf (ls.take i) (ls.getD i (0, 0))).length) + (spotsAt ls ls.length).length = tot (spotsAt ls ls.length) (fun s => (ls.filter fun l => onL l s).length) := by
  have e1 : tot (List.range ls.length) (fun i => (metOf (ls.take i) (ls.getD i (0, 0))).length) = tot (List.range ls.length) (fun i => tot (spotsAt ls ls.length) fun s => if onL (ls.getD i (0, 0)) s && (ls.take i).any (fun l => onL l s) then 1 else 0) := by
    refine tot_congr fun i hi => ?_
    rw [← tot_filter]
    refine ((List.perm_ext_iff_of_nodup (met_nodup _ _) ((spotsAt_nodup ls _).filter _)).mpr fun s => ?_).length_eq
    rw [List.mem_filter]
    exact met_iff hf hn (List.mem_range.mp hi)
  rw [e1, tot_swap, ← tot_one (spotsAt ls ls.length), ← tot_add]
  refine tot_congr fun s hs => ?_
  have := later_count ls (fun l => onL l s) ls.length (Nat.le_refl _)
  rw [List.take_length] at this
  obtain ⟨p, hp, _, _, _, h1, _⟩ := spot_two hf hn hs
  have ha : (ls.any fun l => onL l s) = true := List.any_eq_true.mpr ⟨p, hp, h1⟩
  rw [ha] at this
  simpa using this
-- the table of calls
noncomputable def eventsOf (ls : List Ln) (S : List (Int × Int)) : List (Int × Int) := ls.flatMap fun l => S.filter (onL l)
theorem callsOf_events (ls : List Ln) (S : List (Int × Int)) : callsOf ls S = (eventsOf ls S).foldl bump [] := by
  have key : ∀ (ls : List Ln) (cs : List ((Int × Int) × Int)), ls.foldl (fun cs l => S.foldl (bumpIf l) cs) cs = (ls.flatMap fun l => S.filter (onL l)).foldl bump cs := by
    intro ls
    induction ls with
    | nil => intro cs; rfl
    | cons l ls ih =>
      intro cs
      rw [List.foldl_cons, List.flatMap_cons, List.foldl_append, ih, List.foldl_filter]
      rfl
  exact key ls []
theorem sumL_cons (x : Int) (l : List Int) : sumL (x :: l) = x + sumL l := by
  have : ∀ (l : List Int) (a b : Int), l.foldl (· + ·) (a + b) = a + l.foldl (· + ·) b := by
    intro l
    induction l with
    | nil => intro a b; rfl
    | cons y l ih => intro a b; simp only [List.foldl_cons]; rw [Int.add_assoc, ih]
  show (x :: l).foldl (· + ·) 0 = _
  rw [List.foldl_cons, Int.zero_add]
  have := this l x 0
  rw [Int.add_zero] at this
  exact this
theorem sumL_nil : sumL [] = 0 := rfl
theorem sumL_snoc (l : List Int) (x : Int) : sumL (l ++ [x]) = sumL l + x := by
  induction l with
  | nil => rw [List.nil_append, sumL_cons, sumL_nil]; (first | lia | omega)
  | cons y l ih => rw [List.cons_append, sumL_cons, sumL_cons, ih]; (first | lia | omega)
theorem bump_sum {cs : List ((Int × Int) × Int)} (hn : (cs.map (·.1)).Nodup) (s : Int × Int) : sumL ((bump cs s).map (·.2)) = sumL (cs.map (·.2)) + 1 := by
  unfold bump
  split
  · rename_i hs
    induction cs with
    | nil => cases hs
    | cons c cs ih =>
      simp only [List.map_cons, List.nodup_cons] at hn
      simp only [List.map_cons, sumL_cons]
      by_cases h : c.1 = s
      · rw [if_pos h]
        have e : (cs.map (fun c => if c.1 = s then (c.1, c.2 + 1) else c)) = cs := by
          refine (List.map_congr_left fun d hd => ?_).trans (List.map_id _)
          rw [if_neg (fun e => hn.1 (by rw [h, ← e]; exact List.mem_map_of_mem hd))]; rfl
        rw [e]; show c.2 + 1 + _ = _; (first | lia | omega)
      · rw [if_neg h]
        have hs' : s ∈ cs.map (·.1) := by
          rcases List.mem_cons.mp hs with e | e
          · exact absurd e.symm h
          · exact e
        rw [ih hn.2 hs']; (first | lia | omega)
  · rw [List.map_append, List.map_cons, List.map_nil, sumL_snoc]
theorem bump_count {cs : List ((Int × Int) × Int)} {E : List (Int × Int)} (s : Int × Int) (hk : cs.map (·.1) = dedup E) (hc : ∀ c ∈ cs, c.2 = (E.count c.1 : Int)) : ∀ c ∈ bump cs s, c.2 = ((E ++ [s]).count c.1 : Int) := by
  intro c hcm
  rw [List.count_append]
  unfold bump at hcm
  split at hcm
  · obtain ⟨d, hd, rfl⟩ := List.mem_map.mp hcm
    have := hc d hd
    by_cases h : d.1 = s
    · rw [if_pos h]
      show d.2 + 1 = _
      rw [this, h]; simp
    · rw [if_neg h, this]
      have : List.count d.1 [s] = 0 := List.count_eq_zero.mpr (by simpa using h)
      rw [this]; simp
  · rename_i hs
    rcases List.mem_append.mp hcm with h | h
    · have hne : c.1 ≠ s := fun e => hs (e ▸ List.mem_map_of_mem h)
      have : List.count c.1 [s] = 0 := List.count_eq_zero.mpr (by simpa using hne)
      rw [hc c h, this]; simp
    · rw [List.mem_singleton.mp h]
      have : E.count s = 0 := List.count_eq_zero.mpr (fun hm => hs (by rw [hk]; exact dedup_mem.mpr hm))
      simp [this]
theorem bumps_all (E : List (Int × Int)) : ((E.foldl bump []).map (·.1) = dedup E) ∧ (∀ c ∈ E.foldl bump [], c.2 = (E.count c.1 : Int)) ∧ sumL ((E.foldl bump []).map (·.2)) = (E.length : Int) := by
  have key : ∀ (n : Nat) (E : List (Int × Int)), E.length = n → ((E.foldl bump []).map (·.1) = dedup E) ∧ (∀ c ∈ E.foldl bump [], c.2 = (E.count c.1 : Int)) ∧ sumL ((E.foldl bump []).map (·.2)) = (E.length : Int) := by
    intro n
    induction n with
    | zero =>
      intro E hE
      rw [List.length_eq_zero_iff.mp hE]
      exact ⟨rfl, fun c hc => (by cases hc), rfl⟩
    | succ n ih =>
      intro E hE
      have hne : E ≠ [] := fun e => by rw [e] at hE; cases hE
      obtain ⟨E', s, rfl⟩ : ∃ E' s, E = E' ++ [s] := ⟨E.dropLast, E.getLast hne, (List.dropLast_concat_getLast hne).symm⟩
      obtain ⟨h1, h2, h3⟩ := ih E' (by simpa using hE)
      rw [List.foldl_append]
      simp only [List.foldl_cons, List.foldl_nil]
      have hnd : ((E'.foldl bump []).map (·.1)).Nodup := by rw [h1]; exact dedup_nodup _
      refine ⟨?_, bump_count s h1 h2, ?_⟩
      · rw [bump_keys, h1]; unfold dedup; rw [List.foldl_append]; rfl
      · rw [bump_sum hnd, h3]; simp
  exact key _ E rfl
theorem count_filter_nodup {S : List (Int × Int)} (hn : S.Nodup) {s : Int × Int} (hs : s ∈ S) (p : Int × Int → Bool) : (S.filter p).count s = if p s then 1 else 0 := by
  by_cases h : p s = true
  · rw [if_pos h, List.count_filter h]
    rw [hn.count, if_pos hs]
  · rw [if_neg h]
    exact List.count_eq_zero.mpr fun hm => h (List.mem_filter.mp hm).2
theorem count_events {ls : List Ln} {S : List (Int × Int)} (hn : S.Nodup) {s : Int × Int} (hs : s ∈ S) : (eventsOf ls S).count s = (ls.filter fun l => onL l s).length := by
  unfold eventsOf
  induction ls with
  | nil => rfl
  | cons l ls ih =>
    rw [List.flatMap_cons, List.count_append, ih, count_filter_nodup hn hs, List.filter_cons]
    by_cases h : onL l s = true
    · rw [if_pos h, if_pos h, List.length_cons]; (first | lia | omega)
    · rw [if_neg h, if_neg h]; (first | lia | omega)
theorem two_of_mem {α : Type} {l : List α} {a b : α} (ha : a ∈ l) (hb : b ∈ l) (h : a ≠ b) : 2 ≤ l.length := by
  match l, ha, hb with
  | [x], ha, hb => exact absurd ((List.mem_singleton.mp ha).trans (List.mem_singleton.mp hb).symm) h
  | x :: y :: l, _, _ => simp
theorem sumL_sub (C : List ((Int × Int) × Int)) : sumL (C.map fun c => c.2 - 1) = sumL (C.map (·.2)) - (C.length : Int) := by
  induction C with
  | nil => rfl
  | cons c C ih => simp only [List.map_cons, sumL_cons, List.length_cons, ih]; (first | lia | omega)
theorem sumL_tot {α : Type} (l : List α) (f : α → Nat) : sumL (l.map fun a => 1 + (f a : Int)) = (l.length : Int) + (tot l f : Nat) := by
  induction l with
  | nil => rfl
  | cons a l ih => simp only [List.map_cons, sumL_cons, List.length_cons, tot, ih]; (first | lia | omega)
theorem told_most (ls : List Ln) : ∀ j : Nat, j ≤ ls.length → 2 * toldAt ls j ≤ 2 + 2 * (j : Int) + (j : Int) * ((j : Int) - 1)
  | 0, _ => by simp [toldAt]
  | j + 1, h => by
    have h1 := told_most ls j (by (first | lia | omega))
    have h2 := metOf_length (ls.take j) (ls.getD j (0, 0))
    have h3 := List.length_take_le j ls
    rw [told_succ]
    have e : ((j + 1 : Nat) : Int) * (((j + 1 : Nat) : Int) - 1) = (j : Int) * ((j : Int) - 1) + 2 * (j : Int) := by
      push_cast
      grind
    rw [e]
    (first | lia | omega)
theorem facts {ls : List Ln} (hfit : Fit ls) (hn : ls.Nodup) (hne : ls ≠ []) : Facts ls (spotsAt ls ls.length) (callsOf ls (spotsAt ls ls.length)) (toldAt ls ls.length) := by
  have hf : ∀ l ∈ ls, FitL l := hfit.2
  have hSn := spotsAt_nodup ls ls.length
  obtain ⟨hk, hc, hs⟩ := bumps_all (eventsOf ls (spotsAt ls ls.length))
  rw [← callsOf_events] at hk hc hs
  have hmt := met_total hf hn
  have hto := told_tot ls ls.length
  have htwo : ∀ s ∈ spotsAt ls ls.length, 2 ≤ (ls.filter fun l => onL l s).length := fun s hs => by
    obtain ⟨p, hp, q, hq, hpq, h1, h2⟩ := spot_two hf hn hs
    exact two_of_mem (List.mem_filter.mpr ⟨hp, h1⟩) (List.mem_filter.mpr ⟨hq, h2⟩) hpq
  have hsorted := spotsAt_sorted ls ls.length
  have hcnt : ∀ s ∈ spotsAt ls ls.length, (eventsOf ls (spotsAt ls ls.length)).count s = (ls.filter fun l => onL l s).length := fun s hs => count_events hSn hs
  have hsub : ∀ s, s ∈ eventsOf ls (spotsAt ls ls.length) ↔ s ∈ spotsAt ls ls.length := fun s => by
    constructor
    · intro h
      obtain ⟨l, _, h⟩ := List.mem_flatMap.mp h
      exact (List.mem_filter.mp h).1
    · intro h
      obtain ⟨p, hp, _, _, _, h1, _⟩ := spot_two hf hn h
      exact List.mem_flatMap.mpr ⟨p, hp, List.mem_filter.mpr ⟨h, h1⟩⟩
  have hevl : (eventsOf ls (spotsAt ls ls.length)).length = tot ls (fun l => ((spotsAt ls ls.length).filter (onL l)).length) := len_flat _ _
  have hsw : tot ls (fun l => ((spotsAt ls ls.length).filter (onL l)).length) = tot (spotsAt ls ls.length) (fun s => (ls.filter fun l => onL l s).length) := by
    have a : tot ls (fun l => ((spotsAt ls ls.length).filter (onL l)).length) = tot ls (fun l => tot (spotsAt ls ls.length) fun s => if onL l s then 1 else 0) := tot_congr fun l _ => tot_filter _ _
    have b : tot (spotsAt ls ls.length) (fun s => (ls.filter fun l => onL l s).length) = tot (spotsAt ls ls.length) (fun s => tot ls fun l => if onL l s then 1 else 0) := tot_congr fun s _ => tot_filter _ _
    rw [a, b, tot_swap]
  have hsg := signs_told hf hn hne
  have hmost := told_most ls ls.length (Nat.le_refl _)
  have halike : (dedup (ls.map (·.1))).length = 1 → tot (List.range ls.length) (fun i => (metOf (ls.take i) (ls.getD i (0, 0))).length) = 0 := fun h => by
    have all : ∀ l ∈ ls, ∀ m ∈ ls, l.1 = m.1 := fun l hl m hm => by
      have h1 : l.1 ∈ dedup (ls.map (·.1)) := dedup_mem.mpr (List.mem_map_of_mem hl)
      have h2 : m.1 ∈ dedup (ls.map (·.1)) := dedup_mem.mpr (List.mem_map_of_mem hm)
      obtain ⟨x, hd⟩ := List.length_eq_one_iff.mp h
      rw [hd] at h1 h2
      rw [List.mem_singleton.mp h1, List.mem_singleton.mp h2]
    rw [← tot_zero (List.range ls.length)]
    refine tot_congr fun i hi => ?_
    have hil := List.mem_range.mp hi
    refine List.length_eq_zero_iff.mpr (List.eq_nil_iff_forall_not_mem.mpr fun s hs => ?_)
    obtain ⟨q, hq, hqn, _⟩ := met_mem.mp hs
    exact hqn (all q (List.mem_of_mem_take hq) _ (getD_mem hil))
  generalize hSe : spotsAt ls ls.length = S at *
  generalize hCe : callsOf ls S = C at *
  have hCl : C.length = S.length := by
    have h1 : C.length = (dedup (eventsOf ls S)).length := by rw [← hk, List.length_map]
    rw [h1]
    exact ((List.perm_ext_iff_of_nodup (dedup_nodup _) hSn).mpr fun s => by rw [dedup_mem]; exact hsub s).length_eq
  have hparts : toldAt ls ls.length = 1 + (ls.length : Int) + sumL (C.map fun c => c.2 - 1) := by
    rw [sumL_sub, hs, hto, hCl]
    (first | lia | omega)
  refine ⟨?_, hCl, fun c hcm => ?_, hparts, rfl, hsg, ?_, ?_, fun h => ?_, ?_⟩
  · exact sorted_unique (fun a _ b _ h1 h2 => ltP_tot a b h1 h2) (sortT_perm S) (sortT_sorted ltP_tr ltP_asy ltP_tot S) hsorted
  · have h1 := hc c hcm
    have h2 : c.1 ∈ S := (hsub c.1).mp (dedup_mem.mp (by rw [← hk]; exact List.mem_map_of_mem hcm))
    have h3 := htwo c.1 h2
    rw [← hcnt c.1 h2] at h3
    (first | lia | omega)
  · rw [hparts, sumL_sub, hCl]; (first | lia | omega)
  · rw [hs, hevl]
    exact (sumL_tot ls fun l => (S.filter (onL l)).length).symm
  · have := halike h
    rw [hto, this]; (first | lia | omega)
  · rw [Int.fdiv_eq_ediv_of_nonneg _ (by decide)]
    generalize (ls.length : Int) * ((ls.length : Int) - 1) = z at *
    (first | lia | omega)
end Mine
end

section
namespace Mine

theorem fin02 {K : Frag} {w : World} {s₁ : Shared} {p : Program} {loose : List Str} {mean' : ExcName → Option Value} {mg mb : Str → Option Value} (KX : K.In s₁.heap) (T : Top p loose mean' mg mb s₁.heap)
    {fa : Addr} {cd : Value} {name : Str} {h₁ : Heap} {tk : Nat} {m : Str → Option Value} (F : Fr s₁.heap s₁.heap.objs.size h₁ m) {o1 o2 : Obj} {v1 v2 : Option Value}
    (N : News s₁.heap s₁.heap.objs.size h₁ [(s₁.heap.objs.size + 1 + 1, o1), (s₁.heap.objs.size + 1, o2)]) (d1 : o1.data = .cell v1) (d2 : o2.data = .cell v2)
    {a : Addr} {vs : List Value} {ns : List Int} (hL : s₁.heap.IsList a vs.toArray) (hI : IntsAre vs ns) (hcond : ¬ ((63 : Nat) : Int) < (ns.length : Int)) (hg : s₁.gens = #[]) (hm : m "script" = some (.ref a))
    {c : ClaimW} {cl : Str → Option Addr} {mean : ExcName → Option Value} {args : List WData} {E : Value → Shared → Prop} (hn : ∀ cls, c.raises args cls = false) (hp : c.post args (.bool true) args = true)
    {f1 f2 f4 f5 f7 f8 f9 : FuncData} (k1 : FnIn K 21 Challenge.pw_ho0003_02 1 f1) (k2 : FnIn K 28 Challenge.pw_ho0003_02 2 f2) (k4 : FnIn K 37 Challenge.pw_ho0003_02 4 f4) (k5 : FnIn K 46 Challenge.pw_ho0003_02 5 f5)
    (k7 : FnIn K 53 Challenge.pw_ho0003_02 7 f7) (k8 : FnIn K 60 Challenge.pw_ho0003_02 8 f8) (k9 : FnIn K 65 Challenge.pw_ho0003_02 9 f9)
    (b1 : ∀ v u S, peek K S (bindArgs f1 ⟨[v, u], []⟩) = some ([("target", v), ("source", u)] : List (Str × Value))) (b2 : ∀ v S, peek K S (bindArgs f2 ⟨[v], []⟩) = some ([("callers", v)] : List (Str × Value)))
    {tl4 tl5 : Tok} (b4 : ∀ v u S, peek K S (bindArgs f4 ⟨[v, u], []⟩) = some ([("a", v), ("x", u), ("lo", .int 0 tl4), ("hi", .none), ("key", .none)] : List (Str × Value)))
    (b5 : ∀ v u S, peek K S (bindArgs f5 ⟨[v, u], []⟩) = some ([("a", v), ("x", u), ("lo", .int 0 tl5), ("hi", .none), ("key", .none)] : List (Str × Value))) (b5' : ∀ v u x y S, peek K S (bindArgs f5 ⟨[v, u, x, y], []⟩) = some ([("a", v), ("x", u), ("lo", x), ("hi", y), ("key", .none)] : List (Str × Value)))
    (b7 : ∀ v S, peek K S (bindArgs f7 ⟨[v], []⟩) = some ([("number", v)] : List (Str × Value))) (b8 : ∀ v u S, peek K S (bindArgs f8 ⟨[v, u], []⟩) = some ([("one", v), ("other", u)] : List (Str × Value))) (b9 : ∀ v S, peek K S (bindArgs f9 ⟨[v], []⟩) = some ([("lines", v)] : List (Str × Value)))
    (t1 : nsIn K mainGlobals "add_callers" = some (some (.ref 21))) (t2 : nsIn K mainGlobals "count_calls" = some (some (.ref 28))) (t4 : nsIn K mainGlobals "insort_left" = some (some (.ref 37))) (t5 : nsIn K mainGlobals "bisect_left" = some (some (.ref 46)))
    (t7 : nsIn K mainGlobals "_law_line" = some (some (.ref 53))) (t8 : nsIn K mainGlobals "_law_spot" = some (some (.ref 60))) (t9 : nsIn K mainGlobals "_law_signs" = some (some (.ref 65)))
    (u1 : nsIn K mainGlobals "sorted" = some none) (u2 : nsIn K mainGlobals "dict" = some none) (u3 : nsIn K mainGlobals "range" = some none) (u4 : nsIn K mainGlobals "len" = some none) (u5 : nsIn K mainGlobals "tuple" = some none) (u6 : nsIn K mainGlobals "int" = some none)
    (u7 : nsIn K mainGlobals "enumerate" = some none) (u8 : nsIn K mainGlobals "sum" = some none) (u9 : nsIn K mainGlobals "isinstance" = some none) :
    wpAny (model Challenge.pw_ho0003_02 w) (callerA.deeper (envOfC name (scopeAt Challenge.pw_ho0003_02 10) s₁.heap.objs.size fa cd)) (execs (bodyAt Challenge.pw_ho0003_02 10) (envOfC name (scopeAt Challenge.pw_ho0003_02 10) s₁.heap.objs.size fa cd))
      (fun f s' => GoodW c cl mean args s₁ (.ok (.ret (match f with | .ret v => v | _ => .none))) s') E { heap := h₁, gens := s₁.gens, drawn := s₁.drawn, toks := tk, os := s₁.os } := by
  have hl := T.nolimit
  have big : ∃ b o, sysModules < b ∧ s₁.heap.get? b = some o := by
    obtain ⟨c', d, sl, e, _⟩ := k1
    exact ⟨21, _, by decide, KX _ _ e⟩
  have C : LawCtx Challenge.pw_ho0003_02 w s₁.heap 65 60 53 46 37 21 28 f9 f8 f7 f5 f4 f1 f2 a ns := {
    sg := {
      f := k9.ok KX hl
      hs := k9.scope
      fs := k8.ok KX hl
      ss := k8.scope
      sbind := fun x y => binds2 KX _ b8 (fun _ _ => rfl) fun h v u i j => .cons i (.cons j .nil)
      bind := fun l => binds1 KX _ b9 (fun _ => rfl) fun h v i => .cons i .nil
      big := big
      tsorted := top_built KX T u1 rfl (by decide)
      tdict := top_built KX T u2 rfl (by decide)
      trange := top_built KX T u3 rfl (by decide)
      tlen := top_built KX T u4 rfl (by decide)
      ttuple := top_built KX T u5 rfl (by decide)
      tint := top_built KX T u6 rfl (by decide)
      tspot := top_own KX T t8 }
    line := k7.ok KX hl
    lineS := k7.scope
    lineB := fun x => binds1 KX _ b7 (fun _ => rfl) fun h v i => .cons i .nil
    tline := top_own KX T t7
    bis := k5.ok KX hl
    bisS := k5.scope
    bisB2 := fun l x => binds2 KX _ b5 (fun _ _ => rfl) fun h v u i j => .cons i (.cons j (.cons (.int _ _) (.cons .none (.cons .none .nil))))
    bisB4 := fun l x => binds4 KX _ b5' (fun _ _ _ _ => rfl) fun h v u x y i j k l => .cons i (.cons j (.cons k (.cons l (.cons .none .nil))))
    tbis := top_own KX T t5
    ins := k4.ok KX hl
    insS := k4.scope
    insB := fun l x => binds2 KX _ b4 (fun _ _ => rfl) fun h v u i j => .cons i (.cons j (.cons (.int _ _) (.cons .none (.cons .none .nil))))
    tins := top_own KX T t4
    add := k1.ok KX hl
    addS := k1.scope
    addB := fun x y => binds2 KX _ b1 (fun _ _ => rfl) fun h v u i j => .cons i (.cons j .nil)
    tadd := top_own KX T t1
    cnt := k2.ok KX hl
    cntS := k2.scope
    cntB := fun x => binds1 KX _ b2 (fun _ => rfl) fun h v i => .cons i .nil
    tcnt := top_own KX T t2
    tsigns := top_own KX T t9
    tenum := top_built KX T u7 rfl (by decide)
    tsum := top_built KX T u8 rfl (by decide)
    tisi := top_built KX T u9 rfl (by decide)
    script := script_at hL hI
    scLen := by (first | lia | omega) }
  have hcs : (envOfC name (scopeAt Challenge.pw_ho0003_02 10) s₁.heap.objs.size fa cd).cells = ([("spots", s₁.heap.objs.size + 1 + 1), ("line", s₁.heap.objs.size + 1)] : List (Str × Addr)) := rfl
  have e : LawEnv (envOfC name (scopeAt Challenge.pw_ho0003_02 10) s₁.heap.objs.size fa cd) (s₁.heap.objs.size + 1) (s₁.heap.objs.size + 1 + 1) := ⟨fun y => rfl, hcs, rfl⟩
  refine law_end (n := 3) (ρ := [("script", .loc a)]) ⟨rfl, by show 1 + claimMargin + 1 + 2 * 3 ≤ 500; decide, by show 4 + 3 + 40 * 3 ≤ 9000; decide⟩ F.keep ?_ (Nat.le_refl _) hg hn hp (law_walk C e fun ls h1 h2 h3 => ⟨_, facts h1 h2 h3⟩)
  refine erel0 F rfl rfl rfl rfl rfl (fun q hq => ?_) (by rw [hcs]; simp) rfl hm
  rw [hcs] at hq
  simp only [List.mem_cons, List.not_mem_nil, or_false] at hq
  rcases hq with rfl | rfl
  · obtain ⟨n1, n2, n3⟩ := N _ (.head _)
    exact ⟨o1, v1, n1, d1, n2, n3⟩
  · obtain ⟨n1, n2, n3⟩ := N _ (.tail _ (.head _))
    exact ⟨o2, v2, n1, d2, n2, n3⟩
end Mine
end

section
namespace Mine
set_option maxRecDepth 100000 in
set_option maxHeartbeats 8000000 in
open_top hd for PySem.Challenge.rw_ho0003_02
end Mine
set_option maxRecDepth 100000 in
set_option maxHeartbeats 8000000 in
theorem PySem.Challenge.cw_ho0003_02_holds : PySem.Challenge.rw_ho0003_02.Holds := by
  refine Mine.hd ?_
  k_go0
  rename_i ww s0 s1 mg mb G Y fa ob pm doc ho hg KX X V GL T B TE TW w11 w10 M w9 w8 hcd w7 hs hlay0 hLa hra hl2 w6 w5 w4 w3 w2 hL ra w1 r0 hI hr hc1 hc0 K0 hD h1 tk1 F o1 o2 d1 d2 N0 X0
  refine' Mine.fin02 (K := Mine.hd.heap_39 ww.params) KX T F N0 d1 d2 hL hI hc1 hg ?hm ?hn ?hp ?k1 ?k2 ?k4 ?k5 ?k7 ?k8 ?k9 ?b1 ?b2 ?b4 ?b5 ?b5' ?b7 ?b8 ?b9 ?t1 ?t2 ?t4 ?t5 ?t7 ?t8 ?t9 ?u1 ?u2 ?u3 ?u4 ?u5 ?u6 ?u7 ?u8 ?u9
  case k1 => exact ⟨_, _, _, rfl, rfl, rfl, rfl, rfl, rfl, rfl, rfl, rfl, rfl⟩
  case k2 => exact ⟨_, _, _, rfl, rfl, rfl, rfl, rfl, rfl, rfl, rfl, rfl, rfl⟩
  case k4 => exact ⟨_, _, _, rfl, rfl, rfl, rfl, rfl, rfl, rfl, rfl, rfl, rfl⟩
  case k5 => exact ⟨_, _, _, rfl, rfl, rfl, rfl, rfl, rfl, rfl, rfl, rfl, rfl⟩
  case k7 => exact ⟨_, _, _, rfl, rfl, rfl, rfl, rfl, rfl, rfl, rfl, rfl, rfl⟩
  case k8 => exact ⟨_, _, _, rfl, rfl, rfl, rfl, rfl, rfl, rfl, rfl, rfl, rfl⟩
  case k9 => exact ⟨_, _, _, rfl, rfl, rfl, rfl, rfl, rfl, rfl, rfl, rfl, rfl⟩
  case t1 => rfl
  case t2 => rfl
  case t4 => rfl
  case t5 => rfl
  case t7 => rfl
  case t8 => rfl
  case t9 => rfl
  case u1 => rfl
  case u2 => rfl
  case u3 => rfl
  case u4 => rfl
  case u5 => rfl
  case u6 => rfl
  case u7 => rfl
  case u8 => rfl
  case u9 => rfl
  case b1 => exact fun v u S => rfl
  case b2 => exact fun v S => rfl
  case b4 => exact fun v u S => rfl
  case b5 => exact fun v u S => rfl
  case b5' => exact fun v u x y S => rfl
  case b7 => exact fun v S => rfl
  case b8 => exact fun v u S => rfl
  case b9 => exact fun v S => rfl
  case hm => rfl
  case hn => exact fun cls => rfl
  case hp => wrow_post
end


