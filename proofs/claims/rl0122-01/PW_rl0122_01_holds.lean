import PyProof.Rows.All
import Wide.All
import OpenK.AllK
import Wide.FinOn
import PySem.Challenge.RW_rl0122_01
set_option Elab.async false
set_option autoImplicit false
set_option maxRecDepth 100000
set_option linter.all false

namespace Mine
open PySem PySem.Spec PyProof.Rows

/-- plain data -/
inductive D where
  | none
  | bool (b : Bool)
  | int (i : Int)
  | str (l : List Nat)
  | list (xs : List D)
  | tuple (xs : List D)
  | range (a b c : Int)

noncomputable abbrev Ext (h h' : Heap) : Prop := ∀ b o, h.get? b = some o → h'.get? b = some o

mutual
/-- the value bears the datum -/
noncomputable def Rep (h : Heap) : D → Value → Prop
  | .none, v => v = .none
  | .bool b, v => v = .bool b
  | .int i, v => ∃ t, v = .int i t
  | .str x, v => ∃ t, v = .str ⟨x.toArray⟩ t
  | .list xs, v => ∃ a vs n, v = .ref a ∧ IsL h a vs n ∧ RepAll h xs vs.toList
  | .tuple xs, v => ∃ a vs n, v = .ref a ∧ IsT h a vs n ∧ RepAll h xs vs.toList
  | .range x y z, v => ∃ a t u k, v = .ref a ∧ IsRange h a x y z t u k
noncomputable def RepAll (h : Heap) : List D → List Value → Prop
  | [], vs => vs = []
  | d :: ds, vs => ∃ v r, vs = v :: r ∧ Rep h d v ∧ RepAll h ds r
end

mutual
theorem Rep.ext {h h' : Heap} (k : Ext h h') : ∀ {d : D} {v : Value}, Rep h d v → Rep h' d v
  | .none, _, r => by unfold Rep at r ⊢; exact r
  | .bool _, _, r => by unfold Rep at r ⊢; exact r
  | .int _, _, r => by unfold Rep at r ⊢; exact r
  | .str _, _, r => by unfold Rep at r ⊢; exact r
  | .list _, _, r => by
    unfold Rep at r ⊢
    obtain ⟨a, vs, n, e, i, x⟩ := r
    exact ⟨a, vs, n, e, k _ _ i, RepAll.ext k x⟩
  | .tuple _, _, r => by
    unfold Rep at r ⊢
    obtain ⟨a, vs, n, e, i, x⟩ := r
    exact ⟨a, vs, n, e, k _ _ i, RepAll.ext k x⟩
  | .range .., _, r => by
    unfold Rep at r ⊢
    obtain ⟨a, t, u, j, e, i⟩ := r
    exact ⟨a, t, u, j, e, k _ _ i⟩
theorem RepAll.ext {h h' : Heap} (k : Ext h h') : ∀ {ds : List D} {vs : List Value}, RepAll h ds vs → RepAll h' ds vs
  | [], _, r => by unfold RepAll at r ⊢; exact r
  | _ :: _, _, r => by
    unfold RepAll at r ⊢
    obtain ⟨v, x, e, a, b⟩ := r
    exact ⟨v, x, e, Rep.ext k a, RepAll.ext k b⟩
end

theorem RepAll.length {h : Heap} : ∀ {ds : List D} {vs : List Value}, RepAll h ds vs → vs.length = ds.length
  | [], _, r => by unfold RepAll at r; subst r; rfl
  | _ :: _, _, r => by
    unfold RepAll at r
    obtain ⟨v, x, e, a, b⟩ := r
    subst e
    simp [RepAll.length b]
theorem RepAll.get {h : Heap} : ∀ {ds : List D} {vs : List Value} {i : Nat} {d : D}, RepAll h ds vs → ds[i]? = some d → ∃ v, vs[i]? = some v ∧ Rep h d v
  | [], _, i, d, _, e => by simp at e
  | _ :: _, _, 0, d, r, e => by
    unfold RepAll at r
    obtain ⟨v, x, q, a, b⟩ := r
    subst q
    simp at e
    subst e
    exact ⟨v, rfl, a⟩
  | _ :: _, _, i + 1, d, r, e => by
    unfold RepAll at r
    obtain ⟨v, x, q, a, b⟩ := r
    subst q
    simp at e
    obtain ⟨u, y, z⟩ := RepAll.get b e
    exact ⟨u, by simpa using y, z⟩
theorem RepAll.append {h : Heap} : ∀ {ds es : List D} {vs us : List Value}, RepAll h ds vs → RepAll h es us → RepAll h (ds ++ es) (vs ++ us)
  | [], _, _, _, r, q => by unfold RepAll at r; subst r; exact q
  | _ :: _, _, _, _, r, q => by
    unfold RepAll at r
    obtain ⟨v, x, e, a, b⟩ := r
    subst e
    rw [List.cons_append, List.cons_append, RepAll]
    exact ⟨v, _, rfl, a, RepAll.append b q⟩
theorem RepAll.nil {h : Heap} : RepAll h [] [] := by unfold RepAll; rfl
theorem RepAll.cons {h : Heap} {d : D} {ds : List D} {v : Value} {vs : List Value} (a : Rep h d v) (b : RepAll h ds vs) : RepAll h (d :: ds) (v :: vs) := by
  unfold RepAll; exact ⟨v, vs, rfl, a, b⟩
theorem RepAll.single {h : Heap} {d : D} {v : Value} (a : Rep h d v) : RepAll h [d] [v] := .cons a .nil

/-- what every expression keeps -/
structure Kp (s s' : Shared) : Prop where
  heap : Ext s.heap s'.heap
  gens : ∀ (i : Nat) g, s.gens[i]? = some g → s'.gens[i]? = some g
  bare : AllBare s.gens → AllBare s'.gens
  os : s'.os = s.os

theorem Kp.refl (s : Shared) : Kp s s := ⟨fun _ _ e => e, fun _ _ e => e, fun e => e, rfl⟩
theorem Kp.trans {a b c : Shared} (x : Kp a b) (y : Kp b c) : Kp a c :=
  ⟨fun p o e => y.heap p o (x.heap p o e), fun i g e => y.gens i g (x.gens i g e), fun e => y.bare (x.bare e), y.os.trans x.os⟩
theorem Kp.toks (s : Shared) (n : Nat) : Kp s { s with toks := n } := ⟨fun _ _ e => e, fun _ _ e => e, fun e => e, rfl⟩
theorem Kp.of_heap {s : Shared} {h' : Heap} (k : Ext s.heap h') : Kp s { s with heap := h' } := ⟨k, fun _ _ e => e, fun e => e, rfl⟩
theorem Kp.of_heap_toks {s : Shared} {h' : Heap} {n : Nat} (k : Ext s.heap h') : Kp s { s with heap := h', toks := n } := ⟨k, fun _ _ e => e, fun e => e, rfl⟩
theorem Ext.push (h : Heap) (o : Obj) : Ext h (h.push o) := fun _ _ e => Heap.get?_push_of_some _ e
theorem Ext.trans {a b c : Heap} (x : Ext a b) (y : Ext b c) : Ext a c := fun p o e => y p o (x p o e)

/-- no exception -/
noncomputable abbrev NE : Value → Shared → Prop := fun _ _ => False

/-- the end of an expression -/
noncomputable abbrev Gv (s : Shared) (d : D) : Value → Shared → Prop := fun v s' => Kp s s' ∧ Rep s'.heap d v

section
variable {prog : Program} {w : World} {A : Around} {s : Shared}

theorem gv_of {E : Value → Shared → Prop} {t : Sem Value} {d : D} {Q : Value → Shared → Prop} (h : wpAny (model prog w) A t (Gv s d) NE s) (k : ∀ v s', Kp s s' → Rep s'.heap d v → Q v s') : wpAny (model prog w) A t Q E s :=
  wpAny_mono h (fun v s' x => k v s' x.1 x.2) fun _ _ x => x.elim

theorem made_post {m : Made} {d : D} (h : match m with
    | .val v => Rep s.heap d v
    | .int i => d = .int i
    | .str x => d = .str x.cps.toList ∧ x.length ≤ sizeLine
    | _ => False) : m.post (Gv s d) s := by
  cases m with
  | val v => exact ⟨.refl s, h⟩
  | int i => subst h; exact ⟨.toks _ _, by unfold Rep; exact ⟨_, rfl⟩⟩
  | str x => obtain ⟨rfl, z⟩ := h; exact ⟨z, .toks _ _, by unfold Rep; exact ⟨s.toks, by simp⟩⟩
  | float _ => exact h.elim
  | bytes _ => exact h.elim
  | either _ _ => exact h.elim

theorem gv_int {i : Int} {n : Nat} {t : Tok} : Gv s (.int i) (.int i t) { s with toks := n } := ⟨.toks _ _, by unfold Rep; exact ⟨_, rfl⟩⟩
theorem gv_bool {b : Bool} : Gv s (.bool b) (.bool b) s := ⟨.refl s, by unfold Rep; rfl⟩

/-- a new list -/
theorem gv_newL {ds : List D} {vs : Array Value} (r : RepAll s.heap ds vs.toList) : Gv s (.list ds) (.ref s.heap.objs.size) { s with heap := s.heap.push { cls := .type "list", data := .seq vs } } :=
  ⟨.of_heap (.push _ _), by unfold Rep; exact ⟨_, vs, 0, rfl, Heap.get?_push_size _ rfl, r.ext (.push _ _)⟩⟩
theorem gv_newT {ds : List D} {vs : Array Value} (r : RepAll s.heap ds vs.toList) : Gv s (.tuple ds) (.ref s.heap.objs.size) { s with heap := s.heap.push { cls := .type "tuple", data := .seq vs } } :=
  ⟨.of_heap (.push _ _), by unfold Rep; exact ⟨_, vs, 0, rfl, Heap.get?_push_size _ rfl, r.ext (.push _ _)⟩⟩
end

/-! binary operations -/
noncomputable def smallI (i : Int) : Bool := decide (i.natAbs < 2 ^ 29)

theorem smallI_lt {a : Int} (h : smallI a = true) : a.natAbs < 2 ^ 29 := by simpa [smallI] using h
theorem smallI_ok {a b : Int} (h : smallI a = true) : IntMulOk a b := by
  refine IntMulOk.of_left ?_
  have q := smallI_lt h
  unfold Builtin.Int.intBits
  split
  · exact Nat.zero_le _
  · rename_i z
    have nz : a.natAbs ≠ 0 := fun e => z (by simpa using Int.natAbs_eq_zero.mp e)
    have : a.natAbs.log2 < 29 := (Nat.log2_lt nz).mpr q
    omega

theorem str_app (a b : List Nat) : (⟨a.toArray⟩ ++ ⟨b.toArray⟩ : Str) = ⟨(a ++ b).toArray⟩ := by
  show Str.append _ _ = _
  simp [Str.append]
theorem str_len (a : List Nat) : (⟨a.toArray⟩ : Str).length = a.length := by simp [Str.length]
theorem foldl_cps (n : Nat) (a : List Nat) (acc : List Nat) : (List.replicate n a.toArray).foldl (· ++ ·) acc.toArray = (acc ++ (List.replicate n a).flatten).toArray := by
  induction n generalizing acc with
  | zero => simp
  | succ n ih =>
    rw [List.replicate_succ, List.foldl_cons, List.append_toArray, ih, List.replicate_succ, List.flatten_cons, List.append_assoc]

section
variable {prog : Program} {w : World} {A : Around} {s : Shared}

theorem rep_str {h : Heap} {x : List Nat} {t : Tok} : Rep h (.str x) (.str ⟨x.toArray⟩ t) := by unfold Rep; exact ⟨t, rfl⟩
theorem rep_int {h : Heap} {x : Int} {t : Tok} : Rep h (.int x) (.int x t) := by unfold Rep; exact ⟨t, rfl⟩
theorem gv_str {x : List Nat} {n : Nat} {t : Tok} : Gv s (.str x) (.str ⟨x.toArray⟩ t) { s with toks := n } := ⟨.toks _ _, rep_str⟩

end
/-- what an operation's answer is to tell -/
def BinS (op : Operator) (a b d : D) : Prop := ∀ (prog : Program) (w : World) (A : Around) (s : Shared) (va vb : Value), Rep s.heap a va → Rep s.heap b vb → wpAny (model prog w) A (binaryOp op va vb) (Gv s d) NE s

noncomputable def binP (op : Operator) (a b : D) : {o : Option D // ∀ d, o = some d → BinS op a b d} := match op, a, b with
  | .Add, .int a, .int b => ⟨some (.int (a + b)), fun d e prog w A s va vb ra rb => by
    cases e; unfold Rep at ra rb; obtain ⟨t, rfl⟩ := ra; obtain ⟨u, rfl⟩ := rb; exact P.add_int gv_int⟩
  | .Sub, .int a, .int b => ⟨some (.int (a - b)), fun d e prog w A s va vb ra rb => by
    cases e; unfold Rep at ra rb; obtain ⟨t, rfl⟩ := ra; obtain ⟨u, rfl⟩ := rb; exact P.sub_int gv_int⟩
  | .Mult, .int a, .int b => ⟨if smallI a then some (.int (a * b)) else none, fun d e prog w A s va vb ra rb => by
    split at e
    · rename_i h; cases e; unfold Rep at ra rb; obtain ⟨t, rfl⟩ := ra; obtain ⟨u, rfl⟩ := rb; exact P.mul_int gv_int (smallI_ok h)
    · cases e⟩
  | .FloorDiv, .int a, .int b => ⟨if b = 0 ∨ smallI b = false then none else some (.int (a.fdiv b)), fun d e prog w A s va vb ra rb => by
    split at e
    · cases e
    · rename_i h; cases e; unfold Rep at ra rb; obtain ⟨t, rfl⟩ := ra; obtain ⟨u, rfl⟩ := rb
      rw [not_or] at h
      have q := smallI_lt (Bool.not_eq_false _ ▸ h.2)
      exact PyProof.Rows.floordiv_int h.1 gv_int (.inl (PyProof.noPylong_small (by omega)))⟩
  | .Mod, .int a, .int b => ⟨if b = 0 then none else some (.int (a.fmod b)), fun d e prog w A s va vb ra rb => by
    split at e
    · cases e
    · rename_i h; cases e; unfold Rep at ra rb; obtain ⟨t, rfl⟩ := ra; obtain ⟨u, rfl⟩ := rb; exact PyProof.Rows.mod_int h gv_int⟩
  | .Add, .str a, .str b => ⟨if (a ++ b).length ≤ sizeLine then some (.str (a ++ b)) else none, fun d e prog w A s va vb ra rb => by
    split at e
    · rename_i h; cases e; unfold Rep at ra rb; obtain ⟨t, rfl⟩ := ra; obtain ⟨u, rfl⟩ := rb
      refine P.add_str ?_
      split
      · rename_i q
        have q : a = [] := by simpa [str_len] using q
        subst q
        exact made_post (by exact rep_str)
      · split
        · rename_i q
          have q : b = [] := by simpa [str_len] using q
          subst q
          exact made_post (by simp only [List.append_nil]; exact rep_str)
        · exact made_post ⟨by rw [str_app], by rw [str_app, str_len]; exact h⟩
    · cases e⟩
  | .Mult, .str a, .int n => ⟨if 0 < n ∧ n ≤ 100 ∧ a.length ≤ 1000 then some (.str (List.replicate n.toNat a).flatten) else none, fun d e prog w A s va vb ra rb => by
    split at e
    · rename_i h; cases e; unfold Rep at ra rb; obtain ⟨t, rfl⟩ := ra; obtain ⟨u, rfl⟩ := rb
      obtain ⟨h1, h2, h3⟩ := h
      have hp : ((⟨a.toArray⟩ : Str).length : Int) * n ≤ 100000 := by
        rw [str_len]
        have : (a.length : Int) * n ≤ 1000 * 100 := Int.mul_le_mul (by omega) h2 (by omega) (by omega)
        omega
      have hq : (⟨a.toArray⟩ : Str).length * n.toNat ≤ 100000 := by
        have : (((⟨a.toArray⟩ : Str).length * n.toNat : Nat) : Int) ≤ 100000 := by
          rw [Int.natCast_mul, Int.toNat_of_nonneg (by omega)]; exact hp
        omega
      refine P.mul_str (by simp; omega) (fun _ _ q => ?_) (fun _ _ => ?_) ?_
      · rw [str_len] at q
        have : (2 ^ 63 - 1 : Int) / n ≥ (2 ^ 63 - 1 : Int) / 100 := by
          have := Int.ediv_mul_le (2 ^ 63 - 1 : Int) (b := n) (by omega)
          rw [ge_iff_le, Int.le_ediv_iff_mul_le (by omega)]
          have : (2 ^ 63 - 1 : Int) / 100 * n ≤ (2 ^ 63 - 1 : Int) / 100 * 100 := Int.mul_le_mul_of_nonneg_left h2 (by decide)
          omega
        omega
      · unfold Builtin.Str.tooLong; rw [decide_eq_false]; rw [sizeLine_eq]; omega
      · rw [if_neg (by omega)]
        split
        · rename_i q
          simp only [Bool.or_eq_true, beq_iff_eq] at q
          refine made_post ?_
          show Rep _ _ _
          rcases q with q | q
          · subst q; simp; exact rep_str
          · have q : a = [] := by simpa [str_len] using q
            subst q
            have : (List.replicate n.toNat ([] : List Nat)).flatten = [] := by simp
            rw [this]
            exact rep_str
        · have e := foldl_cps n.toNat a []
          simp only [List.nil_append] at e
          refine made_post ⟨?_, ?_⟩
          · rw [e]
          · rw [e, str_len, sizeLine_eq]
            simp only [List.length_flatten, List.map_replicate, List.sum_replicate_nat]
            rw [str_len, Nat.mul_comm] at hq
            omega
    · cases e⟩
  | .Add, .list a, .list b => ⟨if a.length + b.length ≤ sizeLine then some (.list (a ++ b)) else none, fun d e prog w A s va vb ra rb => by
    split at e
    · rename_i h; cases e; unfold Rep at ra rb
      obtain ⟨x, vs, n, rfl, i, r⟩ := ra
      obtain ⟨y, us, m, rfl, j, q⟩ := rb
      have l1 := r.length
      have l2 := q.length
      simp only [Array.length_toList] at l1 l2
      refine P.add_list i j (gv_newL ?_) (by omega)
      rw [Array.toList_append]
      exact r.append q
    · cases e⟩
  | _, _, _ => ⟨none, fun _ e => nomatch e⟩
noncomputable def binD (op : Operator) (a b : D) : Option D := (binP op a b).1
theorem binD_ok {prog : Program} {w : World} {A : Around} {s : Shared} {op : Operator} {a b d : D} {va vb : Value} (e : binD op a b = some d) (ra : Rep s.heap a va) (rb : Rep s.heap b vb) : wpAny (model prog w) A (binaryOp op va vb) (Gv s d) NE s :=
  (binP op a b).2 d e prog w A s va vb ra rb
end Mine

namespace Mine
open PySem PySem.Spec PyProof.Rows

/-! comparisons, truth, items, slices -/
noncomputable def strsOf : List D → Option (List (List Nat))
  | [] => some []
  | .str x :: r => (strsOf r).map (x :: ·)
  | _ :: _ => none

noncomputable def isNoneD : D → Bool
  | .none => true
  | _ => false

theorem strsAre_of {h : Heap} : ∀ {ds : List D} {xs : List (List Nat)} {vs : List Value}, strsOf ds = some xs → RepAll h ds vs → StrsAre vs (xs.map fun x => ⟨x.toArray⟩)
  | [], xs, vs, e, r => by
    cases e
    unfold RepAll at r
    subst r
    exact .nil
  | .str x :: ds, xs, vs, e, r => by
    replace e := Option.map_eq_some_iff.mp (show (strsOf ds).map _ = some _ from e)
    obtain ⟨ys, e, rfl⟩ := e
    unfold RepAll at r
    obtain ⟨v, q, rfl, a, b⟩ := r
    unfold Rep at a
    obtain ⟨t, rfl⟩ := a
    exact .cons _ _ (strsAre_of e b)
  | .none :: _, _, _, e, _ | .bool _ :: _, _, _, e, _ | .int _ :: _, _, _, e, _ | .list _ :: _, _, _, e, _ | .tuple _ :: _, _, _, e, _ | .range .. :: _, _, _, e, _ => nomatch e

theorem rep_none {h : Heap} {d : D} {v : Value} (r : Rep h d v) : (v == Value.none) = isNoneD d := by
  cases d <;> unfold Rep at r
  · subst r; rfl
  · subst r; rfl
  · obtain ⟨t, rfl⟩ := r; rfl
  · obtain ⟨t, rfl⟩ := r; rfl
  · obtain ⟨a, vs, n, rfl, _⟩ := r; rfl
  · obtain ⟨a, vs, n, rfl, _⟩ := r; rfl
  · obtain ⟨a, t, u, k, rfl, _⟩ := r; rfl

theorem arr_eq (a b : List Nat) : ((⟨a.toArray⟩ : Str) == ⟨b.toArray⟩) = (a == b) := by
  rw [← Str.beq_eq_lists]
  simp only [List.size_toArray]
  by_cases h : a = b
  · subst h; simp
  · have : (a == b) = false := by simpa using h
    rw [this]; simp

theorem bool_beq (x y : Bool) : (Value.bool x == Value.bool y) = (x == y) := by cases x <;> cases y <;> rfl
theorem one_le (a b : Nat) : (!decide ((⟨[b].toArray⟩ : Str).cps.toList < (⟨[a].toArray⟩ : Str).cps.toList)) = decide (a ≤ b) := by
  show (!decide ([b] < [a])) = _
  have : [b] < [a] ↔ b < a := by rw [List.cons_lt_cons_iff]; simp
  rw [decide_eq_decide.mpr this, ← decide_not, decide_eq_decide]
  omega


/-- what a comparison's answer is to tell -/
def CmpS (op : CmpOp) (a b : D) (r : Bool) : Prop := ∀ (prog : Program) (w : World) (A : Around) (s : Shared) (va vb : Value), Rep s.heap a va → Rep s.heap b vb → wpAny (model prog w) A (compareOp op va vb) (fun v s' => v = .bool r ∧ s' = s) NE s

noncomputable def cmpP (op : CmpOp) (a b : D) : {o : Option Bool // ∀ r, o = some r → CmpS op a b r} := match op, a, b with
  | .Eq, .int a, .int b => ⟨some (a == b), fun r e _ _ _ _ _ _ ra rb => by cases e; unfold Rep at ra rb; obtain ⟨t, rfl⟩ := ra; obtain ⟨u, rfl⟩ := rb; exact P.eq_int ⟨rfl, rfl⟩⟩
  | .NotEq, .int a, .int b => ⟨some (a != b), fun r e _ _ _ _ _ _ ra rb => by cases e; unfold Rep at ra rb; obtain ⟨t, rfl⟩ := ra; obtain ⟨u, rfl⟩ := rb; exact P.ne_int ⟨rfl, rfl⟩⟩
  | .Lt, .int a, .int b => ⟨some (decide (a < b)), fun r e _ _ _ _ _ _ ra rb => by cases e; unfold Rep at ra rb; obtain ⟨t, rfl⟩ := ra; obtain ⟨u, rfl⟩ := rb; exact P.lt_int ⟨rfl, rfl⟩⟩
  | .LtE, .int a, .int b => ⟨some (decide (a ≤ b)), fun r e _ _ _ _ _ _ ra rb => by cases e; unfold Rep at ra rb; obtain ⟨t, rfl⟩ := ra; obtain ⟨u, rfl⟩ := rb; exact P.le_int ⟨rfl, rfl⟩⟩
  | .Gt, .int a, .int b => ⟨some (decide (b < a)), fun r e _ _ _ _ _ _ ra rb => by cases e; unfold Rep at ra rb; obtain ⟨t, rfl⟩ := ra; obtain ⟨u, rfl⟩ := rb; exact P.gt_int ⟨rfl, rfl⟩⟩
  | .Eq, .str a, .str b => ⟨some (a == b), fun r e _ _ _ _ _ _ ra rb => by cases e; unfold Rep at ra rb; obtain ⟨t, rfl⟩ := ra; obtain ⟨u, rfl⟩ := rb; exact P.eq_str ⟨rfl, rfl⟩⟩
  | .LtE, .str [a], .str [b] => ⟨some (decide (a ≤ b)), fun r e _ _ _ _ _ _ ra rb => by
    cases e; unfold Rep at ra rb; obtain ⟨t, rfl⟩ := ra; obtain ⟨u, rfl⟩ := rb
    refine P.le_str ⟨?_, rfl⟩
    rw [one_le]⟩
  | .In, .str a, .tuple ds => ⟨(strsOf ds).map (·.any (· == a)), fun r e _ _ _ _ _ _ ra rb => by
    unfold Rep at ra rb; obtain ⟨t, rfl⟩ := ra
    obtain ⟨p, vs, n, rfl, i, q⟩ := rb
    rw [Option.map_eq_some_iff] at e
    obtain ⟨xs, ex, rfl⟩ := e
    refine in_tuple_strs ⟨_, i, rfl, n, rfl⟩ (strsAre_of ex q) ⟨?_, rfl⟩
    congr 1
    rw [List.any_map]
    congr 1
    funext y
    exact arr_eq _ _⟩
  | .NotIn, .str [c], .str x => ⟨some (!decide (c ∈ x)), fun r e _ _ _ _ _ _ ra rb => by
    cases e; unfold Rep at ra rb; obtain ⟨t, rfl⟩ := ra; obtain ⟨u, rfl⟩ := rb
    refine P.notIn_str ⟨?_, rfl⟩
    rw [StrLaws.found_one]⟩
  | .Is, d, .none => ⟨some (isNoneD d), fun r e _ _ _ _ _ vb ra rb => by
    cases e
    have : vb = .none := by unfold Rep at rb; exact rb
    subst this
    exact is_none ⟨by rw [rep_none ra], rfl⟩⟩
  | .IsNot, d, .none => ⟨some (!isNoneD d), fun r e _ _ _ _ _ vb ra rb => by
    cases e
    have : vb = .none := by unfold Rep at rb; exact rb
    subst this
    exact isNot_none ⟨by rw [rep_none ra], rfl⟩⟩
  | .Is, .bool a, .bool b => ⟨some (a == b), fun r e _ _ _ _ _ _ ra rb => by
    cases e; unfold Rep at ra rb; subst ra; subst rb
    exact wpAny_is_plain rfl ⟨by rw [bool_beq], rfl⟩⟩
  | .IsNot, .bool a, .bool b => ⟨some (!(a == b)), fun r e _ _ _ _ _ _ ra rb => by
    cases e; unfold Rep at ra rb; subst ra; subst rb
    exact wpAny_isNot_plain rfl ⟨by rw [bool_beq], rfl⟩⟩
  | _, _, _ => ⟨none, fun _ e => nomatch e⟩
noncomputable def cmpD (op : CmpOp) (a b : D) : Option Bool := (cmpP op a b).1

section
variable {prog : Program} {w : World} {A : Around} {s : Shared}
theorem cmpD_ok {op : CmpOp} {a b : D} {r : Bool} {va vb : Value} (e : cmpD op a b = some r) (ra : Rep s.heap a va) (rb : Rep s.heap b vb) : wpAny (model prog w) A (compareOp op va vb) (fun v s' => v = .bool r ∧ s' = s) NE s :=
  (cmpP op a b).2 r e prog w A s va vb ra rb

noncomputable def truthD : D → Option Bool
  | .none => some false
  | .bool b => some b
  | .int i => some (i != 0)
  | .str x => if x.length ≤ sizeLine then some (x.length != 0) else none
  | _ => none

theorem truthD_ok {d : D} {r : Bool} {v : Value} (e : truthD d = some r) (q : Rep s.heap d v) : wpAny (model prog w) A (truthy v) (fun b s' => b = r ∧ Kp s s') NE s := by
  unfold truthD at e
  split at e
  · cases e; unfold Rep at q; subst q; exact fun _ _ _ => ⟨rfl, .refl s⟩
  · cases e; unfold Rep at q; subst q; exact wpAny_truthy_bool ⟨rfl, .refl s⟩
  · cases e; unfold Rep at q; obtain ⟨t, rfl⟩ := q; exact P.truthy_int ⟨rfl, .refl s⟩
  · split at e
    · rename_i x h; cases e; unfold Rep at q; obtain ⟨t, rfl⟩ := q
      rw [sizeLine_eq] at h
      refine P.truthy_str (by rw [str_len]; omega) ⟨?_, .toks _ _⟩
      rw [str_len]
      cases x <;> simp
      omega
    · cases e
  · cases e

/-! an item at an index -/
noncomputable def itemD (d : D) (i : Int) : Option D := if smallI i then (match d with
  | .str x => ((seqIndex? i x.length).bind (x[·]?)).map fun c => .str [c]
  | .list xs => (seqIndex? i xs.length).bind (xs[·]?)
  | .tuple xs => (seqIndex? i xs.length).bind (xs[·]?)
  | _ => none) else none

theorem seqIndex_lt {i : Int} {n k : Nat} (h : seqIndex? i n = some k) : k < n := by
  unfold seqIndex? at h
  simp only [Option.ite_none_right_eq_some, Bool.and_eq_true, decide_eq_true_eq] at h
  obtain ⟨⟨h1, h2⟩, h3⟩ := h
  simp only [Option.some.injEq] at h3
  omega

theorem itemD_ok {d x : D} {i : Int} {u : Tok} {v : Value} (e : itemD d i = some x) (q : Rep s.heap d v) : wpAny (model prog w) A (getItem v (.int i u)) (Gv s x) NE s := by
  unfold itemD at e
  split at e
  · rename_i hs
    have hi := smallI_lt hs
    split at e
    · rename_i l; unfold Rep at q; obtain ⟨t, rfl⟩ := q
      rw [Option.map_eq_some_iff] at e
      obtain ⟨c, e, rfl⟩ := e
      refine P.getItem_str (c := c) (by simp; omega) ?_ (gv_str (x := [c]))
      simpa [str_len] using e
    · rename_i xs; unfold Rep at q; obtain ⟨a, vs, n, rfl, il, r⟩ := q
      rw [Option.bind_eq_some_iff] at e
      obtain ⟨k, e1, e2⟩ := e
      obtain ⟨y, e3, e4⟩ := r.get e2
      have hl := r.length
      have L : s.heap.IsList a vs := ⟨_, il, rfl, n, rfl⟩
      have hk := seqIndex_lt e1
      have e3 : vs[k]? = some y := by simpa using e3
      simp only [Array.length_toList] at hl
      by_cases h0 : 0 ≤ i
      · have hlt : i < (xs.length : Int) := by
          unfold seqIndex? at e1
          simp only [Int.not_lt.mpr h0, if_false] at e1
          simp only [Option.ite_none_right_eq_some, Bool.and_eq_true, decide_eq_true_eq] at e1
          omega
        have ek := seqIndex_of (n := xs.length) h0 hlt
        rw [e1] at ek
        obtain rfl : k = i.toNat := Option.some.inj ek
        exact wpAny_getItem_list L h0 (by omega) e3 ⟨.refl s, e4⟩
      · have hge : -(xs.length : Int) ≤ i := by
          unfold seqIndex? at e1
          simp only [show i < 0 by omega, if_true] at e1
          simp only [Option.ite_none_right_eq_some, Bool.and_eq_true, decide_eq_true_eq] at e1
          omega
        have ek := seqIndex_neg (n := xs.length) (by omega) hge
        rw [e1] at ek
        obtain rfl : k = (i + xs.length).toNat := Option.some.inj ek
        have hz : (vs.size : Int) = xs.length := by omega
        exact wpAny_getItem_list_neg (items := vs) L (by omega) (by omega) (by omega) (by rw [hz]; exact e3) ⟨.refl s, e4⟩
    · rename_i xs; unfold Rep at q; obtain ⟨a, vs, n, rfl, il, r⟩ := q
      rw [Option.bind_eq_some_iff] at e
      obtain ⟨k, e1, e2⟩ := e
      obtain ⟨y, e3, e4⟩ := r.get e2
      have hl := r.length
      simp only [Array.length_toList] at hl
      have e3 : vs[k]? = some y := by simpa using e3
      exact P.getItem_tuple il (by omega) (by omega) (by rw [hl]; exact e1) e3 ⟨.refl s, e4⟩
    · cases e
  · cases e
end
end Mine

namespace Mine
open PySem PySem.Spec PyProof.Rows

/-! slices -/
noncomputable def sliceL {α : Type} (lo hi st : Option Int) (xs : List α) : List α :=
  (sliceRange (sliceBounds lo hi st xs.length).1 (sliceBounds lo hi st xs.length).2.1 (sliceBounds lo hi st xs.length).2.2).filterMap (xs[·]?)

theorem sliceL_plain {α : Type} (xs : List α) (lo hi : Option Int) :
    sliceL lo hi none xs = (xs.drop (lo.elim 0 (clipAt xs.length))).take (hi.elim xs.length (clipAt xs.length) - lo.elim 0 (clipAt xs.length)) := by
  unfold sliceL
  rw [sliceBounds_plain]
  have := pick_run xs.toArray (lo.elim 0 (clipAt xs.length)) (hi.elim xs.length (clipAt xs.length) - lo.elim 0 (clipAt xs.length))
  simp only [sliceRange_one]
  simpa using this

theorem clipAt_le (n : Nat) (i : Int) : clipAt n i ≤ n := by unfold clipAt; omega

theorem sliceL_whole {α : Type} {xs : List α} {lo hi : Option Int} (h : (sliceRange (sliceBounds lo hi none xs.length).1 (sliceBounds lo hi none xs.length).2.1 (sliceBounds lo hi none xs.length).2.2).length = xs.length) : sliceL lo hi none xs = xs := by
  rw [sliceL_plain]
  rw [sliceBounds_plain] at h
  simp only [sliceRange_one, List.length_map, List.length_range] at h
  have b : hi.elim xs.length (clipAt xs.length) ≤ xs.length := by cases hi with | none => exact Nat.le_refl _ | some i => exact clipAt_le _ _
  generalize hi.elim xs.length (clipAt xs.length) = b' at *
  generalize lo.elim 0 (clipAt xs.length) = a' at *
  by_cases q : xs.length = 0
  · have : xs = [] := List.length_eq_zero_iff.mp q
    subst this; simp
  · have : a' = 0 := by omega
    subst this
    rw [List.drop_zero, List.take_of_length_le (by omega)]

theorem sliceL_length_le {α : Type} (lo hi st : Option Int) (xs : List α) : (sliceL lo hi st xs).length ≤ xs.length := by
  have h := slicePick_size_le (xs.map fun _ => Value.none).toArray lo hi st
  unfold slicePick at h
  simp only [List.size_toArray, List.length_map] at h
  refine Nat.le_trans (Nat.le_of_eq ?_) h
  unfold sliceL
  generalize (sliceRange (sliceBounds lo hi st xs.length).1 (sliceBounds lo hi st xs.length).2.1 (sliceBounds lo hi st xs.length).2.2) = is
  induction is with
  | nil => rfl
  | cons i is ih =>
    rw [List.filterMap_cons, List.filterMap_cons]
    simp only [List.getElem?_toArray, List.getElem?_map] at ih ⊢
    cases xs[i]? <;> simp [ih]

noncomputable def partOf : D → Option (Option Int)
  | .none => some none
  | .int i => some (some i)
  | _ => none

noncomputable def sliceD (d lo hi st : D) : Option D := do
  let l ← partOf lo
  let u ← partOf hi
  let k ← partOf st
  match d with
  | .str x => if x.length ≤ sizeLine ∧ (k = none ∨ (k ≠ some 0 ∧ k ≠ some 1)) then some (.str (sliceL l u k x)) else none
  | .list xs => if xs.length ≤ sizeLine ∧ k ≠ some 0 then some (.list (sliceL l u k xs)) else none
  | _ => none

theorem RepAll.pick {h : Heap} {ds : List D} {vs : List Value} (r : RepAll h ds vs) : ∀ is : List Nat, RepAll h (is.filterMap (ds[·]?)) (is.filterMap (vs[·]?))
  | [] => .nil
  | i :: is => by
    rw [List.filterMap_cons, List.filterMap_cons]
    cases e : ds[i]? with
    | none =>
      have : vs[i]? = none := by
        rw [List.getElem?_eq_none_iff] at e ⊢
        rw [r.length]; exact e
      rw [this]
      exact RepAll.pick r is
    | some d =>
      obtain ⟨v, e2, e3⟩ := r.get e
      rw [e2]
      exact .cons e3 (RepAll.pick r is)

theorem part_is {h : Heap} {d : D} {v : Value} {p : Option Int} (e : partOf d = some p) (r : Rep h d v) : ∃ q : Option (Int × Tok), v = partValue q ∧ q.map (·.1) = p := by
  unfold partOf at e
  split at e
  · cases e; unfold Rep at r; exact ⟨none, r, rfl⟩
  · cases e; unfold Rep at r; obtain ⟨t, rfl⟩ := r; exact ⟨some (_, t), rfl, rfl⟩
  · cases e
theorem isPart_of (q : Option (Int × Tok)) : IsPart (partValue q) (q.map (·.1)) := by
  cases q with
  | none => exact .none
  | some p => exact .int _ _

theorem picked_eq (x : List Nat) (lo hi st : Option (Int × Tok)) : slicePicked ⟨x.toArray⟩ lo hi st = sliceRange (sliceBounds (lo.map (·.1)) (hi.map (·.1)) (st.map (·.1)) x.length).1 (sliceBounds (lo.map (·.1)) (hi.map (·.1)) (st.map (·.1)) x.length).2.1 (sliceBounds (lo.map (·.1)) (hi.map (·.1)) (st.map (·.1)) x.length).2.2 := by
  unfold slicePicked
  rw [str_len]
  rfl


section
variable {prog : Program} {w : World} {A : Around} {s : Shared}

theorem sliceD_ok {d lo hi st x : D} {v vl vu vs : Value} {sl : Addr} (e : sliceD d lo hi st = some x) (r : Rep s.heap d v) (rl : Rep s.heap lo vl) (ru : Rep s.heap hi vu) (rs : Rep s.heap st vs)
    (o : s.heap.get? sl = some { cls := .type "slice", data := .fields #[vl, vu, vs] }) : wpAny (model prog w) A (getItem v (.ref sl)) (Gv s x) NE s := by
  unfold sliceD at e
  simp only [bind, Option.bind_eq_some_iff] at e
  obtain ⟨l, e1, u, e2, k, e3, e⟩ := e
  obtain ⟨ql, rfl, rfl⟩ := part_is e1 rl
  obtain ⟨qu, rfl, rfl⟩ := part_is e2 ru
  obtain ⟨qs, rfl, rfl⟩ := part_is e3 rs
  split at e
  · rename_i y
    split at e
    · rename_i hc
      obtain ⟨hsz, hk⟩ := hc
      cases e
      unfold Rep at r
      obtain ⟨t, rfl⟩ := r
      have h0 : ((qs.map (·.1)).getD 1 == 0) = false := by
        rcases hk with hk | hk
        · rw [hk]; rfl
        · cases qs with
          | none => rfl
          | some p => simp at hk ⊢; exact hk.1
      refine wpAny_getItem_str_slice ⟨_, o, rfl, rfl⟩ h0 ?_
      have key : ((slicePicked ⟨y.toArray⟩ ql qu qs).filterMap ((⟨y.toArray⟩ : Str).cps[·]?)) = sliceL (ql.map (·.1)) (qu.map (·.1)) (qs.map (·.1)) y := by
        rw [picked_eq]; unfold sliceL
        simp
      unfold sliceMade
      split
      · rename_i q
        simp only [Bool.and_eq_true, beq_iff_eq] at q
        have hn : qs.map (·.1) = none := by
          rcases hk with hk | hk
          · exact hk
          · cases qs with
            | none => rfl
            | some p => simp at hk q; exact absurd q.1 hk.2
        refine made_post ?_
        show Rep _ _ _
        rw [picked_eq, str_len] at q
        rw [hn] at q ⊢
        rw [sliceL_whole q.2]
        exact rep_str
      · rw [key]
        refine made_post ⟨by simp, ?_⟩
        rw [str_len]
        refine Nat.le_trans ?_ hsz
        exact sliceL_length_le _ _ _ _
    · cases e
  · rename_i xs
    split at e
    · rename_i hc
      obtain ⟨hsz, hk⟩ := hc
      cases e
      unfold Rep at r
      obtain ⟨a, vs', n, rfl, il, r⟩ := r
      have hl := r.length
      simp only [Array.length_toList] at hl
      refine wpAny_getItem_list_slice ⟨_, il, rfl, n, rfl⟩ ⟨_, o, rfl, rfl⟩ (isPart_of ql) (isPart_of qu) (isPart_of qs) hk (gv_newL ?_) (by omega)
      unfold slicePick sliceL
      rw [hl]
      have := r.pick (sliceRange (sliceBounds (ql.map (·.1)) (qu.map (·.1)) (qs.map (·.1)) xs.length).1 (sliceBounds (ql.map (·.1)) (qu.map (·.1)) (qs.map (·.1)) xs.length).2.1 (sliceBounds (ql.map (·.1)) (qu.map (·.1)) (qs.map (·.1)) xs.length).2.2)
      simpa using this
    · cases e
  · cases e
end
end Mine

namespace Mine
open PySem PySem.Spec PyProof.Rows

/-! calls of built-ins -/
noncomputable def intsOf : List D → Option (List Int)
  | [] => some []
  | .int x :: r => (intsOf r).map (x :: ·)
  | _ :: _ => none

noncomputable def rangeOk (a b c : Int) : Bool := decide (0 < c) && smallI a && smallI b && smallI c
noncomputable def rangeL (a b c : Int) : List Int := (List.range (Builtin.Range.rangeSize a b c).toNat).map fun (i : Nat) => a + (i : Int) * c

theorem intsAre_of {h : Heap} : ∀ {ds : List D} {ns : List Int} {vs : List Value}, intsOf ds = some ns → RepAll h ds vs → ∃ xs : List (Int × Tok), vs = xs.map (fun p => .int p.1 p.2) ∧ xs.map (·.1) = ns
  | [], ns, vs, e, r => by
    cases e
    unfold RepAll at r
    subst r
    exact ⟨[], rfl, rfl⟩
  | .int x :: ds, ns, vs, e, r => by
    replace e := Option.map_eq_some_iff.mp (show (intsOf ds).map _ = some _ from e)
    obtain ⟨ys, e, rfl⟩ := e
    unfold RepAll at r
    obtain ⟨v, q, rfl, a, b⟩ := r
    unfold Rep at a
    obtain ⟨t, rfl⟩ := a
    obtain ⟨xs, rfl, rfl⟩ := intsAre_of e b
    exact ⟨(x, t) :: xs, rfl, rfl⟩
  | .none :: _, _, _, e, _ | .bool _ :: _, _, _, e, _ | .str _ :: _, _, _, e, _ | .list _ :: _, _, _, e, _ | .tuple _ :: _, _, _, e, _ | .range .. :: _, _, _, e, _ => nomatch e

theorem strVals_of {h : Heap} : ∀ {ds : List D} {xs : List (List Nat)} {vs : List Value}, strsOf ds = some xs → RepAll h ds vs → ∃ l : List (Str × Tok), vs = strValues l ∧ l.map (·.1) = xs.map fun x => ⟨x.toArray⟩
  | [], xs, vs, e, r => by
    cases e
    unfold RepAll at r
    subst r
    exact ⟨[], rfl, rfl⟩
  | .str x :: ds, xs, vs, e, r => by
    replace e := Option.map_eq_some_iff.mp (show (strsOf ds).map _ = some _ from e)
    obtain ⟨ys, e, rfl⟩ := e
    unfold RepAll at r
    obtain ⟨v, q, rfl, a, b⟩ := r
    unfold Rep at a
    obtain ⟨t, rfl⟩ := a
    obtain ⟨l, rfl, el⟩ := strVals_of e b
    exact ⟨(⟨x.toArray⟩, t) :: l, rfl, by simp [el]⟩
  | .none :: _, _, _, e, _ | .bool _ :: _, _, _, e, _ | .int _ :: _, _, _, e, _ | .list _ :: _, _, _, e, _ | .tuple _ :: _, _, _, e, _ | .range .. :: _, _, _, e, _ => nomatch e

theorem join_flat : ∀ xs : List (List Nat), Str.join ⟨#[]⟩ (xs.map fun x => (⟨x.toArray⟩ : Str)) = ⟨xs.flatten.toArray⟩
  | [] => rfl
  | [x] => by simp [Str.join]
  | x :: y :: r => by
    have ih := join_flat (y :: r)
    simp only [List.map_cons] at ih ⊢
    show (⟨x.toArray⟩ ++ ⟨([] : List Nat).toArray⟩ : Str) ++ Str.join ⟨#[]⟩ _ = _
    rw [ih, str_app, str_app]
    simp

theorem sum_len : ∀ xs : List (List Nat), ((xs.map fun x => (⟨x.toArray⟩ : Str)).map (·.length)).sum = xs.flatten.length
  | [] => rfl
  | x :: r => by
    have ih := sum_len r
    simp only [List.map_cons, List.sum_cons, List.flatten_cons, List.length_append, ih, str_len]

theorem rangeSmall {a b c : Int} (h : rangeOk a b c = true) : Builtin.Range.small a b c = true ∧ 0 ≤ Builtin.Range.rangeSize a b c := by
  unfold rangeOk at h
  simp only [Bool.and_eq_true, decide_eq_true_eq] at h
  obtain ⟨⟨⟨h0, h1⟩, h2⟩, h3⟩ := h
  have q1 := smallI_lt h1
  have q2 := smallI_lt h2
  have q3 := smallI_lt h3
  have sz : 0 ≤ Builtin.Range.rangeSize a b c ∧ Builtin.Range.rangeSize a b c ≤ 2 ^ 31 := by
    unfold Builtin.Range.rangeSize
    rw [if_pos h0]
    split
    · have u : 0 ≤ (b - a - 1) / c := Int.ediv_nonneg (by omega) (by omega)
      have v : (b - a - 1) / c ≤ b - a - 1 := Int.ediv_le_self _ (by omega)
      omega
    · omega
  refine ⟨?_, sz.1⟩
  unfold Builtin.Range.small Builtin.Range.rangeFitsLong
  simp only [Bool.and_eq_true, decide_eq_true_eq, Bool.or_eq_true, h0, if_true]
  refine ⟨⟨⟨⟨⟨by omega, by omega⟩, by omega, by omega⟩, by omega, by omega⟩, by omega, by omega⟩, .inr ⟨by omega, by omega⟩⟩

theorem repAll_ints {h : Heap} {f : Nat → Int} : ∀ {n : Nat} {vs : List Value}, vs.length = n → (∀ (j : Nat) (v : Value), vs[j]? = some v → ∃ t, v = Value.int (f j) t) → RepAll h ((List.range n).map fun i => D.int (f i)) vs := by
  intro n
  induction n generalizing f with
  | zero => intro vs hl _; have : vs = [] := List.length_eq_zero_iff.mp hl; subst this; exact .nil
  | succ n ih =>
    intro vs hl hv
    cases vs with
    | nil => simp at hl
    | cons v r =>
      rw [List.range_succ_eq_map, List.map_cons, List.map_map]
      refine .cons ?_ ?_
      · obtain ⟨t, rfl⟩ := hv 0 v rfl; exact rep_int
      · exact ih (f := fun i => f (i + 1)) (by simpa using hl) fun j u hj => hv (j + 1) u (by simpa using hj)

/-- what a built-in's answer is to tell -/
def FnS (f : Value) (args : List D) (d : D) : Prop := ∀ (prog : Program) (w : World) (A : Around) (s : Shared) (vs : List Value), A.handled = none → RepAll s.heap args vs → wpAny (model prog w) A (call f vs) (Gv s d) NE s

/-- a built-in of the text at plain data -/
noncomputable def fnP (f : Value) (args : List D) : {o : Option D // ∀ d, o = some d → FnS f args d} := match f, args with
  | .builtin id, [.str x] => ⟨if id == "len" then (if x.length ≤ sizeLine then some (.int x.length) else none)
    else if id == "ord" then (match x with | [c] => some (.int (c : Nat)) | _ => none)
    else if id == "str.lower" then (if (Txt.lower ⟨x.toArray⟩).length ≤ sizeLine then some (.str (Txt.lower ⟨x.toArray⟩).cps.toList) else none)
    else none, fun d e prog w A s vs hh r => by
    obtain ⟨v, q, rfl, ra, rb⟩ := (by unfold RepAll at r; exact r : ∃ v q, vs = v :: q ∧ Rep s.heap (.str x) v ∧ RepAll s.heap [] q)
    unfold RepAll at rb
    subst rb
    unfold Rep at ra
    obtain ⟨t, rfl⟩ := ra
    split at e
    · rename_i hid
      have hid : id = "len" := by simpa using hid
      subst hid
      split at e
      · rename_i h
        cases e
        rw [sizeLine_eq] at h
        refine P.len_str (by rw [str_len]; omega) ?_
        rw [str_len]
        exact gv_int
      · cases e
    · split at e
      · rename_i hid
        have hid : id = "ord" := by simpa using hid
        subst hid
        split at e
        · cases e
          exact P.ord_of_char gv_int
        · cases e
      · split at e
        · rename_i hid
          have hid : id = "str.lower" := by simpa using hid
          subst hid
          split at e
          · rename_i h
            cases e
            refine SC.lower (by unfold Builtin.Str.tooLong; rw [decide_eq_false]; omega) ⟨.toks _ _, ?_⟩
            unfold Rep
            exact ⟨s.toks, by simp⟩
          · cases e
        · cases e⟩
  | .builtin id, [.list xs] => ⟨if id == "len" then (if xs.length ≤ sizeLine then some (.int xs.length) else none)
    else if id == "sum" then (intsOf xs).map fun ns => .int ns.sum
    else none, fun d e prog w A s vs hh r => by
    obtain ⟨v, q, rfl, ra, rb⟩ := (by unfold RepAll at r; exact r : ∃ v q, vs = v :: q ∧ Rep s.heap (.list xs) v ∧ RepAll s.heap [] q)
    unfold RepAll at rb
    subst rb
    unfold Rep at ra
    obtain ⟨a, us, n, rfl, il, r⟩ := ra
    have hl := r.length
    simp only [Array.length_toList] at hl
    split at e
    · rename_i hid
      have hid : id = "len" := by simpa using hid
      subst hid
      split at e
      · rename_i h
        cases e
        rw [sizeLine_eq] at h
        refine Calls.call_len_list (items := us) ⟨_, il, rfl, n, rfl⟩ (by omega) ?_
        rw [hl]
        exact gv_int
      · cases e
    · split at e
      · rename_i hid
        have hid : id = "sum" := by simpa using hid
        subst hid
        rw [Option.map_eq_some_iff] at e
        obtain ⟨ns, en, rfl⟩ := e
        obtain ⟨ps, hv, hn⟩ := intsAre_of en r
        have L : s.heap.IsList a (intItems ps.toArray) := ⟨_, il, rfl, n, by
          show Data.seq us n = _
          have : us = intItems ps.toArray := by
            unfold intItems
            rw [List.map_toArray, ← hv, Array.toArray_toList]
          rw [this]⟩
        refine sum_intListG hh L fun h' tk t' hk => ⟨.of_heap_toks hk, ?_⟩
        rw [preSum_eq, List.take_of_length_le (by simp)]
        simp only [hn]
        exact rep_int
      · cases e⟩
  | .builtin id, [.int a, .int b] => ⟨if id == "min" then some (.int (if b < a then b else a)) else none, fun d e prog w A s vs hh r => by
    split at e
    · rename_i hid
      have hid : id = "min" := by simpa using hid
      subst hid
      cases e
      unfold RepAll at r
      obtain ⟨v, q, rfl, ra, r⟩ := r
      unfold RepAll at r
      obtain ⟨u, q, rfl, rb, r⟩ := r
      unfold RepAll at r
      subst r
      unfold Rep at ra rb
      obtain ⟨t1, rfl⟩ := ra
      obtain ⟨t2, rfl⟩ := rb
      refine min_two_ints hh fun h' tk hk => ⟨.of_heap_toks hk, ?_⟩
      split
      · exact rep_int
      · exact rep_int
    · cases e⟩
  | .builtin id, [.int i] => ⟨if id == "chr" ∧ 0 ≤ i ∧ i ≤ 1114111 then some (.str [i.toNat]) else none, fun d e prog w A s vs hh r => by
    split at e
    · rename_i hid
      obtain ⟨hid, h0, h1⟩ := hid
      have hid : id = "chr" := by simpa using hid
      subst hid
      cases e
      unfold RepAll at r
      obtain ⟨v, q, rfl, ra, r⟩ := r
      unfold RepAll at r
      subst r
      unfold Rep at ra
      obtain ⟨t1, rfl⟩ := ra
      exact chr_of_range h0 h1 (gv_str (x := [i.toNat]))
    · cases e⟩
  | .builtin id, [.str [], .list ds] => ⟨if id == "str.join" then (strsOf ds).bind fun xs => if xs.flatten.length ≤ sizeLine then some (.str xs.flatten) else none else none, fun d e prog w A s vs hh r => by
    split at e
    · rename_i hid
      have hid : id = "str.join" := by simpa using hid
      subst hid
      rw [Option.bind_eq_some_iff] at e
      obtain ⟨xs, ex, e⟩ := e
      split at e
      · rename_i hsz
        cases e
        unfold RepAll at r
        obtain ⟨v, q, rfl, ra, r⟩ := r
        unfold RepAll at r
        obtain ⟨u, q, rfl, rb, r⟩ := r
        unfold RepAll at r
        subst r
        unfold Rep at ra rb
        obtain ⟨t1, rfl⟩ := ra
        obtain ⟨a, us, n, rfl, il, r⟩ := rb
        obtain ⟨l, hv, hn⟩ := strVals_of ex r
        have L : s.heap.IsList a (strValues l).toArray := ⟨_, il, rfl, n, by
          show Data.seq us n = _
          rw [← hv, Array.toArray_toList]⟩
        have hj : Txt.join ⟨#[]⟩ (xs.map fun x => (⟨x.toArray⟩ : Str)) = ⟨xs.flatten.toArray⟩ := by
          unfold Txt.join
          rw [StrLaws.glued_eq_join, join_flat]
        refine SC.join L hn ?_ fun t' k => ⟨.toks _ _, ?_⟩
        · unfold JoinOk
          rw [StrLaws.joinTotal, sum_len]
          unfold Builtin.Str.tooLong
          show (!decide (xs.flatten.length + _ * 0 > sizeLine)) = true
          rw [Nat.mul_zero, Nat.add_zero, decide_eq_false (by omega)]
          rfl
        · show Rep _ _ (.str (Txt.join ⟨#[]⟩ _) t')
          rw [hj]
          exact rep_str
      · cases e
    · cases e⟩
  | .type id, [.int a] => ⟨if id == "range" ∧ smallI a then some (.range 0 a 1) else none, fun d e prog w A s vs hh r => by
    split at e
    · rename_i hid
      obtain ⟨hid, _⟩ := hid
      have hid : id = "range" := by simpa using hid
      subst hid
      cases e
      unfold RepAll at r
      obtain ⟨v, q, rfl, ra, r⟩ := r
      unfold RepAll at r
      subst r
      unfold Rep at ra
      obtain ⟨t1, rfl⟩ := ra
      refine call_range_1 ⟨.of_heap_toks (.push _ _), ?_⟩
      unfold Rep
      exact ⟨_, _, _, _, rfl, IsRange.new ..⟩
    · cases e⟩
  | .type id, [.int a, .int b] => ⟨if id == "range" ∧ smallI a ∧ smallI b then some (.range a b 1) else none, fun d e prog w A s vs hh r => by
    split at e
    · rename_i hid
      obtain ⟨hid, _⟩ := hid
      have hid : id = "range" := by simpa using hid
      subst hid
      cases e
      unfold RepAll at r
      obtain ⟨v, q, rfl, ra, r⟩ := r
      unfold RepAll at r
      obtain ⟨u, q, rfl, rb, r⟩ := r
      unfold RepAll at r
      subst r
      unfold Rep at ra rb
      obtain ⟨t1, rfl⟩ := ra
      obtain ⟨t2, rfl⟩ := rb
      refine call_range_2 ⟨.of_heap_toks (.push _ _), ?_⟩
      unfold Rep
      exact ⟨_, _, _, _, rfl, IsRange.new ..⟩
    · cases e⟩
  | .type id, [.int a, .int b, .int c] => ⟨if id == "range" ∧ 0 < c ∧ smallI c then some (.range a b c) else none, fun d e prog w A s vs hh r => by
    split at e
    · rename_i hid
      obtain ⟨hid, hc, hs⟩ := hid
      have hid : id = "range" := by simpa using hid
      subst hid
      cases e
      unfold RepAll at r
      obtain ⟨v, q, rfl, ra, r⟩ := r
      unfold RepAll at r
      obtain ⟨u, q, rfl, rb, r⟩ := r
      unfold RepAll at r
      obtain ⟨u, q, rfl, rc, r⟩ := r
      unfold RepAll at r
      subst r
      unfold Rep at ra rb rc
      obtain ⟨t1, rfl⟩ := ra
      obtain ⟨t2, rfl⟩ := rb
      obtain ⟨t3, rfl⟩ := rc
      have q3 := smallI_lt hs
      refine call_range_3 (by omega) ⟨.of_heap_toks (.push _ _), ?_⟩ (.inl (PyProof.noPylong_small (by omega)))
      unfold Rep
      exact ⟨_, _, _, _, rfl, IsRange.new ..⟩
    · cases e⟩
  | .type id, [.range a b c] => ⟨if id == "list" ∧ rangeOk a b c ∧ (Builtin.Range.rangeSize a b c).toNat ≤ sizeLine then some (.list ((rangeL a b c).map .int)) else none, fun d e prog w A s vs hh r => by
    split at e
    · rename_i hid
      obtain ⟨hid, ho, hz⟩ := hid
      have hid : id = "list" := by simpa using hid
      subst hid
      cases e
      obtain ⟨v, q, rfl, ra, rb⟩ := (by unfold RepAll at r; exact r : ∃ v q, vs = v :: q ∧ Rep s.heap (.range a b c) v ∧ RepAll s.heap [] q)
      unfold RepAll at rb
      subst rb
      unfold Rep at ra
      obtain ⟨ad, t, u, k, rfl, ir⟩ := ra
      obtain ⟨h1, h2⟩ := rangeSmall ho
      have hn : Builtin.Range.rangeSize a b c = ((Builtin.Range.rangeSize a b c).toNat : Int) := by omega
      refine call_list_range hh ir h1 hn (by rw [sizeLine_eq] at hz; omega) fun h' tk acc' c' hk hg hit => ⟨.of_heap_toks hk, ?_⟩
      unfold Rep
      refine ⟨_, acc', c', rfl, hg, ?_⟩
      unfold rangeL
      rw [List.map_map]
      exact repAll_ints (f := fun (i : Nat) => a + (i : Int) * c) (by simpa using hit.1) fun j v hj => hit.2 j v (by simpa using hj)
    · cases e⟩
  | _, _ => ⟨none, fun _ e => nomatch e⟩
noncomputable def fnD (f : Value) (args : List D) : Option D := (fnP f args).1
theorem fnD_ok {prog : Program} {w : World} {A : Around} {s : Shared} {f : Value} {args : List D} {d : D} {vs : List Value} (hh : A.handled = none) (e : fnD f args = some d) (r : RepAll s.heap args vs) : wpAny (model prog w) A (call f vs) (Gv s d) NE s :=
  (fnP f args).2 d e prog w A s vs hh r

end Mine

namespace Mine
open PySem PySem.Spec PyProof.Rows

/-- what a call stands on -/
structure Cx where
  prog : Program
  w : World
  B₀ : Heap
  mg : Str → Option Value
  mb : Str → Option Value
  g : B₀.Ns mainGlobals mg
  b : B₀.Ns builtinsNs mb
  nolimit : B₀.NoLimit

noncomputable abbrev Cx.M (C : Cx) : Model := model C.prog C.w

/-- room for k more calls -/
structure Rm (k : Nat) (A : Around) : Prop where
  hd : A.handled = none
  dp : A.depth + k < recursionLimit
  un : A.units + 20 * k + 50 < cLine

noncomputable abbrev Names := List (Str × NameKind)
noncomputable abbrev Vars := List (Str × D)

noncomputable def VarAt (env : Env) (m : Str → Option Value) (h : Heap) (x : Str) (v : Value) : Prop :=
  (env.kindOf x = some .local ∧ m x = some v) ∨ ((env.kindOf x = some .cell ∨ env.kindOf x = some .free) ∧ ∃ c, env.cells.lookup x = some c ∧ h.IsCell c (some v))

structure EnvOk (env : Env) : Prop where
  kind : env.scope.kind = .function
  glob : env.globals = mainGlobals
  blt : env.builtins = builtinsNs
  inj : ∀ x y c, env.cells.lookup x = some c → env.cells.lookup y = some c → x = y
  ct : ∀ x, env.kindOf x = some .cell → (env.cells.lookup x).isSome = true

noncomputable def Alive (env : Env) (h : Heap) : Prop := ∀ x c, env.cells.lookup x = some c → ∃ v, h.IsCell c v

noncomputable def Vs (env : Env) (σ : Vars) (h : Heap) : Prop := ∃ m, h.Ns env.locals m ∧ (∀ x d, σ.lookup x = some d → ∃ v, VarAt env m h x v ∧ Rep h d v) ∧ Alive env h

theorem VarAt.ext {env : Env} {m : Str → Option Value} {h h' : Heap} {x : Str} {v : Value} (k : Ext h h') (a : VarAt env m h x v) : VarAt env m h' x v :=
  a.imp id fun ⟨q, c, e, i⟩ => ⟨q, c, e, i.keeps k⟩
theorem Vs.ext {env : Env} {σ : Vars} {h h' : Heap} (k : Ext h h') : Vs env σ h → Vs env σ h' := fun ⟨m, n, f, al⟩ =>
  ⟨m, n.keeps k, fun x d e => let ⟨v, a, r⟩ := f x d e; ⟨v, a.ext k, r.ext k⟩, fun x c e => let ⟨v, i⟩ := al x c e; ⟨v, i.keeps k⟩⟩

noncomputable def scalarD : D → Bool
  | .none | .bool _ | .int _ | .str _ => true
  | _ => false
theorem Rep.scalar {h : Heap} (h' : Heap) {d : D} {v : Value} (s : scalarD d = true) (r : Rep h d v) : Rep h' d v := by
  cases d <;> simp [scalarD] at s <;> unfold Rep at r ⊢ <;> exact r

/-! iterators -/
/-- the objects that data rest on -/
noncomputable def seqish (o : Obj) : Bool := match o.data with
  | .seq .. => true
  | .fields _ => (match o.cls with
    | .type n => n == "range"
    | _ => false)
  | _ => false

structure KBut (wr : List Addr) (gi : List Nat) (s s' : Shared) : Prop where
  heap : ∀ b o, b ∉ wr → s.heap.get? b = some o → s'.heap.get? b = some o
  gens : ∀ (i : Nat) g, i ∉ gi → s.gens[i]? = some g → s'.gens[i]? = some g
  bare : AllBare s.gens → AllBare s'.gens
  os : s'.os = s.os
  seqs : ∀ b o, seqish o = true → s.heap.get? b = some o → s'.heap.get? b = some o

theorem kbut_one {I : Addr} {s s' : Shared} {o₀ : Obj} (ho : s.heap.get? I = some o₀) (hq : seqish o₀ = false) (k : ∀ b o, b ≠ I → s.heap.get? b = some o → s'.heap.get? b = some o) (hg : s'.gens = s.gens) (hs : s'.os = s.os) : KBut [I] [] s s' :=
  ⟨fun b o hb e => k b o (by simpa using hb) e, fun _ _ _ e => by rw [hg]; exact e, fun e => by rw [hg]; exact e, hs, fun b o hq' e => k b o (by rintro rfl; rw [ho] at e; cases e; rw [hq] at hq'; cases hq') e⟩
theorem sh_listIter {h : Heap} {I l : Addr} {i : Nat} (x : h.IsListIter I l i) : ∃ o, h.get? I = some o ∧ seqish o = false := by
  obtain ⟨o, ho, hc, hd⟩ := x
  exact ⟨o, ho, by unfold seqish; rw [hd, hc]; rfl⟩
theorem sh_strIter {h : Heap} {I : Addr} {ty : String} {x : Str} {t : Tok} {i : Nat} (x : h.IsStrIter I ty x t i) (hn : (ty == "range") = false) : ∃ o, h.get? I = some o ∧ seqish o = false := by
  obtain ⟨o, ho, hc, hd⟩ := x
  exact ⟨o, ho, by unfold seqish; rw [hd, hc]; exact hn⟩

theorem Kp.kbut {s s' : Shared} (wr : List Addr) (gi : List Nat) (k : Kp s s') : KBut wr gi s s' := ⟨fun b o _ e => k.heap b o e, fun i g _ e => k.gens i g e, k.bare, k.os, fun b o _ e => k.heap b o e⟩
theorem KBut.trans {wr : List Addr} {gi : List Nat} {a b c : Shared} (x : KBut wr gi a b) (y : KBut wr gi b c) : KBut wr gi a c :=
  ⟨fun p o n e => y.heap p o n (x.heap p o n e), fun i g n e => y.gens i g n (x.gens i g n e), fun e => y.bare (x.bare e), y.os.trans x.os, fun b o q e => y.seqs b o q (x.seqs b o q e)⟩

structure Agree (fp : List Addr) (gi : List Nat) (s s' : Shared) : Prop where
  heap : ∀ b ∈ fp, ∀ o, s.heap.get? b = some o → s'.heap.get? b = some o
  gens : ∀ i ∈ gi, ∀ g, s.gens[i]? = some g → s'.gens[i]? = some g
theorem Agree.trans {fp : List Addr} {gi : List Nat} {a b c : Shared} (x : Agree fp gi a b) (y : Agree fp gi b c) : Agree fp gi a c :=
  ⟨fun p h o e => y.heap p h o (x.heap p h o e), fun i h g e => y.gens i h g (x.gens i h g e)⟩
theorem Agree.refl {fp : List Addr} {gi : List Nat} (s : Shared) : Agree fp gi s s := ⟨fun _ _ _ e => e, fun _ _ _ e => e⟩

noncomputable def ownedNames : List String := ["enumerate", "zip", "dict_itemiterator", "dict_reverseitemiterator", "odict_iterator", "itertools.zip_longest", "itertools.pairwise"]
noncomputable def NotOwned (it : Value) (s : Shared) : Prop := ∃ I o n, it = .ref I ∧ s.heap.get? I = some o ∧ o.cls = .type n ∧ ownedNames.contains n = false

noncomputable def Live (fp wr : List Addr) (s : Shared) : Prop := (∀ b ∈ fp, (s.heap.get? b).isSome = true) ∧ ∀ b ∈ wr, (s.heap.get? b).isSome = true

/-- what has grown is new -/
noncomputable def Grow (s : Shared) (l l' : List Addr) : Prop := ∀ b ∈ l', b ∈ l ∨ s.heap.get? b = none
theorem Grow.refl (s : Shared) (l : List Addr) : Grow s l l := fun _ h => .inl h

noncomputable def IsIt (C : Cx) (k : Nat) (it : Value) (fp wr : List Addr) (gi : List Nat) : List D → Shared → Prop
  | [], s => ∀ s₂, Agree fp gi s s₂ → Ext C.B₀ s₂.heap → ∀ A, Rm k A → wpAny C.M A (pyNext it) (fun r s' => r = none ∧ KBut wr gi s₂ s') NE s₂
  | d :: ds, s => ∀ s₂, Agree fp gi s s₂ → Ext C.B₀ s₂.heap → ∀ A, Rm k A → wpAny C.M A (pyNext it) (fun r s' => ∃ v, r = some v ∧ Rep s'.heap d v ∧ KBut wr gi s₂ s' ∧ ∃ fp' wr', Grow s₂ fp fp' ∧ Grow s₂ wr wr' ∧ (NotOwned it s' ∧ Live fp' wr' s') ∧ IsIt C k it fp' wr' gi ds s') NE s₂

theorem IsIt.agree {C : Cx} {k : Nat} {it : Value} {fp wr : List Addr} {gi : List Nat} : ∀ {ds : List D} {s s' : Shared}, IsIt C k it fp wr gi ds s → Agree fp gi s s' → IsIt C k it fp wr gi ds s'
  | [], _, _, h, a => fun s₂ b => h s₂ (a.trans b)
  | _ :: _, _, _, h, a => fun s₂ b => h s₂ (a.trans b)

theorem live1 {I : Addr} {s : Shared} (h : ∃ o, s.heap.get? I = some o) : Live [I] [I] s := by
  obtain ⟨o, ho⟩ := h
  exact ⟨fun b hb => by simp at hb; subst hb; rw [ho]; rfl, fun b hb => by simp at hb; subst hb; rw [ho]; rfl⟩
theorem live2 {I l : Addr} {s : Shared} (h : ∃ o, s.heap.get? I = some o) (h' : ∃ o, s.heap.get? l = some o) : Live [I, l] [I] s := by
  obtain ⟨o, ho⟩ := h
  obtain ⟨o', ho'⟩ := h'
  refine ⟨fun b hb => ?_, fun b hb => by simp at hb; subst hb; rw [ho]; rfl⟩
  simp at hb
  rcases hb with rfl | rfl
  · rw [ho]; rfl
  · rw [ho']; rfl

theorem listIter_not {h : Heap} {I l : Addr} {i : Nat} {s : Shared} (e : s.heap = h) (x : h.IsListIter I l i) : NotOwned (.ref I) s := by
  obtain ⟨o, ho, hc, _⟩ := x
  exact ⟨I, o, _, rfl, e ▸ ho, hc, by decide⟩

theorem isIt_list {C : Cx} {k : Nat} {I l : Addr} {n : Nat} {vs : Array Value} (hne : l ≠ I) : ∀ {ds : List D} {s : Shared} (i : Nat), ds.all scalarD = true → RepAll s.heap ds (vs.toList.drop i) → s.heap.IsListIter I l i → IsL s.heap l vs n →
    IsIt C k (.ref I) [I, l] [I] [] ds s
  | [], s, i, _, r, hi, hl => fun s₂ a _ A hA => by
    have hi₂ : s₂.heap.IsListIter I l i := hi.at fun o e => a.heap I (by simp) o e
    have hl₂ : IsL s₂.heap l vs n := a.heap l (by simp) _ hl
    unfold RepAll at r
    have hx : vs[i]? = none := by
      have := List.drop_eq_nil_iff.mp r
      rw [Array.getElem?_eq_none_iff]
      simpa using this
    exact wpAny_pyNext_list_end hA.hd hi₂ ⟨_, hl₂, rfl, n, rfl⟩ hx fun h' he => ⟨rfl, let ⟨_, h1, h2⟩ := (sh_listIter hi₂); kbut_one h1 h2 (fun b o hb e => he b o hb e) rfl rfl⟩
  | d :: ds, s, i, hsc, r, hi, hl => fun s₂ a _ A hA => by
    have hi₂ : s₂.heap.IsListIter I l i := hi.at fun o e => a.heap I (by simp) o e
    have hl₂ : IsL s₂.heap l vs n := a.heap l (by simp) _ hl
    simp only [List.all_cons, Bool.and_eq_true] at hsc
    unfold RepAll at r
    obtain ⟨v, q, e, rd, rq⟩ := r
    have hx : vs[i]? = some v := by
      have : (vs.toList.drop i)[0]? = some v := by rw [e]; rfl
      simpa using this
    have hq : q = vs.toList.drop (i + 1) := by
      have := congrArg List.tail e
      simpa using this.symm
    refine wpAny_pyNext_list_item hi₂ ⟨_, hl₂, rfl, n, rfl⟩ hx fun h' hi' hs' => ?_
    have kept : ∀ b o, b ≠ I → s₂.heap.get? b = some o → h'.get? b = some o := fun b o hb e => hs'.extBut b o hb e
    refine ⟨v, rfl, rd.scalar _ hsc.1, (let ⟨_, h1, h2⟩ := sh_listIter hi₂; kbut_one h1 h2 kept rfl rfl), _, _, .refl _ _, .refl _ _, ⟨listIter_not rfl hi', live2 (let ⟨o, ho, _⟩ := hi'; ⟨o, ho⟩) ⟨_, kept _ _ hne hl₂⟩⟩, ?_⟩
    refine isIt_list hne (i + 1) hsc.2 ?_ hi' (kept _ _ hne hl₂)
    rw [← hq]
    clear hq e hx
    have : ∀ (ds : List D) (q : List Value), ds.all scalarD = true → RepAll s.heap ds q → RepAll h' ds q := by
      intro ds
      induction ds with
      | nil => intro q _ r; unfold RepAll at r ⊢; exact r
      | cons d ds ih =>
        intro q hs r
        simp only [List.all_cons, Bool.and_eq_true] at hs
        unfold RepAll at r ⊢
        obtain ⟨v, q', e, a, b⟩ := r
        exact ⟨v, q', e, a.scalar _ hs.1, ih _ hs.2 b⟩
    exact this ds q hsc.2 rq

theorem strIter_not {h : Heap} {I : Addr} {ty : String} {x : Str} {t : Tok} {i : Nat} {s : Shared} (e : s.heap = h) (x : h.IsStrIter I ty x t i) (hn : ownedNames.contains ty = false) : NotOwned (.ref I) s := by
  obtain ⟨o, ho, hc, _⟩ := x
  exact ⟨I, o, _, rfl, e ▸ ho, hc, hn⟩

theorem isIt_str {C : Cx} {k : Nat} {I : Addr} {x : List Nat} {t : Tok} {ty : String} (hty : ty = "str_ascii_iterator" ∨ ty = "str_iterator") : ∀ {cs : List Nat} {s : Shared} (i : Nat), x.drop i = cs → s.heap.IsStrIter I ty ⟨x.toArray⟩ t i →
    IsIt C k (.ref I) [I] [I] [] (cs.map fun c => .str [c]) s
  | [], s, i, r, hi => fun s₂ a _ A hA => by
    have hi₂ : s₂.heap.IsStrIter I ty ⟨x.toArray⟩ t i := let ⟨o, ho, q⟩ := hi; ⟨o, a.heap I (by simp) o ho, q⟩
    have hr : (ty == "range") = false := by rcases hty with rfl | rfl <;> decide
    have hx : (⟨x.toArray⟩ : Str).cps[i]? = none := by
      have := List.drop_eq_nil_iff.mp r
      simpa using this
    rcases hty with rfl | rfl
    · exact wpAny_pyNext_ascii_end hA.hd hi₂ hx fun h' he => ⟨rfl, let ⟨_, h1, h2⟩ := (sh_strIter hi₂ hr); kbut_one h1 h2 (fun b o hb e => he b o hb e) rfl rfl⟩
    · exact wpAny_pyNext_wide_end hA.hd hi₂ hx fun h' he => ⟨rfl, let ⟨_, h1, h2⟩ := (sh_strIter hi₂ hr); kbut_one h1 h2 (fun b o hb e => he b o hb e) rfl rfl⟩
  | c :: cs, s, i, r, hi => fun s₂ a _ A hA => by
    have hi₂ : s₂.heap.IsStrIter I ty ⟨x.toArray⟩ t i := let ⟨o, ho, q⟩ := hi; ⟨o, a.heap I (by simp) o ho, q⟩
    have hr : (ty == "range") = false := by rcases hty with rfl | rfl <;> decide
    have hx : (⟨x.toArray⟩ : Str).cps[i]? = some c := by
      have : (x.drop i)[0]? = some c := by rw [r]; rfl
      simpa using this
    have hq : x.drop (i + 1) = cs := by
      have := congrArg List.tail r
      simpa using this
    have fin : ∀ (h' : Heap), h'.IsStrIter I ty ⟨x.toArray⟩ t (i + 1) → Heap.SameBut I s₂.heap h' → ∃ v, some (Value.str ⟨#[c]⟩ s₂.toks) = some v ∧ Rep h' (.str [c]) v ∧
        KBut [I] [] s₂ { s₂ with heap := h', toks := s₂.toks + 1 } ∧ ∃ fp' wr', Grow s₂ [I] fp' ∧ Grow s₂ [I] wr' ∧ (NotOwned (.ref I) { s₂ with heap := h', toks := s₂.toks + 1 } ∧ Live fp' wr' { s₂ with heap := h', toks := s₂.toks + 1 }) ∧ IsIt C k (.ref I) fp' wr' [] (cs.map fun c => .str [c]) { s₂ with heap := h', toks := s₂.toks + 1 } := fun h' hi' hs' =>
      ⟨_, rfl, rep_str (x := [c]), (let ⟨_, h1, h2⟩ := (sh_strIter hi₂ hr); kbut_one h1 h2 (fun b o hb e => hs'.extBut b o hb e) rfl rfl), _, _, .refl _ _, .refl _ _, ⟨strIter_not rfl hi' (by rcases hty with rfl | rfl <;> decide), live1 (let ⟨o, ho, _⟩ := hi'; ⟨o, ho⟩)⟩, isIt_str hty (i + 1) hq hi'⟩
    rcases hty with rfl | rfl
    · exact wpAny_pyNext_ascii_item hi₂ hx fin
    · exact wpAny_pyNext_wide_item hi₂ hx fin

theorem isIt_range {C : Cx} {k : Nat} {I : Addr} {c : Int} : ∀ {n : Nat} {s : Shared} (a : Int), IsRangeIter s.heap I a n c →
    IsIt C k (.ref I) [I] [I] [] ((List.range n).map fun (i : Nat) => .int (a + i * c)) s
  | 0, s, a, hi => fun s₂ g _ A hA => by
    have hi₂ : IsRangeIter s₂.heap I a (0 : Nat) c := g.heap I (by simp) _ hi
    exact wpAny_pyNext_range_end hA.hd hi₂ (by decide) fun h' he => ⟨rfl, let ⟨_, h1, h2⟩ := (⟨_, hi₂, rfl⟩ : ∃ o, s₂.heap.get? I = some o ∧ seqish o = false); kbut_one h1 h2 (fun b o hb e => he b o hb e) rfl rfl⟩
  | n + 1, s, a, hi => by
    rw [List.range_succ_eq_map, List.map_cons, List.map_map]
    intro s₂ g _ A hA
    have hi₂ : IsRangeIter s₂.heap I a (n + 1 : Nat) c := g.heap I (by simp) _ hi
    refine wpAny_pyNext_range_item hi₂ (by omega) fun h' hi' hs' => ?_
    refine ⟨_, rfl, ?_, (let ⟨_, h1, h2⟩ := (⟨_, hi₂, rfl⟩ : ∃ o, s₂.heap.get? I = some o ∧ seqish o = false); kbut_one h1 h2 (fun b o hb e => hs'.extBut b o hb e) rfl rfl), _, _, .refl _ _, .refl _ _, ⟨⟨I, _, _, rfl, hi', rfl, by decide⟩, live1 ⟨_, hi'⟩⟩, ?_⟩
    · rw [show a + ((0 : Nat) : Int) * c = a by omega]; exact rep_int
    · have hi'' : IsRangeIter h' I (a + c) (n : Nat) c := by
        rw [show (((n : Nat) : Int)) = ((n + 1 : Nat) : Int) - 1 by omega]; exact hi'
      have := isIt_range (C := C) (k := k) (n := n) (s := { s₂ with heap := h', toks := s₂.toks + 1 }) (a + c) hi''
      have e : ((List.range n).map ((fun (i : Nat) => D.int (a + i * c)) ∘ Nat.succ)) = (List.range n).map fun (i : Nat) => .int (a + c + i * c) := by
        apply List.map_congr_left
        intro i _
        show D.int (a + ((i + 1 : Nat) : Int) * c) = _
        rw [Int.natCast_add, Int.add_mul]
        congr 1
        omega
      rw [e]
      exact this

/-- what may be iterated -/
noncomputable def itemsD : D → Option (List D)
  | .str x => some (x.map fun c => .str [c])
  | .list xs => if xs.all scalarD then some xs else none
  | .range a b c => if rangeOk a b c then some ((rangeL a b c).map .int) else none
  | _ => none

/-- an iterator newly made: all that stood stands; its own places are new, or an immutable list -/
structure NewIt (C : Cx) (k : Nat) (s : Shared) (lst : Bool) (it : Value) (ds : List D) (fp wr : List Addr) (gi : List Nat) (s' : Shared) : Prop where
  kp : Kp s s'
  isIt : IsIt C k it fp wr gi ds s'
  wrOk : ∀ b ∈ wr, s.heap.get? b = none ∧ (s'.heap.get? b).isSome = true
  fpOk : ∀ b ∈ fp, (s.heap.get? b = none ∧ (s'.heap.get? b).isSome = true) ∨ (lst = true ∧ ∃ vs n, IsL s.heap b vs n)
  giOk : ∀ i ∈ gi, s.gens[i]? = none ∧ (s'.gens[i]?).isSome = true
  self : ∀ s₂, Agree fp gi s' s₂ → ∀ A, wpAny C.M A (pyIter it) (fun v s'' => v = it ∧ s'' = s₂) NE s₂

noncomputable def isListD : D → Bool
  | .list _ => true
  | _ => false

theorem itemsD_ok {C : Cx} {k : Nat} {A : Around} {s : Shared} {d : D} {v : Value} {ds : List D} (e : itemsD d = some ds) (r : Rep s.heap d v) :
    wpAny C.M A (pyIter v) (fun it s' => ∃ fp wr gi, NewIt C k s (isListD d) it ds fp wr gi s') NE s := by
  have new : ∀ (h : Heap), h.get? h.objs.size = none := fun h => by
    cases e : h.get? h.objs.size with
    | none => rfl
    | some o => exact absurd (Heap.lt_size e) (Nat.lt_irrefl _)
  unfold itemsD at e
  split at e
  · rename_i x
    cases e
    unfold Rep at r
    obtain ⟨t, rfl⟩ := r
    by_cases ha : (⟨x.toArray⟩ : Str).cps.all (· < 128) = true
    · refine wpAny_pyIter_ascii ha ⟨[s.heap.objs.size], [s.heap.objs.size], [], ⟨.of_heap (.push _ _), isIt_str (.inl rfl) 0 rfl ⟨_, Heap.get?_push_size _ rfl, rfl, rfl⟩, ?_, ?_, by simp, ?_⟩⟩
      · intro b hb; simp at hb; subst hb; exact ⟨new _, by rw [Heap.get?_push_size _ rfl]; rfl⟩
      · intro b hb; simp at hb; subst hb; exact .inl ⟨new _, by rw [Heap.get?_push_size _ rfl]; rfl⟩
      · intro s₂ a A
        exact wpAny_pyIter_striter_ascii (x := ⟨x.toArray⟩) (t := t) (i := 0) ⟨_, a.heap _ (by simp) _ (Heap.get?_push_size _ rfl), rfl, rfl⟩ ⟨rfl, rfl⟩
    · refine wpAny_pyIter_wide (by simpa using ha) ⟨[s.heap.objs.size], [s.heap.objs.size], [], ⟨.of_heap (.push _ _), isIt_str (.inr rfl) 0 rfl ⟨_, Heap.get?_push_size _ rfl, rfl, rfl⟩, ?_, ?_, by simp, ?_⟩⟩
      · intro b hb; simp at hb; subst hb; exact ⟨new _, by rw [Heap.get?_push_size _ rfl]; rfl⟩
      · intro b hb; simp at hb; subst hb; exact .inl ⟨new _, by rw [Heap.get?_push_size _ rfl]; rfl⟩
      · intro s₂ a A
        exact wpAny_pyIter_striter_wide (x := ⟨x.toArray⟩) (t := t) (i := 0) ⟨_, a.heap _ (by simp) _ (Heap.get?_push_size _ rfl), rfl, rfl⟩ ⟨rfl, rfl⟩
  · rename_i xs
    split at e
    · rename_i hsc
      cases e
      unfold Rep at r
      obtain ⟨a, vs, n, rfl, il, r⟩ := r
      have hlt : a < s.heap.objs.size := Heap.lt_size il
      refine wpAny_pyIter_list ⟨_, il, rfl, n, rfl⟩ ⟨[s.heap.objs.size, a], [s.heap.objs.size], [], ⟨.of_heap (.push _ _), ?_, ?_, ?_, by simp, ?_⟩⟩
      · exact isIt_list (n := n) (vs := vs) (Nat.ne_of_lt hlt) 0 hsc (by simpa using r.ext (.push _ _)) ⟨_, Heap.get?_push_size _ rfl, rfl, rfl⟩ (Heap.get?_push_of_some _ il)
      · intro b hb; simp at hb; subst hb; exact ⟨new _, by rw [Heap.get?_push_size _ rfl]; rfl⟩
      · intro b hb
        simp at hb
        rcases hb with rfl | rfl
        · exact .inl ⟨new _, by rw [Heap.get?_push_size _ rfl]; rfl⟩
        · exact .inr ⟨rfl, vs, n, il⟩
      · intro s₂ g A
        exact wpAny_pyIter_listiter (l := a) (i := 0) ⟨_, g.heap _ (by simp) _ (Heap.get?_push_size _ rfl), rfl, rfl⟩ ⟨rfl, rfl⟩
    · cases e
  · rename_i a b c
    split at e
    · rename_i ho
      cases e
      unfold Rep at r
      obtain ⟨ad, t, u, j, rfl, ir⟩ := r
      obtain ⟨h1, h2⟩ := rangeSmall ho
      refine wpAny_pyIter_range ir h1 ⟨[s.heap.objs.size], [s.heap.objs.size], [], ⟨.of_heap (.push _ _), ?_, ?_, ?_, by simp, ?_⟩⟩
      · have hn : Builtin.Range.rangeSize a b c = ((Builtin.Range.rangeSize a b c).toNat : Int) := by omega
        unfold rangeL
        rw [List.map_map]
        refine isIt_range (n := (Builtin.Range.rangeSize a b c).toNat) a ?_
        rw [← hn]
        exact Heap.get?_push_size _ rfl
      · intro b hb; simp at hb; subst hb; exact ⟨new _, by rw [Heap.get?_push_size _ rfl]; rfl⟩
      · intro b hb; simp at hb; subst hb; exact .inl ⟨new _, by rw [Heap.get?_push_size _ rfl]; rfl⟩
      · intro s₂ g A
        exact wpAny_pyIter_rangeiter (g.heap _ (by simp) _ (Heap.get?_push_size _ rfl)) ⟨rfl, rfl⟩
    · cases e
  · cases e
end Mine

namespace Mine
open PySem PySem.Spec PyProof.Rows

/-! the interpreter: expressions -/
structure Tabs where
  gl : Str → Option D
  bi : Str → Option Value
  fn : Str → List D → Option D
  gn : Str → List D → Option (List D)

noncomputable def Callable (C : Cx) (k : Nat) (a : Addr) (args : List D) (d : D) : Prop :=
  ∀ A s vs, Rm k A → Ext C.B₀ s.heap → RepAll s.heap args vs → wpAny C.M A (call (.ref a) vs) (Gv s d) NE s

/-- x hands out the data ds, told from the state s on -/
noncomputable def IterOf (C : Cx) (k : Nat) (s : Shared) (lst : Bool) (ds : List D) (x : Value) (s₁ : Shared) : Prop :=
  ∀ A, Rm k A → wpAny C.M A (pyIter x) (fun it s' => ∃ fp wr gi, NewIt C k s lst it ds fp wr gi s') NE s₁

noncomputable def GenCallable (C : Cx) (k : Nat) (a : Addr) (args : List D) (ds : List D) : Prop :=
  ∀ A s vs, Rm k A → Ext C.B₀ s.heap → RepAll s.heap args vs → wpAny C.M A (call (.ref a) vs) (fun x s₁ => Kp s s₁ ∧ IterOf C k s false ds x s₁) NE s

structure IsFn (C : Cx) (f : Str) (a : Addr) : Prop where
  at_ : C.mg f = some (.ref a)
  obj : ∃ o fd, C.B₀.get? a = some o ∧ o.data = .func fd

structure TabsOk (C : Cx) (k : Nat) (T : Tabs) : Prop where
  gl : ∀ x d, T.gl x = some d → ∃ v, C.mg x = some v ∧ Rep C.B₀ d v
  bi : ∀ x v, T.bi x = some v → C.mg x = none ∧ C.mb x = some v ∧ ∀ a, v ≠ .ref a
  fn : ∀ f args d, T.fn f args = some d → ∃ a, IsFn C f a ∧ Callable C k a args d
  gn : ∀ f args ds, T.gn f args = some ds → ∃ a, IsFn C f a ∧ GenCallable C k a args ds

noncomputable abbrev RE := Names → Vars → Expr → Option D
noncomputable abbrev RT := Names → Vars → Expr → Option Bool

noncomputable def SoundE (C : Cx) (k : Nat) (rec : RE) : Prop := ∀ sc σ e d, rec sc σ e = some d → ∀ env : Env, EnvOk env → env.scope.names = sc → ∀ A s, Rm k A → Ext C.B₀ s.heap → Vs env σ s.heap → wpAny C.M A (eval e env) (Gv s d) NE s
noncomputable def SoundT (C : Cx) (k : Nat) (rec : RT) : Prop := ∀ sc σ e b, rec sc σ e = some b → ∀ env : Env, EnvOk env → env.scope.names = sc → ∀ A s, Rm k A → Ext C.B₀ s.heap → Vs env σ s.heap → wpAny C.M A (isTrue e env (eval e env)) (fun r s' => r = b ∧ Kp s s') NE s

noncomputable def isStar : Expr → Bool
  | .Starred .. => true
  | _ => false

noncomputable def evEs (rec : Expr → Option D) : List Expr → Option (List D)
  | [] => some []
  | e :: r => if isStar e then none else (rec e).bind fun d => (evEs rec r).map (d :: ·)

noncomputable def constD : Const → Option D
  | .none => some .none
  | .bool b => some (.bool b)
  | .int i => some (.int i)
  | .str s => some (.str s.cps.toList)
  | _ => none

noncomputable def optE (rec : Expr → Option D) : Option Expr → Option D
  | none => some .none
  | some e => rec e

noncomputable def plainBase : Expr → Bool
  | .Name .. => true
  | .Constant .. => true
  | _ => false

noncomputable def callD (T : Tabs) (sc : Names) (σ : Vars) (f : Str) (ds : List D) : Option D :=
  if f == ("__debug__" : Str) || (σ.lookup f).isSome || sc.lookup f != some .globalImplicit then none else
  match T.bi f with
  | some v => fnD v ds
  | none => T.fn f ds

noncomputable def methD (m : Str) (d : D) (ds : List D) : Option D := match d with
  | .str _ => if m == ("lower" : Str) && ds.isEmpty then fnD (.builtin "str.lower") [d] else if m == ("join" : Str) then (match ds with | [x] => fnD (.builtin "str.join") [d, x] | _ => none) else none
  | _ => none

section
variable {C : Cx} {k : Nat} {A : Around} {s : Shared} {env : Env} {σ : Vars} {E : Value → Shared → Prop}

theorem kp_base {s s' : Shared} (x : Ext C.B₀ s.heap) (h : Kp s s') : Ext C.B₀ s'.heap := fun b o e => h.heap b o (x b o e)

theorem load_var {x : Str} {d : D} (ok : EnvOk env) (vs : Vs env σ s.heap) (e : σ.lookup x = some d) (hcd : (x == ("__classdict__" : Str)) = false) :
    wpAny C.M A (loadName env x) (fun v s' => s' = s ∧ Rep s.heap d v) NE s := by
  obtain ⟨m, hn, hv, _⟩ := vs
  obtain ⟨v, a, r⟩ := hv x d e
  rcases a with ⟨hk, hm⟩ | ⟨hk | hk, c, hc, hi⟩
  · exact wpAny_loadName_local ok.kind hk hn hm ⟨rfl, r⟩
  · exact wpAny_loadName_cell ok.kind hk hc hi ⟨rfl, r⟩
  · exact wpAny_loadName_free ok.kind hk hc hi ⟨rfl, r⟩ hcd

theorem items_ok {rec : RE} (S : SoundE C k rec) (ok : EnvOk env) {sc : Names} (hsc : env.scope.names = sc) (hA : Rm k A) {pos : Pos} : ∀ {es : List Expr} {ds : List D} {s : Shared}, evEs (rec sc σ) es = some ds → Ext C.B₀ s.heap → Vs env σ s.heap →
    wpAny C.M A (spliced (backTo pos (starEach es env))) (fun vs s' => Kp s s' ∧ RepAll s'.heap ds vs) NE s
  | [], ds, s, e, _, _ => by
    simp only [evEs] at e
    cases e
    exact wpAny_items_nil ⟨.refl s, .nil⟩
  | x :: r, ds, s, e, hb, hv => by
    simp only [evEs] at e
    split at e
    · cases e
    · rename_i hst
      rw [Option.bind_eq_some_iff] at e
      obtain ⟨d, e1, e⟩ := e
      rw [Option.map_eq_some_iff] at e
      obtain ⟨ds', e2, rfl⟩ := e
      have he : starEach (x :: r) env = (false, eval x env) :: starEach r env := by
        cases x <;> first | rfl | (exact absurd rfl hst)
      refine wpAny_items_cons (gv_of (S _ _ _ _ e1 env ok hsc A s hA hb hv) fun v s₁ k₁ r₁ => ?_) he
      refine wpAny_mono (items_ok S ok hsc hA e2 (kp_base hb k₁) (hv.ext k₁.heap)) (fun vs s₂ q => ?_) fun _ _ x => x
      exact ⟨k₁.trans q.1, .cons (r₁.ext q.1.heap) q.2⟩

/-- arguments, whatever is called -/
theorem args_ok {rec : RE} (S : SoundE C k rec) (ok : EnvOk env) {sc : Names} (hsc : env.scope.names = sc) (hA : Rm k A) {pos : Pos} {f : Value} {es : List Expr} {ds : List D} (e : evEs (rec sc σ) es = some ds) (hb : Ext C.B₀ s.heap) (hv : Vs env σ s.heap) :
    wpAny C.M A (evalArgs f true (backTo pos (starEach es env)) []) (fun a s' => Kp s s' ∧ ∃ vs, a = ⟨vs, []⟩ ∧ RepAll s'.heap ds vs) NE s := by
  have h := items_ok S ok hsc hA (pos := pos) e hb hv
  cases es with
  | nil =>
    simp only [evEs] at e
    cases e
    show wpAny C.M A (evalArgs f true [] []) _ _ s
    unfold evalArgs
    show wpAny C.M A (spliced [] >>= _) _ _ s
    refine wpAny_bind (Calls.spliced_nil ?_)
    refine wpAny_bind (wpAny_pure ?_)
    refine wpAny_holding ?_
    exact wpAny_bind (wpAny_pure (wpAny_bind (wpAny_pure (wpAny_pure ⟨.refl s, [], rfl, .nil⟩))))
  | cons y r =>
    simp only [evEs] at e
    split at e
    · cases e
    · rename_i hst
      have he : starEach (y :: r) env = (false, eval y env) :: starEach r env := by
        cases y <;> first | rfl | (exact absurd rfl hst)
      rw [he] at h ⊢
      exact Calls.evalArgs_plain (wpAny_mono h (fun vs s' q => ⟨q.1, vs, rfl, q.2⟩) fun _ _ x => x)

theorem callWith_machine {pos : Pos} {f : Value} {first : List Value} {args : List (Bool × Sem Value)} {Q : Value → Shared → Prop} (hf : ∀ a, f ≠ .ref a) (hplain : args.any (·.1) = false)
    (h : wpAny C.M A (evalArgs f true args []) (fun a s₁ => wpAny C.M A (call f (first ++ a.pos) a.kw) Q E s₁) E s) : wpAny C.M A (callWith pos f first args []) Q E s := by
  unfold callWith
  refine wpAny_bind (wpAny_holding (wpAny_mono h (fun a s₁ h₁ => wpAny_bind (wpAny_standAt ?_)) fun _ _ x => x))
  have hk : keeperOf f = pure .machine := by
    cases f <;> first | rfl | (exact absurd rfl (hf _))
  rw [hk]
  refine wpAny_bind (wpAny_pure ?_)
  rw [hplain]
  exact wpAny_bind (wpAny_mono h₁ (fun r s₂ hr => wpAny_bind (wpAny_holding (wpAny_point (wpAny_pure hr)))) fun _ _ x => x)

theorem noStar (env : Env) {rec : Expr → Option D} {pos : Pos} : ∀ {es : List Expr} {ds : List D}, evEs rec es = some ds → (backTo pos (starEach es env)).any (·.1) = false
  | [], _, _ => rfl
  | y :: r, ds, e => by
    simp only [evEs] at e
    split at e
    · cases e
    · rename_i hst
      rw [Option.bind_eq_some_iff] at e
      obtain ⟨d, e1, e⟩ := e
      rw [Option.map_eq_some_iff] at e
      obtain ⟨ds', e2, rfl⟩ := e
      have he : starEach (y :: r) env = (false, eval y env) :: starEach r env := by
        cases y <;> first | rfl | (exact absurd rfl hst)
      rw [he]
      have := noStar env (pos := pos) e2
      simpa [backTo] using this

theorem global_ok (ok : EnvOk env) {f : Str} {pos : Pos} {v : Value} (hd : (f == ("__debug__" : Str)) = false) (hk : env.kindOf f = some .globalImplicit) (hb : Ext C.B₀ s.heap)
    (hv : C.mg f = some v ∨ (C.mg f = none ∧ C.mb f = some v)) {Q : Value → Shared → Prop} (h : Q v s) : wpAny C.M A (eval (.Name f pos) env) Q E s := by
  refine Calls.Name_function_global ok.kind hk ?_ hd
  have g : s.heap.Ns env.globals C.mg := by rw [ok.glob]; exact C.g.keeps hb
  have b : s.heap.Ns env.builtins C.mb := by rw [ok.blt]; exact C.b.keeps hb
  rcases hv with hv | ⟨h1, h2⟩
  · exact Calls.loadGlobal_global g hv h
  · exact Calls.loadGlobal_builtin g h1 b h2 h

theorem callD_ok {T : Tabs} {rec : RE} (hT : TabsOk C k T) (S : SoundE C k rec) (ok : EnvOk env) {sc : Names} (hsc : env.scope.names = sc) (hA : Rm k A) {fp pos : Pos} {f : Str} {es : List Expr} {ds : List D} {d : D}
    (e1 : evEs (rec sc σ) es = some ds) (e2 : callD T sc σ f ds = some d) (hb : Ext C.B₀ s.heap) (hv : Vs env σ s.heap) : wpAny C.M A (eval (.Call (.Name f fp) es [] pos) env) (Gv s d) NE s := by
  unfold callD at e2
  split at e2
  · cases e2
  · rename_i hc
    simp only [Bool.or_eq_true, bne_iff_ne, ne_eq, not_or, Decidable.not_not] at hc
    obtain ⟨⟨hd, _⟩, hk⟩ := hc
    have hd : (f == ("__debug__" : Str)) = false := by simpa using hd
    have hk : env.kindOf f = some .globalImplicit := by unfold Env.kindOf; rw [hsc]; exact hk
    show wpAny C.M A (do callWith pos (← eval (.Name f fp) env) [] (backTo pos (starEach es env)) (backToKw pos (keywordEach [] env))) _ _ s
    refine wpAny_bind ?_
    split at e2
    · rename_i v hbi
      obtain ⟨h1, h2, h3⟩ := hT.bi f v hbi
      refine global_ok ok hd hk hb (.inr ⟨h1, h2⟩) ?_
      refine callWith_machine h3 (noStar env e1) (wpAny_mono (args_ok S ok hsc hA e1 hb hv) (fun a s₁ q => ?_) fun _ _ x => x)
      obtain ⟨k₁, vs, rfl, r⟩ := q
      exact gv_of (fnD_ok hA.hd e2 r) fun v s' k₂ r₂ => ⟨k₁.trans k₂, r₂⟩
    · obtain ⟨a, hf, hcall⟩ := hT.fn f ds d e2
      obtain ⟨o, fd, ho, hfd⟩ := hf.obj
      refine global_ok ok hd hk hb (.inl hf.at_) ?_
      refine Calls.callWith_function (o := o) (fd := fd) (wpAny_mono (args_ok S ok hsc hA e1 hb hv) (fun x s₁ q => ?_) fun _ _ x => x)
      obtain ⟨k₁, vs, rfl, r⟩ := q
      have hb₁ := kp_base hb k₁
      exact ⟨⟨hb₁ _ _ ho, hfd⟩, gv_of (hcall A s₁ vs hA hb₁ r) fun v s' k₂ r₂ => ⟨k₁.trans k₂, r₂⟩⟩

theorem starLen {rec : Expr → Option D} (env : Env) : ∀ {es : List Expr} {ds : List D} {pos : Pos}, evEs rec es = some ds → (backTo pos (starEach es env)).all (fun x => !x.1) = true
  | [], _, _, _ => rfl
  | y :: r, ds, pos, e => by
    simp only [evEs] at e
    split at e
    · cases e
    · rename_i hst
      rw [Option.bind_eq_some_iff] at e
      obtain ⟨d, e1, e⟩ := e
      rw [Option.map_eq_some_iff] at e
      obtain ⟨ds', e2, rfl⟩ := e
      have he : starEach (y :: r) env = (false, eval y env) :: starEach r env := by
        cases y <;> first | rfl | (exact absurd rfl hst)
      rw [he]
      have := starLen env (pos := pos) e2
      simpa [backTo] using this

theorem methD_ok {rec : RE} (S : SoundE C k rec) (ok : EnvOk env) {sc : Names} (hsc : env.scope.names = sc) (hA : Rm k A) {o : Expr} {m : Str} {apos pos : Pos} {es : List Expr} {ds : List D} {d x : D} (hp : plainBase o = true)
    (hl : (apos.endLine == pos.line) = true) (hn : es.length < 5) (e0 : rec sc σ o = some d) (e1 : evEs (rec sc σ) es = some ds) (e2 : methD m d ds = some x) (hb : Ext C.B₀ s.heap) (hv : Vs env σ s.heap) :
    wpAny C.M A (eval (.Call (.Attribute o m apos) es [] pos) env) (Gv s x) NE s := by
  have hbase : attributeBase o m env (eval o env) = eval o env := by cases o <;> first | rfl | (cases hp)
  refine wpAny_Call_method_lateS hbase ?_ hl ?_
  · rw [starLen env e1]
    show (_ && true && decide _) = true
    simp
    omega
  · refine gv_of (S _ _ _ _ e0 env ok hsc A s hA hb hv) fun ov s₁ k₁ r₁ => ?_
    unfold methD at e2
    split at e2
    · rename_i y
      have r₁' := r₁
      unfold Rep at r₁
      obtain ⟨t, rfl⟩ := r₁
      have hb₁ := kp_base hb k₁
      have hv₁ := hv.ext k₁.heap
      have both : ∀ (id : String) (name : Str), Slot "str" name id → typeOf (.builtin id) = pure (.type "method_descriptor") → m = name → fnD (.builtin id) (.str y :: ds) = some x →
          MethodOnS C.prog C.w A NE m (.str ⟨y.toArray⟩ t) pos (backTo pos (starEach es env)) (Gv s x) s₁ := by
        rintro id name slot ty rfl e3
        refine ⟨"str", id, F.plainAttrs_str, slot, ty, typeIs_str _ _ _, (fun _ e => nomatch e), ?_⟩
        refine callWith_machine (fun a e => nomatch e) (noStar env e1) (wpAny_mono (args_ok S ok hsc hA e1 hb₁ hv₁) (fun a s₂ q => ?_) fun _ _ x => x)
        obtain ⟨k₂, vs, rfl, r₂⟩ := q
        exact gv_of (fnD_ok hA.hd e3 (.cons (r₁'.ext k₂.heap) r₂)) fun v s' k₃ r₃ => ⟨k₁.trans (k₂.trans k₃), r₃⟩
      split at e2
      · rename_i hc
        simp only [Bool.and_eq_true, beq_iff_eq, List.isEmpty_iff] at hc
        obtain ⟨hm, rfl⟩ := hc
        exact both "str.lower" _ F.slot_str_lower F.type_str_lower hm e2
      · split at e2
        · rename_i hc
          have hm : m = ("join" : Str) := by simpa using hc
          split at e2
          · exact both "str.join" _ F.slot_str_join F.type_str_join hm e2
          · cases e2
        · cases e2
    · cases e2

noncomputable def seqKind : D → Bool
  | .str _ | .list _ | .tuple _ => true
  | _ => false

theorem getitem_slot {s : Shared} {v : Value} {T id : String} (hT : s.TypeIs v T) (slot : Slot T "__getitem__" id) : wpAny C.M A (getitemInPython v) (fun b s' => b = false ∧ s' = s) NE s := by
  unfold getitemInPython
  exact wpAny_bind (wpAny_specialOf hT slot.lookup (wpAny_pure ⟨rfl, rfl⟩))

theorem getitem_plain {s : Shared} {d : D} {v : Value} (r : Rep s.heap d v) (hd : seqKind d = true) : wpAny C.M A (getitemInPython v) (fun b s' => b = false ∧ s' = s) NE s := by
  cases d <;> simp [seqKind] at hd <;> unfold Rep at r
  · obtain ⟨t, rfl⟩ := r
    exact getitem_slot (typeIs_str s _ t) F.slot_str_getitem
  · obtain ⟨a, vs, n, rfl, il, _⟩ := r
    exact getitem_slot ⟨_, il, rfl⟩ slot_list_getitem
  · obtain ⟨a, vs, n, rfl, il, _⟩ := r
    exact getitem_slot ⟨_, il, rfl⟩ F.slot_tuple_getitem

theorem itemD_kind {d x : D} {i : Int} (e : itemD d i = some x) : seqKind d = true := by
  unfold itemD at e
  split at e
  · cases d <;> simp [seqKind] at e ⊢
  · cases e
theorem sliceD_kind {d x l u k : D} (e : sliceD d l u k = some x) : seqKind d = true := by
  unfold sliceD at e
  simp only [bind, Option.bind_eq_some_iff] at e
  obtain ⟨_, _, _, _, _, _, e⟩ := e
  cases d <;> simp [seqKind] at e ⊢

theorem subscript_item {rec : RE} (S : SoundE C k rec) (ok : EnvOk env) {sc : Names} (hsc : env.scope.names = sc) (hA : Rm k A) {v i : Expr} {pos : Pos} {d x : D} {j : Int} (hi : ∀ a b c p, i ≠ .Slice a b c p)
    (e0 : rec sc σ v = some d) (e1 : rec sc σ i = some (.int j)) (e2 : itemD d j = some x) (hb : Ext C.B₀ s.heap) (hv : Vs env σ s.heap) : wpAny C.M A (eval (.Subscript v i pos) env) (Gv s x) NE s := by
  rw [eval_Subscript]
  refine wpAny_bind (gv_of (S _ _ _ _ e0 env ok hsc A s hA hb hv) fun ov s₁ k₁ r₁ => ?_)
  refine wpAny_bind (wpAny_holding (gv_of (S _ _ _ _ e1 env ok hsc A s₁ hA (kp_base hb k₁) (hv.ext k₁.heap)) fun iv s₂ k₂ r₂ => ?_))
  refine wpAny_bind (wpAny_standAt ?_)
  have r₁ := r₁.ext k₂.heap
  refine wpAny_bind (wpAny_mono (getitem_plain r₁ (itemD_kind e2)) (fun b s₃ q => ?_) fun _ _ x => x.elim)
  obtain ⟨rfl, rfl⟩ := q
  unfold Rep at r₂
  obtain ⟨t, rfl⟩ := r₂
  have hsub : subscripted i false ov (.int j t) = operate [ov, .int j t] (getItem ov (.int j t)) := by
    cases i <;> first | rfl | (exact absurd rfl (hi _ _ _ _))
  rw [hsub]
  refine wpAny_bind (wpAny_operating (gv_of (itemD_ok e2 r₁) fun v' s₄ k₄ r₄ => ?_))
  exact wpAny_bind (wpAny_letTemporaryGo (wpAny_pure ⟨k₁.trans (k₂.trans k₄), r₄⟩))

theorem opt_ok {rec : RE} (S : SoundE C k rec) (ok : EnvOk env) {sc : Names} (hsc : env.scope.names = sc) (hA : Rm k A) {o : Option Expr} {d : D} (e : optE (rec sc σ) o = some d) (hb : Ext C.B₀ s.heap) (hv : Vs env σ s.heap) :
    wpAny C.M A (valueOrNone (evalOpt o env)) (Gv s d) NE s := by
  cases o with
  | none => simp only [optE] at e; cases e; exact wpAny_pure ⟨.refl s, by unfold Rep; rfl⟩
  | some x => exact S _ _ _ _ e env ok hsc A s hA hb hv

theorem subscript_slice {rec : RE} (S : SoundE C k rec) (ok : EnvOk env) {sc : Names} (hsc : env.scope.names = sc) (hA : Rm k A) {v : Expr} {lo hi st : Option Expr} {p pos : Pos} {d x l u j : D}
    (e0 : rec sc σ v = some d) (e1 : optE (rec sc σ) lo = some l) (e2 : optE (rec sc σ) hi = some u) (e3 : optE (rec sc σ) st = some j) (e4 : sliceD d l u j = some x) (hb : Ext C.B₀ s.heap) (hv : Vs env σ s.heap) :
    wpAny C.M A (eval (.Subscript v (.Slice lo hi st p) pos) env) (Gv s x) NE s := by
  rw [eval_Subscript]
  refine wpAny_bind (gv_of (S _ _ _ _ e0 env ok hsc A s hA hb hv) fun ov s₁ k₁ r₁ => ?_)
  have hb₁ := kp_base hb k₁
  have hv₁ := hv.ext k₁.heap
  refine wpAny_bind (wpAny_holding ?_)
  show wpAny C.M A (do
    let l ← valueOrNone (evalOpt lo env)
    let u ← holding [l] (valueOrNone (evalOpt hi env))
    let s ← holding [l, u] (valueOrNone (evalOpt st env))
    newFields "slice" [l, u, s]) _ _ s₁
  refine wpAny_bind (gv_of (opt_ok S ok hsc hA e1 hb₁ hv₁) fun lv s₂ k₂ r₂ => ?_)
  refine wpAny_bind (wpAny_holding (gv_of (opt_ok S ok hsc hA e2 (kp_base hb₁ k₂) (hv₁.ext k₂.heap)) fun uv s₃ k₃ r₃ => ?_))
  refine wpAny_bind (wpAny_holding (gv_of (opt_ok S ok hsc hA e3 (kp_base (kp_base hb₁ k₂) k₃) ((hv₁.ext k₂.heap).ext k₃.heap)) fun sv s₄ k₄ r₄ => ?_))
  refine wpAny_newObj_type ?_
  have k₅ : Kp s₄ { s₄ with heap := s₄.heap.push { cls := .type "slice", data := .fields [lv, uv, sv].toArray } } := .of_heap (.push _ _)
  refine wpAny_bind (wpAny_standAt ?_)
  have kk := (k₂.trans (k₃.trans k₄)).trans k₅
  have r₁ := r₁.ext kk.heap
  refine wpAny_bind (wpAny_mono (getitem_plain r₁ (sliceD_kind e4)) (fun b s₆ q => ?_) fun _ _ x => x.elim)
  obtain ⟨rfl, rfl⟩ := q
  have hsub : ∀ o sl, wpAny C.M A (getItem o sl) (fun v' s' => Kp s s' ∧ Rep s'.heap x v') NE { s₄ with heap := s₄.heap.push { cls := .type "slice", data := .fields [lv, uv, sv].toArray } } → wpAny C.M A (subscripted (.Slice lo hi st p) false o sl) (fun v' s' => Kp s s' ∧ Rep s'.heap x v') NE { s₄ with heap := s₄.heap.push { cls := .type "slice", data := .fields [lv, uv, sv].toArray } } := by
    intro o sl h
    cases st <;> exact wpAny_operating h
  refine wpAny_bind (wpAny_mono (hsub _ _ (gv_of (sliceD_ok (sl := s₄.heap.objs.size) e4 r₁ (r₂.ext (k₃.trans (k₄.trans k₅)).heap) (r₃.ext (k₄.trans k₅).heap) (r₄.ext k₅.heap) (Heap.get?_push_size _ rfl)) fun v' s' k₇ r₇ => ⟨k₁.trans (kk.trans k₇), r₇⟩)) (fun v' s' q => ?_) fun _ _ x => x)
  exact wpAny_bind (wpAny_letTemporaryGo (wpAny_pure q))

end
/-- what an expression's answer is to tell -/
def StepS (T : Tabs) (rec : RE) (recT : RT) (comp : RE) (sc : Names) (σ : Vars) (e : Expr) (d : D) : Prop := ∀ (C : Cx) (k : Nat), TabsOk C k T → SoundE C k rec → SoundT C k recT → SoundE C k comp → ∀ env : Env, EnvOk env → env.scope.names = sc → ∀ A s, Rm k A → Ext C.B₀ s.heap → Vs env σ s.heap → wpAny C.M A (eval e env) (Gv s d) NE s

noncomputable def stepP (T : Tabs) (rec : RE) (recT : RT) (comp : RE) (sc : Names) (σ : Vars) (e : Expr) : {o : Option D // ∀ d, o = some d → StepS T rec recT comp sc σ e d} := match e with
  | .Constant c _ _ => ⟨constD c, fun d h C k hT S ST SC env ok hsc A s hA hb hv => by
    unfold constD at h
    split at h
    · cases h; exact wpAny_Constant_none ⟨.refl s, by unfold Rep; rfl⟩
    · cases h; exact wpAny_Constant_bool gv_bool
    · cases h; exact wpAny_Constant_int gv_int
    · rename_i x; cases h
      refine wpAny_Constant_str ⟨.toks _ _, ?_⟩
      unfold Rep
      exact ⟨s.toks, by simp⟩
    · cases h⟩
  | .Name x _ => ⟨if x == ("__debug__" : Str) || x == ("__classdict__" : Str) then none else (match σ.lookup x with
      | some d => some d
      | none => if sc.lookup x == some .globalImplicit then T.gl x else none), fun d h C k hT S ST SC env ok hsc A s hA hb hv => by
    split at h
    · cases h
    · rename_i hc
      simp only [Bool.or_eq_true, not_or, Bool.not_eq_true] at hc
      split at h
      · rename_i d' e1
        cases h
        exact wpAny_Name (wpAny_mono (load_var ok hv e1 hc.2) (fun v s' q => by obtain ⟨rfl, r⟩ := q; exact ⟨.refl _, r⟩) fun _ _ x => x) hc.1
      · split at h
        · rename_i hk
          obtain ⟨v, h1, h2⟩ := hT.gl x d h
          have hk : env.kindOf x = some .globalImplicit := by unfold Env.kindOf; rw [hsc]; simpa using hk
          exact global_ok ok hc.1 hk hb (.inl h1) ⟨.refl s, h2.ext hb⟩
        · cases h⟩
  | .BinOp l op r _ => ⟨(rec sc σ l).bind fun a => (rec sc σ r).bind fun b => binD op a b, fun d h C k hT S ST SC env ok hsc A s hA hb hv => by
    rw [Option.bind_eq_some_iff] at h
    obtain ⟨a, e1, h⟩ := h
    rw [Option.bind_eq_some_iff] at h
    obtain ⟨b, e2, h⟩ := h
    refine wpAny_BinOp (gv_of (S _ _ _ _ e1 env ok hsc A s hA hb hv) fun va s₁ k₁ r₁ => gv_of (S _ _ _ _ e2 env ok hsc A s₁ hA (kp_base hb k₁) (hv.ext k₁.heap)) fun vb s₂ k₂ r₂ => ?_)
    exact gv_of (binD_ok h (r₁.ext k₂.heap) r₂) fun v s₃ k₃ r₃ => ⟨k₁.trans (k₂.trans k₃), r₃⟩⟩
  | .UnaryOp .USub x _ => ⟨(rec sc σ x).bind fun a => match a with | .int i => some (.int (-i)) | _ => none, fun d h C k hT S ST SC env ok hsc A s hA hb hv => by
    rw [Option.bind_eq_some_iff] at h
    obtain ⟨a, e1, h⟩ := h
    split at h
    · cases h
      refine wpAny_UnaryOp (gv_of (S _ _ _ _ e1 env ok hsc A s hA hb hv) fun va s₁ k₁ r₁ => ?_)
      unfold Rep at r₁
      obtain ⟨t, rfl⟩ := r₁
      exact P.neg_int ⟨k₁.trans (.toks _ _), rep_int⟩
    · cases h⟩
  | .BoolOp .And [x, y] _ => ⟨(rec sc σ x).bind fun a => (truthD a).bind fun t => if t then rec sc σ y else some a, fun d h C k hT S ST SC env ok hsc A s hA hb hv => by
    rw [Option.bind_eq_some_iff] at h
    obtain ⟨a, e1, h⟩ := h
    rw [Option.bind_eq_some_iff] at h
    obtain ⟨t, e2, h⟩ := h
    refine wpAny_And2 (gv_of (S _ _ _ _ e1 env ok hsc A s hA hb hv) fun va s₁ k₁ r₁ => wpAny_mono (truthD_ok e2 r₁) (fun b s₂ q => ?_) fun _ _ x => x.elim)
    obtain ⟨rfl, k₂⟩ := q
    cases b with
    | true =>
      simp only [if_true] at h ⊢
      exact gv_of (S _ _ _ _ h env ok hsc A s₂ hA (kp_base (kp_base hb k₁) k₂) ((hv.ext k₁.heap).ext k₂.heap)) fun v s₃ k₃ r₃ => ⟨k₁.trans (k₂.trans k₃), r₃⟩
    | false =>
      simp only [Bool.false_eq_true, if_false] at h ⊢
      cases h
      exact ⟨k₁.trans k₂, r₁.ext k₂.heap⟩⟩
  | .BoolOp .Or [x, y] _ => ⟨(rec sc σ x).bind fun a => (truthD a).bind fun t => if t then some a else rec sc σ y, fun d h C k hT S ST SC env ok hsc A s hA hb hv => by
    rw [Option.bind_eq_some_iff] at h
    obtain ⟨a, e1, h⟩ := h
    rw [Option.bind_eq_some_iff] at h
    obtain ⟨t, e2, h⟩ := h
    refine wpAny_Or2 (gv_of (S _ _ _ _ e1 env ok hsc A s hA hb hv) fun va s₁ k₁ r₁ => wpAny_mono (truthD_ok e2 r₁) (fun b s₂ q => ?_) fun _ _ x => x.elim)
    obtain ⟨rfl, k₂⟩ := q
    cases b with
    | false =>
      simp only [Bool.false_eq_true, if_false] at h ⊢
      exact gv_of (S _ _ _ _ h env ok hsc A s₂ hA (kp_base (kp_base hb k₁) k₂) ((hv.ext k₁.heap).ext k₂.heap)) fun v s₃ k₃ r₃ => ⟨k₁.trans (k₂.trans k₃), r₃⟩
    | true =>
      simp only [if_true] at h ⊢
      cases h
      exact ⟨k₁.trans k₂, r₁.ext k₂.heap⟩⟩
  | .Compare l [op] [r] _ => ⟨if behindInMarks op r then none else (rec sc σ l).bind fun a => (rec sc σ r).bind fun b => (cmpD op a b).map .bool, fun d h C k hT S ST SC env ok hsc A s hA hb hv => by
    split at h
    · cases h
    · rename_i hm
      rw [Option.bind_eq_some_iff] at h
      obtain ⟨a, e1, h⟩ := h
      rw [Option.bind_eq_some_iff] at h
      obtain ⟨b, e2, h⟩ := h
      rw [Option.map_eq_some_iff] at h
      obtain ⟨c, e3, rfl⟩ := h
      refine wpAny_Compare1 (gv_of (S _ _ _ _ e1 env ok hsc A s hA hb hv) fun va s₁ k₁ r₁ => gv_of (S _ _ _ _ e2 env ok hsc A s₁ hA (kp_base hb k₁) (hv.ext k₁.heap)) fun vb s₂ k₂ r₂ => ?_) (by simpa using hm)
      exact wpAny_mono (cmpD_ok e3 (r₁.ext k₂.heap) r₂) (fun v s₃ q => by obtain ⟨rfl, rfl⟩ := q; exact ⟨k₁.trans k₂, by unfold Rep; rfl⟩) fun _ _ x => x⟩
  | .IfExp t b o _ => ⟨(recT sc σ t).bind fun c => if c then rec sc σ b else rec sc σ o, fun d h C k hT S ST SC env ok hsc A s hA hb hv => by
    rw [Option.bind_eq_some_iff] at h
    obtain ⟨c, e1, h⟩ := h
    refine wpAny_IfExp (wpAny_mono (ST _ _ _ _ e1 env ok hsc A s hA hb hv) (fun r s₁ q => ?_) fun _ _ x => x.elim)
    obtain ⟨rfl, k₁⟩ := q
    cases r with
    | true =>
      simp only [if_true] at h ⊢
      exact gv_of (S _ _ _ _ h env ok hsc A s₁ hA (kp_base hb k₁) (hv.ext k₁.heap)) fun v s₃ k₃ r₃ => ⟨k₁.trans k₃, r₃⟩
    | false =>
      simp only [Bool.false_eq_true, if_false] at h ⊢
      exact gv_of (S _ _ _ _ h env ok hsc A s₁ hA (kp_base hb k₁) (hv.ext k₁.heap)) fun v s₃ k₃ r₃ => ⟨k₁.trans k₃, r₃⟩⟩
  | .Subscript v i _ => ⟨(rec sc σ v).bind fun d => match i with
      | .Slice lo hi st _ => (optE (rec sc σ) lo).bind fun l => (optE (rec sc σ) hi).bind fun u => (optE (rec sc σ) st).bind fun k => sliceD d l u k
      | i => (rec sc σ i).bind fun j => match j with | .int j => itemD d j | _ => none, fun d h C k hT S ST SC env ok hsc A s hA hb hv => by
    rw [Option.bind_eq_some_iff] at h
    obtain ⟨d', e1, h⟩ := h
    split at h
    · rw [Option.bind_eq_some_iff] at h
      obtain ⟨l, e2, h⟩ := h
      rw [Option.bind_eq_some_iff] at h
      obtain ⟨u, e3, h⟩ := h
      rw [Option.bind_eq_some_iff] at h
      obtain ⟨j, e4, h⟩ := h
      exact subscript_slice S ok hsc hA e1 e2 e3 e4 h hb hv
    · rename_i hi
      rw [Option.bind_eq_some_iff] at h
      obtain ⟨j, e2, h⟩ := h
      split at h
      · exact subscript_item S ok hsc hA (fun a b c p e => hi a b c p e) e1 e2 h hb hv
      · cases h⟩
  | .Call f args kws pos => ⟨match kws with
      | [] => (match f with
        | .Name f _ => (evEs (rec sc σ) args).bind fun ds => callD T sc σ f ds
        | .Attribute o m apos => if plainBase o && apos.endLine == pos.line && decide (args.length < 5) then (rec sc σ o).bind fun d => (evEs (rec sc σ) args).bind fun ds => methD m d ds else none
        | _ => none)
      | _ :: _ => none, fun d h C k hT S ST SC env ok hsc A s hA hb hv => by
    split at h
    · split at h
      · rw [Option.bind_eq_some_iff] at h
        obtain ⟨ds, e1, h⟩ := h
        exact callD_ok hT S ok hsc hA e1 h hb hv
      · split at h
        · rename_i hc
          simp only [Bool.and_eq_true, decide_eq_true_eq] at hc
          rw [Option.bind_eq_some_iff] at h
          obtain ⟨d', e0, h⟩ := h
          rw [Option.bind_eq_some_iff] at h
          obtain ⟨ds, e1, h⟩ := h
          exact methD_ok S ok hsc hA hc.1.1 hc.1.2 hc.2 e0 e1 h hb hv
        · cases h
      · cases h
    · cases h⟩
  | .List es _ => ⟨(evEs (rec sc σ) es).bind fun ds => if ds.length ≤ sizeLine then some (.list ds) else none, fun d h C k hT S ST SC env ok hsc A s hA hb hv => by
    rw [Option.bind_eq_some_iff] at h
    obtain ⟨ds, e1, h⟩ := h
    split at h
    · rename_i hsz
      cases h
      refine wpAny_List (wpAny_mono (items_ok S ok hsc hA e1 hb hv) (fun vs s₁ q => ?_) fun _ _ x => x)
      have hl := q.2.length
      have g := gv_newL (s := s₁) (vs := vs.toArray) (ds := ds) (by simpa using q.2)
      exact ⟨by omega, q.1.trans g.1, g.2⟩
    · cases h⟩
  | .Tuple es _ _ => ⟨(evEs (rec sc σ) es).bind fun ds => if ds.length ≤ sizeLine then some (.tuple ds) else none, fun d h C k hT S ST SC env ok hsc A s hA hb hv => by
    rw [Option.bind_eq_some_iff] at h
    obtain ⟨ds, e1, h⟩ := h
    split at h
    · rename_i hsz
      cases h
      refine wpAny_Tuple (wpAny_mono (items_ok S ok hsc hA e1 hb hv) (fun vs s₁ q => ?_) fun _ _ x => x)
      have hl := q.2.length
      have g := gv_newT (s := s₁) (vs := vs.toArray) (ds := ds) (by simpa using q.2)
      exact ⟨by omega, q.1.trans g.1, g.2⟩
    · cases h⟩
  | .ListComp a b c p => ⟨comp sc σ (.ListComp a b c p), fun d h C k hT S ST SC env ok hsc A s hA hb hv => by
    exact SC _ _ _ _ h env ok hsc A s hA hb hv⟩
  | _ => ⟨none, fun _ e => nomatch e⟩
noncomputable def stepE (T : Tabs) (rec : RE) (recT : RT) (comp : RE) (sc : Names) (σ : Vars) (e : Expr) : Option D := (stepP T rec recT comp sc σ e).1
theorem stepE_ok {C : Cx} {k : Nat} {T : Tabs} {rec comp : RE} {recT : RT} (hT : TabsOk C k T) (S : SoundE C k rec) (ST : SoundT C k recT) (SC : SoundE C k comp) : SoundE C k (stepE T rec recT comp) :=
  fun sc σ e d h env ok hsc A s hA hb hv => (stepP T rec recT comp sc σ e).2 d h C k hT S ST SC env ok hsc A s hA hb hv
end Mine

namespace Mine
open PySem PySem.Spec PyProof.Rows

/-! stores -/
noncomputable def setV (x : Str) (d : D) : Vars → Vars
  | [] => [(x, d)]
  | (y, e) :: r => if x == y then (y, d) :: r else (y, e) :: setV x d r

theorem setV_lookup (x : Str) (d : D) (y : Str) : ∀ σ : Vars, (setV x d σ).lookup y = if y = x then some d else σ.lookup y
  | [] => by
    simp only [setV, List.lookup_cons, List.lookup_nil]
    by_cases h : y = x
    · subst h; simp
    · have : (y == x) = false := by simpa using h
      simp [h, this]
  | (z, e) :: r => by
    unfold setV
    by_cases hz : x = z
    · subst hz
      simp only [beq_self_eq_true, if_true, List.lookup_cons]
      by_cases h : y = x
      · subst h; simp
      · have : (y == x) = false := by simpa using h
        simp [h, this]
    · have hb : (x == z) = false := by simpa using hz
      simp only [hb, Bool.false_eq_true, if_false, List.lookup_cons]
      rw [setV_lookup x d y r]
      by_cases h : y = x
      · subst h; simp [hb]
      · simp [h]


mutual
theorem Rep.seqs {h h' : Heap} (k : ∀ b o, seqish o = true → h.get? b = some o → h'.get? b = some o) : ∀ {d : D} {v : Value}, Rep h d v → Rep h' d v
  | .none, _, r => by unfold Rep at r ⊢; exact r
  | .bool _, _, r => by unfold Rep at r ⊢; exact r
  | .int _, _, r => by unfold Rep at r ⊢; exact r
  | .str _, _, r => by unfold Rep at r ⊢; exact r
  | .list _, _, r => by
    unfold Rep at r ⊢
    obtain ⟨a, vs, n, e, i, x⟩ := r
    exact ⟨a, vs, n, e, k _ _ rfl i, RepAll.seqs k x⟩
  | .tuple _, _, r => by
    unfold Rep at r ⊢
    obtain ⟨a, vs, n, e, i, x⟩ := r
    exact ⟨a, vs, n, e, k _ _ rfl i, RepAll.seqs k x⟩
  | .range .., _, r => by
    unfold Rep at r ⊢
    obtain ⟨a, t, u, j, e, i⟩ := r
    exact ⟨a, t, u, j, e, k _ _ rfl i⟩
theorem RepAll.seqs {h h' : Heap} (k : ∀ b o, seqish o = true → h.get? b = some o → h'.get? b = some o) : ∀ {ds : List D} {vs : List Value}, RepAll h ds vs → RepAll h' ds vs
  | [], _, r => by unfold RepAll at r ⊢; exact r
  | _ :: _, _, r => by
    unfold RepAll at r ⊢
    obtain ⟨v, x, e, a, b⟩ := r
    exact ⟨v, x, e, Rep.seqs k a, RepAll.seqs k b⟩
end

theorem ns_ne {h : Heap} {L b : Addr} {m : Str → Option Value} {o : Obj} (n : h.Ns L m) (hq : seqish o = true) (e : h.get? b = some o) : b ≠ L := by
  rintro rfl
  obtain ⟨o', es, ep, ho, hd, _⟩ := n
  rw [ho] at e
  cases e
  unfold seqish at hq
  rw [hd] at hq
  cases hq
theorem cell_ne {h : Heap} {c b : Addr} {w : Option Value} {o : Obj} (n : h.IsCell c w) (hq : seqish o = true) (e : h.get? b = some o) : b ≠ c := by
  rintro rfl
  obtain ⟨o', ho, hd⟩ := n
  rw [ho] at e
  cases e
  unfold seqish at hq
  rw [hd] at hq
  cases hq

theorem Rep.ns {h h' : Heap} {L : Addr} {m : Str → Option Value} (n : h.Ns L m) (hs : Heap.SameBut L h h') {d : D} {v : Value} (r : Rep h d v) : Rep h' d v :=
  r.seqs fun b o hq e => hs.extBut b o (ns_ne n hq e) e
theorem Rep.cell {h h' : Heap} {c : Addr} {w : Option Value} (n : h.IsCell c w) (hs : Heap.SameBut c h h') {d : D} {v : Value} (r : Rep h d v) : Rep h' d v :=
  r.seqs fun b o hq e => hs.extBut b o (cell_ne n hq e) e

theorem cell_ne_ns {h : Heap} {c L : Addr} {w : Option Value} {m : Str → Option Value} (i : h.IsCell c w) (n : h.Ns L m) : c ≠ L := by
  rintro rfl
  obtain ⟨o, ho, hd⟩ := i
  obtain ⟨o', es, ep, ho', hd', _⟩ := n
  rw [ho] at ho'; cases ho'
  rw [hd] at hd'; cases hd'

theorem Vs.setLocal {env : Env} {σ : Vars} {h h' : Heap} {x : Str} {d : D} {v : Value} {m : Str → Option Value} (hk : env.kindOf x = some .local) (hn : h.Ns env.locals m) (hv : ∀ x d, σ.lookup x = some d → ∃ v, VarAt env m h x v ∧ Rep h d v) (al : Alive env h)
    (n' : h'.Ns env.locals (fun y => if y = x then some v else m y)) (hs : Heap.SameBut env.locals h h') (r : Rep h d v) : Vs env (setV x d σ) h' := by
  have cells : ∀ c w, h.IsCell c w → h'.IsCell c w := fun c w i => i.sameBut hs (cell_ne_ns i hn)
  refine ⟨_, n', fun y e hy => ?_, fun y c e => let ⟨v, i⟩ := al y c e; ⟨v, cells c v i⟩⟩
  rw [setV_lookup] at hy
  split at hy
  · rename_i q
    subst q
    cases hy
    exact ⟨v, .inl ⟨hk, by simp⟩, r.ns hn hs⟩
  · rename_i q
    obtain ⟨u, a, r'⟩ := hv y e hy
    refine ⟨u, ?_, r'.ns hn hs⟩
    rcases a with ⟨a, b⟩ | ⟨a, c, b, i⟩
    · exact .inl ⟨a, by simp [q, b]⟩
    · exact .inr ⟨a, c, b, cells c _ i⟩

theorem Vs.setCell {env : Env} {σ : Vars} {h h' : Heap} {x : Str} {d : D} {v : Value} {c : Addr} {w : Option Value} (ok : EnvOk env) (hk : env.kindOf x = some .cell) (hc : env.cells.lookup x = some c) (hi : h.IsCell c w) (vs : Vs env σ h)
    (i' : h'.IsCell c (some v)) (hs : Heap.SameBut c h h') (r : Rep h d v) : Vs env (setV x d σ) h' := by
  obtain ⟨m, hn, hv, al⟩ := vs
  have ne : env.locals ≠ c := fun e => cell_ne_ns hi hn e.symm
  refine ⟨m, hn.sameBut hs ne, fun y e hy => ?_, fun y c' e => ?_⟩
  · rw [setV_lookup] at hy
    split at hy
    · rename_i q
      subst q
      cases hy
      exact ⟨v, .inr ⟨.inl hk, c, hc, i'⟩, r.cell hi hs⟩
    · rename_i q
      obtain ⟨u, a, r'⟩ := hv y e hy
      refine ⟨u, ?_, r'.cell hi hs⟩
      rcases a with a | ⟨a, c', b, i⟩
      · exact .inl a
      · refine .inr ⟨a, c', b, i.sameBut hs ?_⟩
        rintro rfl
        exact q (ok.inj y x c' b hc)
  · obtain ⟨u, i⟩ := al y c' e
    by_cases q : c' = c
    · subst q; exact ⟨_, i'⟩
    · exact ⟨u, i.sameBut hs q⟩

/-- what a store keeps: all but the frame and the cells of the names -/
structure Kn (env : Env) (ns : List Str) (s s' : Shared) : Prop where
  heap : ∀ b o, b ≠ env.locals → (∀ x ∈ ns, env.cells.lookup x ≠ some b) → s.heap.get? b = some o → s'.heap.get? b = some o
  gens : s'.gens = s.gens
  os : s'.os = s.os

theorem Kn.refl {env : Env} {ns : List Str} (s : Shared) : Kn env ns s s := ⟨fun _ _ _ _ e => e, rfl, rfl⟩
theorem Kn.trans {env : Env} {ns ms : List Str} {a b c : Shared} (x : Kn env ns a b) (y : Kn env ms b c) : Kn env (ns ++ ms) a c :=
  ⟨fun p o h1 h2 e => y.heap p o h1 (fun z hz => h2 z (List.mem_append_right _ hz)) (x.heap p o h1 (fun z hz => h2 z (List.mem_append_left _ hz)) e), y.gens.trans x.gens, y.os.trans x.os⟩

noncomputable def storable (sc : Names) (x : Str) : Bool := sc.lookup x == some .local || sc.lookup x == some .cell

section
variable {C : Cx} {k : Nat} {A : Around} {s : Shared} {env : Env} {σ : Vars} {E : Value → Shared → Prop}

theorem store_ok (ok : EnvOk env) {x : Str} {d : D} {v : Value} (hx : storable env.scope.names x = true) (hc : env.kindOf x = some .cell → (env.cells.lookup x).isSome = true) (hv : Vs env σ s.heap) (r : Rep s.heap d v) :
    wpAny C.M A (storeName env x v) (fun _ s' => Vs env (setV x d σ) s'.heap ∧ Kn env [x] s s') E s := by
  unfold storable at hx
  simp only [Bool.or_eq_true, beq_iff_eq] at hx
  rcases hx with hx | hx
  · obtain ⟨m, hn, h2, al⟩ := hv
    refine wpAny_storeName_local hx hn (fun h' n' hs => ⟨Vs.setLocal hx hn h2 al n' hs r, ⟨fun b o hb _ e => hs.extBut b o hb e, rfl, rfl⟩⟩) ?_
    rw [ok.kind]; rfl
  · obtain ⟨c, hcl⟩ := Option.isSome_iff_exists.mp (hc hx)
    obtain ⟨w, hi⟩ := hv.choose_spec.2.2 x c hcl
    refine wpAny_storeName_cell ok.kind hx hcl hi fun h' i' hs => ⟨Vs.setCell ok hx hcl hi hv i' hs r, ⟨fun b o _ hb e => hs.extBut b o (fun q => hb x (by simp) (q ▸ hcl)) e, rfl, rfl⟩⟩


/-- targets: a name, or a tuple of names -/
noncomputable def namesT : List Expr → Option (List Str)
  | [] => some []
  | .Name x _ :: r => (namesT r).map (x :: ·)
  | _ :: _ => none

noncomputable def assignD (sc : Names) (t : Expr) (d : D) (σ : Vars) : Option Vars := match t with
  | .Name x _ => if storable sc x then some (setV x d σ) else none
  | .Tuple es _ _ => (namesT es).bind fun xs => match d with
    | .tuple ds => if xs.length = ds.length ∧ xs.all (storable sc) then some ((xs.zip ds).foldl (fun σ p => setV p.1 p.2 σ) σ) else none
    | _ => none
  | _ => none
noncomputable def tgtNames : Expr → List Str
  | .Name x _ => [x]
  | .Tuple es _ _ => (namesT es).getD []
  | _ => []

noncomputable def CellsThere (env : Env) : Prop := ∀ x, env.kindOf x = some .cell → (env.cells.lookup x).isSome = true

theorem Kn.seqs {ns : List Str} {s s' : Shared} (kn : Kn env ns s s') (hv : Vs env σ s.heap) : ∀ b o, seqish o = true → s.heap.get? b = some o → s'.heap.get? b = some o := by
  obtain ⟨m, hn, _, al⟩ := hv
  intro b o hq e
  refine kn.heap b o (ns_ne hn hq e) (fun x _ hx => ?_) e
  obtain ⟨u, i⟩ := al x b hx
  exact cell_ne i hq e rfl

theorem namesT_cons {e : Expr} {r : List Expr} {xs : List Str} (h : namesT (e :: r) = some xs) : ∃ x p ys, e = .Name x p ∧ namesT r = some ys ∧ xs = x :: ys := by
  cases e <;> first | (cases h; done) | skip
  rename_i x p
  replace h := Option.map_eq_some_iff.mp (show (namesT r).map (x :: ·) = some xs from h)
  obtain ⟨ys, e, rfl⟩ := h
  exact ⟨x, p, ys, rfl, e, rfl⟩

theorem assignEach_names (env : Env) {es : List Expr} : ∀ {xs : List Str}, namesT es = some xs → (assignEach es env).length = es.length ∧ xs.length = es.length ∧ (assignEach es env).findIdx? (·.1) = none := by
  induction es with
  | nil => intro xs e; cases e; exact ⟨rfl, rfl, rfl⟩
  | cons e r ih =>
    intro xs h
    obtain ⟨x, p, ys, rfl, h2, rfl⟩ := namesT_cons h
    obtain ⟨a, b, c⟩ := ih h2
    have he : assignEach (.Name x p :: r) env = (false, assign (.Name x p) env) :: assignEach r env := rfl
    rw [he]
    refine ⟨by simp [a], by simp [b], ?_⟩
    rw [List.findIdx?_cons]
    simp [c]

theorem inOrder_ok (ok : EnvOk env) (ct : CellsThere env) {es : List Expr} : ∀ {xs : List Str} {ds : List D} {vs : List Value} {σ : Vars} {s : Shared}, namesT es = some xs → xs.length = ds.length → xs.all (storable env.scope.names) = true → Vs env σ s.heap → RepAll s.heap ds vs →
    wpAny C.M A (assignInOrder ((assignEach es env).map (·.2)) vs) (fun _ s' => Vs env ((xs.zip ds).foldl (fun σ p => setV p.1 p.2 σ) σ) s'.heap ∧ Kn env xs s s') E s := by
  induction es with
  | nil =>
    intro xs ds vs σ s e hl _ hv r
    cases e
    exact wpAny_pure ⟨hv, .refl s⟩
  | cons e es ih =>
    intro xs ds vs σ s h hl hst hv r
    obtain ⟨x, p, ys, rfl, h2, rfl⟩ := namesT_cons h
    cases ds with
    | nil => simp at hl
    | cons d ds =>
      unfold RepAll at r
      obtain ⟨v, us, rfl, r1, r2⟩ := r
      simp only [List.all_cons, Bool.and_eq_true] at hst
      have he : assignEach (.Name x p :: es) env = (false, assign (.Name x p) env) :: assignEach es env := rfl
      rw [he]
      show wpAny C.M A (do holding us (assign (.Name x p) env v); assignInOrder ((assignEach es env).map (·.2)) us) _ _ s
      refine wpAny_bind (wpAny_holding (wpAny_assign_Name (wpAny_mono (store_ok ok hst.1 (ct x) hv r1) (fun _ s₁ q => ?_) fun _ _ x => x)))
      refine wpAny_mono (ih h2 (by simpa using hl) hst.2 q.1 (r2.seqs (q.2.seqs hv))) (fun _ s₂ q₂ => ⟨q₂.1, ?_⟩) fun _ _ x => x
      exact q.2.trans q₂.2

theorem assignD_ok (ok : EnvOk env) (ct : CellsThere env) (hA : A.handled = none) {t : Expr} {d : D} {v : Value} {σ' : Vars} (e : assignD env.scope.names t d σ = some σ') (hv : Vs env σ s.heap) (r : Rep s.heap d v) :
    wpAny C.M A (assign t env v) (fun _ s' => Vs env σ' s'.heap ∧ Kn env (tgtNames t) s s') E s := by
  unfold assignD at e
  split at e
  · split at e
    · rename_i hs
      cases e
      exact wpAny_assign_Name (store_ok ok hs (ct _) hv r)
    · cases e
  · rename_i es _ _
    rw [Option.bind_eq_some_iff] at e
    obtain ⟨xs, e1, e⟩ := e
    split at e
    · rename_i ds
      split at e
      · rename_i hc
        cases e
        unfold Rep at r
        obtain ⟨a, vs, n, rfl, it, r⟩ := r
        have hl := r.length
        simp only [Array.length_toList] at hl
        obtain ⟨h1, h2, h3⟩ := assignEach_names env e1
        show wpAny C.M A (do standAt _; unpack (.ref a) (assignEach es env)) _ _ s
        refine wpAny_bind (wpAny_standAt (wpAny_unpack_tuple hA ⟨_, it, rfl, n, rfl⟩ (by rw [h1, ← h2, hc.1, hl]) h3 fun h' he => ?_))
        have hx : Ext s.heap h' := fun b o e => he b o (Nat.ne_of_lt (Heap.lt_size e)) e
        refine wpAny_mono (inOrder_ok ok ct e1 hc.1 hc.2 (s := { s with heap := h' }) (hv.ext hx) (r.ext hx)) (fun _ s' q => ⟨q.1, ?_⟩) fun _ _ x => x
        exact ⟨fun b o hb hc e => q.2.heap b o hb (by simpa [tgtNames, e1] using hc) (hx b o e), q.2.gens, q.2.os⟩
      · cases e
    · cases e
  · cases e
end
end Mine

namespace Mine
open PySem PySem.Spec PyProof.Rows

/-! tests -/
noncomputable def allT (recT : Expr → Option Bool) : BoolOp → List Expr → Option Bool
  | .And, [] => some true
  | .Or, [] => some false
  | .And, x :: r => (recT x).bind fun b => if b then allT recT .And r else some false
  | .Or, x :: r => (recT x).bind fun b => if b then some true else allT recT .Or r

section
variable {C : Cx} {k : Nat} {A : Around} {s : Shared} {env : Env} {σ : Vars} {E : Value → Shared → Prop}

theorem allT_ok {recT : RT} (ST : SoundT C k recT) (ok : EnvOk env) {sc : Names} (hsc : env.scope.names = sc) (hA : Rm k A) : ∀ {op : BoolOp} {vs : List Expr} {b : Bool} {s : Shared}, allT (recT sc σ) op vs = some b → Ext C.B₀ s.heap → Vs env σ s.heap →
    wpAny C.M A (allTrue op vs env) (fun r s' => r = b ∧ Kp s s') NE s
  | .And, [], b, s, e, _, _ => by cases e; exact wpAny_allTrue_And_nil ⟨rfl, .refl s⟩
  | .Or, [], b, s, e, _, _ => by cases e; exact wpAny_allTrue_Or_nil ⟨rfl, .refl s⟩
  | .And, x :: r, b, s, e, hb, hv => by
    obtain ⟨c, e1, e⟩ := Option.bind_eq_some_iff.mp e
    refine wpAny_allTrue_And_cons (wpAny_mono (ST _ _ _ _ e1 env ok hsc A s hA hb hv) (fun t s₁ q => ?_) fun _ _ x => x)
    obtain ⟨rfl, k₁⟩ := q
    cases t with
    | true =>
      simp only [if_true] at e ⊢
      exact wpAny_mono (allT_ok ST ok hsc hA e (kp_base hb k₁) (hv.ext k₁.heap)) (fun _ _ q => ⟨q.1, k₁.trans q.2⟩) fun _ _ x => x
    | false =>
      simp only [Bool.false_eq_true, if_false] at e ⊢
      cases e
      exact ⟨rfl, k₁⟩
  | .Or, x :: r, b, s, e, hb, hv => by
    obtain ⟨c, e1, e⟩ := Option.bind_eq_some_iff.mp e
    refine wpAny_allTrue_Or_cons (wpAny_mono (ST _ _ _ _ e1 env ok hsc A s hA hb hv) (fun t s₁ q => ?_) fun _ _ x => x)
    obtain ⟨rfl, k₁⟩ := q
    cases t with
    | false =>
      simp only [Bool.false_eq_true, if_false] at e ⊢
      exact wpAny_mono (allT_ok ST ok hsc hA e (kp_base hb k₁) (hv.ext k₁.heap)) (fun _ _ q => ⟨q.1, k₁.trans q.2⟩) fun _ _ x => x
    | true =>
      simp only [if_true] at e ⊢
      cases e
      exact ⟨rfl, k₁⟩

theorem valueT_ok {rec : RE} (S : SoundE C k rec) (ok : EnvOk env) {sc : Names} (hsc : env.scope.names = sc) (hA : Rm k A) {e : Expr} {b : Bool} (h : (rec sc σ e).bind truthD = some b) (hb : Ext C.B₀ s.heap) (hv : Vs env σ s.heap)
    (he : isTrue e env (eval e env) = (do let v ← eval e env; standAt e.pos; holding [v] (truthy v))) : wpAny C.M A (isTrue e env (eval e env)) (fun r s' => r = b ∧ Kp s s') NE s := by
  rw [Option.bind_eq_some_iff] at h
  obtain ⟨d, e1, h⟩ := h
  refine wpAny_isTrue_value (gv_of (S _ _ _ _ e1 env ok hsc A s hA hb hv) fun v s₁ k₁ r₁ => ?_) he
  exact wpAny_mono (truthD_ok h r₁) (fun _ _ q => ⟨q.1, k₁.trans q.2⟩) fun _ _ x => x

end
/-- what a test's answer is to tell -/
def TestS (rec : RE) (recT : RT) (sc : Names) (σ : Vars) (e : Expr) (b : Bool) : Prop := ∀ (C : Cx) (k : Nat), SoundE C k rec → SoundT C k recT → ∀ env : Env, EnvOk env → env.scope.names = sc → ∀ A s, Rm k A → Ext C.B₀ s.heap → Vs env σ s.heap → wpAny C.M A (isTrue e env (eval e env)) (fun r s' => r = b ∧ Kp s s') NE s

noncomputable def testP (rec : RE) (recT : RT) (sc : Names) (σ : Vars) (e : Expr) : {o : Option Bool // ∀ b, o = some b → TestS rec recT sc σ e b} := match e with
  | .UnaryOp .Not x _ => ⟨(recT sc σ x).map (!·), fun b h C k S ST env ok hsc A s hA hb hv => by
    rw [Option.map_eq_some_iff] at h
    obtain ⟨c, e1, rfl⟩ := h
    exact wpAny_isTrue_Not (wpAny_mono (ST _ _ _ _ e1 env ok hsc A s hA hb hv) (fun t s₁ q => ⟨by rw [q.1], q.2⟩) fun _ _ x => x)⟩
  | .BoolOp op vs _ => ⟨allT (recT sc σ) op vs, fun b h C k S ST env ok hsc A s hA hb hv => by
    exact wpAny_isTrue_BoolOp (allT_ok ST ok hsc hA h hb hv)⟩
  | .Compare l [op] [r] _ => ⟨if behindInMarks op r then none else (rec sc σ l).bind fun a => (rec sc σ r).bind fun b => cmpD op a b, fun b h C k S ST env ok hsc A s hA hb hv => by
    split at h
    · cases h
    · rename_i hm
      rw [Option.bind_eq_some_iff] at h
      obtain ⟨a, e1, h⟩ := h
      rw [Option.bind_eq_some_iff] at h
      obtain ⟨c, e2, h⟩ := h
      refine wpAny_isTrue_Compare1 (gv_of (S _ _ _ _ e1 env ok hsc A s hA hb hv) fun va s₁ k₁ r₁ => gv_of (S _ _ _ _ e2 env ok hsc A s₁ hA (kp_base hb k₁) (hv.ext k₁.heap)) fun vb s₂ k₂ r₂ => ?_) (by simpa using hm)
      exact wpAny_mono (cmpD_ok h (r₁.ext k₂.heap) r₂) (fun v s₃ q => by obtain ⟨rfl, rfl⟩ := q; exact wpAny_truthy_bool ⟨rfl, k₁.trans k₂⟩) fun _ _ x => x⟩
  | .Name x p => ⟨(rec sc σ (.Name x p)).bind truthD, fun b h C k S ST env ok hsc A s hA hb hv => by
    exact valueT_ok S ok hsc hA h hb hv rfl⟩
  | .Call f a l p => ⟨(rec sc σ (.Call f a l p)).bind truthD, fun b h C k S ST env ok hsc A s hA hb hv => by
    exact valueT_ok S ok hsc hA h hb hv rfl⟩
  | .Subscript v i p => ⟨(rec sc σ (.Subscript v i p)).bind truthD, fun b h C k S ST env ok hsc A s hA hb hv => by
    exact valueT_ok S ok hsc hA h hb hv rfl⟩
  | _ => ⟨none, fun _ e => nomatch e⟩
noncomputable def stepT (rec : RE) (recT : RT) (sc : Names) (σ : Vars) (e : Expr) : Option Bool := (testP rec recT sc σ e).1
theorem stepT_ok {C : Cx} {k : Nat} {rec : RE} {recT : RT} (S : SoundE C k rec) (ST : SoundT C k recT) : SoundT C k (stepT rec recT) :=
  fun sc σ e b h env ok hsc A s hA hb hv => (testP rec recT sc σ e).2 b h C k S ST env ok hsc A s hA hb hv
section
variable {C : Cx} {k : Nat} {A : Around} {s : Shared} {env : Env} {σ : Vars} {E : Value → Shared → Prop}

/-! what is iterated -/
noncomputable def genD (T : Tabs) (sc : Names) (σ : Vars) (f : Str) (ds : List D) : Option (List D) :=
  if f == ("__debug__" : Str) || (σ.lookup f).isSome || sc.lookup f != some .globalImplicit then none else T.gn f ds

noncomputable def itemsB (d : D) : Option (Bool × List D) := (itemsD d).map fun ds => (isListD d, ds)

noncomputable def evI (T : Tabs) (rec : RE) (sc : Names) (σ : Vars) (e : Expr) : Option (Bool × List D) := match e with
  | .Call f args kws pos => match f, kws with
    | .Name f p, [] => (match (evEs (rec sc σ) args).bind (genD T sc σ f) with
      | some ds => some (false, ds)
      | none => (rec sc σ (.Call (.Name f p) args [] pos)).bind itemsB)
    | _, _ => none
  | .Name .. => (rec sc σ e).bind itemsB
  | .Subscript .. => (rec sc σ e).bind itemsB
  | _ => none

theorem iter_of_items {d : D} {v : Value} {ds : List D} {s s₁ : Shared} (k₁ : Kp s s₁) (e : itemsD d = some ds) (r : Rep s₁.heap d v) : IterOf C k s (isListD d) ds v s₁ := by
  intro A hA
  refine wpAny_mono (itemsD_ok (k := k) e r) (fun it s' q => ?_) fun _ _ x => x
  obtain ⟨fp, wr, gi, n⟩ := q
  have old : ∀ b, s₁.heap.get? b = none → s.heap.get? b = none := fun b hb => by
    cases e : s.heap.get? b with
    | none => rfl
    | some o => rw [k₁.heap b o e] at hb; cases hb
  refine ⟨fp, wr, gi, k₁.trans n.kp, n.isIt, fun b hb => ⟨old b (n.wrOk b hb).1, (n.wrOk b hb).2⟩, fun b hb => ?_, fun i hi => ⟨?_, (n.giOk i hi).2⟩, n.self⟩
  · rcases n.fpOk b hb with q | ⟨hl, vs, j, q⟩
    · exact .inl ⟨old b q.1, q.2⟩
    · cases e : s.heap.get? b with
      | none => exact .inl ⟨rfl, by rw [n.kp.heap b _ q]; rfl⟩
      | some o =>
        have := k₁.heap b o e
        rw [q] at this
        cases this
        exact .inr ⟨hl, vs, j, e⟩
  · cases e : s.gens[i]? with
    | none => rfl
    | some g => have := k₁.gens i g e; rw [(n.giOk i hi).1] at this; cases this

theorem evI_ok {T : Tabs} {rec : RE} (hT : TabsOk C k T) (S : SoundE C k rec) (ok : EnvOk env) {sc : Names} (hsc : env.scope.names = sc) (hA : Rm k A) {e : Expr} {lst : Bool} {ds : List D} (h : evI T rec sc σ e = some (lst, ds)) (hb : Ext C.B₀ s.heap) (hv : Vs env σ s.heap) :
    wpAny C.M A (eval e env) (fun x s₁ => Kp s s₁ ∧ IterOf C k s lst ds x s₁) NE s := by
  have plain : ∀ e, (rec sc σ e).bind itemsB = some (lst, ds) → wpAny C.M A (eval e env) (fun x s₁ => Kp s s₁ ∧ IterOf C k s lst ds x s₁) NE s := by
    intro e h
    rw [Option.bind_eq_some_iff] at h
    obtain ⟨d, e1, h⟩ := h
    unfold itemsB at h
    rw [Option.map_eq_some_iff] at h
    obtain ⟨ds', hit, e2⟩ := h
    obtain ⟨rfl, rfl⟩ := Prod.mk.inj e2
    exact gv_of (S _ _ _ _ e1 env ok hsc A s hA hb hv) fun v s₁ k₁ r₁ => ⟨k₁, iter_of_items k₁ hit r₁⟩
  unfold evI at h
  split at h
  · rename_i f args kws pos
    split at h
    · rename_i f fp
      split at h
      · rename_i ds' hg
        cases h
        rw [Option.bind_eq_some_iff] at hg
        obtain ⟨as, e1, hg⟩ := hg
        unfold genD at hg
        split at hg
        · cases hg
        · rename_i hc
          simp only [Bool.or_eq_true, bne_iff_ne, ne_eq, not_or, Decidable.not_not] at hc
          obtain ⟨⟨hd, _⟩, hk⟩ := hc
          have hd : (f == ("__debug__" : Str)) = false := by simpa using hd
          have hk : env.kindOf f = some .globalImplicit := by unfold Env.kindOf; rw [hsc]; exact hk
          obtain ⟨a, hf, hcall⟩ := hT.gn f as ds hg
          obtain ⟨o, fd, ho, hfd⟩ := hf.obj
          show wpAny C.M A (do callWith pos (← eval (.Name f fp) env) [] (backTo pos (starEach args env)) (backToKw pos (keywordEach [] env))) _ _ s
          refine wpAny_bind (global_ok ok hd hk hb (.inl hf.at_) ?_)
          refine Calls.callWith_function (o := o) (fd := fd) (wpAny_mono (args_ok S ok hsc hA e1 hb hv) (fun x s₁ q => ?_) fun _ _ x => x)
          obtain ⟨k₁, vs, rfl, r⟩ := q
          have hb₁ := kp_base hb k₁
          refine ⟨⟨hb₁ _ _ ho, hfd⟩, wpAny_mono (hcall A s₁ vs hA hb₁ r) (fun x s₂ q => ⟨k₁.trans q.1, fun A' hA' => ?_⟩) fun _ _ x => x⟩
          refine wpAny_mono (q.2 A' hA') (fun it s' q => ?_) fun _ _ x => x
          obtain ⟨fp, wr, gi, n⟩ := q
          have old : ∀ b, s₁.heap.get? b = none → s.heap.get? b = none := fun b hb => by
            cases e : s.heap.get? b with
            | none => rfl
            | some o => rw [k₁.heap b o e] at hb; cases hb
          refine ⟨fp, wr, gi, k₁.trans n.kp, n.isIt, fun b hb => ⟨old b (n.wrOk b hb).1, (n.wrOk b hb).2⟩, fun b hb => ?_, fun i hi => ⟨?_, (n.giOk i hi).2⟩, n.self⟩
          · rcases n.fpOk b hb with q | ⟨hl, vs, j, q⟩
            · exact .inl ⟨old b q.1, q.2⟩
            · cases e : s.heap.get? b with
              | none => exact .inl ⟨rfl, by rw [n.kp.heap b _ q]; rfl⟩
              | some o =>
                have := k₁.heap b o e
                rw [q] at this
                cases this
                exact .inr ⟨hl, vs, j, e⟩
          · cases e : s.gens[i]? with
            | none => rfl
            | some g => have := k₁.gens i g e; rw [(n.giOk i hi).1] at this; cases this
      · exact plain _ h
    · cases h
  · exact plain _ h
  · exact plain _ h
  · cases h
end
end Mine

namespace Mine
open PySem PySem.Spec PyProof.Rows

/-! comprehensions -/
/-- variables whose data is told by P -/
noncomputable def VsR (P : D → Value → Prop) (env : Env) (σ : Vars) (h : Heap) : Prop := ∃ m, h.Ns env.locals m ∧ (∀ x d, σ.lookup x = some d → ∃ v, VarAt env m h x v ∧ P d v) ∧ Alive env h

theorem VsR.vs {P : D → Value → Prop} {env : Env} {σ : Vars} {h : Heap} (k : ∀ d v, P d v → Rep h d v) : VsR P env σ h → Vs env σ h := fun ⟨m, n, f, al⟩ => ⟨m, n, fun x d e => let ⟨v, a, r⟩ := f x d e; ⟨v, a, k _ _ r⟩, al⟩

theorem VsR.setLocal {P : D → Value → Prop} {env : Env} {σ : Vars} {h h' : Heap} {x : Str} {d : D} {v : Value} {m : Str → Option Value} (hk : env.kindOf x = some .local) (hn : h.Ns env.locals m) (hv : ∀ x d, σ.lookup x = some d → ∃ v, VarAt env m h x v ∧ P d v) (al : Alive env h)
    (n' : h'.Ns env.locals (fun y => if y = x then some v else m y)) (hs : Heap.SameBut env.locals h h') (r : P d v) : VsR P env (setV x d σ) h' := by
  have cells : ∀ c w, h.IsCell c w → h'.IsCell c w := fun c w i => i.sameBut hs (cell_ne_ns i hn)
  refine ⟨_, n', fun y e hy => ?_, fun y c e => let ⟨v, i⟩ := al y c e; ⟨v, cells c v i⟩⟩
  rw [setV_lookup] at hy
  split at hy
  · rename_i q
    subst q
    cases hy
    exact ⟨v, .inl ⟨hk, by simp⟩, r⟩
  · rename_i q
    obtain ⟨u, a, r'⟩ := hv y e hy
    refine ⟨u, ?_, r'⟩
    rcases a with ⟨a, b⟩ | ⟨a, c, b, i⟩
    · exact .inl ⟨a, by simp [q, b]⟩
    · exact .inr ⟨a, c, b, cells c _ i⟩

theorem VsR.setCell {P : D → Value → Prop} {env : Env} {σ : Vars} {h h' : Heap} {x : Str} {d : D} {v : Value} {c : Addr} {w : Option Value} (ok : EnvOk env) (hk : env.kindOf x = some .cell) (hc : env.cells.lookup x = some c) (hi : h.IsCell c w) (vs : VsR P env σ h)
    (i' : h'.IsCell c (some v)) (hs : Heap.SameBut c h h') (r : P d v) : VsR P env (setV x d σ) h' := by
  obtain ⟨m, hn, hv, al⟩ := vs
  have ne : env.locals ≠ c := fun e => cell_ne_ns hi hn e.symm
  refine ⟨m, hn.sameBut hs ne, fun y e hy => ?_, fun y c' e => ?_⟩
  · rw [setV_lookup] at hy
    split at hy
    · rename_i q
      subst q
      cases hy
      exact ⟨v, .inr ⟨.inl hk, c, hc, i'⟩, r⟩
    · rename_i q
      obtain ⟨u, a, r'⟩ := hv y e hy
      refine ⟨u, ?_, r'⟩
      rcases a with a | ⟨a, c', b, i⟩
      · exact .inl a
      · refine .inr ⟨a, c', b, i.sameBut hs ?_⟩
        rintro rfl
        exact q (ok.inj y x c' b hc)
  · obtain ⟨u, i⟩ := al y c' e
    by_cases q : c' = c
    · subst q; exact ⟨_, i'⟩
    · exact ⟨u, i.sameBut hs q⟩

section
variable {C : Cx} {k : Nat} {A : Around} {s : Shared} {env : Env} {σ : Vars} {E : Value → Shared → Prop} {P : D → Value → Prop}

theorem storeR_ok (ok : EnvOk env) {x : Str} {d : D} {v : Value} (hx : storable env.scope.names x = true) (hc : env.kindOf x = some .cell → (env.cells.lookup x).isSome = true) (hv : VsR P env σ s.heap) (r : P d v) :
    wpAny C.M A (storeName env x v) (fun _ s' => VsR P env (setV x d σ) s'.heap ∧ Kn env [x] s s') E s := by
  unfold storable at hx
  simp only [Bool.or_eq_true, beq_iff_eq] at hx
  rcases hx with hx | hx
  · obtain ⟨m, hn, h2, al⟩ := hv
    refine wpAny_storeName_local hx hn (fun h' n' hs => ⟨VsR.setLocal hx hn h2 al n' hs r, ⟨fun b o hb _ e => hs.extBut b o hb e, rfl, rfl⟩⟩) ?_
    rw [ok.kind]; rfl
  · obtain ⟨c, hcl⟩ := Option.isSome_iff_exists.mp (hc hx)
    obtain ⟨w, hi⟩ := hv.choose_spec.2.2 x c hcl
    refine wpAny_storeName_cell ok.kind hx hcl hi fun h' i' hs => ⟨VsR.setCell ok hx hcl hi hv i' hs r, ⟨fun b o _ hb e => hs.extBut b o (fun q => hb x (by simp) (q ▸ hcl)) e, rfl, rfl⟩⟩

theorem inOrderR_ok (ok : EnvOk env) (ct : CellsThere env) {es : List Expr} : ∀ {xs : List Str} {ds : List D} {vs : List Value} {σ : Vars} {s : Shared}, namesT es = some xs → xs.length = ds.length → xs.all (storable env.scope.names) = true → VsR P env σ s.heap →
    vs.length = ds.length → (∀ (i : Nat) (d : D) (v : Value), ds[i]? = some d → vs[i]? = some v → P d v) →
    wpAny C.M A (assignInOrder ((assignEach es env).map (·.2)) vs) (fun _ s' => VsR P env ((xs.zip ds).foldl (fun σ p => setV p.1 p.2 σ) σ) s'.heap ∧ Kn env xs s s') E s := by
  induction es with
  | nil =>
    intro xs ds vs σ s e hl _ hv hl2 r
    cases e
    exact wpAny_pure ⟨hv, .refl s⟩
  | cons e es ih =>
    intro xs ds vs σ s h hl hst hv hl2 r
    obtain ⟨x, p, ys, rfl, h2, rfl⟩ := namesT_cons h
    cases ds with
    | nil => simp at hl
    | cons d ds =>
      cases vs with
      | nil => simp at hl2
      | cons v us =>
        simp only [List.all_cons, Bool.and_eq_true] at hst
        have he : assignEach (.Name x p :: es) env = (false, assign (.Name x p) env) :: assignEach es env := rfl
        rw [he]
        show wpAny C.M A (do holding us (assign (.Name x p) env v); assignInOrder ((assignEach es env).map (·.2)) us) _ _ s
        refine wpAny_bind (wpAny_holding (wpAny_assign_Name (wpAny_mono (storeR_ok ok hst.1 (ct x) hv (r 0 d v rfl rfl)) (fun _ s₁ q => ?_) fun _ _ x => x)))
        refine wpAny_mono (ih h2 (by simpa using hl) hst.2 q.1 (by simpa using hl2) (fun i d v h1 h2 => r (i + 1) d v (by simpa using h1) (by simpa using h2))) (fun _ s₂ q₂ => ⟨q₂.1, ?_⟩) fun _ _ x => x
        exact q.2.trans q₂.2

/-- the parts that are bound are plain -/
noncomputable def flatD : D → Bool
  | .tuple ds => ds.all scalarD
  | d => scalarD d

noncomputable def nameOk (t : Expr) (d : D) : Bool := match t, d with
  | .Name .., .tuple _ => false
  | _, _ => true

theorem assignR_ok (ok : EnvOk env) (ct : CellsThere env) (hA : A.handled = none) (hP : ∀ (h : Heap) d v, scalarD d = true → Rep h d v → P d v) {t : Expr} {d : D} {v : Value} {σ' : Vars} (e : assignD env.scope.names t d σ = some σ') (hf : flatD d = true) (hn : nameOk t d = true) (hv : VsR P env σ s.heap) (r : Rep s.heap d v) :
    wpAny C.M A (assign t env v) (fun _ s' => VsR P env σ' s'.heap ∧ Kn env (tgtNames t) s s') E s := by
  unfold assignD at e
  split at e
  · split at e
    · rename_i x p hs
      cases e
      have hsc : scalarD d = true := by
        cases d <;> first | rfl | (cases hn; done) | (cases hf; done)
      exact wpAny_assign_Name (storeR_ok ok hs (ct _) hv (hP _ _ _ hsc r))
    · cases e
  · rename_i es _ _
    rw [Option.bind_eq_some_iff] at e
    obtain ⟨xs, e1, e⟩ := e
    split at e
    · rename_i ds
      split at e
      · rename_i hc
        cases e
        unfold Rep at r
        obtain ⟨a, vs, n, rfl, it, r⟩ := r
        have hl := r.length
        simp only [Array.length_toList] at hl
        obtain ⟨h1, h2, h3⟩ := assignEach_names env e1
        show wpAny C.M A (do standAt _; unpack (.ref a) (assignEach es env)) _ _ s
        refine wpAny_bind (wpAny_standAt (wpAny_unpack_tuple hA ⟨_, it, rfl, n, rfl⟩ (by rw [h1, ← h2, hc.1, hl]) h3 fun h' he => ?_))
        have hx : Ext s.heap h' := fun b o e => he b o (Nat.ne_of_lt (Heap.lt_size e)) e
        have hv' : VsR P env σ h' := by
          obtain ⟨m, n, f, al⟩ := hv
          exact ⟨m, n.keeps hx, fun x d e => let ⟨v, a, q⟩ := f x d e; ⟨v, a.ext hx, q⟩, fun x c e => let ⟨v, i⟩ := al x c e; ⟨v, i.keeps hx⟩⟩
        have hP' : ∀ (i : Nat) (d : D) (v : Value), ds[i]? = some d → vs.toList[i]? = some v → P d v := by
          intro i d v h1 h2
          obtain ⟨u, e, q⟩ := r.get h1
          rw [e] at h2
          cases h2
          have : scalarD d = true := by
            simp only [flatD, List.all_eq_true] at hf
            exact hf d (List.mem_of_getElem? h1)
          exact hP _ _ _ this q
        refine wpAny_mono (inOrderR_ok ok ct e1 hc.1 hc.2 (s := { s with heap := h' }) hv' (by simpa using hl) hP') (fun _ s' q => ⟨q.1, ?_⟩) fun _ _ x => x
        exact ⟨fun b o hb hc e => q.2.heap b o hb (by simpa [tgtNames, e1] using hc) (hx b o e), q.2.gens, q.2.os⟩
      · cases e
    · cases e
  · cases e

/-! closures -/
noncomputable def clos (env : Env) : Names → List (Str × Addr) → List (Str × Addr)
  | [], acc => acc
  | (n, k) :: r, acc => if k == .free then clos env r ((n, (env.cells.lookup n).getD 0) :: acc) else clos env r acc

theorem closure_ok {Q : List (Str × Addr) → Shared → Prop} (f : Str × NameKind → List (Str × Addr) → Sem (ForInStep (List (Str × Addr))))
    (hf : ∀ n k cs, f (n, k) cs = if k == .free then (do let c ← cellOf env n; pure (.yield ((n, c) :: cs))) else pure (.yield cs)) :
    ∀ (names : Names) (acc : List (Str × Addr)), (∀ n, (n, NameKind.free) ∈ names → (env.cells.lookup n).isSome = true) → Q (clos env names acc) s → wpAny C.M A (forIn names acc f) Q E s
  | [], acc, _, h => by rw [List.forIn_nil]; exact wpAny_pure h
  | (n, k) :: r, acc, hn, h => by
    rw [List.forIn_cons, hf]
    unfold clos at h
    split at h
    · rename_i hk
      rw [if_pos hk]
      have hk : k = .free := by simpa using hk
      subst hk
      obtain ⟨c, hc⟩ := Option.isSome_iff_exists.mp (hn n (by simp))
      refine wpAny_bind (wpAny_bind (wpAny_cellOf hc (wpAny_pure ?_)))
      rw [hc] at h
      exact closure_ok f hf r _ (fun n hm => hn n (List.mem_cons_of_mem _ hm)) h
    · rename_i hk
      rw [if_neg hk]
      exact wpAny_bind (wpAny_pure (closure_ok f hf r _ (fun n hm => hn n (List.mem_cons_of_mem _ hm)) h))

theorem clos_lookup {env : Env} {x : Str} {c : Addr} : ∀ (names : Names) (acc : List (Str × Addr)), (clos env names acc).lookup x = some c → ((x, NameKind.free) ∈ names ∧ c = (env.cells.lookup x).getD 0) ∨ acc.lookup x = some c
  | [], acc, h => .inr h
  | (n, k) :: r, acc, h => by
    unfold clos at h
    split at h
    · rename_i hk
      have hk : k = .free := by simpa using hk
      subst hk
      rcases clos_lookup r _ h with q | q
      · exact .inl ⟨List.mem_cons_of_mem _ q.1, q.2⟩
      · rw [List.lookup_cons] at q
        split at q
        · rename_i e
          have e : x = n := by simpa using e
          subst e
          cases q
          exact .inl ⟨by simp, rfl⟩
        · exact .inr q
    · rcases clos_lookup r _ h with q | q
      · exact .inl ⟨List.mem_cons_of_mem _ q.1, q.2⟩
      · exact .inr q
theorem clos_some {env : Env} {x : Str} : ∀ (names : Names) (acc : List (Str × Addr)), ((x, NameKind.free) ∈ names ∨ (acc.lookup x).isSome = true) → ((clos env names acc).lookup x).isSome = true
  | [], acc, h => by
    rcases h with h | h
    · cases h
    · exact h
  | (n, k) :: r, acc, h => by
    unfold clos
    split
    · rename_i hk
      refine clos_some r _ ?_
      rcases h with h | h
      · rcases List.mem_cons.mp h with e | h
        · obtain ⟨rfl, _⟩ := Prod.mk.inj e
          exact .inr (by simp)
        · exact .inl h
      · refine .inr ?_
        rw [List.lookup_cons]
        split
        · rfl
        · exact h
    · rename_i hk
      refine clos_some r _ ?_
      rcases h with h | h
      · rcases List.mem_cons.mp h with e | h
        · obtain ⟨_, rfl⟩ := Prod.mk.inj e
          exact absurd rfl hk
        · exact .inl h
      · exact .inr h

/-- cells laid anew stand ahead of the closure's -/
theorem cellsFrom_lookup {x : Str} {c : Addr} : ∀ (names : Names) (h : Heap) (acc : List (Str × Addr)), (cellsFrom h.objs.size names acc).lookup x = some c →
    ((x, NameKind.cell) ∈ names ∧ h.objs.size ≤ c ∧ (pushCells h names).IsCell c none) ∨ acc.lookup x = some c
  | [], h, acc, e => .inr e
  | (n, k) :: r, h, acc, e => by
    unfold cellsFrom at e
    unfold pushCells
    split at e
    · rename_i hk
      rw [if_pos hk]
      have hk : k = .cell := by simpa using hk
      subst hk
      have sz : (h.push { cls := .type "cell", data := .cell none }).objs.size = h.objs.size + 1 := Heap.size_push ..
      rw [← sz] at e
      rcases cellsFrom_lookup r _ _ e with ⟨q1, q2, q3⟩ | q
      · exact .inl ⟨List.mem_cons_of_mem _ q1, by omega, q3⟩
      · rw [List.lookup_cons] at q
        split at q
        · rename_i e
          have e : x = n := by simpa using e
          subst e
          cases q
          exact .inl ⟨by simp, Nat.le_refl _, ⟨_, pushCells_keeps r _ _ _ (Heap.get?_push_size _ rfl), rfl⟩⟩
        · exact .inr q
    · rename_i hk
      rw [if_neg hk]
      rcases cellsFrom_lookup r h acc e with ⟨q1, q2, q3⟩ | q
      · exact .inl ⟨List.mem_cons_of_mem _ q1, q2, q3⟩
      · exact .inr q
theorem cellsFrom_has {x : Str} : ∀ (names : Names) (n : Nat) (acc : List (Str × Addr)), ((x, NameKind.cell) ∈ names ∨ (acc.lookup x).isSome = true) → ((cellsFrom n names acc).lookup x).isSome = true
  | [], n, acc, h => by
    rcases h with h | h
    · cases h
    · exact h
  | (y, k) :: r, n, acc, h => by
    unfold cellsFrom
    split
    · rename_i hk
      refine cellsFrom_has r _ _ ?_
      rcases h with h | h
      · rcases List.mem_cons.mp h with e | h
        · obtain ⟨rfl, _⟩ := Prod.mk.inj e
          exact .inr (by simp)
        · exact .inl h
      · refine .inr ?_
        rw [List.lookup_cons]
        split
        · rfl
        · exact h
    · rename_i hk
      refine cellsFrom_has r _ _ ?_
      rcases h with h | h
      · rcases List.mem_cons.mp h with e | h
        · obtain ⟨_, rfl⟩ := Prod.mk.inj e
          exact absurd rfl hk
        · exact .inl h
      · exact .inr h
end
end Mine

namespace Mine
open PySem PySem.Spec PyProof.Rows

noncomputable def compNames (names : Names) : Names := names.map fun x => if x.2 == .free then (x.1, .cell) else x

noncomputable def compVars (σ : Vars) : Names → Vars
  | [] => []
  | (n, k) :: r => if k == .free then (match σ.lookup n with | some d => (n, d) :: compVars σ r | none => compVars σ r) else compVars σ r

noncomputable def ifsT (recT : RT) (sc : Names) (σ : Vars) : List Expr → Option Bool
  | [] => some true
  | [c] => recT sc σ c
  | _ => none

noncomputable def evComp (rec : RE) (recT : RT) (sc : Names) (t elt : Expr) (ifs : List Expr) : List D → Vars → Option (List D)
  | [], _ => some []
  | d :: ds, σ => if flatD d && nameOk t d then
      (assignD sc t d σ).bind fun σ' => (ifsT recT sc σ' ifs).bind fun b =>
        if b then (rec sc σ' elt).bind fun y => if scalarD y then (evComp rec recT sc t elt ifs ds σ').map (y :: ·) else none
        else evComp rec recT sc t elt ifs ds σ'
    else none

noncomputable def compOk (sc : Names) (scope : Scope) (t : Expr) : Bool :=
  scope.kind == .function && decide (scope.names.map (·.1)).Nodup && scope.names.all (fun x => x.2 != .free || sc.lookup x.1 == some .cell) && decide ((scope.names.filter (·.2 == .cell)).length ≤ 1) && (tgtNames t).all (storable scope.names)

noncomputable def notSet : Expr → Bool
  | .Set .. => false
  | _ => true

noncomputable def compE (T : Tabs) (rec : RE) (recT : RT) (sc : Names) (σ : Vars) (e : Expr) : Option D := match e with
  | .ListComp elt gens scope _ => match gens with
    | [g] => if compOk sc scope g.target && notSet g.iter && g.is_async == 0 then (evI T rec sc σ g.iter).bind fun p => if p.2.length ≤ sizeLine then (evComp rec recT (compNames scope.names) g.target elt g.ifs p.2 (compVars σ scope.names)).map .list else none else none
    | _ => none
  | _ => none

theorem lookup_mem {α : Type} {l : List (Str × α)} {n : Str} {c : α} (h : l.lookup n = some c) : (n, c) ∈ l := mem_of_lookup h
theorem mem_lookup {l : Names} (hd : (l.map (·.1)).Nodup) {n : Str} {k : NameKind} (h : (n, k) ∈ l) : l.lookup n = some k := by
  induction l with
  | nil => cases h
  | cons x r ih =>
    obtain ⟨y, j⟩ := x
    simp only [List.map_cons, List.nodup_cons] at hd
    rw [List.lookup_cons]
    rcases List.mem_cons.mp h with e | h2
    · cases e; simp
    · have hne : n ≠ y := by
        rintro rfl
        exact hd.1 (List.mem_map.mpr ⟨(n, k), h2, rfl⟩)
      have : (n == y) = false := by simpa using hne
      rw [this]
      exact ih hd.2 h2
theorem compNames_fst (names : Names) : (compNames names).map (·.1) = names.map (·.1) := by
  unfold compNames
  rw [List.map_map]
  apply List.map_congr_left
  intro x _
  simp only [Function.comp]
  split <;> rfl
theorem compNames_mem {names : Names} {n : Str} {k : NameKind} (h : (n, k) ∈ names) : (n, if k = .free then .cell else k) ∈ compNames names := by
  unfold compNames
  refine List.mem_map.mpr ⟨(n, k), h, ?_⟩
  by_cases q : k = .free
  · subst q; rfl
  · have : (k == NameKind.free) = false := by simpa using q
    simp [this, q]
theorem mem_compNames {names : Names} {n : Str} {k : NameKind} (h : (n, k) ∈ compNames names) : ∃ j, (n, j) ∈ names ∧ k = if j = .free then .cell else j := by
  unfold compNames at h
  obtain ⟨⟨m, j⟩, hm, e⟩ := List.mem_map.mp h
  refine ⟨j, ?_⟩
  by_cases q : j = .free
  · subst q; cases e; exact ⟨hm, rfl⟩
  · have : (j == NameKind.free) = false := by simpa using q
    simp [this] at e
    obtain ⟨rfl, rfl⟩ := e
    exact ⟨hm, by simp [q]⟩
theorem compVars_lookup {σ : Vars} {x : Str} {d : D} : ∀ {names : Names}, (compVars σ names).lookup x = some d → (x, NameKind.free) ∈ names ∧ σ.lookup x = some d
  | [], h => by cases h
  | (n, k) :: r, h => by
    unfold compVars at h
    split at h
    · rename_i hk
      have hk : k = .free := by simpa using hk
      subst hk
      split at h
      · rename_i d' e
        rw [List.lookup_cons] at h
        split at h
        · rename_i q
          have q : x = n := by simpa using q
          subst q
          cases h
          exact ⟨by simp, e⟩
        · have := compVars_lookup h
          exact ⟨List.mem_cons_of_mem _ this.1, this.2⟩
      · have := compVars_lookup h
        exact ⟨List.mem_cons_of_mem _ this.1, this.2⟩
    · have := compVars_lookup h
      exact ⟨List.mem_cons_of_mem _ this.1, this.2⟩

theorem one_cell {names : Names} (h : (names.filter (·.2 == .cell)).length ≤ 1) {x y : Str} (hx : (x, NameKind.cell) ∈ names) (hy : (y, NameKind.cell) ∈ names) : x = y := by
  have hx : (x, NameKind.cell) ∈ names.filter (·.2 == .cell) := List.mem_filter.mpr ⟨hx, rfl⟩
  have hy : (y, NameKind.cell) ∈ names.filter (·.2 == .cell) := List.mem_filter.mpr ⟨hy, rfl⟩
  cases hl : names.filter (·.2 == .cell) with
  | nil => rw [hl] at hx; cases hx
  | cons a r =>
    rw [hl] at hx hy h
    have : r = [] := List.length_eq_zero_iff.mp (by simpa using h)
    subst this
    simp at hx hy
    rw [← hx] at hy
    exact (Prod.mk.inj hy).1.symm

section
variable {C : Cx} {k : Nat} {A : Around} {s : Shared} {env : Env} {σ : Vars} {E : Value → Shared → Prop}

theorem letOwned_ok {t : Expr} {it v : Value} (h : NotOwned it s) : wpAny C.M A (letOwnedTupleGo t it v) (fun _ s' => s' = s) E s := by
  obtain ⟨I, o, n, rfl, ho, hc, hn⟩ := h
  have body : wpAny C.M A (do
    let (.ref r, .ref a) := (Value.ref I, v) | return
    let o ← load r
    match o.cls, o.data with
    | .type n, .fields vs =>
      if ["enumerate", "zip", "dict_itemiterator", "dict_reverseitemiterator", "odict_iterator", "itertools.zip_longest", "itertools.pairwise"].contains n && vs[0]? == some (rawInt a) then
        rule "for.unpacks-the-owned-tuple"
        updateField r 0 .none
    | _, _ => pure () : Sem Unit) (fun _ s' => s' = s) E s := by
    cases v <;> first | exact wpAny_pure rfl | skip
    refine wpAny_bind (wpAny_load ho ?_)
    rw [hc]
    split
    · rename_i m vs e _
      cases e
      unfold ownedNames at hn
      rw [hn]
      exact wpAny_pure rfl
    · exact wpAny_pure rfl
  unfold letOwnedTupleGo
  cases t <;> first | exact wpAny_pure rfl | exact body

/-- the frame of a comprehension -/
noncomputable def compEnvOf (env : Env) (scope : Scope) (L : Addr) : Env :=
  { newEnv scope L env.globals (cellsFrom (L + 1) scope.names (clos env scope.names [])) env.qual none .none (some env) builtinsNs with scope := { scope with names := compNames scope.names } }

theorem compNewEnv {scope : Scope} {Q : Env → Shared → Prop}
    (h : Q (newEnv scope s.heap.objs.size env.globals (cellsFrom (s.heap.objs.size + 1) scope.names (clos env scope.names [])) env.qual none .none (some env) builtinsNs)
      { s with heap := pushCells (s.heap.push { cls := .type "dict", data := .dict #[] }) scope.names }) :
    wpAny C.M A (newFunctionEnv scope env.globals (clos env scope.names []) [] env.qual none .none (some env)) Q E s := by
  simp only [newFunctionEnv, Option.isSome_some, if_true]
  refine wpAny_bind (wpAny_alloc ?_)
  refine wpAny_bind (wpAny_layCells _ (fun name kind cells => by cases hkc : kind == NameKind.cell <;> simp [hkc]) _ _ _ _ ?_)
  rw [show ({ s with heap := s.heap.push { cls := .type "dict", data := .dict #[] } } : Shared).heap.objs.size = s.heap.objs.size + 1 from Heap.size_push ..]
  exact wpAny_pure h

theorem compEnv_ok {P : D → Value → Prop} {scope : Scope} {s₁ : Shared} {sc : Names} {t : Expr} (hc : compOk sc scope t = true) (hsc : env.scope.names = sc) (ok : EnvOk env) (hv : VsR P env σ s₁.heap) :
    let L := s₁.heap.objs.size
    let h := pushCells (s₁.heap.push { cls := .type "dict", data := .dict #[] }) scope.names
    EnvOk (compEnvOf env scope L) ∧ CellsThere (compEnvOf env scope L) ∧ VsR P (compEnvOf env scope L) (compVars σ scope.names) h ∧ Ext s₁.heap h ∧ s₁.heap.get? L = none ∧
    (∀ x ∈ tgtNames t, ∀ c, (compEnvOf env scope L).cells.lookup x = some c → s₁.heap.get? c = none) ∧
    (∀ x c, (compEnvOf env scope L).cells.lookup x = some c → s₁.heap.get? c = none ∨ env.cells.lookup x = some c) := by
  intro L h
  obtain ⟨m, hn, hvars, al⟩ := hv
  unfold compOk at hc
  simp only [Bool.and_eq_true, decide_eq_true_eq, List.all_eq_true, Bool.or_eq_true, bne_iff_ne, ne_eq, beq_iff_eq] at hc
  obtain ⟨⟨⟨⟨hkind, hnd⟩, hfree⟩, hone⟩, htgt⟩ := hc
  have hext : Ext s₁.heap h := fun b o e => pushCells_keeps _ _ b o (Heap.get?_push_of_some _ e)
  have hsz : (s₁.heap.push { cls := .type "dict", data := .dict #[] }).objs.size = L + 1 := Heap.size_push ..
  have none_of : ∀ b, L ≤ b → s₁.heap.get? b = none := fun b hb => by
    cases e : s₁.heap.get? b with
    | none => rfl
    | some o => exact absurd (Heap.lt_size e) (Nat.not_lt.mpr hb)
  -- where the cells come from
  have src : ∀ x c, (compEnvOf env scope L).cells.lookup x = some c → ((x, NameKind.cell) ∈ scope.names ∧ L + 1 ≤ c ∧ h.IsCell c none) ∨ ((x, NameKind.free) ∈ scope.names ∧ env.cells.lookup x = some c) := by
    intro x c e
    have e : (cellsFrom (L + 1) scope.names (clos env scope.names [])).lookup x = some c := e
    rw [← hsz] at e
    rcases cellsFrom_lookup scope.names _ _ e with ⟨q1, q2, q3⟩ | q
    · exact .inl ⟨q1, by omega, q3⟩
    · rcases clos_lookup scope.names [] q with ⟨q1, q2⟩ | q
      · refine .inr ⟨q1, ?_⟩
        have hk : env.kindOf x = some .cell := by
          unfold Env.kindOf
          rw [hsc]
          rcases hfree _ q1 with z | z
          · exact absurd rfl z
          · exact z
        obtain ⟨c', hl⟩ := Option.isSome_iff_exists.mp (ok.ct x hk)
        rw [hl] at q2
        rw [q2]
        exact hl
      · cases q
  have ndc : ((compNames scope.names).map (·.1)).Nodup := by rw [compNames_fst]; exact hnd
  have kindc : ∀ x j, (x, j) ∈ scope.names → (compEnvOf env scope L).kindOf x = some (if j = .free then .cell else j) := fun x j hx => mem_lookup ndc (compNames_mem hx)
  have lt : ∀ x c, env.cells.lookup x = some c → c < L := fun x c e => let ⟨v, i⟩ := al x c e; i.lt
  have has : ∀ x, ((x, NameKind.cell) ∈ scope.names ∨ (x, NameKind.free) ∈ scope.names) → ((compEnvOf env scope L).cells.lookup x).isSome = true := by
    intro x hx
    refine cellsFrom_has scope.names _ _ ?_
    rcases hx with hx | hx
    · exact .inl hx
    · exact .inr (clos_some scope.names [] (.inl hx))
  have ok' : EnvOk (compEnvOf env scope L) := by
    refine ⟨hkind, ok.glob, ok.blt, fun x y c hx hy => ?_, fun x hx => ?_⟩
    · rcases src x c hx with ⟨a1, a2, _⟩ | ⟨a1, a2⟩ <;> rcases src y c hy with ⟨b1, b2, _⟩ | ⟨b1, b2⟩
      · exact one_cell hone a1 b1
      · exact absurd (lt y c b2) (Nat.not_lt.mpr (Nat.le_of_succ_le a2))
      · exact absurd (lt x c a2) (Nat.not_lt.mpr (Nat.le_of_succ_le b2))
      · exact ok.inj x y c a2 b2
    · obtain ⟨j, hj, e⟩ := mem_compNames (lookup_mem hx)
      refine has x ?_
      by_cases q : j = .free
      · subst q; exact .inr hj
      · rw [if_neg q] at e; subst e; exact .inl hj
  refine ⟨ok', ok'.ct, ⟨fun _ => none, ?_, fun x d hx => ?_, fun x c hx => ?_⟩, hext, none_of L (Nat.le_refl _), fun x hx c e => ?_, fun x c e => ?_⟩
  · exact (Heap.Ns.new s₁.heap (.type "dict")).keeps (pushCells_keeps _ _)
  · obtain ⟨hx, hd⟩ := compVars_lookup hx
    obtain ⟨v, a, r⟩ := hvars x d hd
    refine ⟨v, ?_, r⟩
    have hk : env.kindOf x = some .cell := by
      unfold Env.kindOf
      rw [hsc]
      rcases hfree _ hx with z | z
      · exact absurd rfl z
      · exact z
    rcases a with ⟨a, _⟩ | ⟨_, c, hc, hi⟩
    · rw [hk] at a; cases a
    · refine .inr ⟨.inl (kindc x .free hx), c, ?_, hi.keeps hext⟩
      obtain ⟨c', e⟩ := Option.isSome_iff_exists.mp (has x (.inr hx))
      rcases src x c' e with ⟨a1, _⟩ | ⟨_, a2⟩
      · exfalso
        have z1 := mem_lookup hnd a1
        have z2 := mem_lookup hnd hx
        rw [z1] at z2; cases z2
      · rw [hc] at a2; cases a2; exact e
  · rcases src x c hx with ⟨_, _, q⟩ | ⟨_, q⟩
    · exact ⟨_, q⟩
    · obtain ⟨v, i⟩ := al x c q
      exact ⟨v, i.keeps hext⟩
  · rcases src x c e with ⟨_, q, _⟩ | ⟨q, _⟩
    · exact none_of c (by omega)
    · exfalso
      have := htgt x hx
      unfold storable at this
      rw [mem_lookup hnd q] at this
      exact absurd this (by decide)
  · rcases src x c e with ⟨_, q, _⟩ | ⟨_, q⟩
    · exact .inl (none_of c (by omega))
    · exact .inr q
end
end Mine

namespace Mine
open PySem PySem.Spec PyProof.Rows

structure CSta (s : Shared) (env' : Env) (t : Expr) (fp wr : List Addr) (gi : List Nat) (D : Addr) : Prop where
  ok : EnvOk env'
  D0 : s.heap.get? D = none
  L0 : s.heap.get? env'.locals = none
  c0 : ∀ x ∈ tgtNames t, ∀ c, env'.cells.lookup x = some c → s.heap.get? c = none
  wr0 : ∀ b ∈ wr, s.heap.get? b = none
  gi0 : ∀ (i : Nat), i ∈ gi → s.gens[i]? = none
  Df : D ∉ fp
  Lf : env'.locals ∉ fp
  cf : ∀ x ∈ tgtNames t, ∀ c, env'.cells.lookup x = some c → c ∉ fp
  Dw : D ∉ wr
  Lw : env'.locals ∉ wr
  cw : ∀ x c, env'.cells.lookup x = some c → c ∉ wr

structure CInv (C : Cx) (k : Nat) (s : Shared) (env' : Env) (it : Value) (fp wr : List Addr) (gi : List Nat) (Da : Addr) (σ : Vars) (ds done : List D) (s' : Shared) : Prop where
  vs : VsR (Rep s.heap) env' σ s'.heap
  ext : Ext s.heap s'.heap
  isIt : IsIt C k it fp wr gi ds s'
  acc : ∃ vs n, IsL s'.heap Da vs n ∧ RepAll s'.heap done vs.toList
  gens : ∀ (i : Nat) g, s.gens[i]? = some g → s'.gens[i]? = some g
  bare : AllBare s.gens → AllBare s'.gens
  os : s'.os = s.os

theorem CSta.grow {C : Cx} {k : Nat} {s : Shared} {env' : Env} {t : Expr} {it : Value} {fp wr fp' wr' : List Addr} {gi : List Nat} {Da : Addr} {σ : Vars} {ds done : List D} {s' : Shared} (S : CSta s env' t fp wr gi Da) (I : CInv C k s env' it fp wr gi Da σ ds done s') (g : Grow s' fp fp') (g' : Grow s' wr wr') : CSta s env' t fp' wr' gi Da := by
  obtain ⟨vs, n, il, _⟩ := I.acc
  obtain ⟨m, ⟨oL, es, ep, hL, _⟩, _, al⟩ := I.vs
  have no : ∀ {l l' : List Addr} {b : Addr} {o : Obj}, Grow s' l l' → s'.heap.get? b = some o → b ∉ l → b ∉ l' := fun g e n m => (g _ m).elim n fun q => by rw [q] at e; cases e
  refine ⟨S.ok, S.D0, S.L0, S.c0, fun b m => (g' b m).elim (S.wr0 b) fun q => ?_, S.gi0, no g il S.Df, no g hL S.Lf, fun x hx c e => ?_, no g' il S.Dw, no g' hL S.Lw, fun x c e => ?_⟩
  · cases e : s.heap.get? b with
    | none => rfl
    | some o => rw [I.ext b o e] at q; cases q
  · obtain ⟨u, o, ho, _⟩ := al x c e
    exact no g ho (S.cf x hx c e)
  · obtain ⟨u, o, ho, _⟩ := al x c e
    exact no g' ho (S.cw x c e)

theorem VsR.ext {P : D → Value → Prop} {env : Env} {σ : Vars} {h h' : Heap} (k : Ext h h') : VsR P env σ h → VsR P env σ h' := fun ⟨m, n, f, al⟩ =>
  ⟨m, n.keeps k, fun x d e => let ⟨v, a, r⟩ := f x d e; ⟨v, a.ext k, r⟩, fun x c e => let ⟨v, i⟩ := al x c e; ⟨v, i.keeps k⟩⟩

theorem VsR.but {P : D → Value → Prop} {env : Env} {σ : Vars} {h h' : Heap} (X : Addr → Prop) (hL : ¬ X env.locals) (hc : ∀ x c, env.cells.lookup x = some c → ¬ X c) (k : ∀ b o, ¬ X b → h.get? b = some o → h'.get? b = some o) : VsR P env σ h → VsR P env σ h' := fun ⟨m, n, f, al⟩ =>
  ⟨m, n.at' fun o e => k _ o hL e, fun x d e => let ⟨v, a, r⟩ := f x d e; ⟨v, a.imp id fun ⟨q, c, e, i⟩ => ⟨q, c, e, let ⟨o, ho, hd⟩ := i; ⟨o, k c o (hc x c e) ho, hd⟩⟩, r⟩, fun x c e => let ⟨v, i⟩ := al x c e; ⟨v, let ⟨o, ho, hd⟩ := i; ⟨o, k c o (hc x c e) ho, hd⟩⟩⟩

theorem RepAll.scalars {h : Heap} (h' : Heap) : ∀ {ds : List D} {vs : List Value}, ds.all scalarD = true → RepAll h ds vs → RepAll h' ds vs
  | [], _, _, r => by unfold RepAll at r ⊢; exact r
  | _ :: _, _, hs, r => by
    simp only [List.all_cons, Bool.and_eq_true] at hs
    unfold RepAll at r ⊢
    obtain ⟨v, x, e, a, b⟩ := r
    exact ⟨v, x, e, a.scalar _ hs.1, RepAll.scalars h' hs.2 b⟩

theorem evComp_scalar {rec : RE} {recT : RT} {sc : Names} {t elt : Expr} {ifs : List Expr} : ∀ {ds : List D} {σ : Vars} {ys : List D}, evComp rec recT sc t elt ifs ds σ = some ys → ys.all scalarD = true ∧ ys.length ≤ ds.length
  | [], σ, ys, e => by simp only [evComp] at e; cases e; exact ⟨rfl, Nat.le_refl _⟩
  | d :: ds, σ, ys, e => by
    simp only [evComp] at e
    split at e
    · rw [Option.bind_eq_some_iff] at e
      obtain ⟨σ', _, e⟩ := e
      rw [Option.bind_eq_some_iff] at e
      obtain ⟨b, _, e⟩ := e
      split at e
      · rw [Option.bind_eq_some_iff] at e
        obtain ⟨y, _, e⟩ := e
        split at e
        · rename_i hy
          rw [Option.map_eq_some_iff] at e
          obtain ⟨zs, e, rfl⟩ := e
          obtain ⟨h1, h2⟩ := evComp_scalar e
          exact ⟨by simp [hy, h1], by simp; exact h2⟩
        · cases e
      · obtain ⟨h1, h2⟩ := evComp_scalar e
        exact ⟨h1, by simp; omega⟩
    · cases e

section
variable {C : Cx} {k : Nat} {A : Around} {s : Shared} {env' : Env} {E : Value → Shared → Prop}

theorem ifs_ok {recT : RT} (ST : SoundT C k recT) (ok : EnvOk env') {σ : Vars} {sc : Names} (hsc : env'.scope.names = sc) (hA : Rm k A) {ifs : List Expr} {b : Bool} (e : ifsT recT sc σ ifs = some b) (hb : Ext C.B₀ s.heap) (hv : Vs env' σ s.heap) :
    wpAny C.M A (forIn ifs true fun c r => if r = true then do let ok ← isTrue c env' (eval c env'); pure (ForInStep.yield ok) else pure (ForInStep.yield r)) (fun r s' => r = b ∧ Kp s s') E s := by
  unfold ifsT at e
  split at e
  · cases e; exact wpAny_tests_nil ⟨rfl, .refl s⟩
  · exact wpAny_tests_one (wpAny_mono (ST _ _ _ _ e env' ok hsc A s hA hb hv) (fun _ _ q => q) fun _ _ x => x.elim)
  · cases e

/-- between two turns -/
inductive CLoop (C : Cx) (k : Nat) (rec : RE) (recT : RT) (s₀ : Shared) (env' : Env) (t elt : Expr) (ifs : List Expr) (it : Value) (gi : List Nat) (Da : Addr) (total : List D) (n : Nat) (s' : Shared) : Prop
  | mk (fp wr : List Addr) (σ : Vars) (ds done ys : List D) (St : CSta s₀ env' t fp wr gi Da) (hn : n = ds.length) (he : evComp rec recT env'.scope.names t elt ifs ds σ = some ys) (hy : done ++ ys = total) (hd : done.all scalarD = true) (I : CInv C k s₀ env' it fp wr gi Da σ ds done s')

theorem compLoop_ok {rec : RE} {recT : RT} (S : SoundE C k rec) (ST : SoundT C k recT) (hA : Rm k A) {s₀ : Shared} {t elt iter : Expr} {ifs : List Expr} {scope : Scope} {pos : Pos} {it : Value} {fp wr : List Addr} {gi : List Nat} {Da : Addr} {total : List D} {R : Result → Shared → Prop}
    (hb : Ext C.B₀ s₀.heap) (St : CSta s₀ env' t fp wr gi Da) (htot : total.length ≤ sizeLine) {σ : Vars} {ds ys : List D} (he : evComp rec recT env'.scope.names t elt ifs ds σ = some ys) (hy : ys = total) (I : CInv C k s₀ env' it fp wr gi Da σ ds [] s)
    (hR : ∀ s', (∃ σ', VsR (Rep s₀.heap) env' σ' s'.heap) → Ext s₀.heap s'.heap → (∃ vs n, IsL s'.heap Da vs n ∧ RepAll s'.heap total vs.toList) → (∀ (i : Nat) g, s₀.gens[i]? = some g → s'.gens[i]? = some g) → (AllBare s₀.gens → AllBare s'.gens) → s'.os = s₀.os → R (.ok .next) s') :
    codeAny C.M A (.compLoop (.ListComp elt [⟨t, iter, ifs, 0⟩] scope pos) 0 it (.ref Da) env') R s := by
  refine codeAny_loop rfl (CLoop C k rec recT s₀ env' t elt ifs it gi Da total) (fun n s' hI => ?_) ds.length ⟨fp, wr, σ, ds, [], ys, St, rfl, he, by simpa using hy, rfl, I⟩
  clear I St
  obtain ⟨fp, wr, σ, ds, done, ys, St, rfl, he, hy, hdn, I⟩ := hI
  show wpAny _ A ((compTurn (.ListComp elt [⟨t, iter, ifs, 0⟩] scope pos) 0 it (.ref Da) env').onRaise (fun x => do noteFrame x env'; theTreesLotGoes x)) _ _ s'
  refine wpAny_noted ?_
  rw [compTurn_list]
  have hbI : Ext C.B₀ s'.heap := fun b o e => I.ext b o (hb b o e)
  cases ds with
  | nil =>
    simp only [evComp] at he
    cases he
    rw [List.append_nil] at hy
    subst hy
    refine wpAny_bind (wpAny_standAt (wpAny_bind (wpAny_mono (I.isIt s' (.refl _) hbI A hA) (fun r s₁ q => ?_) fun _ _ x => x.elim)))
    obtain ⟨rfl, kb⟩ := q
    obtain ⟨vs, n, il, r⟩ := I.acc
    refine wpAny_pure (hR s₁ ⟨σ, I.vs.but (· ∈ wr) St.Lw St.cw kb.heap⟩ (fun b o e => kb.heap b o (fun q => by rw [St.wr0 b q] at e; cases e) (I.ext b o e)) ⟨vs, n, kb.heap _ _ St.Dw il, r.scalars _ hdn⟩
      (fun i g e => kb.gens i g (fun q => by rw [St.gi0 i q] at e; cases e) (I.gens i g e)) (fun e => kb.bare (I.bare e)) (kb.os.trans I.os))
  | cons d ds =>
    simp only [evComp] at he
    split at he
    · rename_i hfl
      simp only [Bool.and_eq_true] at hfl
      rw [Option.bind_eq_some_iff] at he
      obtain ⟨σ', e1, he⟩ := he
      rw [Option.bind_eq_some_iff] at he
      obtain ⟨b, e2, he⟩ := he
      refine wpAny_bind (wpAny_standAt (wpAny_bind (wpAny_mono (I.isIt s' (.refl _) hbI A hA) (fun r s₁ q => ?_) fun _ _ x => x.elim)))
      obtain ⟨v, rfl, rv, kb, fp', wr', g1, g2, hno, hit⟩ := q
      have St' := St.grow I g1 g2
      have vs₁ : VsR (Rep s₀.heap) env' σ s₁.heap := I.vs.but (· ∈ wr) St.Lw St.cw kb.heap
      have ext₁ : Ext s₀.heap s₁.heap := fun b o e => kb.heap b o (fun q => by rw [St.wr0 b q] at e; cases e) (I.ext b o e)
      have gens₁ : ∀ (i : Nat) g, s₀.gens[i]? = some g → s₁.gens[i]? = some g := fun i g e => kb.gens i g (fun q => by rw [St.gi0 i q] at e; cases e) (I.gens i g e)
      obtain ⟨vs, n, il, ra⟩ := I.acc
      have il₁ : IsL s₁.heap Da vs n := kb.heap _ _ St.Dw il
      refine wpAny_bind (wpAny_mono (letOwned_ok hno.1) (fun _ s₁' q => ?_) fun _ _ x => x)
      subst q
      refine wpAny_bind (wpAny_mono (assignR_ok (P := Rep s₀.heap) St.ok St.ok.ct hA.hd (fun h d v hs r => r.scalar _ hs) e1 hfl.1 hfl.2 vs₁ rv) (fun _ s₂ q => ?_) fun _ _ x => x)
      obtain ⟨vs₂, kn⟩ := q
      have hLD : Da ≠ env'.locals := by
        rintro rfl
        obtain ⟨m, hn, _⟩ := vs₁
        exact ns_ne hn (o := { cls := .type "list", data := .seq vs n }) rfl il₁ rfl
      have hcD : ∀ x c, env'.cells.lookup x = some c → c ≠ Da := by
        rintro x c e rfl
        obtain ⟨m, _, _, al⟩ := vs₁
        obtain ⟨u, i⟩ := al x c e
        exact cell_ne i (o := { cls := .type "list", data := .seq vs n }) rfl il₁ rfl
      have ext₂ : Ext s₀.heap s₂.heap := fun b o e => kn.heap b o (fun q => by rw [q, St.L0] at e; cases e) (fun x hx q => by rw [St.c0 x hx b q] at e; cases e) (ext₁ b o e)
      have il₂ : IsL s₂.heap Da vs n := kn.heap _ _ hLD (fun x _ q => hcD x Da q rfl) il₁
      have ag₂ : Agree fp' gi s₁' s₂ := ⟨fun b hb o e => kn.heap b o (fun q => St'.Lf (q ▸ hb)) (fun x hx q => St'.cf x hx b q hb) e, fun i _ g e => by rw [kn.gens]; exact e⟩
      have hit₂ := hit.agree ag₂
      have vv₂ : Vs env' σ' s₂.heap := vs₂.vs fun d v r => r.ext ext₂
      have hb₂ : Ext C.B₀ s₂.heap := fun b o e => ext₂ b o (hb b o e)
      refine wpAny_bind (wpAny_mono (ifs_ok ST St.ok rfl hA e2 hb₂ vv₂) (fun ok s₃ q => ?_) fun _ _ x => x)
      obtain ⟨rfl, k₃⟩ := q
      have agK : ∀ {a b : Shared}, Kp a b → Agree fp' gi a b := fun kk => ⟨fun b _ o e => kk.heap b o e, fun i _ g e => kk.gens i g e⟩
      cases ok with
      | false =>
        simp only [Bool.false_eq_true, if_false] at he ⊢
        refine wpAny_pure ⟨rfl, ds.length, by simp, fp', wr', σ', ds, done, ys, St', rfl, he, hy, hdn, ?_⟩
        exact ⟨vs₂.ext k₃.heap, ext₂.trans k₃.heap, hit₂.agree (agK k₃), ⟨vs, n, k₃.heap _ _ il₂, ra.scalars _ hdn⟩, fun i g e => k₃.gens i g (by rw [kn.gens]; exact gens₁ i g e), fun e => k₃.bare (by rw [kn.gens]; exact kb.bare (I.bare e)), k₃.os.trans (kn.os.trans (kb.os.trans I.os))⟩
      | true =>
        simp only [if_true] at he ⊢
        rw [Option.bind_eq_some_iff] at he
        obtain ⟨y, e3, he⟩ := he
        split at he
        · rename_i hsy
          rw [Option.map_eq_some_iff] at he
          obtain ⟨zs, he, rfl⟩ := he
          refine wpAny_bind (wpAny_bind ?_)
          refine gv_of (S _ _ _ _ e3 env' St.ok rfl A s₃ hA (fun b o e => k₃.heap b o (hb₂ b o e)) (vv₂.ext k₃.heap)) fun yv s₄ k₄ r₄ => ?_
          have il₄ : IsL s₄.heap Da vs n := k₄.heap _ _ (k₃.heap _ _ il₂)
          have hl := ra.length
          simp only [Array.length_toList] at hl
          have hlen : vs.size ≤ sizeLine := by
            have : done.length ≤ total.length := by rw [← hy]; simp
            omega
          refine wpAny_bind (wpAny_list_append_plain ⟨n, il₄⟩ (fun h₅ pl hs₅ => ?_) hlen)
          obtain ⟨n', il₅⟩ := pl
          have k34 := k₃.trans k₄
          have but : ∀ b o, b ≠ Da → s₄.heap.get? b = some o → h₅.get? b = some o := fun b o hb e => hs₅.extBut b o hb e
          refine wpAny_pure (wpAny_pure ⟨rfl, ds.length, by simp, fp', wr', σ', ds, done ++ [y], zs, St', rfl, he, by simpa using hy, by simp [hdn, hsy], ?_⟩)
          refine ⟨(vs₂.ext k34.heap).but (· = Da) (fun e => hLD e.symm) (fun x c e => hcD x c e) but, fun b o e => but b o (fun q => by rw [q, St.D0] at e; cases e) (k34.heap b o (ext₂ b o e)), ?_, ⟨vs.push yv, n', il₅, ?_⟩, fun i g e => k34.gens i g (by rw [kn.gens]; exact gens₁ i g e), fun e => k34.bare (by rw [kn.gens]; exact kb.bare (I.bare e)), k34.os.trans (kn.os.trans (kb.os.trans I.os))⟩
          · exact (hit₂.agree (agK k34)).agree ⟨fun b hb o e => but b o (fun q => St'.Df (q ▸ hb)) e, fun i _ g e => e⟩
          · rw [Array.toList_push]
            exact (ra.scalars _ hdn).append (.single (r₄.scalar _ hsy))
        · cases he
    · cases he
end
end Mine

namespace Mine
open PySem PySem.Spec PyProof.Rows

section
variable {C : Cx} {k : Nat} {A : Around} {s : Shared} {env : Env} {σ : Vars} {E : Value → Shared → Prop}

theorem folded_id {e : Expr} (h : notSet e = true) (x : Value) : foldedSetIterable e env x = pure x := by
  cases e <;> first | rfl | (cases h)

/-- what is done behind the comprehension: nothing, or the store of its value -/
noncomputable def Behind (C : Cx) (A : Around) (E : Value → Shared → Prop) (Q : Value → Shared → Prop) (s : Shared) (ys : List D) : Option (Value → Sem Unit) → Prop
  | none => ∀ acc s', Kp s s' → Rep s'.heap (.list ys) acc → Q acc s'
  | some u => ∀ acc s', Kp s s' → Rep s'.heap (.list ys) acc → wpAny C.M A (u acc) (fun _ s'' => (∀ b o, s.heap.get? b = none → s'.heap.get? b = some o → s''.heap.get? b = some o) ∧ ∀ L h', s.heap.get? L = none → (∃ m, s''.heap.Ns L m) → Heap.SameBut L s''.heap h' → Q .none { s'' with heap := h' }) E s'

theorem comp_ok {T : Tabs} {rec : RE} {recT : RT} (hT : TabsOk C k T) (S : SoundE C k rec) (ST : SoundT C k recT) (ok : EnvOk env) {sc : Names} (hsc : env.scope.names = sc) (hA : Rm k A) {t elt iter : Expr} {ifs : List Expr} {scope : Scope} {pos pos' : Pos} {lst : Bool} {ds ys : List D}
    (hc : compOk sc scope t = true) (hns : notSet iter = true) (e1 : evI T rec sc σ iter = some (lst, ds)) (hlen : ds.length ≤ sizeLine) (e2 : evComp rec recT (compNames scope.names) t elt ifs ds (compVars σ scope.names) = some ys)
    (hb : Ext C.B₀ s.heap) (hv : Vs env σ s.heap) {use : Option (Value → Sem Unit)} {Q : Value → Shared → Prop} (hQ : Behind C A E Q s ys use) :
    wpAny C.M A (comprehension (.ListComp elt [⟨t, iter, ifs, 0⟩] scope pos') scope env pos (newList []) false (eval iter env) use) Q E s := by
  unfold comprehension
  refine wpAny_bind (wpAny_mono (evI_ok hT S ok hsc hA e1 hb hv) (fun x s₁ q => ?_) fun _ _ x => x.elim)
  obtain ⟨k₁, hit⟩ := q
  refine wpAny_bind (wpAny_standAt ?_)
  show wpAny C.M A (foldedSetIterable iter env x >>= _) Q E s₁
  refine wpAny_bind (wpAny_of_eq (folded_id hns x) ?_)
  refine wpAny_bind (wpAny_holding ?_)
  show wpAny C.M A (pyIter x) _ E s₁
  refine wpAny_mono (hit A hA) (fun it s₂ q => ?_) fun _ _ x => x.elim
  obtain ⟨fp, wr, gi, N⟩ := q
  have none_of : ∀ {h : Heap} b, h.objs.size ≤ b → h.get? b = none := fun {h} b hb => by
    cases e : h.get? b with
    | none => rfl
    | some o => exact absurd (Heap.lt_size e) (Nat.not_lt.mpr hb)
  have some_lt : ∀ {h : Heap} {b : Addr}, (h.get? b).isSome = true → b < h.objs.size := fun {h b} hb => by
    obtain ⟨o, e⟩ := Option.isSome_iff_exists.mp hb
    exact Heap.lt_size e
  refine wpAny_standIf ?_
  refine wpAny_bind ?_
  refine wpAny_newObj_type ?_
  -- the list that is filled
  have kl : Ext s₂.heap (s₂.heap.push { cls := .type "list", data := .seq (([] : List Value).toArray) }) := .push _ _
  generalize hs₃ : ({ s₂ with heap := s₂.heap.push { cls := .type "list", data := .seq (([] : List Value).toArray) } } : Shared) = s₃
  have h₃ : s₃.heap = s₂.heap.push { cls := .type "list", data := .seq (([] : List Value).toArray) } := by rw [← hs₃]
  have g₃ : s₃.gens = s₂.gens := by rw [← hs₃]
  have o₃ : s₃.os = s₂.os := by rw [← hs₃]
  have ext₃ : Ext s₂.heap s₃.heap := by rw [h₃]; exact kl
  have hDa : IsL s₃.heap s₂.heap.objs.size #[] 0 := by rw [h₃]; exact Heap.get?_push_size _ rfl
  have sz₃ : s₃.heap.objs.size = s₂.heap.objs.size + 1 := by rw [h₃]; exact Heap.size_push ..
  have e_s_s₃ : Ext s.heap s₃.heap := N.kp.heap.trans ext₃
  have hv₃ : VsR (Rep s.heap) env σ s₃.heap := VsR.ext e_s_s₃ hv
  obtain ⟨ok', ct', vs', ext', hL, hcells, hsrc⟩ := compEnv_ok (t := t) hc hsc ok hv₃
  unfold compOk at hc
  simp only [Bool.and_eq_true, decide_eq_true_eq, List.all_eq_true, Bool.or_eq_true, bne_iff_ne, ne_eq, beq_iff_eq] at hc
  obtain ⟨⟨⟨⟨hkind, hnd⟩, hfree⟩, hone⟩, htgt⟩ := hc
  refine wpAny_bind ?_
  -- the closure
  unfold closureFor
  refine wpAny_bind (closure_ok (env := env) _ (fun n k cs => ?_) scope.names [] (fun n hn => ?_) (wpAny_pure ?_))
  · rfl
  · refine ok.ct n ?_
    unfold Env.kindOf
    rw [hsc]
    rcases hfree _ hn with z | z
    · exact absurd rfl z
    · exact z
  refine wpAny_bind (compNewEnv ?_)
  have hnm : (scope.names.map fun x => match x with | (n, k) => if (k == .free && env.scope.kind == .function && env.kindOf n == some .cell) = true then (n, .cell) else (n, k)) = compNames scope.names := by
    unfold compNames
    apply List.map_congr_left
    intro x hx
    obtain ⟨n, j⟩ := x
    by_cases q : j = .free
    · have hk : env.kindOf n = some .cell := by
        unfold Env.kindOf
        rw [hsc]
        rcases hfree _ hx with z | z
        · exact absurd q z
        · exact z
      simp [q, ok.kind, hk]
    · have : (j == NameKind.free) = false := by simpa using q
      simp [this]
  dsimp only
  rw [hnm]
  generalize hL' : s₃.heap.objs.size = L at *
  generalize hs₄ : ({ s₃ with heap := pushCells (s₃.heap.push { cls := .type "dict", data := .dict #[] }) scope.names } : Shared) = s₄
  have h₄ : s₄.heap = pushCells (s₃.heap.push { cls := .type "dict", data := .dict #[] }) scope.names := by rw [← hs₄]
  rw [← h₄] at vs' ext'
  have e_s_s₄ : Ext s.heap s₄.heap := e_s_s₃.trans ext'
  have old : ∀ b, s₃.heap.get? b = none → s.heap.get? b = none := fun b hb => by
    cases e : s.heap.get? b with
    | none => rfl
    | some o => rw [e_s_s₃ b o e] at hb; cases hb
  have fpLt : ∀ b ∈ fp, b < s₂.heap.objs.size := fun b hb => by
    rcases N.fpOk b hb with q | ⟨_, vs, n, q⟩
    · exact some_lt q.2
    · exact Heap.lt_size (N.kp.heap _ _ q)
  have wrLt : ∀ b ∈ wr, b < s₂.heap.objs.size := fun b hb => some_lt (N.wrOk b hb).2
  have newGe : ∀ b, s₃.heap.get? b = none → L ≤ b ∨ s₂.heap.get? b = none := fun b hb => .inr (by
    cases e : s₂.heap.get? b with
    | none => rfl
    | some o => rw [ext₃ b o e] at hb; cases hb)
  have inS₂ : ∀ b ∈ fp, (s₂.heap.get? b).isSome = true := fun b hb => by
    rcases N.fpOk b hb with q | ⟨_, vs, n, q⟩
    · exact q.2
    · rw [N.kp.heap _ _ q]; rfl
  have no₂ : ∀ b, s₃.heap.get? b = none → s₂.heap.get? b = none := fun b hb => by
    cases e : s₂.heap.get? b with
    | none => rfl
    | some o => rw [ext₃ b o e] at hb; cases hb
  have D2 : s₂.heap.get? s₂.heap.objs.size = none := none_of _ (Nat.le_refl _)
  have apart : ∀ b c, (s₂.heap.get? b).isSome = true → s₂.heap.get? c = none → b ≠ c := by
    rintro b c h1 h2 rfl
    rw [h2] at h1; cases h1
  have old₂ : ∀ b, s₂.heap.get? b = none → s.heap.get? b = none := fun b hb => by
    cases e : s.heap.get? b with
    | none => rfl
    | some o => rw [N.kp.heap b o e] at hb; cases hb
  have cellsNot : ∀ x c, (compEnvOf env scope L).cells.lookup x = some c → c ∉ wr := by
    intro x c e hw
    rcases hsrc x c e with hx | hx
    · exact apart c c (N.wrOk c hw).2 (no₂ c hx) rfl
    · obtain ⟨m, _, _, al⟩ := hv
      obtain ⟨u, o, ho, _⟩ := al x c hx
      rw [(N.wrOk c hw).1] at ho
      cases ho
  have St : CSta s (compEnvOf env scope L) t fp wr gi s₂.heap.objs.size := by
    refine ⟨ok', old₂ _ D2, old _ hL, fun x hx c e => old _ (hcells x hx c e), fun b hb => (N.wrOk b hb).1, fun i hi => (N.giOk i hi).1, fun h => apart _ _ (inS₂ _ h) D2 rfl, fun h => apart _ _ (inS₂ _ h) (no₂ _ hL) rfl, fun x hx c e h => apart _ _ (inS₂ _ h) (no₂ _ (hcells x hx c e)) rfl,
      fun h => apart _ _ (N.wrOk _ h).2 D2 rfl, fun h => apart _ _ (N.wrOk _ h).2 (no₂ _ hL) rfl, cellsNot⟩
  have I : CInv C k s (compEnvOf env scope L) it fp wr gi s₂.heap.objs.size (compVars σ scope.names) ds [] s₄ := by
    refine ⟨vs', e_s_s₄, N.isIt.agree ⟨fun b _ o e => ext' b o (ext₃ b o e), fun i _ g e => ?_⟩, ⟨#[], 0, ext' _ _ hDa, .nil⟩, fun i g e => ?_, fun e => ?_, ?_⟩
    · rw [← hs₄]; show s₃.gens[i]? = _; rw [g₃]; exact e
    · rw [← hs₄]; show s₃.gens[i]? = _; rw [g₃]; exact N.kp.gens i g e
    · rw [← hs₄]; show AllBare s₃.gens; rw [g₃]; exact N.kp.bare e
    · rw [← hs₄]; show s₃.os = _; rw [o₃]; exact N.kp.os
  obtain ⟨hsy, hly⟩ := evComp_scalar e2
  have hb₄ : Ext C.B₀ s₄.heap := fun b o e => e_s_s₄ b o (hb b o e)
  have fin : ∀ s', (∃ σ', VsR (Rep s.heap) (compEnvOf env scope L) σ' s'.heap) → Ext s.heap s'.heap → (∃ vs n, IsL s'.heap s₂.heap.objs.size vs n ∧ RepAll s'.heap ys vs.toList) → (∀ (i : Nat) g, s.gens[i]? = some g → s'.gens[i]? = some g) → (AllBare s.gens → AllBare s'.gens) → s'.os = s.os →
      Kp s s' ∧ Rep s'.heap (.list ys) (.ref s₂.heap.objs.size) ∧ ∃ m, s'.heap.Ns L m := by
    rintro s' ⟨σ', m, hn, _⟩ h1 ⟨vs, n, il, r⟩ h3 h4 h5
    exact ⟨⟨h1, h3, h4, h5⟩, by unfold Rep; exact ⟨_, vs, n, rfl, il, r⟩, m, hn⟩
  have loop : ∀ (it' : Value) (s₅ : Shared), it' = it → s₅ = s₄ → codeAny C.M A (.compLoop (.ListComp elt [⟨t, iter, ifs, 0⟩] scope pos') 0 it' (.ref s₂.heap.objs.size) (compEnvOf env scope L))
      (fun r s' => r = .ok .next ∧ Kp s s' ∧ Rep s'.heap (.list ys) (.ref s₂.heap.objs.size) ∧ ∃ m, s'.heap.Ns L m) s₅ := by
    rintro it' s₅ rfl rfl
    exact compLoop_ok S ST hA hb St (by omega) e2 rfl I fun s' a b c d e f => ⟨rfl, fin s' a b c d e f⟩
  have start : codeAny C.M A (.compStart (.ListComp elt [⟨t, iter, ifs, 0⟩] scope pos') 0 it (.ref s₂.heap.objs.size) (compEnvOf env scope L))
      (fun r s' => r = .ok .next ∧ Kp s s' ∧ Rep s'.heap (.list ys) (.ref s₂.heap.objs.size) ∧ ∃ m, s'.heap.Ns L m) s₄ := by
    refine codeAny_compStart_list (loop it s₄ rfl rfl) (wpAny_mono (N.self s₄ ⟨fun b _ o e => ext' b o (ext₃ b o e), fun i _ g e => ?_⟩ A) (fun v s₅ q => loop v s₅ q.1 q.2) fun _ _ x => x.elim)
    rw [← hs₄]; show s₃.gens[i]? = _; rw [g₃]; exact e
  have hvn : ∀ x ∈ (scope.names.filter fun x => (x.2 == .local || x.2 == .cell) && x.1 != (".0" : Str)).reverse, x.2 = .local → (compEnvOf env scope L).kindOf x.1 = some .local := by
    intro x hx hl
    have hm := (List.mem_filter.mp (List.mem_reverse.mp hx)).1
    have : (x.1, NameKind.local) ∈ compNames scope.names := by
      have := compNames_mem (n := x.1) (k := x.2) hm
      rw [hl] at this
      exact this
    have nd : ((compNames scope.names).map (·.1)).Nodup := by rw [compNames_fst]; exact hnd
    exact mem_lookup nd this
  have sLnone : s.heap.get? L = none := old _ hL
  have keepL : ∀ {s' : Shared} {h' : Heap}, Heap.SameBut L s'.heap h' → Kp s s' → Rep s'.heap (.list ys) (.ref s₂.heap.objs.size) → (∃ m, s'.heap.Ns L m) → Kp s { s' with heap := h' } ∧ Rep h' (.list ys) (.ref s₂.heap.objs.size) := by
    rintro s' h' hs' kk rr ⟨m, hn⟩
    exact ⟨⟨fun b o e => hs'.extBut b o (fun q => by rw [q, sLnone] at e; cases e) (kk.heap b o e), kk.gens, kk.bare, kk.os⟩, rr.ns hn hs'⟩
  refine wpAny_holding (wpAny_bind (wpAny_attempt (wpAny_holding (wpAny_run (codeAny_mono start fun r s' q => ?_)))))
  obtain ⟨rfl, kk, rr, m, hn⟩ := q
  cases use with
  | none =>
    refine wpAny_bind (wpAny_holding (wpAny_comp_letGo (cenv := compEnvOf env scope L) hkind _ s' m hvn hn fun h' m' _ hs' => wpAny_pure ?_))
    obtain ⟨a, b⟩ := keepL hs' kk rr ⟨m, hn⟩
    exact hQ _ _ a b
  | some u =>
    refine wpAny_bind (wpAny_rule (wpAny_bind (wpAny_holding (wpAny_mono (hQ _ _ kk rr) (fun _ s'' q => ?_) fun _ _ x => x))))
    have hn'' : s''.heap.Ns L m := hn.at' fun o e => q.1 L o sLnone e
    refine wpAny_bind (wpAny_comp_letGo (cenv := compEnvOf env scope L) hkind _ s'' m ?_ hn'' fun h' m' _ hs' => wpAny_pure (q.2 L h' sLnone ⟨m, hn''⟩ hs'))
    intro x hx hl
    rcases List.mem_append.mp hx with h | h
    · exact hvn x (List.mem_of_mem_drop h) hl
    · exact hvn x (List.mem_of_mem_take h) hl

theorem compE_ok {T : Tabs} {rec : RE} {recT : RT} (hT : TabsOk C k T) (S : SoundE C k rec) (ST : SoundT C k recT) : SoundE C k (compE T rec recT) := by
  intro sc σ e d h env ok hsc A s hA hb hv
  unfold compE at h
  split at h
  · rename_i elt gens scope pos
    split at h
    · rename_i g
      split at h
      · rename_i hc
        simp only [Bool.and_eq_true] at hc
        rw [Option.bind_eq_some_iff] at h
        obtain ⟨⟨lst, ds⟩, e1, h⟩ := h
        split at h
        · rename_i hlen
          rw [Option.map_eq_some_iff] at h
          obtain ⟨ys, e2, rfl⟩ := h
          obtain ⟨t, it, ifs, asy⟩ := g
          have ha : asy = 0 := by simpa using hc.2
          subst ha
          rw [eval_ListComp]
          exact comp_ok hT S ST ok hsc hA hc.1.1 hc.1.2 e1 hlen e2 hb hv (use := none) fun acc s' k r => ⟨k, r⟩
        · cases h
      · cases h
    · cases h
  · cases h

/-- the evaluator, by fuel -/
noncomputable def ev (T : Tabs) : Nat → RE × RT
  | 0 => (fun _ _ _ => none, fun _ _ _ => none)
  | n + 1 => (stepE T (ev T n).1 (ev T n).2 (compE T (ev T n).1 (ev T n).2), stepT (ev T n).1 (ev T n).2)

theorem ev_ok {T : Tabs} (hT : TabsOk C k T) : ∀ n, SoundE C k (ev T n).1 ∧ SoundT C k (ev T n).2
  | 0 => ⟨fun _ _ _ _ h => (by cases h), fun _ _ _ _ h => (by cases h)⟩
  | n + 1 => by
    obtain ⟨a, b⟩ := ev_ok hT n
    exact ⟨stepE_ok hT a b (compE_ok hT a b), stepT_ok a b⟩
end
end Mine

namespace Mine
open PySem PySem.Spec PyProof.Rows

/-! statements -/
structure Ke (s s' : Shared) : Prop where
  gens : ∀ (i : Nat) g, s.gens[i]? = some g → s'.gens[i]? = some g
  bare : AllBare s.gens → AllBare s'.gens
  os : s'.os = s.os
theorem Ke.refl (s : Shared) : Ke s s := ⟨fun _ _ e => e, fun e => e, rfl⟩
theorem Ke.trans {a b c : Shared} (x : Ke a b) (y : Ke b c) : Ke a c := ⟨fun i g e => y.gens i g (x.gens i g e), fun e => y.bare (x.bare e), y.os.trans x.os⟩
theorem Kp.ke {s s' : Shared} (k : Kp s s') : Ke s s' := ⟨k.gens, k.bare, k.os⟩
theorem Kn.ke {env : Env} {ns : List Str} {s s' : Shared} (k : Kn env ns s s') : Ke s s' := ⟨fun i g e => by rw [k.gens]; exact e, fun e => by rw [k.gens]; exact e, k.os⟩

/-- the list that a name owns -/
noncomputable def OwnAt (env : Env) (σ : Vars) (h : Heap) : Option Str → Option Addr → Prop
  | none, oa => oa = none
  | some x, oa => ∃ a ds m, oa = some a ∧ env.kindOf x = some .local ∧ h.Ns env.locals m ∧ m x = some (.ref a) ∧ σ.lookup x = some (.list ds) ∧ ds.all scalarD = true ∧ ∀ y d, σ.lookup y = some d → y ≠ x → scalarD d = true

structure St (C : Cx) (F : Addr → Option Obj) (env : Env) (ow : Option Str) (σ : Vars) (s : Shared) : Prop where
  base : ∀ a o, C.B₀.get? a = some o → F a = some o
  vs : Vs env σ s.heap
  rest : ∃ oa, OwnAt env σ s.heap ow oa ∧ ∀ a o, F a = some o → s.heap.get? a = some o ∧ a ≠ env.locals ∧ (∀ x, env.cells.lookup x ≠ some a) ∧ oa ≠ some a

inductive Out where
  | next (ow : Option Str) (σ : Vars)
  | ret (d : D)

noncomputable def PostX (C : Cx) (F : Addr → Option Obj) (env : Env) (s : Shared) : Out → Flow → Shared → Prop
  | .next ow σ, f, s' => f = .next ∧ St C F env ow σ s' ∧ Ke s s'
  | .ret d, f, s' => ∃ v, f = .ret v ∧ Rep s'.heap d v ∧ (∀ a o, F a = some o → s'.heap.get? a = some o) ∧ Ke s s'

noncomputable abbrev RS := Names → Option Str → Vars → Stmt → Option Out
noncomputable def SoundX (C : Cx) (k : Nat) (rec : RS) : Prop := ∀ sc ow σ st out, rec sc ow σ st = some out → ∀ env : Env, EnvOk env → env.scope.names = sc → ∀ A F s, Rm k A → St C F env ow σ s → wpAny C.M A (exec st env) (PostX C F env s out) NE s

theorem ns_fun {h : Heap} {a : Addr} {m m' : Str → Option Value} (x : h.Ns a m) (y : h.Ns a m') : m = m' := by
  obtain ⟨o, es, ep, ho, hd, _, hm⟩ := x
  obtain ⟨o', es', ep', ho', hd', _, hm'⟩ := y
  rw [ho] at ho'
  cases ho'
  rw [hd] at hd'
  cases hd'
  funext n
  rw [← hm n, hm' n]

section
variable {C : Cx} {k : Nat} {A : Around} {F : Addr → Option Obj} {s : Shared} {env : Env} {σ : Vars} {ow : Option Str} {E : Value → Shared → Prop}

theorem St.bs (h : St C F env ow σ s) : Ext C.B₀ s.heap := fun b o e => by
  obtain ⟨oa, _, q⟩ := h.rest
  exact (q b o (h.base b o e)).1
theorem St.frozen (h : St C F env ow σ s) : ∀ a o, F a = some o → s.heap.get? a = some o := fun a o e => by
  obtain ⟨oa, _, q⟩ := h.rest
  exact (q a o e).1
theorem OwnAt.ext {h h' : Heap} (k : Ext h h') {oa : Option Addr} : OwnAt env σ h ow oa → OwnAt env σ h' ow oa := by
  cases ow with
  | none => exact id
  | some x =>
    rintro ⟨a, ds, m, e, hk, hn, r⟩
    exact ⟨a, ds, m, e, hk, hn.keeps k, r⟩
theorem St.kp {s' : Shared} (h : St C F env ow σ s) (k : Kp s s') : St C F env ow σ s' := by
  obtain ⟨oa, o, q⟩ := h.rest
  exact ⟨h.base, h.vs.ext k.heap, oa, o.ext k.heap, fun a o e => ⟨k.heap a o (q a o e).1, (q a o e).2⟩⟩

/-- may this name be stored beside the owned list? -/
noncomputable def storeOk (ow : Option Str) (x : Str) (d : D) : Bool := match ow with
  | none => true
  | some y => x != y && scalarD d

/-- the other names of the frame stand -/
noncomputable def Others (env : Env) (x : Str) (h h' : Heap) : Prop := ∀ m, h.Ns env.locals m → ∃ m', h'.Ns env.locals m' ∧ ∀ z, z ≠ x → m' z = m z

theorem store2_ok (ok : EnvOk env) {x : Str} {d : D} {v : Value} (hx : storable env.scope.names x = true) (hv : Vs env σ s.heap) (r : Rep s.heap d v) :
    wpAny C.M A (storeName env x v) (fun _ s' => Vs env (setV x d σ) s'.heap ∧ Kn env [x] s s' ∧ Others env x s.heap s'.heap) E s := by
  unfold storable at hx
  simp only [Bool.or_eq_true, beq_iff_eq] at hx
  rcases hx with hx | hx
  · obtain ⟨m, hn, h2, al⟩ := hv
    refine wpAny_storeName_local hx hn (fun h' n' hs => ⟨Vs.setLocal hx hn h2 al n' hs r, ⟨fun b o hb _ e => hs.extBut b o hb e, rfl, rfl⟩, fun m' hm' => ?_⟩) ?_
    · rw [ns_fun hm' hn]
      exact ⟨_, n', fun z hz => by simp [hz]⟩
    · rw [ok.kind]; rfl
  · obtain ⟨c, hcl⟩ := Option.isSome_iff_exists.mp (ok.ct x hx)
    obtain ⟨w, hi⟩ := hv.choose_spec.2.2 x c hcl
    have hn0 := hv.choose_spec.1
    refine wpAny_storeName_cell ok.kind hx hcl hi fun h' i' hs => ⟨Vs.setCell ok hx hcl hi hv i' hs r, ⟨fun b o _ hb e => hs.extBut b o (fun q => hb x (by simp) (q ▸ hcl)) e, rfl, rfl⟩, fun m' hm' => ?_⟩
    exact ⟨m', hm'.sameBut hs (fun e => cell_ne_ns hi hn0 e.symm), fun _ _ => rfl⟩

theorem St.store {x : Str} {d : D} {s' : Shared} (ho : storeOk ow x d = true) (h : St C F env ow σ s) (hv : Vs env (setV x d σ) s'.heap) (kn : Kn env [x] s s') (ot : Others env x s.heap s'.heap) : St C F env ow (setV x d σ) s' := by
  obtain ⟨oa, o, q⟩ := h.rest
  have fz : ∀ a o, F a = some o → s'.heap.get? a = some o ∧ a ≠ env.locals ∧ (∀ x, env.cells.lookup x ≠ some a) ∧ oa ≠ some a := fun a o e => by
    obtain ⟨q1, q2, q3, q4⟩ := q a o e
    exact ⟨kn.heap a o q2 (fun y _ => q3 y) q1, q2, q3, q4⟩
  refine ⟨h.base, hv, oa, ?_, fz⟩
  cases ow with
  | none => exact o
  | some y =>
    obtain ⟨a, ds, m, e, hk, hn, hm, hl, hsc, hoth⟩ := o
    simp only [storeOk, Bool.and_eq_true, bne_iff_ne, ne_eq] at ho
    have hyx : y ≠ x := fun e => ho.1 e.symm
    obtain ⟨m', hn', hm'⟩ := ot m hn
    refine ⟨a, ds, m', e, hk, hn', by rw [hm' y hyx]; exact hm, ?_, hsc, fun z d' hz hzy => ?_⟩
    · rw [setV_lookup, if_neg hyx]; exact hl
    · rw [setV_lookup] at hz
      split at hz
      · cases hz; exact ho.2
      · exact hoth z d' hz hzy

theorem stStore_ok (ok : EnvOk env) {x : Str} {d : D} {v : Value} (hx : storable env.scope.names x = true) (ho : storeOk ow x d = true) (h : St C F env ow σ s) (r : Rep s.heap d v) :
    wpAny C.M A (storeName env x v) (fun _ s' => St C F env ow (setV x d σ) s' ∧ Ke s s' ∧ Kn env [x] s s') E s :=
  wpAny_mono (store2_ok ok hx h.vs r) (fun _ _ q => ⟨h.store ho q.1 q.2.1 q.2.2, q.2.1.ke, q.2.1⟩) fun _ _ x => x

/-! names that are swapped -/
noncomputable def isStarB (e : Expr) : Bool := isStar e
noncomputable def nameIn (sc : Names) (line : Nat) : Expr → Option Str
  | .Name id pos => if sc.lookup id == some .local && pos.line == line then some id else none
  | _ => none
noncomputable def swapN (sc : Names) (ts vs : List Expr) : Option (List Str) :=
  if !(ts.length == 2 || ts.length == 3) || vs.length != ts.length then none else
  if vs.any isStarB then none else
  let line := (ts.head?.map (·.pos.line)).getD 0
  let names := ts.filterMap (nameIn sc line)
  if names.length != ts.length || names.eraseDups.length != names.length then none else
  if vs.all (foldedForSure 8) then none else
  if vs.all (constantsAlone 8) then none else some names

theorem ite_some {α : Type} {c : Prop} [Decidable c] {o : Option α} {n : α} (e : (if c then none else o) = some n) : ¬ c ∧ o = some n := by
  by_cases h : c
  · rw [if_pos h] at e; cases e
  · rw [if_neg h] at e; exact ⟨h, e⟩

theorem swapN_ok (ok : EnvOk env) {ts vs : List Expr} {names : List Str} {a b : Nat} {p q : Pos} (e : swapN env.scope.names ts vs = some names) : swappedStores [.Tuple ts a p] (.Tuple vs b q) env = pure (some names) := by
  have hb : env.blockKind = .function := by unfold Env.blockKind; rw [ok.kind]; rfl
  obtain ⟨h1, e⟩ := ite_some e
  obtain ⟨h2, e⟩ := ite_some e
  obtain ⟨h3, e⟩ := ite_some e
  obtain ⟨h4, e⟩ := ite_some e
  obtain ⟨h5, e⟩ := ite_some e
  have h1' : ¬ (!(ts.length == 2 || ts.length == 3) || vs.length != ts.length || env.blockKind != .function) = true := fun q => by
    rw [Bool.or_eq_true] at q
    rcases q with q | q
    · exact h1 q
    · rw [hb] at q; cases q
  exact (if_neg h1').trans ((if_neg h2).trans ((if_neg h3).trans ((if_neg h4).trans ((if_neg h5).trans (congrArg pure e)))))
end
end Mine

namespace Mine
open PySem PySem.Spec PyProof.Rows

section
variable {C : Cx} {k : Nat} {A : Around} {F : Addr → Option Obj} {s : Shared} {env : Env} {σ : Vars} {ow : Option Str} {E : Value → Shared → Prop}

/-! the owned list -/
theorem St.owned {x : Str} (h : St C F env (some x) σ s) : ∃ a ds vs n m, s.heap.Ns env.locals m ∧ env.kindOf x = some .local ∧ m x = some (.ref a) ∧ σ.lookup x = some (.list ds) ∧ IsL s.heap a vs n ∧ RepAll s.heap ds vs.toList ∧ ds.all scalarD = true ∧
    (∀ y d, σ.lookup y = some d → y ≠ x → scalarD d = true) ∧ ∀ b o, F b = some o → s.heap.get? b = some o ∧ b ≠ env.locals ∧ (∀ x, env.cells.lookup x ≠ some b) ∧ a ≠ b := by
  obtain ⟨oa, ⟨a, ds, m, rfl, hk, hn, hm, hl, hsc, hoth⟩, q⟩ := h.rest
  obtain ⟨m', hn', hv', _⟩ := h.vs
  obtain ⟨v, va, r⟩ := hv' x _ hl
  have : v = .ref a := by
    rcases va with ⟨_, e⟩ | ⟨e | e, _⟩
    · rw [ns_fun hn' hn, hm] at e; cases e; rfl
    · rw [hk] at e; cases e
    · rw [hk] at e; cases e
  subst this
  unfold Rep at r
  obtain ⟨a', vs, n, e, il, r⟩ := r
  cases e
  exact ⟨a, ds, vs, n, m, hn, hk, hm, hl, il, r, hsc, hoth, fun b o e => ⟨(q b o e).1, (q b o e).2.1, (q b o e).2.2.1, fun z => (q b o e).2.2.2 (by rw [z])⟩⟩

theorem St.ownSet {x : Str} {a : Addr} {m : Str → Option Value} {ds' : List D} {vs vs' : Array Value} {n n' : Nat} {h' : Heap} (h : St C F env (some x) σ s) (hn : s.heap.Ns env.locals m) (hk : env.kindOf x = some .local) (hm : m x = some (.ref a)) (il : IsL s.heap a vs n)
    (hoth : ∀ y d, σ.lookup y = some d → y ≠ x → scalarD d = true) (hF : ∀ b o, F b = some o → s.heap.get? b = some o ∧ b ≠ env.locals ∧ (∀ x, env.cells.lookup x ≠ some b) ∧ a ≠ b)
    (il' : IsL h' a vs' n') (hs : Heap.SameBut a s.heap h') (r' : RepAll h' ds' vs'.toList) (hsc : ds'.all scalarD = true) : St C F env (some x) (setV x (.list ds') σ) { s with heap := h' } := by
  have hLa : env.locals ≠ a := fun e => ns_ne hn (o := { cls := .type "list", data := .seq vs n }) rfl il e.symm
  have hn' : h'.Ns env.locals m := hn.sameBut hs hLa
  obtain ⟨m2, hn2, hv2, al2⟩ := h.vs
  have em := ns_fun hn2 hn
  subst em
  have hca : ∀ c w, s.heap.IsCell c w → h'.IsCell c w := fun c w i => i.sameBut hs (fun e => cell_ne i (o := { cls := .type "list", data := .seq vs n }) rfl il e.symm)
  refine ⟨h.base, ⟨m2, hn', fun y d hy => ?_, fun y c e => let ⟨v, i⟩ := al2 y c e; ⟨v, hca c v i⟩⟩, some a, ⟨a, ds', m2, rfl, hk, hn', hm, by rw [setV_lookup, if_pos rfl], hsc, fun y d hy hyx => ?_⟩, fun b o e => ?_⟩
  · rw [setV_lookup] at hy
    split at hy
    · rename_i q
      subst q
      cases hy
      exact ⟨.ref a, .inl ⟨hk, hm⟩, by unfold Rep; exact ⟨a, vs', n', rfl, il', r'⟩⟩
    · rename_i q
      obtain ⟨v, va, r⟩ := hv2 y d hy
      refine ⟨v, ?_, r.scalar _ (hoth y d hy q)⟩
      rcases va with va | ⟨va, c, e, i⟩
      · exact .inl va
      · exact .inr ⟨va, c, e, hca c _ i⟩
  · rw [setV_lookup, if_neg hyx] at hy
    exact hoth y d hy hyx
  · obtain ⟨q1, q2, q3, q4⟩ := hF b o e
    exact ⟨hs.extBut b o (fun z => q4 z.symm) q1, q2, q3, fun z => q4 (Option.some.inj z)⟩

theorem RepAll.set {h : Heap} : ∀ {ds : List D} {vs : List Value} (i : Nat) {d : D} {v : Value}, RepAll h ds vs → Rep h d v → RepAll h (ds.set i d) (vs.set i v)
  | [], _, _, _, _, r, _ => by unfold RepAll at r; subst r; simp; exact .nil
  | _ :: _, _, 0, _, _, r, q => by
    unfold RepAll at r
    obtain ⟨v, x, e, a, b⟩ := r
    subst e
    exact .cons q b
  | _ :: _, _, i + 1, _, _, r, q => by
    unfold RepAll at r
    obtain ⟨v, x, e, a, b⟩ := r
    subst e
    exact .cons a (RepAll.set i b q)

theorem all_set {ds : List D} {i : Nat} {d : D} (h : ds.all scalarD = true) (hd : scalarD d = true) : (ds.set i d).all scalarD = true := by
  rw [List.all_eq_true] at h ⊢
  intro x hx
  rcases List.mem_or_eq_of_mem_set hx with q | q
  · exact h x q
  · rw [q]; exact hd

theorem ownStore_ok {x : Str} {j : Int} {u : Tok} {d : D} {v : Value} {a : Addr} {ds : List D} {vs : Array Value} {n : Nat} {m : Str → Option Value} (h : St C F env (some x) σ s) (hn : s.heap.Ns env.locals m) (hk : env.kindOf x = some .local) (hm : m x = some (.ref a)) (il : IsL s.heap a vs n) (r : RepAll s.heap ds vs.toList) (hsc : ds.all scalarD = true)
    (hoth : ∀ y d, σ.lookup y = some d → y ≠ x → scalarD d = true) (hF : ∀ b o, F b = some o → s.heap.get? b = some o ∧ b ≠ env.locals ∧ (∀ x, env.cells.lookup x ≠ some b) ∧ a ≠ b) (h0 : 0 ≤ j) (h1 : j < ds.length) (hj : smallI j = true) (hd : scalarD d = true) (rv : Rep s.heap d v) :
    wpAny C.M A (setItem (.ref a) (.int j u) v) (fun _ s' => St C F env (some x) (setV x (.list (ds.set j.toNat d)) σ) s' ∧ Ke s s') E s := by
  have hl := r.length
  simp only [Array.length_toList] at hl
  have q := smallI_lt hj
  refine PySem.W.ki_setAt (n := n) il h0 (by omega) (by omega) ?_
  have il' := PySem.IsL.update il (fun xs => xs.setIfInBounds j.toNat v)
  refine ⟨h.ownSet hn hk hm il hoth hF il' (Heap.SameBut.update ..) ?_ (all_set hsc hd), ⟨fun _ _ e => e, fun e => e, rfl⟩⟩
  rw [Array.toList_setIfInBounds]
  exact (RepAll.set _ (r.scalars _ hsc) (rv.scalar _ hd))

theorem ownAppend_ok {x : Str} {d : D} {v : Value} {a : Addr} {ds : List D} {vs : Array Value} {n : Nat} {m : Str → Option Value} (h : St C F env (some x) σ s) (hn : s.heap.Ns env.locals m) (hk : env.kindOf x = some .local) (hm : m x = some (.ref a)) (il : IsL s.heap a vs n) (r : RepAll s.heap ds vs.toList) (hsc : ds.all scalarD = true)
    (hoth : ∀ y d, σ.lookup y = some d → y ≠ x → scalarD d = true) (hF : ∀ b o, F b = some o → s.heap.get? b = some o ∧ b ≠ env.locals ∧ (∀ x, env.cells.lookup x ≠ some b) ∧ a ≠ b) (hz : ds.length ≤ sizeLine) (hd : scalarD d = true) (rv : Rep s.heap d v) :
    wpAny C.M A (call (.builtin "list.append") [.ref a, v]) (fun v s' => v = .none ∧ St C F env (some x) (setV x (.list (ds ++ [d])) σ) s' ∧ Ke s s') E s := by
  have hl := r.length
  simp only [Array.length_toList] at hl
  refine wpAny_list_append_plain ⟨n, il⟩ (fun h' pl hs => ?_) (by omega)
  obtain ⟨n', il'⟩ := pl
  refine ⟨rfl, h.ownSet hn hk hm il hoth hF il' hs ?_ (by simp [hsc, hd]), ⟨fun _ _ e => e, fun e => e, rfl⟩⟩
  rw [Array.toList_push]
  exact (r.scalars _ hsc).append (.single (rv.scalar _ hd))

/-- a list newly made becomes a name's own -/
theorem St.ownNew {x : Str} {a : Addr} {ds : List D} {s' : Shared} (h : St C F env none σ s) (hk : env.kindOf x = some .local) (hsc : ds.all scalarD = true) (hall : ∀ y d, σ.lookup y = some d → y ≠ x → scalarD d = true) (hv : Vs env (setV x (.list ds) σ) s'.heap) (kn : Kn env [x] s s')
    (hm : ∃ m, s'.heap.Ns env.locals m ∧ m x = some (.ref a)) (hfr : ∀ o, F a ≠ some o) : St C F env (some x) (setV x (.list ds) σ) s' := by
  obtain ⟨oa, ho, q⟩ := h.rest
  obtain ⟨m, hn, hm⟩ := hm
  refine ⟨h.base, hv, some a, ⟨a, ds, m, rfl, hk, hn, hm, by rw [setV_lookup, if_pos rfl], hsc, fun y d hy hyx => ?_⟩, fun b o e => ?_⟩
  · rw [setV_lookup, if_neg hyx] at hy
    exact hall y d hy hyx
  · obtain ⟨q1, q2, q3, _⟩ := q b o e
    exact ⟨kn.heap b o q2 (fun y _ => q3 y) q1, q2, q3, fun z => hfr o (by rw [Option.some.inj z]; exact e)⟩
end
end Mine

namespace Mine
open PySem PySem.Spec PyProof.Rows

noncomputable def runL (rec : RS) (sc : Names) : Option Str → Vars → List Stmt → Option Out
  | ow, σ, [] => some (.next ow σ)
  | ow, σ, st :: r => (rec sc ow σ st).bind fun o => match o with
    | .next ow' σ' => runL rec sc ow' σ' r
    | .ret d => some (.ret d)

noncomputable def sto (sc : Names) (ow : Option Str) (σ : Vars) (x : Str) (d : D) : Option Out := if storable sc x && storeOk ow x d then some (.next ow (setV x d σ)) else none

noncomputable def restScalar (x : Str) (σ : Vars) : Bool := σ.all fun p => p.1 == x || scalarD p.2

noncomputable def isCompE : Expr → Bool
  | .ListComp .. | .SetComp .. | .DictComp .. => true
  | _ => false

noncomputable def augX (rec : RE) (sc : Names) (ow : Option Str) (σ : Vars) (x : Str) (op : Operator) (e : Expr) : Option Out :=
  if x == ("__classdict__" : Str) then none else
  (σ.lookup x).bind fun d => (rec sc σ e).bind fun d' => match op, d, d' with
    | .Add, .int a, .int b => sto sc ow σ x (.int (a + b))
    | .Sub, .int a, .int b => sto sc ow σ x (.int (a - b))
    | _, _, _ => none

noncomputable def appendX (rec : RE) (sc : Names) (ow : Option Str) (σ : Vars) (x m : Str) (apos pos : Pos) (e : Expr) : Option Out :=
  if ow == some x && m == ("append" : Str) && apos.endLine == pos.line && x != ("__debug__" : Str) && x != ("__classdict__" : Str) && !isStar e then (rec sc σ e).bind fun d => (match σ.lookup x with
    | some (.list ds) => if ds.length ≤ sizeLine ∧ scalarD d then some (.next ow (setV x (.list (ds ++ [d])) σ)) else none
    | _ => none) else none

noncomputable def runF (run : Option Str → Vars → Option Out) (sc : Names) (t : Expr) : List D → Option Str → Vars → Option Out
  | [], ow, σ => some (.next ow σ)
  | d :: ds, ow, σ => if flatD d && nameOk t d && (tgtNames t).all (fun x => ow != some x) then
      (assignD sc t d σ).bind fun σ' => (run ow σ').bind fun o => match o with
        | .next ow' σ'' => runF run sc t ds ow' σ''
        | .ret d => some (.ret d)
    else none

noncomputable def runW (test : Vars → Option Bool) (run : Option Str → Vars → Option Out) : Nat → Option Str → Vars → Option Out
  | 0, _, _ => none
  | n + 1, ow, σ => (test σ).bind fun b => if b then (run ow σ).bind fun o => (match o with
      | .next ow' σ' => runW test run n ow' σ'
      | .ret d => some (.ret d)) else some (.next ow σ)

section
variable {C : Cx} {k : Nat} {A : Around} {F : Addr → Option Obj} {s : Shared} {env : Env} {σ : Vars} {ow : Option Str} {E : Value → Shared → Prop}

theorem postNext {ow : Option Str} {σ' : Vars} {s' : Shared} (a : St C F env ow σ' s') (b : Ke s s') : PostX C F env s (.next ow σ') .next s' := ⟨rfl, a, b⟩
theorem PostX.ke {s₀ : Shared} {out : Out} {f : Flow} {s' : Shared} (k : Ke s₀ s) (h : PostX C F env s out f s') : PostX C F env s₀ out f s' := by
  cases out with
  | next ow σ => exact ⟨h.1, h.2.1, k.trans h.2.2⟩
  | ret d => obtain ⟨v, a, b, c, e⟩ := h; exact ⟨v, a, b, c, k.trans e⟩

theorem runL_ok {rec : RS} (S : SoundX C k rec) (ok : EnvOk env) {sc : Names} (hsc : env.scope.names = sc) (hA : Rm k A) : ∀ {l : List Stmt} {ow : Option Str} {σ : Vars} {out : Out} {s : Shared}, runL rec sc ow σ l = some out → St C F env ow σ s → wpAny C.M A (execs l env) (PostX C F env s out) NE s
  | [], ow, σ, out, s, e, h => by
    simp only [runL] at e
    cases e
    exact wpAny_execs_nil (postNext h (.refl s))
  | st :: r, ow, σ, out, s, e, h => by
    simp only [runL] at e
    rw [Option.bind_eq_some_iff] at e
    obtain ⟨o, e1, e⟩ := e
    refine wpAny_execs_cons (wpAny_mono (S _ _ _ _ _ e1 env ok hsc A F s hA h) (fun f s₁ q => ?_) fun _ _ x => x)
    cases o with
    | next ow' σ' =>
      obtain ⟨rfl, a, b⟩ := q
      exact wpAny_mono (runL_ok S ok hsc hA e a) (fun _ _ q => q.ke b) fun _ _ x => x
    | ret d =>
      cases e
      obtain ⟨v, rfl, r⟩ := q
      exact ⟨v, rfl, r⟩

theorem sto_ok (ok : EnvOk env) {sc : Names} (hsc : env.scope.names = sc) {x : Str} {d : D} {v : Value} {out : Out} (e : sto sc ow σ x d = some out) (h : St C F env ow σ s) (r : Rep s.heap d v) : wpAny C.M A (storeName env x v) (fun _ s' => PostX C F env s out .next s' ∧ out = .next ow (setV x d σ) ∧ Kn env [x] s s') E s := by
  unfold sto at e
  split at e
  · rename_i hc
    simp only [Bool.and_eq_true] at hc
    cases e
    exact wpAny_mono (stStore_ok ok (by rw [hsc]; exact hc.1) hc.2 h r) (fun _ s' q => ⟨postNext q.1 q.2.1, rfl, q.2.2⟩) fun _ _ x => x
  · cases e
end
end Mine

namespace Mine
open PySem PySem.Spec PyProof.Rows

section
variable {C : Cx} {k : Nat} {A : Around} {F : Addr → Option Obj} {s : Shared} {env : Env} {σ : Vars} {ow : Option Str}

theorem noSwap {v : Expr} (h : isCompE v = false) (t : Option Expr) (l : Nat) : swapsWith v t l env = pure false := by
  cases v <;> first | rfl | (cases h)

theorem assignName_ok {rec : RE} (S : SoundE C k rec) (ok : EnvOk env) {sc : Names} (hsc : env.scope.names = sc) (hA : Rm k A) {x : Str} {p pos : Pos} {v : Expr} {out : Out} (hc : isCompE v = false) (e : ((rec sc σ v).bind fun d => sto sc ow σ x d) = some out) (h : St C F env ow σ s) :
    wpAny C.M A (exec (.Assign [.Name x p] v pos) env) (PostX C F env s out) NE s := by
  rw [Option.bind_eq_some_iff] at e
  obtain ⟨d, e1, e⟩ := e
  refine wpAny_Assign_Name (gv_of (S _ _ _ _ e1 env ok hsc A s hA h.bs h.vs) fun vv s₁ k₁ r₁ => ?_) (noSwap hc _ _)
  exact wpAny_mono (sto_ok ok hsc e (h.kp k₁) r₁) (fun _ s' q => q.1.ke k₁.ke) fun _ _ x => x

/-- the store of a comprehension's value, its own frame let go behind it -/
theorem assignComp_ok {T : Tabs} {rec : RE} {recT : RT} (hT : TabsOk C k T) (S : SoundE C k rec) (ST : SoundT C k recT) (ok : EnvOk env) {sc : Names} (hsc : env.scope.names = sc) (hA : Rm k A) {x : Str} {p pos : Pos} {elt : Expr} {gens : List Comprehension} {scope : Scope} {cp : Pos} {out : Out}
    (e : ((compE T rec recT sc σ (.ListComp elt gens scope cp)).bind fun d => sto sc ow σ x d) = some out) (h : St C F env ow σ s) : wpAny C.M A (exec (.Assign [.Name x p] (.ListComp elt gens scope cp) pos) env) (PostX C F env s out) NE s := by
  rw [Option.bind_eq_some_iff] at e
  obtain ⟨d, e1, e⟩ := e
  have hsw : ∃ b, swapsWith (.ListComp elt gens scope cp) (some (.Name x p)) pos.line env = pure b := ⟨_, rfl⟩
  obtain ⟨b, hsw⟩ := hsw
  cases b with
  | false =>
    refine wpAny_Assign_Name (gv_of (compE_ok hT S ST _ _ _ _ e1 env ok hsc A s hA h.bs h.vs) fun vv s₁ k₁ r₁ => ?_) hsw
    exact wpAny_mono (sto_ok ok hsc e (h.kp k₁) r₁) (fun _ s' q => q.1.ke k₁.ke) fun _ _ x => x
  | true =>
    rw [exec_Assign_Name_used _ _ _ _ hsw]
    refine wpAny_bind (wpAny_standAt (wpAny_bind ?_))
    unfold compE at e1
    simp only at e1
    split at e1
    · rename_i g
      split at e1
      · rename_i hc
        simp only [Bool.and_eq_true] at hc
        rw [Option.bind_eq_some_iff] at e1
        obtain ⟨⟨lst, ds⟩, e2, e1⟩ := e1
        split at e1
        · rename_i hlen
          rw [Option.map_eq_some_iff] at e1
          obtain ⟨ys, e3, rfl⟩ := e1
          obtain ⟨t, it, ifs, asy⟩ := g
          have ha : asy = 0 := by simpa using hc.2
          subst ha
          show wpAny C.M A (do let _ ← comprehension (.ListComp elt [⟨t, it, ifs, 0⟩] scope cp) scope env _ (newList []) false (eval it env) (some (assign (.Name x p) env))) _ _ s
          refine wpAny_bind (comp_ok hT S ST ok hsc hA hc.1.1 hc.1.2 e2 hlen e3 h.bs h.vs (use := some (assign (.Name x p) env)) (Q := fun _ s' => wpAny C.M A (pure PUnit.unit) (fun _ s₂ => wpAny C.M A (pure Flow.next) (PostX C F env s out) NE s₂) NE s') ?_)
          intro acc s' kk rr
          have h' := h.kp kk
          refine wpAny_assign_Name (wpAny_mono (sto_ok ok hsc e h' rr) (fun _ s'' q => ?_) fun _ _ x => x)
          obtain ⟨q1, rfl, kn⟩ := q
          obtain ⟨_, st, ke⟩ := q1
          have ho : ow = none := by
            unfold sto at e
            split at e
            · rename_i hc
              simp only [Bool.and_eq_true] at hc
              cases ow with
              | none => rfl
              | some y => simp [storeOk, scalarD] at hc
            · cases e
          subst ho
          obtain ⟨m₀, hn₀, _, al₀⟩ := h.vs
          refine ⟨fun b o hb eb => kn.heap b o (fun q => ?_) (fun y _ q => ?_) eb, fun L h₂ hL hnL hs => wpAny_pure (wpAny_pure (postNext ?_ ?_))⟩
          · obtain ⟨o', es, ep, ho', _⟩ := hn₀
            rw [q, ho'] at hb; cases hb
          · obtain ⟨u, o', ho', _⟩ := al₀ y b q
            rw [ho'] at hb; cases hb
          · obtain ⟨mL, hmL⟩ := hnL
            obtain ⟨m, hn, hv, al⟩ := st.vs
            obtain ⟨oa, hoa, hF⟩ := st.rest
            have neL : env.locals ≠ L := by
              rintro rfl
              obtain ⟨o', es, ep, ho', _⟩ := hn₀
              rw [hL] at ho'; cases ho'
            have cells : ∀ c w, s''.heap.IsCell c w → h₂.IsCell c w := fun c w i => i.sameBut hs (cell_ne_ns i hmL)
            refine ⟨st.base, ⟨m, hn.sameBut hs neL, fun y d hy => ?_, fun y c ec => let ⟨v, i⟩ := al y c ec; ⟨v, cells c v i⟩⟩, oa, hoa, fun a o ea => ?_⟩
            · obtain ⟨v, va, r⟩ := hv y d hy
              exact ⟨v, va.imp id fun ⟨q, c, ec, i⟩ => ⟨q, c, ec, cells c _ i⟩, r.ns hmL hs⟩
            · obtain ⟨q1, q2, q3, q4⟩ := hF a o ea
              refine ⟨hs.extBut a o (fun z => ?_) q1, q2, q3, q4⟩
              have := h.frozen a o ea
              rw [z, hL] at this; cases this
          · exact kk.ke.trans ⟨ke.gens, ke.bare, ke.os⟩
        · cases e1
      · cases e1
    · cases e1

end
/-- a list newly made, with what it is to tell -/
noncomputable def freshP (T : Tabs) (rec : RE) (sc : Names) (σ : Vars) (e : Expr) : {o : Option (List D) // ∀ ds, o = some ds → ∀ (C : Cx) (k : Nat), TabsOk C k T → SoundE C k rec → ∀ env : Env, EnvOk env → env.scope.names = sc → ∀ A s, Rm k A → Ext C.B₀ s.heap → Vs env σ s.heap → wpAny C.M A (eval e env) (fun v s' => Kp s s' ∧ ∃ a, v = .ref a ∧ s.heap.get? a = none ∧ Rep s'.heap (.list ds) v) NE s} := match e with
  | .List [] p => ⟨some [], fun ds h C k hT S env ok hsc A s hA hb hv => by
    have none_of : ∀ {h : Heap} b, h.objs.size ≤ b → h.get? b = none := fun {h} b hb => by
      cases e : h.get? b with
      | none => rfl
      | some o => exact absurd (Heap.lt_size e) (Nat.not_lt.mpr hb)
    cases h
    refine wpAny_List (wpAny_items_nil ⟨Nat.zero_le _, ?_⟩)
    have g := gv_newL (s := s) (vs := ([] : List Value).toArray) (ds := []) .nil
    exact ⟨g.1, _, rfl, none_of _ (Nat.le_refl _), g.2⟩⟩
  | .Call (.Name f fp) [a] [] pos => ⟨if f == ("list" : Str) && T.bi f == some (.type "list") && !(σ.lookup f).isSome && sc.lookup f == some .globalImplicit && !isStar a then (rec sc σ a).bind fun d => (match d with
        | .range x y z => (match fnD (.type "list") [.range x y z] with | some (.list ds) => some ds | _ => none)
        | _ => none) else none, fun ds h C k hT S env ok hsc A s hA hb hv => by
    split at h
    · rename_i hc
      simp only [Bool.and_eq_true, beq_iff_eq, Bool.not_eq_true'] at hc
      obtain ⟨⟨⟨⟨h1, h2⟩, h3⟩, h4⟩, h5⟩ := hc
      rw [Option.bind_eq_some_iff] at h
      obtain ⟨d, e1, h⟩ := h
      split at h
      · rename_i x y z
        split at h
        · rename_i ds' hf
          cases h
          obtain ⟨q1, q2, q3⟩ := hT.bi f _ h2
          have hk : env.kindOf f = some .globalImplicit := by unfold Env.kindOf; rw [hsc]; exact h4
          have hd : (f == ("__debug__" : Str)) = false := by rw [h1]; decide
          show wpAny C.M A (do callWith _ (← eval (.Name f fp) env) [] (backTo _ (starEach [a] env)) (backToKw _ (keywordEach [] env))) _ _ s
          refine wpAny_bind (global_ok ok hd hk hb (.inr ⟨q1, q2⟩) ?_)
          have ev : evEs (rec sc σ) [a] = some [.range x y z] := by simp [evEs, h5, e1]
          refine callWith_machine q3 (noStar env ev) (wpAny_mono (args_ok S ok hsc hA ev hb hv) (fun as s₁ q => ?_) fun _ _ x => x)
          obtain ⟨k₁, vs, rfl, r⟩ := q
          -- the call itself
          have hf' := hf
          change (if ("list" : String) == "list" ∧ rangeOk x y z ∧ (Builtin.Range.rangeSize x y z).toNat ≤ sizeLine then some (D.list ((rangeL x y z).map .int)) else none) = _ at hf
          split at hf
          · rename_i hid
            obtain ⟨_, ho, hz⟩ := hid
            cases hf
            obtain ⟨v, q, rfl, ra, rb⟩ := (by unfold RepAll at r; exact r : ∃ v q, vs = v :: q ∧ Rep s₁.heap (.range x y z) v ∧ RepAll s₁.heap [] q)
            unfold RepAll at rb
            subst rb
            unfold Rep at ra
            obtain ⟨ad, t, u, j, rfl, ir⟩ := ra
            obtain ⟨z1, z2⟩ := rangeSmall ho
            have hn : Builtin.Range.rangeSize x y z = ((Builtin.Range.rangeSize x y z).toNat : Int) := by omega
            refine call_list_range hA.hd ir z1 hn (by rw [sizeLine_eq] at hz; omega) fun h' tk acc' c' hk hg hit => ⟨k₁.trans (.of_heap_toks hk), _, rfl, ?_, ?_⟩
            · cases e : s.heap.get? s₁.heap.objs.size with
              | none => rfl
              | some o => exact absurd (Heap.lt_size (k₁.heap _ _ e)) (Nat.lt_irrefl _)
            · unfold Rep
              refine ⟨_, acc', c', rfl, hg, ?_⟩
              unfold rangeL
              rw [List.map_map]
              exact repAll_ints (f := fun (i : Nat) => x + (i : Int) * z) (by simpa using hit.1) fun j v hj => hit.2 j v (by simpa using hj)
          · cases hf
        · cases h
      · cases h
    · cases h⟩
  | _ => ⟨none, fun _ e => nomatch e⟩
noncomputable def freshE (T : Tabs) (rec : RE) (sc : Names) (σ : Vars) (e : Expr) : Option (List D) := (freshP T rec sc σ e).1
section
variable {C : Cx} {k : Nat} {A : Around} {F : Addr → Option Obj} {s : Shared} {env : Env} {σ : Vars} {ow : Option Str}

theorem fresh_ok {T : Tabs} {rec : RE} (hT : TabsOk C k T) (S : SoundE C k rec) (ok : EnvOk env) {sc : Names} (hsc : env.scope.names = sc) (hA : Rm k A) {e : Expr} {ds : List D} (h : freshE T rec sc σ e = some ds) (hb : Ext C.B₀ s.heap) (hv : Vs env σ s.heap) :
    wpAny C.M A (eval e env) (fun v s' => Kp s s' ∧ ∃ a, v = .ref a ∧ s.heap.get? a = none ∧ Rep s'.heap (.list ds) v) NE s :=
  (freshP T rec sc σ e).2 ds h C k hT S env ok hsc A s hA hb hv

theorem restScalar_ok {x : Str} (h : restScalar x σ = true) : ∀ y d, σ.lookup y = some d → y ≠ x → scalarD d = true := by
  intro y d e hne
  unfold restScalar at h
  rw [List.all_eq_true] at h
  have := h (y, d) (mem_of_lookup e)
  simp only [Bool.or_eq_true, beq_iff_eq] at this
  rcases this with q | q
  · exact absurd q hne
  · exact q
end
end Mine

namespace Mine
open PySem PySem.Spec PyProof.Rows

section
variable {C : Cx} {k : Nat} {A : Around} {F : Addr → Option Obj} {s : Shared} {env : Env} {σ : Vars} {ow : Option Str} {E : Value → Shared → Prop}

theorem ownNew_ok {T : Tabs} {rec : RE} (hT : TabsOk C k T) (S : SoundE C k rec) (ok : EnvOk env) {sc : Names} (hsc : env.scope.names = sc) (hA : Rm k A) {x : Str} {p pos : Pos} {v : Expr} {ds : List D} (hc : isCompE v = false) (hk : sc.lookup x = some .local) (hr : restScalar x σ = true)
    (hf : freshE T rec sc σ v = some ds) (hs : ds.all scalarD = true) (h : St C F env none σ s) : wpAny C.M A (exec (.Assign [.Name x p] v pos) env) (PostX C F env s (.next (some x) (setV x (.list ds) σ))) NE s := by
  refine wpAny_Assign_Name (wpAny_mono (fresh_ok hT S ok hsc hA hf h.bs h.vs) (fun vv s₁ q => ?_) fun _ _ x => x) (noSwap hc _ _)
  obtain ⟨k₁, a, rfl, hfr, r⟩ := q
  have hk' : env.kindOf x = some .local := by unfold Env.kindOf; rw [hsc]; exact hk
  obtain ⟨m, hn, h2, al⟩ := (h.kp k₁).vs
  refine wpAny_storeName_local hk' hn (fun h' n' hs' => ?_) (by rw [ok.kind]; rfl)
  refine postNext (St.ownNew (a := a) (h.kp k₁) hk' hs (restScalar_ok hr) (Vs.setLocal hk' hn h2 al n' hs' r) ⟨fun b o hb _ e => hs'.extBut b o hb e, rfl, rfl⟩ ⟨_, n', by simp⟩ fun o e => ?_) (k₁.ke.trans ⟨fun _ _ e => e, fun e => e, rfl⟩)
  have := h.frozen a o e
  rw [hfr] at this; cases this

/-- stores in turn -/
theorem inTurn_ok (ok : EnvOk env) : ∀ {xs : List Str} {ds : List D} {vs : List Value} {σ : Vars} {s : Shared}, xs.length = ds.length → xs.all (storable env.scope.names) = true → (xs.zip ds).all (fun p => storeOk ow p.1 p.2) = true → St C F env ow σ s → RepAll s.heap ds vs →
    wpAny C.M A (assignInOrder (xs.map fun n => bindName env n) vs) (fun _ s' => St C F env ow ((xs.zip ds).foldl (fun σ p => setV p.1 p.2 σ) σ) s' ∧ Ke s s') E s
  | [], ds, vs, σ, s, hl, _, _, h, _ => wpAny_pure ⟨h, .refl s⟩
  | x :: xs, [], vs, σ, s, hl, _, _, _, _ => by simp at hl
  | x :: xs, d :: ds, vs, σ, s, hl, hst, hso, h, r => by
    unfold RepAll at r
    obtain ⟨v, us, rfl, r1, r2⟩ := r
    simp only [List.all_cons, Bool.and_eq_true] at hst
    simp only [List.zip_cons_cons, List.all_cons, Bool.and_eq_true] at hso
    show wpAny C.M A (do holding us (bindName env x v); assignInOrder (xs.map fun n => bindName env n) us) _ _ s
    refine wpAny_bind (wpAny_holding (wpAny_bindName (wpAny_mono (stStore_ok ok hst.1 hso.1 h r1) (fun _ s₁ q => ?_) fun _ _ x => x)))
    refine wpAny_mono (inTurn_ok ok (by simpa using hl) hst.2 hso.2 q.1 (r2.seqs (q.2.2.seqs h.vs))) (fun _ s₂ q₂ => ⟨q₂.1, q.2.1.trans q₂.2⟩) fun _ _ x => x

theorem RepAll.reverse {h : Heap} : ∀ {ds : List D} {vs : List Value}, RepAll h ds vs → RepAll h ds.reverse vs.reverse
  | [], _, r => by unfold RepAll at r; subst r; exact .nil
  | d :: ds, _, r => by
    unfold RepAll at r
    obtain ⟨v, x, rfl, a, b⟩ := r
    rw [List.reverse_cons, List.reverse_cons]
    exact (RepAll.reverse b).append (.single a)

theorem tuple_ok {rec : RE} (S : SoundE C k rec) (ok : EnvOk env) {sc : Names} (hsc : env.scope.names = sc) (hA : Rm k A) {ts vs : List Expr} {a b : Nat} {p q pos : Pos} {names : List Str} {ds : List D} (e1 : swapN sc ts vs = some names) (e2 : evEs (rec sc σ) vs = some ds) (hl : names.length = ds.length) (hz : ds.length ≤ sizeLine) (hst : names.all (storable sc) = true)
    (hzip : (names.reverse.zip ds.reverse).all (fun p => storeOk ow p.1 p.2) = true) (h : St C F env ow σ s) : wpAny C.M A (exec (.Assign [.Tuple ts a p] (.Tuple vs b q) pos) env) (PostX C F env s (.next ow ((names.reverse.zip ds.reverse).foldl (fun σ p => setV p.1 p.2 σ) σ))) NE s := by
  refine Assign_Tuple_swapped (names := names) ?_ rfl (swapN_ok ok (by rw [hsc]; exact e1))
  refine wpAny_Tuple (wpAny_mono (items_ok S ok hsc hA e2 h.bs h.vs) (fun us s₁ q => ?_) fun _ _ x => x)
  obtain ⟨k₁, r⟩ := q
  have hl2 := r.length
  refine ⟨by omega, ?_⟩
  have g := gv_newT (s := s₁) (vs := us.toArray) (ds := ds) (by simpa using r)
  have k₂ := k₁.trans g.1
  have r₂ : RepAll (s₁.heap.push { cls := .type "tuple", data := .seq us.toArray }) ds us := r.ext (.push _ _)
  rw [show names.length = us.toArray.size by simp; omega]
  refine wpAny_unpackItems_tuple hA.hd ⟨_, Heap.get?_push_size _ rfl, rfl, 0, rfl⟩ fun h' he => ?_
  have hx : Ext (s₁.heap.push { cls := .type "tuple", data := .seq us.toArray }) h' := fun b o e => he b o (Nat.ne_of_lt (Heap.lt_size e)) e
  have k₃ : Kp s { s₁ with heap := h' } := k₂.trans (.of_heap (s := { s₁ with heap := s₁.heap.push { cls := .type "tuple", data := .seq us.toArray } }) hx)
  refine wpAny_mono (inTurn_ok (s := { s₁ with heap := h' }) ok (by simp [hl]) (by rw [List.all_reverse, hsc]; exact hst) hzip (h.kp k₃) (r₂.ext hx).reverse) (fun _ s₄ q => postNext q.1 (k₃.ke.trans q.2)) fun _ _ x => x

theorem own_name {x : Str} {a : Addr} {m : Str → Option Value} {p : Pos} {Q : Value → Shared → Prop} (ok : EnvOk env) (hk : env.kindOf x = some .local) (hn : s.heap.Ns env.locals m) (hm : m x = some (.ref a)) (hd : (x == ("__debug__" : Str)) = false) (hQ : Q (.ref a) s) : wpAny C.M A (eval (.Name x p) env) Q E s :=
  wpAny_Name (wpAny_loadName_local ok.kind hk hn hm hQ) hd

end
/-- an assignment's run, with what it is to tell -/
noncomputable def assignP (T : Tabs) (rec : RE) (recT : RT) (sc : Names) (ow : Option Str) (σ : Vars) (ts : List Expr) (v : Expr) : {o : Option Out // ∀ out, o = some out → ∀ (C : Cx) (k : Nat), TabsOk C k T → SoundE C k rec → SoundT C k recT → ∀ env : Env, EnvOk env → env.scope.names = sc → ∀ (pos : Pos) A F s, Rm k A → St C F env ow σ s → wpAny C.M A (exec (.Assign ts v pos) env) (PostX C F env s out) NE s} := match ts, v with
  | [.Name x p], .ListComp elt c r q => ⟨(compE T rec recT sc σ (.ListComp elt c r q)).bind fun d => sto sc ow σ x d, fun out e C k hT S ST env ok hsc pos A F s hA h => assignComp_ok hT S ST ok hsc hA e h⟩
  | [.Name x p], v => ⟨if isCompE v then none else (match (if ow.isNone && sc.lookup x == some .local && restScalar x σ then freshE T rec sc σ v else none) with
          | some ds => if ds.all scalarD then some (.next (some x) (setV x (.list ds) σ)) else none
          | none => (rec sc σ v).bind fun d => sto sc ow σ x d), fun out e C k hT S ST env ok hsc pos A F s hA h => by
    split at e
    · cases e
    · rename_i hc
      have hc : isCompE v = false := by simpa using hc
      split at e
      · rename_i ds hf
        split at e
        · rename_i hs
          cases e
          split at hf
          · rename_i hq
            simp only [Bool.and_eq_true, beq_iff_eq, Option.isNone_iff_eq_none] at hq
            obtain ⟨⟨rfl, h2⟩, h3⟩ := hq
            exact ownNew_ok hT S ok hsc hA hc h2 h3 hf hs h
          · cases hf
        · cases e
      · exact assignName_ok S ok hsc hA hc e h⟩
  | [.Tuple ts a p], .Tuple vs b q => ⟨(swapN sc ts vs).bind fun names => (evEs (rec sc σ) vs).bind fun ds => if names.length = ds.length ∧ ds.length ≤ sizeLine ∧ names.all (storable sc) ∧ (names.reverse.zip ds.reverse).all (fun p => storeOk ow p.1 p.2) then some (.next ow ((names.reverse.zip ds.reverse).foldl (fun σ p => setV p.1 p.2 σ) σ)) else none, fun out e C k hT S ST env ok hsc pos A F s hA h => by
    rw [Option.bind_eq_some_iff] at e
    obtain ⟨names, e1, e⟩ := e
    rw [Option.bind_eq_some_iff] at e
    obtain ⟨ds, e2, e⟩ := e
    split at e
    · rename_i hc
      cases e
      exact tuple_ok S ok hsc hA e1 e2 hc.1 hc.2.1 hc.2.2.1 hc.2.2.2 h
    · cases e⟩
  | [.Subscript (.Name x px) i p], v => ⟨if ow == some x && !isCompE v && x != ("__debug__" : Str) && x != ("__classdict__" : Str) then (rec sc σ v).bind fun d => (rec sc σ i).bind fun j => (match σ.lookup x, j with
          | some (.list ds), .int j => if 0 ≤ j ∧ j < ds.length ∧ smallI j ∧ scalarD d then some (.next ow (setV x (.list (ds.set j.toNat d)) σ)) else none
          | _, _ => none) else none, fun out e C k hT S ST env ok hsc pos A F s hA h => by
    split at e
    · rename_i hc
      simp only [Bool.and_eq_true, beq_iff_eq, Bool.not_eq_true', bne_iff_ne, ne_eq] at hc
      obtain ⟨⟨⟨rfl, h2⟩, h3⟩, h4⟩ := hc
      rw [Option.bind_eq_some_iff] at e
      obtain ⟨d, e1, e⟩ := e
      rw [Option.bind_eq_some_iff] at e
      obtain ⟨j, e2, e⟩ := e
      split at e
      · rename_i ds j hl
        split at e
        · rename_i hj
          cases e
          refine wpAny_Assign_Subscript (gv_of (S _ _ _ _ e1 env ok hsc A s hA h.bs h.vs) fun vv s₁ k₁ r₁ => ?_) (noSwap h2 _ _)
          have st₁ := h.kp k₁
          obtain ⟨a, ds', vs, n, m, hn, hk, hm, hl', il, r, hs, hoth, hF⟩ := st₁.owned
          rw [hl] at hl'
          cases hl'
          have hd : (x == ("__debug__" : Str)) = false := by simpa using h3
          refine own_name ok hk hn hm hd ?_
          refine gv_of (S _ _ _ _ e2 env ok hsc A s₁ hA st₁.bs st₁.vs) fun iv s₂ k₂ r₂ => ?_
          unfold Rep at r₂
          obtain ⟨t, rfl⟩ := r₂
          have st₂ := st₁.kp k₂
          refine wpAny_mono (ownStore_ok st₂ (hn.keeps k₂.heap) hk hm (k₂.heap _ _ il) (r.ext k₂.heap) hs hoth (fun b o e => ⟨k₂.heap _ _ (hF b o e).1, (hF b o e).2⟩) hj.1 hj.2.1 hj.2.2.1 hj.2.2.2 (r₁.ext k₂.heap)) (fun _ s₃ q => ?_) fun _ _ x => x
          exact postNext q.1 (k₁.ke.trans (k₂.ke.trans q.2))
        · cases e
      · cases e
    · cases e⟩
  | [.Name x p, .Name y p'], v => ⟨if isCompE v then none else (rec sc σ v).bind fun d => (sto sc ow σ x d).bind fun o => (match o with
        | .next ow' σ' => if scalarD d then sto sc ow' σ' y d else none
        | .ret _ => none), fun out e C k hT S ST env ok hsc pos A F s hA h => by
    split at e
    · cases e
    · rename_i hc
      have hc : isCompE v = false := by simpa using hc
      rw [Option.bind_eq_some_iff] at e
      obtain ⟨d, e1, e⟩ := e
      rw [Option.bind_eq_some_iff] at e
      obtain ⟨o, e2, e⟩ := e
      split at e
      · rename_i ow' σ'
        split at e
        · rename_i hsd
          refine wpAny_Assign_two (gv_of (S _ _ _ _ e1 env ok hsc A s hA h.bs h.vs) fun vv s₁ k₁ r₁ => ?_) rfl rfl
          refine wpAny_assign_Name (wpAny_mono (sto_ok ok hsc e2 (h.kp k₁) r₁) (fun _ s₂ q => ?_) fun _ _ x => x)
          obtain ⟨⟨_, st₂, ke₂⟩, _, _⟩ := q
          refine wpAny_assign_Name (wpAny_mono (sto_ok ok hsc e st₂ (r₁.scalar _ hsd)) (fun _ s₃ q => ?_) fun _ _ x => x)
          exact q.1.ke (k₁.ke.trans ke₂)
        · cases e
      · cases e⟩
  | _, _ => ⟨none, fun _ e => nomatch e⟩
noncomputable def assignX (T : Tabs) (rec : RE) (recT : RT) (sc : Names) (ow : Option Str) (σ : Vars) (ts : List Expr) (v : Expr) : Option Out := (assignP T rec recT sc ow σ ts v).1
section
variable {C : Cx} {k : Nat} {A : Around} {F : Addr → Option Obj} {s : Shared} {env : Env} {σ : Vars} {ow : Option Str} {E : Value → Shared → Prop}

theorem assignX_ok {T : Tabs} {rec : RE} {recT : RT} (hT : TabsOk C k T) (S : SoundE C k rec) (ST : SoundT C k recT) (ok : EnvOk env) {sc : Names} (hsc : env.scope.names = sc) (hA : Rm k A) {ts : List Expr} {v : Expr} {pos : Pos} {out : Out} (e : assignX T rec recT sc ow σ ts v = some out) (h : St C F env ow σ s) :
    wpAny C.M A (exec (.Assign ts v pos) env) (PostX C F env s out) NE s := (assignP T rec recT sc ow σ ts v).2 out e C k hT S ST env ok hsc pos A F s hA h

theorem augX_ok {rec : RE} (S : SoundE C k rec) (ok : EnvOk env) {sc : Names} (hsc : env.scope.names = sc) (hA : Rm k A) {x : Str} {op : Operator} {v : Expr} {p pos : Pos} {out : Out} (e : augX rec sc ow σ x op v = some out) (h : St C F env ow σ s) :
    wpAny C.M A (exec (.AugAssign (.Name x p) op v pos) env) (PostX C F env s out) NE s := by
  unfold augX at e
  split at e
  · cases e
  · rename_i hcd
    rw [Option.bind_eq_some_iff] at e
    obtain ⟨d, e1, e⟩ := e
    rw [Option.bind_eq_some_iff] at e
    obtain ⟨d', e2, e⟩ := e
    refine wpAny_AugAssign_Name (wpAny_mono (load_var ok h.vs e1 (by simpa using hcd)) (fun old s₀ q => ?_) fun _ _ x => x)
    obtain ⟨rfl, r⟩ := q
    refine gv_of (S _ _ _ _ e2 env ok hsc A s₀ hA h.bs h.vs) fun vv s₁ k₁ r₁ => ?_
    have r := r.ext k₁.heap
    have st₁ := h.kp k₁
    split at e
    · unfold Rep at r r₁
      obtain ⟨t, rfl⟩ := r
      obtain ⟨u, rfl⟩ := r₁
      refine P.iadd_int ?_
      have k₂ : Kp s₁ { s₁ with toks := s₁.toks + 1 } := .toks _ _
      exact wpAny_mono (sto_ok ok hsc e (st₁.kp k₂) rep_int) (fun _ s' q => q.1.ke (k₁.ke.trans k₂.ke)) fun _ _ x => x
    · unfold Rep at r r₁
      obtain ⟨t, rfl⟩ := r
      obtain ⟨u, rfl⟩ := r₁
      refine P.isub_int ?_
      have k₂ : Kp s₁ { s₁ with toks := s₁.toks + 1 } := .toks _ _
      exact wpAny_mono (sto_ok ok hsc e (st₁.kp k₂) rep_int) (fun _ s' q => q.1.ke (k₁.ke.trans k₂.ke)) fun _ _ x => x
    · cases e

theorem appendX_ok {rec : RE} (S : SoundE C k rec) (ok : EnvOk env) {sc : Names} (hsc : env.scope.names = sc) (hA : Rm k A) {x mth : Str} {v : Expr} {p apos pos pos' : Pos} {out : Out} (e : appendX rec sc ow σ x mth apos pos v = some out) (h : St C F env ow σ s) :
    wpAny C.M A (exec (.Expr (.Call (.Attribute (.Name x p) mth apos) [v] [] pos) pos') env) (PostX C F env s out) NE s := by
  unfold appendX at e
  split at e
  · rename_i hc
    simp only [Bool.and_eq_true, beq_iff_eq, Bool.not_eq_true', bne_iff_ne, ne_eq] at hc
    obtain ⟨⟨⟨⟨⟨rfl, rfl⟩, hl⟩, h3⟩, h4⟩, h5⟩ := hc
    rw [Option.bind_eq_some_iff] at e
    obtain ⟨d, e1, e⟩ := e
    split at e
    · rename_i ds hlk
      split at e
      · rename_i hz
        cases e
        have hi : interactive env = false := by unfold interactive; rw [ok.kind]; rfl
        refine wpAny_Expr ?_ hi rfl
        have ev : evEs (rec sc σ) [v] = some [d] := by simp [evEs, h5, e1]
        refine wpAny_Call_method_lateS rfl ?_ (by simpa using hl) ?_
        · rw [starLen env ev]; rfl
        · obtain ⟨a, ds', vs, n, m, hn, hk, hm, hl', il, r, hs, hoth, hF⟩ := h.owned
          have hd : (x == ("__debug__" : Str)) = false := by simpa using h3
          refine own_name ok hk hn hm hd ?_
          refine ⟨"list", "list.append", PySem.F.plainAttrs_list, slot_list_append, type_list_append, ⟨_, il, rfl⟩, fun a' e => ?_, ?_⟩
          · cases e; exact ⟨_, il, rfl⟩
          · refine callWith_machine (fun a e => nomatch e) (noStar env ev) (wpAny_mono (args_ok S ok hsc hA ev h.bs h.vs) (fun as s₁ q => ?_) fun _ _ x => x.elim)
            obtain ⟨k₁, us, rfl, r₁⟩ := q
            unfold RepAll at r₁
            obtain ⟨w, q, rfl, rw', r₁⟩ := r₁
            unfold RepAll at r₁
            subst r₁
            rw [hlk] at hl'
            cases hl'
            have st₁ := h.kp k₁
            refine wpAny_mono (ownAppend_ok st₁ (hn.keeps k₁.heap) hk hm (k₁.heap _ _ il) (r.ext k₁.heap) hs hoth (fun b o e => ⟨k₁.heap _ _ (hF b o e).1, (hF b o e).2⟩) hz.1 hz.2 rw') (fun z s₂ q => ?_) fun _ _ x => x
            obtain ⟨rfl, q1, q2⟩ := q
            exact postNext q1 (k₁.ke.trans q2)
      · cases e
    · cases e
  · cases e
end
end Mine

namespace Mine
open PySem PySem.Spec PyProof.Rows

/-- more that is frozen -/
noncomputable def frz (F : Addr → Option Obj) (h : Heap) (l : List Addr) : Addr → Option Obj := fun a => if a ∈ l then h.get? a else F a

section
variable {C : Cx} {k : Nat} {A : Around} {F : Addr → Option Obj} {s : Shared} {env : Env} {σ : Vars} {ow : Option Str} {E : Value → Shared → Prop}

theorem frz_in {h : Heap} {l : List Addr} {a : Addr} (m : a ∈ l) : frz F h l a = h.get? a := if_pos m
theorem frz_out {h : Heap} {l : List Addr} {a : Addr} (m : a ∉ l) : frz F h l a = F a := if_neg m

theorem St.unfrz {l : List Addr} {h₀ : Heap} {s' : Shared} (hF : ∀ a o, F a = some o → h₀.get? a = some o) (hb : ∀ a o, C.B₀.get? a = some o → F a = some o) (h : St C (frz F h₀ l) env ow σ s') : St C F env ow σ s' := by
  obtain ⟨oa, ho, q⟩ := h.rest
  refine ⟨hb, h.vs, oa, ho, fun a o e => q a o ?_⟩
  by_cases m : a ∈ l
  · rw [frz_in m]; exact hF a o e
  · rw [frz_out m]; exact e

theorem St.frz {l : List Addr} (h : St C F env ow σ s) {oa : Option Addr} (ho : OwnAt env σ s.heap ow oa) (hq : ∀ a o, F a = some o → oa ≠ some a) (hfp : ∀ b ∈ l, b ≠ env.locals ∧ (∀ x, env.cells.lookup x ≠ some b) ∧ oa ≠ some b) :
    St C (frz F s.heap l) env ow σ s := by
  obtain ⟨_, _, q⟩ := h.rest
  refine ⟨fun a o e => ?_, h.vs, oa, ho, fun a o e => ?_⟩
  · by_cases m : a ∈ l
    · rw [frz_in m]; exact h.bs a o e
    · rw [frz_out m]; exact h.base a o e
  · by_cases m : a ∈ l
    · rw [frz_in m] at e
      exact ⟨e, hfp a m⟩
    · rw [frz_out m] at e
      exact ⟨(q a o e).1, (q a o e).2.1, (q a o e).2.2.1, hq a o e⟩

theorem St.kbut {l wr : List Addr} {gi : List Nat} {s₁ : Shared} (h : St C (Mine.frz F s.heap l) env ow σ s) (hl : ∀ b ∈ l, (s.heap.get? b).isSome = true) (kb : KBut wr gi s s₁) (hw : ∀ b ∈ wr, b ∈ l) (hFw : ∀ a o, F a = some o → a ∉ wr) (hb : ∀ a o, C.B₀.get? a = some o → F a = some o) : St C (Mine.frz F s₁.heap l) env ow σ s₁ := by
  obtain ⟨oa, ho, q⟩ := h.rest
  have apart : ∀ b ∈ l, b ≠ env.locals ∧ (∀ x, env.cells.lookup x ≠ some b) ∧ oa ≠ some b := fun b m => by
    obtain ⟨o, e⟩ := Option.isSome_iff_exists.mp (hl b m)
    exact (q b o (by rw [frz_in m]; exact e)).2
  have hL : env.locals ∉ wr := fun m => (apart _ (hw _ m)).1 rfl
  have hc : ∀ x c, env.cells.lookup x = some c → c ∉ wr := fun x c e m => (apart _ (hw _ m)).2.1 x e
  have cel : ∀ x c w, env.cells.lookup x = some c → s.heap.IsCell c w → s₁.heap.IsCell c w := fun x c w e i => by
    obtain ⟨o, ho, hd⟩ := i
    exact ⟨o, kb.heap c o (hc x c e) ho, hd⟩
  refine ⟨fun a o e => ?_, ?_, oa, ?_, fun a o e => ?_⟩
  · have ha := h.frozen a o (h.base a o e)
    have := kb.heap a o (hFw a o (hb a o e)) ha
    by_cases m : a ∈ l
    · rw [frz_in m]; exact this
    · rw [frz_out m]; exact hb a o e
  · obtain ⟨m, hn, f, al⟩ := h.vs
    exact ⟨m, hn.at' fun o e => kb.heap _ o hL e, fun x d e => let ⟨v, a, r⟩ := f x d e; ⟨v, a.imp id fun ⟨q, c, e, i⟩ => ⟨q, c, e, cel x c _ e i⟩, r.seqs kb.seqs⟩, fun x c e => let ⟨v, i⟩ := al x c e; ⟨v, cel x c v e i⟩⟩
  · cases ow with
    | none => exact ho
    | some x =>
      obtain ⟨a, ds, m, e, hk, hn, r⟩ := ho
      exact ⟨a, ds, m, e, hk, hn.at' fun o e => kb.heap _ o hL e, r⟩
  · by_cases m : a ∈ l
    · rw [frz_in m] at e
      exact ⟨e, apart a m⟩
    · rw [frz_out m] at e
      obtain ⟨q1, q2⟩ := q a o (by rw [frz_out m]; exact e)
      exact ⟨kb.heap a o (hFw a o e) q1, q2⟩

theorem inOrderS_ok (ok : EnvOk env) {es : List Expr} : ∀ {xs : List Str} {ds : List D} {vs : List Value} {σ : Vars} {s : Shared}, namesT es = some xs → xs.length = ds.length → xs.all (storable env.scope.names) = true → (xs.zip ds).all (fun p => storeOk ow p.1 p.2) = true → St C F env ow σ s → RepAll s.heap ds vs →
    wpAny C.M A (assignInOrder ((assignEach es env).map (·.2)) vs) (fun _ s' => St C F env ow ((xs.zip ds).foldl (fun σ p => setV p.1 p.2 σ) σ) s' ∧ Ke s s') E s := by
  induction es with
  | nil =>
    intro xs ds vs σ s e hl _ _ hv r
    cases e
    exact wpAny_pure ⟨hv, .refl s⟩
  | cons e es ih =>
    intro xs ds vs σ s h hl hst hso hv r
    obtain ⟨x, p, ys, rfl, h2, rfl⟩ := namesT_cons h
    cases ds with
    | nil => simp at hl
    | cons d ds =>
      unfold RepAll at r
      obtain ⟨v, us, rfl, r1, r2⟩ := r
      simp only [List.all_cons, Bool.and_eq_true] at hst
      simp only [List.zip_cons_cons, List.all_cons, Bool.and_eq_true] at hso
      have he : assignEach (.Name x p :: es) env = (false, assign (.Name x p) env) :: assignEach es env := rfl
      rw [he]
      show wpAny C.M A (do holding us (assign (.Name x p) env v); assignInOrder ((assignEach es env).map (·.2)) us) _ _ s
      refine wpAny_bind (wpAny_holding (wpAny_assign_Name (wpAny_mono (stStore_ok ok hst.1 hso.1 hv r1) (fun _ s₁ q => ?_) fun _ _ x => x)))
      exact wpAny_mono (ih h2 (by simpa using hl) hst.2 hso.2 q.1 (r2.seqs (q.2.2.seqs hv.vs))) (fun _ s₂ q₂ => ⟨q₂.1, q.2.1.trans q₂.2⟩) fun _ _ x => x

theorem storeOk_flat {x : Str} {d : D} (h : (ow != some x) = true) (hs : scalarD d = true) : storeOk ow x d = true := by
  unfold storeOk
  cases ow with
  | none => rfl
  | some y => simp only [bne_iff_ne, ne_eq, Option.some.injEq] at h; simp [hs]; exact fun e => h e.symm

theorem assignS_ok (ok : EnvOk env) (hA : A.handled = none) {t : Expr} {d : D} {v : Value} {σ' : Vars} (e : assignD env.scope.names t d σ = some σ') (hf : flatD d = true) (hn : nameOk t d = true) (ht : (tgtNames t).all (fun x => ow != some x) = true) (hv : St C F env ow σ s) (r : Rep s.heap d v) :
    wpAny C.M A (assign t env v) (fun _ s' => St C F env ow σ' s' ∧ Ke s s') E s := by
  unfold assignD at e
  split at e
  · split at e
    · rename_i x p hs
      cases e
      have hsc : scalarD d = true := by
        cases d <;> first | rfl | (cases hn; done) | (cases hf; done)
      simp only [tgtNames, List.all_cons, List.all_nil, Bool.and_true] at ht
      exact wpAny_assign_Name (wpAny_mono (stStore_ok ok hs (storeOk_flat ht hsc) hv r) (fun _ s' q => ⟨q.1, q.2.1⟩) fun _ _ x => x)
    · cases e
  · rename_i es _ _
    rw [Option.bind_eq_some_iff] at e
    obtain ⟨xs, e1, e⟩ := e
    split at e
    · rename_i ds
      split at e
      · rename_i hc
        cases e
        unfold Rep at r
        obtain ⟨a, vs, n, rfl, it, r⟩ := r
        have hl := r.length
        simp only [Array.length_toList] at hl
        obtain ⟨h1, h2, h3⟩ := assignEach_names env e1
        show wpAny C.M A (do standAt _; unpack (.ref a) (assignEach es env)) _ _ s
        refine wpAny_bind (wpAny_standAt (wpAny_unpack_tuple hA ⟨_, it, rfl, n, rfl⟩ (by rw [h1, ← h2, hc.1, hl]) h3 fun h' he => ?_))
        have hx : Ext s.heap h' := fun b o e => he b o (Nat.ne_of_lt (Heap.lt_size e)) e
        have kx : Kp s { s with heap := h' } := .of_heap hx
        have hso : (xs.zip ds).all (fun p => storeOk ow p.1 p.2) = true := by
          rw [List.all_eq_true]
          rintro ⟨x, d⟩ hp
          have hp := List.of_mem_zip hp
          simp only [tgtNames, e1, Option.getD_some, List.all_eq_true] at ht
          simp only [flatD, List.all_eq_true] at hf
          exact storeOk_flat (ht x hp.1) (hf d hp.2)
        exact wpAny_mono (inOrderS_ok ok e1 hc.1 hc.2 hso (s := { s with heap := h' }) (hv.kp kx) (r.ext hx)) (fun _ s' q => ⟨q.1, kx.ke.trans q.2⟩) fun _ _ x => x
      · cases e
    · cases e
  · cases e

/-- the loop over an iterator: what stands at each turn -/
structure FInv (C : Cx) (k : Nat) (F : Addr → Option Obj) (s₀ : Shared) (env : Env) (it : Value) (fp wr : List Addr) (gi : List Nat) (ow : Option Str) (σ : Vars) (ds : List D) (s : Shared) : Prop where
  st : St C (frz F s.heap (fp ++ wr)) env ow σ s
  isIt : IsIt C k it fp wr gi ds s
  ke : Ke s₀ s
  live : Live fp wr s
  frF : ∀ a o, F a = some o → s.heap.get? a = some o

structure FSta (F : Addr → Option Obj) (C : Cx) (s₀ : Shared) (wr : List Addr) (gi : List Nat) : Prop where
  hb : ∀ a o, C.B₀.get? a = some o → F a = some o
  hF : ∀ a o, F a = some o → a ∉ wr
  gi0 : ∀ (i : Nat), i ∈ gi → s₀.gens[i]? = none

theorem Live.all {fp wr : List Addr} (l : Live fp wr s) : ∀ b ∈ fp ++ wr, (s.heap.get? b).isSome = true := fun b m => (List.mem_append.mp m).elim (l.1 b) (l.2 b)

theorem FSta.grow {s₀ : Shared} {it : Value} {fp wr wr' : List Addr} {gi : List Nat} {ds : List D} (S : FSta F C s₀ wr gi) (I : FInv C k F s₀ env it fp wr gi ow σ ds s) (g : Grow s wr wr') : FSta F C s₀ wr' gi :=
  ⟨S.hb, fun a o e m => (g a m).elim (S.hF a o e) (fun q => by rw [I.frF a o e] at q; exact nomatch q), S.gi0⟩

theorem grown {s₀ s₁ : Shared} {it : Value} {fp wr fp' wr' : List Addr} {gi : List Nat} {ds : List D} (I : FInv C k F s₀ env it fp wr gi ow σ ds s) (g : Grow s fp fp') (g' : Grow s wr wr') (h : St C (frz F s₁.heap (fp ++ wr)) env ow σ s₁) (kb : KBut wr gi s s₁) (S : FSta F C s₀ wr gi) : St C (frz F s₁.heap (fp' ++ wr')) env ow σ s₁ := by
  obtain ⟨oa, ho, q⟩ := I.st.rest
  have inl : ∀ a o, F a = some o → frz F s.heap (fp ++ wr) a = some o := fun a o e => by
    by_cases m : a ∈ fp ++ wr
    · rw [frz_in m]; exact I.frF a o e
    · rw [frz_out m]; exact e
  have hL : env.locals ∉ wr := fun m => by
    obtain ⟨o, e⟩ := Option.isSome_iff_exists.mp (I.live.2 _ m)
    exact (q _ o (by rw [frz_in (List.mem_append.mpr (.inr m))]; exact e)).2.1 rfl
  have ho₁ : OwnAt env σ s₁.heap ow oa := by
    cases ow with
    | none => exact ho
    | some x =>
      obtain ⟨a, ds, m, e, hk, hn, r⟩ := ho
      exact ⟨a, ds, m, e, hk, hn.at' fun o e => kb.heap _ o hL e, r⟩
  refine (h.unfrz (fun a o e => kb.heap a o (S.hF a o e) (I.frF a o e)) S.hb).frz ho₁ (fun a o e => (q a o (inl a o e)).2.2.2) fun b m => ?_
  have old : b ∈ fp ++ wr → b ≠ env.locals ∧ (∀ x, env.cells.lookup x ≠ some b) ∧ oa ≠ some b := fun m => by
    obtain ⟨o, e⟩ := Option.isSome_iff_exists.mp (I.live.all b m)
    exact (q b o (by rw [frz_in m]; exact e)).2
  have new : s.heap.get? b = none → b ≠ env.locals ∧ (∀ x, env.cells.lookup x ≠ some b) ∧ oa ≠ some b := fun hb => by
    obtain ⟨m₀, hn₀, _, al₀⟩ := I.st.vs
    refine ⟨?_, fun x e => ?_, fun e => ?_⟩
    · rintro rfl
      obtain ⟨o, es, ep, ho, _⟩ := hn₀
      rw [hb] at ho; cases ho
    · obtain ⟨v, o, ho, _⟩ := al₀ x b e
      rw [hb] at ho; cases ho
    · subst e
      cases ow with
      | none => cases ho
      | some x =>
        obtain ⟨a, ds, vs, n, m, hn, hk, hm, hl, il, _⟩ := I.st.owned
        obtain ⟨a', ds', m', e, hk', hn', hm', _⟩ := ho
        cases e
        rw [ns_fun hn' hn, hm] at hm'
        cases hm'
        unfold IsL at il
        rw [hb] at il; cases il
  rcases List.mem_append.mp m with m | m
  · exact (g b m).elim (fun q => old (List.mem_append.mpr (.inl q))) new
  · exact (g' b m).elim (fun q => old (List.mem_append.mpr (.inr q))) new

/-- between two turns -/
inductive FLoop (C : Cx) (k : Nat) (F : Addr → Option Obj) (run : Option Str → Vars → Option Out) (sc : Names) (s₀ : Shared) (env : Env) (t : Expr) (it : Value) (gi : List Nat) (out : Out) (n : Nat) (s' : Shared) : Prop
  | mk (fp wr : List Addr) (ow : Option Str) (σ : Vars) (ds : List D) (S : FSta F C s₀ wr gi) (hn : n = ds.length) (e : runF run sc t ds ow σ = some out) (I : FInv C k F s₀ env it fp wr gi ow σ ds s')

theorem forLoop_ok {run : Option Str → Vars → Option Out} {body : List Stmt} (ok : EnvOk env) (hA : Rm k A) {sc : Names} (hsc : env.scope.names = sc)
    (hrun : ∀ ow σ out, run ow σ = some out → ∀ F s, St C F env ow σ s → wpAny C.M A (execs body env) (PostX C F env s out) NE s) {s₀ : Shared} {t : Expr} {it : Value} {fp wr : List Addr} {gi : List Nat} {ds : List D} {out : Out} {R : Result → Shared → Prop}
    (S : FSta F C s₀ wr gi) (e : runF run sc t ds ow σ = some out) (I : FInv C k F s₀ env it fp wr gi ow σ ds s) (hR : ∀ f s', PostX C F env s₀ out f s' → R (.ok f) s') :
    codeAny C.M A (.forLoop t it body [] env) R s := by
  refine codeAny_forLoop_any (FLoop C k F run sc s₀ env t it gi out) (fun n s' hI => ?_) ds.length ⟨fp, wr, ow, σ, ds, S, rfl, e, I⟩
  clear I S e
  obtain ⟨fp, wr, ow, σ, ds, S, rfl, e, I⟩ := hI
  have hw : ∀ b ∈ wr, b ∈ fp ++ wr := fun b m => List.mem_append.mpr (.inr m)
  have hbI : Ext C.B₀ s'.heap := fun b o e => I.frF b o (S.hb b o e)
  have ke₁ : ∀ {s₁ : Shared}, KBut wr gi s' s₁ → Ke s₀ s₁ := fun kb => ⟨fun i g e => kb.gens i g (fun q => by rw [S.gi0 i q] at e; cases e) (I.ke.gens i g e), fun e => kb.bare (I.ke.bare e), kb.os.trans I.ke.os⟩
  cases ds with
  | nil =>
    cases e
    refine wpAny_mono (I.isIt s' (.refl _) hbI A hA) (fun r s₁ q => ?_) fun _ _ x => x.elim
    obtain ⟨rfl, kb⟩ := q
    have st₁ := I.st.kbut I.live.all kb hw S.hF S.hb
    refine wpAny_execs_nil (hR _ _ (postNext (st₁.unfrz (fun a o e => kb.heap a o (S.hF a o e) (I.frF a o e)) S.hb) (ke₁ kb)))
  | cons d ds =>
    simp only [runF] at e
    split at e
    · rename_i hc
      simp only [Bool.and_eq_true] at hc
      obtain ⟨⟨hf, hn⟩, ht⟩ := hc
      rw [Option.bind_eq_some_iff] at e
      obtain ⟨σ', e1, e⟩ := e
      rw [Option.bind_eq_some_iff] at e
      obtain ⟨o, e2, e⟩ := e
      refine wpAny_mono (I.isIt s' (.refl _) hbI A hA) (fun r s₁ q => ?_) fun _ _ x => x.elim
      obtain ⟨v, rfl, rv, kb, fp', wr', g1, g2, ⟨hno, lv⟩, hit⟩ := q
      have st₀ := I.st.kbut I.live.all kb hw S.hF S.hb
      have S' := S.grow I g2
      have st₁ := grown I g1 g2 st₀ kb S
      have frF₁ : ∀ a o, F a = some o → s₁.heap.get? a = some o := fun a o e => kb.heap a o (S.hF a o e) (I.frF a o e)
      refine wpAny_mono (letOwned_ok hno) (fun _ s₁' q => ?_) fun _ _ x => x
      subst q
      refine wpAny_mono (assignS_ok ok hA.hd (by rw [hsc]; exact e1) hf hn ht st₁ rv) (fun _ s₂ q => ?_) fun _ _ x => x
      obtain ⟨st₂, ke₂⟩ := q
      refine wpAny_mono (hrun _ _ _ e2 _ _ st₂) (fun f s₃ q => ?_) fun _ _ x => x.elim
      have inl : ∀ a o, F a = some o → frz F s₁'.heap (fp' ++ wr') a = some o := fun a o e => by
        by_cases m : a ∈ fp' ++ wr'
        · rw [frz_in m]; exact frF₁ a o e
        · rw [frz_out m]; exact e
      cases o with
      | ret d =>
        cases e
        obtain ⟨v, rfl, r, fr, ke₃⟩ := q
        exact hR _ _ ⟨v, rfl, r, fun a o e => fr a o (inl a o e), (ke₁ kb).trans (ke₂.trans ke₃)⟩
      | next ow' σ'' =>
        obtain ⟨rfl, st₃, ke₃⟩ := q
        have fr : ∀ b ∈ fp' ++ wr', ∀ o, s₁'.heap.get? b = some o → s₃.heap.get? b = some o := fun b m o e => st₃.frozen b o (by rw [frz_in m]; exact e)
        have liv : ∀ b ∈ fp' ++ wr', (s₃.heap.get? b).isSome = true := fun b m => by
          obtain ⟨o, e⟩ := Option.isSome_iff_exists.mp (lv.all b m)
          rw [fr b m o e]; rfl
        refine ⟨ds.length, by simp, fp', wr', ow', σ'', ds, S', rfl, e, ?_, ?_, (ke₁ kb).trans (ke₂.trans ke₃), ⟨fun b m => liv b (List.mem_append.mpr (.inl m)), fun b m => liv b (List.mem_append.mpr (.inr m))⟩, fun a o e => st₃.frozen a o (inl a o e)⟩
        · have eq : frz F s₁'.heap (fp' ++ wr') = frz F s₃.heap (fp' ++ wr') := by
            funext a
            by_cases m : a ∈ fp' ++ wr'
            · rw [frz_in m, frz_in m]
              obtain ⟨o, e⟩ := Option.isSome_iff_exists.mp (lv.all a m)
              rw [e, fr a m o e]
            · rw [frz_out m, frz_out m]
          rw [← eq]
          exact st₃
        · exact hit.agree ⟨fun b m o e => fr b (List.mem_append.mpr (.inl m)) o e, fun i _ g e => ke₃.gens i g (ke₂.gens i g e)⟩
    · cases e


theorem forX_ok {T : Tabs} {rec : RE} {run : Option Str → Vars → Option Out} {body : List Stmt} (hT : TabsOk C k T) (SE : SoundE C k rec) (ok : EnvOk env) (hA : Rm k A) {sc : Names} (hsc : env.scope.names = sc)
    (hrun : ∀ ow σ out, run ow σ = some out → ∀ F s, St C F env ow σ s → wpAny C.M A (execs body env) (PostX C F env s out) NE s) {t iter : Expr} {pos : Pos} {lst : Bool} {ds : List D} {out : Out}
    (hns : notSet iter = true) (hi : evI T rec sc σ iter = some (lst, ds)) (hl : (lst && ow.isSome) = false) (e : runF run sc t ds ow σ = some out) (h : St C F env ow σ s) :
    wpAny C.M A (exec (.For t iter body [] pos) env) (PostX C F env s out) NE s := by
  refine wpAny_For (wpAny_mono (evI_ok hT SE ok hsc hA hi h.bs h.vs) (fun x s₁ q => ?_) fun _ _ x => x) (folded_id hns)
  obtain ⟨k₁, q⟩ := q
  refine wpAny_mono (q A hA) (fun it s₂ q => ?_) fun _ _ x => x
  obtain ⟨fp, wr, gi, N⟩ := q
  have st₂ := h.kp N.kp
  have live : Live fp wr s₂ := ⟨fun b m => (N.fpOk b m).elim (fun q => q.2) fun ⟨_, vs, n, il⟩ => by rw [N.kp.heap b _ il]; rfl, fun b m => (N.wrOk b m).2⟩
  obtain ⟨oa, ho, q⟩ := h.rest
  obtain ⟨m₀, hn₀, _, al₀⟩ := h.vs
  have fresh : ∀ b, s.heap.get? b = none → b ≠ env.locals ∧ (∀ x, env.cells.lookup x ≠ some b) ∧ oa ≠ some b := fun b hb => by
    refine ⟨?_, fun x e => ?_, fun e => ?_⟩
    · rintro rfl
      obtain ⟨o, es, ep, ho, _⟩ := hn₀
      rw [hb] at ho; cases ho
    · obtain ⟨v, o, ho, _⟩ := al₀ x b e
      rw [hb] at ho; cases ho
    · subst e
      cases ow with
      | none => cases ho
      | some x =>
        obtain ⟨a, ds, vs, n, m, hn, hk, hm, hl, il, _⟩ := h.owned
        obtain ⟨a', ds', m', e, hk', hn', hm', _⟩ := ho
        cases e
        rw [ns_fun hn' hn, hm] at hm'
        cases hm'
        unfold IsL at il
        rw [hb] at il; cases il
  have apart : ∀ b ∈ fp ++ wr, b ≠ env.locals ∧ (∀ x, env.cells.lookup x ≠ some b) ∧ oa ≠ some b := fun b m => by
    rcases List.mem_append.mp m with m | m
    · rcases N.fpOk b m with q | ⟨hl', vs, n, il⟩
      · exact fresh b q.1
      · refine ⟨ns_ne hn₀ (o := { cls := .type "list", data := .seq vs n }) rfl il, fun x e => ?_, ?_⟩
        · obtain ⟨v, i⟩ := al₀ x b e
          exact cell_ne i (o := { cls := .type "list", data := .seq vs n }) rfl il rfl
        · rw [hl', Bool.true_and] at hl
          cases ow with
          | none => cases ho; exact fun e => nomatch e
          | some x => cases hl
    · exact fresh b (N.wrOk b m).1
  refine forLoop_ok (F := F) (s₀ := s) (wr := wr) (gi := gi) (fp := fp) (ow := ow) (σ := σ) ok hA hsc hrun ⟨h.base, fun a o e m => ?_, fun i m => (N.giOk i m).1⟩ e ⟨St.frz st₂ (ho.ext N.kp.heap) (fun a o e => (q a o e).2.2.2) apart, N.isIt, N.kp.ke, live, st₂.frozen⟩ fun f s' p => p
  have := h.frozen a o e
  rw [(N.wrOk a m).1] at this; cases this

theorem whileX_ok {recT : RT} {run : Option Str → Vars → Option Out} {body : List Stmt} (ST : SoundT C k recT) (ok : EnvOk env) (hA : Rm k A) {sc : Names} (hsc : env.scope.names = sc)
    (hrun : ∀ ow σ out, run ow σ = some out → ∀ F s, St C F env ow σ s → wpAny C.M A (execs body env) (PostX C F env s out) NE s) {t : Expr} {pos : Pos} {n : Nat} {out : Out}
    (e : runW (fun σ => recT sc σ t) run n ow σ = some out) (h : St C F env ow σ s) : wpAny C.M A (exec (.While t body [] pos) env) (PostX C F env s out) NE s := by
  refine wpAny_While (codeAny_whileLoop (fun n s' => ∃ ow σ, runW (fun σ => recT sc σ t) run n ow σ = some out ∧ St C F env ow σ s' ∧ Ke s s') (fun n s' hI => ?_) n ⟨ow, σ, e, h, .refl s⟩)
  obtain ⟨ow, σ, e, h, ke⟩ := hI
  cases n with
  | zero => cases e
  | succ n =>
    obtain ⟨b, e1, e⟩ := Option.bind_eq_some_iff.mp e
    refine wpAny_mono (ST _ _ _ _ e1 env ok hsc A s' hA h.bs h.vs) (fun b' s₁ q => ?_) fun _ _ x => x.elim
    obtain ⟨rfl, k₁⟩ := q
    have st₁ := h.kp k₁
    cases b' with
    | false =>
      simp only [Bool.false_eq_true, if_false] at e ⊢
      cases e
      exact wpAny_execs_nil (postNext st₁ (ke.trans k₁.ke))
    | true =>
      simp only [if_true] at e ⊢
      rw [Option.bind_eq_some_iff] at e
      obtain ⟨o, e2, e⟩ := e
      refine wpAny_mono (hrun _ _ _ e2 F s₁ st₁) (fun f s₂ q => ?_) fun _ _ x => x.elim
      cases o with
      | ret d =>
        cases e
        obtain ⟨v, rfl, r, fr, ke₃⟩ := q
        exact ⟨v, rfl, r, fr, ke.trans (k₁.ke.trans ke₃)⟩
      | next ow' σ' =>
        obtain ⟨rfl, st₂, ke₂⟩ := q
        exact ⟨n, by omega, ow', σ', e, st₂, ke.trans (k₁.ke.trans ke₂)⟩

end
/-- what a statement's run is to tell -/
def StmS (T : Tabs) (rec : RE) (recT : RT) (recX : RS) (sc : Names) (ow : Option Str) (σ : Vars) (st : Stmt) (out : Out) : Prop := ∀ (C : Cx) (k : Nat), TabsOk C k T → SoundE C k rec → SoundT C k recT → SoundX C k recX → ∀ env : Env, EnvOk env → env.scope.names = sc → ∀ A F s, Rm k A → St C F env ow σ s → wpAny C.M A (exec st env) (PostX C F env s out) NE s

noncomputable def stepXP (T : Tabs) (rec : RE) (recT : RT) (n : Nat) (recX : RS) (sc : Names) (ow : Option Str) (σ : Vars) (st : Stmt) : {o : Option Out // ∀ out, o = some out → StmS T rec recT recX sc ow σ st out} := match st with
  | .Return e _ => ⟨(match e with
    | some e => (rec sc σ e).map .ret
    | none => none), fun out e C k hT S ST SX env ok hsc A F s hA h => by
    split at e
    · rw [Option.map_eq_some_iff] at e
      obtain ⟨d, e1, rfl⟩ := e
      exact wpAny_Return_some (gv_of (S _ _ _ _ e1 env ok hsc A s hA h.bs h.vs) fun v s₁ k₁ r₁ => ⟨v, rfl, r₁, fun a o e => k₁.heap a o (h.frozen a o e), k₁.ke⟩)
    · cases e⟩
  | .If t b o _ => ⟨(recT sc σ t).bind fun c => runL recX sc ow σ (if c then b else o), fun out e C k hT S ST SX env ok hsc A F s hA h => by
    rw [Option.bind_eq_some_iff] at e
    obtain ⟨c, e1, e⟩ := e
    refine wpAny_If (wpAny_mono (ST _ _ _ _ e1 env ok hsc A s hA h.bs h.vs) (fun c' s₁ q => ?_) fun _ _ x => x)
    obtain ⟨rfl, k₁⟩ := q
    have := runL_ok SX ok hsc hA e (h.kp k₁)
    cases c' <;> exact wpAny_mono this (fun _ _ q => q.ke k₁.ke) fun _ _ x => x⟩
  | .Assign ts v _ => ⟨assignX T rec recT sc ow σ ts v, fun out e C k hT S ST SX env ok hsc A F s hA h => by
    exact assignX_ok hT S ST ok hsc hA e h⟩
  | .AugAssign t op e _ => ⟨(match t with
    | .Name x _ => augX rec sc ow σ x op e
    | _ => none), fun out e C k hT S ST SX env ok hsc A F s hA h => by
    split at e
    · exact augX_ok S ok hsc hA e h
    · cases e⟩
  | .Expr e _ => ⟨(match e with
    | .Call f args kws pos => (match f, args, kws with
      | .Attribute (.Name x _) m apos, [a], [] => appendX rec sc ow σ x m apos pos a
      | _, _, _ => none)
    | _ => none), fun out e C k hT S ST SX env ok hsc A F s hA h => by
    split at e
    · split at e
      · exact appendX_ok S ok hsc hA e h
      · cases e
    · cases e⟩
  | .While t b o _ => ⟨if o.isEmpty then runW (fun σ => recT sc σ t) (fun ow σ => runL recX sc ow σ b) n ow σ else none, fun out e C k hT S ST SX env ok hsc A F s hA h => by
    split at e
    · rename_i ho
      rw [List.isEmpty_iff] at ho
      subst ho
      exact whileX_ok ST ok hA hsc (fun ow σ out e F s h => runL_ok SX ok hsc hA e h) e h
    · cases e⟩
  | .For t it b o _ => ⟨if o.isEmpty && notSet it then (evI T rec sc σ it).bind fun p => if p.1 && ow.isSome then none else runF (fun ow σ => runL recX sc ow σ b) sc t p.2 ow σ else none, fun out e C k hT S ST SX env ok hsc A F s hA h => by
    split at e
    · rename_i ho
      simp only [Bool.and_eq_true, List.isEmpty_iff] at ho
      obtain ⟨rfl, hns⟩ := ho
      rw [Option.bind_eq_some_iff] at e
      obtain ⟨⟨lst, ds⟩, e1, e⟩ := e
      split at e
      · cases e
      · rename_i hl
        exact forX_ok hT S ok hA hsc (fun ow σ out e F s h => runL_ok SX ok hsc hA e h) hns e1 (by simpa using hl) e h
    · cases e⟩
  | _ => ⟨none, fun _ e => nomatch e⟩
noncomputable def stepX (T : Tabs) (rec : RE) (recT : RT) (n : Nat) (recX : RS) (sc : Names) (ow : Option Str) (σ : Vars) (st : Stmt) : Option Out := (stepXP T rec recT n recX sc ow σ st).1
theorem stepX_ok {C : Cx} {k : Nat} {T : Tabs} {rec : RE} {recT : RT} {n : Nat} {recX : RS} (hT : TabsOk C k T) (S : SoundE C k rec) (ST : SoundT C k recT) (SX : SoundX C k recX) : SoundX C k (stepX T rec recT n recX) :=
  fun sc ow σ st out e env ok hsc A F s hA h => (stepXP T rec recT n recX sc ow σ st).2 out e C k hT S ST SX env ok hsc A F s hA h

/-- the evaluator of statements, by fuel -/
noncomputable def evX (T : Tabs) (e : RE × RT) (w : Nat) : Nat → RS
  | 0 => fun _ _ _ _ => none
  | n + 1 => stepX T e.1 e.2 w (evX T e w n)

section
variable {C : Cx} {k : Nat} {A : Around} {F : Addr → Option Obj} {s : Shared} {env : Env} {σ : Vars} {ow : Option Str} {E : Value → Shared → Prop}

theorem evX_ok {T : Tabs} {e : RE × RT} {w : Nat} (hT : TabsOk C k T) (S : SoundE C k e.1) (ST : SoundT C k e.2) : ∀ n, SoundX C k (evX T e w n)
  | 0 => fun _ _ _ _ _ e => nomatch e
  | n + 1 => stepX_ok hT S ST (evX_ok hT S ST n)
end
end Mine

namespace Mine
open PySem PySem.Spec PyProof.Rows

/-- a function of the text, as the top left it -/
structure FnRec (C : Cx) (a : Addr) (params : List Str) (names : Names) (body : List Stmt) : Prop where
  rec' : ∃ o fd, C.B₀.get? a = some o ∧ o.data = .func fd ∧ fd.body = .stmts body ∧ fd.scope.names = names ∧ fd.closure = [] ∧ fd.scope.isCoroutine = false ∧ fd.scope.isGenerator = false ∧ fd.scope.kind = .function ∧
    fd.globals = mainGlobals ∧ fd.builtins = builtinsNs ∧ C.B₀.CodeRec fd.code fd.qualname ∧ ∀ vs : List Value, vs.length = params.length → bindArgs fd ⟨vs, []⟩ = pure (params.zip vs)
  nodup : params.Nodup
  sto : params.all (storable names) = true

theorem bindL_out {f : Str → Option NameKind} {x : Str} : ∀ {b : List (Str × Value)} {m : Str → Option Value}, x ∉ b.map (·.1) → bindL f b m x = m x
  | [], _, _ => rfl
  | (n, v) :: r, m, h => by
    simp only [List.map_cons, List.mem_cons, not_or] at h
    unfold bindL
    rw [bindL_out h.2]
    split
    · simp [h.1]
    · rfl
theorem bindC_out {f : Str → Option NameKind} {x : Str} : ∀ {b : List (Str × Value)} {m : Str → Option Value}, x ∉ b.map (·.1) → bindC f b m x = m x
  | [], _, _ => rfl
  | (n, v) :: r, m, h => by
    simp only [List.map_cons, List.mem_cons, not_or] at h
    unfold bindC
    rw [bindC_out h.2]
    split
    · rfl
    · simp [h.1]
theorem bindL_in {f : Str → Option NameKind} {x : Str} {v : Value} (hk : f x = some .local) : ∀ {b : List (Str × Value)} {m : Str → Option Value}, (b.map (·.1)).Nodup → b.lookup x = some v → bindL f b m x = some v
  | [], _, _, h => by simp at h
  | (n, u) :: r, m, hd, h => by
    simp only [List.map_cons, List.nodup_cons] at hd
    rw [List.lookup_cons] at h
    unfold bindL
    split at h
    · rename_i e
      have e : x = n := by simpa using e
      subst e
      cases h
      rw [bindL_out hd.1, if_pos hk]
      simp
    · exact bindL_in hk hd.2 h
theorem bindC_in {f : Str → Option NameKind} {x : Str} {v : Value} (hk : f x ≠ some .local) : ∀ {b : List (Str × Value)} {m : Str → Option Value}, (b.map (·.1)).Nodup → b.lookup x = some v → bindC f b m x = some v
  | [], _, _, h => by simp at h
  | (n, u) :: r, m, hd, h => by
    simp only [List.map_cons, List.nodup_cons] at hd
    rw [List.lookup_cons] at h
    unfold bindC
    split at h
    · rename_i e
      have e : x = n := by simpa using e
      subst e
      cases h
      rw [bindC_out hd.1, if_neg hk]
      simp
    · exact bindC_in hk hd.2 h

theorem zip_lookup {h : Heap} {x : Str} {d : D} : ∀ {ps : List Str} {ds : List D} {vs : List Value}, RepAll h ds vs → (ps.zip ds).lookup x = some d → x ∈ ps ∧ ∃ v, (ps.zip vs).lookup x = some v ∧ Rep h d v
  | [], ds, vs, _, e => by simp at e
  | p :: ps, [], vs, _, e => by simp at e
  | p :: ps, d' :: ds, vs, r, e => by
    unfold RepAll at r
    obtain ⟨v, us, rfl, r1, r2⟩ := r
    rw [List.zip_cons_cons, List.lookup_cons] at e
    rw [List.zip_cons_cons, List.lookup_cons]
    split at e
    · rename_i q
      cases e
      exact ⟨by simp at q; simp [q], v, rfl, r1⟩
    · rename_i q
      obtain ⟨a, b⟩ := zip_lookup r2 e
      exact ⟨List.mem_cons_of_mem _ a, b⟩

theorem Rm.down {k j : Nat} {A : Around} (h : j ≤ k) (r : Rm k A) : Rm j A := ⟨r.hd, by have := r.dp; omega, by have := r.un; omega⟩
theorem Rm.deeper {k : Nat} {A : Around} (env : Env) (r : Rm (k + 1) A) : Rm k (A.deeper env) := ⟨r.hd, by have := r.dp; show A.depth + 1 + k < _; omega, by have := r.un; show A.units + 3 + 20 * k + 50 < _; omega⟩
theorem Callable.up {C : Cx} {k j : Nat} {a : Addr} {args : List D} {d : D} (h : j ≤ k) (c : Callable C j a args d) : Callable C k a args d := fun A s vs hA => c A s vs (hA.down h)

theorem pair_eq {cs : List (Str × Addr)} (h : cs.Pairwise fun x y => x.2 ≠ y.2) {x y : Str} {c : Addr} (hx : (x, c) ∈ cs) (hy : (y, c) ∈ cs) : x = y := by
  induction h with
  | nil => cases hx
  | cons hh _ ih =>
    rcases List.mem_cons.mp hx with ex | hx' <;> rcases List.mem_cons.mp hy with ey | hy'
    · rw [← ex] at ey; cases ey; rfl
    · exact absurd rfl (ex ▸ hh _ hy')
    · exact absurd rfl (ey ▸ hh _ hx')
    · exact ih hx' hy'

theorem callable_of {C : Cx} {k : Nat} {T : Tabs} {a : Addr} {params : List Str} {names : Names} {body : List Stmt} {args : List D} {d : D} {recX : RS} (SX : SoundX C k recX) (R : FnRec C a params names body) (hl : args.length = params.length)
    (e : runL recX names none (params.zip args) body = some (.ret d)) : Callable C (k + 1) a args d := by
  intro A s vs hA hb r
  obtain ⟨o, fd, ho, hfd, hbody, hnames, hclo, hco, hgen, hk, hglo, hblt, hcr, hbind⟩ := R.rec'
  have hlv := r.length
  have hroom : A.depth < recursionLimit := by have := hA.dp; omega
  have ends : ∀ x ∈ params.zip vs, fd.scope.names.lookup x.1 = some .local ∨ (fd.scope.names.lookup x.1 = some .cell ∧ ((cellsFrom (s.heap.objs.size + 1) fd.scope.names []).lookup x.1).isSome = true) := by
    rintro ⟨x, v⟩ hx
    have hx := (List.of_mem_zip hx).1
    have := List.all_eq_true.mp R.sto x hx
    unfold storable at this
    simp only [Bool.or_eq_true, beq_iff_eq] at this
    rw [hnames]
    rcases this with q | q
    · exact .inl q
    · exact .inr ⟨q, cellsFrom_has _ _ _ (.inl (lookup_mem q))⟩
  refine wpAny_call (codeAny_call_cells hroom (hb a o ho) hfd (C.nolimit.keeps hb) ?_ hbody (hbind vs (by omega)) hclo ends (fun s₁ X => ?_) hco hgen hk)
  · exact hcr.keeps hb
  · have kp₁ : Kp s s₁ := by
      obtain ⟨h', tk, rfl, q⟩ := X.done
      exact ⟨q, fun _ _ e => e, fun e => e, rfl⟩
    have cl : (callEnvC fd s.heap.objs.size a).cells = cellsFrom (s.heap.objs.size + 1) fd.scope.names [] := rfl
    have ok : EnvOk (callEnvC fd s.heap.objs.size a) := by
      refine ⟨hk, hglo, hblt, fun x y c h1 h2 => pair_eq X.apart (lookup_mem h1) (lookup_mem h2), fun x hx => ?_⟩
      rw [cl]
      exact cellsFrom_has _ _ _ (.inl (lookup_mem hx))
    have nd : ((params.zip vs).map (·.1)).Nodup := by
      rw [List.map_fst_zip (by omega)]
      exact R.nodup
    have hvs : Vs (callEnvC fd s.heap.objs.size a) (params.zip args) s₁.heap := by
      refine ⟨_, X.toInCall.ns, fun x d hx => ?_, fun x c hc => ⟨_, X.cell x c hc⟩⟩
      obtain ⟨hp, v, hv, rv⟩ := zip_lookup r hx
      refine ⟨v, ?_, rv.ext kp₁.heap⟩
      have hs := List.all_eq_true.mp R.sto x hp
      unfold storable at hs
      simp only [Bool.or_eq_true, beq_iff_eq] at hs
      rcases hs with q | q
      · have q : (callEnvC fd s.heap.objs.size a).kindOf x = some .local := by show fd.scope.names.lookup x = _; rw [hnames]; exact q
        exact .inl ⟨q, bindL_in q nd hv⟩
      · have q : (callEnvC fd s.heap.objs.size a).kindOf x = some .cell := by show fd.scope.names.lookup x = _; rw [hnames]; exact q
        obtain ⟨c, hc⟩ := Option.isSome_iff_exists.mp (ok.ct x q)
        refine .inr ⟨.inl q, c, hc, ?_⟩
        have := X.cell x c hc
        rw [bindC_in (by rw [q]; decide) nd hv] at this
        exact this
    have st : St C (fun b => s.heap.get? b) (callEnvC fd s.heap.objs.size a) none (params.zip args) s₁ := by
      refine ⟨hb, hvs, none, rfl, fun b o e => ⟨kp₁.heap b o e, ?_, fun x hx => ?_, fun z => nomatch z⟩⟩
      · exact Nat.ne_of_lt (Heap.lt_size e)
      · have := X.above x b (lookup_mem hx)
        have h2 := Heap.lt_size e
        have h3 : (callEnvC fd s.heap.objs.size a).locals = s.heap.objs.size := rfl
        rw [h3] at this
        exact Nat.lt_asymm h2 this
    refine wpAny_mono (runL_ok SX ok (show fd.scope.names = names from hnames) (hA.deeper _) e st) (fun f s' q => ?_) fun _ _ x => x.elim
    obtain ⟨v, rfl, rv, fr, ke⟩ := q
    exact ⟨⟨fr, fun i g e => ke.gens i g (kp₁.gens i g e), fun e => ke.bare (kp₁.bare e), ke.os.trans kp₁.os⟩, rv⟩
end Mine

namespace Mine
open PySem PySem.Spec PyProof.Rows

/-- the widest surroundings with room for k calls -/
noncomputable def A0 (k : Nat) : Around := { handled := none, depth := recursionLimit - k - 1, frames := none, guards := none, units := cLine - 20 * k - 51 }

theorem wp_A0 {M : Model} {A : Around} {k : Nat} (hA : Rm k A) {α : Type} {t : Sem α} {Q : α → Shared → Prop} {E : Value → Shared → Prop} {s : Shared} (h : wpAny M (A0 k) t Q E s) : wpAny M A t Q E s := fun Γ p hΓ =>
  h Γ p ⟨hΓ.1.trans hA.hd, Nat.le_trans hΓ.2.1 (by have := hA.dp; show A.depth ≤ recursionLimit - k - 1; omega), (fun l hl => by cases hl), (fun l hl => by cases hl), Nat.le_trans hΓ.2.2.2.2 (by have := hA.un; show A.units ≤ cLine - 20 * k - 51; omega)⟩

section
variable {M : Model} {A : Around} {R : GenEnd} {Y : Protocol} {n : Nat} {s₀ : Shared} {c : Code} {fs : List Frame} {s : Shared} {env : Env}
  {K : Flow → Sem Fin} {H : Value → Sem Fin} {gd : Bool → Bool} {lv : List Value → List Value}

theorem seg_If {t : Expr} {b o : List Stmt} {pos : Pos} (h : wpAny M (A.over c fs) (isTrue t env (eval t env)) (fun r s' => Seg M A R Y n s₀ c ((execs (if r then b else o) env).wrap K H gd lv) fs s') NE s) :
    Seg M A R Y n s₀ c ((exec (.If t b o pos) env).wrap K H gd lv) fs s := by
  rw [exec_If, Sem.bind_eq_wrap', Sem.wrap_wrap]
  refine seg_wrap (wpAny_standAt ?_)
  rw [Sem.bind_eq_wrap', Sem.wrap_wrap]
  refine seg_wrap (wpAny_mono h (fun r s' q => ?_) fun _ _ x => x.elim)
  cases r <;> exact q

theorem seg_For {t iter : Expr} {b : List Stmt} {pos : Pos} (hf : ∀ x, foldedSetIterable iter env x = pure x)
    (h : wpAny M (A.over c fs) (eval iter env) (fun x s₁ => wpAny M (A.over c fs) (pyIter x) (fun it s₂ => ∀ p, Seg M A R Y n s₀ (.forLoop t it b [] env) (M.den (.forLoop t it b [] env))
      (.ret (fun r => ((match r with | .ok f => (.pure f : Sem Flow) | .error e => .raise e).onRaise fun (x : Value) => do
        if (← field x 1) == Value.none then unsupported "frame.own-activation:exception-without-traceback"
        setFlight x env.frame).wrap K H gd lv) none (gd false) (lv []) c p [] :: fs) s₂) NE s₁) NE s) :
    Seg M A R Y n s₀ c ((exec (.For t iter b [] pos) env).wrap K H gd lv) fs s := by
  rw [exec_For, Sem.bind_eq_wrap', Sem.wrap_wrap]
  refine seg_wrap (wpAny_standAt ?_)
  rw [Sem.bind_eq_wrap', Sem.wrap_wrap]
  refine seg_wrap (wpAny_mono h (fun x s₁ q => ?_) fun _ _ x => x.elim)
  rw [hf, Sem.bind_eq_wrap', Sem.wrap_wrap]
  refine seg_wrap (wpAny_pure ?_)
  rw [Sem.bind_eq_wrap', Sem.wrap_wrap]
  refine seg_wrap (wpAny_standAt ?_)
  rw [Sem.bind_eq_wrap', Sem.wrap_wrap]
  refine seg_wrap (wpAny_holding (wpAny_mono q (fun it s₂ q => ?_) fun _ _ x => x.elim))
  exact seg_call q
end

section
variable {prog : Program} {w : World} {A : Around} {R : GenEnd} {Y : Protocol} {n : Nat} {s₀ : Shared} {fs : List Frame} {s : Shared} {env : Env}

/-- a turn of a loop within a generator -/
theorem seg_forLoop {t : Expr} {it : Value} {b : List Stmt}
    (h : wpAny (model prog w) (A.over (.forLoop t it b [] env) fs) (pyNext it) (fun r s₁ => match r with
      | none => Seg (model prog w) A R Y n s₀ (.block [] env) (.pure (.done .next)) fs s₁
      | some v => wpAny (model prog w) (A.over (.forLoop t it b [] env) fs) (letOwnedTupleGo t it v) (fun _ s₂ => wpAny (model prog w) (A.over (.forLoop t it b [] env) fs) (assign t env v) (fun _ s₃ => 
          ∀ H, Seg (model prog w) A R Y n s₀ (.forLoop t it b [] env) ((execs b env).wrap (fun f => match f with
            | .next | .cont => .pure (.again (.forLoop t it b [] env))
            | .brk => .pure (.done .next)
            | .ret v => .pure (.done (.ret v))) H id id) fs s₃) NE s₂) NE s₁) NE s) :
    Seg (model prog w) A R Y n s₀ (.forLoop t it b [] env) ((model prog w).den (.forLoop t it b [] env)) fs s := by
  show Seg _ A R Y n s₀ _ ((forTurn t it b [] env).onRaise (fun x => do noteFrame x env; theTreesLotGoes x)) fs s
  unfold forTurn
  rw [Sem.onRaise_eq_wrap, Sem.bind_eq_wrap', Sem.wrap_wrap]
  refine seg_wrap (wpAny_standAt ?_)
  rw [Sem.bind_eq_wrap', Sem.wrap_wrap]
  refine seg_wrap (wpAny_onRaise (wpAny_mono h (fun r s₁ q => ?_) fun _ _ x => x.elim))
  cases r with
  | none => exact seg_again rfl q
  | some v =>
    show Seg _ A R Y n s₀ _ (Sem.wrap _ _ _ _ (letOwnedTupleGo t it v >>= _)) fs s₁
    rw [Sem.bind_eq_wrap', Sem.wrap_wrap]
    refine seg_wrap (wpAny_mono q (fun _ s₂ q => ?_) fun _ _ x => x.elim)
    rw [Sem.bind_eq_wrap', Sem.wrap_wrap]
    refine seg_wrap (wpAny_mono q (fun _ s₃ q => ?_) fun _ _ x => x.elim)
    rw [Sem.bind_eq_wrap', Sem.wrap_wrap]
    have := q (fun e => (Sem.wrap (fun a => Sem.pure a) (fun e => ((do noteFrame e env; theTreesLotGoes e : Sem Unit).bind fun _ => .raise e)) id id (.raise e)))
    refine cast (congrArg (fun z => Seg _ A R Y n s₀ _ z fs s₃) ?_) this
    exact Sem.wrap_congr _ _ _ (fun f => by cases f <;> rfl) (fun e => rfl)
end
end Mine

namespace Mine
open PySem PySem.Spec PyProof.Rows

/-! the generator of units -/
noncomputable def escL : Nat → Bool → List Nat → List D
  | i, true, [] => [.tuple [.int ((i : Int) - 1), .str [92]]]
  | _, false, [] => []
  | i, true, c :: cs => .tuple [.int i, .str [92, c]] :: escL (i + 1) false cs
  | i, false, c :: cs => if c = 92 then escL (i + 1) true cs else .tuple [.int i, .str [c]] :: escL (i + 1) false cs

/-- is an escape left at the end? -/
noncomputable def escEnd : Bool → List Nat → Bool
  | b, [] => b
  | true, _ :: cs => escEnd false cs
  | false, c :: cs => escEnd (c == 92) cs

section
variable {prog : Program} {w : World} {A : Around} {E : Value → Shared → Prop} {s : Shared}

/-- a generator function's generator is asked -/
theorem next_gen {a : Addr} {g n : Nat} {gs : GenState} {P : Nat → Shared → Shared → Prop} {Y : Protocol} {Q : Option Value → Shared → Prop} (hh : A.handled = none) (hl : s.heap.NoLimit) (hroom : A.depth < recursionLimit)
    (hg : s.heap.IsGen a g) (hgs : s.gens[g]? = some gs) (hgo : gs.Goes (model prog w) A.in1 (fun n s₀ r s₁ => r = .ok (.ret .none) ∧ P n s₀ s₁) Y n (.send .none) (s.setGen g .running))
    (hY : ∀ v s₁ gs', gs'.bare = true → Y (n - 1) (s.setGen g .running) v s₁ (fun r' s'' => match n with
        | 0 => False
        | m + 1 => gs'.Goes (model prog w) A.in1 (fun n s₀ r s₁ => r = .ok (.ret .none) ∧ P n s₀ s₁) Y m r' s'') → Q (some v) (s₁.setGen g gs'))
    (hP : ∀ s₁, P n (s.setGen g .running) s₁ → ∀ h', (∀ b o, s₁.heap.get? b = some o → h'.get? b = some o) → Q none { s₁.setGen g .finished with heap := h' }) :
    wpAny (model prog w) A (pyNext (.ref a)) Q E s := by
  have woken : ∀ (k : GenResult → Sem Fin) (Q' : Fin → Shared → Prop) (E' : Value → Shared → Prop), (∀ v s₁, Q (some v) s₁ → wpAny (model prog w) A.in1 (k (.yielded v)) Q' E' s₁) →
      (∀ s₁, (∀ h', (∀ b o, s₁.heap.get? b = some o → h'.get? b = some o) → Q none { s₁ with heap := h' }) → wpAny (model prog w) A.in1 (k (End.ret (.ok (.ret .none))).result) Q' E' s₁) → wpAny (model prog w) A.in1 (.resume g (.send .none) [] k) Q' E' s :=
    fun k Q' E' h1 h2 => wpAny_resumeQ hgs hgo (fun x s₁ hx => hx.1 ▸ h2 _ fun h' hk => hP s₁ hx.2 h' hk) fun v s₁ gs' hb hv => h1 v _ (hY v s₁ gs' hb hv)
  unfold pyNext
  refine wpAny_bind (wpAny_attempt (wpAny_callSpecial?_slot (name := Str.ofString "__next__") hg.typeIs slot_gen_next (wpAny_call_entry slot_gen_next hg.typeIs entry_gen_next ?_ (args_gen_next _))))
  show wpAny _ _ (Builtin.Generator.genWake (.ref a) (.send .none)) _ _ s
  unfold Builtin.Generator.genWake
  refine wpAny_bind (wpAny_holding (wpAny_genNumber hg (wpAny_bind (wpAny_genState hgs ?_))))
  cases gs with
  | running => exact hgo.elim
  | finished => exact hgo.elim
  | _ =>
    refine wpAny_bind (wpAny_roomToWake hl hroom ?_)
    refine woken _ _ _ (fun v s₁ q => wpAny_pure ⟨v, rfl, wpAny_pure q⟩) fun s₁ q => ?_
    show wpAny _ _ (newExc (.type "StopIteration") [] >>= _) _ _ _
    simp only [newExc, newTuple]
    refine wpAny_bind (wpAny_bind (wpAny_newObj_type ?_ (by size_fits)))
    refine wpAny_bind (m := firstArgMember _ _) (wpAny_of_eq (a := Value.none) (by first | rfl | (simp only [firstArgMember]; rfl)) (wpAny_newObj_type ?_ (by size_fits)))
    refine wpAny_bind (wpAny_bind (wpAny_handled ?_))
    rw [show A.in1.handled = none from hh]
    refine wpAny_throw (wpAny_bind (wpAny_isInstance (T := "StopIteration") (b := true) ⟨_, Heap.get?_push_size _ rfl, rfl⟩ isSubtype_stop (wpAny_pure (q _ fun b o hb => ?_))))
    exact Heap.get?_push_of_some _ (Heap.get?_push_of_some _ hb)
end
end Mine

namespace Mine
open PySem PySem.Spec PyProof.Rows

section
variable {C : Cx} {k : Nat} {A : Around} {s s₀ : Shared} {env : Env} {σ : Vars}

/-- what stands within the generator's run -/
structure GE (C : Cx) (env : Env) (e it : Addr) (esc pos : Str) (s₀ : Shared) (σ : Vars) (i : Nat) (b : Bool) (s : Shared) : Prop where
  vs : Vs env σ s.heap
  bs : Ext C.B₀ s.heap
  kb : KBut [env.locals, e, it] [] s₀ s
  lkE : σ.lookup esc = some (.bool b)
  lkP : 0 < i → σ.lookup pos = some (.int ((i : Int) - 1))
  sc : ∀ x d, σ.lookup x = some d → scalarD d = true

structure GI (C : Cx) (env : Env) (e it : Addr) (ty : String) (x : Str) (t : Tok) (esc pos : Str) (s₀ : Shared) (σ : Vars) (i : Nat) (b : Bool) (s : Shared) : Prop where
  ge : GE C env e it esc pos s₀ σ i b s
  en : ∃ old, IsEnum s.heap e it i old
  si : s.heap.IsStrIter it ty x t i


/-- the objects of the run are none of the data's -/
noncomputable def Own3 (env : Env) (e it : Addr) (h : Heap) : Prop := ∀ b ∈ [env.locals, e, it], ∀ o, h.get? b = some o → seqish o = false


theorem kn3 {e it : Addr} {ns : List Str} {s' : Shared} (hcl : env.cells = []) (hv : Vs env σ s.heap) (kn : Kn env ns s s') : KBut [env.locals, e, it] [] s s' :=
  ⟨fun b o hb h => kn.heap b o (fun q => hb (by simp [q])) (fun x _ q => by rw [hcl] at q; cases q) h, fun i g _ h => by rw [kn.gens]; exact h, fun h => by rw [kn.gens]; exact h, kn.os, kn.seqs hv⟩

theorem kn_keep {ns : List Str} {s' : Shared} (hcl : env.cells = []) (kn : Kn env ns s s') {b : Addr} {o : Obj} (hb : b ≠ env.locals) (h : s.heap.get? b = some o) : s'.heap.get? b = some o :=
  kn.heap b o hb (fun x _ q => by rw [hcl] at q; cases q) h

theorem GE.kp {e it : Addr} {esc pos : Str} {i : Nat} {b : Bool} {s' : Shared} (G : GE C env e it esc pos s₀ σ i b s) (k : Kp s s') : GE C env e it esc pos s₀ σ i b s' :=
  ⟨G.vs.ext k.heap, fun a o h => k.heap a o (G.bs a o h), G.kb.trans (k.kbut _ _), G.lkE, G.lkP, G.sc⟩
theorem GI.kp {e it : Addr} {ty : String} {x : Str} {t : Tok} {esc pos : Str} {i : Nat} {b : Bool} {s' : Shared} (G : GI C env e it ty x t esc pos s₀ σ i b s) (k : Kp s s') : GI C env e it ty x t esc pos s₀ σ i b s' :=
  ⟨G.ge.kp k, let ⟨old, h⟩ := G.en; ⟨old, k.heap _ _ h⟩, let ⟨o, ho, r⟩ := G.si; ⟨o, k.heap _ _ ho, r⟩⟩

/-- the generator sleeps, and is woken in another state -/
theorem GI.woken {e it : Addr} {ty : String} {x : Str} {t : Tok} {esc pos : Str} {i : Nat} {b : Bool} {s' : Shared} (hcl : env.cells = []) (G : GI C env e it ty x t esc pos s₀ σ i b s) (a : Agree [env.locals, e, it] [] s s') (hb : Ext C.B₀ s'.heap) : GI C env e it ty x t esc pos s' σ i b s' := by
  obtain ⟨m, hn, hv, _⟩ := G.ge.vs
  refine ⟨⟨⟨m, hn.at' fun o h => a.heap _ (by simp) o h, fun y d hy => ?_, fun y c hc => by rw [hcl] at hc; cases hc⟩, hb, (Kp.refl s').kbut _ _, G.ge.lkE, G.ge.lkP, G.ge.sc⟩, let ⟨old, h⟩ := G.en; ⟨old, a.heap _ (by simp) _ h⟩, let ⟨o, ho, r⟩ := G.si; ⟨o, a.heap _ (by simp) _ ho, r⟩⟩
  obtain ⟨v, va, r⟩ := hv y d hy
  refine ⟨v, ?_, r.scalar _ (G.ge.sc y d hy)⟩
  rcases va with va | ⟨_, c, hc, _⟩
  · exact .inl va
  · rw [hcl] at hc; cases hc

theorem stoL_ok (ok : EnvOk env) {x : Str} {d : D} {v : Value} (hx : env.kindOf x = some .local) (hv : Vs env σ s.heap) (r : Rep s.heap d v) :
    wpAny C.M A (storeName env x v) (fun _ s' => Vs env (setV x d σ) s'.heap ∧ Kn env [x] s s' ∧ s'.heap.objs.size = s.heap.objs.size) NE s := by
  obtain ⟨m, hn, h2, al⟩ := hv
  exact wpAny_storeName_local hx hn (fun h' n' hs => ⟨Vs.setLocal hx hn h2 al n' hs r, ⟨fun b o hb _ e => hs.extBut b o hb e, rfl, rfl⟩, hs.1⟩) (by rw [ok.kind]; rfl)

theorem asgI_ok (ok : EnvOk env) {x : Str} {i : Int} {kd : Nat} {p p2 p3 : Pos} (hx : env.kindOf x = some .local) (hv : Vs env σ s.heap) :
    wpAny C.M A (exec (.Assign [.Name x p] (.Constant (.int i) kd p2) p3) env) (fun f s' => f = .next ∧ Vs env (setV x (.int i) σ) s'.heap ∧ Kn env [x] s s' ∧ s'.heap.objs.size = s.heap.objs.size) NE s := by
  refine wpAny_Assign_Name (wpAny_Constant_int ?_) (noSwap rfl _ _)
  refine wpAny_mono (stoL_ok (s := { s with toks := s.toks + 1 }) ok hx hv rep_int) (fun _ s' q => ⟨rfl, q.1, ⟨fun b o hb hc e => q.2.1.heap b o hb hc e, q.2.1.gens, q.2.1.os⟩, q.2.2⟩) fun _ _ x => x
theorem asgB_ok (ok : EnvOk env) {x : Str} {i : Bool} {kd : Nat} {p p2 p3 : Pos} (hx : env.kindOf x = some .local) (hv : Vs env σ s.heap) :
    wpAny C.M A (exec (.Assign [.Name x p] (.Constant (.bool i) kd p2) p3) env) (fun f s' => f = .next ∧ Vs env (setV x (.bool i) σ) s'.heap ∧ Kn env [x] s s' ∧ s'.heap.objs.size = s.heap.objs.size) NE s := by
  refine wpAny_Assign_Name ?_ (noSwap rfl _ _)
  show wpAny C.M A (pure (Value.bool i)) _ _ s
  refine wpAny_pure (wpAny_mono (stoL_ok ok hx hv (by unfold Rep; rfl)) (fun _ s' q => ⟨rfl, q⟩) fun _ _ x => x)

/-- enumerate of a text that a name holds -/
theorem enum_ok (ok : EnvOk env) {x : List Nat} {addr : Str} {f1 f2 f3 : Pos} (hb : Ext C.B₀ s.heap) (hen : C.mg "enumerate" = none ∧ C.mb "enumerate" = some (.type "enumerate")) (hk : env.kindOf "enumerate" = some .globalImplicit) (ha : env.kindOf addr = some .local) (had : (addr == ("__debug__" : Str)) = false) (hl : σ.lookup addr = some (.str x)) (hv : Vs env σ s.heap) :
    wpAny C.M A (eval (.Call (.Name "enumerate" f1) [.Name addr f2] [] f3) env) (fun v s' => v = .ref (s.heap.objs.size + 1) ∧ Kp s s' ∧ IsEnum s'.heap (s.heap.objs.size + 1) s.heap.objs.size 0 .none ∧ ∃ t, s'.heap.IsStrIter s.heap.objs.size (strIterType ⟨x.toArray⟩) ⟨x.toArray⟩ t 0) NE s := by
  show wpAny C.M A (do callWith f3 (← eval (.Name "enumerate" f1) env) [] (backTo f3 (starEach [.Name addr f2] env)) (backToKw f3 (keywordEach [] env))) _ _ s
  refine wpAny_bind (global_ok ok (by decide) hk hb (.inr hen) ?_)
  refine callWith_machine (fun a e => nomatch e) rfl ?_
  obtain ⟨m, hn, h2, al⟩ := hv
  obtain ⟨v, va, r⟩ := h2 addr _ hl
  have hm : m addr = some v := by
    rcases va with ⟨_, e⟩ | ⟨e | e, _⟩
    · exact e
    · rw [ha] at e; cases e
    · rw [ha] at e; cases e
  unfold Rep at r
  obtain ⟨t, rfl⟩ := r
  refine Calls.evalArgs_plain (wpAny_items_cons (wpAny_Name (wpAny_loadName_local ok.kind ha hn hm ?_) had))
  refine wpAny_items_nil ?_
  show wpAny C.M A (call (.type "enumerate") [.str ⟨x.toArray⟩ t]) _ _ s
  exact call_enumerate_str fun h' he hi hz hk => ⟨rfl, .of_heap hk, he, t, hi⟩
end
end Mine

namespace Mine
open PySem PySem.Spec PyProof.Rows

/-- what a turn of the generator's text computes -/
structure GB (rec : RE) (recT : RT) (sc : Names) (tE cnd e1 e2 e3 tE2 : Expr) (pos esc ch addr : Str) : Prop where
  hT : ∀ σ b, σ.lookup esc = some (.bool b) → recT sc σ tE = some b
  hT2 : ∀ σ b, σ.lookup esc = some (.bool b) → recT sc σ tE2 = some b
  hc : ∀ σ c, σ.lookup ch = some (.str [c]) → recT sc σ cnd = some (c == 92)
  h1 : ∀ σ (i : Int) c, σ.lookup pos = some (.int i) → σ.lookup ch = some (.str [c]) → rec sc σ e1 = some (.tuple [.int i, .str [92, c]])
  h2 : ∀ σ (i : Int) c, σ.lookup pos = some (.int i) → σ.lookup ch = some (.str [c]) → rec sc σ e2 = some (.tuple [.int i, .str [c]])
  h3 : ∀ σ (i : Int), σ.lookup pos = some (.int i) → rec sc σ e3 = some (.tuple [.int i, .str [92]])
  lp : sc.lookup pos = some .local
  le : sc.lookup esc = some .local
  lc : sc.lookup ch = some .local
  la : sc.lookup addr = some .local
  len : sc.lookup ("enumerate" : Str) = some .globalImplicit
  ne : esc ≠ pos ∧ esc ≠ ch ∧ pos ≠ ch ∧ addr ≠ pos ∧ addr ≠ esc ∧ addr ≠ ch
  nd : (addr == ("__debug__" : Str)) = false

noncomputable def gBody (tE cnd e1 e2 : Expr) (esc : Str) (y1 p1 q1 q2 q3 q4 q5 q6 y2 p2 p3 p4 : Pos) (k1 k2 : Nat) : List Stmt :=
  [.If tE [.Expr (.Yield (some e1) y1) p1, .Assign [.Name esc q1] (.Constant (.bool false) k1 q2) q3] [.If cnd [.Assign [.Name esc q4] (.Constant (.bool true) k2 q5) q6] [.Expr (.Yield (some e2) y2) p2] p3] p4]

noncomputable abbrev gP (L e it : Addr) : Nat → Shared → Shared → Prop := fun n s₀ s₁ => n = 0 ∧ KBut [L, e, it] [] s₀ s₁
noncomputable abbrev gR (L e it : Addr) : GenEnd := fun n s₀ r s₁ => r = .ok (.ret .none) ∧ gP L e it n s₀ s₁
noncomputable def gY (C : Cx) (L e it : Addr) (Lst : List D) : Protocol := fun n s₀ v s' kap =>
  (∃ d, Lst[Lst.length - 1 - n]? = some d ∧ Rep s'.heap d v) ∧ KBut [L, e, it] [] s₀ s' ∧ Live [L, e, it] [] s' ∧ ∀ s'', Agree [L, e, it] [] s' s'' → Ext C.B₀ s''.heap → kap (.send .none) s''

section
variable {C : Cx} {k : Nat} {A : Around} {s s₀ : Shared} {env : Env} {σ : Vars} {rec : RE} {recT : RT} {sc : Names} {tE cnd e1 e2 e3 tE2 : Expr} {pos esc ch addr : Str}

theorem GI.live {e it : Addr} {ty : String} {x : Str} {t : Tok} {i : Nat} {b : Bool} (G : GI C env e it ty x t esc pos s₀ σ i b s) : Live [env.locals, e, it] [] s := by
  refine ⟨fun a m => ?_, fun a m => by cases m⟩
  obtain ⟨_, ⟨o, _, _, ho, _⟩, _⟩ := G.ge.vs
  obtain ⟨old, he⟩ := G.en
  obtain ⟨o', ho', _⟩ := G.si
  simp only [List.mem_cons, List.not_mem_nil, or_false] at m
  rcases m with rfl | rfl | rfl
  · rw [ho]; rfl
  · rw [he]; rfl
  · rw [ho']; rfl

/-- a yield within the run -/
theorem yield_ok (S : SoundE C k rec) (ok : EnvOk env) (hsc : env.scope.names = sc) (hco : env.scope.isCoroutine = false) (hcl : env.cells = []) {e it : Addr} {ty : String} {x : Str} {t : Tok} {Lst : List D} {c : Code} {fs : List Frame} (hA : Rm k (A.over c fs)) (hfs : splitAtGen fs = none) (hfg : fs.any Frame.guarded = false)
    {K : Flow → Sem Fin} {H : Value → Sem Fin} {ex : Expr} {d : D} {y p : Pos} {i n : Nat} {b : Bool} (he : rec sc σ ex = some d) (hd : Lst[Lst.length - 1 - n]? = some d) (G : GI C env e it ty x t esc pos s₀ σ i b s)
    (h : ∀ s'', GI C env e it ty x t esc pos s'' σ i b s'' → Seg C.M A (gR env.locals e it) (gY C env.locals e it Lst) n s'' c (K .next) fs s'') :
    Seg C.M A (gR env.locals e it) (gY C env.locals e it Lst) (n + 1) s₀ c ((exec (.Expr (.Yield (some ex) y) p) env).wrap K H id id) fs s := by
  have hi : interactive env = false := by unfold interactive; rw [ok.kind]; rfl
  refine seg_Expr_Yield hfs rfl hfg (gv_of (wpAny_mono (S _ _ _ _ he env ok hsc _ s hA G.ge.bs G.ge.vs) (fun _ _ q => q) fun _ _ z => z.elim) fun v s₁ k₁ r₁ => ?_) hco hi
  intro kap hkap
  have G₁ := G.kp k₁
  exact ⟨⟨d, hd, r₁⟩, G₁.ge.kb, G₁.live, fun s'' ag hb => hkap .none s'' (h s'' (G₁.woken hcl ag hb))⟩
end
end Mine

namespace Mine
open PySem PySem.Spec PyProof.Rows

theorem draws_str {prog : Program} {w : World} {A : Around} (hh : A.handled = none) (it : Addr) (x : Str) (t : Tok) :
    Draws prog w A.in1 it [it] x.cps.size (fun i v => ∃ c u, x.cps[i]? = some c ∧ v = .str ⟨#[c]⟩ u) (fun i h => h.IsStrIter it (strIterType x) x t i) := by
  unfold strIterType
  split
  · exact .strAscii (A := A.in1) hh it x t
  · exact .strWide (A := A.in1) hh it x t

theorem drop_head {Lst : List D} {d : D} {ds : List D} {n : Nat} (hn : n + 1 ≤ Lst.length) (h : Lst.drop (Lst.length - (n + 1)) = d :: ds) : Lst[Lst.length - 1 - n]? = some d ∧ Lst.drop (Lst.length - n) = ds := by
  have e1 : Lst.length - (n + 1) = Lst.length - 1 - n := by omega
  rw [e1] at h
  constructor
  · have : (Lst.drop (Lst.length - 1 - n))[0]? = some d := by rw [h]; rfl
    simpa using this
  · have : (Lst.drop (Lst.length - 1 - n)).drop 1 = ds := by rw [h]; rfl
    rw [List.drop_drop] at this
    rw [show Lst.length - n = Lst.length - 1 - n + 1 by omega]
    exact this

section
variable {C : Cx} {k : Nat} {A : Around} {s s₀ : Shared} {env : Env} {σ : Vars} {rec : RE} {recT : RT} {sc : Names} {tE cnd e1 e2 e3 tE2 : Expr} {pos esc ch addr : Str}

theorem GI.set {e it : Addr} {ty : String} {x : Str} {t : Tok} {i : Nat} {b b' : Bool} {s' : Shared} (hcl : env.cells = []) (hnep : esc ≠ pos) (hL : e ≠ env.locals ∧ it ≠ env.locals) (G : GI C env e it ty x t esc pos s₀ σ i b s) (hB : ∀ a o, C.B₀.get? a = some o → a ≠ env.locals) (hv : Vs env (setV esc (.bool b') σ) s'.heap) (kn : Kn env [esc] s s') :
    GI C env e it ty x t esc pos s₀ (setV esc (.bool b') σ) i b' s' := by
  refine ⟨⟨hv, fun a o h => kn_keep hcl kn (hB a o h) (G.ge.bs a o h), G.ge.kb.trans (kn3 hcl G.ge.vs kn), by rw [setV_lookup, if_pos rfl], fun h => ?_, fun y d hy => ?_⟩, ?_, ?_⟩
  · rw [setV_lookup, if_neg (fun q => hnep q.symm)]; exact G.ge.lkP h
  · rw [setV_lookup] at hy
    split at hy
    · cases hy; rfl
    · exact G.ge.sc y d hy
  · obtain ⟨old, h⟩ := G.en
    exact ⟨old, kn_keep hcl kn hL.1 h⟩
  · obtain ⟨o, ho, r⟩ := G.si
    exact ⟨o, kn_keep hcl kn hL.2 ho, r⟩

theorem gen_loop (S : SoundE C k rec) (ST : SoundT C k recT) (ok : EnvOk env) (hsc : env.scope.names = sc) (hco : env.scope.isCoroutine = false) (hcl : env.cells = []) (hB : ∀ a o, C.B₀.get? a = some o → a ≠ env.locals)
    (B : GB rec recT sc tE cnd e1 e2 e3 tE2 pos esc ch addr) {e it : Addr} {x : List Nat} {t : Tok} {Lst : List D} (hne : e ≠ it) (hL : e ≠ env.locals ∧ it ≠ env.locals) (hBe : ∀ a o, C.B₀.get? a = some o → a ≠ e ∧ a ≠ it) {y1 p1 q1 q2 q3 q4 q5 q6 y2 p2 p3 p4 a1 a2 a4 : Pos} {k1 k2 a3 : Nat} {whole : List Stmt} {kf : Result → Sem Fin} {l : List Value} {p : Pos}
    (hA : Rm k (A.over (.forLoop (.Tuple [.Name pos a1, .Name ch a2] a3 a4) (.ref e) (gBody tE cnd e1 e2 esc y1 p1 q1 q2 q3 q4 q5 q6 y2 p2 p3 p4 k1 k2) [] env) [.ret kf none false l (.func whole env) p []]))
    (hend : ∀ s₀ s σ, GE C env e it esc pos s₀ σ x.length false s → Seg C.M A (gR env.locals e it) (gY C env.locals e it Lst) 0 s₀ (.func whole env) (kf (.ok .next)) [] s) :
    ∀ (cs : List Nat) (i : Nat) (b : Bool) (n : Nat) (s₀ s : Shared) (σ : Vars), x.drop i = cs → i ≤ x.length → escEnd b cs = false → n = (escL i b cs).length → n ≤ Lst.length → Lst.drop (Lst.length - n) = escL i b cs → GI C env e it (strIterType ⟨x.toArray⟩) ⟨x.toArray⟩ t esc pos s₀ σ i b s →
      Seg C.M A (gR env.locals e it) (gY C env.locals e it Lst) n s₀ (.forLoop (.Tuple [.Name pos a1, .Name ch a2] a3 a4) (.ref e) (gBody tE cnd e1 e2 esc y1 p1 q1 q2 q3 q4 q5 q6 y2 p2 p3 p4 k1 k2) [] env)
        (C.M.den (.forLoop (.Tuple [.Name pos a1, .Name ch a2] a3 a4) (.ref e) (gBody tE cnd e1 e2 esc y1 p1 q1 q2 q3 q4 q5 q6 y2 p2 p3 p4 k1 k2) [] env)) [.ret kf none false l (.func whole env) p []] s
  | [], i, b, n, s₀, s, σ, hx, hix, hee, hn, hnl, hd, G => by
    have hb0 : b = false := hee
    subst hb0
    have hn0 : n = 0 := hn
    subst hn0
    have hi : i = x.length := by have := List.drop_eq_nil_iff.mp hx; omega
    subst hi
    refine seg_forLoop ?_
    obtain ⟨old, he⟩ := G.en
    refine wpAny_pyNext_enum_endD (draws_str hA.hd it ⟨x.toArray⟩ t) he (by simpa using G.si) fun h' hk => ?_
    refine seg_leaf (.ok .next) (hend s₀ _ σ ⟨?_, fun a o h => hk a o (hBe a o h).2 (G.ge.bs a o h), G.ge.kb.trans ?_, G.ge.lkE, G.ge.lkP, G.ge.sc⟩)
    · obtain ⟨m, hn, hv, _⟩ := G.ge.vs
      refine ⟨m, hn.at' fun o h => hk _ o (fun q => hL.2 q.symm) h, fun y d hy => ?_, fun y c hc => by rw [hcl] at hc; cases hc⟩
      obtain ⟨v, va, r⟩ := hv y d hy
      refine ⟨v, ?_, r.scalar _ (G.ge.sc y d hy)⟩
      rcases va with va | ⟨_, c, hc, _⟩
      · exact .inl va
      · rw [hcl] at hc; cases hc
    · refine ⟨fun b o hb h => hk b o (fun q => hb (by simp [q])) h, fun _ _ _ h => h, fun h => h, rfl, fun b o hq h => hk b o (fun q => ?_) h⟩
      subst q
      obtain ⟨o', ho', hs⟩ := sh_strIter G.si (by unfold strIterType; split <;> decide)
      rw [ho'] at h
      cases h
      rw [hs] at hq; cases hq
  | c :: cs, i, b, n, s₀, s, σ, hx, hix, hee, hn, hnl, hd, G => by
    have hlt : i < x.length := by
      have := congrArg List.length hx
      simp at this
      omega
    have hxi : x[i]? = some c := by
      have : (x.drop i)[0]? = some c := by rw [hx]; rfl
      simpa using this
    have hcs : x.drop (i + 1) = cs := by
      have := congrArg List.tail hx
      simpa using this
    refine seg_forLoop ?_
    obtain ⟨old, he⟩ := G.en
    refine wpAny_pyNext_enum_itemD (draws_str hA.hd it ⟨x.toArray⟩ t) he G.si (by simpa using hlt) hne (by simp [hne]) fun xv h' tk hP ho hst htup hsz hk => ?_
    obtain ⟨c', u, hc', rfl⟩ := hP
    have : c' = c := by
      have h1 : x[i]? = some c' := by simpa using hc'
      rw [hxi] at h1; cases h1; rfl
    subst this
    refine wpAny_letOwnedTupleGo_enum ho fun h2 he2 hs2 => ?_
    have helt : e < s.heap.objs.size := Heap.lt_size he
    have keep : ∀ b o, b ≠ e → b ≠ it → s.heap.get? b = some o → h2.get? b = some o := fun b o hbe hbi h => hs2.extBut b o hbe (hk b o hbe hbi h)
    have kb2 : KBut [env.locals, e, it] [] s { s with heap := h2, toks := tk + 1 } := by
      refine ⟨fun b o hb h => keep b o (fun q => hb (by simp [q])) (fun q => hb (by simp [q])) h, fun _ _ _ h => h, fun h => h, rfl, fun b o hq h => keep b o (fun q => ?_) (fun q => ?_) h⟩
      · subst q; rw [he] at h; cases h; cases hq
      · subst q
        obtain ⟨o', ho', hs⟩ := sh_strIter G.si (by unfold strIterType; split <;> decide)
        rw [ho'] at h; cases h; rw [hs] at hq; cases hq
    have vs2 : Vs env σ h2 := by
      obtain ⟨m, hn, hv, _⟩ := G.ge.vs
      refine ⟨m, hn.at' fun o h => keep _ o (fun q => hL.1 q.symm) (fun q => hL.2 q.symm) h, fun y d hy => ?_, fun y c hc => by rw [hcl] at hc; cases hc⟩
      obtain ⟨v, va, r⟩ := hv y d hy
      refine ⟨v, ?_, r.scalar _ (G.ge.sc y d hy)⟩
      rcases va with va | ⟨_, c, hc, _⟩
      · exact .inl va
      · rw [hcl] at hc; cases hc
    have bs2 : Ext C.B₀ h2 := fun a o h => keep a o (hBe a o h).1 (hBe a o h).2 (G.ge.bs a o h)
    have si2 : h2.IsStrIter it (strIterType ⟨x.toArray⟩) ⟨x.toArray⟩ t (i + 1) := by
      obtain ⟨o, ho, r⟩ := hst
      exact ⟨o, hs2.extBut it o (fun q => hne q.symm) ho, r⟩
    have rep2 : Rep h2 (.tuple [.int i, .str [c']]) (.ref s.heap.objs.size) := by
      unfold Rep
      exact ⟨_, #[.int i tk, .str ⟨#[c']⟩ u], 0, rfl, hs2.extBut _ _ (Nat.ne_of_gt helt) htup, .cons rep_int (.single (rep_str (x := [c'])))⟩
    have has : assignD env.scope.names (.Tuple [.Name pos a1, .Name ch a2] a3 a4) (.tuple [.int i, .str [c']]) σ = some (setV ch (.str [c']) (setV pos (.int i) σ)) := by
      rw [hsc]
      exact if_pos (show 2 = 2 ∧ (storable sc pos && (storable sc ch && true)) = true from ⟨rfl, by simp [storable, B.lp, B.lc]⟩)
    have ct : CellsThere env := ok.ct
    refine wpAny_mono (assignD_ok (s := { s with heap := h2, toks := tk + 1 }) ok ct hA.hd has vs2 rep2) (fun _ s₃ q => ?_) fun _ _ z => z
    obtain ⟨vs₃, kn⟩ := q
    intro H
    obtain ⟨n1, n2, n3, n4, n5, n6⟩ := B.ne
    have lkc : (setV ch (.str [c']) (setV pos (.int i) σ)).lookup ch = some (.str [c']) := by rw [setV_lookup, if_pos rfl]
    have lkp : (setV ch (.str [c']) (setV pos (.int i) σ)).lookup pos = some (.int i) := by rw [setV_lookup, if_neg n3, setV_lookup, if_pos rfl]
    have G₃ : GI C env e it (strIterType ⟨x.toArray⟩) ⟨x.toArray⟩ t esc pos s₀ (setV ch (.str [c']) (setV pos (.int i) σ)) (i + 1) b s₃ := by
      refine ⟨⟨vs₃, fun a o h => kn_keep hcl kn (hB a o h) (bs2 a o h), (G.ge.kb.trans kb2).trans (kn3 hcl vs2 kn), ?_, fun _ => ?_, fun y d hy => ?_⟩, ⟨.str ⟨#[c']⟩ u, ?_⟩, ?_⟩
      · rw [setV_lookup, if_neg n2, setV_lookup, if_neg n1]; exact G.ge.lkE
      · rw [lkp]; congr 2; omega
      · rw [setV_lookup] at hy
        split at hy
        · cases hy; rfl
        · rw [setV_lookup] at hy
          split at hy
          · cases hy; rfl
          · exact G.ge.sc y d hy
      · exact kn_keep hcl kn hL.1 (by simpa using he2)
      · obtain ⟨o, ho, r⟩ := si2
        exact ⟨o, kn_keep hcl kn hL.2 ho, r⟩
    generalize hσ : setV ch (.str [c']) (setV pos (.int i) σ) = σ₃ at *
    have ih := gen_loop (t := t) S ST ok hsc hco hcl hB B hne hL hBe hA hend cs (i + 1)
    have hfs : splitAtGen [Frame.ret kf none false l (.func whole env) p []] = none := rfl
    have hfg : [Frame.ret kf none false l (.func whole env) p []].any Frame.guarded = false := rfl
    refine seg_execs_cons (seg_If (wpAny_mono (ST _ _ _ _ (B.hT σ₃ b G₃.ge.lkE) env ok hsc _ s₃ hA G₃.ge.bs G₃.ge.vs) (fun r s₄ q => ?_) fun _ _ z => z.elim))
    obtain ⟨rfl, k₄⟩ := q
    have G₄ := G₃.kp k₄
    have kE : env.kindOf esc = some .local := by unfold Env.kindOf; rw [hsc]; exact B.le
    cases r with
    | true =>
      replace hn : n = (escL (i + 1) false cs).length + 1 := hn
      replace hd : Lst.drop (Lst.length - n) = .tuple [.int i, .str [92, c']] :: escL (i + 1) false cs := hd
      subst hn
      obtain ⟨hi, hd'⟩ := drop_head hnl hd
      refine seg_execs_cons (yield_ok S ok hsc hco hcl hA hfs hfg (B.h1 σ₃ i c' lkp lkc) hi G₄ fun s'' G'' => ?_)
      refine seg_execs_cons (seg_wrap (wpAny_mono (asgB_ok ok kE G''.ge.vs) (fun f s₅ q => ?_) fun _ _ z => z.elim))
      obtain ⟨rfl, v5, kn5, _⟩ := q
      exact seg_execs_nil (seg_again rfl (ih false _ s'' s₅ _ hcs (by omega) hee rfl (by omega) hd' (G''.set hcl n1 hL hB v5 kn5)))
    | false =>
      replace hn : n = (if c' = 92 then escL (i + 1) true cs else .tuple [.int i, .str [c']] :: escL (i + 1) false cs).length := hn
      replace hd : Lst.drop (Lst.length - n) = if c' = 92 then escL (i + 1) true cs else .tuple [.int i, .str [c']] :: escL (i + 1) false cs := hd
      refine seg_execs_cons (seg_If (wpAny_mono (ST _ _ _ _ (B.hc σ₃ c' lkc) env ok hsc _ s₄ hA G₄.ge.bs G₄.ge.vs) (fun r s₅ q => ?_) fun _ _ z => z.elim))
      obtain ⟨rfl, k₅⟩ := q
      have G₅ := G₄.kp k₅
      by_cases h92 : c' = 92
      · rw [if_pos h92] at hn hd
        rw [show (c' == 92) = true by simpa using h92]
        refine seg_execs_cons (seg_wrap (wpAny_mono (asgB_ok ok kE G₅.ge.vs) (fun f s₆ q => ?_) fun _ _ z => z.elim))
        obtain ⟨rfl, v5, kn5, _⟩ := q
        exact seg_execs_nil (seg_execs_nil (seg_again rfl (ih true n s₀ s₆ _ hcs (by omega) ((congrArg (escEnd · cs) (show (c' == 92) = true by simpa using h92)).symm.trans hee) hn hnl hd (G₅.set hcl n1 hL hB v5 kn5))))
      · rw [if_neg h92] at hn hd
        rw [show (c' == 92) = false by simpa using h92]
        simp only [List.length_cons] at hn
        subst hn
        obtain ⟨hi, hd'⟩ := drop_head hnl hd
        refine seg_execs_cons (yield_ok S ok hsc hco hcl hA hfs hfg (B.h2 σ₃ i c' lkp lkc) hi G₅ fun s'' G'' => ?_)
        exact seg_execs_nil (seg_execs_nil (seg_again rfl (ih false _ s'' s'' _ hcs (by omega) ((congrArg (escEnd · cs) (show (c' == 92) = false by simpa using h92)).symm.trans hee) rfl (by omega) hd' G'')))
end
end Mine

namespace Mine
open PySem PySem.Spec PyProof.Rows

noncomputable def gWhole (tE cnd e1 e2 e3 tE2 : Expr) (pos esc ch addr : Str) (y1 p1 q1 q2 q3 q4 q5 q6 y2 p2 p3 p4 a1 a2 a4 b1 b2 b3 b4 b5 b6 f1 f2 f3 f4 y3 p5 p6 : Pos) (k1 k2 a3 kb kc : Nat) : List Stmt :=
  [.Assign [.Name pos b1] (.Constant (.int 0) kb b2) b3, .Assign [.Name esc b4] (.Constant (.bool false) kc b5) b6,
   .For (.Tuple [.Name pos a1, .Name ch a2] a3 a4) (.Call (.Name "enumerate" f1) [.Name addr f2] [] f3) (gBody tE cnd e1 e2 esc y1 p1 q1 q2 q3 q4 q5 q6 y2 p2 p3 p4 k1 k2) [] f4,
   .If tE2 [.Expr (.Yield (some e3) y3) p5] [] p6]

section
variable {C : Cx} {A : Around} {s s₀ : Shared} {env : Env} {σ : Vars} {rec : RE} {recT : RT} {sc : Names} {tE cnd e1 e2 e3 tE2 : Expr} {pos esc ch addr : Str}

theorem rm_in (b : List Stmt) (env : Env) : Rm 0 ((A0 1).in1.over (.func b env) []) := by
  refine ⟨rfl, ?_, ?_⟩ <;> exact Nat.le_of_ble_eq_true rfl
theorem rm_loop (b : List Stmt) (env : Env) (t it o : _) (kf : Result → Sem Fin) (l : List Value) (p : Pos) (w : List Stmt) : Rm 0 ((A0 1).in1.over (.forLoop t it b o env) [.ret kf none false l (.func w env) p []]) := by
  refine ⟨rfl, ?_, ?_⟩ <;> exact Nat.le_of_ble_eq_true rfl

variable {y1 p1 q1 q2 q3 q4 q5 q6 y2 p2 p3 p4 a1 a2 a4 b1 b2 b3 b4 b5 b6 f1 f2 f3 f4 y3 p5 p6 : Pos} {k1 k2 a3 kb kc : Nat} {x : List Nat}

theorem gen_start (S : SoundE C 0 rec) (ST : SoundT C 0 recT) (ok : EnvOk env) (hsc : env.scope.names = sc) (hco : env.scope.isCoroutine = false) (hcl : env.cells = []) (hB : ∀ a o, C.B₀.get? a = some o → a ≠ env.locals)
    (B : GB rec recT sc tE cnd e1 e2 e3 tE2 pos esc ch addr) (hen : C.mg "enumerate" = none ∧ C.mb "enumerate" = some (.type "enumerate")) (hee : escEnd false x = false) (hv : Vs env [(addr, .str x)] s₀.heap) (hb : Ext C.B₀ s₀.heap) :
    Seg C.M (A0 1).in1 (gR env.locals (s₀.heap.objs.size + 1) s₀.heap.objs.size) (gY C env.locals (s₀.heap.objs.size + 1) s₀.heap.objs.size (escL 0 false x)) (escL 0 false x).length s₀
      (.func (gWhole tE cnd e1 e2 e3 tE2 pos esc ch addr y1 p1 q1 q2 q3 q4 q5 q6 y2 p2 p3 p4 a1 a2 a4 b1 b2 b3 b4 b5 b6 f1 f2 f3 f4 y3 p5 p6 k1 k2 a3 kb kc) env)
      (C.M.den (.func (gWhole tE cnd e1 e2 e3 tE2 pos esc ch addr y1 p1 q1 q2 q3 q4 q5 q6 y2 p2 p3 p4 a1 a2 a4 b1 b2 b3 b4 b5 b6 f1 f2 f3 f4 y3 p5 p6 k1 k2 a3 kb kc) env)) [] s₀ := by
  have kP : env.kindOf pos = some .local := by unfold Env.kindOf; rw [hsc]; exact B.lp
  have kE : env.kindOf esc = some .local := by unfold Env.kindOf; rw [hsc]; exact B.le
  have kA : env.kindOf addr = some .local := by unfold Env.kindOf; rw [hsc]; exact B.la
  have kN : env.kindOf "enumerate" = some .globalImplicit := by unfold Env.kindOf; rw [hsc]; exact B.len
  obtain ⟨n1, n2, n3, n4, n5, n6⟩ := B.ne
  have hLs : env.locals < s₀.heap.objs.size := by
    obtain ⟨_, ⟨o, _, _, ho, _⟩, _⟩ := hv
    exact Heap.lt_size ho
  have hLe : s₀.heap.objs.size + 1 ≠ env.locals ∧ s₀.heap.objs.size ≠ env.locals := ⟨Nat.ne_of_gt (Nat.lt_succ_of_lt hLs), Nat.ne_of_gt hLs⟩
  have hBe : ∀ a o, C.B₀.get? a = some o → a ≠ s₀.heap.objs.size + 1 ∧ a ≠ s₀.heap.objs.size := fun a o h => by
    have := Heap.lt_size (hb a o h)
    exact ⟨Nat.ne_of_lt (Nat.lt_succ_of_lt this), Nat.ne_of_lt this⟩
  refine seg_func (seg_execs_cons (seg_wrap (wpAny_mono (asgI_ok ok kP hv) (fun f s₁ q => ?_) fun _ _ z => z.elim)))
  obtain ⟨rfl, v1, kn1, z1⟩ := q
  refine seg_execs_cons (seg_wrap (wpAny_mono (asgB_ok ok kE v1) (fun f s₂ q => ?_) fun _ _ z => z.elim))
  obtain ⟨rfl, v2, kn2, z2⟩ := q
  have z : s₂.heap.objs.size = s₀.heap.objs.size := by omega
  have bs2 : Ext C.B₀ s₂.heap := fun a o h => kn_keep hcl kn2 (hB a o h) (kn_keep hcl kn1 (hB a o h) (hb a o h))
  have lkA : (setV esc (.bool false) (setV pos (.int 0) [(addr, D.str x)])).lookup addr = some (.str x) := by
    rw [setV_lookup, if_neg n5, setV_lookup, if_neg n4]; simp
  refine seg_execs_cons (seg_For (folded_id rfl) (wpAny_mono (enum_ok ok bs2 hen kN kA B.nd lkA v2) (fun v s₃ q => ?_) fun _ _ z => z.elim))
  obtain ⟨rfl, k₃, he, t, hi⟩ := q
  rw [z] at he hi ⊢
  refine wpAny_pyIter_enum he fun p => ?_
  refine gen_loop (k := 0) S ST ok hsc hco hcl hB B (Nat.succ_ne_self _) hLe hBe (rm_loop ..) (fun s₀' s' σ' G => ?_) x 0 false _ s₀ s₃ _ rfl (Nat.zero_le _) hee rfl (Nat.le_refl _) (by simp) ⟨⟨v2.ext k₃.heap, fun a o h => k₃.heap a o (bs2 a o h), ?_, by rw [setV_lookup, if_pos rfl], fun h => absurd h (by decide), fun y d hy => ?_⟩, ⟨_, he⟩, hi⟩
  · show Seg _ _ _ _ 0 s₀' _ ((execs _ env).wrap _ _ id id) [] s'
    refine seg_execs_cons (seg_If (wpAny_mono (ST _ _ _ _ (B.hT2 σ' false G.lkE) env ok hsc _ s' (rm_in _ _) G.bs G.vs) (fun r s₅ q => ?_) fun _ _ z => z.elim))
    obtain ⟨rfl, k₅⟩ := q
    refine seg_execs_nil (seg_execs_nil ?_)
    exact seg_end (.ok (.ret .none)) ⟨rfl, rfl, G.kb.trans (k₅.kbut _ _)⟩
  · exact ((kn3 hcl hv kn1).trans (kn3 hcl v1 kn2)).trans (k₃.kbut _ _)
  · rw [setV_lookup] at hy
    split at hy
    · cases hy; rfl
    · rw [setV_lookup] at hy
      split at hy
      · cases hy; rfl
      · rw [List.lookup_cons] at hy
        split at hy
        · cases hy; rfl
        · cases hy
end
end Mine

namespace Mine
open PySem PySem.Spec PyProof.Rows

theorem bare_set {s : Shared} {g : Nat} {x : GenState} (hx : x.bare = true) (h : AllBare s.gens) : AllBare (s.setGen g x).gens := by
  refine h.moved (.inr ⟨GenOnly.setGen s g x, fun y hy => ?_⟩)
  simp only [Shared.setGen, Array.getElem?_setIfInBounds_self] at hy
  split at hy
  · cases hy; exact hx
  · cases hy

theorem kbut_gen {s s₁ : Shared} {g : Nat} {gs : GenState} {wr : List Addr} {L e it : Addr} {h' : Heap} (hb : gs.bare = true) (kb : KBut [L, e, it] [] (s.setGen g .running) s₁) (hw : ∀ b ∈ [L, e, it], b ∈ wr ∨ s.heap.get? b = none) (hk : ∀ b o, s₁.heap.get? b = some o → h'.get? b = some o) : KBut wr [g] s { s₁.setGen g gs with heap := h' } := by
  refine ⟨fun b o n h => hk b o (kb.heap b o (fun m => (hw b m).elim n fun q => by rw [q] at h; cases h) h), fun i x n h => ?_, fun h => bare_set hb (kb.bare (bare_set rfl h)), kb.os, fun b o q h => hk b o (kb.seqs b o q h)⟩
  have n : i ≠ g := by simpa using n
  show (s₁.setGen g gs).gens[i]? = some x
  rw [(GenOnly.setGen s₁ g gs).2 i n]
  refine kb.gens i x (by simp) ?_
  rw [(GenOnly.setGen s g .running).2 i n]
  exact h

section
variable {C : Cx}

theorem isIt_on {G : Addr} {g : Nat} {L e it : Addr} (hG : G ∉ [L, e, it]) (hB : ∀ a o, C.B₀.get? a = some o → a ∉ [L, e, it]) {Lst : List D} : ∀ (ds : List D) (s : Shared) (gs : GenState), s.gens[g]? = some gs → s.heap.IsGen G g → ds.length ≤ Lst.length → Lst.drop (Lst.length - ds.length) = ds →
    (∀ s'', Agree [L, e, it] [] s s'' → Ext C.B₀ s''.heap → gs.Goes C.M (A0 1).in1 (gR L e it) (gY C L e it Lst) ds.length (.send .none) s'') → IsIt C 1 (.ref G) [G, L, e, it] [L, e, it] [g] ds s
  | [], s, gs, hg, hi, hl, hd, hgo => fun s₂ ag hb A hA => by
    refine wp_A0 hA ?_
    obtain ⟨o, nm, qn, ho, r⟩ := hi
    have ag3 : Agree [L, e, it] [] s (s₂.setGen g .running) := ⟨fun b m => ag.heap b (List.mem_cons_of_mem _ m), fun i m => by cases m⟩
    refine next_gen (P := gP L e it) rfl (C.nolimit.keeps hb) (Nat.le_of_ble_eq_true rfl) ⟨o, nm, qn, ag.heap G (by simp) o ho, r⟩ (ag.gens g (by simp) _ hg) (hgo _ ag3 hb) (fun v s₁ gs' hbr hv => ?_) fun s₁ hp h' hk => ?_
    · exact (hv.2.2.2 s₁ (.refl _) fun a o h => hv.2.1.heap a o (hB a o h) (hb a o h)).elim
    · exact ⟨rfl, kbut_gen rfl hp.2 (fun b m => .inl m) hk⟩
  | d :: ds, s, gs, hg, hi, hl, hd, hgo => fun s₂ ag hb A hA => by
    refine wp_A0 hA ?_
    obtain ⟨o, nm, qn, ho, r⟩ := hi
    have ag3 : Agree [L, e, it] [] s (s₂.setGen g .running) := ⟨fun b m => ag.heap b (List.mem_cons_of_mem _ m), fun i m => by cases m⟩
    have ho₂ := ag.heap G (by simp) o ho
    have hg₂ := ag.gens g (by simp) _ hg
    refine next_gen (P := gP L e it) rfl (C.nolimit.keeps hb) (Nat.le_of_ble_eq_true rfl) ⟨o, nm, qn, ho₂, r⟩ hg₂ (hgo _ ag3 hb) (fun v s₁ gs' hbr hv => ?_) fun s₁ hp h' hk => absurd hp.1 (Nat.succ_ne_zero _)
    obtain ⟨⟨d', hd', rd⟩, kb, lv, hk⟩ := hv
    obtain ⟨h1, h2⟩ := drop_head hl hd
    have : d' = d := by
      have hd' : Lst[Lst.length - 1 - ds.length]? = some d' := hd'
      rw [h1] at hd'; cases hd'; rfl
    subst this
    have hoG : s₁.heap.get? G = some o := kb.heap G o hG ho₂
    refine ⟨v, rfl, rd, kbut_gen hbr kb (fun b m => .inl m) fun b o h => h, [G, L, e, it], [L, e, it], .refl _ _, .refl _ _, ⟨⟨G, o, "generator", rfl, hoG, r.1, by decide⟩, fun b m => ?_, fun b m => lv.1 b m⟩, ?_⟩
    · rcases List.mem_cons.mp m with rfl | m
      · show (s₁.heap.get? b).isSome = true
        rw [hoG]; rfl
      · exact lv.1 b m
    · refine isIt_on hG hB ds _ gs' (setGen_self (gs := .running) (kb.gens g .running (by simp) (setGen_self hg₂))) ⟨o, nm, qn, hoG, r⟩ (Nat.le_of_succ_le hl) h2 fun s'' ag' hb' => hk s'' ⟨fun b m o h => ag'.heap b m o h, fun i m => by cases m⟩ hb'
end

section
variable {C : Cx} {s : Shared} {env : Env} {rec : RE} {recT : RT} {sc : Names} {tE cnd e1 e2 e3 tE2 : Expr} {pos esc ch addr : Str}
variable {y1 p1 q1 q2 q3 q4 q5 q6 y2 p2 p3 p4 a1 a2 a4 b1 b2 b3 b4 b5 b6 f1 f2 f3 f4 y3 p5 p6 : Pos} {k1 k2 a3 kb kc : Nat} {x : List Nat}

theorem isIt_first (S : SoundE C 0 rec) (ST : SoundT C 0 recT) (ok : EnvOk env) (hsc : env.scope.names = sc) (hco : env.scope.isCoroutine = false) (hcl : env.cells = []) (hB : ∀ a o, C.B₀.get? a = some o → a ≠ env.locals)
    (B : GB rec recT sc tE cnd e1 e2 e3 tE2 pos esc ch addr) (hen : C.mg "enumerate" = none ∧ C.mb "enumerate" = some (.type "enumerate")) (hee : escEnd false x = false) (hv : Vs env [(addr, .str x)] s.heap) {G : Addr} {g : Nat} (hGL : G ≠ env.locals) (hi : s.heap.IsGen G g)
    (hg : s.gens[g]? = some (.fresh (.func (gWhole tE cnd e1 e2 e3 tE2 pos esc ch addr y1 p1 q1 q2 q3 q4 q5 q6 y2 p2 p3 p4 a1 a2 a4 b1 b2 b3 b4 b5 b6 f1 f2 f3 f4 y3 p5 p6 k1 k2 a3 kb kc) env))) :
    IsIt C 1 (.ref G) [G, env.locals] [env.locals] [g] (escL 0 false x) s := by
  obtain ⟨o, nm, qn, ho, r⟩ := hi
  have prep : ∀ s₂, Agree [G, env.locals] [g] s s₂ → Ext C.B₀ s₂.heap → s₂.heap.get? G = some o ∧ s₂.gens[g]? = some (.fresh (.func (gWhole tE cnd e1 e2 e3 tE2 pos esc ch addr y1 p1 q1 q2 q3 q4 q5 q6 y2 p2 p3 p4 a1 a2 a4 b1 b2 b3 b4 b5 b6 f1 f2 f3 f4 y3 p5 p6 k1 k2 a3 kb kc) env)) ∧
      GenState.Goes C.M (A0 1).in1 (gR env.locals (s₂.heap.objs.size + 1) s₂.heap.objs.size) (gY C env.locals (s₂.heap.objs.size + 1) s₂.heap.objs.size (escL 0 false x)) (escL 0 false x).length (.fresh (.func (gWhole tE cnd e1 e2 e3 tE2 pos esc ch addr y1 p1 q1 q2 q3 q4 q5 q6 y2 p2 p3 p4 a1 a2 a4 b1 b2 b3 b4 b5 b6 f1 f2 f3 f4 y3 p5 p6 k1 k2 a3 kb kc) env)) (.send .none) (s₂.setGen g .running) ∧
      (∀ b ∈ [env.locals, s₂.heap.objs.size + 1, s₂.heap.objs.size], b ∈ [env.locals] ∨ s₂.heap.get? b = none) ∧ (∀ a o, C.B₀.get? a = some o → a ∉ [env.locals, s₂.heap.objs.size + 1, s₂.heap.objs.size]) ∧ G ∉ [env.locals, s₂.heap.objs.size + 1, s₂.heap.objs.size] := by
    intro s₂ ag hb
    have hv₂ : Vs env [(addr, .str x)] s₂.heap := by
      obtain ⟨m, hn, hh, _⟩ := hv
      refine ⟨m, hn.at' fun o h => ag.heap _ (by simp) o h, fun y d hy => ?_, fun y c hc => by rw [hcl] at hc; cases hc⟩
      obtain ⟨v, va, rr⟩ := hh y d hy
      refine ⟨v, ?_, rr.scalar _ ?_⟩
      · rcases va with va | ⟨_, c, hc, _⟩
        · exact .inl va
        · rw [hcl] at hc; cases hc
      · rw [List.lookup_cons] at hy
        split at hy
        · cases hy; rfl
        · cases hy
    have none_of : ∀ b, s₂.heap.objs.size ≤ b → s₂.heap.get? b = none := fun b hb => by
      cases e : s₂.heap.get? b with
      | none => rfl
      | some o => exact absurd (Heap.lt_size e) (Nat.not_lt_of_le hb)
    have out : ∀ a o, s₂.heap.get? a = some o → a ≠ env.locals → a ∉ [env.locals, s₂.heap.objs.size + 1, s₂.heap.objs.size] := fun a o h n m => by
      have := Heap.lt_size h
      simp only [List.mem_cons, List.not_mem_nil, or_false] at m
      rcases m with m | m | m
      · exact n m
      · exact Nat.lt_irrefl _ (Nat.lt_trans (m ▸ this) (Nat.lt_succ_self _))
      · exact Nat.lt_irrefl _ (m ▸ this)
    refine ⟨ag.heap G (by simp) o ho, ag.gens g (by simp) _ hg, ⟨rfl, gen_start (s₀ := s₂.setGen g .running) S ST ok hsc hco hcl hB B hen hee hv₂ hb⟩, fun b m => ?_, fun a o h => out a o (hb a o h) (hB a o h), out G o (ag.heap G (by simp) o ho) hGL⟩
    simp only [List.mem_cons, List.not_mem_nil, or_false] at m
    rcases m with rfl | rfl | rfl
    · exact .inl (by simp)
    · exact .inr (none_of _ (Nat.le_succ _))
    · exact .inr (none_of _ (Nat.le_refl _))
  cases hL : escL 0 false x with
  | nil =>
    intro s₂ ag hb A hA
    refine wp_A0 hA ?_
    obtain ⟨hoG, hg₂, hgo, hw, hBn, hGn⟩ := prep s₂ ag hb
    rw [hL] at hgo
    refine next_gen (P := gP _ _ _) rfl (C.nolimit.keeps hb) (Nat.le_of_ble_eq_true rfl) ⟨o, nm, qn, hoG, r⟩ hg₂ hgo (fun v s₁ gs' hbr hv => ?_) fun s₁ hp h' hk => ?_
    · exact (hv.2.2.2 s₁ (.refl _) fun a o h => hv.2.1.heap a o (hBn a o h) (hb a o h)).elim
    · exact ⟨rfl, kbut_gen rfl hp.2 hw hk⟩
  | cons d ds =>
    intro s₂ ag hb A hA
    refine wp_A0 hA ?_
    obtain ⟨hoG, hg₂, hgo, hw, hBn, hGn⟩ := prep s₂ ag hb
    rw [hL] at hgo
    refine next_gen (P := gP _ _ _) rfl (C.nolimit.keeps hb) (Nat.le_of_ble_eq_true rfl) ⟨o, nm, qn, hoG, r⟩ hg₂ hgo (fun v s₁ gs' hbr hv => ?_) fun s₁ hp h' hk => absurd hp.1 (Nat.succ_ne_zero _)
    obtain ⟨⟨d', hd', rd⟩, kb, lv, hk⟩ := hv
    obtain ⟨h1, h2⟩ := drop_head (Lst := d :: ds) (n := ds.length) (d := d) (ds := ds) (by simp) (by simp)
    have : d' = d := by
      have hd' : (d :: ds)[(d :: ds).length - 1 - ds.length]? = some d' := hd'
      rw [h1] at hd'; cases hd'; rfl
    subst this
    have hoG₁ : s₁.heap.get? G = some o := kb.heap G o hGn hoG
    refine ⟨v, rfl, rd, kbut_gen hbr kb hw fun b o h => h, [G, env.locals, s₂.heap.objs.size + 1, s₂.heap.objs.size], [env.locals, s₂.heap.objs.size + 1, s₂.heap.objs.size], fun b m => ?_, fun b m => hw b m, ⟨⟨G, o, "generator", rfl, hoG₁, r.1, by decide⟩, fun b m => ?_, fun b m => lv.1 b m⟩, ?_⟩
    · rcases List.mem_cons.mp m with rfl | m
      · exact .inl (by simp)
      · exact (hw b m).imp (fun q => List.mem_cons_of_mem _ q) id
    · rcases List.mem_cons.mp m with rfl | m
      · show (s₁.heap.get? b).isSome = true
        rw [hoG₁]; rfl
      · exact lv.1 b m
    · exact isIt_on hGn hBn ds _ gs' (setGen_self (gs := .running) (kb.gens g .running (by simp) (setGen_self hg₂))) ⟨o, nm, qn, hoG₁, r⟩ (by simp) h2 fun s'' ag' hb' => hk s'' ⟨fun b m o h => ag'.heap b m o h, fun i m => by cases m⟩ hb'
end
end Mine

namespace Mine
open PySem PySem.Spec PyProof.Rows

/-- a generator function of the text, as the top left it -/
structure GnRec (C : Cx) (a : Addr) (param : Str) (names : Names) (body : List Stmt) : Prop where
  rec' : ∃ o fd, C.B₀.get? a = some o ∧ o.data = .func fd ∧ fd.body = .stmts body ∧ fd.scope.names = names ∧ fd.closure = [] ∧ fd.scope.isCoroutine = false ∧ fd.scope.isGenerator = true ∧ fd.scope.kind = .function ∧
    fd.globals = mainGlobals ∧ fd.builtins = builtinsNs ∧ C.B₀.CodeRec fd.code fd.qualname ∧ ∀ v : Value, bindArgs fd ⟨[v], []⟩ = pure [(param, v)]
  cell : ∀ x ∈ names, x.2 ≠ .cell

section
variable {C : Cx} {rec : RE} {recT : RT} {sc : Names} {tE cnd e1 e2 e3 tE2 : Expr} {pos esc ch addr : Str}
variable {y1 p1 q1 q2 q3 q4 q5 q6 y2 p2 p3 p4 a1 a2 a4 b1 b2 b3 b4 b5 b6 f1 f2 f3 f4 y3 p5 p6 : Pos} {k1 k2 a3 kb kc : Nat} {x : List Nat}

theorem genCallable_of {a : Addr} (S : SoundE C 0 rec) (ST : SoundT C 0 recT) (B : GB rec recT sc tE cnd e1 e2 e3 tE2 pos esc ch addr) (hen : C.mg "enumerate" = none ∧ C.mb "enumerate" = some (.type "enumerate")) (hee : escEnd false x = false)
    (R : GnRec C a addr sc (gWhole tE cnd e1 e2 e3 tE2 pos esc ch addr y1 p1 q1 q2 q3 q4 q5 q6 y2 p2 p3 p4 a1 a2 a4 b1 b2 b3 b4 b5 b6 f1 f2 f3 f4 y3 p5 p6 k1 k2 a3 kb kc)) :
    GenCallable C 1 a [.str x] (escL 0 false x) := by
  intro A s vs hA hb r
  obtain ⟨o, fd, ho, hfd, hbody, hnames, hclo, hco, hgen, hk, hglo, hblt, hcr, hbind⟩ := R.rec'
  unfold RepAll at r
  obtain ⟨v, q, rfl, rv, r⟩ := r
  unfold RepAll at r
  subst r
  unfold Rep at rv
  obtain ⟨t, rfl⟩ := rv
  have hroom : A.depth < recursionLimit := by have := hA.dp; omega
  refine wpAny_call (codeAny_call_generator hroom (hb a o ho) hfd hco hgen hbody (hcr.keeps hb) ?_)
  rw [hbind]
  refine wpAny_pure (wpAny_newFunctionEnv (by rw [hnames]; exact R.cell) (by rw [hnames]; intro y hy; simp at hy; subst hy; exact B.la) (fun h' hn hs => ?_) hk)
  have keep : ∀ b o, s.heap.get? b = some o → h'.get? b = some o := fun b o e => hs.extBut b o (Nat.ne_of_lt (Heap.lt_size e)) (Heap.get?_push_of_some _ e)
  have hz : h'.objs.size = s.heap.objs.size + 1 := by rw [hs.1, Heap.size_push]
  have hbh : Ext C.B₀ h' := fun b o e => keep b o (hb b o e)
  refine ⟨C.nolimit.keeps hbh, ?_⟩
  generalize henv : newEnv fd.scope s.heap.objs.size fd.globals fd.closure (fd.qualname ++ ".<locals>.") (some a) fd.code none fd.builtins = env
  have hL : env.locals = s.heap.objs.size := by rw [← henv]; rfl
  have hcl : env.cells = [] := by rw [← henv]; exact hclo
  have hsc : env.scope.names = sc := by rw [← henv]; exact hnames
  have hcoe : env.scope.isCoroutine = false := by rw [← henv]; exact hco
  have ok : EnvOk env := by
    refine ⟨by rw [← henv]; exact hk, by rw [← henv]; exact hglo, by rw [← henv]; exact hblt, (fun y z c h1 _ => by rw [hcl] at h1; exact nomatch h1), fun y hy => ?_⟩
    unfold Env.kindOf at hy
    rw [hsc] at hy
    exact absurd rfl (R.cell _ (lookup_mem hy))
  have hB : ∀ b o, C.B₀.get? b = some o → b ≠ env.locals := fun b o e => by
    rw [hL]; exact Nat.ne_of_lt (Heap.lt_size (hb b o e))
  generalize hgo : ({ cls := .type "generator", data := .fields #[.int s.gens.size 0, .str fd.name (s.toks + [(addr, Value.str (⟨x.toArray⟩ : Str) t)].length), .str fd.qualname (s.toks + [(addr, Value.str (⟨x.toArray⟩ : Str) t)].length + 1)] } : Obj) = og
  have push : ∀ b o, h'.get? b = some o → (h'.push og).get? b = some o := fun b o e => Heap.get?_push_of_some _ e
  have hnot : og.isFreed = false := by rw [← hgo]; rfl
  have hG : (h'.push og).get? h'.objs.size = some og := Heap.get?_push_size _ hnot
  have isG : (h'.push og).IsGen h'.objs.size s.gens.size := ⟨og, _, _, hG, by rw [← hgo], by rw [← hgo], by rw [← hgo]⟩
  have ka : env.kindOf addr = some .local := by unfold Env.kindOf; rw [hsc]; exact B.la
  have hv : Vs env [(addr, .str x)] (h'.push og) := by
    refine ⟨_, by rw [hL]; exact hn.push _, fun y d hy => ?_, fun y c hc => by rw [hcl] at hc; cases hc⟩
    rw [List.lookup_cons] at hy
    split at hy
    · rename_i e
      have e : y = addr := by simpa using e
      subst e
      cases hy
      exact ⟨.str ⟨x.toArray⟩ t, .inl ⟨ka, by simp⟩, rep_str⟩
    · cases hy
  have noneL : s.heap.get? env.locals = none := by
    rw [hL]
    cases e : s.heap.get? s.heap.objs.size with
    | none => rfl
    | some o => exact absurd (Heap.lt_size e) (Nat.lt_irrefl _)
  have noneG : s.heap.get? h'.objs.size = none := by
    cases e : s.heap.get? h'.objs.size with
    | none => rfl
    | some o => exact absurd (Heap.lt_size e) (by rw [hz]; exact Nat.not_lt_of_le (Nat.le_succ _))
  have hGL : h'.objs.size ≠ env.locals := by rw [hL, hz]; exact Nat.succ_ne_self _
  have liveL : ((h'.push og).get? env.locals).isSome = true := by
    obtain ⟨_, ⟨o, _, _, ho, _⟩, _⟩ := hv
    rw [ho]; rfl
  have kp : ∀ tk, Kp s { heap := h'.push og, gens := s.gens.push (.fresh (.func (gWhole tE cnd e1 e2 e3 tE2 pos esc ch addr y1 p1 q1 q2 q3 q4 q5 q6 y2 p2 p3 p4 a1 a2 a4 b1 b2 b3 b4 b5 b6 f1 f2 f3 f4 y3 p5 p6 k1 k2 a3 kb kc) env)), drawn := s.drawn, toks := tk, os := s.os } := fun tk =>
    ⟨fun b o e => push b o (keep b o e), fun i g e => by
      show (s.gens.push _)[i]? = some g
      have hi : i < s.gens.size := by
        rcases Nat.lt_or_ge i s.gens.size with h | h
        · exact h
        · rw [Array.getElem?_eq_none h] at e; cases e
      rw [Array.getElem?_push_lt hi]
      rw [Array.getElem?_eq_getElem hi] at e
      exact e, fun e => e.push rfl, rfl⟩
  refine ⟨kp _, fun A' hA' => wpAny_pyIter_gen isG ⟨[h'.objs.size, env.locals], [env.locals], [s.gens.size], kp _, ?_, fun b m => ?_, fun b m => ?_, fun i m => ?_, fun s₂ ag A'' => ?_⟩⟩
  · exact isIt_first S ST ok hsc hcoe hcl hB B hen hee hv hGL isG (Array.getElem?_push_size ..)
  · simp at m; subst m; exact ⟨noneL, liveL⟩
  · simp at m
    rcases m with rfl | rfl
    · exact .inl ⟨noneG, by rw [hG]; rfl⟩
    · exact .inl ⟨noneL, liveL⟩
  · simp at m; subst m
    refine ⟨Array.getElem?_eq_none (Nat.le_refl _), ?_⟩
    show ((s.gens.push _)[s.gens.size]?).isSome = true
    rw [Array.getElem?_push_size]; rfl
  · refine wpAny_pyIter_gen (g := s.gens.size) ⟨og, _, _, ag.heap _ (by simp) _ hG, by rw [← hgo], by rw [← hgo], by rw [← hgo]⟩ ⟨rfl, rfl⟩
end
end Mine

namespace Mine
open PySem PySem.Spec PyProof.Rows

/-- the two tables of the text -/
structure Tables (C : Cx) (bn tn : Str) (S : Int → Bool) (Dt : List (PyData × PyData)) : Prop where
  b1 : ∃ a n, C.mg bn = some (.ref a) ∧ C.B₀.SetOf (intKind C.prog C.w) a S n
  b3 : ∃ a, C.mg tn = some (.ref a) ∧ IntTab C.prog C.w C.B₀ a Dt

noncomputable def dataD : PyData → Option D
  | .none => some .none
  | .str x => some (.str x.cps.toList)
  | _ => none

section
variable {C : Cx} {k : Nat} {bn tn : Str} {Sx : Int → Bool} {Dt : List (PyData × PyData)}

theorem Tables.setAt (T : Tables C bn tn Sx Dt) {h : Heap} (hb : Ext C.B₀ h) : ∃ a n, C.mg bn = some (.ref a) ∧ h.SetOf (intKind C.prog C.w) a Sx n := by
  obtain ⟨a, n, e, o, es, ep, t, ho, r⟩ := T.b1
  exact ⟨a, n, e, o, es, ep, t, hb _ _ ho, r⟩

end
/-- a test of the set -/
noncomputable def recB1P (rec : RE) (bn : Str) (Sx : Int → Bool) (sc : Names) (ow : Option Str) (σ : Vars) (st : Stmt) : {o : Option Out // ∀ out, o = some out → ∀ (C : Cx) (k : Nat) (tn : Str) (Dt : List (PyData × PyData)), Tables C bn tn Sx Dt → SoundE C k rec → ∀ env : Env, EnvOk env → env.scope.names = sc → ∀ A F s, Rm k A → St C F env ow σ s → wpAny C.M A (exec st env) (PostX C F env s out) NE s} := match st with
  | .Return (some (.Compare l [.In] [.Name g gp] p1)) p2 => ⟨if g == bn && !(g == ("__debug__" : Str)) && sc.lookup g == some .globalImplicit then (rec sc σ l).bind fun d => (match d with
      | .int i => some (.ret (.bool (Sx i)))
      | _ => none) else none, fun out e C k tn Dt T S env ok hsc A F s hA h => by
    split at e
    · rename_i hc
      simp only [Bool.and_eq_true, beq_iff_eq, Bool.not_eq_true'] at hc
      obtain ⟨⟨rfl, hd⟩, hk⟩ := hc
      have hk : env.kindOf g = some .globalImplicit := by unfold Env.kindOf; rw [hsc]; exact hk
      rw [Option.bind_eq_some_iff] at e
      obtain ⟨d, e1, e⟩ := e
      split at e
      · rename_i i
        cases e
        refine wpAny_Return_some (wpAny_Compare1 (gv_of (S _ _ _ _ e1 env ok hsc A s hA h.bs h.vs) fun va s₁ k₁ r₁ => ?_) rfl)
        have hb₁ := kp_base h.bs k₁
        obtain ⟨a, n, hm, hS⟩ := T.setAt hb₁
        refine global_ok ok hd hk hb₁ (.inl hm) ?_
        unfold Rep at r₁
        obtain ⟨t, rfl⟩ := r₁
        refine wpAny_inSet_of (intKind_is C.prog C.w i t) rfl hS ?_
        have k₂ : Kp s₁ { s₁ with toks := s₁.toks + 1 } := .toks _ _
        exact ⟨_, rfl, by unfold Rep; rfl, fun a o e => k₁.heap a o (h.frozen a o e), (k₁.trans k₂).ke⟩
      · cases e
    · cases e⟩
  | _ => ⟨none, fun _ e => nomatch e⟩
noncomputable def recB1 (rec : RE) (bn : Str) (S : Int → Bool) : RS := fun sc ow σ st => (recB1P rec bn S sc ow σ st).1
section
variable {C : Cx} {k : Nat} {bn tn : Str} {Sx : Int → Bool} {Dt : List (PyData × PyData)}

theorem recB1_ok {rec : RE} (T : Tables C bn tn Sx Dt) (S : SoundE C k rec) : SoundX C k (recB1 rec bn Sx) :=
  fun sc ow σ st out e env ok hsc A F s hA h => (recB1P rec bn Sx sc ow σ st).2 out e C k tn Dt T S env ok hsc A F s hA h

theorem dataD_ok {v : Value} {p : PyData} {d : D} {h : Heap} (e : dataD p = some d) (f : PyProof.V.Flat v p) : Rep h d v := by
  cases p <;> cases e
  · rw [f.none_inv]; unfold Rep; rfl
  · rename_i x
    obtain ⟨t, rfl⟩ := f.str_inv
    exact rep_str (x := x.cps.toList)

end
/-- a look into the table -/
noncomputable def recB3P (rec : RE) (recX : RS) (tn : Str) (Dt : List (PyData × PyData)) (sc : Names) (ow : Option Str) (σ : Vars) (st : Stmt) : {o : Option Out // ∀ out, o = some out → ∀ (C : Cx) (k : Nat) (bn : Str) (Sx : Int → Bool), Tables C bn tn Sx Dt → SoundE C k rec → SoundX C k recX → ∀ env : Env, EnvOk env → env.scope.names = sc → ∀ A F s, Rm k A → St C F env ow σ s → wpAny C.M A (exec st env) (PostX C F env s out) NE s} := match st with
  | .Assign [.Name x p] (.Call (.Attribute (.Name g gp) m ap) [a] [] cp) pos => ⟨if g == tn && !(g == ("__debug__" : Str)) && sc.lookup g == some .globalImplicit && m == ("get" : Str) && ap.endLine == cp.line && !isStar a then (rec sc σ a).bind fun d => (match d with
      | .int i => (dataD ((lookup (.int i) Dt).getD .none)).bind fun r => sto sc ow σ x r
      | _ => none) else recX sc ow σ (.Assign [.Name x p] (.Call (.Attribute (.Name g gp) m ap) [a] [] cp) pos), fun out e C k bn Sx T S SX env ok hsc A F s hA h => by
    split at e
    · rename_i hc
      simp only [Bool.and_eq_true, beq_iff_eq, Bool.not_eq_true'] at hc
      obtain ⟨⟨⟨⟨⟨rfl, hd⟩, hk⟩, rfl⟩, hl⟩, hst⟩ := hc
      have hk : env.kindOf g = some .globalImplicit := by unfold Env.kindOf; rw [hsc]; exact hk
      rw [Option.bind_eq_some_iff] at e
      obtain ⟨d, e1, e⟩ := e
      split at e
      · rename_i i
        rw [Option.bind_eq_some_iff] at e
        obtain ⟨r, e2, e⟩ := e
        have ev : evEs (rec sc σ) [a] = some [.int i] := by simp [evEs, hst, e1]
        refine wpAny_Assign_Name ?_ (noSwap rfl _ _)
        refine wpAny_Call_method_lateS rfl ?_ (by simpa using hl) ?_
        · rw [starLen env ev]; rfl
        · obtain ⟨ad, hm, hT⟩ := T.b3
          refine global_ok ok hd hk h.bs (.inl hm) ?_
          have hT₀ := hT.keep h.bs
          obtain ⟨lo, kvs, hdo, hfp⟩ := hT₀
          obtain ⟨o, es, ep, ho, hex, _⟩ := id hdo
          refine ⟨"dict", "dict.get", PySem.F.plainAttrs_dict, PySem.F.slot_dict_get, PySem.F.type_dict_get, hdo.typeIs, fun a' e => ?_, ?_⟩
          · cases e; exact ⟨o, ho, hex.2.1⟩
          · refine callWith_machine (fun a e => nomatch e) (noStar env ev) (wpAny_mono (args_ok S ok hsc hA ev h.bs h.vs) (fun as s₁ q => ?_) fun _ _ x => x.elim)
            obtain ⟨k₁, us, rfl, r₁⟩ := q
            unfold RepAll at r₁
            obtain ⟨w, q, rfl, rw', r₁⟩ := r₁
            unfold RepAll at r₁
            subst r₁
            unfold Rep at rw'
            obtain ⟨t, rfl⟩ := rw'
            have hT₁ := hT.keep (kp_base h.bs k₁)
            refine call_get1_intTab (s := s₁) hT₁ fun v hf => ?_
            have k₂ : Kp s₁ { s₁ with toks := s₁.toks + 1 } := .toks _ _
            have k₁₂ := k₁.trans k₂
            exact wpAny_mono (sto_ok ok hsc e (h.kp k₁₂) (dataD_ok e2 hf)) (fun _ s' q => q.1.ke k₁₂.ke) fun _ _ x => x
      · cases e
    · exact SX _ _ _ _ _ e env ok hsc A F s hA h⟩
  | st => ⟨recX sc ow σ st, fun out e C k bn Sx T S SX env ok hsc A F s hA h => by
    exact SX _ _ _ _ _ e env ok hsc A F s hA h⟩
noncomputable def recB3 (rec : RE) (recX : RS) (tn : Str) (Dt : List (PyData × PyData)) : RS := fun sc ow σ st => (recB3P rec recX tn Dt sc ow σ st).1
theorem recB3_ok {C : Cx} {k : Nat} {bn tn : Str} {Sx : Int → Bool} {Dt : List (PyData × PyData)} {rec : RE} {recX : RS} (T : Tables C bn tn Sx Dt) (S : SoundE C k rec) (SX : SoundX C k recX) : SoundX C k (recB3 rec recX tn Dt) :=
  fun sc ow σ st out e env ok hsc A F s hA h => (recB3P rec recX tn Dt sc ow σ st).2 out e C k bn Sx T S SX env ok hsc A F s hA h
end Mine

namespace Mine
open PySem PySem.Spec PyProof.Rows

noncomputable abbrev pw : Program := PySem.Challenge.pw_rl0122_01

/-- a def's parts, or a for's body: by the cases themselves, so that no match is made -/
noncomputable def stmtAlt {α : Type} (z : α) (fn : Arguments → List Stmt → Scope → α) (fo : List Stmt → α) (s : Stmt) : α :=
  @Stmt.casesOn (fun _ => α) s (fun _ a b _ _ _ sc _ _ _ => fn a b sc) (fun _ _ _ _ _ _ _ _ _ _ => z) (fun _ _ _ _ _ _ _ _ _ _ _ => z) (fun _ _ => z) (fun _ _ => z) (fun _ _ _ => z) (fun _ _ _ _ _ _ _ => z) (fun _ _ _ _ => z) (fun _ _ _ _ _ => z) (fun _ _ b _ _ => fo b) (fun _ _ _ _ _ => z) (fun _ _ _ _ => z) (fun _ _ _ _ => z) (fun _ _ _ => z) (fun _ _ _ => z) (fun _ _ _ => z) (fun _ _ _ => z) (fun _ _ _ _ _ => z) (fun _ _ _ _ _ => z) (fun _ _ _ => z) (fun _ _ => z) (fun _ _ _ _ => z) (fun _ _ => z) (fun _ _ => z) (fun _ _ => z) (fun _ => z) (fun _ => z) (fun _ => z)
/-- a def of the text: its parameters, its names, its body -/
noncomputable def fnOf (s : Stmt) : List Str × Names × List Stmt := stmtAlt ([], [], []) (fun a b sc => (a.args.map (·.arg), sc.names, b)) (fun _ => ([], [], [])) s
noncomputable def fnAt (i : Nat) : List Str × Names × List Stmt := ((pw.main.body.drop i).map fnOf).headD ([], [], [])

noncomputable def retOf : Option Out → Option D
  | some (.ret d) => some d
  | _ => none

noncomputable def callX (recX : RS) (f : List Str × Names × List Stmt) (args : List D) : Option D := if args.length = f.1.length then retOf (runL recX f.2.1 none (f.1.zip args) f.2.2) else none
noncomputable def callF (T : Tabs) (i : Nat) (args : List D) : Option D := callX (evX T (ev T 30) 60 20) (fnAt i) args

noncomputable def glD (x : Str) : Option D := if x = "_MAX_STRING_SIZE" then some (.int 40) else if x = "_MOVE_COST" then some (.int 2) else if x = "_CASE_COST" then some (.int 1) else none
noncomputable def biV (x : Str) : Option Value := if x = "len" then some (.builtin "len") else if x = "ord" then some (.builtin "ord") else if x = "min" then some (.builtin "min") else if x = "sum" then some (.builtin "sum") else if x = "chr" then some (.builtin "chr") else if x = "range" then some (.type "range") else if x = "list" then some (.type "list") else none

noncomputable def b1L : List Int := [173, 847, 6150, 6155, 6156, 6157, 8203, 8204, 8205, 8288, 65279] ++ (List.range 16).map fun (i : Nat) => 65024 + (i : Int)
noncomputable def b1S (i : Int) : Bool := b1L.contains i

/-- the pairs of a display of constants -/
noncomputable def kvP (k : Option Expr) (v : Expr) : {o : Option (Int × PyData) // ∀ p, o = some p → ∃ i k1 q1 s k2 q2, k = some (.Constant (.int i) k1 q1) ∧ v = .Constant (.str s) k2 q2 ∧ p = (i, .str s)} := match k, v with
  | some (.Constant (.int i) k1 q1), .Constant (.str s) k2 q2 => ⟨some (i, .str s), fun p e => ⟨i, k1, q1, s, k2, q2, rfl, rfl, (Option.some.inj e).symm⟩⟩
  | _, _ => ⟨none, fun _ e => nomatch e⟩
noncomputable def dl : List (Option Expr) → List Expr → Option (List (Int × PyData))
  | [], [] => some []
  | k :: ks, v :: vs => (kvP k v).1.bind fun p => (dl ks vs).map (p :: ·)
  | _, _ => none
noncomputable def dictAt (i : Nat) : List (PyData × PyData) := match pw.main.body[i]? with
  | some (.Assign _ (.Dict ks vs _) _) => ((dl ks vs).getD []).map fun p => (.int p.1, p.2)
  | _ => []
noncomputable def b3D : List (PyData × PyData) := dictAt 13

noncomputable def T0 : Tabs := ⟨glD, biV, fun _ _ => none, fun _ _ => none⟩
noncomputable def gnL (f : Str) (args : List D) : Option (List D) := if f = "_iter_escaped_chars" then (match args with
  | [.str x] => if escEnd false x then none else some (escL 0 false x)
  | _ => none) else none
noncomputable def T1 : Tabs := ⟨glD, biV, fun f args => if f = "_substitution_cost" then callF T0 4 args else if f = "_law_unseen" then callF T0 16 args else if f = "in_table_b1" then callX (recB1 (ev T0 30).1 "b1_set" b1S) (fnAt 12) args else if f = "map_table_b3" then callX (recB3 (ev T0 30).1 (evX T0 (ev T0 30) 60 20) "b3_exceptions" b3D) (fnAt 14) args else none, gnL⟩
noncomputable def T2 : Tabs := ⟨glD, biV, fun f args => if f = "_levenshtein_distance" then callF T1 5 args else if f = "_law_typed" then callF T1 19 args else if f = "_law_prepared" then callF T1 20 args else if f = "_strip_quoted_realnames" then callF T1 8 args else if f = "_law_row" then callF T1 17 args else if f = "_law_order" then callF T1 18 args else T1.fn f args, gnL⟩
noncomputable def T3 : Tabs := ⟨glD, biV, fun f args => if f = "_check_parenthesis" then callF T2 9 args else if f = "_law_told" then callF T2 21 args else T2.fn f args, gnL⟩
end Mine

namespace Mine
open PySem PySem.Spec PyProof.Rows

/-! names as numbers -/
theorem str_beq (l m : List Nat) : ((⟨⟨l⟩⟩ : Str) == ⟨⟨m⟩⟩) = (l == m) := by
  rw [Bool.eq_iff_iff]
  simp
theorem nm0 : Str.ofString "__debug__" = ⟨⟨[95, 95, 100, 101, 98, 117, 103, 95, 95]⟩⟩ := by decide +kernel
theorem nm1 : Str.ofString "__classdict__" = ⟨⟨[95, 95, 99, 108, 97, 115, 115, 100, 105, 99, 116, 95, 95]⟩⟩ := by decide +kernel
theorem nm15 : Str.ofString "_iter_escaped_chars" = ⟨⟨[95, 105, 116, 101, 114, 95, 101, 115, 99, 97, 112, 101, 100, 95, 99, 104, 97, 114, 115]⟩⟩ := by decide +kernel
theorem nm16 : Str.ofString "_substitution_cost" = ⟨⟨[95, 115, 117, 98, 115, 116, 105, 116, 117, 116, 105, 111, 110, 95, 99, 111, 115, 116]⟩⟩ := by decide +kernel
theorem nm17 : Str.ofString "_law_unseen" = ⟨⟨[95, 108, 97, 119, 95, 117, 110, 115, 101, 101, 110]⟩⟩ := by decide +kernel
theorem nm18 : Str.ofString "in_table_b1" = ⟨⟨[105, 110, 95, 116, 97, 98, 108, 101, 95, 98, 49]⟩⟩ := by decide +kernel
theorem nm19 : Str.ofString "map_table_b3" = ⟨⟨[109, 97, 112, 95, 116, 97, 98, 108, 101, 95, 98, 51]⟩⟩ := by decide +kernel
theorem nm20 : Str.ofString "_levenshtein_distance" = ⟨⟨[95, 108, 101, 118, 101, 110, 115, 104, 116, 101, 105, 110, 95, 100, 105, 115, 116, 97, 110, 99, 101]⟩⟩ := by decide +kernel
theorem nm21 : Str.ofString "_law_typed" = ⟨⟨[95, 108, 97, 119, 95, 116, 121, 112, 101, 100]⟩⟩ := by decide +kernel
theorem nm22 : Str.ofString "_law_prepared" = ⟨⟨[95, 108, 97, 119, 95, 112, 114, 101, 112, 97, 114, 101, 100]⟩⟩ := by decide +kernel
theorem nm23 : Str.ofString "_strip_quoted_realnames" = ⟨⟨[95, 115, 116, 114, 105, 112, 95, 113, 117, 111, 116, 101, 100, 95, 114, 101, 97, 108, 110, 97, 109, 101, 115]⟩⟩ := by decide +kernel
theorem nm24 : Str.ofString "_law_row" = ⟨⟨[95, 108, 97, 119, 95, 114, 111, 119]⟩⟩ := by decide +kernel
theorem nm25 : Str.ofString "_law_order" = ⟨⟨[95, 108, 97, 119, 95, 111, 114, 100, 101, 114]⟩⟩ := by decide +kernel
theorem nm26 : Str.ofString "_check_parenthesis" = ⟨⟨[95, 99, 104, 101, 99, 107, 95, 112, 97, 114, 101, 110, 116, 104, 101, 115, 105, 115]⟩⟩ := by decide +kernel
theorem nm27 : Str.ofString "_law_told" = ⟨⟨[95, 108, 97, 119, 95, 116, 111, 108, 100]⟩⟩ := by decide +kernel

/-! the interpreter's equations, construct by construct -/
section
variable (T : Tabs) (n : Nat) (sc : Names) (σ : Vars)
theorem e_const (c : Const) (k : Nat) (p : Pos) : (ev T (n + 1)).1 sc σ (.Constant c k p) = constD c := Eq.trans rfl rfl
theorem e_name (x : Str) (p : Pos) : (ev T (n + 1)).1 sc σ (.Name x p) = if x == ("__debug__" : Str) || x == ("__classdict__" : Str) then none else (match σ.lookup x with
      | some d => some d
      | none => if sc.lookup x == some .globalImplicit then T.gl x else none) := Eq.trans rfl rfl
theorem e_bin (l r : Expr) (op : Operator) (p : Pos) : (ev T (n + 1)).1 sc σ (.BinOp l op r p) = ((ev T n).1 sc σ l).bind fun a => ((ev T n).1 sc σ r).bind fun b => binD op a b := Eq.trans rfl rfl
theorem e_tuple (es : List Expr) (k : Nat) (p : Pos) : (ev T (n + 1)).1 sc σ (.Tuple es k p) = (evEs ((ev T n).1 sc σ) es).bind fun ds => if ds.length ≤ sizeLine then some (.tuple ds) else none := Eq.trans rfl rfl
theorem t_cmp (l r : Expr) (op : CmpOp) (p : Pos) : (ev T (n + 1)).2 sc σ (.Compare l [op] [r] p) = if behindInMarks op r then none else ((ev T n).1 sc σ l).bind fun a => ((ev T n).1 sc σ r).bind fun b => cmpD op a b := Eq.trans rfl rfl
theorem t_name (x : Str) (p : Pos) : (ev T (n + 1)).2 sc σ (.Name x p) = ((ev T n).1 sc σ (.Name x p)).bind truthD := Eq.trans rfl rfl
variable (e : RE × RT) (w : Nat) (ow : Option Str)
theorem x_assign (ts : List Expr) (v : Expr) (p : Pos) : evX T e w (n + 1) sc ow σ (.Assign ts v p) = assignX T e.1 e.2 sc ow σ ts v := Eq.trans rfl rfl
end
end Mine

namespace Mine
open PySem PySem.Spec PyProof.Rows

section
variable {T : Tabs} {n : Nat} {sc : Names} {σ : Vars} {x : Str} {p p' : Pos} {a b : D} {l r : Expr} {u v : List Nat} {k : Nat}
theorem nm_at (hx : (x == ("__debug__" : Str) || x == ("__classdict__" : Str)) = false) (h : σ.lookup x = some a) : (ev T (n + 1)).1 sc σ (.Name x p) = some a := by
  show (if (x == ("__debug__" : Str) || x == ("__classdict__" : Str)) = true then none else _) = _
  rw [hx, h]; rfl
theorem nm_t {c : Bool} (hx : (x == ("__debug__" : Str) || x == ("__classdict__" : Str)) = false) (h : σ.lookup x = some (.bool c)) : (ev T (n + 2)).2 sc σ (.Name x p) = some c :=
  congrArg (Option.bind · truthD) (nm_at (T := T) (n := n) (sc := sc) (p := p) hx h)
theorem eq_at (hl : (ev T n).1 sc σ l = some (.str u)) : (ev T (n + 1)).2 sc σ (.Compare l [.Eq] [.Constant (.str ⟨⟨v⟩⟩) k p'] p) = ((ev T n).1 sc σ (.Constant (.str ⟨⟨v⟩⟩) k p')).bind fun b => cmpD .Eq (.str u) b := by
  show Option.bind ((ev T n).1 sc σ l) _ = _
  rw [hl]; rfl
theorem add_at {d : D} (hl : (ev T n).1 sc σ l = some a) (hr : (ev T n).1 sc σ r = some b) (h : binD .Add a b = some d) : (ev T (n + 1)).1 sc σ (.BinOp l .Add r p) = some d := by
  show Option.bind _ _ = _
  rw [hl, hr]; exact h
theorem pair_at (hl : (ev T n).1 sc σ l = some a) (hr : (ev T n).1 sc σ r = some b) (sl : isStar l = false) (sr : isStar r = false) : (ev T (n + 1)).1 sc σ (.Tuple [l, r] k p) = some (.tuple [a, b]) := by
  show Option.bind (if isStar l = true then none else Option.bind _ fun d => Option.map _ (if isStar r = true then none else Option.bind _ _)) _ = _
  rw [sl, sr, hl, hr]; rfl
end
theorem gen_text : ∃ (sc : Names) (tE cnd e1 e2 e3 tE2 : Expr) (pos esc ch addr : Str) (y1 p1 q1 q2 q3 q4 q5 q6 y2 p2 p3 p4 a1 a2 a4 b1 b2 b3 b4 b5 b6 f1 f2 f3 f4 y3 p5 p6 : Pos) (k1 k2 a3 kb kc : Nat),
    fnAt 7 = ([addr], sc, gWhole tE cnd e1 e2 e3 tE2 pos esc ch addr y1 p1 q1 q2 q3 q4 q5 q6 y2 p2 p3 p4 a1 a2 a4 b1 b2 b3 b4 b5 b6 f1 f2 f3 f4 y3 p5 p6 k1 k2 a3 kb kc) ∧ (∀ x ∈ sc, x.2 ≠ .cell) ∧
    GB (ev T0 30).1 (ev T0 30).2 sc tE cnd e1 e2 e3 tE2 pos esc ch addr := by
  generalize ghf : fnAt 7 = f
  have hf : ?lhf = f := ?qhf
  have chf : fnAt 7 = fnAt 7 := rfl
  conv at chf =>
    lhs
    cbv
  change ?lhf = _ at chf
  case qhf => exact Eq.trans rfl ghf
  clear chf ghf
  subst hf
  refine ⟨_, _, _, _, _, _, _, _, _, _, _, _, _, _, _, _, _, _, _, _, _, _, _, _, _, _, _, _, _, _, _, _, _, _, _, _, _, _, _, _, _, _, _, _, rfl, ?_, ?_⟩
  · decide
  · constructor
    · exact fun σ b h => nm_t (by decide +kernel) h
    · exact fun σ b h => nm_t (by decide +kernel) h
    · exact fun σ c h => (eq_at (nm_at (by decide +kernel) h)).trans (congrArg some (by rw [Bool.eq_iff_iff]; simp))
    · exact fun σ i c h h' => pair_at (nm_at (by decide +kernel) h) (add_at rfl (nm_at (by decide +kernel) h') rfl) rfl rfl
    · exact fun σ i c h h' => pair_at (nm_at (by decide +kernel) h) (nm_at (by decide +kernel) h') rfl rfl
    · exact fun σ i h => pair_at (nm_at (by decide +kernel) h) rfl rfl rfl
    all_goals decide +kernel
end Mine

namespace Mine.P
open PySem PySem.Spec PyProof.Rows

/-! The machine folded: each construct's work on values already told stands behind a name, so that a symbolic run goes by equations that hold by definition and leaves no proof; only what rests on a fact leaves one. -/
noncomputable def isLo (sc : Names) (x : Str) : Bool := sc.lookup x == some .local
noncomputable def badN (x : Str) : Bool := x == ("__debug__" : Str) || x == ("__classdict__" : Str)
noncomputable def globN (T : Tabs) (x : Str) (b : Bool) : Option D := if b then T.gl x else none
noncomputable def isGl (sc : Names) (x : Str) : Bool := sc.lookup x == some .globalImplicit
noncomputable def nameV (T : Tabs) (sc : Names) (x : Str) (b : Bool) (o : Option D) : Option D := if b then none else (match o with
  | some d => some d
  | none => globN T x (isGl sc x))
noncomputable def bin2 (op : Operator) (X Y : Option D) : Option D := X.bind fun a => Y.bind fun b => binD op a b
noncomputable def negD : D → Option D
  | .int i => some (.int (-i))
  | _ => none
noncomputable def neg1 (X : Option D) : Option D := X.bind fun a => match a with | .int i => some (.int (-i)) | _ => none
noncomputable def andV (a : D) (Y : Option D) (t : Option Bool) : Option D := t.bind fun t => if t then Y else some a
noncomputable def orV (a : D) (Y : Option D) (t : Option Bool) : Option D := t.bind fun t => if t then some a else Y
noncomputable def and2 (X Y : Option D) : Option D := X.bind fun a => (truthD a).bind fun t => if t then Y else some a
noncomputable def or2 (X Y : Option D) : Option D := X.bind fun a => (truthD a).bind fun t => if t then some a else Y
noncomputable def boolD (o : Option Bool) : Option D := o.map .bool
noncomputable def cmp2 (op : CmpOp) (b : Bool) (X Y : Option D) : Option D := if b then none else X.bind fun a => Y.bind fun b => (cmpD op a b).map .bool
noncomputable def cmpT (op : CmpOp) (b : Bool) (X Y : Option D) : Option Bool := if b then none else X.bind fun a => Y.bind fun b => cmpD op a b
noncomputable def if3 (t : Option Bool) (X Y : Option D) : Option D := t.bind fun c => if c then X else Y
noncomputable def slice4 (X L U K : Option D) : Option D := X.bind fun d => L.bind fun l => U.bind fun u => K.bind fun k => sliceD d l u k
noncomputable def item2 (X Y : Option D) : Option D := X.bind fun d => Y.bind fun j => match j with | .int j => itemD d j | _ => none
noncomputable def call1 (T : Tabs) (sc : Names) (σ : Vars) (f : Str) (A : Option (List D)) : Option D := A.bind fun ds => callD T sc σ f ds
noncomputable def gen1 (T : Tabs) (sc : Names) (σ : Vars) (f : Str) (A : Option (List D)) : Option (List D) := A.bind (genD T sc σ f)
noncomputable def meth1 (m : Str) (b : Bool) (X : Option D) (A : Option (List D)) : Option D := if b then X.bind fun d => A.bind fun ds => methD m d ds else none
noncomputable def methOk (o : Expr) (ap p : Pos) (n : Nat) : Bool := plainBase o && ap.endLine == p.line && decide (n < 5)
noncomputable def consE (b : Bool) (X : Option D) (A : Option (List D)) : Option (List D) := if b then none else X.bind fun d => A.map (d :: ·)
noncomputable def lst1 (A : Option (List D)) : Option D := A.bind fun ds => if ds.length ≤ sizeLine then some (.list ds) else none
noncomputable def tup1 (A : Option (List D)) : Option D := A.bind fun ds => if ds.length ≤ sizeLine then some (.tuple ds) else none
noncomputable def not1 (X : Option Bool) : Option Bool := X.map (!·)
noncomputable def andB (X : Option Bool) (Y : Option Bool) : Option Bool := X.bind fun b => if b then Y else some false
noncomputable def orB (X : Option Bool) (Y : Option Bool) : Option Bool := X.bind fun b => if b then some true else Y
noncomputable def tru1 (X : Option D) : Option Bool := X.bind truthD
noncomputable def ret1 (X : Option D) : Option Out := X.map .ret
noncomputable def iterN (X : Option D) : Option (Bool × List D) := X.bind itemsB
noncomputable def iterC (G : Option (List D)) (X : Option D) : Option (Bool × List D) := match G with
  | some ds => some (false, ds)
  | none => X.bind itemsB
noncomputable def contL (rec : RS) (sc : Names) (r : List Stmt) : Out → Option Out
  | .next ow σ => runL rec sc ow σ r
  | .ret d => some (.ret d)
noncomputable def forRun (T : Tabs) (e : RE × RT) (w n : Nat) (sc : Names) (b : List Stmt) : Option Str → Vars → Option Out := fun ow σ => runL (evX T e w n) sc ow σ b
noncomputable def tstRun (e : RE × RT) (sc : Names) (t : Expr) : Vars → Option Bool := fun σ => e.2 sc σ t
noncomputable def ifS (rec : RS) (sc : Names) (ow : Option Str) (σ : Vars) (b o : List Stmt) (t : Option Bool) : Option Out := t.bind fun c => runL rec sc ow σ (if c then b else o)
noncomputable def forS (T : Tabs) (e : RE × RT) (w n : Nat) (sc : Names) (b : List Stmt) (t : Expr) (ow : Option Str) (σ : Vars) (I : Option (Bool × List D)) : Option Out := I.bind fun q => if q.1 && ow.isSome then none else runF (forRun T e w n sc b) sc t q.2 ow σ
noncomputable def stoV (a b : Bool) (ow : Option Str) (σ : Vars) (x : Str) (d : D) : Option Out := if a && b then some (.next ow (setV x d σ)) else none
noncomputable def asg1 (sc : Names) (ow : Option Str) (σ : Vars) (x : Str) (X : Option D) : Option Out := X.bind fun d => sto sc ow σ x d
noncomputable def asgW (b : Bool) (fr : Option (List D)) (sc : Names) (ow : Option Str) (σ : Vars) (x : Str) (X : Option D) : Option Out := if b then none else (match fr with
  | some ds => if ds.all scalarD then some (.next (some x) (setV x (.list ds) σ)) else none
  | none => X.bind fun d => sto sc ow σ x d)
noncomputable def asN (b : Bool) (x : Str) (d : D) (σ : Vars) : Option Vars := if b then some (setV x d σ) else none
noncomputable def aug1 (sc : Names) (ow : Option Str) (σ : Vars) (x : Str) (op : Operator) (X Y : Option D) : Option Out := X.bind fun d => Y.bind fun d' => match op, d, d' with
    | .Add, .int a, .int b => sto sc ow σ x (.int (a + b))
    | .Sub, .int a, .int b => sto sc ow σ x (.int (a - b))
    | _, _, _ => none
noncomputable def augB (b : Bool) (o : Option Out) : Option Out := if b then none else o
noncomputable def compF (T : Tabs) (n : Nat) (sc : Names) (σ : Vars) (elt : Expr) (g : Comprehension) (scope : Scope) (b : Bool) (I : Option (Bool × List D)) : Option D :=
  if b then I.bind fun p => if p.2.length ≤ sizeLine then (evComp (ev T n).1 (ev T n).2 (compNames scope.names) g.target elt g.ifs p.2 (compVars σ scope.names)).map .list else none else none
/-- the frame's names are among these -/
noncomputable def keysIn (L : List Str) : Vars → Bool
  | [] => true
  | p :: r => L.contains p.1 && keysIn L r

theorem lookup_no {L : List Str} {x : Str} (hx : L.contains x = false) : ∀ {σ : Vars}, keysIn L σ = true → σ.lookup x = none
  | [], _ => rfl
  | (y, d) :: r, h => by
    unfold keysIn at h
    rw [Bool.and_eq_true] at h
    have : (x == y) = false := by
      rw [beq_eq_false_iff_ne]
      rintro rfl
      rw [h.1] at hx
      cases hx
    rw [List.lookup_cons, this]
    exact lookup_no hx h.2


variable (T : Tabs) (n : Nat) (sc : Names) (σ : Vars)
@[local simp] theorem g_const (c : Const) (k : Nat) (p : Pos) : (ev T (n + 1)).1 sc σ (.Constant c k p) = constD c := rfl
@[local simp] theorem g_name (x : Str) (p : Pos) : (ev T (n + 1)).1 sc σ (.Name x p) = nameV T sc x (badN x) (σ.lookup x) := rfl
@[local simp] theorem g_bin (l r : Expr) (op : Operator) (p : Pos) : (ev T (n + 1)).1 sc σ (.BinOp l op r p) = bin2 op ((ev T n).1 sc σ l) ((ev T n).1 sc σ r) := rfl
@[local simp] theorem g_usub (x : Expr) (p : Pos) : (ev T (n + 1)).1 sc σ (.UnaryOp .USub x p) = neg1 ((ev T n).1 sc σ x) := rfl
@[local simp] theorem g_and (x y : Expr) (p : Pos) : (ev T (n + 1)).1 sc σ (.BoolOp .And [x, y] p) = and2 ((ev T n).1 sc σ x) ((ev T n).1 sc σ y) := rfl
@[local simp] theorem g_or (x y : Expr) (p : Pos) : (ev T (n + 1)).1 sc σ (.BoolOp .Or [x, y] p) = or2 ((ev T n).1 sc σ x) ((ev T n).1 sc σ y) := rfl
@[local simp] theorem g_cmp (l r : Expr) (op : CmpOp) (p : Pos) : (ev T (n + 1)).1 sc σ (.Compare l [op] [r] p) = cmp2 op (behindInMarks op r) ((ev T n).1 sc σ l) ((ev T n).1 sc σ r) := rfl
@[local simp] theorem g_if (t b o : Expr) (p : Pos) : (ev T (n + 1)).1 sc σ (.IfExp t b o p) = if3 ((ev T n).2 sc σ t) ((ev T n).1 sc σ b) ((ev T n).1 sc σ o) := rfl
@[local simp] theorem g_slice (v : Expr) (lo hi st : Option Expr) (q p : Pos) : (ev T (n + 1)).1 sc σ (.Subscript v (.Slice lo hi st q) p) = slice4 ((ev T n).1 sc σ v) (optE ((ev T n).1 sc σ) lo) (optE ((ev T n).1 sc σ) hi) (optE ((ev T n).1 sc σ) st) := rfl
@[local simp] theorem g_itemN (v : Expr) (x : Str) (q p : Pos) : (ev T (n + 1)).1 sc σ (.Subscript v (.Name x q) p) = item2 ((ev T n).1 sc σ v) ((ev T n).1 sc σ (.Name x q)) := rfl
@[local simp] theorem g_itemC (v : Expr) (c : Const) (k : Nat) (q p : Pos) : (ev T (n + 1)).1 sc σ (.Subscript v (.Constant c k q) p) = item2 ((ev T n).1 sc σ v) ((ev T n).1 sc σ (.Constant c k q)) := rfl
@[local simp] theorem g_itemB (v l r : Expr) (op : Operator) (q p : Pos) : (ev T (n + 1)).1 sc σ (.Subscript v (.BinOp l op r q) p) = item2 ((ev T n).1 sc σ v) ((ev T n).1 sc σ (.BinOp l op r q)) := rfl
@[local simp] theorem g_call (f : Str) (fp : Pos) (args : List Expr) (p : Pos) : (ev T (n + 1)).1 sc σ (.Call (.Name f fp) args [] p) = call1 T sc σ f (evEs ((ev T n).1 sc σ) args) := rfl
@[local simp] theorem g_meth (o : Expr) (m : Str) (ap : Pos) (args : List Expr) (p : Pos) : (ev T (n + 1)).1 sc σ (.Call (.Attribute o m ap) args [] p) = meth1 m (methOk o ap p args.length) ((ev T n).1 sc σ o) (evEs ((ev T n).1 sc σ) args) := rfl
@[local simp] theorem g_list (es : List Expr) (p : Pos) : (ev T (n + 1)).1 sc σ (.List es p) = lst1 (evEs ((ev T n).1 sc σ) es) := rfl
@[local simp] theorem g_tuple (es : List Expr) (k : Nat) (p : Pos) : (ev T (n + 1)).1 sc σ (.Tuple es k p) = tup1 (evEs ((ev T n).1 sc σ) es) := rfl
@[local simp] theorem g_comp (elt : Expr) (g : Comprehension) (s : Scope) (p : Pos) : (ev T (n + 1)).1 sc σ (.ListComp elt [g] s p) = compF T n sc σ elt g s (compOk sc s g.target && notSet g.iter && g.is_async == 0) (evI T (ev T n).1 sc σ g.iter) := rfl
@[local simp] theorem g_compX (elt : Expr) (g : Comprehension) (s : Scope) (p : Pos) : compE T (ev T n).1 (ev T n).2 sc σ (.ListComp elt [g] s p) = compF T n sc σ elt g s (compOk sc s g.target && notSet g.iter && g.is_async == 0) (evI T (ev T n).1 sc σ g.iter) := rfl
@[local simp] theorem h_not (x : Expr) (p : Pos) : (ev T (n + 1)).2 sc σ (.UnaryOp .Not x p) = not1 ((ev T n).2 sc σ x) := rfl
@[local simp] theorem h_bool (op : BoolOp) (vs : List Expr) (p : Pos) : (ev T (n + 1)).2 sc σ (.BoolOp op vs p) = allT ((ev T n).2 sc σ) op vs := rfl
@[local simp] theorem h_cmp (l r : Expr) (op : CmpOp) (p : Pos) : (ev T (n + 1)).2 sc σ (.Compare l [op] [r] p) = cmpT op (behindInMarks op r) ((ev T n).1 sc σ l) ((ev T n).1 sc σ r) := rfl
@[local simp] theorem h_name (x : Str) (p : Pos) : (ev T (n + 1)).2 sc σ (.Name x p) = tru1 ((ev T n).1 sc σ (.Name x p)) := rfl
@[local simp] theorem h_sub (f i : Expr) (p : Pos) : (ev T (n + 1)).2 sc σ (.Subscript f i p) = tru1 ((ev T n).1 sc σ (.Subscript f i p)) := rfl
variable (e : RE × RT) (w : Nat) (ow : Option Str)
theorem y_ret (v : Expr) (p : Pos) : evX T e w (n + 1) sc ow σ (.Return (some v) p) = ret1 (e.1 sc σ v) := rfl
theorem y_if (t : Expr) (b o : List Stmt) (p : Pos) : evX T e w (n + 1) sc ow σ (.If t b o p) = ifS (evX T e w n) sc ow σ b o (e.2 sc σ t) := rfl
theorem z_ret (v : Expr) (p : Pos) : evX T e w (n + 1) sc ow σ (.Return (some v) p) = ret1 (e.1 sc σ v) := Eq.trans rfl rfl
theorem z_if (t : Expr) (b o : List Stmt) (p : Pos) : evX T e w (n + 1) sc ow σ (.If t b o p) = ifS (evX T e w n) sc ow σ b o (e.2 sc σ t) := Eq.trans rfl rfl
theorem y_assign (ts : List Expr) (v : Expr) (p : Pos) : evX T e w (n + 1) sc ow σ (.Assign ts v p) = assignX T e.1 e.2 sc ow σ ts v := rfl
@[local simp] theorem y_aug (x : Str) (q : Pos) (op : Operator) (v : Expr) (p : Pos) : evX T e w (n + 1) sc ow σ (.AugAssign (.Name x q) op v p) = augX e.1 sc ow σ x op v := rfl
@[local simp] theorem y_app (x m : Str) (q ap cp p : Pos) (a : Expr) : evX T e w (n + 1) sc ow σ (.Expr (.Call (.Attribute (.Name x q) m ap) [a] [] cp) p) = appendX e.1 sc ow σ x m ap cp a := rfl
@[local simp] theorem y_forN (t : Expr) (x : Str) (q : Pos) (b : List Stmt) (p : Pos) : evX T e w (n + 1) sc ow σ (.For t (.Name x q) b [] p) = forS T e w n sc b t ow σ (evI T e.1 sc σ (.Name x q)) := rfl
@[local simp] theorem y_forC (t f : Expr) (a : List Expr) (k : List Keyword) (q : Pos) (b : List Stmt) (p : Pos) : evX T e w (n + 1) sc ow σ (.For t (.Call f a k q) b [] p) = forS T e w n sc b t ow σ (evI T e.1 sc σ (.Call f a k q)) := rfl
variable (rec : RE) (recT : RT) (f : Expr → Option D) (fT : Expr → Option Bool)
@[local simp] theorem i_name (x : Str) (q : Pos) : evI T rec sc σ (.Name x q) = iterN (rec sc σ (.Name x q)) := rfl
@[local simp] theorem i_sub (a b : Expr) (q : Pos) : evI T rec sc σ (.Subscript a b q) = iterN (rec sc σ (.Subscript a b q)) := rfl
@[local simp] theorem i_call (x : Str) (fp : Pos) (args : List Expr) (q : Pos) : evI T rec sc σ (.Call (.Name x fp) args [] q) = iterC (gen1 T sc σ x (evEs (rec sc σ) args)) (rec sc σ (.Call (.Name x fp) args [] q)) := rfl
/-! values told -/
@[local simp] theorem nameV_l (x : Str) (d : D) : nameV T sc x false (some d) = some d := rfl
theorem nameV_g (x : Str) : nameV T sc x false none = globN T x (isGl sc x) := rfl
@[local simp] theorem const_i (i : Int) : constD (.int i) = some (.int i) := rfl
@[local simp] theorem const_s (l : List Nat) : constD (.str ⟨⟨l⟩⟩) = some (.str l) := rfl
@[local simp] theorem const_b (b : Bool) : constD (.bool b) = some (.bool b) := rfl
@[local simp] theorem const_n : constD .none = some .none := rfl
variable (a b : D) (X Y : Option D) (A : Option (List D)) (ds : List D) (i j k : Int)
@[local simp] theorem bin2_s (op : Operator) : bin2 op (some a) (some b) = binD op a b := rfl
@[local simp] theorem neg1_s : neg1 (some (.int i)) = some (.int (-i)) := rfl
@[local simp] theorem and2_s : and2 (some a) Y = andV a Y (truthD a) := rfl
@[local simp] theorem or2_s : or2 (some a) Y = orV a Y (truthD a) := rfl
@[local simp] theorem andV_s (c : Bool) : andV a Y (some c) = if c then Y else some a := rfl
@[local simp] theorem orV_s (c : Bool) : orV a Y (some c) = if c then some a else Y := rfl
@[local simp] theorem cmp2_s (op : CmpOp) : cmp2 op false (some a) (some b) = boolD (cmpD op a b) := rfl
@[local simp] theorem boolD_s (c : Bool) : boolD (some c) = some (.bool c) := rfl
@[local simp] theorem cmpT_s (op : CmpOp) : cmpT op false (some a) (some b) = cmpD op a b := rfl
@[local simp] theorem if3_s (c : Bool) : if3 (some c) X Y = if c then X else Y := rfl
@[local simp] theorem slice4_s (d l u m : D) : slice4 (some d) (some l) (some u) (some m) = sliceD d l u m := rfl
@[local simp] theorem item2_s : item2 (some a) (some (.int j)) = itemD a j := rfl
@[local simp] theorem call1_s (x : Str) : call1 T sc σ x (some ds) = callD T sc σ x ds := rfl
@[local simp] theorem gen1_s (x : Str) : gen1 T sc σ x (some ds) = genD T sc σ x ds := rfl
@[local simp] theorem meth1_s (m : Str) : meth1 m true (some a) (some ds) = methD m a ds := rfl
@[local simp] theorem consE_s : consE false (some a) (some ds) = some (a :: ds) := rfl
@[local simp] theorem evEs_nil : evEs f [] = some [] := rfl
@[local simp] theorem evEs_cons (x : Expr) (r : List Expr) : evEs f (x :: r) = consE (isStar x) (f x) (evEs f r) := rfl
@[local simp] theorem lst1_s : lst1 (some ds) = if ds.length ≤ 16777216 then some (.list ds) else none := rfl
@[local simp] theorem tup1_s : tup1 (some ds) = if ds.length ≤ 16777216 then some (.tuple ds) else none := rfl
@[local simp] theorem not1_s (c : Bool) : not1 (some c) = some (!c) := rfl
@[local simp] theorem allT_an : allT fT .And [] = some true := rfl
@[local simp] theorem allT_on : allT fT .Or [] = some false := rfl
@[local simp] theorem allT_ac (x : Expr) (r : List Expr) : allT fT .And (x :: r) = andB (fT x) (allT fT .And r) := rfl
@[local simp] theorem allT_oc (x : Expr) (r : List Expr) : allT fT .Or (x :: r) = orB (fT x) (allT fT .Or r) := rfl
@[local simp] theorem andB_s (c : Bool) (Z : Option Bool) : andB (some c) Z = if c then Z else some false := rfl
@[local simp] theorem orB_s (c : Bool) (Z : Option Bool) : orB (some c) Z = if c then some true else Z := rfl
@[local simp] theorem tru1_s : tru1 (some a) = truthD a := rfl
@[local simp] theorem truth_b (c : Bool) : truthD (.bool c) = some c := rfl
@[local simp] theorem truth_i : truthD (.int i) = some (i != 0) := rfl
@[local simp] theorem truth_s (x : List Nat) : truthD (.str x) = if x.length ≤ 16777216 then some (x.length != 0) else none := rfl
@[local simp] theorem ret1_s : ret1 (some a) = some (.ret a) := rfl
@[local simp] theorem optE_n : optE f none = some .none := rfl
@[local simp] theorem optE_s (x : Expr) : optE f (some x) = f x := rfl
@[local simp] theorem iterN_s : iterN (some a) = itemsB a := rfl
@[local simp] theorem iterC_n : iterC none (some a) = itemsB a := rfl
@[local simp] theorem iterC_s : iterC (some ds) X = some (false, ds) := rfl
@[local simp] theorem items_str (x : List Nat) : itemsB (.str x) = some (false, x.map fun c => .str [c]) := rfl
@[local simp] theorem items_range (h : rangeOk i j k = true) : itemsB (.range i j k) = some (false, (rangeL i j k).map .int) := by
  show ((if rangeOk i j k then some ((rangeL i j k).map D.int) else none).map fun ds => (isListD (.range i j k), ds)) = _
  rw [if_pos h]
  rfl
theorem items_list (h : ds.all scalarD = true) : itemsB (.list ds) = some (true, ds) := by
  show ((if ds.all scalarD then some ds else none).map fun l => (isListD (.list ds), l)) = _
  rw [if_pos h]
  rfl
theorem ints_scalar (l : List Int) : (l.map D.int).all scalarD = true := by
  rw [List.all_map, List.all_eq_true]
  intro _ _
  rfl
theorem strs_scalar (l : List (List Nat)) : (l.map D.str).all scalarD = true := by
  rw [List.all_map, List.all_eq_true]
  intro _ _
  rfl
@[local simp] theorem items_ints (l : List Int) : itemsB (.list (l.map D.int)) = some (true, l.map D.int) := items_list _ (ints_scalar l)
@[local simp] theorem items_strs (l : List (List Nat)) : itemsB (.list (l.map D.str)) = some (true, l.map D.str) := items_list _ (strs_scalar l)
/-! operators -/
variable (x y : List Nat) (l m : List D) (u v : Nat)
@[local simp] theorem add_i : binD .Add (.int i) (.int j) = some (.int (i + j)) := rfl
@[local simp] theorem sub_i : binD .Sub (.int i) (.int j) = some (.int (i - j)) := rfl
@[local simp] theorem mul_i : binD .Mult (.int i) (.int j) = if smallI i then some (.int (i * j)) else none := rfl
@[local simp] theorem div_i : binD .FloorDiv (.int i) (.int j) = if j = 0 ∨ smallI j = false then none else some (.int (i.fdiv j)) := rfl
@[local simp] theorem mod_i : binD .Mod (.int i) (.int j) = if j = 0 then none else some (.int (i.fmod j)) := rfl
@[local simp] theorem add_s : binD .Add (.str x) (.str y) = if (x ++ y).length ≤ 16777216 then some (.str (x ++ y)) else none := rfl
@[local simp] theorem mul_s : binD .Mult (.str x) (.int i) = if 0 < i ∧ i ≤ 100 ∧ x.length ≤ 1000 then some (.str (List.replicate i.toNat x).flatten) else none := rfl
@[local simp] theorem eq_i : cmpD .Eq (.int i) (.int j) = some (i == j) := rfl
@[local simp] theorem ne_i : cmpD .NotEq (.int i) (.int j) = some (i != j) := rfl
@[local simp] theorem lt_i : cmpD .Lt (.int i) (.int j) = some (decide (i < j)) := rfl
@[local simp] theorem gt_i : cmpD .Gt (.int i) (.int j) = some (decide (j < i)) := rfl
@[local simp] theorem eq_s : cmpD .Eq (.str x) (.str y) = some (x == y) := rfl
@[local simp] theorem le_s : cmpD .LtE (.str [u]) (.str [v]) = some (decide (u ≤ v)) := rfl
@[local simp] theorem in_s : cmpD .In (.str x) (.tuple l) = (strsOf l).map (·.any (· == x)) := rfl
@[local simp] theorem notin_s : cmpD .NotIn (.str [u]) (.str x) = some (!decide (u ∈ x)) := rfl
@[local simp] theorem is_in : cmpD .Is (.int i) .none = some false := rfl
@[local simp] theorem is_nn : cmpD .Is .none .none = some true := rfl
@[local simp] theorem is_b (c d : Bool) : cmpD .Is (.bool c) (.bool d) = some (c == d) := rfl
@[local simp] theorem isnt_b (c d : Bool) : cmpD .IsNot (.bool c) (.bool d) = some (!(c == d)) := rfl
@[local simp] theorem fn_lens : fnD (.builtin "len") [.str x] = if x.length ≤ 16777216 then some (.int x.length) else none := rfl
@[local simp] theorem fn_lenl : fnD (.builtin "len") [.list l] = if l.length ≤ 16777216 then some (.int l.length) else none := rfl
@[local simp] theorem fn_sum : fnD (.builtin "sum") [.list l] = (intsOf l).map fun ns => .int ns.sum := rfl
@[local simp] theorem fn_min : fnD (.builtin "min") [.int i, .int j] = some (.int (if j < i then j else i)) := rfl
@[local simp] theorem fn_range1 (h : smallI i = true) : fnD (.type "range") [.int i] = some (.range 0 i 1) := by
  show (if ("range" : String) == "range" ∧ smallI i then some (D.range 0 i 1) else none) = _
  rw [if_pos ⟨by decide +kernel, h⟩]
@[local simp] theorem fn_chr (h : 0 ≤ i ∧ i ≤ 1114111) : fnD (.builtin "chr") [.int i] = some (.str [i.toNat]) := by
  show (if ("chr" : String) == "chr" ∧ 0 ≤ i ∧ i ≤ 1114111 then some (D.str [i.toNat]) else none) = _
  rw [if_pos ⟨by decide +kernel, h⟩]
@[local simp] theorem fn_range3 (h : 0 < k) (h2 : smallI k = true) : fnD (.type "range") [.int i, .int j, .int k] = some (.range i j k) := by
  show (if ("range" : String) == "range" ∧ 0 < k ∧ smallI k then some (D.range i j k) else none) = _
  rw [if_pos ⟨by decide +kernel, h, h2⟩]
@[local simp] theorem meth_lower : methD (⟨⟨[108, 111, 119, 101, 114]⟩⟩ : Str) (.str x) [] = fnD (.builtin "str.lower") [.str x] := rfl
@[local simp] theorem meth_join : methD (⟨⟨[106, 111, 105, 110]⟩⟩ : Str) (.str x) [a] = fnD (.builtin "str.join") [.str x, a] := rfl
@[local simp] theorem fn_lower : fnD (.builtin "str.lower") [.str x] = if (Txt.lower ⟨x.toArray⟩).length ≤ 16777216 then some (.str (Txt.lower ⟨x.toArray⟩).cps.toList) else none := rfl
@[local simp] theorem fn_join : fnD (.builtin "str.join") [.str [], .list l] = (strsOf l).bind fun xs => if xs.flatten.length ≤ 16777216 then some (.str xs.flatten) else none := rfl
@[local simp] theorem bi_sum : biV (⟨⟨[115, 117, 109]⟩⟩ : Str) = some (.builtin "sum") := rfl
@[local simp] theorem bi_list : biV (⟨⟨[108, 105, 115, 116]⟩⟩ : Str) = some (.type "list") := rfl
@[local simp] theorem gl_size : glD (⟨⟨[95, 77, 65, 88, 95, 83, 84, 82, 73, 78, 71, 95, 83, 73, 90, 69]⟩⟩ : Str) = some (.int 40) := rfl
@[local simp] theorem gl_move : glD (⟨⟨[95, 77, 79, 86, 69, 95, 67, 79, 83, 84]⟩⟩ : Str) = some (.int 2) := rfl
/-! the text's shapes -/
variable (p q : Pos) (z z' z'' : Expr) (zs : List Expr) (s : Str) (op : CmpOp) (nn : Nat)
@[local simp] theorem st_n : isStar (.Name s p) = false := rfl
@[local simp] theorem st_c (c : Const) : isStar (.Constant c nn p) = false := rfl
@[local simp] theorem st_b (o : Operator) : isStar (.BinOp z o z' p) = false := rfl
@[local simp] theorem st_s : isStar (.Subscript z z' p) = false := rfl
@[local simp] theorem st_f (k : List Keyword) : isStar (.Call z zs k p) = false := rfl
@[local simp] theorem st_l (c : List Comprehension) (r : Scope) : isStar (.ListComp z c r p) = false := rfl
@[local simp] theorem bm_n : behindInMarks op (.Name s p) = false := rfl
@[local simp] theorem bm_c (c : Const) : behindInMarks op (.Constant c nn p) = false := rfl
@[local simp] theorem bm_b (o : Operator) : behindInMarks op (.BinOp z o z' p) = false := rfl
@[local simp] theorem bm_s : behindInMarks op (.Subscript z z' p) = false := rfl
@[local simp] theorem bm_f (k : List Keyword) : behindInMarks op (.Call z zs k p) = false := rfl
@[local simp] theorem bm_t : behindInMarks op (.Tuple zs nn p) = false := rfl
@[local simp] theorem mo_n0 (o a1 b1 c1 d1 : Nat) (a2 b2 d2 : Nat) (h : c1 = a2) : methOk (.Name s p) ⟨o, a1, c1, b1⟩ ⟨a2, b2, d1, d2⟩ 0 = true := by
  subst h
  show (true && (_ == _) && true) = true
  rw [beq_self_eq_true]; rfl
@[local simp] theorem mo_c (o a1 b1 c1 d1 : Nat) (a2 b2 d2 : Nat) (c : Const) (h : c1 = a2) : methOk (.Constant c nn p) ⟨o, a1, c1, b1⟩ ⟨a2, b2, d1, d2⟩ 1 = true := by
  subst h
  show (true && (_ == _) && true) = true
  rw [beq_self_eq_true]; rfl
/-! statements -/
theorem bindR {α β : Type} (a : α) (f : α → Option β) : (some a).bind f = f a := rfl
theorem r_nil (rec : RS) : runL rec sc ow σ [] = some (.next ow σ) := rfl
theorem r_cons (rec : RS) (st : Stmt) (r : List Stmt) : runL rec sc ow σ (st :: r) = (rec sc ow σ st).bind (contL rec sc r) := rfl
theorem c_next (rec : RS) (r : List Stmt) : contL rec sc r (.next ow σ) = runL rec sc ow σ r := rfl
theorem c_ret (rec : RS) (r : List Stmt) (d : D) : contL rec sc r (.ret d) = some (.ret d) := rfl
@[local simp] theorem ifS_s (rec : RS) (b o : List Stmt) (c : Bool) : ifS rec sc ow σ b o (some c) = if c then runL rec sc ow σ b else runL rec sc ow σ o := by
  cases c <;> rfl
@[local simp] theorem forS_n (b : List Stmt) (t : Expr) : forS T e w nn sc b t ow σ (some (false, ds)) = runF (forRun T e w nn sc b) sc t ds ow σ := rfl
@[local simp] theorem forS_l (b : List Stmt) (t : Expr) : forS T e w nn sc b t none σ (some (true, ds)) = runF (forRun T e w nn sc b) sc t ds none σ := rfl
@[local simp] theorem sto_v (d : D) : sto sc ow σ s d = stoV (storable sc s) (storeOk ow s d) ow σ s d := rfl
@[local simp] theorem stoV_t (d : D) : stoV true true ow σ s d = some (.next ow (setV s d σ)) := rfl
@[local simp] theorem so_n (d : D) : storeOk none s d = true := rfl
@[local simp] theorem asg1_s (d : D) : asg1 sc ow σ s (some d) = sto sc ow σ s d := rfl
@[local simp] theorem asN_t (d : D) : asN true s d σ = some (setV s d σ) := rfl
@[local simp] theorem as_n (d : D) : assignD sc (.Name s p) d σ = asN (storable sc s) s d σ := rfl
@[local simp] theorem as_2 {s s' : Str} (p p' p'' : Pos) : assignD sc (.Tuple [.Name s p, .Name s' p'] nn p'') (.tuple [a, b]) σ = if storable sc s && storable sc s' then some (setV s' b (setV s a σ)) else none := by
  show (if 2 = 2 ∧ (storable sc s && (storable sc s' && true)) = true then some (setV s' b (setV s a σ)) else none) = _
  simp
@[local simp] theorem asg_c (elt : Expr) (c : List Comprehension) (r : Scope) : assignX T rec recT sc ow σ [.Name s p] (.ListComp elt c r q) = asg1 sc ow σ s (compE T rec recT sc σ (.ListComp elt c r q)) := rfl
theorem asg_gen {v : Expr} (hl : ∀ elt c r q, v ≠ .ListComp elt c r q) : assignX T rec recT sc ow σ [.Name s p] v = asgW (isCompE v) (if ow.isNone && sc.lookup s == some .local && restScalar s σ then freshE T rec sc σ v else none) sc ow σ s (rec sc σ v) := by
  cases v <;> first | rfl | exact absurd rfl (hl _ _ _ _)
theorem asg_fr {v : Expr} (hc : isCompE v = false) (hf : freshE T rec sc σ v = none) : assignX T rec recT sc ow σ [.Name s p] v = asg1 sc ow σ s (rec sc σ v) := by
  rw [asg_gen _ _ _ _ _ _ _ _ (fun _ _ _ _ e => by rw [e] at hc; cases hc), hc, hf, ite_self]
  rfl
@[local simp] theorem asg_n (y : Str) : assignX T rec recT sc ow σ [.Name s p] (.Name y q) = asg1 sc ow σ s (rec sc σ (.Name y q)) := asg_fr _ _ _ _ _ _ _ _ rfl rfl
@[local simp] theorem asg_k (c : Const) : assignX T rec recT sc ow σ [.Name s p] (.Constant c nn q) = asg1 sc ow σ s (rec sc σ (.Constant c nn q)) := asg_fr _ _ _ _ _ _ _ _ rfl rfl
@[local simp] theorem asg_b (o : Operator) : assignX T rec recT sc ow σ [.Name s p] (.BinOp z o z' q) = asg1 sc ow σ s (rec sc σ (.BinOp z o z' q)) := asg_fr _ _ _ _ _ _ _ _ rfl rfl
@[local simp] theorem asg_s : assignX T rec recT sc ow σ [.Name s p] (.Subscript z z' q) = asg1 sc ow σ s (rec sc σ (.Subscript z z' q)) := asg_fr _ _ _ _ _ _ _ _ rfl rfl
@[local simp] theorem asg_i : assignX T rec recT sc ow σ [.Name s p] (.IfExp z z' z'' q) = asg1 sc ow σ s (rec sc σ (.IfExp z z' z'' q)) := asg_fr _ _ _ _ _ _ _ _ rfl rfl
@[local simp] theorem asg_m (o : Expr) (m : Str) (ap : Pos) (k : List Keyword) : assignX T rec recT sc ow σ [.Name s p] (.Call (.Attribute o m ap) zs k q) = asg1 sc ow σ s (rec sc σ (.Call (.Attribute o m ap) zs k q)) := asg_fr _ _ _ _ _ _ _ _ rfl rfl
@[local simp] theorem asg_f (y : Str) (p' : Pos) (h : (y == ("list" : Str)) = false) : assignX T rec recT sc ow σ [.Name s p] (.Call (.Name y p') zs [] q) = asg1 sc ow σ s (rec sc σ (.Call (.Name y p') zs [] q)) := by
  refine asg_fr _ _ _ _ _ _ _ _ rfl ?_
  match zs with
  | [] => rfl
  | [a] =>
    show (if (y == ("list" : Str) && T.bi y == some (.type "list") && !(σ.lookup y).isSome && sc.lookup y == some .globalImplicit && !isStar a) = true then _ else none) = none
    simp [h]
  | _ :: _ :: _ => rfl
@[local simp] theorem aug_x (o : Operator) (v : Expr) : augX rec sc ow σ s o v = augB (s == ("__classdict__" : Str)) (aug1 sc ow σ s o (σ.lookup s) (rec sc σ v)) := rfl
@[local simp] theorem augB_f (o : Option Out) : augB false o = o := rfl
@[local simp] theorem aug1_a : aug1 sc ow σ s .Add (some (.int i)) (some (.int j)) = sto sc ow σ s (.int (i + j)) := rfl
@[local simp] theorem aug1_s : aug1 sc ow σ s .Sub (some (.int i)) (some (.int j)) = sto sc ow σ s (.int (i - j)) := rfl

theorem call_bi {T : Tabs} {sc : Names} {σ : Vars} {L : List Str} {x : Str} {ds : List D} (v : Value) (hk : keysIn L σ = true) (hx : L.contains x = false) (hg : isGl sc x = true) (hd : badN x = false) (hb : T.bi x = some v) : callD T sc σ x ds = fnD v ds := by
  have e := lookup_no hx hk
  unfold badN at hd
  unfold isGl at hg
  rw [Bool.or_eq_false_iff] at hd
  rw [beq_iff_eq] at hg
  unfold callD
  rw [hd.1, e, hg, hb]
  rfl
theorem call_fn {T : Tabs} {sc : Names} {σ : Vars} {L : List Str} {x : Str} {ds : List D} (hk : keysIn L σ = true) (hx : L.contains x = false) (hg : isGl sc x = true) (hd : badN x = false) (hb : T.bi x = none) : callD T sc σ x ds = T.fn x ds := by
  have e := lookup_no hx hk
  unfold badN at hd
  unfold isGl at hg
  rw [Bool.or_eq_false_iff] at hd
  rw [beq_iff_eq] at hg
  unfold callD
  rw [hd.1, e, hg, hb]
  rfl
theorem gen_fn {T : Tabs} {sc : Names} {σ : Vars} {L : List Str} {x : Str} {ds : List D} (hk : keysIn L σ = true) (hx : L.contains x = false) (hg : isGl sc x = true) (hd : badN x = false) : genD T sc σ x ds = T.gn x ds := by
  have e := lookup_no hx hk
  unfold badN at hd
  unfold isGl at hg
  rw [Bool.or_eq_false_iff] at hd
  rw [beq_iff_eq] at hg
  unfold genD
  rw [hd.1, e, hg]
  rfl
theorem glob_at {T : Tabs} {sc : Names} {σ : Vars} {L : List Str} {x : Str} (hk : keysIn L σ = true) (hx : L.contains x = false) (hg : isGl sc x = true) : nameV T sc x false (σ.lookup x) = T.gl x := by
  rw [lookup_no hx hk, nameV_g, hg]
  rfl
noncomputable def asgT (sc : Names) (ow : Option Str) (σ : Vars) (A : Option (List D)) (N : Option (List Str)) : Option Out := N.bind fun names => A.bind fun ds => if names.length = ds.length ∧ ds.length ≤ sizeLine ∧ names.all (storable sc) ∧ (names.reverse.zip ds.reverse).all (fun p => storeOk ow p.1 p.2) then some (.next ow ((names.reverse.zip ds.reverse).foldl (fun σ p => setV p.1 p.2 σ) σ)) else none

variable (T : Tabs) (rec : RE) (recT : RT) (sc : Names) (ow : Option Str) (σ : Vars) (s s' s'' : Str) (u v w : Expr) (k k' : Nat) (p p' p'' q q' : Pos) (n : Nat)
@[local simp] theorem asg_t (ts vs : List Expr) : assignX T rec recT sc ow σ [.Tuple ts k q] (.Tuple vs k' q') = asgT sc ow σ (evEs (rec sc σ) vs) (swapN sc ts vs) := rfl
@[local simp] theorem asgT_2 (a b : D) : asgT sc none σ (some [a, b]) (some [s, s']) = if storable sc s && storable sc s' then some (.next none (setV s a (setV s' b σ))) else none := by
  simp [asgT, storeOk, sizeLine]
@[local simp] theorem asgT_3 (a b c : D) : asgT sc none σ (some [a, b, c]) (some [s, s', s'']) = if storable sc s && (storable sc s' && storable sc s'') then some (.next none (setV s a (setV s' b (setV s'' c σ)))) else none := by
  simp [asgT, storeOk, sizeLine]
theorem name_at {l : Nat} (h : isLo sc s = true) (hp : (p.line == l) = true) : nameIn sc l (.Name s p) = some s := by
  show (if (isLo sc s && p.line == l) = true then some s else none) = _
  rw [h, hp]; rfl
theorem swap_at {ts vs : List Expr} {N : List Str} {l : Nat} (h1 : (ts.length == 2 || ts.length == 3) = true) (h2 : vs.length = ts.length) (hl : (ts.head?.map (·.pos.line)).getD 0 = l) (hn : ts.filterMap (nameIn sc l) = N) (h3 : N.length = ts.length) (h4 : N.eraseDups = N)
    (hs : vs.any isStarB = false) (hf : vs.all (foldedForSure 8) = false) (hc : vs.all (constantsAlone 8) = false) : swapN sc ts vs = some N := by
  subst hl
  unfold swapN
  simp only [h1, h2, hs, hn, h3, h4, hf, hc, bne_self_eq_false, Bool.not_true, Bool.or_false, Bool.false_eq_true, if_false]
@[local simp] theorem swap_2 (h1 : isLo sc s = true) (h2 : isLo sc s' = true) (hp : (p'.line == p.line) = true) (hn : (s == s') = false) (hs : (isStarB u || isStarB v) = false) (hf : (foldedForSure 8 u && foldedForSure 8 v) = false) (hc : (constantsAlone 8 u && constantsAlone 8 v) = false) :
    swapN sc [.Name s p, .Name s' p'] [u, v] = some [s, s'] := by
  have n1 := name_at sc s p h1 (beq_self_eq_true p.line)
  have n2 := name_at sc s' p' h2 hp
  have m1 : ¬ s' = s := fun e => by rw [e] at hn; simp at hn
  exact swap_at (l := p.line) sc rfl rfl rfl (by rw [List.filterMap_cons_some n1, List.filterMap_cons_some n2]; rfl) rfl (by simp [List.eraseDups_cons, m1]) (by rw [← hs]; simp) (by rw [← hf]; simp) (by rw [← hc]; simp)
@[local simp] theorem swap_3 (h1 : isLo sc s = true) (h2 : isLo sc s' = true) (h3 : isLo sc s'' = true) (hp : (p'.line == p.line) = true) (hp' : (p''.line == p.line) = true) (hn : (s == s') = false) (hn' : (s == s'') = false) (hn'' : (s' == s'') = false) (hs : (isStarB u || isStarB v || isStarB w) = false) (hf : (foldedForSure 8 u && (foldedForSure 8 v && foldedForSure 8 w)) = false) (hc : (constantsAlone 8 u && (constantsAlone 8 v && constantsAlone 8 w)) = false) :
    swapN sc [.Name s p, .Name s' p', .Name s'' p''] [u, v, w] = some [s, s', s''] := by
  have n1 := name_at sc s p h1 (beq_self_eq_true p.line)
  have n2 := name_at sc s' p' h2 hp
  have n3 := name_at sc s'' p'' h3 hp'
  have m1 : ¬ s' = s := fun e => by rw [e] at hn; simp at hn
  have m2 : ¬ s'' = s := fun e => by rw [e] at hn'; simp at hn'
  have m3 : ¬ s'' = s' := fun e => by rw [e] at hn''; simp at hn''
  exact swap_at (l := p.line) sc rfl rfl rfl (by rw [List.filterMap_cons_some n1, List.filterMap_cons_some n2, List.filterMap_cons_some n3]; rfl) rfl (by simp [List.eraseDups_cons, m1, m2, m3]) (by rw [← hs]; simp [Bool.or_assoc]) (by rw [← hf]; simp) (by rw [← hc]; simp)
@[local simp] theorem sb_n : isStarB (.Name s p) = false := Eq.trans rfl rfl
@[local simp] theorem sb_c (c : Const) : isStarB (.Constant c n p) = false := Eq.trans rfl rfl
@[local simp] theorem sb_b (o : Operator) : isStarB (.BinOp u o v p) = false := Eq.trans rfl rfl
@[local simp] theorem sb_f (zs : List Expr) (k : List Keyword) : isStarB (.Call u zs k p) = false := Eq.trans rfl rfl
@[local simp] theorem ff_n : foldedForSure n (.Name s p) = false := by cases n <;> rfl
@[local simp] theorem ff_c (c : Const) : foldedForSure n (.Constant c k p) = true := by cases n <;> rfl
@[local simp] theorem ff_b (o : Operator) : foldedForSure n (.BinOp u o v p) = false := by cases n <;> rfl
@[local simp] theorem ca_n : constantsAlone (n + 1) (.Name s p) = (s == ("__debug__" : Str)) := Eq.trans rfl rfl
@[local simp] theorem ca_c (c : Const) : constantsAlone (n + 1) (.Constant c k p) = true := Eq.trans rfl rfl
@[local simp] theorem ca_b (o : Operator) : constantsAlone (n + 1) (.BinOp u o v p) = (constantsAlone n u && constantsAlone n v) := Eq.trans rfl rfl
@[local simp] theorem ca_f (zs : List Expr) (k : List Keyword) : constantsAlone (n + 1) (.Call u zs k p) = false := Eq.trans rfl rfl

noncomputable def appX (b : Bool) (ow : Option Str) (σ : Vars) (x : Str) (X o : Option D) : Option Out := if !b then X.bind fun d => (match o with
    | some (.list ds) => if ds.length ≤ sizeLine ∧ scalarD d then some (.next ow (setV x (.list (ds ++ [d])) σ)) else none
    | _ => none) else none
noncomputable def setI (b : Bool) (ow : Option Str) (σ : Vars) (x : Str) (X Y o : Option D) : Option Out := if b then X.bind fun d => Y.bind fun j => (match o, j with
          | some (.list ds), .int j => if 0 ≤ j ∧ j < ds.length ∧ smallI j ∧ scalarD d then some (.next ow (setV x (.list (ds.set j.toNat d)) σ)) else none
          | _, _ => none) else none
noncomputable def asg2 (b : Bool) (sc : Names) (ow : Option Str) (σ : Vars) (x y : Str) (X : Option D) : Option Out := if b then none else X.bind fun d => (sto sc ow σ x d).bind fun o => (match o with
        | .next ow' σ' => if scalarD d then sto sc ow' σ' y d else none
        | .ret _ => none)
noncomputable def freshL (X : Option D) : Option (List D) := X.bind fun d => (match d with
        | .range x y z => (match fnD (.type "list") [.range x y z] with | some (.list ds) => some ds | _ => none)
        | _ => none)
noncomputable def asgL (sc : Names) (σ : Vars) (x : Str) (X Y : Option D) : Option Out := match freshL X with
  | some ds => if ds.all scalarD then some (.next (some x) (setV x (.list ds) σ)) else none
  | none => Y.bind fun d => sto sc none σ x d
noncomputable def asg2K (sc : Names) (y : Str) (i : Int) (o : Out) : Option Out := match o with
  | .next ow σ => if scalarD (.int i) then sto sc ow σ y (.int i) else none
  | .ret _ => none
@[local simp] theorem asg2K_n (sc : Names) (y : Str) (i : Int) (ow : Option Str) (σ : Vars) : asg2K sc y i (.next ow σ) = sto sc ow σ y (.int i) := rfl

variable (T : Tabs) (rec : RE) (recT : RT) (sc : Names) (ow : Option Str) (σ : Vars) (s s' : Str) (u v : Expr) (p p' q q' : Pos) (d : D) (ds : List D) (i j : Int) (x : List Nat)
@[local simp] theorem sd_i : scalarD (.int i) = true := rfl
@[local simp] theorem sd_s : scalarD (.str x) = true := rfl
@[local simp] theorem sd_n : scalarD .none = true := rfl
@[local simp] theorem app_x (hx : (s == ("__debug__" : Str)) = false) (hy : (s == ("__classdict__" : Str)) = false) (hp : p.endLine = q.line) : appendX rec sc (some s) σ s (⟨⟨[97, 112, 112, 101, 110, 100]⟩⟩ : Str) p q u = appX (isStar u) (some s) σ s (rec sc σ u) (σ.lookup s) := by
  have ha : (((⟨⟨[97, 112, 112, 101, 110, 100]⟩⟩ : Str) : Str) == ("append" : Str)) = true := by decide +kernel
  have c : ((some s : Option Str) == some s && ((⟨⟨[97, 112, 112, 101, 110, 100]⟩⟩ : Str) : Str) == ("append" : Str) && p.endLine == q.line && s != ("__debug__" : Str) && s != ("__classdict__" : Str) && !isStar u) = !isStar u := by
    rw [hp, ha]
    simp only [hx, hy, bne, beq_self_eq_true, Bool.true_and, Bool.not_false]
  show (if ((some s : Option Str) == some s && ((⟨⟨[97, 112, 112, 101, 110, 100]⟩⟩ : Str) : Str) == ("append" : Str) && p.endLine == q.line && s != ("__debug__" : Str) && s != ("__classdict__" : Str) && !isStar u) = true then _ else _) = _
  rw [c]; rfl
@[local simp] theorem appX_s : appX false ow σ s (some d) (some (.list ds)) = if ds.length ≤ 16777216 ∧ scalarD d then some (.next ow (setV s (.list (ds ++ [d])) σ)) else none := rfl
@[local simp] theorem asg_l0 (h : isLo sc s = true) (hr : restScalar s σ = true) : assignX T rec recT sc none σ [.Name s p] (.List [] q) = some (.next (some s) (setV s (.list []) σ)) := by
  unfold isLo at h
  rw [asg_gen _ _ _ _ _ _ _ _ (fun _ _ _ _ e => by cases e), h, hr]
  rfl
@[local simp] theorem asg_lr (a : Expr) (h : isLo sc s = true) (hr : restScalar s σ = true) (hg : isGl sc (⟨⟨[108, 105, 115, 116]⟩⟩ : Str) = true) (hk : σ.lookup (⟨⟨[108, 105, 115, 116]⟩⟩ : Str) = none) (hb : (T.bi (⟨⟨[108, 105, 115, 116]⟩⟩ : Str) == some (.type "list")) = true) (hs : isStarB a = false) :
    assignX T rec recT sc none σ [.Name s p] (.Call (.Name (⟨⟨[108, 105, 115, 116]⟩⟩ : Str) p') [a] [] q) = asgL sc σ s (rec sc σ a) (rec sc σ (.Call (.Name (⟨⟨[108, 105, 115, 116]⟩⟩ : Str) p') [a] [] q)) := by
  have hs' : isStar a = false := hs
  have hn : (((⟨⟨[108, 105, 115, 116]⟩⟩ : Str) : Str) == ("list" : Str)) = true := by decide +kernel
  unfold isLo at h
  unfold isGl at hg
  rw [asg_gen _ _ _ _ _ _ _ _ (fun _ _ _ _ e => by cases e), h, hr]
  have : freshE T rec sc σ (.Call (.Name (⟨⟨[108, 105, 115, 116]⟩⟩ : Str) p') [a] [] q) = freshL (rec sc σ a) := by
    show (if (((⟨⟨[108, 105, 115, 116]⟩⟩ : Str) : Str) == ("list" : Str) && T.bi (⟨⟨[108, 105, 115, 116]⟩⟩ : Str) == some (.type "list") && !(σ.lookup (⟨⟨[108, 105, 115, 116]⟩⟩ : Str)).isSome && sc.lookup (⟨⟨[108, 105, 115, 116]⟩⟩ : Str) == some .globalImplicit && !isStar a) = true then _ else none) = _
    rw [hn, hb, hk, hg, hs']
    rfl
  rw [this]
  rfl
@[local simp] theorem asgL_s (x y z : Int) (Y : Option D) (h : rangeOk x y z = true) (h2 : Builtin.Range.rangeSize x y z ≤ 16777216) : asgL sc σ s (some (.range x y z)) Y = some (.next (some s) (setV s (.list ((rangeL x y z).map .int)) σ)) := by
  have h3 : (Builtin.Range.rangeSize x y z).toNat ≤ sizeLine := by rw [sizeLine_eq]; omega
  have e : fnD (.type "list") [.range x y z] = some (.list ((rangeL x y z).map .int)) := by
    show (if ("list" : String) == "list" ∧ rangeOk x y z ∧ (Builtin.Range.rangeSize x y z).toNat ≤ sizeLine then some (D.list ((rangeL x y z).map .int)) else none) = _
    rw [if_pos ⟨by decide +kernel, h, h3⟩]
  unfold asgL freshL
  simp only [Option.bind_some, e, ints_scalar, if_true]
@[local simp] theorem ic_n (y : Str) : isCompE (.Name y p) = false := rfl
@[local simp] theorem ic_b (o : Operator) : isCompE (.BinOp u o v p) = false := rfl
@[local simp] theorem set_x (hx : (s == ("__debug__" : Str)) = false) (hy : (s == ("__classdict__" : Str)) = false) : assignX T rec recT sc (some s) σ [.Subscript (.Name s p) u q] v = setI (!isCompE v) (some s) σ s (rec sc σ v) (rec sc σ u) (σ.lookup s) := by
  have c : ((some s : Option Str) == some s && !isCompE v && s != ("__debug__" : Str) && s != ("__classdict__" : Str)) = !isCompE v := by
    simp only [hx, hy, bne, beq_self_eq_true, Bool.true_and, Bool.not_false, Bool.and_true]
  show (if ((some s : Option Str) == some s && !isCompE v && s != ("__debug__" : Str) && s != ("__classdict__" : Str)) = true then _ else _) = _
  rw [c]; rfl
@[local simp] theorem setI_s : setI true ow σ s (some d) (some (.int j)) (some (.list ds)) = if 0 ≤ j ∧ j < ds.length ∧ smallI j ∧ scalarD d then some (.next ow (setV s (.list (ds.set j.toNat d)) σ)) else none := rfl
@[local simp] theorem asg_2 : assignX T rec recT sc ow σ [.Name s p, .Name s' p'] v = asg2 (isCompE v) sc ow σ s s' (rec sc σ v) := rfl
@[local simp] theorem asg2_i : asg2 false sc ow σ s s' (some (.int i)) = (sto sc ow σ s (.int i)).bind (asg2K sc s' i) := rfl

@[local simp] theorem rs_nil (x : Str) : restScalar x [] = true := Eq.trans rfl rfl
@[local simp] theorem rs_s (x y : Str) (l : List Nat) (r : Vars) : restScalar x ((y, .str l) :: r) = restScalar x r := by simp [restScalar, scalarD]
@[local simp] theorem rs_i (x y : Str) (i : Int) (r : Vars) : restScalar x ((y, .int i) :: r) = restScalar x r := by simp [restScalar, scalarD]
@[local simp] theorem rs_n (x y : Str) (r : Vars) : restScalar x ((y, .none) :: r) = restScalar x r := by simp [restScalar, scalarD]

variable (x : List Nat) (l : List D) (i j k : Int)
@[local simp] theorem sl_snn : sliceD (.str x) .none .none .none = if x.length ≤ 16777216 then some (.str (sliceL none none none x)) else none := by
  simp [sliceD, partOf, sizeLine_eq]
@[local simp] theorem sl_sni : sliceD (.str x) .none (.int j) .none = if x.length ≤ 16777216 then some (.str (sliceL none (some j) none x)) else none := by
  simp [sliceD, partOf, sizeLine_eq]
@[local simp] theorem sl_sin : sliceD (.str x) (.int i) .none .none = if x.length ≤ 16777216 then some (.str (sliceL (some i) none none x)) else none := by
  simp [sliceD, partOf, sizeLine_eq]
@[local simp] theorem sl_sii : sliceD (.str x) (.int i) (.int j) .none = if x.length ≤ 16777216 then some (.str (sliceL (some i) (some j) none x)) else none := by
  simp [sliceD, partOf, sizeLine_eq]
@[local simp] theorem sl_liii : sliceD (.list l) (.int i) (.int j) (.int k) = if l.length ≤ 16777216 ∧ ¬ k = 0 then some (.list (sliceL (some i) (some j) (some k) l)) else none := by
  simp [sliceD, partOf, sizeLine_eq]
@[local simp] theorem sl_snni : sliceD (.str x) .none .none (.int k) = if x.length ≤ 16777216 ∧ ¬ k = 0 ∧ ¬ k = 1 then some (.str (sliceL none none (some k) x)) else none := by
  simp [sliceD, partOf, sizeLine_eq]

theorem compF_t {T : Tabs} {n : Nat} {sc : Names} {σ : Vars} {elt : Expr} {g : Comprehension} {s : Scope} {ds : List D} {q b : Bool} (h : b = true) : compF T n sc σ elt g s b (some (q, ds)) = if ds.length ≤ 16777216 then (evComp (ev T n).1 (ev T n).2 (compNames s.names) g.target elt g.ifs ds (compVars σ s.names)).map .list else none := by
  subst h
  rfl
noncomputable def cvF (x : Str) (o : Option D) (r : Vars) : Vars := match o with | some d => (x, d) :: r | none => r
@[local simp] theorem cvF_s (x : Str) (d : D) (r : Vars) : cvF x (some d) r = (x, d) :: r := rfl
@[local simp] theorem cv_nil (σ : Vars) : compVars σ [] = [] := rfl
@[local simp] theorem cv_f (σ : Vars) (x : Str) (r : Names) : compVars σ ((x, .free) :: r) = cvF x (σ.lookup x) (compVars σ r) := rfl
@[local simp] theorem cv_l (σ : Vars) (x : Str) (r : Names) : compVars σ ((x, .local) :: r) = compVars σ r := rfl
@[local simp] theorem cv_c (σ : Vars) (x : Str) (r : Names) : compVars σ ((x, .cell) :: r) = compVars σ r := rfl
@[local simp] theorem cv_g (σ : Vars) (x : Str) (r : Names) : compVars σ ((x, .globalImplicit) :: r) = compVars σ r := rfl
@[local simp] theorem cn_nil : compNames [] = [] := rfl
@[local simp] theorem cn_f (x : Str) (r : Names) : compNames ((x, .free) :: r) = (x, .cell) :: compNames r := rfl
@[local simp] theorem cn_l (x : Str) (r : Names) : compNames ((x, .local) :: r) = (x, .local) :: compNames r := rfl
@[local simp] theorem cn_c (x : Str) (r : Names) : compNames ((x, .cell) :: r) = (x, .cell) :: compNames r := rfl
@[local simp] theorem cn_g (x : Str) (r : Names) : compNames ((x, .globalImplicit) :: r) = (x, .globalImplicit) :: compNames r := rfl
theorem clip_nat {n k : Nat} (h : k ≤ n) : clipAt n (k : Int) = k := by
  unfold clipAt
  rw [if_neg (Int.not_lt.mpr (Int.natCast_nonneg k)), Int.min_eq_left (Int.ofNat_le.mpr h), Int.max_eq_right (Int.natCast_nonneg k)]
  exact Int.toNat_natCast k

theorem runF_fold {α β : Type} {run : Option Str → Vars → Option Out} {sc : Names} {t : Expr} (st : α → Vars) (f : α → β → α) (enc : β → D) (I : List β → α → Prop)
    {ow : Option Str} (h0 : ∀ x, (flatD (enc x) = true ∧ nameOk t (enc x) = true)) (h1 : (tgtNames t).all (fun x => ow != some x) = true)
    (h : ∀ a x l, I (x :: l) a → (assignD sc t (enc x) (st a)).bind (run ow) = some (.next ow (st (f a x))) ∧ I l (f a x)) : ∀ (l : List β) (a : α), I l a → runF run sc t (l.map enc) ow (st a) = some (.next ow (st (l.foldl f a)))
  | [], a, _ => rfl
  | x :: l, a, i => by
    obtain ⟨e, i'⟩ := h a x l i
    rw [Option.bind_eq_some_iff] at e
    obtain ⟨σ', e1, e2⟩ := e
    simp only [List.map_cons, runF, (h0 x).1, (h0 x).2, h1, Bool.and_self, if_true, e1, e2, Option.bind_some, List.foldl_cons]
    exact runF_fold st f enc I h0 h1 h l (f a x) i'

theorem bindS {α β : Type} (a : α) (f : α → Option β) : (some a).bind f = f a := Eq.trans rfl rfl
theorem runL_nil (rec : RS) (sc : Names) (ow : Option Str) (σ : Vars) : runL rec sc ow σ [] = some (.next ow σ) := Eq.trans rfl rfl
theorem runL_cons (rec : RS) (sc : Names) (ow : Option Str) (σ : Vars) (st : Stmt) (r : List Stmt) : runL rec sc ow σ (st :: r) = (rec sc ow σ st).bind (contL rec sc r) := by
  show (rec sc ow σ st).bind _ = _
  congr 1
theorem contL_next (rec : RS) (sc : Names) (r : List Stmt) (ow : Option Str) (σ : Vars) : contL rec sc r (.next ow σ) = runL rec sc ow σ r := Eq.trans rfl rfl
theorem contL_ret (rec : RS) (sc : Names) (r : List Stmt) (d : D) : contL rec sc r (.ret d) = some (.ret d) := Eq.trans rfl rfl
section
variable (T : Tabs) (n : Nat) (sc : Names) (σ : Vars) (e : RE × RT) (w : Nat) (ow : Option Str)
theorem x_whileR (t : Expr) (b : List Stmt) (p : Pos) : evX T e w (n + 1) sc ow σ (.While t b [] p) = runW (tstRun e sc t) (forRun T e w n sc b) w ow σ := Eq.trans rfl rfl
end

theorem foldl_fst {α β : Type} (f : α → β → α) : ∀ (l : List β) (a : α) (o : Option β), (l.foldl (fun (a : α × Option β) x => (f a.1 x, some x)) (a, o)).1 = l.foldl f a
  | [], _, _ => rfl
  | x :: l, a, _ => foldl_fst f l (f a x) (some x)

theorem retBind {o : Option Out} {k : Out → Option Out} {ow : Option Str} {σ : Vars} {d : D} (h : o = some (.next ow σ)) (h2 : retOf (k (.next ow σ)) = some d) : retOf (o.bind k) = some d := by
  rw [h]; exact h2

theorem fmod2 (x : Int) : x.fmod 2 = x % 2 := by rw [Int.fmod_eq_emod_of_nonneg x (by decide)]

/-- the row's turn -/
noncomputable def rowF (a : List Nat × Int × Int) (x : Int) : List Nat × Int × Int :=
  if 0 < a.2.2 ∧ (a.2.1 = 0 ∨ x % 2 = 1) then (a.1 ++ [40], a.2.1 + 1, a.2.2 - 1) else (a.1 ++ [41], a.2.1 - 1, a.2.2)
noncomputable def rowP (ns : List Int) : List Nat := (ns.foldl rowF ([], 0, (ns.length : Int).fdiv 2)).1

noncomputable def KL17 : List Str := [(⟨⟨[110, 117, 109, 98, 101, 114, 115]⟩⟩ : Str), (⟨⟨[114, 111, 119]⟩⟩ : Str), (⟨⟨[100, 101, 112, 116, 104]⟩⟩ : Str), (⟨⟨[108, 101, 102, 116]⟩⟩ : Str), (⟨⟨[120]⟩⟩ : Str)]
@[local simp] theorem s17_1 : storable (fnAt 17).2.1 (⟨⟨[114, 111, 119]⟩⟩ : Str) = true := rfl
@[local simp] theorem o17_1 : isLo (fnAt 17).2.1 (⟨⟨[114, 111, 119]⟩⟩ : Str) = true := Eq.trans rfl rfl
@[local simp] theorem db17_1 : ((⟨⟨[114, 111, 119]⟩⟩ : Str) == ("__debug__" : Str)) = false := Eq.trans rfl rfl
@[local simp] theorem s17_2 : storable (fnAt 17).2.1 (⟨⟨[100, 101, 112, 116, 104]⟩⟩ : Str) = true := rfl
@[local simp] theorem o17_2 : isLo (fnAt 17).2.1 (⟨⟨[100, 101, 112, 116, 104]⟩⟩ : Str) = true := Eq.trans rfl rfl
@[local simp] theorem db17_2 : ((⟨⟨[100, 101, 112, 116, 104]⟩⟩ : Str) == ("__debug__" : Str)) = false := Eq.trans rfl rfl
@[local simp] theorem s17_3 : storable (fnAt 17).2.1 (⟨⟨[108, 101, 102, 116]⟩⟩ : Str) = true := rfl
@[local simp] theorem o17_3 : isLo (fnAt 17).2.1 (⟨⟨[108, 101, 102, 116]⟩⟩ : Str) = true := Eq.trans rfl rfl
@[local simp] theorem db17_3 : ((⟨⟨[108, 101, 102, 116]⟩⟩ : Str) == ("__debug__" : Str)) = false := Eq.trans rfl rfl
@[local simp] theorem s17_4 : storable (fnAt 17).2.1 (⟨⟨[120]⟩⟩ : Str) = true := rfl
@[local simp] theorem bd17_0 : badN (⟨⟨[110, 117, 109, 98, 101, 114, 115]⟩⟩ : Str) = false := rfl
@[local simp] theorem bd17_1 : badN (⟨⟨[114, 111, 119]⟩⟩ : Str) = false := rfl
@[local simp] theorem bd17_2 : badN (⟨⟨[100, 101, 112, 116, 104]⟩⟩ : Str) = false := rfl
@[local simp] theorem bd17_3 : badN (⟨⟨[108, 101, 102, 116]⟩⟩ : Str) = false := rfl
@[local simp] theorem bd17_4 : badN (⟨⟨[120]⟩⟩ : Str) = false := rfl
@[local simp] theorem c17_0 {T : Tabs} {σ : Vars} {ds : List D} (hb : T.bi = biV) (hk : keysIn KL17 σ = true) : callD T (fnAt 17).2.1 σ (⟨⟨[108, 101, 110]⟩⟩ : Str) ds = fnD (.builtin "len") ds := call_bi _ hk rfl rfl rfl (by rw [hb]; rfl)
@[local simp] theorem k17_0 (v0 : D) : keysIn KL17 (((⟨⟨[110, 117, 109, 98, 101, 114, 115]⟩⟩ : Str), v0) :: []) = true := Eq.trans rfl rfl
@[local simp] theorem l17_1 (v0 v1 : D) (r : Vars) : List.lookup (⟨⟨[108, 101, 102, 116]⟩⟩ : Str) (((⟨⟨[110, 117, 109, 98, 101, 114, 115]⟩⟩ : Str), v0) :: ((⟨⟨[108, 101, 102, 116]⟩⟩ : Str), v1) :: r) = some v1 := rfl
@[local simp] theorem p17_1 (d v0 v1 : D) (r : Vars) : setV (⟨⟨[108, 101, 102, 116]⟩⟩ : Str) d (((⟨⟨[110, 117, 109, 98, 101, 114, 115]⟩⟩ : Str), v0) :: ((⟨⟨[108, 101, 102, 116]⟩⟩ : Str), v1) :: r) = ((⟨⟨[110, 117, 109, 98, 101, 114, 115]⟩⟩ : Str), v0) :: ((⟨⟨[108, 101, 102, 116]⟩⟩ : Str), d) :: r := rfl
@[local simp] theorem a17_1 (d : D) (v0 : D) : setV (⟨⟨[108, 101, 102, 116]⟩⟩ : Str) d [((⟨⟨[110, 117, 109, 98, 101, 114, 115]⟩⟩ : Str), v0)] = [((⟨⟨[110, 117, 109, 98, 101, 114, 115]⟩⟩ : Str), v0), ((⟨⟨[108, 101, 102, 116]⟩⟩ : Str), d)] := rfl
@[local simp] theorem l17_2 (v0 v1 v2 : D) (r : Vars) : List.lookup (⟨⟨[100, 101, 112, 116, 104]⟩⟩ : Str) (((⟨⟨[110, 117, 109, 98, 101, 114, 115]⟩⟩ : Str), v0) :: ((⟨⟨[108, 101, 102, 116]⟩⟩ : Str), v1) :: ((⟨⟨[100, 101, 112, 116, 104]⟩⟩ : Str), v2) :: r) = some v2 := rfl
@[local simp] theorem p17_2 (d v0 v1 v2 : D) (r : Vars) : setV (⟨⟨[100, 101, 112, 116, 104]⟩⟩ : Str) d (((⟨⟨[110, 117, 109, 98, 101, 114, 115]⟩⟩ : Str), v0) :: ((⟨⟨[108, 101, 102, 116]⟩⟩ : Str), v1) :: ((⟨⟨[100, 101, 112, 116, 104]⟩⟩ : Str), v2) :: r) = ((⟨⟨[110, 117, 109, 98, 101, 114, 115]⟩⟩ : Str), v0) :: ((⟨⟨[108, 101, 102, 116]⟩⟩ : Str), v1) :: ((⟨⟨[100, 101, 112, 116, 104]⟩⟩ : Str), d) :: r := rfl
@[local simp] theorem a17_2 (d : D) (v0 v1 : D) : setV (⟨⟨[100, 101, 112, 116, 104]⟩⟩ : Str) d [((⟨⟨[110, 117, 109, 98, 101, 114, 115]⟩⟩ : Str), v0), ((⟨⟨[108, 101, 102, 116]⟩⟩ : Str), v1)] = [((⟨⟨[110, 117, 109, 98, 101, 114, 115]⟩⟩ : Str), v0), ((⟨⟨[108, 101, 102, 116]⟩⟩ : Str), v1), ((⟨⟨[100, 101, 112, 116, 104]⟩⟩ : Str), d)] := rfl
@[local simp] theorem l17_3 (v0 v1 v2 v3 : D) (r : Vars) : List.lookup (⟨⟨[114, 111, 119]⟩⟩ : Str) (((⟨⟨[110, 117, 109, 98, 101, 114, 115]⟩⟩ : Str), v0) :: ((⟨⟨[108, 101, 102, 116]⟩⟩ : Str), v1) :: ((⟨⟨[100, 101, 112, 116, 104]⟩⟩ : Str), v2) :: ((⟨⟨[114, 111, 119]⟩⟩ : Str), v3) :: r) = some v3 := rfl
@[local simp] theorem p17_3 (d v0 v1 v2 v3 : D) (r : Vars) : setV (⟨⟨[114, 111, 119]⟩⟩ : Str) d (((⟨⟨[110, 117, 109, 98, 101, 114, 115]⟩⟩ : Str), v0) :: ((⟨⟨[108, 101, 102, 116]⟩⟩ : Str), v1) :: ((⟨⟨[100, 101, 112, 116, 104]⟩⟩ : Str), v2) :: ((⟨⟨[114, 111, 119]⟩⟩ : Str), v3) :: r) = ((⟨⟨[110, 117, 109, 98, 101, 114, 115]⟩⟩ : Str), v0) :: ((⟨⟨[108, 101, 102, 116]⟩⟩ : Str), v1) :: ((⟨⟨[100, 101, 112, 116, 104]⟩⟩ : Str), v2) :: ((⟨⟨[114, 111, 119]⟩⟩ : Str), d) :: r := rfl
@[local simp] theorem a17_3 (d : D) (v0 v1 v2 : D) : setV (⟨⟨[114, 111, 119]⟩⟩ : Str) d [((⟨⟨[110, 117, 109, 98, 101, 114, 115]⟩⟩ : Str), v0), ((⟨⟨[108, 101, 102, 116]⟩⟩ : Str), v1), ((⟨⟨[100, 101, 112, 116, 104]⟩⟩ : Str), v2)] = [((⟨⟨[110, 117, 109, 98, 101, 114, 115]⟩⟩ : Str), v0), ((⟨⟨[108, 101, 102, 116]⟩⟩ : Str), v1), ((⟨⟨[100, 101, 112, 116, 104]⟩⟩ : Str), v2), ((⟨⟨[114, 111, 119]⟩⟩ : Str), d)] := rfl
@[local simp] theorem l17_4 (v0 v1 v2 v3 v4 : D) (r : Vars) : List.lookup (⟨⟨[120]⟩⟩ : Str) (((⟨⟨[110, 117, 109, 98, 101, 114, 115]⟩⟩ : Str), v0) :: ((⟨⟨[108, 101, 102, 116]⟩⟩ : Str), v1) :: ((⟨⟨[100, 101, 112, 116, 104]⟩⟩ : Str), v2) :: ((⟨⟨[114, 111, 119]⟩⟩ : Str), v3) :: ((⟨⟨[120]⟩⟩ : Str), v4) :: r) = some v4 := rfl
@[local simp] theorem p17_4 (d v0 v1 v2 v3 v4 : D) (r : Vars) : setV (⟨⟨[120]⟩⟩ : Str) d (((⟨⟨[110, 117, 109, 98, 101, 114, 115]⟩⟩ : Str), v0) :: ((⟨⟨[108, 101, 102, 116]⟩⟩ : Str), v1) :: ((⟨⟨[100, 101, 112, 116, 104]⟩⟩ : Str), v2) :: ((⟨⟨[114, 111, 119]⟩⟩ : Str), v3) :: ((⟨⟨[120]⟩⟩ : Str), v4) :: r) = ((⟨⟨[110, 117, 109, 98, 101, 114, 115]⟩⟩ : Str), v0) :: ((⟨⟨[108, 101, 102, 116]⟩⟩ : Str), v1) :: ((⟨⟨[100, 101, 112, 116, 104]⟩⟩ : Str), v2) :: ((⟨⟨[114, 111, 119]⟩⟩ : Str), v3) :: ((⟨⟨[120]⟩⟩ : Str), d) :: r := rfl
@[local simp] theorem a17_4 (d : D) (v0 v1 v2 v3 : D) : setV (⟨⟨[120]⟩⟩ : Str) d [((⟨⟨[110, 117, 109, 98, 101, 114, 115]⟩⟩ : Str), v0), ((⟨⟨[108, 101, 102, 116]⟩⟩ : Str), v1), ((⟨⟨[100, 101, 112, 116, 104]⟩⟩ : Str), v2), ((⟨⟨[114, 111, 119]⟩⟩ : Str), v3)] = [((⟨⟨[110, 117, 109, 98, 101, 114, 115]⟩⟩ : Str), v0), ((⟨⟨[108, 101, 102, 116]⟩⟩ : Str), v1), ((⟨⟨[100, 101, 112, 116, 104]⟩⟩ : Str), v2), ((⟨⟨[114, 111, 119]⟩⟩ : Str), v3), ((⟨⟨[120]⟩⟩ : Str), d)] := rfl
@[local simp] theorem e17_0 : ((⟨⟨[114, 111, 119]⟩⟩ : Str) == (⟨⟨[100, 101, 112, 116, 104]⟩⟩ : Str)) = false := Eq.trans rfl rfl
@[local simp] theorem e17_1 : ((⟨⟨[114, 111, 119]⟩⟩ : Str) == (⟨⟨[108, 101, 102, 116]⟩⟩ : Str)) = false := Eq.trans rfl rfl
@[local simp] theorem e17_2 : ((⟨⟨[100, 101, 112, 116, 104]⟩⟩ : Str) == (⟨⟨[108, 101, 102, 116]⟩⟩ : Str)) = false := Eq.trans rfl rfl
theorem row_ok {T : Tabs} (hb : T.bi = biV) (hg : T.gl = glD) (ns : List Int) (hl : ns.length ≤ 100) : callF T 17 [.list (ns.map .int)] = some (.str (rowP ns)) := by
  have hz : ns.length ≤ 16777216 := by omega
  unfold callF callX
  generalize ghps : (fnAt 17).1 = ps
  have hps : ?lhps = ps := ?qhps
  have chps : (fnAt 17).1 = (fnAt 17).1 := rfl
  conv at chps =>
    lhs
    cbv
  change ?lhps = _ at chps
  case qhps => exact Eq.trans rfl ghps
  clear chps ghps
  generalize ghbd : (fnAt 17).2.2 = bd
  have hbd : ?lhbd = bd := ?qhbd
  have chbd : (fnAt 17).2.2 = (fnAt 17).2.2 := rfl
  conv at chbd =>
    lhs
    cbv
  change ?lhbd = _ at chbd
  case qhbd => exact Eq.trans rfl ghbd
  clear chbd ghbd
  subst hps
  subst hbd
  simp [-Option.bind_some, smallI, bindR, r_nil, r_cons, c_next, c_ret, y_if, y_assign, y_ret, hb, hg, hz]
  refine retBind (runF_fold (st := fun (a : (List Nat × Int × Int) × Option Int) => [((⟨⟨[110, 117, 109, 98, 101, 114, 115]⟩⟩ : Str), D.list (List.map D.int ns)),
                  ((⟨⟨[108, 101, 102, 116]⟩⟩ : Str), D.int a.1.2.2), ((⟨⟨[100, 101, 112, 116, 104]⟩⟩ : Str), D.int a.1.2.1), ((⟨⟨[114, 111, 119]⟩⟩ : Str), D.str a.1.1)] ++ (a.2.toList.map fun x => ((⟨⟨[120]⟩⟩ : Str), D.int x)))
    (f := fun a x => (rowF a.1 x, some x)) (enc := D.int) (I := fun l a => a.1.1.length + l.length ≤ 100) (a := (([], 0, (ns.length : Int).fdiv 2), none)) (fun _ => ⟨rfl, rfl⟩) rfl ?_ ns ?_) ?_
  · rintro ⟨⟨r, d, l⟩, o⟩ x rest hi
    have hr : r.length + 1 ≤ 16777216 := by simp at hi; omega
    refine ⟨?_, ?_⟩
    · by_cases c1 : 0 < l
      · by_cases c2 : d = 0
        · cases o <;> simp [-Option.bind_some, smallI, bindR, r_nil, r_cons, c_next, c_ret, y_if, y_assign, y_ret, forRun, hb, hg, hr, rowF, fmod2, c1, c2]
        · by_cases c3 : x % 2 = 1
          · cases o <;> simp [-Option.bind_some, smallI, bindR, r_nil, r_cons, c_next, c_ret, y_if, y_assign, y_ret, forRun, hb, hg, hr, rowF, fmod2, c1, c2, c3]
          · cases o <;> simp [-Option.bind_some, smallI, bindR, r_nil, r_cons, c_next, c_ret, y_if, y_assign, y_ret, forRun, hb, hg, hr, rowF, fmod2, c1, c2, c3]
      · cases o <;> simp [-Option.bind_some, smallI, bindR, r_nil, r_cons, c_next, c_ret, y_if, y_assign, y_ret, forRun, hb, hg, hr, rowF, fmod2, c1]
    · simp [rowF] at hi ⊢
      split <;> simp <;> omega
  · simpa using hl
  · simp [-Option.bind_some, smallI, bindR, r_nil, r_cons, c_next, c_ret, y_if, y_assign, y_ret, retOf, foldl_fst]
    rfl

theorem f_unseen (args : List D) : T1.fn "_law_unseen" args = callF T0 16 args := rfl
theorem f_inb1 (args : List D) : T1.fn "in_table_b1" args = callX (recB1 (ev T0 30).1 "b1_set" b1S) (fnAt 12) args := rfl
theorem f_sub (args : List D) : T1.fn "_substitution_cost" args = callF T0 4 args := rfl

theorem unseen_ok : callF T0 16 [] = some (.list (b1L.map .int)) := by kernel_rfl

theorem inb1_ok (c : Nat) : T1.fn "in_table_b1" [.str [c]] = some (.bool (b1S c)) := by
  rw [f_inb1]
  kernel_rfl

/-- the letters' three shapes -/
noncomputable def lowN (c : Nat) : Nat := if 119808 ≤ c then c - 119808 + 97 else if 97 ≤ c then c else c + 32
noncomputable def isLet (c : Nat) : Bool := ([97, 98, 99, 100, 101, 65, 66, 67, 68, 69, 119808, 119809, 119810, 119811, 119812] : List Nat).contains c
theorem b3_97 : T1.fn "map_table_b3" [.str [97]] = some (.str [97]) := by kernel_rfl
theorem b3_98 : T1.fn "map_table_b3" [.str [98]] = some (.str [98]) := by kernel_rfl
theorem b3_99 : T1.fn "map_table_b3" [.str [99]] = some (.str [99]) := by kernel_rfl
theorem b3_100 : T1.fn "map_table_b3" [.str [100]] = some (.str [100]) := by kernel_rfl
theorem b3_101 : T1.fn "map_table_b3" [.str [101]] = some (.str [101]) := by kernel_rfl
theorem b3_65 : T1.fn "map_table_b3" [.str [65]] = some (.str [97]) := by kernel_rfl
theorem b3_66 : T1.fn "map_table_b3" [.str [66]] = some (.str [98]) := by kernel_rfl
theorem b3_67 : T1.fn "map_table_b3" [.str [67]] = some (.str [99]) := by kernel_rfl
theorem b3_68 : T1.fn "map_table_b3" [.str [68]] = some (.str [100]) := by kernel_rfl
theorem b3_69 : T1.fn "map_table_b3" [.str [69]] = some (.str [101]) := by kernel_rfl
theorem b3_119808 : T1.fn "map_table_b3" [.str [119808]] = some (.str [97]) := by kernel_rfl
theorem b3_119809 : T1.fn "map_table_b3" [.str [119809]] = some (.str [98]) := by kernel_rfl
theorem b3_119810 : T1.fn "map_table_b3" [.str [119810]] = some (.str [99]) := by kernel_rfl
theorem b3_119811 : T1.fn "map_table_b3" [.str [119811]] = some (.str [100]) := by kernel_rfl
theorem b3_119812 : T1.fn "map_table_b3" [.str [119812]] = some (.str [101]) := by kernel_rfl
theorem b3_let {c : Nat} (h : isLet c = true) : T1.fn "map_table_b3" [.str [c]] = some (.str [lowN c]) := by
  unfold isLet at h
  simp only [List.contains_iff_mem, List.mem_cons, List.not_mem_nil, or_false] at h
  rcases h with rfl | rfl | rfl | rfl | rfl | rfl | rfl | rfl | rfl | rfl | rfl | rfl | rfl | rfl | rfl
  · exact b3_97
  · exact b3_98
  · exact b3_99
  · exact b3_100
  · exact b3_101
  · exact b3_65
  · exact b3_66
  · exact b3_67
  · exact b3_68
  · exact b3_69
  · exact b3_119808
  · exact b3_119809
  · exact b3_119810
  · exact b3_119811
  · exact b3_119812

/-- what is prepared of a sign -/
noncomputable def prepN (c : Nat) : List Nat := if b1S c then [] else [lowN c]
noncomputable def okN (c : Nat) : Bool := b1S c || isLet c

noncomputable def KL20 : List Str := [(⟨⟨[116, 101, 120, 116]⟩⟩ : Str), (⟨⟨[115, 105, 103, 110, 115]⟩⟩ : Str), (⟨⟨[115, 105, 103, 110]⟩⟩ : Str), (⟨⟨[104, 105, 100, 100, 101, 110]⟩⟩ : Str)]
@[local simp] theorem s20_1 : storable (fnAt 20).2.1 (⟨⟨[115, 105, 103, 110, 115]⟩⟩ : Str) = true := rfl
@[local simp] theorem s20_2 : storable (fnAt 20).2.1 (⟨⟨[115, 105, 103, 110]⟩⟩ : Str) = true := rfl
@[local simp] theorem s20_3 : storable (fnAt 20).2.1 (⟨⟨[104, 105, 100, 100, 101, 110]⟩⟩ : Str) = true := rfl
@[local simp] theorem bd20_0 : badN (⟨⟨[116, 101, 120, 116]⟩⟩ : Str) = false := rfl
@[local simp] theorem bd20_1 : badN (⟨⟨[115, 105, 103, 110, 115]⟩⟩ : Str) = false := rfl
@[local simp] theorem bd20_2 : badN (⟨⟨[115, 105, 103, 110]⟩⟩ : Str) = false := rfl
@[local simp] theorem bd20_3 : badN (⟨⟨[104, 105, 100, 100, 101, 110]⟩⟩ : Str) = false := rfl
@[local simp] theorem nl20_0 : ((⟨⟨[105, 110, 95, 116, 97, 98, 108, 101, 95, 98, 49]⟩⟩ : Str) == ("list" : Str)) = false := Eq.trans rfl rfl
@[local simp] theorem c20_0 {T : Tabs} {σ : Vars} {ds : List D} (hb : T.bi (⟨⟨[105, 110, 95, 116, 97, 98, 108, 101, 95, 98, 49]⟩⟩ : Str) = none) (hk : keysIn KL20 σ = true) : callD T (fnAt 20).2.1 σ (⟨⟨[105, 110, 95, 116, 97, 98, 108, 101, 95, 98, 49]⟩⟩ : Str) ds = T.fn (⟨⟨[105, 110, 95, 116, 97, 98, 108, 101, 95, 98, 49]⟩⟩ : Str) ds := call_fn hk rfl rfl rfl hb
@[local simp] theorem c20_1 {T : Tabs} {σ : Vars} {ds : List D} (hb : T.bi (⟨⟨[109, 97, 112, 95, 116, 97, 98, 108, 101, 95, 98, 51]⟩⟩ : Str) = none) (hk : keysIn KL20 σ = true) : callD T (fnAt 20).2.1 σ (⟨⟨[109, 97, 112, 95, 116, 97, 98, 108, 101, 95, 98, 51]⟩⟩ : Str) ds = T.fn (⟨⟨[109, 97, 112, 95, 116, 97, 98, 108, 101, 95, 98, 51]⟩⟩ : Str) ds := call_fn hk rfl rfl rfl hb
@[local simp] theorem l20_1 (v0 v1 : D) (r : Vars) : List.lookup (⟨⟨[115, 105, 103, 110, 115]⟩⟩ : Str) (((⟨⟨[116, 101, 120, 116]⟩⟩ : Str), v0) :: ((⟨⟨[115, 105, 103, 110, 115]⟩⟩ : Str), v1) :: r) = some v1 := rfl
@[local simp] theorem p20_1 (d v0 v1 : D) (r : Vars) : setV (⟨⟨[115, 105, 103, 110, 115]⟩⟩ : Str) d (((⟨⟨[116, 101, 120, 116]⟩⟩ : Str), v0) :: ((⟨⟨[115, 105, 103, 110, 115]⟩⟩ : Str), v1) :: r) = ((⟨⟨[116, 101, 120, 116]⟩⟩ : Str), v0) :: ((⟨⟨[115, 105, 103, 110, 115]⟩⟩ : Str), d) :: r := rfl
@[local simp] theorem a20_1 (d : D) (v0 : D) : setV (⟨⟨[115, 105, 103, 110, 115]⟩⟩ : Str) d [((⟨⟨[116, 101, 120, 116]⟩⟩ : Str), v0)] = [((⟨⟨[116, 101, 120, 116]⟩⟩ : Str), v0), ((⟨⟨[115, 105, 103, 110, 115]⟩⟩ : Str), d)] := rfl
@[local simp] theorem l20_2 (v0 v1 v2 : D) (r : Vars) : List.lookup (⟨⟨[115, 105, 103, 110]⟩⟩ : Str) (((⟨⟨[116, 101, 120, 116]⟩⟩ : Str), v0) :: ((⟨⟨[115, 105, 103, 110, 115]⟩⟩ : Str), v1) :: ((⟨⟨[115, 105, 103, 110]⟩⟩ : Str), v2) :: r) = some v2 := rfl
@[local simp] theorem k20_2 (v0 v1 v2 : D) : keysIn KL20 (((⟨⟨[116, 101, 120, 116]⟩⟩ : Str), v0) :: ((⟨⟨[115, 105, 103, 110, 115]⟩⟩ : Str), v1) :: ((⟨⟨[115, 105, 103, 110]⟩⟩ : Str), v2) :: []) = true := Eq.trans rfl rfl
@[local simp] theorem p20_2 (d v0 v1 v2 : D) (r : Vars) : setV (⟨⟨[115, 105, 103, 110]⟩⟩ : Str) d (((⟨⟨[116, 101, 120, 116]⟩⟩ : Str), v0) :: ((⟨⟨[115, 105, 103, 110, 115]⟩⟩ : Str), v1) :: ((⟨⟨[115, 105, 103, 110]⟩⟩ : Str), v2) :: r) = ((⟨⟨[116, 101, 120, 116]⟩⟩ : Str), v0) :: ((⟨⟨[115, 105, 103, 110, 115]⟩⟩ : Str), v1) :: ((⟨⟨[115, 105, 103, 110]⟩⟩ : Str), d) :: r := rfl
@[local simp] theorem a20_2 (d : D) (v0 v1 : D) : setV (⟨⟨[115, 105, 103, 110]⟩⟩ : Str) d [((⟨⟨[116, 101, 120, 116]⟩⟩ : Str), v0), ((⟨⟨[115, 105, 103, 110, 115]⟩⟩ : Str), v1)] = [((⟨⟨[116, 101, 120, 116]⟩⟩ : Str), v0), ((⟨⟨[115, 105, 103, 110, 115]⟩⟩ : Str), v1), ((⟨⟨[115, 105, 103, 110]⟩⟩ : Str), d)] := rfl
@[local simp] theorem l20_3 (v0 v1 v2 v3 : D) (r : Vars) : List.lookup (⟨⟨[104, 105, 100, 100, 101, 110]⟩⟩ : Str) (((⟨⟨[116, 101, 120, 116]⟩⟩ : Str), v0) :: ((⟨⟨[115, 105, 103, 110, 115]⟩⟩ : Str), v1) :: ((⟨⟨[115, 105, 103, 110]⟩⟩ : Str), v2) :: ((⟨⟨[104, 105, 100, 100, 101, 110]⟩⟩ : Str), v3) :: r) = some v3 := rfl
@[local simp] theorem k20_3 (v0 v1 v2 v3 : D) : keysIn KL20 (((⟨⟨[116, 101, 120, 116]⟩⟩ : Str), v0) :: ((⟨⟨[115, 105, 103, 110, 115]⟩⟩ : Str), v1) :: ((⟨⟨[115, 105, 103, 110]⟩⟩ : Str), v2) :: ((⟨⟨[104, 105, 100, 100, 101, 110]⟩⟩ : Str), v3) :: []) = true := Eq.trans rfl rfl
@[local simp] theorem p20_3 (d v0 v1 v2 v3 : D) (r : Vars) : setV (⟨⟨[104, 105, 100, 100, 101, 110]⟩⟩ : Str) d (((⟨⟨[116, 101, 120, 116]⟩⟩ : Str), v0) :: ((⟨⟨[115, 105, 103, 110, 115]⟩⟩ : Str), v1) :: ((⟨⟨[115, 105, 103, 110]⟩⟩ : Str), v2) :: ((⟨⟨[104, 105, 100, 100, 101, 110]⟩⟩ : Str), v3) :: r) = ((⟨⟨[116, 101, 120, 116]⟩⟩ : Str), v0) :: ((⟨⟨[115, 105, 103, 110, 115]⟩⟩ : Str), v1) :: ((⟨⟨[115, 105, 103, 110]⟩⟩ : Str), v2) :: ((⟨⟨[104, 105, 100, 100, 101, 110]⟩⟩ : Str), d) :: r := rfl
@[local simp] theorem a20_3 (d : D) (v0 v1 v2 : D) : setV (⟨⟨[104, 105, 100, 100, 101, 110]⟩⟩ : Str) d [((⟨⟨[116, 101, 120, 116]⟩⟩ : Str), v0), ((⟨⟨[115, 105, 103, 110, 115]⟩⟩ : Str), v1), ((⟨⟨[115, 105, 103, 110]⟩⟩ : Str), v2)] = [((⟨⟨[116, 101, 120, 116]⟩⟩ : Str), v0), ((⟨⟨[115, 105, 103, 110, 115]⟩⟩ : Str), v1), ((⟨⟨[115, 105, 103, 110]⟩⟩ : Str), v2), ((⟨⟨[104, 105, 100, 100, 101, 110]⟩⟩ : Str), d)] := rfl
theorem prepared_ok (x : List Nat) (hx : ∀ c ∈ x, okN c = true) (hl : x.length ≤ 1000) : callF T1 20 [.str x] = some (.str (x.flatMap prepN)) := by
  have hz : x.length ≤ 16777216 := by omega
  have hin : ∀ c, T1.fn (⟨⟨[105, 110, 95, 116, 97, 98, 108, 101, 95, 98, 49]⟩⟩ : Str) [.str [c]] = some (.bool (b1S c)) := fun c => by rw [← nm18]; exact inb1_ok c
  have hb3 : ∀ c, isLet c = true → T1.fn (⟨⟨[109, 97, 112, 95, 116, 97, 98, 108, 101, 95, 98, 51]⟩⟩ : Str) [.str [c]] = some (.str [lowN c]) := fun c h => by rw [← nm19]; exact b3_let h
  have hb : T1.bi = biV := rfl
  have hg : T1.gl = glD := rfl
  generalize T1 = T at *
  unfold callF callX
  generalize ghps : (fnAt 20).1 = ps
  have hps : ?lhps = ps := ?qhps
  have chps : (fnAt 20).1 = (fnAt 20).1 := rfl
  conv at chps =>
    lhs
    cbv
  change ?lhps = _ at chps
  case qhps => exact Eq.trans rfl ghps
  clear chps ghps
  generalize ghbd : (fnAt 20).2.2 = bd
  have hbd : ?lhbd = bd := ?qhbd
  have chbd : (fnAt 20).2.2 = (fnAt 20).2.2 := rfl
  conv at chbd =>
    lhs
    cbv
  change ?lhbd = _ at chbd
  case qhbd => exact Eq.trans rfl ghbd
  clear chbd ghbd
  subst hps
  subst hbd
  simp [-Option.bind_some, smallI, bindR, r_nil, r_cons, c_next, c_ret, y_if, y_assign, y_ret, hb, hg, hz]
  refine retBind (runF_fold (st := fun (a : List Nat × Option Nat) => [((⟨⟨[116, 101, 120, 116]⟩⟩ : Str), D.str x), ((⟨⟨[115, 105, 103, 110, 115]⟩⟩ : Str), D.str a.1)] ++ (a.2.toList.flatMap fun c => [((⟨⟨[115, 105, 103, 110]⟩⟩ : Str), D.str [c]), ((⟨⟨[104, 105, 100, 100, 101, 110]⟩⟩ : Str), D.bool (b1S c))]))
    (f := fun a c => (a.1 ++ prepN c, some c)) (enc := fun c => D.str [c]) (I := fun l a => (∀ c ∈ l, okN c = true) ∧ a.1.length + l.length ≤ 1000) (a := ([], none)) (fun _ => ⟨rfl, rfl⟩) rfl ?_ x ?_) ?_
  · rintro ⟨r, o⟩ c rest ⟨h1, h2⟩
    have h3 := h1 c (List.mem_cons_self ..)
    have h4 : ∀ c ∈ rest, okN c = true := fun y hy => h1 y (List.mem_cons_of_mem _ hy)
    have hr : r.length + 1 ≤ 16777216 := by simp at h2; omega
    have hr' : r.length ≤ 16777216 := by omega
    have hbi : T.bi (⟨⟨[105, 110, 95, 116, 97, 98, 108, 101, 95, 98, 49]⟩⟩ : Str) = none := by rw [hb, ← nm18]; rfl
    have hbj : T.bi (⟨⟨[109, 97, 112, 95, 116, 97, 98, 108, 101, 95, 98, 51]⟩⟩ : Str) = none := by rw [hb, ← nm19]; rfl
    cases hc : b1S c
    · have hl : isLet c = true := by simpa [okN, hc] using h3
      refine ⟨?_, h4, ?_⟩
      · cases o <;> simp [-Option.bind_some, smallI, bindR, r_nil, r_cons, c_next, c_ret, y_if, y_assign, y_ret, forRun, hb, hg, hr, hin, hbi, hbj, hb3 c hl, hc, prepN, isNoneD]
      · simp [prepN, hc] at h2 ⊢
        omega
    · refine ⟨?_, h4, ?_⟩
      · cases o <;> simp [-Option.bind_some, smallI, bindR, r_nil, r_cons, c_next, c_ret, y_if, y_assign, y_ret, forRun, hb, hg, hr', hin, hbi, hc, prepN]
      · simp [prepN, hc] at h2 ⊢
        omega
  · exact ⟨hx, by simpa using hl⟩
  · simp [-Option.bind_some, smallI, bindR, r_nil, r_cons, c_next, c_ret, y_if, y_assign, y_ret, retOf, foldl_fst (fun (r : List Nat) c => r ++ prepN c)]
    rw [List.flatMap_def]

theorem seqIndex_pos {i : Int} {n : Nat} (h0 : 0 ≤ i) (h1 : i < n) : seqIndex? i n = some i.toNat := by
  unfold seqIndex?
  simp only [if_neg (Int.not_lt.mpr h0)]
  simp [h0, h1]
theorem seqIndex_neg {i : Int} {n : Nat} (h0 : i < 0) (h1 : 0 ≤ i + n) : seqIndex? i n = some (i + n).toNat := by
  unfold seqIndex?
  simp only [if_pos h0]
  have : i + n < n := by omega
  simp [h1, this]

theorem item_ints {l : List Int} {i : Int} (h0 : 0 ≤ i) (h1 : i < l.length) (h2 : l.length ≤ 1000) : itemD (.list (l.map .int)) i = some (.int (l.getD i.toNat 0)) := by
  have hs : smallI i = true := by unfold smallI; exact decide_eq_true (by rw [show (2 : Nat) ^ 29 = 536870912 from rfl]; omega)
  have hq : seqIndex? i (l.map D.int).length = some i.toNat := by
    rw [List.length_map]
    exact seqIndex_pos h0 h1
  unfold itemD
  rw [if_pos hs]
  dsimp only
  rw [hq]
  have : i.toNat < l.length := by omega
  simp [this]

/-- how a letter is typed -/
noncomputable def hidN (x : Int) : List Nat := if (x.fdiv 24).fmod 2 = 1 then [(b1L.getD (((x.fdiv 48).fmod 27).toNat) 0).toNat] else []
noncomputable def shapeN (x : Int) : Int := ([97, 65, 119808] : List Int).getD (((x.fdiv 8).fmod 3).toNat) 0

theorem fmod_range (x : Int) {n : Int} (h : 0 < n) : 0 ≤ x.fmod n ∧ x.fmod n < n := ⟨Int.fmod_nonneg_of_pos x h, Int.fmod_lt_of_pos x h⟩

theorem b1_code : ∀ c ∈ b1L, 0 ≤ c ∧ c ≤ 1114111 := by decide +kernel
theorem b1_len : b1L.length = 27 := by decide +kernel

noncomputable def KL19 : List Str := [(⟨⟨[108, 101, 116, 116, 101, 114]⟩⟩ : Str), (⟨⟨[120]⟩⟩ : Str), (⟨⟨[104, 105, 100, 100, 101, 110]⟩⟩ : Str)]
@[local simp] theorem s19_2 : storable (fnAt 19).2.1 (⟨⟨[104, 105, 100, 100, 101, 110]⟩⟩ : Str) = true := rfl
@[local simp] theorem bd19_0 : badN (⟨⟨[108, 101, 116, 116, 101, 114]⟩⟩ : Str) = false := rfl
@[local simp] theorem c19_0 {T : Tabs} {σ : Vars} {ds : List D} (hb : T.bi = biV) (hk : keysIn KL19 σ = true) : callD T (fnAt 19).2.1 σ (⟨⟨[99, 104, 114]⟩⟩ : Str) ds = fnD (.builtin "chr") ds := call_bi _ hk rfl rfl rfl (by rw [hb]; rfl)
@[local simp] theorem c19_1 {T : Tabs} {σ : Vars} {ds : List D} (hb : T.bi (⟨⟨[95, 108, 97, 119, 95, 117, 110, 115, 101, 101, 110]⟩⟩ : Str) = none) (hk : keysIn KL19 σ = true) : callD T (fnAt 19).2.1 σ (⟨⟨[95, 108, 97, 119, 95, 117, 110, 115, 101, 101, 110]⟩⟩ : Str) ds = T.fn (⟨⟨[95, 108, 97, 119, 95, 117, 110, 115, 101, 101, 110]⟩⟩ : Str) ds := call_fn hk rfl rfl rfl hb
@[local simp] theorem l19_1 (v0 v1 : D) (r : Vars) : List.lookup (⟨⟨[120]⟩⟩ : Str) (((⟨⟨[108, 101, 116, 116, 101, 114]⟩⟩ : Str), v0) :: ((⟨⟨[120]⟩⟩ : Str), v1) :: r) = some v1 := rfl
@[local simp] theorem k19_1 (v0 v1 : D) : keysIn KL19 (((⟨⟨[108, 101, 116, 116, 101, 114]⟩⟩ : Str), v0) :: ((⟨⟨[120]⟩⟩ : Str), v1) :: []) = true := Eq.trans rfl rfl
@[local simp] theorem l19_2 (v0 v1 v2 : D) (r : Vars) : List.lookup (⟨⟨[104, 105, 100, 100, 101, 110]⟩⟩ : Str) (((⟨⟨[108, 101, 116, 116, 101, 114]⟩⟩ : Str), v0) :: ((⟨⟨[120]⟩⟩ : Str), v1) :: ((⟨⟨[104, 105, 100, 100, 101, 110]⟩⟩ : Str), v2) :: r) = some v2 := rfl
@[local simp] theorem k19_2 (v0 v1 v2 : D) : keysIn KL19 (((⟨⟨[108, 101, 116, 116, 101, 114]⟩⟩ : Str), v0) :: ((⟨⟨[120]⟩⟩ : Str), v1) :: ((⟨⟨[104, 105, 100, 100, 101, 110]⟩⟩ : Str), v2) :: []) = true := Eq.trans rfl rfl
@[local simp] theorem a19_2 (d : D) (v0 v1 : D) : setV (⟨⟨[104, 105, 100, 100, 101, 110]⟩⟩ : Str) d [((⟨⟨[108, 101, 116, 116, 101, 114]⟩⟩ : Str), v0), ((⟨⟨[120]⟩⟩ : Str), v1)] = [((⟨⟨[108, 101, 116, 116, 101, 114]⟩⟩ : Str), v0), ((⟨⟨[120]⟩⟩ : Str), v1), ((⟨⟨[104, 105, 100, 100, 101, 110]⟩⟩ : Str), d)] := rfl
theorem typed_ok {T : Tabs} (hb : T.bi = biV) (hg : T.gl = glD) (hu : T.fn (⟨⟨[95, 108, 97, 119, 95, 117, 110, 115, 101, 101, 110]⟩⟩ : Str) [] = some (.list (b1L.map .int))) (k : Nat) (hk : k ≤ 4) (x : Int) :
    callF T 19 [.int k, .int x] = some (.str (hidN x ++ [(shapeN x + k).toNat])) := by
  have r1 := fmod_range (x.fdiv 48) (n := 27) (by decide)
  have r2 := fmod_range (x.fdiv 8) (n := 3) (by decide)
  have i1 : itemD (.list (b1L.map .int)) ((x.fdiv 48).fmod 27) = some (.int (b1L.getD (((x.fdiv 48).fmod 27).toNat) 0)) := item_ints r1.1 (by rw [b1_len]; exact r1.2) (by rw [b1_len]; decide)
  have i2 : itemD (.list [.int 97, .int 65, .int 119808]) ((x.fdiv 8).fmod 3) = some (.int (shapeN x)) := item_ints (l := [97, 65, 119808]) r2.1 r2.2 (by decide)
  have c1 : 0 ≤ b1L.getD (((x.fdiv 48).fmod 27).toNat) 0 ∧ b1L.getD (((x.fdiv 48).fmod 27).toNat) 0 ≤ 1114111 := by
    have hlt : ((x.fdiv 48).fmod 27).toNat < b1L.length := by rw [b1_len]; omega
    rw [List.getD_eq_getElem?_getD, List.getElem?_eq_getElem hlt]
    exact b1_code _ (List.getElem_mem hlt)
  have c2 : 0 ≤ shapeN x + (k : Int) ∧ shapeN x + (k : Int) ≤ 1114111 := by
    unfold shapeN
    have : ((x.fdiv 8).fmod 3).toNat = 0 ∨ ((x.fdiv 8).fmod 3).toNat = 1 ∨ ((x.fdiv 8).fmod 3).toNat = 2 := by omega
    rcases this with e | e | e <;> rw [e] <;> simp <;> omega
  have hbi : T.bi (⟨⟨[95, 108, 97, 119, 95, 117, 110, 115, 101, 101, 110]⟩⟩ : Str) = none := by rw [hb, ← nm17]; rfl
  unfold hidN
  generalize b1L.getD (((x.fdiv 48).fmod 27).toNat) 0 = v at i1 c1 ⊢
  unfold callF callX
  generalize ghps : (fnAt 19).1 = ps
  have hps : ?lhps = ps := ?qhps
  have chps : (fnAt 19).1 = (fnAt 19).1 := rfl
  conv at chps =>
    lhs
    cbv
  change ?lhps = _ at chps
  case qhps => exact Eq.trans rfl ghps
  clear chps ghps
  generalize ghbd : (fnAt 19).2.2 = bd
  have hbd : ?lhbd = bd := ?qhbd
  have chbd : (fnAt 19).2.2 = (fnAt 19).2.2 := rfl
  conv at chbd =>
    lhs
    cbv
  change ?lhbd = _ at chbd
  case qhbd => exact Eq.trans rfl ghbd
  clear chbd ghbd
  subst hps
  subst hbd
  by_cases hc : (x.fdiv 24).fmod 2 = 1
  · simp [-Option.bind_some, smallI, bindR, r_nil, r_cons, c_next, c_ret, y_if, y_assign, y_ret, hb, hg, hbi, hu, hc, i1, i2, c1.1, c1.2, c2.1, c2.2, retOf]
  · simp [-Option.bind_some, smallI, bindR, r_nil, r_cons, c_next, c_ret, y_if, y_assign, y_ret, hb, hg, hbi, hu, hc, i1, i2, c1.1, c1.2, c2.1, c2.2, retOf]

noncomputable def KL4 : List Str := [(⟨⟨[99, 104, 95, 97]⟩⟩ : Str), (⟨⟨[99, 104, 95, 98]⟩⟩ : Str)]
@[local simp] theorem bd4_0 : badN (⟨⟨[99, 104, 95, 97]⟩⟩ : Str) = false := rfl
@[local simp] theorem bd4_1 : badN (⟨⟨[99, 104, 95, 98]⟩⟩ : Str) = false := rfl
@[local simp] theorem bd4_3 : badN (⟨⟨[95, 77, 79, 86, 69, 95, 67, 79, 83, 84]⟩⟩ : Str) = false := rfl
@[local simp] theorem g4_1 {T : Tabs} {σ : Vars} (hk : keysIn KL4 σ = true) : nameV T (fnAt 4).2.1 (⟨⟨[95, 77, 79, 86, 69, 95, 67, 79, 83, 84]⟩⟩ : Str) false (List.lookup (⟨⟨[95, 77, 79, 86, 69, 95, 67, 79, 83, 84]⟩⟩ : Str) σ) = T.gl (⟨⟨[95, 77, 79, 86, 69, 95, 67, 79, 83, 84]⟩⟩ : Str) := glob_at hk rfl rfl
@[local simp] theorem l4_1 (v0 v1 : D) (r : Vars) : List.lookup (⟨⟨[99, 104, 95, 98]⟩⟩ : Str) (((⟨⟨[99, 104, 95, 97]⟩⟩ : Str), v0) :: ((⟨⟨[99, 104, 95, 98]⟩⟩ : Str), v1) :: r) = some v1 := rfl
@[local simp] theorem k4_1 (v0 v1 : D) : keysIn KL4 (((⟨⟨[99, 104, 95, 97]⟩⟩ : Str), v0) :: ((⟨⟨[99, 104, 95, 98]⟩⟩ : Str), v1) :: []) = true := Eq.trans rfl rfl
theorem sub_ok' {T : Tabs} (hb : T.bi = biV) (hg : T.gl = glD) (x y : Nat) (h : x ≠ y → Txt.lower ⟨#[x]⟩ ≠ Txt.lower ⟨#[y]⟩) (h1 : (Txt.lower ⟨#[x]⟩).length ≤ 100) (h2 : (Txt.lower ⟨#[y]⟩).length ≤ 100) : callF T 4 [.str [x], .str [y]] = some (.int (if x = y then 0 else 2)) := by
  have h1' : (Txt.lower ⟨#[x]⟩).length ≤ 16777216 := by omega
  have h2' : (Txt.lower ⟨#[y]⟩).length ≤ 16777216 := by omega
  unfold callF callX
  generalize ghps : (fnAt 4).1 = ps
  have hps : ?lhps = ps := ?qhps
  have chps : (fnAt 4).1 = (fnAt 4).1 := rfl
  conv at chps =>
    lhs
    cbv
  change ?lhps = _ at chps
  case qhps => exact Eq.trans rfl ghps
  clear chps ghps
  generalize ghbd : (fnAt 4).2.2 = bd
  have hbd : ?lhbd = bd := ?qhbd
  have chbd : (fnAt 4).2.2 = (fnAt 4).2.2 := rfl
  conv at chbd =>
    lhs
    cbv
  change ?lhbd = _ at chbd
  case qhbd => exact Eq.trans rfl ghbd
  clear chbd ghbd
  subst hps
  subst hbd
  by_cases hc : x = y
  · simp [-Option.bind_some, smallI, bindR, r_nil, r_cons, c_next, c_ret, y_if, y_assign, y_ret, hb, hg, hc, retOf]
  · have h3 : ¬ (Txt.lower ⟨#[x]⟩).cps = (Txt.lower ⟨#[y]⟩).cps := fun e => h hc (congrArg Str.mk e)
    simp [-Option.bind_some, smallI, bindR, r_nil, r_cons, c_next, c_ret, y_if, y_assign, y_ret, hb, hg, hc, h1', h2', h3, retOf]

theorem runF_foldR {α β : Type} {run : Option Str → Vars → Option Out} {sc : Names} {t : Expr} (st : α → Vars) (f : α → β → Option α) (enc : β → D) (r : D) (I : List β → α → Prop)
    {ow : Option Str} (h0 : ∀ x, (flatD (enc x) = true ∧ nameOk t (enc x) = true)) (h1 : (tgtNames t).all (fun x => ow != some x) = true)
    (h : ∀ a x l, I (x :: l) a → ((assignD sc t (enc x) (st a)).bind (run ow) = match f a x with | some a' => some (.next ow (st a')) | none => some (.ret r)) ∧ ∀ a', f a x = some a' → I l a') :
    ∀ (l : List β) (a : α), I l a → runF run sc t (l.map enc) ow (st a) = match l.foldlM f a with | some a' => some (.next ow (st a')) | none => some (.ret r)
  | [], a, _ => rfl
  | x :: l, a, i => by
    obtain ⟨e, i'⟩ := h a x l i
    cases hf : f a x with
    | none =>
      rw [hf] at e
      rw [Option.bind_eq_some_iff] at e
      obtain ⟨σ', e1, e2⟩ := e
      simp only [List.map_cons, runF, (h0 x).1, (h0 x).2, h1, Bool.and_self, if_true, e1, e2, Option.bind_some, List.foldlM_cons, hf]
      rfl
    | some a' =>
      rw [hf] at e
      rw [Option.bind_eq_some_iff] at e
      obtain ⟨σ', e1, e2⟩ := e
      simp only [List.map_cons, runF, (h0 x).1, (h0 x).2, h1, Bool.and_self, if_true, e1, e2, Option.bind_some, List.foldlM_cons, hf]
      exact runF_foldR st f enc r I h0 h1 h l a' (i' a' hf)

/-! the units of a text -/
noncomputable def escN : Nat → Bool → List Nat → List (Nat × List Nat)
  | _, _, [] => []
  | i, true, c :: cs => (i, [92, c]) :: escN (i + 1) false cs
  | i, false, c :: cs => if c = 92 then escN (i + 1) true cs else (i, [c]) :: escN (i + 1) false cs
noncomputable def encU (u : Nat × List Nat) : D := .tuple [.int (u.1 : Nat), .str u.2]
theorem escL_N : ∀ (x : List Nat) (i : Nat) (b : Bool), escEnd b x = false → escL i b x = (escN i b x).map encU
  | [], i, b, h => by
    simp only [escEnd] at h
    subst h
    rfl
  | c :: cs, i, true, h => by
    simp only [escEnd] at h
    simp [escL, escN, escL_N cs _ _ h, encU]
  | c :: cs, i, false, h => by
    simp only [escEnd] at h
    by_cases hc : c = 92
    · subst hc
      have h : escEnd true cs = false := h
      simp [escL, escN, escL_N cs _ _ h]
    · have : (c == 92) = false := by simpa using hc
      rw [this] at h
      simp [escL, escN, escL_N cs _ _ h, hc, encU]

structure Sst where
  start : Nat
  opn : Option Nat
  res : List (List Nat)
noncomputable def cutN (x : List Nat) (s e : Nat) : List Nat := (x.drop s).take (e - s)
noncomputable def stripF (x : List Nat) (a : Sst) (u : Nat × List Nat) : Sst := if u.2 = [34] then (match a.opn with
  | none => ⟨a.start, some u.1, a.res⟩
  | some o => ⟨u.1 + 1, none, if a.start = o then a.res else a.res ++ [cutN x a.start o]⟩) else a
noncomputable def stripE (x : List Nat) (a : Sst) : List (List Nat) := if a.start < x.length then a.res ++ [x.drop a.start] else a.res
noncomputable def stripP (x : List Nat) : List Nat := if 34 ∈ x then (stripE x ((escN 0 false x).foldl (stripF x) ⟨0, none, []⟩)).flatten else x

noncomputable def optI : Option Nat → D
  | none => .none
  | some o => .int (o : Nat)

theorem strsOf_map : ∀ l : List (List Nat), strsOf (l.map .str) = some l
  | [] => rfl
  | x :: l => congrArg (Option.map (x :: ·)) (strsOf_map l)
theorem cut_slice {x : List Nat} {s e : Nat} (h1 : s ≤ e) (h2 : e ≤ x.length) : sliceL (some (s : Int)) (some (e : Int)) none x = cutN x s e := by
  rw [sliceL_plain]
  unfold cutN
  have c1 : clipAt x.length (s : Int) = s := clip_nat (Nat.le_trans h1 h2)
  have c2 : clipAt x.length (e : Int) = e := clip_nat h2
  simp [c1, c2]
theorem drop_slice {x : List Nat} {s : Nat} (h2 : s ≤ x.length) : sliceL (some (s : Int)) none none x = x.drop s := by
  rw [sliceL_plain]
  have c1 : clipAt x.length (s : Int) = s := clip_nat h2
  simp [c1]
  exact List.take_of_length_le (by simp)

theorem escN_at : ∀ (x : List Nat) (i : Nat) (b : Bool), (escN i b x).Pairwise (fun u v => u.1 < v.1) ∧ (∀ u ∈ escN i b x, i ≤ u.1 ∧ u.1 < i + x.length) ∧ (escN i b x).length ≤ x.length
  | [], i, b => by simp [escN]
  | c :: cs, i, b => by
    have go : ∀ b' u, ((u :: escN (i + 1) b' cs).Pairwise (fun u v => u.1 < v.1) ∧ (∀ v ∈ (u :: escN (i + 1) b' cs), i ≤ v.1 ∧ v.1 < i + (c :: cs).length) ∧ (u :: escN (i + 1) b' cs).length ≤ (c :: cs).length) ∨ u.1 ≠ i := fun b' u => by
      by_cases hu : u.1 = i
      · obtain ⟨h1, h2, h3⟩ := escN_at cs (i + 1) b'
        refine .inl ⟨List.pairwise_cons.mpr ⟨fun v hv => by have := h2 v hv; omega, h1⟩, fun v hv => ?_, by simp; omega⟩
        rcases List.mem_cons.mp hv with rfl | hv
        · simp; omega
        · have := h2 v hv
          simp
          omega
      · exact .inr hu
    cases b with
    | true =>
      rcases go false (i, [92, c]) with h | h
      · simpa [escN] using h
      · exact absurd rfl h
    | false =>
      by_cases hc : c = 92
      · obtain ⟨h1, h2, h3⟩ := escN_at cs (i + 1) true
        simp only [escN, hc, if_true]
        refine ⟨h1, fun u hu => by have := h2 u hu; simp; omega, by simp; omega⟩
      · rcases go false (i, [c]) with h | h
        · simpa [escN, hc] using h
        · exact absurd rfl h

theorem fold_inv {α β : Type} {f : α → β → α} {I : List β → α → Prop} (h : ∀ a x l, I (x :: l) a → I l (f a x)) : ∀ (l : List β) (a : α), I l a → I [] (l.foldl f a)
  | [], _, i => i
  | x :: l, a, i => fold_inv h l (f a x) (h a x l i)

structure Sinv (x : List Nat) (l : List (Nat × List Nat)) (a : Sst) : Prop where
  srt : l.Pairwise (fun u v => u.1 < v.1)
  lo : a.start ≤ x.length
  un : ∀ u ∈ l, a.start ≤ u.1 ∧ u.1 < x.length
  op : ∀ o, a.opn = some o → a.start ≤ o ∧ o < x.length ∧ ∀ u ∈ l, o < u.1
  len : a.res.length + l.length ≤ 1000

theorem Sinv.step {x : List Nat} {a : Sst} {u : Nat × List Nat} {l : List (Nat × List Nat)} (h : Sinv x (u :: l) a) : Sinv x l (stripF x a u) := by
  obtain ⟨h1, h2, h3, h4, h5⟩ := h
  rw [List.pairwise_cons] at h1
  have hu := h3 u (List.mem_cons_self ..)
  unfold stripF
  simp only [List.length_cons] at h5
  split
  · cases ho : a.opn with
    | none =>
      exact ⟨h1.2, h2, fun v hv => h3 v (List.mem_cons_of_mem _ hv), fun o e => by cases e; exact ⟨hu.1, hu.2, h1.1⟩, by simp only; omega⟩
    | some o =>
      refine ⟨h1.2, by simp only; omega, fun v hv => ⟨by have := h1.1 v hv; simp only; omega, (h3 v (List.mem_cons_of_mem _ hv)).2⟩, fun o e => (by cases e), ?_⟩
      simp only
      split
      · omega
      · simp
        omega
  · exact ⟨h1.2, h2, fun v hv => h3 v (List.mem_cons_of_mem _ hv), fun o e => by
      obtain ⟨p, q, r⟩ := h4 o e
      exact ⟨p, q, fun v hv => r v (List.mem_cons_of_mem _ hv)⟩, by omega⟩

theorem Sinv.start {x : List Nat} (hl : x.length ≤ 1000) : Sinv x (escN 0 false x) ⟨0, none, []⟩ := by
  obtain ⟨h1, h2, h3⟩ := escN_at x 0 false
  exact ⟨h1, Nat.zero_le _, fun u hu => by have := h2 u hu; simp only; omega, fun o e => (by cases e), by simp only [List.length_nil]; omega⟩

noncomputable def KL8 : List Str := [(⟨⟨[97, 100, 100, 114]⟩⟩ : Str), (⟨⟨[115, 116, 97, 114, 116]⟩⟩ : Str), (⟨⟨[111, 112, 101, 110, 95, 112, 111, 115]⟩⟩ : Str), (⟨⟨[114, 101, 115, 117, 108, 116]⟩⟩ : Str), (⟨⟨[112, 111, 115]⟩⟩ : Str), (⟨⟨[99, 104]⟩⟩ : Str)]
@[local simp] theorem s8_1 : storable (fnAt 8).2.1 (⟨⟨[115, 116, 97, 114, 116]⟩⟩ : Str) = true := rfl
@[local simp] theorem s8_2 : storable (fnAt 8).2.1 (⟨⟨[111, 112, 101, 110, 95, 112, 111, 115]⟩⟩ : Str) = true := rfl
@[local simp] theorem o8_3 : isLo (fnAt 8).2.1 (⟨⟨[114, 101, 115, 117, 108, 116]⟩⟩ : Str) = true := Eq.trans rfl rfl
@[local simp] theorem db8_3 : ((⟨⟨[114, 101, 115, 117, 108, 116]⟩⟩ : Str) == ("__debug__" : Str)) = false := Eq.trans rfl rfl
@[local simp] theorem cd8_3 : ((⟨⟨[114, 101, 115, 117, 108, 116]⟩⟩ : Str) == ("__classdict__" : Str)) = false := Eq.trans rfl rfl
@[local simp] theorem s8_4 : storable (fnAt 8).2.1 (⟨⟨[112, 111, 115]⟩⟩ : Str) = true := rfl
@[local simp] theorem s8_5 : storable (fnAt 8).2.1 (⟨⟨[99, 104]⟩⟩ : Str) = true := rfl
@[local simp] theorem bd8_0 : badN (⟨⟨[97, 100, 100, 114]⟩⟩ : Str) = false := rfl
@[local simp] theorem bd8_1 : badN (⟨⟨[115, 116, 97, 114, 116]⟩⟩ : Str) = false := rfl
@[local simp] theorem bd8_2 : badN (⟨⟨[111, 112, 101, 110, 95, 112, 111, 115]⟩⟩ : Str) = false := rfl
@[local simp] theorem bd8_3 : badN (⟨⟨[114, 101, 115, 117, 108, 116]⟩⟩ : Str) = false := rfl
@[local simp] theorem bd8_4 : badN (⟨⟨[112, 111, 115]⟩⟩ : Str) = false := rfl
@[local simp] theorem bd8_5 : badN (⟨⟨[99, 104]⟩⟩ : Str) = false := rfl
@[local simp] theorem n8_0 {T : Tabs} {σ : Vars} {ds : List D} (hk : keysIn KL8 σ = true) : genD T (fnAt 8).2.1 σ (⟨⟨[95, 105, 116, 101, 114, 95, 101, 115, 99, 97, 112, 101, 100, 95, 99, 104, 97, 114, 115]⟩⟩ : Str) ds = T.gn (⟨⟨[95, 105, 116, 101, 114, 95, 101, 115, 99, 97, 112, 101, 100, 95, 99, 104, 97, 114, 115]⟩⟩ : Str) ds := gen_fn hk rfl rfl rfl
@[local simp] theorem c8_1 {T : Tabs} {σ : Vars} {ds : List D} (hb : T.bi = biV) (hk : keysIn KL8 σ = true) : callD T (fnAt 8).2.1 σ (⟨⟨[108, 101, 110]⟩⟩ : Str) ds = fnD (.builtin "len") ds := call_bi _ hk rfl rfl rfl (by rw [hb]; rfl)
@[local simp] theorem p8_0 (d v0 : D) (r : Vars) : setV (⟨⟨[97, 100, 100, 114]⟩⟩ : Str) d (((⟨⟨[97, 100, 100, 114]⟩⟩ : Str), v0) :: r) = ((⟨⟨[97, 100, 100, 114]⟩⟩ : Str), d) :: r := rfl
@[local simp] theorem l8_1 (v0 v1 : D) (r : Vars) : List.lookup (⟨⟨[115, 116, 97, 114, 116]⟩⟩ : Str) (((⟨⟨[97, 100, 100, 114]⟩⟩ : Str), v0) :: ((⟨⟨[115, 116, 97, 114, 116]⟩⟩ : Str), v1) :: r) = some v1 := rfl
@[local simp] theorem p8_1 (d v0 v1 : D) (r : Vars) : setV (⟨⟨[115, 116, 97, 114, 116]⟩⟩ : Str) d (((⟨⟨[97, 100, 100, 114]⟩⟩ : Str), v0) :: ((⟨⟨[115, 116, 97, 114, 116]⟩⟩ : Str), v1) :: r) = ((⟨⟨[97, 100, 100, 114]⟩⟩ : Str), v0) :: ((⟨⟨[115, 116, 97, 114, 116]⟩⟩ : Str), d) :: r := rfl
@[local simp] theorem a8_1 (d : D) (v0 : D) : setV (⟨⟨[115, 116, 97, 114, 116]⟩⟩ : Str) d [((⟨⟨[97, 100, 100, 114]⟩⟩ : Str), v0)] = [((⟨⟨[97, 100, 100, 114]⟩⟩ : Str), v0), ((⟨⟨[115, 116, 97, 114, 116]⟩⟩ : Str), d)] := rfl
@[local simp] theorem l8_2 (v0 v1 v2 : D) (r : Vars) : List.lookup (⟨⟨[111, 112, 101, 110, 95, 112, 111, 115]⟩⟩ : Str) (((⟨⟨[97, 100, 100, 114]⟩⟩ : Str), v0) :: ((⟨⟨[115, 116, 97, 114, 116]⟩⟩ : Str), v1) :: ((⟨⟨[111, 112, 101, 110, 95, 112, 111, 115]⟩⟩ : Str), v2) :: r) = some v2 := rfl
@[local simp] theorem p8_2 (d v0 v1 v2 : D) (r : Vars) : setV (⟨⟨[111, 112, 101, 110, 95, 112, 111, 115]⟩⟩ : Str) d (((⟨⟨[97, 100, 100, 114]⟩⟩ : Str), v0) :: ((⟨⟨[115, 116, 97, 114, 116]⟩⟩ : Str), v1) :: ((⟨⟨[111, 112, 101, 110, 95, 112, 111, 115]⟩⟩ : Str), v2) :: r) = ((⟨⟨[97, 100, 100, 114]⟩⟩ : Str), v0) :: ((⟨⟨[115, 116, 97, 114, 116]⟩⟩ : Str), v1) :: ((⟨⟨[111, 112, 101, 110, 95, 112, 111, 115]⟩⟩ : Str), d) :: r := rfl
@[local simp] theorem a8_2 (d : D) (v0 v1 : D) : setV (⟨⟨[111, 112, 101, 110, 95, 112, 111, 115]⟩⟩ : Str) d [((⟨⟨[97, 100, 100, 114]⟩⟩ : Str), v0), ((⟨⟨[115, 116, 97, 114, 116]⟩⟩ : Str), v1)] = [((⟨⟨[97, 100, 100, 114]⟩⟩ : Str), v0), ((⟨⟨[115, 116, 97, 114, 116]⟩⟩ : Str), v1), ((⟨⟨[111, 112, 101, 110, 95, 112, 111, 115]⟩⟩ : Str), d)] := rfl
@[local simp] theorem l8_3 (v0 v1 v2 v3 : D) (r : Vars) : List.lookup (⟨⟨[114, 101, 115, 117, 108, 116]⟩⟩ : Str) (((⟨⟨[97, 100, 100, 114]⟩⟩ : Str), v0) :: ((⟨⟨[115, 116, 97, 114, 116]⟩⟩ : Str), v1) :: ((⟨⟨[111, 112, 101, 110, 95, 112, 111, 115]⟩⟩ : Str), v2) :: ((⟨⟨[114, 101, 115, 117, 108, 116]⟩⟩ : Str), v3) :: r) = some v3 := rfl
@[local simp] theorem k8_3 (v0 v1 v2 v3 : D) : keysIn KL8 (((⟨⟨[97, 100, 100, 114]⟩⟩ : Str), v0) :: ((⟨⟨[115, 116, 97, 114, 116]⟩⟩ : Str), v1) :: ((⟨⟨[111, 112, 101, 110, 95, 112, 111, 115]⟩⟩ : Str), v2) :: ((⟨⟨[114, 101, 115, 117, 108, 116]⟩⟩ : Str), v3) :: []) = true := Eq.trans rfl rfl
@[local simp] theorem p8_3 (d v0 v1 v2 v3 : D) (r : Vars) : setV (⟨⟨[114, 101, 115, 117, 108, 116]⟩⟩ : Str) d (((⟨⟨[97, 100, 100, 114]⟩⟩ : Str), v0) :: ((⟨⟨[115, 116, 97, 114, 116]⟩⟩ : Str), v1) :: ((⟨⟨[111, 112, 101, 110, 95, 112, 111, 115]⟩⟩ : Str), v2) :: ((⟨⟨[114, 101, 115, 117, 108, 116]⟩⟩ : Str), v3) :: r) = ((⟨⟨[97, 100, 100, 114]⟩⟩ : Str), v0) :: ((⟨⟨[115, 116, 97, 114, 116]⟩⟩ : Str), v1) :: ((⟨⟨[111, 112, 101, 110, 95, 112, 111, 115]⟩⟩ : Str), v2) :: ((⟨⟨[114, 101, 115, 117, 108, 116]⟩⟩ : Str), d) :: r := rfl
@[local simp] theorem a8_3 (d : D) (v0 v1 v2 : D) : setV (⟨⟨[114, 101, 115, 117, 108, 116]⟩⟩ : Str) d [((⟨⟨[97, 100, 100, 114]⟩⟩ : Str), v0), ((⟨⟨[115, 116, 97, 114, 116]⟩⟩ : Str), v1), ((⟨⟨[111, 112, 101, 110, 95, 112, 111, 115]⟩⟩ : Str), v2)] = [((⟨⟨[97, 100, 100, 114]⟩⟩ : Str), v0), ((⟨⟨[115, 116, 97, 114, 116]⟩⟩ : Str), v1), ((⟨⟨[111, 112, 101, 110, 95, 112, 111, 115]⟩⟩ : Str), v2), ((⟨⟨[114, 101, 115, 117, 108, 116]⟩⟩ : Str), d)] := rfl
@[local simp] theorem l8_4 (v0 v1 v2 v3 v4 : D) (r : Vars) : List.lookup (⟨⟨[112, 111, 115]⟩⟩ : Str) (((⟨⟨[97, 100, 100, 114]⟩⟩ : Str), v0) :: ((⟨⟨[115, 116, 97, 114, 116]⟩⟩ : Str), v1) :: ((⟨⟨[111, 112, 101, 110, 95, 112, 111, 115]⟩⟩ : Str), v2) :: ((⟨⟨[114, 101, 115, 117, 108, 116]⟩⟩ : Str), v3) :: ((⟨⟨[112, 111, 115]⟩⟩ : Str), v4) :: r) = some v4 := rfl
@[local simp] theorem p8_4 (d v0 v1 v2 v3 v4 : D) (r : Vars) : setV (⟨⟨[112, 111, 115]⟩⟩ : Str) d (((⟨⟨[97, 100, 100, 114]⟩⟩ : Str), v0) :: ((⟨⟨[115, 116, 97, 114, 116]⟩⟩ : Str), v1) :: ((⟨⟨[111, 112, 101, 110, 95, 112, 111, 115]⟩⟩ : Str), v2) :: ((⟨⟨[114, 101, 115, 117, 108, 116]⟩⟩ : Str), v3) :: ((⟨⟨[112, 111, 115]⟩⟩ : Str), v4) :: r) = ((⟨⟨[97, 100, 100, 114]⟩⟩ : Str), v0) :: ((⟨⟨[115, 116, 97, 114, 116]⟩⟩ : Str), v1) :: ((⟨⟨[111, 112, 101, 110, 95, 112, 111, 115]⟩⟩ : Str), v2) :: ((⟨⟨[114, 101, 115, 117, 108, 116]⟩⟩ : Str), v3) :: ((⟨⟨[112, 111, 115]⟩⟩ : Str), d) :: r := rfl
@[local simp] theorem a8_4 (d : D) (v0 v1 v2 v3 : D) : setV (⟨⟨[112, 111, 115]⟩⟩ : Str) d [((⟨⟨[97, 100, 100, 114]⟩⟩ : Str), v0), ((⟨⟨[115, 116, 97, 114, 116]⟩⟩ : Str), v1), ((⟨⟨[111, 112, 101, 110, 95, 112, 111, 115]⟩⟩ : Str), v2), ((⟨⟨[114, 101, 115, 117, 108, 116]⟩⟩ : Str), v3)] = [((⟨⟨[97, 100, 100, 114]⟩⟩ : Str), v0), ((⟨⟨[115, 116, 97, 114, 116]⟩⟩ : Str), v1), ((⟨⟨[111, 112, 101, 110, 95, 112, 111, 115]⟩⟩ : Str), v2), ((⟨⟨[114, 101, 115, 117, 108, 116]⟩⟩ : Str), v3), ((⟨⟨[112, 111, 115]⟩⟩ : Str), d)] := rfl
@[local simp] theorem l8_5 (v0 v1 v2 v3 v4 v5 : D) (r : Vars) : List.lookup (⟨⟨[99, 104]⟩⟩ : Str) (((⟨⟨[97, 100, 100, 114]⟩⟩ : Str), v0) :: ((⟨⟨[115, 116, 97, 114, 116]⟩⟩ : Str), v1) :: ((⟨⟨[111, 112, 101, 110, 95, 112, 111, 115]⟩⟩ : Str), v2) :: ((⟨⟨[114, 101, 115, 117, 108, 116]⟩⟩ : Str), v3) :: ((⟨⟨[112, 111, 115]⟩⟩ : Str), v4) :: ((⟨⟨[99, 104]⟩⟩ : Str), v5) :: r) = some v5 := rfl
@[local simp] theorem k8_5 (v0 v1 v2 v3 v4 v5 : D) : keysIn KL8 (((⟨⟨[97, 100, 100, 114]⟩⟩ : Str), v0) :: ((⟨⟨[115, 116, 97, 114, 116]⟩⟩ : Str), v1) :: ((⟨⟨[111, 112, 101, 110, 95, 112, 111, 115]⟩⟩ : Str), v2) :: ((⟨⟨[114, 101, 115, 117, 108, 116]⟩⟩ : Str), v3) :: ((⟨⟨[112, 111, 115]⟩⟩ : Str), v4) :: ((⟨⟨[99, 104]⟩⟩ : Str), v5) :: []) = true := Eq.trans rfl rfl
@[local simp] theorem p8_5 (d v0 v1 v2 v3 v4 v5 : D) (r : Vars) : setV (⟨⟨[99, 104]⟩⟩ : Str) d (((⟨⟨[97, 100, 100, 114]⟩⟩ : Str), v0) :: ((⟨⟨[115, 116, 97, 114, 116]⟩⟩ : Str), v1) :: ((⟨⟨[111, 112, 101, 110, 95, 112, 111, 115]⟩⟩ : Str), v2) :: ((⟨⟨[114, 101, 115, 117, 108, 116]⟩⟩ : Str), v3) :: ((⟨⟨[112, 111, 115]⟩⟩ : Str), v4) :: ((⟨⟨[99, 104]⟩⟩ : Str), v5) :: r) = ((⟨⟨[97, 100, 100, 114]⟩⟩ : Str), v0) :: ((⟨⟨[115, 116, 97, 114, 116]⟩⟩ : Str), v1) :: ((⟨⟨[111, 112, 101, 110, 95, 112, 111, 115]⟩⟩ : Str), v2) :: ((⟨⟨[114, 101, 115, 117, 108, 116]⟩⟩ : Str), v3) :: ((⟨⟨[112, 111, 115]⟩⟩ : Str), v4) :: ((⟨⟨[99, 104]⟩⟩ : Str), d) :: r := rfl
@[local simp] theorem a8_5 (d : D) (v0 v1 v2 v3 v4 : D) : setV (⟨⟨[99, 104]⟩⟩ : Str) d [((⟨⟨[97, 100, 100, 114]⟩⟩ : Str), v0), ((⟨⟨[115, 116, 97, 114, 116]⟩⟩ : Str), v1), ((⟨⟨[111, 112, 101, 110, 95, 112, 111, 115]⟩⟩ : Str), v2), ((⟨⟨[114, 101, 115, 117, 108, 116]⟩⟩ : Str), v3), ((⟨⟨[112, 111, 115]⟩⟩ : Str), v4)] = [((⟨⟨[97, 100, 100, 114]⟩⟩ : Str), v0), ((⟨⟨[115, 116, 97, 114, 116]⟩⟩ : Str), v1), ((⟨⟨[111, 112, 101, 110, 95, 112, 111, 115]⟩⟩ : Str), v2), ((⟨⟨[114, 101, 115, 117, 108, 116]⟩⟩ : Str), v3), ((⟨⟨[112, 111, 115]⟩⟩ : Str), v4), ((⟨⟨[99, 104]⟩⟩ : Str), d)] := rfl
@[local simp] theorem w8_1 (d : D) : storeOk (some (⟨⟨[114, 101, 115, 117, 108, 116]⟩⟩ : Str)) (⟨⟨[115, 116, 97, 114, 116]⟩⟩ : Str) d = scalarD d := rfl
@[local simp] theorem w8_2 (d : D) : storeOk (some (⟨⟨[114, 101, 115, 117, 108, 116]⟩⟩ : Str)) (⟨⟨[111, 112, 101, 110, 95, 112, 111, 115]⟩⟩ : Str) d = scalarD d := rfl
theorem strip_ok {T : Tabs} (hb : T.bi = biV) (hg : T.gl = glD) (x : List Nat) (hn : T.gn (⟨⟨[95, 105, 116, 101, 114, 95, 101, 115, 99, 97, 112, 101, 100, 95, 99, 104, 97, 114, 115]⟩⟩ : Str) [.str x] = some ((escN 0 false x).map encU)) (hl : x.length ≤ 1000) (hs : (stripP x).length ≤ 1000) : callF T 8 [.str x] = some (.str (stripP x)) := by
  have hz : x.length ≤ 16777216 := by omega
  unfold callF callX
  generalize ghps : (fnAt 8).1 = ps
  have hps : ?lhps = ps := ?qhps
  have chps : (fnAt 8).1 = (fnAt 8).1 := rfl
  conv at chps =>
    lhs
    cbv
  change ?lhps = _ at chps
  case qhps => exact Eq.trans rfl ghps
  clear chps ghps
  generalize ghbd : (fnAt 8).2.2 = bd
  have hbd : ?lhbd = bd := ?qhbd
  have chbd : (fnAt 8).2.2 = (fnAt 8).2.2 := rfl
  conv at chbd =>
    lhs
    cbv
  change ?lhbd = _ at chbd
  case qhbd => exact Eq.trans rfl ghbd
  clear chbd ghbd
  subst hps
  subst hbd
  by_cases hq : 34 ∈ x
  · simp [-Option.bind_some, smallI, bindR, r_nil, r_cons, c_next, c_ret, y_if, y_assign, y_ret, hb, hg, hz, hq, hn]
    refine retBind (runF_fold (st := fun (a : Sst × Option (Nat × List Nat)) => [((⟨⟨[97, 100, 100, 114]⟩⟩ : Str), D.str x), ((⟨⟨[115, 116, 97, 114, 116]⟩⟩ : Str), D.int (a.1.start : Nat)), ((⟨⟨[111, 112, 101, 110, 95, 112, 111, 115]⟩⟩ : Str), optI a.1.opn), ((⟨⟨[114, 101, 115, 117, 108, 116]⟩⟩ : Str), D.list (a.1.res.map D.str))] ++ (a.2.toList.flatMap fun u => [((⟨⟨[112, 111, 115]⟩⟩ : Str), D.int (u.1 : Nat)), ((⟨⟨[99, 104]⟩⟩ : Str), D.str u.2)]))
      (f := fun a u => (stripF x a.1 u, some u)) (enc := encU) (I := fun l a => Sinv x l a.1) (a := (⟨0, none, []⟩, none)) (fun _ => ⟨rfl, rfl⟩) (by decide +kernel) ?_ (escN 0 false x) (.start hl)) ?_
    · rintro ⟨⟨st, op, rs⟩, o⟩ ⟨p, v⟩ l i
      refine ⟨?_, i.step⟩
      have hlen : rs.length ≤ 16777216 := by have := i.len; simp only at this; omega
      by_cases hv : v = [34]
      · subst hv
        cases op with
        | none => cases o <;> simp [-Option.bind_some, smallI, bindR, r_nil, r_cons, c_next, c_ret, y_if, y_assign, y_ret, forRun, hb, hg, encU, stripF, optI, isNoneD]
        | some q =>
          have hq' := i.op q rfl
          simp only at hq'
          have hcut : sliceL (some (st : Int)) (some (q : Int)) none x = cutN x st q := cut_slice hq'.1 (by omega)
          by_cases hs' : st = q
          · subst hs'
            cases o <;> simp [-Option.bind_some, smallI, bindR, r_nil, r_cons, c_next, c_ret, y_if, y_assign, y_ret, forRun, hb, hg, encU, stripF, optI, isNoneD]
          · have hs2 : ¬ (st : Int) = (q : Int) := by omega
            cases o <;> simp [-Option.bind_some, smallI, bindR, r_nil, r_cons, c_next, c_ret, y_if, y_assign, y_ret, forRun, hb, hg, hz, hlen, encU, stripF, optI, isNoneD, hs', hs2, hcut]
      · cases o <;> simp [-Option.bind_some, smallI, bindR, r_nil, r_cons, c_next, c_ret, y_if, y_assign, y_ret, forRun, hb, hg, encU, stripF, optI, isNoneD, hv]
    · have hi : Sinv x [] (((escN 0 false x).foldl (fun (a : Sst × Option (Nat × List Nat)) u => (stripF x a.1 u, some u)) (⟨0, none, []⟩, none)).1) := by
        rw [foldl_fst (stripF x)]
        exact fold_inv (I := fun l a => Sinv x l a) (fun a u l h => h.step) _ _ (.start hl)
      unfold stripP at hs ⊢
      rw [if_pos hq] at hs ⊢
      rw [← foldl_fst (stripF x) (escN 0 false x) ⟨0, none, []⟩ none] at hs ⊢
      generalize (escN 0 false x).foldl (fun (a : Sst × Option (Nat × List Nat)) u => (stripF x a.1 u, some u)) (⟨0, none, []⟩, none) = a at hi hs ⊢
      obtain ⟨⟨st, op, rs⟩, o⟩ := a
      have hlo := hi.lo
      have hdr := drop_slice hlo
      simp only at hlo hdr hs ⊢
      have hlen : rs.length ≤ 16777216 := by have := hi.len; simp only at this; omega
      unfold stripE at hs ⊢
      simp only at hs ⊢
      by_cases hc : st < x.length
      · have hc2 : (st : Int) < (x.length : Int) := by omega
        rw [if_pos hc] at hs ⊢
        have hs2 : (rs ++ [x.drop st]).flatten.length ≤ 16777216 := by omega
        have hm : strsOf (rs.map D.str ++ [D.str (x.drop st)]) = some (rs ++ [x.drop st]) := by
          have := strsOf_map (rs ++ [x.drop st])
          rwa [List.map_append] at this
        simp at hs2
        cases o <;> simp [-Option.bind_some, smallI, bindR, r_nil, r_cons, c_next, c_ret, y_if, y_assign, y_ret, forRun, hb, hg, hz, hlen, hc, hc2, hdr, hm, hs2, retOf]
      · have hc2 : ¬ (st : Int) < (x.length : Int) := by omega
        rw [if_neg hc] at hs ⊢
        have hs2 : rs.flatten.length ≤ 16777216 := by omega
        rw [List.length_flatten] at hs2
        cases o <;> simp [-Option.bind_some, smallI, bindR, r_nil, r_cons, c_next, c_ret, y_if, y_assign, y_ret, forRun, hb, hg, hz, hlen, hc, hc2, hdr, strsOf_map, hs2, retOf]
  · simp [-Option.bind_some, smallI, bindR, r_nil, r_cons, c_next, c_ret, y_if, y_assign, y_ret, hb, hg, hz, hq, hn, stripP, retOf]

noncomputable def chkF (d : Int) (u : Nat × List Nat) : Option Int := if u.2 = [40] then some (d + 1) else if u.2 = [41] then (if d - 1 < 0 then none else some (d - 1)) else some d
noncomputable def chkP (us : List (Nat × List Nat)) : Bool := match us.foldlM chkF 0 with
  | some d => d == 0
  | none => false

theorem foldlM_fst {α β : Type} (f : α → β → Option α) : ∀ (l : List β) (a : α) (o : Option β), ∃ o', (l.foldlM (fun (a : α × Option β) x => (f a.1 x).map fun b => (b, some x)) (a, o)) = (l.foldlM f a).map fun b => (b, o')
  | [], _, o => ⟨o, rfl⟩
  | x :: l, a, o => by
    cases h : f a x with
    | none => exact ⟨none, by simp [List.foldlM_cons, h]⟩
    | some b =>
      obtain ⟨o', e⟩ := foldlM_fst f l b (some x)
      exact ⟨o', by simp [List.foldlM_cons, h, e]⟩

theorem retBindM {α : Type} {o : Option Out} {k : Out → Option Out} {ow : Option Str} {st : α → Vars} {m : Option α} {r d : D} (h : o = match m with | some a => some (.next ow (st a)) | none => some (.ret r))
    (h2 : ∀ a, m = some a → retOf (k (.next ow (st a))) = some d) (h3 : m = none → retOf (k (.ret r)) = some d) : retOf (o.bind k) = some d := by
  rw [h]
  cases hm : m with
  | none => exact h3 hm
  | some a => exact h2 a hm

noncomputable def KL9 : List Str := [(⟨⟨[97, 100, 100, 114]⟩⟩ : Str), (⟨⟨[111, 112, 101, 110, 115]⟩⟩ : Str), (⟨⟨[112, 111, 115]⟩⟩ : Str), (⟨⟨[99, 104]⟩⟩ : Str)]
@[local simp] theorem s9_0 : storable (fnAt 9).2.1 (⟨⟨[97, 100, 100, 114]⟩⟩ : Str) = true := rfl
@[local simp] theorem s9_1 : storable (fnAt 9).2.1 (⟨⟨[111, 112, 101, 110, 115]⟩⟩ : Str) = true := rfl
@[local simp] theorem cd9_1 : ((⟨⟨[111, 112, 101, 110, 115]⟩⟩ : Str) == ("__classdict__" : Str)) = false := Eq.trans rfl rfl
@[local simp] theorem s9_2 : storable (fnAt 9).2.1 (⟨⟨[112, 111, 115]⟩⟩ : Str) = true := rfl
@[local simp] theorem s9_3 : storable (fnAt 9).2.1 (⟨⟨[99, 104]⟩⟩ : Str) = true := rfl
@[local simp] theorem bd9_1 : badN (⟨⟨[111, 112, 101, 110, 115]⟩⟩ : Str) = false := rfl
@[local simp] theorem nl9_0 : ((⟨⟨[95, 115, 116, 114, 105, 112, 95, 113, 117, 111, 116, 101, 100, 95, 114, 101, 97, 108, 110, 97, 109, 101, 115]⟩⟩ : Str) == ("list" : Str)) = false := Eq.trans rfl rfl
@[local simp] theorem c9_0 {T : Tabs} {σ : Vars} {ds : List D} (hb : T.bi (⟨⟨[95, 115, 116, 114, 105, 112, 95, 113, 117, 111, 116, 101, 100, 95, 114, 101, 97, 108, 110, 97, 109, 101, 115]⟩⟩ : Str) = none) (hk : keysIn KL9 σ = true) : callD T (fnAt 9).2.1 σ (⟨⟨[95, 115, 116, 114, 105, 112, 95, 113, 117, 111, 116, 101, 100, 95, 114, 101, 97, 108, 110, 97, 109, 101, 115]⟩⟩ : Str) ds = T.fn (⟨⟨[95, 115, 116, 114, 105, 112, 95, 113, 117, 111, 116, 101, 100, 95, 114, 101, 97, 108, 110, 97, 109, 101, 115]⟩⟩ : Str) ds := call_fn hk rfl rfl rfl hb
@[local simp] theorem n9_1 {T : Tabs} {σ : Vars} {ds : List D} (hk : keysIn KL9 σ = true) : genD T (fnAt 9).2.1 σ (⟨⟨[95, 105, 116, 101, 114, 95, 101, 115, 99, 97, 112, 101, 100, 95, 99, 104, 97, 114, 115]⟩⟩ : Str) ds = T.gn (⟨⟨[95, 105, 116, 101, 114, 95, 101, 115, 99, 97, 112, 101, 100, 95, 99, 104, 97, 114, 115]⟩⟩ : Str) ds := gen_fn hk rfl rfl rfl
@[local simp] theorem k9_0 (v0 : D) : keysIn KL9 (((⟨⟨[97, 100, 100, 114]⟩⟩ : Str), v0) :: []) = true := Eq.trans rfl rfl
@[local simp] theorem l9_1 (v0 v1 : D) (r : Vars) : List.lookup (⟨⟨[111, 112, 101, 110, 115]⟩⟩ : Str) (((⟨⟨[97, 100, 100, 114]⟩⟩ : Str), v0) :: ((⟨⟨[111, 112, 101, 110, 115]⟩⟩ : Str), v1) :: r) = some v1 := rfl
@[local simp] theorem k9_1 (v0 v1 : D) : keysIn KL9 (((⟨⟨[97, 100, 100, 114]⟩⟩ : Str), v0) :: ((⟨⟨[111, 112, 101, 110, 115]⟩⟩ : Str), v1) :: []) = true := Eq.trans rfl rfl
@[local simp] theorem p9_1 (d v0 v1 : D) (r : Vars) : setV (⟨⟨[111, 112, 101, 110, 115]⟩⟩ : Str) d (((⟨⟨[97, 100, 100, 114]⟩⟩ : Str), v0) :: ((⟨⟨[111, 112, 101, 110, 115]⟩⟩ : Str), v1) :: r) = ((⟨⟨[97, 100, 100, 114]⟩⟩ : Str), v0) :: ((⟨⟨[111, 112, 101, 110, 115]⟩⟩ : Str), d) :: r := rfl
@[local simp] theorem a9_1 (d : D) (v0 : D) : setV (⟨⟨[111, 112, 101, 110, 115]⟩⟩ : Str) d [((⟨⟨[97, 100, 100, 114]⟩⟩ : Str), v0)] = [((⟨⟨[97, 100, 100, 114]⟩⟩ : Str), v0), ((⟨⟨[111, 112, 101, 110, 115]⟩⟩ : Str), d)] := rfl
@[local simp] theorem p9_2 (d v0 v1 v2 : D) (r : Vars) : setV (⟨⟨[112, 111, 115]⟩⟩ : Str) d (((⟨⟨[97, 100, 100, 114]⟩⟩ : Str), v0) :: ((⟨⟨[111, 112, 101, 110, 115]⟩⟩ : Str), v1) :: ((⟨⟨[112, 111, 115]⟩⟩ : Str), v2) :: r) = ((⟨⟨[97, 100, 100, 114]⟩⟩ : Str), v0) :: ((⟨⟨[111, 112, 101, 110, 115]⟩⟩ : Str), v1) :: ((⟨⟨[112, 111, 115]⟩⟩ : Str), d) :: r := rfl
@[local simp] theorem a9_2 (d : D) (v0 v1 : D) : setV (⟨⟨[112, 111, 115]⟩⟩ : Str) d [((⟨⟨[97, 100, 100, 114]⟩⟩ : Str), v0), ((⟨⟨[111, 112, 101, 110, 115]⟩⟩ : Str), v1)] = [((⟨⟨[97, 100, 100, 114]⟩⟩ : Str), v0), ((⟨⟨[111, 112, 101, 110, 115]⟩⟩ : Str), v1), ((⟨⟨[112, 111, 115]⟩⟩ : Str), d)] := rfl
@[local simp] theorem l9_3 (v0 v1 v2 v3 : D) (r : Vars) : List.lookup (⟨⟨[99, 104]⟩⟩ : Str) (((⟨⟨[97, 100, 100, 114]⟩⟩ : Str), v0) :: ((⟨⟨[111, 112, 101, 110, 115]⟩⟩ : Str), v1) :: ((⟨⟨[112, 111, 115]⟩⟩ : Str), v2) :: ((⟨⟨[99, 104]⟩⟩ : Str), v3) :: r) = some v3 := rfl
@[local simp] theorem p9_3 (d v0 v1 v2 v3 : D) (r : Vars) : setV (⟨⟨[99, 104]⟩⟩ : Str) d (((⟨⟨[97, 100, 100, 114]⟩⟩ : Str), v0) :: ((⟨⟨[111, 112, 101, 110, 115]⟩⟩ : Str), v1) :: ((⟨⟨[112, 111, 115]⟩⟩ : Str), v2) :: ((⟨⟨[99, 104]⟩⟩ : Str), v3) :: r) = ((⟨⟨[97, 100, 100, 114]⟩⟩ : Str), v0) :: ((⟨⟨[111, 112, 101, 110, 115]⟩⟩ : Str), v1) :: ((⟨⟨[112, 111, 115]⟩⟩ : Str), v2) :: ((⟨⟨[99, 104]⟩⟩ : Str), d) :: r := rfl
@[local simp] theorem a9_3 (d : D) (v0 v1 v2 : D) : setV (⟨⟨[99, 104]⟩⟩ : Str) d [((⟨⟨[97, 100, 100, 114]⟩⟩ : Str), v0), ((⟨⟨[111, 112, 101, 110, 115]⟩⟩ : Str), v1), ((⟨⟨[112, 111, 115]⟩⟩ : Str), v2)] = [((⟨⟨[97, 100, 100, 114]⟩⟩ : Str), v0), ((⟨⟨[111, 112, 101, 110, 115]⟩⟩ : Str), v1), ((⟨⟨[112, 111, 115]⟩⟩ : Str), v2), ((⟨⟨[99, 104]⟩⟩ : Str), d)] := rfl
theorem check_ok {T : Tabs} (hb : T.bi = biV) (hg : T.gl = glD) (x y : List Nat) (hs : T.fn (⟨⟨[95, 115, 116, 114, 105, 112, 95, 113, 117, 111, 116, 101, 100, 95, 114, 101, 97, 108, 110, 97, 109, 101, 115]⟩⟩ : Str) [.str x] = some (.str y)) (hn : T.gn (⟨⟨[95, 105, 116, 101, 114, 95, 101, 115, 99, 97, 112, 101, 100, 95, 99, 104, 97, 114, 115]⟩⟩ : Str) [.str y] = some ((escN 0 false y).map encU)) :
    callF T 9 [.str x] = some (.bool (chkP (escN 0 false y))) := by
  have hbi : T.bi (⟨⟨[95, 115, 116, 114, 105, 112, 95, 113, 117, 111, 116, 101, 100, 95, 114, 101, 97, 108, 110, 97, 109, 101, 115]⟩⟩ : Str) = none := by rw [hb, ← nm23]; rfl
  unfold callF callX
  generalize ghps : (fnAt 9).1 = ps
  have hps : ?lhps = ps := ?qhps
  have chps : (fnAt 9).1 = (fnAt 9).1 := rfl
  conv at chps =>
    lhs
    cbv
  change ?lhps = _ at chps
  case qhps => exact Eq.trans rfl ghps
  clear chps ghps
  generalize ghbd : (fnAt 9).2.2 = bd
  have hbd : ?lhbd = bd := ?qhbd
  have chbd : (fnAt 9).2.2 = (fnAt 9).2.2 := rfl
  conv at chbd =>
    lhs
    cbv
  change ?lhbd = _ at chbd
  case qhbd => exact Eq.trans rfl ghbd
  clear chbd ghbd
  subst hps
  subst hbd
  simp [-Option.bind_some, smallI, bindR, r_nil, r_cons, c_next, c_ret, y_if, y_assign, y_ret, hb, hg, hbi, hs, hn]
  obtain ⟨o', ho⟩ := foldlM_fst chkF (escN 0 false y) 0 none
  refine retBindM (runF_foldR (st := fun (a : Int × Option (Nat × List Nat)) => [((⟨⟨[97, 100, 100, 114]⟩⟩ : Str), D.str y), ((⟨⟨[111, 112, 101, 110, 115]⟩⟩ : Str), D.int a.1)] ++ (a.2.toList.flatMap fun u => [((⟨⟨[112, 111, 115]⟩⟩ : Str), D.int (u.1 : Nat)), ((⟨⟨[99, 104]⟩⟩ : Str), D.str u.2)]))
      (f := fun a u => (chkF a.1 u).map fun b => (b, some u)) (enc := encU) (r := .bool false) (I := fun _ _ => True) (fun _ => ⟨rfl, rfl⟩) rfl ?_ (escN 0 false y) (0, none) trivial) ?_ ?_
  · rintro ⟨d, o⟩ ⟨p, v⟩ l _
    refine ⟨?_, fun _ _ => trivial⟩
    by_cases h1 : v = [40]
    · subst h1
      cases o <;> simp [-Option.bind_some, smallI, bindR, r_nil, r_cons, c_next, c_ret, y_if, y_assign, y_ret, forRun, hb, hg, encU, chkF]
    · by_cases h2 : v = [41]
      · subst h2
        by_cases h3 : d - 1 < 0
        · cases o <;> simp [-Option.bind_some, smallI, bindR, r_nil, r_cons, c_next, c_ret, y_if, y_assign, y_ret, forRun, hb, hg, encU, chkF, h3]
        · cases o <;> simp [-Option.bind_some, smallI, bindR, r_nil, r_cons, c_next, c_ret, y_if, y_assign, y_ret, forRun, hb, hg, encU, chkF, h3]
      · cases o <;> simp [-Option.bind_some, smallI, bindR, r_nil, r_cons, c_next, c_ret, y_if, y_assign, y_ret, forRun, hb, hg, encU, chkF, h1, h2]
  · rintro ⟨d, o⟩ hm
    rw [ho] at hm
    rw [Option.map_eq_some_iff] at hm
    obtain ⟨d', e1, e2⟩ := hm
    cases e2
    unfold chkP
    rw [e1]
    cases o' <;> simp [-Option.bind_some, smallI, bindR, r_nil, r_cons, c_next, c_ret, y_if, y_assign, y_ret, hb, hg, retOf]
  · intro hm
    rw [ho] at hm
    rw [Option.map_eq_none_iff] at hm
    unfold chkP
    rw [hm]
    simp [contL_ret, retOf]

/-! the text: a sign, and what stands behind it -/
noncomputable def ins (j : Nat) : List Nat := if j = 1 then [92, 40] else if j = 2 then [92, 41] else if j = 3 then [34, 40, 34] else []
noncomputable def ins' (j : Nat) : List Nat := if j = 3 then [] else ins j
noncomputable abbrev Ps := List (Nat × Nat)
noncomputable def txt (ps : Ps) : List Nat := ps.flatMap fun p => p.1 :: ins p.2
noncomputable def stp (ps : Ps) : List Nat := ps.flatMap fun p => p.1 :: ins' p.2
noncomputable def Par (ps : Ps) : Prop := ∀ p ∈ ps, p.1 = 40 ∨ p.1 = 41

theorem ins_cases (j : Nat) : (j = 1 ∧ ins j = [92, 40] ∧ ins' j = [92, 40]) ∨ (j = 2 ∧ ins j = [92, 41] ∧ ins' j = [92, 41]) ∨ (j = 3 ∧ ins j = [34, 40, 34] ∧ ins' j = []) ∨ (j ≠ 3 ∧ ins j = [] ∧ ins' j = []) := by
  unfold ins' ins
  by_cases h1 : j = 1
  · subst h1; simp
  · by_cases h2 : j = 2
    · subst h2; simp
    · by_cases h3 : j = 3
      · subst h3; simp
      · simp [h1, h2, h3]

theorem txt_cons (p : Nat × Nat) (ps : Ps) : txt (p :: ps) = p.1 :: (ins p.2 ++ txt ps) := by simp [txt]
theorem stp_cons (p : Nat × Nat) (ps : Ps) : stp (p :: ps) = p.1 :: (ins' p.2 ++ stp ps) := by simp [stp]
theorem Par.tail {p : Nat × Nat} {ps : Ps} (h : Par (p :: ps)) : Par ps := fun q hq => h q (List.mem_cons_of_mem _ hq)
theorem Par.ne {p : Nat × Nat} {ps : Ps} (h : Par (p :: ps)) : p.1 ≠ 92 ∧ p.1 ≠ 34 := by
  have := h p (List.mem_cons_self ..)
  omega

theorem end_txt : ∀ {ps : Ps}, Par ps → escEnd false (txt ps) = false
  | [], _ => rfl
  | p :: ps, h => by
    have hc : (p.1 == 92) = false := by simpa using h.ne.1
    have ih := end_txt h.tail
    rw [txt_cons]
    rcases ins_cases p.2 with ⟨_, e, _⟩ | ⟨_, e, _⟩ | ⟨_, e, _⟩ | ⟨_, e, _⟩ <;> rw [e] <;> simp [escEnd, hc, ih]
theorem end_stp : ∀ {ps : Ps}, Par ps → escEnd false (stp ps) = false
  | [], _ => rfl
  | p :: ps, h => by
    have hc : (p.1 == 92) = false := by simpa using h.ne.1
    have ih := end_stp h.tail
    rw [stp_cons]
    rcases ins_cases p.2 with ⟨_, _, e⟩ | ⟨_, _, e⟩ | ⟨_, _, e⟩ | ⟨_, _, e⟩ <;> rw [e] <;> simp [escEnd, hc, ih]

/-- the units of a sign and what stands behind it, once stripped -/
theorem units_stp (p : Nat × Nat) (ps : Ps) (h : p.1 ≠ 92) (i : Nat) : (∃ k y, ins' p.2 = [92, y] ∧ escN i false (stp (p :: ps)) = (i, [p.1]) :: (k, [92, y]) :: escN (i + 3) false (stp ps)) ∨ escN i false (stp (p :: ps)) = (i, [p.1]) :: escN (i + 1) false (stp ps) := by
  rw [stp_cons]
  rcases ins_cases p.2 with ⟨_, _, e⟩ | ⟨_, _, e⟩ | ⟨_, _, e⟩ | ⟨_, _, e⟩ <;> rw [e] <;> simp [escN, h]

noncomputable def chkC (d : Int) (c : Nat) : Option Int := if c = 40 then some (d + 1) else if c = 41 then (if d - 1 < 0 then none else some (d - 1)) else some d
theorem chk_stp : ∀ {ps : Ps} (i : Nat) (d : Int), Par ps → (escN i false (stp ps)).foldlM chkF d = (ps.map (·.1)).foldlM chkC d
  | [], _, _, _ => rfl
  | p :: ps, i, d, h => by
    have e1 : ∀ k, chkF d (k, [p.1]) = chkC d p.1 := fun k => by simp [chkF, chkC]
    rcases units_stp p ps h.ne.1 i with ⟨k, y, _, e⟩ | e
    · rw [e]
      simp only [List.foldlM_cons, List.map_cons, e1]
      cases hh : chkC d p.1 with
      | none => rfl
      | some d' =>
        have : chkF d' (k, [92, y]) = some d' := by simp [chkF]
        simp only [Option.bind_eq_bind, Option.bind_some, this]
        exact chk_stp (i + 3) d' h.tail
    · rw [e]
      simp only [List.foldlM_cons, List.map_cons, e1]
      cases hh : chkC d p.1 with
      | none => rfl
      | some d' => exact chk_stp (i + 1) d' h.tail
noncomputable def chkR (row : List Nat) : Bool := match row.foldlM chkC 0 with
  | some d => d == 0
  | none => false
theorem chkP_stp {ps : Ps} (h : Par ps) : chkP (escN 0 false (stp ps)) = chkR (ps.map (·.1)) := by
  unfold chkP chkR
  (rw [chk_stp 0 0 h]) <;> (cases (ps.map (·.1)).foldlM chkC 0 <;> rfl)

noncomputable def isPar (u : List Nat) : Bool := u == [40] || u == [41]
theorem row_stp : ∀ {ps : Ps} (i : Nat), Par ps → (((escN i false (stp ps)).map (·.2)).filter isPar).flatten = ps.map (·.1)
  | [], _, _ => rfl
  | p :: ps, i, h => by
    have hp : isPar [p.1] = true := by
      have := h p (List.mem_cons_self ..)
      unfold isPar
      rcases this with e | e <;> rw [e] <;> rfl
    rcases units_stp p ps h.ne.1 i with ⟨k, y, _, e⟩ | e
    · rw [e]
      have hq : isPar [92, y] = false := by simp [isPar]
      simp [hp, hq, row_stp (i + 3) h.tail]
    · rw [e]
      simp [hp, row_stp (i + 1) h.tail]

/-! stripping -/
theorem cut_eq (x : List Nat) (s e : Nat) : cutN x s e = (x.take e).drop s := by
  unfold cutN
  rw [List.drop_take]
theorem cut_app {pre mid post : List Nat} {s : Nat} (h : s ≤ pre.length) : cutN (pre ++ (mid ++ post)) s (pre.length + mid.length) = cutN (pre ++ (mid ++ post)) s pre.length ++ mid := by
  rw [cut_eq, cut_eq]
  have e1 : (pre ++ (mid ++ post)).take (pre.length + mid.length) = pre ++ mid := by
    rw [← List.append_assoc, List.take_left' (by simp)]
  have e2 : (pre ++ (mid ++ post)).take pre.length = pre := by rw [List.take_left' rfl]
  rw [e1, e2, List.drop_append_of_le_length h]

theorem strip_go : ∀ {ps : Ps} {pre : List Nat} {st : Nat} {rs : List (List Nat)}, Par ps → st ≤ pre.length →
    (stripE (pre ++ txt ps) ((escN pre.length false (txt ps)).foldl (stripF (pre ++ txt ps)) ⟨st, none, rs⟩)).flatten = rs.flatten ++ cutN (pre ++ txt ps) st pre.length ++ stp ps
  | [], pre, st, rs, _, hs => by
    simp only [txt, List.flatMap_nil, escN, List.foldl_nil, List.append_nil, stp, stripE]
    split
    · simp [cutN]
      exact (List.take_of_length_le (by simp)).symm
    · have : st = pre.length := by omega
      subst this
      simp [cutN]
  | p :: ps, pre, st, rs, h, hs => by
    have hc := h.ne
    have hx : ∀ j, txt (p :: ps) = (p.1 :: j) ++ txt ps → escN (pre.length + (p.1 :: j).length) false (txt ps) = escN (pre ++ (p.1 :: j)).length false (txt ps) := fun j _ => by simp
    have c34 : ∀ k, stripF (pre ++ txt (p :: ps)) ⟨st, none, rs⟩ (k, [p.1]) = ⟨st, none, rs⟩ := fun k => by simp [stripF, hc.2]
    have plain : ∀ m, ins p.2 = m → ins' p.2 = m → (escN pre.length false (txt (p :: ps))).foldl (stripF (pre ++ txt (p :: ps))) ⟨st, none, rs⟩ = (escN (pre ++ (p.1 :: m)).length false (txt ps)).foldl (stripF (pre ++ txt (p :: ps))) ⟨st, none, rs⟩ →
        (stripE (pre ++ txt (p :: ps)) ((escN pre.length false (txt (p :: ps))).foldl (stripF (pre ++ txt (p :: ps))) ⟨st, none, rs⟩)).flatten = rs.flatten ++ cutN (pre ++ txt (p :: ps)) st pre.length ++ stp (p :: ps) := by
      intro m e1 e2 e3
      have ex : pre ++ txt (p :: ps) = (pre ++ (p.1 :: m)) ++ txt ps := by rw [txt_cons, e1]; simp
      rw [e3, ex]
      rw [strip_go (ps := ps) (pre := pre ++ (p.1 :: m)) h.tail (by simp; omega)]
      have := cut_app (pre := pre) (mid := p.1 :: m) (post := txt ps) hs
      rw [List.length_append, List.append_assoc pre, this, stp_cons, e2]
      simp
    rcases ins_cases p.2 with ⟨_, e1, e2⟩ | ⟨_, e1, e2⟩ | ⟨_, e1, e2⟩ | ⟨_, e1, e2⟩
    · refine plain _ e1 e2 ?_
      have hk : ∀ k y, stripF (pre ++ txt (p :: ps)) ⟨st, none, rs⟩ (k, [92, y]) = ⟨st, none, rs⟩ := fun k y => by simp [stripF]
      have eu : escN pre.length false (txt (p :: ps)) = (pre.length, [p.1]) :: (pre.length + 2, [92, 40]) :: escN (pre.length + 3) false (txt ps) := by
        rw [txt_cons, e1]; simp [escN, hc.1]
      rw [eu]
      simp only [List.foldl_cons, c34, hk]
      simp
    · refine plain _ e1 e2 ?_
      have hk : ∀ k y, stripF (pre ++ txt (p :: ps)) ⟨st, none, rs⟩ (k, [92, y]) = ⟨st, none, rs⟩ := fun k y => by simp [stripF]
      have eu : escN pre.length false (txt (p :: ps)) = (pre.length, [p.1]) :: (pre.length + 2, [92, 41]) :: escN (pre.length + 3) false (txt ps) := by
        rw [txt_cons, e1]; simp [escN, hc.1]
      rw [eu]
      simp only [List.foldl_cons, c34, hk]
      simp
    · have eu : escN pre.length false (txt (p :: ps)) = (pre.length, [p.1]) :: (pre.length + 1, [34]) :: (pre.length + 2, [40]) :: (pre.length + 3, [34]) :: escN (pre.length + 4) false (txt ps) := by
        rw [txt_cons, e1]; simp [escN, hc.1]
      have ex : pre ++ txt (p :: ps) = (pre ++ [p.1, 34, 40, 34]) ++ txt ps := by rw [txt_cons, e1]; simp
      have ex' : pre ++ txt (p :: ps) = pre ++ ([p.1] ++ ([34, 40, 34] ++ txt ps)) := by rw [txt_cons, e1]; simp
      have hne : st ≠ pre.length + 1 := by omega
      rw [eu]
      simp only [List.foldl_cons, c34]
      have s1 : stripF (pre ++ txt (p :: ps)) ⟨st, none, rs⟩ (pre.length + 1, [34]) = ⟨st, some (pre.length + 1), rs⟩ := by simp [stripF]
      have s2 : stripF (pre ++ txt (p :: ps)) ⟨st, some (pre.length + 1), rs⟩ (pre.length + 2, [40]) = ⟨st, some (pre.length + 1), rs⟩ := by simp [stripF]
      have s3 : stripF (pre ++ txt (p :: ps)) ⟨st, some (pre.length + 1), rs⟩ (pre.length + 3, [34]) = ⟨pre.length + 4, none, rs ++ [cutN (pre ++ txt (p :: ps)) st (pre.length + 1)]⟩ := by simp [stripF, hne]
      rw [s1, s2, s3]
      have hl : pre.length + 4 = (pre ++ [p.1, 34, 40, 34]).length := by simp
      have hc1 := cut_app (pre := pre) (mid := [p.1]) (post := [34, 40, 34] ++ txt ps) hs
      rw [← ex'] at hc1
      simp only [List.length_cons, List.length_nil, Nat.zero_add] at hc1
      rw [hc1]
      generalize hcut : cutN (pre ++ txt (p :: ps)) st pre.length = cc
      rw [ex, hl]
      rw [strip_go (ps := ps) (pre := pre ++ [p.1, 34, 40, 34]) h.tail (Nat.le_refl _)]
      rw [stp_cons, e2]
      simp [cutN]
    · refine plain _ e1 e2 ?_
      have eu : escN pre.length false (txt (p :: ps)) = (pre.length, [p.1]) :: escN (pre.length + 1) false (txt ps) := by
        rw [txt_cons, e1]; simp [escN, hc.1]
      rw [eu]
      simp only [List.foldl_cons, c34]
      simp

theorem no_quote : ∀ {ps : Ps}, Par ps → 34 ∉ txt ps → txt ps = stp ps
  | [], _, _ => rfl
  | p :: ps, h, hn => by
    rw [txt_cons] at hn ⊢
    rw [stp_cons]
    simp only [List.mem_cons, List.mem_append, not_or] at hn
    rw [no_quote h.tail hn.2.2]
    rcases ins_cases p.2 with ⟨_, e1, e2⟩ | ⟨_, e1, e2⟩ | ⟨_, e1, e2⟩ | ⟨_, e1, e2⟩
    · rw [e1, e2]
    · rw [e1, e2]
    · rw [e1] at hn
      simp at hn
    · rw [e1, e2]

theorem strip_txt {ps : Ps} (h : Par ps) : stripP (txt ps) = stp ps := by
  unfold stripP
  split
  · have := strip_go (ps := ps) (pre := []) (st := 0) (rs := []) h (Nat.le_refl _)
    simpa [cutN] using this
  · exact no_quote h (by assumption)

/-! the distance, as a plain function -/
noncomputable def cpl : List Nat → List Nat → Nat
  | x :: a, y :: b => if x = y then cpl a b + 1 else 0
  | _, _ => 0
/-- does the next sign agree? -/
noncomputable def nextP (a b : List Nat) (k : Nat) : Bool := match a[k]?, b[k]? with
  | some x, some y => x == y
  | _, _ => false
theorem nextP_succ (x y : Nat) (a b : List Nat) (k : Nat) : nextP (x :: a) (y :: b) (k + 1) = nextP a b k := rfl
theorem cpl_le : ∀ (a b : List Nat), cpl a b ≤ a.length ∧ cpl a b ≤ b.length
  | x :: a, y :: b => by
    have := cpl_le a b
    unfold cpl
    split <;> simp <;> omega
  | [], _ => by simp [cpl]
  | _ :: _, [] => by simp [cpl]
theorem cpl_lt : ∀ (a b : List Nat) (k : Nat), k < cpl a b → nextP a b k = true
  | x :: a, y :: b, k, h => by
    unfold cpl at h
    split at h
    · rename_i e
      subst e
      cases k with
      | zero => simp [nextP]
      | succ k => rw [nextP_succ]; exact cpl_lt a b k (by omega)
    · omega
  | [], _, _, h => by simp [cpl] at h
  | _ :: _, [], _, h => by simp [cpl] at h
theorem cpl_at : ∀ (a b : List Nat), nextP a b (cpl a b) = false
  | x :: a, y :: b => by
    unfold cpl
    split
    · rw [nextP_succ]; exact cpl_at a b
    · rename_i e
      simp [nextP, e]
  | [], _ => by simp [cpl, nextP]
  | _ :: _, [] => by simp [cpl, nextP]

theorem runW_to {test : Vars → Option Bool} {run : Option Str → Vars → Option Out} {st : Nat → Vars} {P : Nat → Bool} {N : Nat} (ht : ∀ j ≤ N, test (st j) = some (P j)) (hr : ∀ j ≤ N, P j = true → run none (st j) = some (.next none (st (j + 1)))) :
    ∀ (n k fuel : Nat), k + n ≤ N → (∀ i < n, P (k + i) = true) → P (k + n) = false → n < fuel → runW test run fuel none (st k) = some (.next none (st (k + n)))
  | 0, k, fuel + 1, hN, _, h2, _ => by
    show (test (st k)).bind _ = _
    rw [ht k (by omega), show P k = false from h2]; rfl
  | n + 1, k, fuel + 1, hN, h1, h2, hf => by
    have e := runW_to ht hr n (k + 1) fuel (by omega) (fun i hi => by have := h1 (i + 1) (by omega); rwa [show k + (i + 1) = k + 1 + i from by omega] at this) (by rwa [show k + 1 + n = k + (n + 1) from by omega]) (by omega)
    have h0 : P k = true := h1 0 (by omega)
    show (test (st k)).bind (fun b => if b then (run none (st k)).bind _ else _) = _
    rw [ht k (by omega), h0]
    show (run none (st k)).bind _ = _
    rw [hr k (by omega) h0]
    exact e.trans (by rw [show k + 1 + n = k + (n + 1) from by omega])

theorem item_str {x : List Nat} {i : Int} {k : Nat} (h : seqIndex? i x.length = some k) (hs : smallI i = true) (c : Nat) (hc : x[k]? = some c) : itemD (.str x) i = some (.str [c]) := by
  unfold itemD
  rw [if_pos hs]
  simp [h, hc]

/-- one step over the signs -/
noncomputable def inF (a : List Nat) (bc : Nat) (s : List Int × Int × Int × Int) (i : Nat) : List Int × Int × Int × Int :=
  let sub := s.2.1 + (if a[i]? = some bc then 0 else 2)
  let d' := s.1.getD i 0
  let il := (if d' < s.2.2.1 then d' else s.2.2.1) + 2
  let r' := if sub < il then sub else il
  (s.1.set i r', d', r', if r' < s.2.2.2 then r' else s.2.2.2)
noncomputable def outF (M : Int) (a b : List Nat) (m : Int) (s : List Int × Int) (j : Nat) : Option (List Int × Int) :=
  let t := (List.range a.length).foldl (inF a (b.getD j 0)) (s.1, (j : Int) * 2, (j : Int) * 2, M)
  if m < t.2.2.2 then none else some (t.1, t.2.2.1)
noncomputable def dpP (M : Int) (a b : List Nat) (m : Int) : Int := match (List.range b.length).foldlM (outF M a b m) ((List.range a.length).map fun (i : Nat) => 2 + (i : Int) * 2, 0) with
  | some s => s.2
  | none => m + 1
noncomputable def tailP (M : Int) (a b : List Nat) (m : Int) : Int := if a = [] ∨ b = [] then 2 * ((a.length : Int) + b.length) else
  if b.length < a.length then (if m < ((a.length : Int) - b.length) * 2 then m + 1 else dpP M b a m) else (if m < ((b.length : Int) - a.length) * 2 then m + 1 else dpP M a b m)
noncomputable def cutEnd (a : List Nat) (q : Nat) : List Nat := a.take (a.length - q)
noncomputable def levP (M : Int) (a b : List Nat) (m : Int) : Int := if a = b then 0 else
  tailP M (cutEnd (a.drop (cpl a b)) (cpl (a.drop (cpl a b)).reverse (b.drop (cpl a b)).reverse)) (cutEnd (b.drop (cpl a b)) (cpl (a.drop (cpl a b)).reverse (b.drop (cpl a b)).reverse)) m

theorem drop_slice' {x : List Nat} {s : Nat} (h2 : s ≤ x.length) : sliceL (some (s : Int)) none none x = x.drop s := by
  rw [sliceL_plain]
  have c1 : clipAt x.length (s : Int) = s := clip_nat h2
  simp [c1]
  exact List.take_of_length_le (by simp)

theorem end_slice {x : List Nat} {j : Nat} (h0 : 0 < j) (h : j ≤ x.length) : sliceL none (some (-(j : Int))) none x = x.take (x.length - j) := by
  rw [sliceL_plain]
  have c1 : clipAt x.length (-(j : Int)) = x.length - j := by unfold clipAt; omega
  simp [c1]
theorem all_slice {x : List Nat} : sliceL none none none x = x := by
  rw [sliceL_plain]
  simp
theorem cut_end {x : List Nat} {j : Nat} (h : j ≤ x.length) (hz : x.length ≤ 40) : (if j = 0 then sliceD (.str x) .none .none .none else sliceD (.str x) .none (.int (-(j : Int))) .none) = some (.str (cutEnd x j)) := by
  have hz' : x.length ≤ 16777216 := by omega
  by_cases h0 : j = 0
  · subst h0
    simp [sliceD, partOf, sizeLine_eq, hz', all_slice, cutEnd]
  · simp [sliceD, partOf, sizeLine_eq, hz', end_slice (Nat.pos_of_ne_zero h0) h, cutEnd, h0]

theorem beqI (x y : Nat) : (if x = y then some true else some false) = some (x == y) := by
  by_cases h : x = y <;> simp [h]

theorem bindNext {o : Option Out} {k : Out → Option Out} {ow : Option Str} {σ : Vars} {R : Option Out} (h : o = some (.next ow σ)) (h2 : k (.next ow σ) = R) : o.bind k = R := by
  rw [h]; exact h2

noncomputable def subV (a : List Nat) (bc : Nat) (s : List Int × Int × Int × Int) (i : Nat) : Int := s.2.1 + (if a[i]? = some bc then 0 else 2)
noncomputable def ilV (s : List Int × Int × Int × Int) (i : Nat) : Int := (if s.1.getD i 0 < s.2.2.1 then s.1.getD i 0 else s.2.2.1) + 2
theorem inF_eq (a : List Nat) (bc : Nat) (s : List Int × Int × Int × Int) (i : Nat) : inF a bc s i = (s.1.set i (if subV a bc s i < ilV s i then subV a bc s i else ilV s i), s.1.getD i 0, (if subV a bc s i < ilV s i then subV a bc s i else ilV s i), if (if subV a bc s i < ilV s i then subV a bc s i else ilV s i) < s.2.2.2 then (if subV a bc s i < ilV s i then subV a bc s i else ilV s i) else s.2.2.2) := rfl

theorem size_1 (n : Nat) : Builtin.Range.rangeSize 0 (n : Int) 1 = n := by
  unfold Builtin.Range.rangeSize
  split <;> omega
theorem size_2 (n : Nat) : Builtin.Range.rangeSize 2 (2 * ((n : Int) + 1)) 2 = n := by
  unfold Builtin.Range.rangeSize
  split <;> omega
theorem rangeL_1 (n : Nat) : rangeL 0 (n : Int) 1 = (List.range n).map fun (i : Nat) => (i : Int) := by
  unfold rangeL
  rw [size_1]
  simp
theorem rangeL_2 (n : Nat) : rangeL 2 (2 * ((n : Int) + 1)) 2 = (List.range n).map fun (i : Nat) => 2 + (i : Int) * 2 := by
  unfold rangeL
  rw [size_2]
  simp
theorem small_of {i : Int} (h : i.natAbs < 1000) : smallI i = true := by unfold smallI; exact decide_eq_true (by rw [show (2 : Nat) ^ 29 = 536870912 from rfl]; omega)

/-- the turns, with what the loops leave besides -/
noncomputable def inX (a : List Nat) (bc : Nat) (s : (List Int × Int × Int × Int) × Option (Nat × Int × Int)) (i : Nat) : (List Int × Int × Int × Int) × Option (Nat × Int × Int) :=
  (inF a bc s.1 i, some (i, subV a bc s.1 i, ilV s.1 i))
noncomputable def outX (M : Int) (S L : List Nat) (m : Int) (a : (List Int × Int) × Option (Nat × Nat × Int × Int × Option (Nat × Int × Int))) (j : Nat) : Option ((List Int × Int) × Option (Nat × Nat × Int × Int × Option (Nat × Int × Int))) :=
  let t := (List.range S.length).foldl (inX S (L.getD j 0)) ((a.1.1, (j : Int) * 2, (j : Int) * 2, M), a.2.bind fun e => e.2.2.2.2)
  if m < t.1.2.2.2 then none else some ((t.1.1, t.1.2.2.1), some (j, L.getD j 0, t.1.2.1, t.1.2.2.2, t.2))

theorem inX_fst (S : List Nat) (c : Nat) : ∀ (l : List Nat) (s : List Int × Int × Int × Int) (o : Option (Nat × Int × Int)), (l.foldl (inX S c) (s, o)).1 = l.foldl (inF S c) s
  | [], _, _ => rfl
  | i :: l, s, _ => inX_fst S c l (inF S c s i) _
theorem inX_len (S : List Nat) (c : Nat) : ∀ (l : List Nat) (s : (List Int × Int × Int × Int) × Option (Nat × Int × Int)), (l.foldl (inX S c) s).1.1.length = s.1.1.length
  | [], _ => rfl
  | i :: l, s => (inX_len S c l (inX S c s i)).trans (by simp [inX, inF])
theorem outX_fst (M : Int) (S L : List Nat) (m : Int) (a : (List Int × Int) × Option (Nat × Nat × Int × Int × Option (Nat × Int × Int))) (j : Nat) : (outX M S L m a j).map (·.1) = outF M S L m a.1 j := by
  unfold outX outF
  simp only [inX_fst]
  split <;> rfl
theorem outX_fold (M : Int) (S L : List Nat) (m : Int) : ∀ (l : List Nat) (a : List Int × Int) (o : Option (Nat × Nat × Int × Int × Option (Nat × Int × Int))), (l.foldlM (outX M S L m) (a, o)).map (·.1) = l.foldlM (outF M S L m) a
  | [], _, _ => rfl
  | j :: l, a, o => by
    have e := outX_fst M S L m (a, o) j
    simp only [List.foldlM_cons, ← e]
    cases h : outX M S L m (a, o) j with
    | none => rfl
    | some x =>
      obtain ⟨a', o'⟩ := x
      exact outX_fold M S L m l a' o'

noncomputable def ist (base : Vars) (j c : Nat) (s : (List Int × Int × Int × Int) × Option (Nat × Int × Int)) : Vars :=
  base ++ [((⟨⟨[114, 111, 119]⟩⟩ : Str), D.list (s.1.1.map D.int)), ((⟨⟨[114, 101, 115, 117, 108, 116]⟩⟩ : Str), D.int s.1.2.2.1), ((⟨⟨[98, 105, 110, 100, 101, 120]⟩⟩ : Str), D.int (j : Nat)), ((⟨⟨[98, 99, 104, 97, 114]⟩⟩ : Str), D.str [c]), ((⟨⟨[100, 105, 115, 116, 97, 110, 99, 101]⟩⟩ : Str), D.int s.1.2.1), ((⟨⟨[109, 105, 110, 105, 109, 117, 109]⟩⟩ : Str), D.int s.1.2.2.2)] ++
    (s.2.toList.flatMap fun u => [((⟨⟨[105, 110, 100, 101, 120]⟩⟩ : Str), D.int (u.1 : Nat)), ((⟨⟨[115, 117, 98, 115, 116, 105, 116, 117, 116, 101]⟩⟩ : Str), D.int u.2.1), ((⟨⟨[105, 110, 115, 101, 114, 116, 95, 100, 101, 108, 101, 116, 101]⟩⟩ : Str), D.int u.2.2)])

noncomputable def KL5 : List Str := [(⟨⟨[97]⟩⟩ : Str), (⟨⟨[98]⟩⟩ : Str), (⟨⟨[109, 97, 120, 95, 99, 111, 115, 116]⟩⟩ : Str), (⟨⟨[112, 114, 101]⟩⟩ : Str), (⟨⟨[112, 111, 115, 116]⟩⟩ : Str), (⟨⟨[114, 111, 119]⟩⟩ : Str), (⟨⟨[114, 101, 115, 117, 108, 116]⟩⟩ : Str), (⟨⟨[98, 105, 110, 100, 101, 120]⟩⟩ : Str), (⟨⟨[98, 99, 104, 97, 114]⟩⟩ : Str), (⟨⟨[100, 105, 115, 116, 97, 110, 99, 101]⟩⟩ : Str), (⟨⟨[109, 105, 110, 105, 109, 117, 109]⟩⟩ : Str), (⟨⟨[105, 110, 100, 101, 120]⟩⟩ : Str), (⟨⟨[115, 117, 98, 115, 116, 105, 116, 117, 116, 101]⟩⟩ : Str), (⟨⟨[105, 110, 115, 101, 114, 116, 95, 100, 101, 108, 101, 116, 101]⟩⟩ : Str)]
@[local simp] theorem s5_0 : storable (fnAt 5).2.1 (⟨⟨[97]⟩⟩ : Str) = true := rfl
@[local simp] theorem o5_0 : isLo (fnAt 5).2.1 (⟨⟨[97]⟩⟩ : Str) = true := Eq.trans rfl rfl
@[local simp] theorem db5_0 : ((⟨⟨[97]⟩⟩ : Str) == ("__debug__" : Str)) = false := Eq.trans rfl rfl
@[local simp] theorem s5_1 : storable (fnAt 5).2.1 (⟨⟨[98]⟩⟩ : Str) = true := rfl
@[local simp] theorem o5_1 : isLo (fnAt 5).2.1 (⟨⟨[98]⟩⟩ : Str) = true := Eq.trans rfl rfl
@[local simp] theorem db5_1 : ((⟨⟨[98]⟩⟩ : Str) == ("__debug__" : Str)) = false := Eq.trans rfl rfl
@[local simp] theorem s5_3 : storable (fnAt 5).2.1 (⟨⟨[112, 114, 101]⟩⟩ : Str) = true := rfl
@[local simp] theorem cd5_3 : ((⟨⟨[112, 114, 101]⟩⟩ : Str) == ("__classdict__" : Str)) = false := Eq.trans rfl rfl
@[local simp] theorem s5_4 : storable (fnAt 5).2.1 (⟨⟨[112, 111, 115, 116]⟩⟩ : Str) = true := rfl
@[local simp] theorem cd5_4 : ((⟨⟨[112, 111, 115, 116]⟩⟩ : Str) == ("__classdict__" : Str)) = false := Eq.trans rfl rfl
@[local simp] theorem o5_5 : isLo (fnAt 5).2.1 (⟨⟨[114, 111, 119]⟩⟩ : Str) = true := Eq.trans rfl rfl
@[local simp] theorem cd5_5 : ((⟨⟨[114, 111, 119]⟩⟩ : Str) == ("__classdict__" : Str)) = false := Eq.trans rfl rfl
@[local simp] theorem s5_6 : storable (fnAt 5).2.1 (⟨⟨[114, 101, 115, 117, 108, 116]⟩⟩ : Str) = true := rfl
@[local simp] theorem s5_7 : storable (fnAt 5).2.1 (⟨⟨[98, 105, 110, 100, 101, 120]⟩⟩ : Str) = true := rfl
@[local simp] theorem s5_8 : storable (fnAt 5).2.1 (⟨⟨[98, 99, 104, 97, 114]⟩⟩ : Str) = true := rfl
@[local simp] theorem s5_9 : storable (fnAt 5).2.1 (⟨⟨[100, 105, 115, 116, 97, 110, 99, 101]⟩⟩ : Str) = true := rfl
@[local simp] theorem s5_10 : storable (fnAt 5).2.1 (⟨⟨[109, 105, 110, 105, 109, 117, 109]⟩⟩ : Str) = true := rfl
@[local simp] theorem s5_11 : storable (fnAt 5).2.1 (⟨⟨[105, 110, 100, 101, 120]⟩⟩ : Str) = true := rfl
@[local simp] theorem s5_12 : storable (fnAt 5).2.1 (⟨⟨[115, 117, 98, 115, 116, 105, 116, 117, 116, 101]⟩⟩ : Str) = true := rfl
@[local simp] theorem s5_13 : storable (fnAt 5).2.1 (⟨⟨[105, 110, 115, 101, 114, 116, 95, 100, 101, 108, 101, 116, 101]⟩⟩ : Str) = true := rfl
@[local simp] theorem bd5_0 : badN (⟨⟨[97]⟩⟩ : Str) = false := rfl
@[local simp] theorem bd5_1 : badN (⟨⟨[98]⟩⟩ : Str) = false := rfl
@[local simp] theorem bd5_2 : badN (⟨⟨[109, 97, 120, 95, 99, 111, 115, 116]⟩⟩ : Str) = false := rfl
@[local simp] theorem bd5_3 : badN (⟨⟨[112, 114, 101]⟩⟩ : Str) = false := rfl
@[local simp] theorem bd5_4 : badN (⟨⟨[112, 111, 115, 116]⟩⟩ : Str) = false := rfl
@[local simp] theorem bd5_7 : badN (⟨⟨[98, 105, 110, 100, 101, 120]⟩⟩ : Str) = false := rfl
@[local simp] theorem bd5_8 : badN (⟨⟨[98, 99, 104, 97, 114]⟩⟩ : Str) = false := rfl
@[local simp] theorem bd5_9 : badN (⟨⟨[100, 105, 115, 116, 97, 110, 99, 101]⟩⟩ : Str) = false := rfl
@[local simp] theorem bd5_10 : badN (⟨⟨[109, 105, 110, 105, 109, 117, 109]⟩⟩ : Str) = false := rfl
@[local simp] theorem bd5_11 : badN (⟨⟨[105, 110, 100, 101, 120]⟩⟩ : Str) = false := rfl
@[local simp] theorem bd5_12 : badN (⟨⟨[115, 117, 98, 115, 116, 105, 116, 117, 116, 101]⟩⟩ : Str) = false := rfl
@[local simp] theorem bd5_13 : badN (⟨⟨[105, 110, 115, 101, 114, 116, 95, 100, 101, 108, 101, 116, 101]⟩⟩ : Str) = false := rfl
@[local simp] theorem bd5_16 : badN (⟨⟨[95, 77, 65, 88, 95, 83, 84, 82, 73, 78, 71, 95, 83, 73, 90, 69]⟩⟩ : Str) = false := rfl
@[local simp] theorem g5_0 {T : Tabs} {σ : Vars} (hk : keysIn KL5 σ = true) : nameV T (fnAt 5).2.1 (⟨⟨[95, 77, 79, 86, 69, 95, 67, 79, 83, 84]⟩⟩ : Str) false (List.lookup (⟨⟨[95, 77, 79, 86, 69, 95, 67, 79, 83, 84]⟩⟩ : Str) σ) = T.gl (⟨⟨[95, 77, 79, 86, 69, 95, 67, 79, 83, 84]⟩⟩ : Str) := glob_at hk rfl rfl
@[local simp] theorem c5_1 {T : Tabs} {σ : Vars} {ds : List D} (hb : T.bi = biV) (hk : keysIn KL5 σ = true) : callD T (fnAt 5).2.1 σ (⟨⟨[108, 101, 110]⟩⟩ : Str) ds = fnD (.builtin "len") ds := call_bi _ hk rfl rfl rfl (by rw [hb]; rfl)
@[local simp] theorem g5_2 {T : Tabs} {σ : Vars} (hk : keysIn KL5 σ = true) : nameV T (fnAt 5).2.1 (⟨⟨[95, 77, 65, 88, 95, 83, 84, 82, 73, 78, 71, 95, 83, 73, 90, 69]⟩⟩ : Str) false (List.lookup (⟨⟨[95, 77, 65, 88, 95, 83, 84, 82, 73, 78, 71, 95, 83, 73, 90, 69]⟩⟩ : Str) σ) = T.gl (⟨⟨[95, 77, 65, 88, 95, 83, 84, 82, 73, 78, 71, 95, 83, 73, 90, 69]⟩⟩ : Str) := glob_at hk rfl rfl
@[local simp] theorem c5_3 {T : Tabs} {σ : Vars} {ds : List D} (hb : T.bi = biV) (hk : keysIn KL5 σ = true) : callD T (fnAt 5).2.1 σ (⟨⟨[108, 105, 115, 116]⟩⟩ : Str) ds = fnD (.type "list") ds := call_bi _ hk rfl rfl rfl (by rw [hb]; rfl)
@[local simp] theorem c5_4 {T : Tabs} {σ : Vars} {ds : List D} (hb : T.bi = biV) (hk : keysIn KL5 σ = true) : callD T (fnAt 5).2.1 σ (⟨⟨[114, 97, 110, 103, 101]⟩⟩ : Str) ds = fnD (.type "range") ds := call_bi _ hk rfl rfl rfl (by rw [hb]; rfl)
@[local simp] theorem n5_4 {T : Tabs} {σ : Vars} {ds : List D} (hk : keysIn KL5 σ = true) : genD T (fnAt 5).2.1 σ (⟨⟨[114, 97, 110, 103, 101]⟩⟩ : Str) ds = T.gn (⟨⟨[114, 97, 110, 103, 101]⟩⟩ : Str) ds := gen_fn hk rfl rfl rfl
@[local simp] theorem c5_5 {T : Tabs} {σ : Vars} {ds : List D} (hb : T.bi (⟨⟨[95, 115, 117, 98, 115, 116, 105, 116, 117, 116, 105, 111, 110, 95, 99, 111, 115, 116]⟩⟩ : Str) = none) (hk : keysIn KL5 σ = true) : callD T (fnAt 5).2.1 σ (⟨⟨[95, 115, 117, 98, 115, 116, 105, 116, 117, 116, 105, 111, 110, 95, 99, 111, 115, 116]⟩⟩ : Str) ds = T.fn (⟨⟨[95, 115, 117, 98, 115, 116, 105, 116, 117, 116, 105, 111, 110, 95, 99, 111, 115, 116]⟩⟩ : Str) ds := call_fn hk rfl rfl rfl hb
@[local simp] theorem nl5_6 : ((⟨⟨[109, 105, 110]⟩⟩ : Str) == ("list" : Str)) = false := Eq.trans rfl rfl
@[local simp] theorem c5_6 {T : Tabs} {σ : Vars} {ds : List D} (hb : T.bi = biV) (hk : keysIn KL5 σ = true) : callD T (fnAt 5).2.1 σ (⟨⟨[109, 105, 110]⟩⟩ : Str) ds = fnD (.builtin "min") ds := call_bi _ hk rfl rfl rfl (by rw [hb]; rfl)
@[local simp] theorem gz5 : isGl (fnAt 5).2.1 (⟨⟨[108, 105, 115, 116]⟩⟩ : Str) = true := Eq.trans rfl rfl
@[local simp] theorem ln5 {σ : Vars} (hk : keysIn KL5 σ = true) : List.lookup (⟨⟨[108, 105, 115, 116]⟩⟩ : Str) σ = none := lookup_no rfl hk
@[local simp] theorem p5_0 (d v0 : D) (r : Vars) : setV (⟨⟨[97]⟩⟩ : Str) d (((⟨⟨[97]⟩⟩ : Str), v0) :: r) = ((⟨⟨[97]⟩⟩ : Str), d) :: r := rfl
@[local simp] theorem l5_1 (v0 v1 : D) (r : Vars) : List.lookup (⟨⟨[98]⟩⟩ : Str) (((⟨⟨[97]⟩⟩ : Str), v0) :: ((⟨⟨[98]⟩⟩ : Str), v1) :: r) = some v1 := rfl
@[local simp] theorem p5_1 (d v0 v1 : D) (r : Vars) : setV (⟨⟨[98]⟩⟩ : Str) d (((⟨⟨[97]⟩⟩ : Str), v0) :: ((⟨⟨[98]⟩⟩ : Str), v1) :: r) = ((⟨⟨[97]⟩⟩ : Str), v0) :: ((⟨⟨[98]⟩⟩ : Str), d) :: r := rfl
@[local simp] theorem l5_2 (v0 v1 v2 : D) (r : Vars) : List.lookup (⟨⟨[109, 97, 120, 95, 99, 111, 115, 116]⟩⟩ : Str) (((⟨⟨[97]⟩⟩ : Str), v0) :: ((⟨⟨[98]⟩⟩ : Str), v1) :: ((⟨⟨[109, 97, 120, 95, 99, 111, 115, 116]⟩⟩ : Str), v2) :: r) = some v2 := rfl
@[local simp] theorem l5_3 (v0 v1 v2 v3 : D) (r : Vars) : List.lookup (⟨⟨[112, 114, 101]⟩⟩ : Str) (((⟨⟨[97]⟩⟩ : Str), v0) :: ((⟨⟨[98]⟩⟩ : Str), v1) :: ((⟨⟨[109, 97, 120, 95, 99, 111, 115, 116]⟩⟩ : Str), v2) :: ((⟨⟨[112, 114, 101]⟩⟩ : Str), v3) :: r) = some v3 := rfl
@[local simp] theorem p5_3 (d v0 v1 v2 v3 : D) (r : Vars) : setV (⟨⟨[112, 114, 101]⟩⟩ : Str) d (((⟨⟨[97]⟩⟩ : Str), v0) :: ((⟨⟨[98]⟩⟩ : Str), v1) :: ((⟨⟨[109, 97, 120, 95, 99, 111, 115, 116]⟩⟩ : Str), v2) :: ((⟨⟨[112, 114, 101]⟩⟩ : Str), v3) :: r) = ((⟨⟨[97]⟩⟩ : Str), v0) :: ((⟨⟨[98]⟩⟩ : Str), v1) :: ((⟨⟨[109, 97, 120, 95, 99, 111, 115, 116]⟩⟩ : Str), v2) :: ((⟨⟨[112, 114, 101]⟩⟩ : Str), d) :: r := rfl
@[local simp] theorem a5_3 (d : D) (v0 v1 v2 : D) : setV (⟨⟨[112, 114, 101]⟩⟩ : Str) d [((⟨⟨[97]⟩⟩ : Str), v0), ((⟨⟨[98]⟩⟩ : Str), v1), ((⟨⟨[109, 97, 120, 95, 99, 111, 115, 116]⟩⟩ : Str), v2)] = [((⟨⟨[97]⟩⟩ : Str), v0), ((⟨⟨[98]⟩⟩ : Str), v1), ((⟨⟨[109, 97, 120, 95, 99, 111, 115, 116]⟩⟩ : Str), v2), ((⟨⟨[112, 114, 101]⟩⟩ : Str), d)] := rfl
@[local simp] theorem l5_4 (v0 v1 v2 v3 v4 : D) (r : Vars) : List.lookup (⟨⟨[112, 111, 115, 116]⟩⟩ : Str) (((⟨⟨[97]⟩⟩ : Str), v0) :: ((⟨⟨[98]⟩⟩ : Str), v1) :: ((⟨⟨[109, 97, 120, 95, 99, 111, 115, 116]⟩⟩ : Str), v2) :: ((⟨⟨[112, 114, 101]⟩⟩ : Str), v3) :: ((⟨⟨[112, 111, 115, 116]⟩⟩ : Str), v4) :: r) = some v4 := rfl
@[local simp] theorem k5_4 (v0 v1 v2 v3 v4 : D) : keysIn KL5 (((⟨⟨[97]⟩⟩ : Str), v0) :: ((⟨⟨[98]⟩⟩ : Str), v1) :: ((⟨⟨[109, 97, 120, 95, 99, 111, 115, 116]⟩⟩ : Str), v2) :: ((⟨⟨[112, 114, 101]⟩⟩ : Str), v3) :: ((⟨⟨[112, 111, 115, 116]⟩⟩ : Str), v4) :: []) = true := Eq.trans rfl rfl
@[local simp] theorem p5_4 (d v0 v1 v2 v3 v4 : D) (r : Vars) : setV (⟨⟨[112, 111, 115, 116]⟩⟩ : Str) d (((⟨⟨[97]⟩⟩ : Str), v0) :: ((⟨⟨[98]⟩⟩ : Str), v1) :: ((⟨⟨[109, 97, 120, 95, 99, 111, 115, 116]⟩⟩ : Str), v2) :: ((⟨⟨[112, 114, 101]⟩⟩ : Str), v3) :: ((⟨⟨[112, 111, 115, 116]⟩⟩ : Str), v4) :: r) = ((⟨⟨[97]⟩⟩ : Str), v0) :: ((⟨⟨[98]⟩⟩ : Str), v1) :: ((⟨⟨[109, 97, 120, 95, 99, 111, 115, 116]⟩⟩ : Str), v2) :: ((⟨⟨[112, 114, 101]⟩⟩ : Str), v3) :: ((⟨⟨[112, 111, 115, 116]⟩⟩ : Str), d) :: r := rfl
@[local simp] theorem a5_4 (d : D) (v0 v1 v2 v3 : D) : setV (⟨⟨[112, 111, 115, 116]⟩⟩ : Str) d [((⟨⟨[97]⟩⟩ : Str), v0), ((⟨⟨[98]⟩⟩ : Str), v1), ((⟨⟨[109, 97, 120, 95, 99, 111, 115, 116]⟩⟩ : Str), v2), ((⟨⟨[112, 114, 101]⟩⟩ : Str), v3)] = [((⟨⟨[97]⟩⟩ : Str), v0), ((⟨⟨[98]⟩⟩ : Str), v1), ((⟨⟨[109, 97, 120, 95, 99, 111, 115, 116]⟩⟩ : Str), v2), ((⟨⟨[112, 114, 101]⟩⟩ : Str), v3), ((⟨⟨[112, 111, 115, 116]⟩⟩ : Str), d)] := rfl
@[local simp] theorem l5_5 (v0 v1 v2 v3 v4 v5 : D) (r : Vars) : List.lookup (⟨⟨[114, 111, 119]⟩⟩ : Str) (((⟨⟨[97]⟩⟩ : Str), v0) :: ((⟨⟨[98]⟩⟩ : Str), v1) :: ((⟨⟨[109, 97, 120, 95, 99, 111, 115, 116]⟩⟩ : Str), v2) :: ((⟨⟨[112, 114, 101]⟩⟩ : Str), v3) :: ((⟨⟨[112, 111, 115, 116]⟩⟩ : Str), v4) :: ((⟨⟨[114, 111, 119]⟩⟩ : Str), v5) :: r) = some v5 := rfl
@[local simp] theorem p5_5 (d v0 v1 v2 v3 v4 v5 : D) (r : Vars) : setV (⟨⟨[114, 111, 119]⟩⟩ : Str) d (((⟨⟨[97]⟩⟩ : Str), v0) :: ((⟨⟨[98]⟩⟩ : Str), v1) :: ((⟨⟨[109, 97, 120, 95, 99, 111, 115, 116]⟩⟩ : Str), v2) :: ((⟨⟨[112, 114, 101]⟩⟩ : Str), v3) :: ((⟨⟨[112, 111, 115, 116]⟩⟩ : Str), v4) :: ((⟨⟨[114, 111, 119]⟩⟩ : Str), v5) :: r) = ((⟨⟨[97]⟩⟩ : Str), v0) :: ((⟨⟨[98]⟩⟩ : Str), v1) :: ((⟨⟨[109, 97, 120, 95, 99, 111, 115, 116]⟩⟩ : Str), v2) :: ((⟨⟨[112, 114, 101]⟩⟩ : Str), v3) :: ((⟨⟨[112, 111, 115, 116]⟩⟩ : Str), v4) :: ((⟨⟨[114, 111, 119]⟩⟩ : Str), d) :: r := rfl
@[local simp] theorem a5_5 (d : D) (v0 v1 v2 v3 v4 : D) : setV (⟨⟨[114, 111, 119]⟩⟩ : Str) d [((⟨⟨[97]⟩⟩ : Str), v0), ((⟨⟨[98]⟩⟩ : Str), v1), ((⟨⟨[109, 97, 120, 95, 99, 111, 115, 116]⟩⟩ : Str), v2), ((⟨⟨[112, 114, 101]⟩⟩ : Str), v3), ((⟨⟨[112, 111, 115, 116]⟩⟩ : Str), v4)] = [((⟨⟨[97]⟩⟩ : Str), v0), ((⟨⟨[98]⟩⟩ : Str), v1), ((⟨⟨[109, 97, 120, 95, 99, 111, 115, 116]⟩⟩ : Str), v2), ((⟨⟨[112, 114, 101]⟩⟩ : Str), v3), ((⟨⟨[112, 111, 115, 116]⟩⟩ : Str), v4), ((⟨⟨[114, 111, 119]⟩⟩ : Str), d)] := rfl
@[local simp] theorem l5_6 (v0 v1 v2 v3 v4 v5 v6 : D) (r : Vars) : List.lookup (⟨⟨[114, 101, 115, 117, 108, 116]⟩⟩ : Str) (((⟨⟨[97]⟩⟩ : Str), v0) :: ((⟨⟨[98]⟩⟩ : Str), v1) :: ((⟨⟨[109, 97, 120, 95, 99, 111, 115, 116]⟩⟩ : Str), v2) :: ((⟨⟨[112, 114, 101]⟩⟩ : Str), v3) :: ((⟨⟨[112, 111, 115, 116]⟩⟩ : Str), v4) :: ((⟨⟨[114, 111, 119]⟩⟩ : Str), v5) :: ((⟨⟨[114, 101, 115, 117, 108, 116]⟩⟩ : Str), v6) :: r) = some v6 := rfl
@[local simp] theorem k5_6 (v0 v1 v2 v3 v4 v5 v6 : D) : keysIn KL5 (((⟨⟨[97]⟩⟩ : Str), v0) :: ((⟨⟨[98]⟩⟩ : Str), v1) :: ((⟨⟨[109, 97, 120, 95, 99, 111, 115, 116]⟩⟩ : Str), v2) :: ((⟨⟨[112, 114, 101]⟩⟩ : Str), v3) :: ((⟨⟨[112, 111, 115, 116]⟩⟩ : Str), v4) :: ((⟨⟨[114, 111, 119]⟩⟩ : Str), v5) :: ((⟨⟨[114, 101, 115, 117, 108, 116]⟩⟩ : Str), v6) :: []) = true := Eq.trans rfl rfl
@[local simp] theorem p5_6 (d v0 v1 v2 v3 v4 v5 v6 : D) (r : Vars) : setV (⟨⟨[114, 101, 115, 117, 108, 116]⟩⟩ : Str) d (((⟨⟨[97]⟩⟩ : Str), v0) :: ((⟨⟨[98]⟩⟩ : Str), v1) :: ((⟨⟨[109, 97, 120, 95, 99, 111, 115, 116]⟩⟩ : Str), v2) :: ((⟨⟨[112, 114, 101]⟩⟩ : Str), v3) :: ((⟨⟨[112, 111, 115, 116]⟩⟩ : Str), v4) :: ((⟨⟨[114, 111, 119]⟩⟩ : Str), v5) :: ((⟨⟨[114, 101, 115, 117, 108, 116]⟩⟩ : Str), v6) :: r) = ((⟨⟨[97]⟩⟩ : Str), v0) :: ((⟨⟨[98]⟩⟩ : Str), v1) :: ((⟨⟨[109, 97, 120, 95, 99, 111, 115, 116]⟩⟩ : Str), v2) :: ((⟨⟨[112, 114, 101]⟩⟩ : Str), v3) :: ((⟨⟨[112, 111, 115, 116]⟩⟩ : Str), v4) :: ((⟨⟨[114, 111, 119]⟩⟩ : Str), v5) :: ((⟨⟨[114, 101, 115, 117, 108, 116]⟩⟩ : Str), d) :: r := rfl
@[local simp] theorem a5_6 (d : D) (v0 v1 v2 v3 v4 v5 : D) : setV (⟨⟨[114, 101, 115, 117, 108, 116]⟩⟩ : Str) d [((⟨⟨[97]⟩⟩ : Str), v0), ((⟨⟨[98]⟩⟩ : Str), v1), ((⟨⟨[109, 97, 120, 95, 99, 111, 115, 116]⟩⟩ : Str), v2), ((⟨⟨[112, 114, 101]⟩⟩ : Str), v3), ((⟨⟨[112, 111, 115, 116]⟩⟩ : Str), v4), ((⟨⟨[114, 111, 119]⟩⟩ : Str), v5)] = [((⟨⟨[97]⟩⟩ : Str), v0), ((⟨⟨[98]⟩⟩ : Str), v1), ((⟨⟨[109, 97, 120, 95, 99, 111, 115, 116]⟩⟩ : Str), v2), ((⟨⟨[112, 114, 101]⟩⟩ : Str), v3), ((⟨⟨[112, 111, 115, 116]⟩⟩ : Str), v4), ((⟨⟨[114, 111, 119]⟩⟩ : Str), v5), ((⟨⟨[114, 101, 115, 117, 108, 116]⟩⟩ : Str), d)] := rfl
@[local simp] theorem l5_7 (v0 v1 v2 v3 v4 v5 v6 v7 : D) (r : Vars) : List.lookup (⟨⟨[98, 105, 110, 100, 101, 120]⟩⟩ : Str) (((⟨⟨[97]⟩⟩ : Str), v0) :: ((⟨⟨[98]⟩⟩ : Str), v1) :: ((⟨⟨[109, 97, 120, 95, 99, 111, 115, 116]⟩⟩ : Str), v2) :: ((⟨⟨[112, 114, 101]⟩⟩ : Str), v3) :: ((⟨⟨[112, 111, 115, 116]⟩⟩ : Str), v4) :: ((⟨⟨[114, 111, 119]⟩⟩ : Str), v5) :: ((⟨⟨[114, 101, 115, 117, 108, 116]⟩⟩ : Str), v6) :: ((⟨⟨[98, 105, 110, 100, 101, 120]⟩⟩ : Str), v7) :: r) = some v7 := rfl
@[local simp] theorem p5_7 (d v0 v1 v2 v3 v4 v5 v6 v7 : D) (r : Vars) : setV (⟨⟨[98, 105, 110, 100, 101, 120]⟩⟩ : Str) d (((⟨⟨[97]⟩⟩ : Str), v0) :: ((⟨⟨[98]⟩⟩ : Str), v1) :: ((⟨⟨[109, 97, 120, 95, 99, 111, 115, 116]⟩⟩ : Str), v2) :: ((⟨⟨[112, 114, 101]⟩⟩ : Str), v3) :: ((⟨⟨[112, 111, 115, 116]⟩⟩ : Str), v4) :: ((⟨⟨[114, 111, 119]⟩⟩ : Str), v5) :: ((⟨⟨[114, 101, 115, 117, 108, 116]⟩⟩ : Str), v6) :: ((⟨⟨[98, 105, 110, 100, 101, 120]⟩⟩ : Str), v7) :: r) = ((⟨⟨[97]⟩⟩ : Str), v0) :: ((⟨⟨[98]⟩⟩ : Str), v1) :: ((⟨⟨[109, 97, 120, 95, 99, 111, 115, 116]⟩⟩ : Str), v2) :: ((⟨⟨[112, 114, 101]⟩⟩ : Str), v3) :: ((⟨⟨[112, 111, 115, 116]⟩⟩ : Str), v4) :: ((⟨⟨[114, 111, 119]⟩⟩ : Str), v5) :: ((⟨⟨[114, 101, 115, 117, 108, 116]⟩⟩ : Str), v6) :: ((⟨⟨[98, 105, 110, 100, 101, 120]⟩⟩ : Str), d) :: r := rfl
@[local simp] theorem a5_7 (d : D) (v0 v1 v2 v3 v4 v5 v6 : D) : setV (⟨⟨[98, 105, 110, 100, 101, 120]⟩⟩ : Str) d [((⟨⟨[97]⟩⟩ : Str), v0), ((⟨⟨[98]⟩⟩ : Str), v1), ((⟨⟨[109, 97, 120, 95, 99, 111, 115, 116]⟩⟩ : Str), v2), ((⟨⟨[112, 114, 101]⟩⟩ : Str), v3), ((⟨⟨[112, 111, 115, 116]⟩⟩ : Str), v4), ((⟨⟨[114, 111, 119]⟩⟩ : Str), v5), ((⟨⟨[114, 101, 115, 117, 108, 116]⟩⟩ : Str), v6)] = [((⟨⟨[97]⟩⟩ : Str), v0), ((⟨⟨[98]⟩⟩ : Str), v1), ((⟨⟨[109, 97, 120, 95, 99, 111, 115, 116]⟩⟩ : Str), v2), ((⟨⟨[112, 114, 101]⟩⟩ : Str), v3), ((⟨⟨[112, 111, 115, 116]⟩⟩ : Str), v4), ((⟨⟨[114, 111, 119]⟩⟩ : Str), v5), ((⟨⟨[114, 101, 115, 117, 108, 116]⟩⟩ : Str), v6), ((⟨⟨[98, 105, 110, 100, 101, 120]⟩⟩ : Str), d)] := rfl
@[local simp] theorem l5_8 (v0 v1 v2 v3 v4 v5 v6 v7 v8 : D) (r : Vars) : List.lookup (⟨⟨[98, 99, 104, 97, 114]⟩⟩ : Str) (((⟨⟨[97]⟩⟩ : Str), v0) :: ((⟨⟨[98]⟩⟩ : Str), v1) :: ((⟨⟨[109, 97, 120, 95, 99, 111, 115, 116]⟩⟩ : Str), v2) :: ((⟨⟨[112, 114, 101]⟩⟩ : Str), v3) :: ((⟨⟨[112, 111, 115, 116]⟩⟩ : Str), v4) :: ((⟨⟨[114, 111, 119]⟩⟩ : Str), v5) :: ((⟨⟨[114, 101, 115, 117, 108, 116]⟩⟩ : Str), v6) :: ((⟨⟨[98, 105, 110, 100, 101, 120]⟩⟩ : Str), v7) :: ((⟨⟨[98, 99, 104, 97, 114]⟩⟩ : Str), v8) :: r) = some v8 := rfl
@[local simp] theorem k5_8 (v0 v1 v2 v3 v4 v5 v6 v7 v8 : D) : keysIn KL5 (((⟨⟨[97]⟩⟩ : Str), v0) :: ((⟨⟨[98]⟩⟩ : Str), v1) :: ((⟨⟨[109, 97, 120, 95, 99, 111, 115, 116]⟩⟩ : Str), v2) :: ((⟨⟨[112, 114, 101]⟩⟩ : Str), v3) :: ((⟨⟨[112, 111, 115, 116]⟩⟩ : Str), v4) :: ((⟨⟨[114, 111, 119]⟩⟩ : Str), v5) :: ((⟨⟨[114, 101, 115, 117, 108, 116]⟩⟩ : Str), v6) :: ((⟨⟨[98, 105, 110, 100, 101, 120]⟩⟩ : Str), v7) :: ((⟨⟨[98, 99, 104, 97, 114]⟩⟩ : Str), v8) :: []) = true := Eq.trans rfl rfl
@[local simp] theorem p5_8 (d v0 v1 v2 v3 v4 v5 v6 v7 v8 : D) (r : Vars) : setV (⟨⟨[98, 99, 104, 97, 114]⟩⟩ : Str) d (((⟨⟨[97]⟩⟩ : Str), v0) :: ((⟨⟨[98]⟩⟩ : Str), v1) :: ((⟨⟨[109, 97, 120, 95, 99, 111, 115, 116]⟩⟩ : Str), v2) :: ((⟨⟨[112, 114, 101]⟩⟩ : Str), v3) :: ((⟨⟨[112, 111, 115, 116]⟩⟩ : Str), v4) :: ((⟨⟨[114, 111, 119]⟩⟩ : Str), v5) :: ((⟨⟨[114, 101, 115, 117, 108, 116]⟩⟩ : Str), v6) :: ((⟨⟨[98, 105, 110, 100, 101, 120]⟩⟩ : Str), v7) :: ((⟨⟨[98, 99, 104, 97, 114]⟩⟩ : Str), v8) :: r) = ((⟨⟨[97]⟩⟩ : Str), v0) :: ((⟨⟨[98]⟩⟩ : Str), v1) :: ((⟨⟨[109, 97, 120, 95, 99, 111, 115, 116]⟩⟩ : Str), v2) :: ((⟨⟨[112, 114, 101]⟩⟩ : Str), v3) :: ((⟨⟨[112, 111, 115, 116]⟩⟩ : Str), v4) :: ((⟨⟨[114, 111, 119]⟩⟩ : Str), v5) :: ((⟨⟨[114, 101, 115, 117, 108, 116]⟩⟩ : Str), v6) :: ((⟨⟨[98, 105, 110, 100, 101, 120]⟩⟩ : Str), v7) :: ((⟨⟨[98, 99, 104, 97, 114]⟩⟩ : Str), d) :: r := rfl
@[local simp] theorem a5_8 (d : D) (v0 v1 v2 v3 v4 v5 v6 v7 : D) : setV (⟨⟨[98, 99, 104, 97, 114]⟩⟩ : Str) d [((⟨⟨[97]⟩⟩ : Str), v0), ((⟨⟨[98]⟩⟩ : Str), v1), ((⟨⟨[109, 97, 120, 95, 99, 111, 115, 116]⟩⟩ : Str), v2), ((⟨⟨[112, 114, 101]⟩⟩ : Str), v3), ((⟨⟨[112, 111, 115, 116]⟩⟩ : Str), v4), ((⟨⟨[114, 111, 119]⟩⟩ : Str), v5), ((⟨⟨[114, 101, 115, 117, 108, 116]⟩⟩ : Str), v6), ((⟨⟨[98, 105, 110, 100, 101, 120]⟩⟩ : Str), v7)] = [((⟨⟨[97]⟩⟩ : Str), v0), ((⟨⟨[98]⟩⟩ : Str), v1), ((⟨⟨[109, 97, 120, 95, 99, 111, 115, 116]⟩⟩ : Str), v2), ((⟨⟨[112, 114, 101]⟩⟩ : Str), v3), ((⟨⟨[112, 111, 115, 116]⟩⟩ : Str), v4), ((⟨⟨[114, 111, 119]⟩⟩ : Str), v5), ((⟨⟨[114, 101, 115, 117, 108, 116]⟩⟩ : Str), v6), ((⟨⟨[98, 105, 110, 100, 101, 120]⟩⟩ : Str), v7), ((⟨⟨[98, 99, 104, 97, 114]⟩⟩ : Str), d)] := rfl
@[local simp] theorem l5_9 (v0 v1 v2 v3 v4 v5 v6 v7 v8 v9 : D) (r : Vars) : List.lookup (⟨⟨[100, 105, 115, 116, 97, 110, 99, 101]⟩⟩ : Str) (((⟨⟨[97]⟩⟩ : Str), v0) :: ((⟨⟨[98]⟩⟩ : Str), v1) :: ((⟨⟨[109, 97, 120, 95, 99, 111, 115, 116]⟩⟩ : Str), v2) :: ((⟨⟨[112, 114, 101]⟩⟩ : Str), v3) :: ((⟨⟨[112, 111, 115, 116]⟩⟩ : Str), v4) :: ((⟨⟨[114, 111, 119]⟩⟩ : Str), v5) :: ((⟨⟨[114, 101, 115, 117, 108, 116]⟩⟩ : Str), v6) :: ((⟨⟨[98, 105, 110, 100, 101, 120]⟩⟩ : Str), v7) :: ((⟨⟨[98, 99, 104, 97, 114]⟩⟩ : Str), v8) :: ((⟨⟨[100, 105, 115, 116, 97, 110, 99, 101]⟩⟩ : Str), v9) :: r) = some v9 := rfl
@[local simp] theorem p5_9 (d v0 v1 v2 v3 v4 v5 v6 v7 v8 v9 : D) (r : Vars) : setV (⟨⟨[100, 105, 115, 116, 97, 110, 99, 101]⟩⟩ : Str) d (((⟨⟨[97]⟩⟩ : Str), v0) :: ((⟨⟨[98]⟩⟩ : Str), v1) :: ((⟨⟨[109, 97, 120, 95, 99, 111, 115, 116]⟩⟩ : Str), v2) :: ((⟨⟨[112, 114, 101]⟩⟩ : Str), v3) :: ((⟨⟨[112, 111, 115, 116]⟩⟩ : Str), v4) :: ((⟨⟨[114, 111, 119]⟩⟩ : Str), v5) :: ((⟨⟨[114, 101, 115, 117, 108, 116]⟩⟩ : Str), v6) :: ((⟨⟨[98, 105, 110, 100, 101, 120]⟩⟩ : Str), v7) :: ((⟨⟨[98, 99, 104, 97, 114]⟩⟩ : Str), v8) :: ((⟨⟨[100, 105, 115, 116, 97, 110, 99, 101]⟩⟩ : Str), v9) :: r) = ((⟨⟨[97]⟩⟩ : Str), v0) :: ((⟨⟨[98]⟩⟩ : Str), v1) :: ((⟨⟨[109, 97, 120, 95, 99, 111, 115, 116]⟩⟩ : Str), v2) :: ((⟨⟨[112, 114, 101]⟩⟩ : Str), v3) :: ((⟨⟨[112, 111, 115, 116]⟩⟩ : Str), v4) :: ((⟨⟨[114, 111, 119]⟩⟩ : Str), v5) :: ((⟨⟨[114, 101, 115, 117, 108, 116]⟩⟩ : Str), v6) :: ((⟨⟨[98, 105, 110, 100, 101, 120]⟩⟩ : Str), v7) :: ((⟨⟨[98, 99, 104, 97, 114]⟩⟩ : Str), v8) :: ((⟨⟨[100, 105, 115, 116, 97, 110, 99, 101]⟩⟩ : Str), d) :: r := rfl
@[local simp] theorem a5_9 (d : D) (v0 v1 v2 v3 v4 v5 v6 v7 v8 : D) : setV (⟨⟨[100, 105, 115, 116, 97, 110, 99, 101]⟩⟩ : Str) d [((⟨⟨[97]⟩⟩ : Str), v0), ((⟨⟨[98]⟩⟩ : Str), v1), ((⟨⟨[109, 97, 120, 95, 99, 111, 115, 116]⟩⟩ : Str), v2), ((⟨⟨[112, 114, 101]⟩⟩ : Str), v3), ((⟨⟨[112, 111, 115, 116]⟩⟩ : Str), v4), ((⟨⟨[114, 111, 119]⟩⟩ : Str), v5), ((⟨⟨[114, 101, 115, 117, 108, 116]⟩⟩ : Str), v6), ((⟨⟨[98, 105, 110, 100, 101, 120]⟩⟩ : Str), v7), ((⟨⟨[98, 99, 104, 97, 114]⟩⟩ : Str), v8)] = [((⟨⟨[97]⟩⟩ : Str), v0), ((⟨⟨[98]⟩⟩ : Str), v1), ((⟨⟨[109, 97, 120, 95, 99, 111, 115, 116]⟩⟩ : Str), v2), ((⟨⟨[112, 114, 101]⟩⟩ : Str), v3), ((⟨⟨[112, 111, 115, 116]⟩⟩ : Str), v4), ((⟨⟨[114, 111, 119]⟩⟩ : Str), v5), ((⟨⟨[114, 101, 115, 117, 108, 116]⟩⟩ : Str), v6), ((⟨⟨[98, 105, 110, 100, 101, 120]⟩⟩ : Str), v7), ((⟨⟨[98, 99, 104, 97, 114]⟩⟩ : Str), v8), ((⟨⟨[100, 105, 115, 116, 97, 110, 99, 101]⟩⟩ : Str), d)] := rfl
@[local simp] theorem l5_10 (v0 v1 v2 v3 v4 v5 v6 v7 v8 v9 v10 : D) (r : Vars) : List.lookup (⟨⟨[109, 105, 110, 105, 109, 117, 109]⟩⟩ : Str) (((⟨⟨[97]⟩⟩ : Str), v0) :: ((⟨⟨[98]⟩⟩ : Str), v1) :: ((⟨⟨[109, 97, 120, 95, 99, 111, 115, 116]⟩⟩ : Str), v2) :: ((⟨⟨[112, 114, 101]⟩⟩ : Str), v3) :: ((⟨⟨[112, 111, 115, 116]⟩⟩ : Str), v4) :: ((⟨⟨[114, 111, 119]⟩⟩ : Str), v5) :: ((⟨⟨[114, 101, 115, 117, 108, 116]⟩⟩ : Str), v6) :: ((⟨⟨[98, 105, 110, 100, 101, 120]⟩⟩ : Str), v7) :: ((⟨⟨[98, 99, 104, 97, 114]⟩⟩ : Str), v8) :: ((⟨⟨[100, 105, 115, 116, 97, 110, 99, 101]⟩⟩ : Str), v9) :: ((⟨⟨[109, 105, 110, 105, 109, 117, 109]⟩⟩ : Str), v10) :: r) = some v10 := rfl
@[local simp] theorem k5_10 (v0 v1 v2 v3 v4 v5 v6 v7 v8 v9 v10 : D) : keysIn KL5 (((⟨⟨[97]⟩⟩ : Str), v0) :: ((⟨⟨[98]⟩⟩ : Str), v1) :: ((⟨⟨[109, 97, 120, 95, 99, 111, 115, 116]⟩⟩ : Str), v2) :: ((⟨⟨[112, 114, 101]⟩⟩ : Str), v3) :: ((⟨⟨[112, 111, 115, 116]⟩⟩ : Str), v4) :: ((⟨⟨[114, 111, 119]⟩⟩ : Str), v5) :: ((⟨⟨[114, 101, 115, 117, 108, 116]⟩⟩ : Str), v6) :: ((⟨⟨[98, 105, 110, 100, 101, 120]⟩⟩ : Str), v7) :: ((⟨⟨[98, 99, 104, 97, 114]⟩⟩ : Str), v8) :: ((⟨⟨[100, 105, 115, 116, 97, 110, 99, 101]⟩⟩ : Str), v9) :: ((⟨⟨[109, 105, 110, 105, 109, 117, 109]⟩⟩ : Str), v10) :: []) = true := Eq.trans rfl rfl
@[local simp] theorem p5_10 (d v0 v1 v2 v3 v4 v5 v6 v7 v8 v9 v10 : D) (r : Vars) : setV (⟨⟨[109, 105, 110, 105, 109, 117, 109]⟩⟩ : Str) d (((⟨⟨[97]⟩⟩ : Str), v0) :: ((⟨⟨[98]⟩⟩ : Str), v1) :: ((⟨⟨[109, 97, 120, 95, 99, 111, 115, 116]⟩⟩ : Str), v2) :: ((⟨⟨[112, 114, 101]⟩⟩ : Str), v3) :: ((⟨⟨[112, 111, 115, 116]⟩⟩ : Str), v4) :: ((⟨⟨[114, 111, 119]⟩⟩ : Str), v5) :: ((⟨⟨[114, 101, 115, 117, 108, 116]⟩⟩ : Str), v6) :: ((⟨⟨[98, 105, 110, 100, 101, 120]⟩⟩ : Str), v7) :: ((⟨⟨[98, 99, 104, 97, 114]⟩⟩ : Str), v8) :: ((⟨⟨[100, 105, 115, 116, 97, 110, 99, 101]⟩⟩ : Str), v9) :: ((⟨⟨[109, 105, 110, 105, 109, 117, 109]⟩⟩ : Str), v10) :: r) = ((⟨⟨[97]⟩⟩ : Str), v0) :: ((⟨⟨[98]⟩⟩ : Str), v1) :: ((⟨⟨[109, 97, 120, 95, 99, 111, 115, 116]⟩⟩ : Str), v2) :: ((⟨⟨[112, 114, 101]⟩⟩ : Str), v3) :: ((⟨⟨[112, 111, 115, 116]⟩⟩ : Str), v4) :: ((⟨⟨[114, 111, 119]⟩⟩ : Str), v5) :: ((⟨⟨[114, 101, 115, 117, 108, 116]⟩⟩ : Str), v6) :: ((⟨⟨[98, 105, 110, 100, 101, 120]⟩⟩ : Str), v7) :: ((⟨⟨[98, 99, 104, 97, 114]⟩⟩ : Str), v8) :: ((⟨⟨[100, 105, 115, 116, 97, 110, 99, 101]⟩⟩ : Str), v9) :: ((⟨⟨[109, 105, 110, 105, 109, 117, 109]⟩⟩ : Str), d) :: r := rfl
@[local simp] theorem a5_10 (d : D) (v0 v1 v2 v3 v4 v5 v6 v7 v8 v9 : D) : setV (⟨⟨[109, 105, 110, 105, 109, 117, 109]⟩⟩ : Str) d [((⟨⟨[97]⟩⟩ : Str), v0), ((⟨⟨[98]⟩⟩ : Str), v1), ((⟨⟨[109, 97, 120, 95, 99, 111, 115, 116]⟩⟩ : Str), v2), ((⟨⟨[112, 114, 101]⟩⟩ : Str), v3), ((⟨⟨[112, 111, 115, 116]⟩⟩ : Str), v4), ((⟨⟨[114, 111, 119]⟩⟩ : Str), v5), ((⟨⟨[114, 101, 115, 117, 108, 116]⟩⟩ : Str), v6), ((⟨⟨[98, 105, 110, 100, 101, 120]⟩⟩ : Str), v7), ((⟨⟨[98, 99, 104, 97, 114]⟩⟩ : Str), v8), ((⟨⟨[100, 105, 115, 116, 97, 110, 99, 101]⟩⟩ : Str), v9)] = [((⟨⟨[97]⟩⟩ : Str), v0), ((⟨⟨[98]⟩⟩ : Str), v1), ((⟨⟨[109, 97, 120, 95, 99, 111, 115, 116]⟩⟩ : Str), v2), ((⟨⟨[112, 114, 101]⟩⟩ : Str), v3), ((⟨⟨[112, 111, 115, 116]⟩⟩ : Str), v4), ((⟨⟨[114, 111, 119]⟩⟩ : Str), v5), ((⟨⟨[114, 101, 115, 117, 108, 116]⟩⟩ : Str), v6), ((⟨⟨[98, 105, 110, 100, 101, 120]⟩⟩ : Str), v7), ((⟨⟨[98, 99, 104, 97, 114]⟩⟩ : Str), v8), ((⟨⟨[100, 105, 115, 116, 97, 110, 99, 101]⟩⟩ : Str), v9), ((⟨⟨[109, 105, 110, 105, 109, 117, 109]⟩⟩ : Str), d)] := rfl
@[local simp] theorem l5_11 (v0 v1 v2 v3 v4 v5 v6 v7 v8 v9 v10 v11 : D) (r : Vars) : List.lookup (⟨⟨[105, 110, 100, 101, 120]⟩⟩ : Str) (((⟨⟨[97]⟩⟩ : Str), v0) :: ((⟨⟨[98]⟩⟩ : Str), v1) :: ((⟨⟨[109, 97, 120, 95, 99, 111, 115, 116]⟩⟩ : Str), v2) :: ((⟨⟨[112, 114, 101]⟩⟩ : Str), v3) :: ((⟨⟨[112, 111, 115, 116]⟩⟩ : Str), v4) :: ((⟨⟨[114, 111, 119]⟩⟩ : Str), v5) :: ((⟨⟨[114, 101, 115, 117, 108, 116]⟩⟩ : Str), v6) :: ((⟨⟨[98, 105, 110, 100, 101, 120]⟩⟩ : Str), v7) :: ((⟨⟨[98, 99, 104, 97, 114]⟩⟩ : Str), v8) :: ((⟨⟨[100, 105, 115, 116, 97, 110, 99, 101]⟩⟩ : Str), v9) :: ((⟨⟨[109, 105, 110, 105, 109, 117, 109]⟩⟩ : Str), v10) :: ((⟨⟨[105, 110, 100, 101, 120]⟩⟩ : Str), v11) :: r) = some v11 := rfl
@[local simp] theorem k5_11 (v0 v1 v2 v3 v4 v5 v6 v7 v8 v9 v10 v11 : D) : keysIn KL5 (((⟨⟨[97]⟩⟩ : Str), v0) :: ((⟨⟨[98]⟩⟩ : Str), v1) :: ((⟨⟨[109, 97, 120, 95, 99, 111, 115, 116]⟩⟩ : Str), v2) :: ((⟨⟨[112, 114, 101]⟩⟩ : Str), v3) :: ((⟨⟨[112, 111, 115, 116]⟩⟩ : Str), v4) :: ((⟨⟨[114, 111, 119]⟩⟩ : Str), v5) :: ((⟨⟨[114, 101, 115, 117, 108, 116]⟩⟩ : Str), v6) :: ((⟨⟨[98, 105, 110, 100, 101, 120]⟩⟩ : Str), v7) :: ((⟨⟨[98, 99, 104, 97, 114]⟩⟩ : Str), v8) :: ((⟨⟨[100, 105, 115, 116, 97, 110, 99, 101]⟩⟩ : Str), v9) :: ((⟨⟨[109, 105, 110, 105, 109, 117, 109]⟩⟩ : Str), v10) :: ((⟨⟨[105, 110, 100, 101, 120]⟩⟩ : Str), v11) :: []) = true := Eq.trans rfl rfl
@[local simp] theorem p5_11 (d v0 v1 v2 v3 v4 v5 v6 v7 v8 v9 v10 v11 : D) (r : Vars) : setV (⟨⟨[105, 110, 100, 101, 120]⟩⟩ : Str) d (((⟨⟨[97]⟩⟩ : Str), v0) :: ((⟨⟨[98]⟩⟩ : Str), v1) :: ((⟨⟨[109, 97, 120, 95, 99, 111, 115, 116]⟩⟩ : Str), v2) :: ((⟨⟨[112, 114, 101]⟩⟩ : Str), v3) :: ((⟨⟨[112, 111, 115, 116]⟩⟩ : Str), v4) :: ((⟨⟨[114, 111, 119]⟩⟩ : Str), v5) :: ((⟨⟨[114, 101, 115, 117, 108, 116]⟩⟩ : Str), v6) :: ((⟨⟨[98, 105, 110, 100, 101, 120]⟩⟩ : Str), v7) :: ((⟨⟨[98, 99, 104, 97, 114]⟩⟩ : Str), v8) :: ((⟨⟨[100, 105, 115, 116, 97, 110, 99, 101]⟩⟩ : Str), v9) :: ((⟨⟨[109, 105, 110, 105, 109, 117, 109]⟩⟩ : Str), v10) :: ((⟨⟨[105, 110, 100, 101, 120]⟩⟩ : Str), v11) :: r) = ((⟨⟨[97]⟩⟩ : Str), v0) :: ((⟨⟨[98]⟩⟩ : Str), v1) :: ((⟨⟨[109, 97, 120, 95, 99, 111, 115, 116]⟩⟩ : Str), v2) :: ((⟨⟨[112, 114, 101]⟩⟩ : Str), v3) :: ((⟨⟨[112, 111, 115, 116]⟩⟩ : Str), v4) :: ((⟨⟨[114, 111, 119]⟩⟩ : Str), v5) :: ((⟨⟨[114, 101, 115, 117, 108, 116]⟩⟩ : Str), v6) :: ((⟨⟨[98, 105, 110, 100, 101, 120]⟩⟩ : Str), v7) :: ((⟨⟨[98, 99, 104, 97, 114]⟩⟩ : Str), v8) :: ((⟨⟨[100, 105, 115, 116, 97, 110, 99, 101]⟩⟩ : Str), v9) :: ((⟨⟨[109, 105, 110, 105, 109, 117, 109]⟩⟩ : Str), v10) :: ((⟨⟨[105, 110, 100, 101, 120]⟩⟩ : Str), d) :: r := rfl
@[local simp] theorem a5_11 (d : D) (v0 v1 v2 v3 v4 v5 v6 v7 v8 v9 v10 : D) : setV (⟨⟨[105, 110, 100, 101, 120]⟩⟩ : Str) d [((⟨⟨[97]⟩⟩ : Str), v0), ((⟨⟨[98]⟩⟩ : Str), v1), ((⟨⟨[109, 97, 120, 95, 99, 111, 115, 116]⟩⟩ : Str), v2), ((⟨⟨[112, 114, 101]⟩⟩ : Str), v3), ((⟨⟨[112, 111, 115, 116]⟩⟩ : Str), v4), ((⟨⟨[114, 111, 119]⟩⟩ : Str), v5), ((⟨⟨[114, 101, 115, 117, 108, 116]⟩⟩ : Str), v6), ((⟨⟨[98, 105, 110, 100, 101, 120]⟩⟩ : Str), v7), ((⟨⟨[98, 99, 104, 97, 114]⟩⟩ : Str), v8), ((⟨⟨[100, 105, 115, 116, 97, 110, 99, 101]⟩⟩ : Str), v9), ((⟨⟨[109, 105, 110, 105, 109, 117, 109]⟩⟩ : Str), v10)] = [((⟨⟨[97]⟩⟩ : Str), v0), ((⟨⟨[98]⟩⟩ : Str), v1), ((⟨⟨[109, 97, 120, 95, 99, 111, 115, 116]⟩⟩ : Str), v2), ((⟨⟨[112, 114, 101]⟩⟩ : Str), v3), ((⟨⟨[112, 111, 115, 116]⟩⟩ : Str), v4), ((⟨⟨[114, 111, 119]⟩⟩ : Str), v5), ((⟨⟨[114, 101, 115, 117, 108, 116]⟩⟩ : Str), v6), ((⟨⟨[98, 105, 110, 100, 101, 120]⟩⟩ : Str), v7), ((⟨⟨[98, 99, 104, 97, 114]⟩⟩ : Str), v8), ((⟨⟨[100, 105, 115, 116, 97, 110, 99, 101]⟩⟩ : Str), v9), ((⟨⟨[109, 105, 110, 105, 109, 117, 109]⟩⟩ : Str), v10), ((⟨⟨[105, 110, 100, 101, 120]⟩⟩ : Str), d)] := rfl
@[local simp] theorem l5_12 (v0 v1 v2 v3 v4 v5 v6 v7 v8 v9 v10 v11 v12 : D) (r : Vars) : List.lookup (⟨⟨[115, 117, 98, 115, 116, 105, 116, 117, 116, 101]⟩⟩ : Str) (((⟨⟨[97]⟩⟩ : Str), v0) :: ((⟨⟨[98]⟩⟩ : Str), v1) :: ((⟨⟨[109, 97, 120, 95, 99, 111, 115, 116]⟩⟩ : Str), v2) :: ((⟨⟨[112, 114, 101]⟩⟩ : Str), v3) :: ((⟨⟨[112, 111, 115, 116]⟩⟩ : Str), v4) :: ((⟨⟨[114, 111, 119]⟩⟩ : Str), v5) :: ((⟨⟨[114, 101, 115, 117, 108, 116]⟩⟩ : Str), v6) :: ((⟨⟨[98, 105, 110, 100, 101, 120]⟩⟩ : Str), v7) :: ((⟨⟨[98, 99, 104, 97, 114]⟩⟩ : Str), v8) :: ((⟨⟨[100, 105, 115, 116, 97, 110, 99, 101]⟩⟩ : Str), v9) :: ((⟨⟨[109, 105, 110, 105, 109, 117, 109]⟩⟩ : Str), v10) :: ((⟨⟨[105, 110, 100, 101, 120]⟩⟩ : Str), v11) :: ((⟨⟨[115, 117, 98, 115, 116, 105, 116, 117, 116, 101]⟩⟩ : Str), v12) :: r) = some v12 := rfl
@[local simp] theorem k5_12 (v0 v1 v2 v3 v4 v5 v6 v7 v8 v9 v10 v11 v12 : D) : keysIn KL5 (((⟨⟨[97]⟩⟩ : Str), v0) :: ((⟨⟨[98]⟩⟩ : Str), v1) :: ((⟨⟨[109, 97, 120, 95, 99, 111, 115, 116]⟩⟩ : Str), v2) :: ((⟨⟨[112, 114, 101]⟩⟩ : Str), v3) :: ((⟨⟨[112, 111, 115, 116]⟩⟩ : Str), v4) :: ((⟨⟨[114, 111, 119]⟩⟩ : Str), v5) :: ((⟨⟨[114, 101, 115, 117, 108, 116]⟩⟩ : Str), v6) :: ((⟨⟨[98, 105, 110, 100, 101, 120]⟩⟩ : Str), v7) :: ((⟨⟨[98, 99, 104, 97, 114]⟩⟩ : Str), v8) :: ((⟨⟨[100, 105, 115, 116, 97, 110, 99, 101]⟩⟩ : Str), v9) :: ((⟨⟨[109, 105, 110, 105, 109, 117, 109]⟩⟩ : Str), v10) :: ((⟨⟨[105, 110, 100, 101, 120]⟩⟩ : Str), v11) :: ((⟨⟨[115, 117, 98, 115, 116, 105, 116, 117, 116, 101]⟩⟩ : Str), v12) :: []) = true := Eq.trans rfl rfl
@[local simp] theorem p5_12 (d v0 v1 v2 v3 v4 v5 v6 v7 v8 v9 v10 v11 v12 : D) (r : Vars) : setV (⟨⟨[115, 117, 98, 115, 116, 105, 116, 117, 116, 101]⟩⟩ : Str) d (((⟨⟨[97]⟩⟩ : Str), v0) :: ((⟨⟨[98]⟩⟩ : Str), v1) :: ((⟨⟨[109, 97, 120, 95, 99, 111, 115, 116]⟩⟩ : Str), v2) :: ((⟨⟨[112, 114, 101]⟩⟩ : Str), v3) :: ((⟨⟨[112, 111, 115, 116]⟩⟩ : Str), v4) :: ((⟨⟨[114, 111, 119]⟩⟩ : Str), v5) :: ((⟨⟨[114, 101, 115, 117, 108, 116]⟩⟩ : Str), v6) :: ((⟨⟨[98, 105, 110, 100, 101, 120]⟩⟩ : Str), v7) :: ((⟨⟨[98, 99, 104, 97, 114]⟩⟩ : Str), v8) :: ((⟨⟨[100, 105, 115, 116, 97, 110, 99, 101]⟩⟩ : Str), v9) :: ((⟨⟨[109, 105, 110, 105, 109, 117, 109]⟩⟩ : Str), v10) :: ((⟨⟨[105, 110, 100, 101, 120]⟩⟩ : Str), v11) :: ((⟨⟨[115, 117, 98, 115, 116, 105, 116, 117, 116, 101]⟩⟩ : Str), v12) :: r) = ((⟨⟨[97]⟩⟩ : Str), v0) :: ((⟨⟨[98]⟩⟩ : Str), v1) :: ((⟨⟨[109, 97, 120, 95, 99, 111, 115, 116]⟩⟩ : Str), v2) :: ((⟨⟨[112, 114, 101]⟩⟩ : Str), v3) :: ((⟨⟨[112, 111, 115, 116]⟩⟩ : Str), v4) :: ((⟨⟨[114, 111, 119]⟩⟩ : Str), v5) :: ((⟨⟨[114, 101, 115, 117, 108, 116]⟩⟩ : Str), v6) :: ((⟨⟨[98, 105, 110, 100, 101, 120]⟩⟩ : Str), v7) :: ((⟨⟨[98, 99, 104, 97, 114]⟩⟩ : Str), v8) :: ((⟨⟨[100, 105, 115, 116, 97, 110, 99, 101]⟩⟩ : Str), v9) :: ((⟨⟨[109, 105, 110, 105, 109, 117, 109]⟩⟩ : Str), v10) :: ((⟨⟨[105, 110, 100, 101, 120]⟩⟩ : Str), v11) :: ((⟨⟨[115, 117, 98, 115, 116, 105, 116, 117, 116, 101]⟩⟩ : Str), d) :: r := rfl
@[local simp] theorem a5_12 (d : D) (v0 v1 v2 v3 v4 v5 v6 v7 v8 v9 v10 v11 : D) : setV (⟨⟨[115, 117, 98, 115, 116, 105, 116, 117, 116, 101]⟩⟩ : Str) d [((⟨⟨[97]⟩⟩ : Str), v0), ((⟨⟨[98]⟩⟩ : Str), v1), ((⟨⟨[109, 97, 120, 95, 99, 111, 115, 116]⟩⟩ : Str), v2), ((⟨⟨[112, 114, 101]⟩⟩ : Str), v3), ((⟨⟨[112, 111, 115, 116]⟩⟩ : Str), v4), ((⟨⟨[114, 111, 119]⟩⟩ : Str), v5), ((⟨⟨[114, 101, 115, 117, 108, 116]⟩⟩ : Str), v6), ((⟨⟨[98, 105, 110, 100, 101, 120]⟩⟩ : Str), v7), ((⟨⟨[98, 99, 104, 97, 114]⟩⟩ : Str), v8), ((⟨⟨[100, 105, 115, 116, 97, 110, 99, 101]⟩⟩ : Str), v9), ((⟨⟨[109, 105, 110, 105, 109, 117, 109]⟩⟩ : Str), v10), ((⟨⟨[105, 110, 100, 101, 120]⟩⟩ : Str), v11)] = [((⟨⟨[97]⟩⟩ : Str), v0), ((⟨⟨[98]⟩⟩ : Str), v1), ((⟨⟨[109, 97, 120, 95, 99, 111, 115, 116]⟩⟩ : Str), v2), ((⟨⟨[112, 114, 101]⟩⟩ : Str), v3), ((⟨⟨[112, 111, 115, 116]⟩⟩ : Str), v4), ((⟨⟨[114, 111, 119]⟩⟩ : Str), v5), ((⟨⟨[114, 101, 115, 117, 108, 116]⟩⟩ : Str), v6), ((⟨⟨[98, 105, 110, 100, 101, 120]⟩⟩ : Str), v7), ((⟨⟨[98, 99, 104, 97, 114]⟩⟩ : Str), v8), ((⟨⟨[100, 105, 115, 116, 97, 110, 99, 101]⟩⟩ : Str), v9), ((⟨⟨[109, 105, 110, 105, 109, 117, 109]⟩⟩ : Str), v10), ((⟨⟨[105, 110, 100, 101, 120]⟩⟩ : Str), v11), ((⟨⟨[115, 117, 98, 115, 116, 105, 116, 117, 116, 101]⟩⟩ : Str), d)] := rfl
@[local simp] theorem l5_13 (v0 v1 v2 v3 v4 v5 v6 v7 v8 v9 v10 v11 v12 v13 : D) (r : Vars) : List.lookup (⟨⟨[105, 110, 115, 101, 114, 116, 95, 100, 101, 108, 101, 116, 101]⟩⟩ : Str) (((⟨⟨[97]⟩⟩ : Str), v0) :: ((⟨⟨[98]⟩⟩ : Str), v1) :: ((⟨⟨[109, 97, 120, 95, 99, 111, 115, 116]⟩⟩ : Str), v2) :: ((⟨⟨[112, 114, 101]⟩⟩ : Str), v3) :: ((⟨⟨[112, 111, 115, 116]⟩⟩ : Str), v4) :: ((⟨⟨[114, 111, 119]⟩⟩ : Str), v5) :: ((⟨⟨[114, 101, 115, 117, 108, 116]⟩⟩ : Str), v6) :: ((⟨⟨[98, 105, 110, 100, 101, 120]⟩⟩ : Str), v7) :: ((⟨⟨[98, 99, 104, 97, 114]⟩⟩ : Str), v8) :: ((⟨⟨[100, 105, 115, 116, 97, 110, 99, 101]⟩⟩ : Str), v9) :: ((⟨⟨[109, 105, 110, 105, 109, 117, 109]⟩⟩ : Str), v10) :: ((⟨⟨[105, 110, 100, 101, 120]⟩⟩ : Str), v11) :: ((⟨⟨[115, 117, 98, 115, 116, 105, 116, 117, 116, 101]⟩⟩ : Str), v12) :: ((⟨⟨[105, 110, 115, 101, 114, 116, 95, 100, 101, 108, 101, 116, 101]⟩⟩ : Str), v13) :: r) = some v13 := rfl
@[local simp] theorem k5_13 (v0 v1 v2 v3 v4 v5 v6 v7 v8 v9 v10 v11 v12 v13 : D) : keysIn KL5 (((⟨⟨[97]⟩⟩ : Str), v0) :: ((⟨⟨[98]⟩⟩ : Str), v1) :: ((⟨⟨[109, 97, 120, 95, 99, 111, 115, 116]⟩⟩ : Str), v2) :: ((⟨⟨[112, 114, 101]⟩⟩ : Str), v3) :: ((⟨⟨[112, 111, 115, 116]⟩⟩ : Str), v4) :: ((⟨⟨[114, 111, 119]⟩⟩ : Str), v5) :: ((⟨⟨[114, 101, 115, 117, 108, 116]⟩⟩ : Str), v6) :: ((⟨⟨[98, 105, 110, 100, 101, 120]⟩⟩ : Str), v7) :: ((⟨⟨[98, 99, 104, 97, 114]⟩⟩ : Str), v8) :: ((⟨⟨[100, 105, 115, 116, 97, 110, 99, 101]⟩⟩ : Str), v9) :: ((⟨⟨[109, 105, 110, 105, 109, 117, 109]⟩⟩ : Str), v10) :: ((⟨⟨[105, 110, 100, 101, 120]⟩⟩ : Str), v11) :: ((⟨⟨[115, 117, 98, 115, 116, 105, 116, 117, 116, 101]⟩⟩ : Str), v12) :: ((⟨⟨[105, 110, 115, 101, 114, 116, 95, 100, 101, 108, 101, 116, 101]⟩⟩ : Str), v13) :: []) = true := Eq.trans rfl rfl
@[local simp] theorem p5_13 (d v0 v1 v2 v3 v4 v5 v6 v7 v8 v9 v10 v11 v12 v13 : D) (r : Vars) : setV (⟨⟨[105, 110, 115, 101, 114, 116, 95, 100, 101, 108, 101, 116, 101]⟩⟩ : Str) d (((⟨⟨[97]⟩⟩ : Str), v0) :: ((⟨⟨[98]⟩⟩ : Str), v1) :: ((⟨⟨[109, 97, 120, 95, 99, 111, 115, 116]⟩⟩ : Str), v2) :: ((⟨⟨[112, 114, 101]⟩⟩ : Str), v3) :: ((⟨⟨[112, 111, 115, 116]⟩⟩ : Str), v4) :: ((⟨⟨[114, 111, 119]⟩⟩ : Str), v5) :: ((⟨⟨[114, 101, 115, 117, 108, 116]⟩⟩ : Str), v6) :: ((⟨⟨[98, 105, 110, 100, 101, 120]⟩⟩ : Str), v7) :: ((⟨⟨[98, 99, 104, 97, 114]⟩⟩ : Str), v8) :: ((⟨⟨[100, 105, 115, 116, 97, 110, 99, 101]⟩⟩ : Str), v9) :: ((⟨⟨[109, 105, 110, 105, 109, 117, 109]⟩⟩ : Str), v10) :: ((⟨⟨[105, 110, 100, 101, 120]⟩⟩ : Str), v11) :: ((⟨⟨[115, 117, 98, 115, 116, 105, 116, 117, 116, 101]⟩⟩ : Str), v12) :: ((⟨⟨[105, 110, 115, 101, 114, 116, 95, 100, 101, 108, 101, 116, 101]⟩⟩ : Str), v13) :: r) = ((⟨⟨[97]⟩⟩ : Str), v0) :: ((⟨⟨[98]⟩⟩ : Str), v1) :: ((⟨⟨[109, 97, 120, 95, 99, 111, 115, 116]⟩⟩ : Str), v2) :: ((⟨⟨[112, 114, 101]⟩⟩ : Str), v3) :: ((⟨⟨[112, 111, 115, 116]⟩⟩ : Str), v4) :: ((⟨⟨[114, 111, 119]⟩⟩ : Str), v5) :: ((⟨⟨[114, 101, 115, 117, 108, 116]⟩⟩ : Str), v6) :: ((⟨⟨[98, 105, 110, 100, 101, 120]⟩⟩ : Str), v7) :: ((⟨⟨[98, 99, 104, 97, 114]⟩⟩ : Str), v8) :: ((⟨⟨[100, 105, 115, 116, 97, 110, 99, 101]⟩⟩ : Str), v9) :: ((⟨⟨[109, 105, 110, 105, 109, 117, 109]⟩⟩ : Str), v10) :: ((⟨⟨[105, 110, 100, 101, 120]⟩⟩ : Str), v11) :: ((⟨⟨[115, 117, 98, 115, 116, 105, 116, 117, 116, 101]⟩⟩ : Str), v12) :: ((⟨⟨[105, 110, 115, 101, 114, 116, 95, 100, 101, 108, 101, 116, 101]⟩⟩ : Str), d) :: r := rfl
@[local simp] theorem a5_13 (d : D) (v0 v1 v2 v3 v4 v5 v6 v7 v8 v9 v10 v11 v12 : D) : setV (⟨⟨[105, 110, 115, 101, 114, 116, 95, 100, 101, 108, 101, 116, 101]⟩⟩ : Str) d [((⟨⟨[97]⟩⟩ : Str), v0), ((⟨⟨[98]⟩⟩ : Str), v1), ((⟨⟨[109, 97, 120, 95, 99, 111, 115, 116]⟩⟩ : Str), v2), ((⟨⟨[112, 114, 101]⟩⟩ : Str), v3), ((⟨⟨[112, 111, 115, 116]⟩⟩ : Str), v4), ((⟨⟨[114, 111, 119]⟩⟩ : Str), v5), ((⟨⟨[114, 101, 115, 117, 108, 116]⟩⟩ : Str), v6), ((⟨⟨[98, 105, 110, 100, 101, 120]⟩⟩ : Str), v7), ((⟨⟨[98, 99, 104, 97, 114]⟩⟩ : Str), v8), ((⟨⟨[100, 105, 115, 116, 97, 110, 99, 101]⟩⟩ : Str), v9), ((⟨⟨[109, 105, 110, 105, 109, 117, 109]⟩⟩ : Str), v10), ((⟨⟨[105, 110, 100, 101, 120]⟩⟩ : Str), v11), ((⟨⟨[115, 117, 98, 115, 116, 105, 116, 117, 116, 101]⟩⟩ : Str), v12)] = [((⟨⟨[97]⟩⟩ : Str), v0), ((⟨⟨[98]⟩⟩ : Str), v1), ((⟨⟨[109, 97, 120, 95, 99, 111, 115, 116]⟩⟩ : Str), v2), ((⟨⟨[112, 114, 101]⟩⟩ : Str), v3), ((⟨⟨[112, 111, 115, 116]⟩⟩ : Str), v4), ((⟨⟨[114, 111, 119]⟩⟩ : Str), v5), ((⟨⟨[114, 101, 115, 117, 108, 116]⟩⟩ : Str), v6), ((⟨⟨[98, 105, 110, 100, 101, 120]⟩⟩ : Str), v7), ((⟨⟨[98, 99, 104, 97, 114]⟩⟩ : Str), v8), ((⟨⟨[100, 105, 115, 116, 97, 110, 99, 101]⟩⟩ : Str), v9), ((⟨⟨[109, 105, 110, 105, 109, 117, 109]⟩⟩ : Str), v10), ((⟨⟨[105, 110, 100, 101, 120]⟩⟩ : Str), v11), ((⟨⟨[115, 117, 98, 115, 116, 105, 116, 117, 116, 101]⟩⟩ : Str), v12), ((⟨⟨[105, 110, 115, 101, 114, 116, 95, 100, 101, 108, 101, 116, 101]⟩⟩ : Str), d)] := rfl
@[local simp] theorem w5_6 (d : D) : storeOk (some (⟨⟨[114, 111, 119]⟩⟩ : Str)) (⟨⟨[114, 101, 115, 117, 108, 116]⟩⟩ : Str) d = scalarD d := rfl
@[local simp] theorem w5_8 (d : D) : storeOk (some (⟨⟨[114, 111, 119]⟩⟩ : Str)) (⟨⟨[98, 99, 104, 97, 114]⟩⟩ : Str) d = scalarD d := rfl
@[local simp] theorem w5_9 (d : D) : storeOk (some (⟨⟨[114, 111, 119]⟩⟩ : Str)) (⟨⟨[100, 105, 115, 116, 97, 110, 99, 101]⟩⟩ : Str) d = scalarD d := rfl
@[local simp] theorem w5_10 (d : D) : storeOk (some (⟨⟨[114, 111, 119]⟩⟩ : Str)) (⟨⟨[109, 105, 110, 105, 109, 117, 109]⟩⟩ : Str) d = scalarD d := rfl
@[local simp] theorem w5_12 (d : D) : storeOk (some (⟨⟨[114, 111, 119]⟩⟩ : Str)) (⟨⟨[115, 117, 98, 115, 116, 105, 116, 117, 116, 101]⟩⟩ : Str) d = scalarD d := rfl
@[local simp] theorem w5_13 (d : D) : storeOk (some (⟨⟨[114, 111, 119]⟩⟩ : Str)) (⟨⟨[105, 110, 115, 101, 114, 116, 95, 100, 101, 108, 101, 116, 101]⟩⟩ : Str) d = scalarD d := rfl
@[local simp] theorem e5_0 : ((⟨⟨[97]⟩⟩ : Str) == (⟨⟨[98]⟩⟩ : Str)) = false := Eq.trans rfl rfl

noncomputable def forB (l : List Stmt) : List Stmt := (l.map (stmtAlt [] (fun _ _ _ => []) id)).headD []
noncomputable def innB : List Stmt := forB ((forB ((fnAt 5).2.2.drop 15)).drop 3)

set_option maxHeartbeats 4000000 in
theorem inner_turn {T : Tabs} (hb : T.bi = biV) (hg : T.gl = glD) (S L : List Nat) (m p s0 : Int) (hS : S.length ≤ 40) (hs : ∀ x ∈ L ++ S, ∀ y ∈ L ++ S, T.fn (⟨⟨[95, 115, 117, 98, 115, 116, 105, 116, 117, 116, 105, 111, 110, 95, 99, 111, 115, 116]⟩⟩ : Str) [.str [x], .str [y]] = some (.int (if x = y then 0 else 2))) {j : Nat} (hj : j < L.length) (q : Pos) :
    ∀ (a : (List Int × Int × Int × Int) × Option (Nat × Int × Int)) (i : Nat) (l' : List Nat), ((∀ y ∈ i :: l', y < S.length) ∧ a.1.1.length = S.length) →
      (assignD (fnAt 5).2.1 (.Name (⟨⟨[105, 110, 100, 101, 120]⟩⟩ : Str) q) (D.int (i : Int)) (ist (((⟨⟨[97]⟩⟩ : Str), D.str S) :: ((⟨⟨[98]⟩⟩ : Str), D.str L) :: ((⟨⟨[109, 97, 120, 95, 99, 111, 115, 116]⟩⟩ : Str), D.int m) :: ((⟨⟨[112, 114, 101]⟩⟩ : Str), D.int p) :: ((⟨⟨[112, 111, 115, 116]⟩⟩ : Str), D.int s0) :: []) j L[j] a)).bind (forRun T (ev T 30) 60 18 (fnAt 5).2.1 innB (some (⟨⟨[114, 111, 119]⟩⟩ : Str))) = some (.next (some (⟨⟨[114, 111, 119]⟩⟩ : Str)) (ist (((⟨⟨[97]⟩⟩ : Str), D.str S) :: ((⟨⟨[98]⟩⟩ : Str), D.str L) :: ((⟨⟨[109, 97, 120, 95, 99, 111, 115, 116]⟩⟩ : Str), D.int m) :: ((⟨⟨[112, 114, 101]⟩⟩ : Str), D.int p) :: ((⟨⟨[112, 111, 115, 116]⟩⟩ : Str), D.int s0) :: []) j L[j] (inX S L[j] a i))) ∧
      ((∀ y ∈ l', y < S.length) ∧ (inX S L[j] a i).1.1.length = S.length) := by
  rintro ⟨⟨rr, d, r, mn⟩, o⟩ i l' ⟨h3, h4⟩
  have hbi : T.bi (⟨⟨[95, 115, 117, 98, 115, 116, 105, 116, 117, 116, 105, 111, 110, 95, 99, 111, 115, 116]⟩⟩ : Str) = none := by rw [hb, ← nm16]; rfl
  have hzS : S.length ≤ 16777216 := by omega
  generalize ghbd : innB = bd
  have hbd : ?lhbd = bd := ?qhbd
  have chbd : innB = innB := rfl
  conv at chbd =>
    lhs
    cbv
  change ?lhbd = _ at chbd
  case qhbd => exact Eq.trans rfl ghbd
  clear chbd ghbd
  subst hbd
  have hi := h3 i (List.mem_cons_self ..)
  simp only at h4
  have si : i < 536870912 := by omega
  have ii : itemD (.str S) (i : Int) = some (.str [S[i]]) := item_str (seqIndex_pos (by omega) (by omega)) (small_of (by omega)) _ (by simp [hi])
  have ir : itemD (.list (rr.map .int)) (i : Int) = some (.int (rr.getD i 0)) := item_ints (l := rr) (i := (i : Int)) (by omega) (by omega) (by omega)
  have hc : (if L[j] = S[i] then (0 : Int) else 2) = (if S[i]? = some L[j] then 0 else 2) := by simp [hi, eq_comm]
  have hsub := hs L[j] (List.mem_append.mpr (.inl (List.getElem_mem hj))) S[i] (List.mem_append.mpr (.inr (List.getElem_mem hi)))
  rw [hc] at hsub
  have irr : i < rr.length := by omega
  refine ⟨?_, fun y hy => h3 y (List.mem_cons_of_mem _ hy), by simp [inX, inF, h4]⟩
  unfold inX
  rw [inF_eq]
  simp only [subV, ilV]
  generalize (if S[i]? = some L[j] then (0 : Int) else 2) = cst at hsub ⊢
  generalize rr.getD i 0 = rv at ir ⊢
  by_cases hm : (if d + cst < (if rv < r then rv else r) + 2 then d + cst else (if rv < r then rv else r) + 2) < mn
  · cases o <;> simp [-Option.bind_some, smallI, bindR, r_nil, r_cons, c_next, c_ret, y_if, y_assign, y_ret, forRun, hb, hg, hbi, ist, hzS, si, ii, ir, hsub, irr, hm]
  · cases o <;> simp [-Option.bind_some, smallI, bindR, r_nil, r_cons, c_next, c_ret, y_if, y_assign, y_ret, forRun, hb, hg, hbi, ist, hzS, si, ii, ir, hsub, irr, hm]

set_option maxHeartbeats 4000000 in
theorem dp_ok {T : Tabs} (hb : T.bi = biV) (hg : T.gl = glD) (hgn : ∀ ds, T.gn (⟨⟨[114, 97, 110, 103, 101]⟩⟩ : Str) ds = none) (S L : List Nat) (m p s0 : Int) (hS : S.length ≤ 40) (hL : L.length ≤ 40) (hs : ∀ x ∈ L ++ S, ∀ y ∈ L ++ S, T.fn (⟨⟨[95, 115, 117, 98, 115, 116, 105, 116, 117, 116, 105, 111, 110, 95, 99, 111, 115, 116]⟩⟩ : Str) [.str [x], .str [y]] = some (.int (if x = y then 0 else 2))) :
    retOf (runL (evX T (ev T 30) 60 20) (fnAt 5).2.1 none [((⟨⟨[97]⟩⟩ : Str), D.str S), ((⟨⟨[98]⟩⟩ : Str), D.str L), ((⟨⟨[109, 97, 120, 95, 99, 111, 115, 116]⟩⟩ : Str), D.int m), ((⟨⟨[112, 114, 101]⟩⟩ : Str), D.int p), ((⟨⟨[112, 111, 115, 116]⟩⟩ : Str), D.int s0)] ((fnAt 5).2.2.drop 13)) = some (.int (dpP 9223372036854775807 S L m)) := by
  have hbi : T.bi (⟨⟨[95, 115, 117, 98, 115, 116, 105, 116, 117, 116, 105, 111, 110, 95, 99, 111, 115, 116]⟩⟩ : Str) = none := by rw [hb, ← nm16]; rfl
  have hbl : (T.bi (⟨⟨[108, 105, 115, 116]⟩⟩ : Str) == some (.type "list")) = true := by rw [hb]; decide +kernel
  have hzS : S.length ≤ 16777216 := by omega
  have hzL : L.length ≤ 16777216 := by omega
  generalize ghbd : (fnAt 5).2.2.drop 13 = bd
  have hbd : ?lhbd = bd := ?qhbd
  have chbd : (fnAt 5).2.2.drop 13 = (fnAt 5).2.2.drop 13 := rfl
  conv at chbd =>
    lhs
    cbv
  change ?lhbd = _ at chbd
  case qhbd => exact Eq.trans rfl ghbd
  clear chbd ghbd
  generalize (9223372036854775807 : Int) = M at hbd ⊢
  subst hbd
  have r2 : rangeOk 2 (2 * ((S.length : Int) + 1)) 2 = true := by
    unfold rangeOk
    rw [small_of (i := 2) (by decide), small_of (i := 2 * ((S.length : Int) + 1)) (by omega)]
    rfl
  have r1 : rangeOk 0 (L.length : Int) 1 = true := by
    unfold rangeOk
    rw [small_of (i := 0) (by decide), small_of (i := 1) (by decide), small_of (i := (L.length : Int)) (by omega)]
    rfl
  have r0 : rangeOk 0 (S.length : Int) 1 = true := by
    unfold rangeOk
    rw [small_of (i := 0) (by decide), small_of (i := 1) (by decide), small_of (i := (S.length : Int)) (by omega)]
    rfl
  have sz2 : Builtin.Range.rangeSize 2 (2 * ((S.length : Int) + 1)) 2 ≤ 16777216 := by rw [size_2]; omega
  have sL : L.length < 536870912 := by omega
  have sS : S.length < 536870912 := by omega
  simp [-Option.bind_some, smallI, bindR, r_nil, r_cons, c_next, c_ret, y_if, y_assign, y_ret, hb, hg, hgn, hbl, hzS, hzL, r2, r1, sz2, rangeL_2, rangeL_1, sL, sS]
  rw [← List.map_map (f := fun (i : Nat) => 2 + (i : Int) * 2)]
  refine retBindM (runF_foldR (st := fun (a : (List Int × Int) × Option (Nat × Nat × Int × Int × Option (Nat × Int × Int))) => [((⟨⟨[97]⟩⟩ : Str), D.str S), ((⟨⟨[98]⟩⟩ : Str), D.str L), ((⟨⟨[109, 97, 120, 95, 99, 111, 115, 116]⟩⟩ : Str), D.int m), ((⟨⟨[112, 114, 101]⟩⟩ : Str), D.int p), ((⟨⟨[112, 111, 115, 116]⟩⟩ : Str), D.int s0), ((⟨⟨[114, 111, 119]⟩⟩ : Str), D.list (a.1.1.map D.int)), ((⟨⟨[114, 101, 115, 117, 108, 116]⟩⟩ : Str), D.int a.1.2)] ++
        (a.2.toList.flatMap fun e => [((⟨⟨[98, 105, 110, 100, 101, 120]⟩⟩ : Str), D.int (e.1 : Nat)), ((⟨⟨[98, 99, 104, 97, 114]⟩⟩ : Str), D.str [e.2.1]), ((⟨⟨[100, 105, 115, 116, 97, 110, 99, 101]⟩⟩ : Str), D.int e.2.2.1), ((⟨⟨[109, 105, 110, 105, 109, 117, 109]⟩⟩ : Str), D.int e.2.2.2.1)] ++ (e.2.2.2.2.toList.flatMap fun u => [((⟨⟨[105, 110, 100, 101, 120]⟩⟩ : Str), D.int (u.1 : Nat)), ((⟨⟨[115, 117, 98, 115, 116, 105, 116, 117, 116, 101]⟩⟩ : Str), D.int u.2.1), ((⟨⟨[105, 110, 115, 101, 114, 116, 95, 100, 101, 108, 101, 116, 101]⟩⟩ : Str), D.int u.2.2)])))
      (f := outX M S L m) (enc := fun (j : Nat) => D.int (j : Int)) (r := .int (m + 1)) (I := fun l a => (∀ j ∈ l, j < L.length) ∧ a.1.1.length = S.length) (fun _ => ⟨rfl, rfl⟩) ?_ ?_ (List.range L.length) (((List.range S.length).map fun (i : Nat) => 2 + (i : Int) * 2, 0), none) ⟨fun j hj => by simpa using hj, by simp⟩) ?_ ?_
  · decide +kernel
  · rintro ⟨⟨row, res⟩, e⟩ j l ⟨h1, h2⟩
    have hj := h1 j (List.mem_cons_self ..)
    simp only at h2
    have ij : itemD (.str L) (j : Int) = some (.str [L[j]]) := item_str (seqIndex_pos (by omega) (by omega)) (small_of (by omega)) _ (by simp [hj])
    refine ⟨?_, ?_⟩
    · have sj : j < 536870912 := by omega
      rcases e with _ | ⟨bi, bc, ds, mn, _ | ⟨ix, sb, il⟩⟩
      · simp [-Option.bind_some, smallI, bindR, r_nil, r_cons, c_next, c_ret, y_if, y_assign, y_ret, forRun, hb, hg, hgn, hzS, hzL, ij, r0, rangeL_1, sS, sj]
        refine bindNext (runF_fold (st := ist (((⟨⟨[97]⟩⟩ : Str), D.str S) :: ((⟨⟨[98]⟩⟩ : Str), D.str L) :: ((⟨⟨[109, 97, 120, 95, 99, 111, 115, 116]⟩⟩ : Str), D.int m) :: ((⟨⟨[112, 114, 101]⟩⟩ : Str), D.int p) :: ((⟨⟨[112, 111, 115, 116]⟩⟩ : Str), D.int s0) :: []) j L[j]) (f := inX S L[j]) (enc := fun (i : Nat) => D.int (i : Int)) (I := fun l s => (∀ i ∈ l, i < S.length) ∧ s.1.1.length = S.length) (fun _ => ⟨rfl, rfl⟩) ?_ (inner_turn hb hg S L m p s0 hS hs hj _) (List.range S.length) ((row, (j : Int) * 2, (j : Int) * 2, M), none) ⟨fun i hi => by simpa using hi, h2⟩) ?_
        · decide +kernel
        · have gd : L.getD j 0 = L[j] := by simp [hj]
          unfold outX
          simp only [gd, Option.bind_none, Option.bind]
          generalize (List.range S.length).foldl (inX S L[j]) _ = t
          obtain ⟨⟨rr, d, r, mn'⟩, o⟩ := t
          by_cases hx : m < mn'
          · simp [-Option.bind_some, smallI, bindR, r_nil, r_cons, c_next, c_ret, y_if, y_assign, y_ret, hb, hg, ist, hx]
          · simp [-Option.bind_some, smallI, bindR, r_nil, r_cons, c_next, c_ret, y_if, y_assign, y_ret, hb, hg, ist, hx]
      · simp [-Option.bind_some, smallI, bindR, r_nil, r_cons, c_next, c_ret, y_if, y_assign, y_ret, forRun, hb, hg, hgn, hzS, hzL, ij, r0, rangeL_1, sS, sj]
        refine bindNext (runF_fold (st := ist (((⟨⟨[97]⟩⟩ : Str), D.str S) :: ((⟨⟨[98]⟩⟩ : Str), D.str L) :: ((⟨⟨[109, 97, 120, 95, 99, 111, 115, 116]⟩⟩ : Str), D.int m) :: ((⟨⟨[112, 114, 101]⟩⟩ : Str), D.int p) :: ((⟨⟨[112, 111, 115, 116]⟩⟩ : Str), D.int s0) :: []) j L[j]) (f := inX S L[j]) (enc := fun (i : Nat) => D.int (i : Int)) (I := fun l s => (∀ i ∈ l, i < S.length) ∧ s.1.1.length = S.length) (fun _ => ⟨rfl, rfl⟩) ?_ (inner_turn hb hg S L m p s0 hS hs hj _) (List.range S.length) ((row, (j : Int) * 2, (j : Int) * 2, M), none) ⟨fun i hi => by simpa using hi, h2⟩) ?_
        · decide +kernel
        · have gd : L.getD j 0 = L[j] := by simp [hj]
          unfold outX
          simp only [gd, Option.bind_none, Option.bind]
          generalize (List.range S.length).foldl (inX S L[j]) _ = t
          obtain ⟨⟨rr, d, r, mn'⟩, o⟩ := t
          by_cases hx : m < mn'
          · simp [-Option.bind_some, smallI, bindR, r_nil, r_cons, c_next, c_ret, y_if, y_assign, y_ret, hb, hg, ist, hx]
          · simp [-Option.bind_some, smallI, bindR, r_nil, r_cons, c_next, c_ret, y_if, y_assign, y_ret, hb, hg, ist, hx]
      · simp [-Option.bind_some, smallI, bindR, r_nil, r_cons, c_next, c_ret, y_if, y_assign, y_ret, forRun, hb, hg, hgn, hzS, hzL, ij, r0, rangeL_1, sS, sj]
        refine bindNext (runF_fold (st := ist (((⟨⟨[97]⟩⟩ : Str), D.str S) :: ((⟨⟨[98]⟩⟩ : Str), D.str L) :: ((⟨⟨[109, 97, 120, 95, 99, 111, 115, 116]⟩⟩ : Str), D.int m) :: ((⟨⟨[112, 114, 101]⟩⟩ : Str), D.int p) :: ((⟨⟨[112, 111, 115, 116]⟩⟩ : Str), D.int s0) :: []) j L[j]) (f := inX S L[j]) (enc := fun (i : Nat) => D.int (i : Int)) (I := fun l s => (∀ i ∈ l, i < S.length) ∧ s.1.1.length = S.length) (fun _ => ⟨rfl, rfl⟩) ?_ (inner_turn hb hg S L m p s0 hS hs hj _) (List.range S.length) ((row, (j : Int) * 2, (j : Int) * 2, M), some (ix, sb, il)) ⟨fun i hi => by simpa using hi, h2⟩) ?_
        · decide +kernel
        · have gd : L.getD j 0 = L[j] := by simp [hj]
          unfold outX
          simp only [gd, Option.bind_none, Option.bind]
          generalize (List.range S.length).foldl (inX S L[j]) _ = t
          obtain ⟨⟨rr, d, r, mn'⟩, o⟩ := t
          by_cases hx : m < mn'
          · simp [-Option.bind_some, smallI, bindR, r_nil, r_cons, c_next, c_ret, y_if, y_assign, y_ret, hb, hg, ist, hx]
          · simp [-Option.bind_some, smallI, bindR, r_nil, r_cons, c_next, c_ret, y_if, y_assign, y_ret, hb, hg, ist, hx]
    · intro a' ha'
      refine ⟨fun y hy => h1 y (List.mem_cons_of_mem _ hy), ?_⟩
      unfold outX at ha'
      simp only at ha'
      split at ha'
      · cases ha'
      · cases ha'
        exact (inX_len S _ _ _).trans h2
  · intro a ha
    have e := outX_fold M S L m (List.range L.length) ((List.range S.length).map fun (i : Nat) => 2 + (i : Int) * 2, 0) none
    rw [ha] at e
    unfold dpP
    rw [← e]
    obtain ⟨⟨rr, res⟩, o⟩ := a
    rcases o with _ | ⟨bi, bc, ds, mn, _ | ⟨ix, sb, il⟩⟩ <;> simp [-Option.bind_some, smallI, bindR, r_nil, r_cons, c_next, c_ret, y_if, y_assign, y_ret, hb, hg, retOf]
  · intro ha
    have e := outX_fold M S L m (List.range L.length) ((List.range S.length).map fun (i : Nat) => 2 + (i : Int) * 2, 0) none
    rw [ha] at e
    unfold dpP
    rw [← e]
    simp [contL_ret, retOf]

theorem le24 {n : Nat} (h : n ≤ 40) : n ≤ 16777216 := Nat.le_trans h (by decide)
theorem sub24 {n j : Nat} (h : n ≤ 40) : n - j ≤ 16777216 := le24 (Nat.le_trans (Nat.sub_le ..) h)
theorem not40 {n : Nat} (h : n ≤ 40) : ¬ (40 : Int) < (n : Int) := by omega
theorem subAbs {a b : Nat} (h : a ≤ 40) (h' : b ≤ 40) : ((a : Int) - b).natAbs < 536870912 := by omega

set_option maxHeartbeats 4000000 in
theorem lev_ok {T : Tabs} (hb : T.bi = biV) (hg : T.gl = glD) (hgn : ∀ ds, T.gn (⟨⟨[114, 97, 110, 103, 101]⟩⟩ : Str) ds = none) (a b : List Nat) (m : Int) (ha : a.length ≤ 40) (hbl : b.length ≤ 40) (hs : ∀ x ∈ b ++ a, ∀ y ∈ b ++ a, T.fn (⟨⟨[95, 115, 117, 98, 115, 116, 105, 116, 117, 116, 105, 111, 110, 95, 99, 111, 115, 116]⟩⟩ : Str) [.str [x], .str [y]] = some (.int (if x = y then 0 else 2))) :
    callF T 5 [.str a, .str b, .int m] = some (.int (levP 9223372036854775807 a b m)) := by
  have hz : a.length ≤ 16777216 := le24 ha
  have hz' : b.length ≤ 16777216 := le24 hbl
  have hbi : T.bi (⟨⟨[95, 115, 117, 98, 115, 116, 105, 116, 117, 116, 105, 111, 110, 95, 99, 111, 115, 116]⟩⟩ : Str) = none := by rw [hb, ← nm16]; rfl
  unfold callF callX
  generalize ghps : (fnAt 5).1 = ps
  have hps : ?lhps = ps := ?qhps
  have chps : (fnAt 5).1 = (fnAt 5).1 := rfl
  conv at chps =>
    lhs
    cbv
  change ?lhps = _ at chps
  case qhps => exact Eq.trans rfl ghps
  clear chps ghps
  generalize ghbd : (fnAt 5).2.2 = bd
  have hbd : ?lhbd = bd := ?qhbd
  have chbd : (fnAt 5).2.2 = (fnAt 5).2.2 := rfl
  conv at chbd =>
    lhs
    cbv
  change ?lhbd = _ at chbd
  case qhbd => exact Eq.trans rfl ghbd
  clear chbd ghbd
  subst hps
  subst hbd
  by_cases hab : a = b
  · subst hab
    simp [-Option.bind_some, smallI, bindS, runL_nil, runL_cons, contL_next, contL_ret, x_whileR, z_if, x_assign, z_ret, hb, hg, hz, levP, retOf]
  · simp [-Option.bind_some, smallI, bindS, runL_nil, runL_cons, contL_next, contL_ret, x_whileR, z_if, x_assign, z_ret, hb, hg, hz, hz', hab]
    refine retBind (runW_to (st := fun j => [((⟨⟨[97]⟩⟩ : Str), D.str a), ((⟨⟨[98]⟩⟩ : Str), D.str b), ((⟨⟨[109, 97, 120, 95, 99, 111, 115, 116]⟩⟩ : Str), D.int m), ((⟨⟨[112, 114, 101]⟩⟩ : Str), D.int (j : Nat))]) (P := nextP a b) (N := cpl a b) ?_ ?_ (cpl a b) 0 60 (by omega) (fun i hi => by rw [Nat.zero_add]; exact cpl_lt a b i hi) (by rw [Nat.zero_add]; exact cpl_at a b) (by have := cpl_le a b; omega)) ?_
    · intro j hj
      have := cpl_le a b
      have s1 : sliceL (some (j : Int)) none none a = a.drop j := drop_slice' (by omega)
      have s2 : sliceL (some (j : Int)) none none b = b.drop j := drop_slice' (by omega)
      have l1 : a.length - j ≤ 16777216 := sub24 ha
      have l2 : b.length - j ≤ 16777216 := sub24 hbl
      have d1 : smallI j = true := by unfold smallI; exact decide_eq_true (by rw [show (2 : Nat) ^ 29 = 536870912 from rfl]; omega)
      by_cases c1 : j < a.length
      · by_cases c2 : j < b.length
        · have i1 : itemD (.str a) j = some (.str [a[j]]) := item_str (seqIndex_pos (by omega) (by omega)) d1 _ (by simp [c1])
          have i2 : itemD (.str b) j = some (.str [b[j]]) := item_str (seqIndex_pos (by omega) (by omega)) d1 _ (by simp [c2])
          have e1 : ¬ a.length - j = 0 := Nat.sub_ne_zero_of_lt c1
          have e2 : ¬ b.length - j = 0 := Nat.sub_ne_zero_of_lt c2
          simp [-Option.bind_some, smallI, bindS, runL_nil, runL_cons, contL_next, contL_ret, x_whileR, z_if, x_assign, z_ret, tstRun, hb, hg, hz, hz', s1, s2, l1, l2, i1, i2, e1, e2, nextP, c1, c2]
          by_cases q : a[j] = b[j] <;> simp [q]
        · have e1 : ¬ a.length - j = 0 := Nat.sub_ne_zero_of_lt c1
          have e2 : b.length - j = 0 := Nat.sub_eq_zero_of_le (Nat.not_lt.mp c2)
          simp [-Option.bind_some, smallI, bindS, runL_nil, runL_cons, contL_next, contL_ret, x_whileR, z_if, x_assign, z_ret, tstRun, hb, hg, hz, hz', s1, s2, l1, l2, e1, e2, nextP, c1, c2]
      · have e1 : a.length - j = 0 := Nat.sub_eq_zero_of_le (Nat.not_lt.mp c1)
        simp [-Option.bind_some, smallI, bindS, runL_nil, runL_cons, contL_next, contL_ret, x_whileR, z_if, x_assign, z_ret, tstRun, hb, hg, hz, hz', s1, s2, l1, l2, e1, nextP, c1]
    · intro j hj hp
      simp [-Option.bind_some, smallI, bindS, runL_nil, runL_cons, contL_next, contL_ret, x_whileR, z_if, x_assign, z_ret, forRun, hb, hg]
    · have hp := cpl_le a b
      rw [Nat.zero_add]
      unfold levP
      rw [if_neg hab]
      generalize cpl a b = p at hp ⊢
      have s1 : sliceL (some (p : Int)) none none a = a.drop p := drop_slice' hp.1
      have s2 : sliceL (some (p : Int)) none none b = b.drop p := drop_slice' hp.2
      simp [-Option.bind_some, smallI, bindS, runL_nil, runL_cons, contL_next, contL_ret, x_whileR, z_if, x_assign, z_ret, hb, hg, hz, hz', s1, s2]
      have ha1 : (a.drop p).length ≤ 40 := by simp; omega
      have hb1 : (b.drop p).length ≤ 40 := by simp; omega
      have hs1 : ∀ x ∈ b.drop p ++ a.drop p, ∀ y ∈ b.drop p ++ a.drop p, T.fn (⟨⟨[95, 115, 117, 98, 115, 116, 105, 116, 117, 116, 105, 111, 110, 95, 99, 111, 115, 116]⟩⟩ : Str) [.str [x], .str [y]] = some (.int (if x = y then 0 else 2)) := fun x hx y hy => by
        have mem : ∀ z ∈ b.drop p ++ a.drop p, z ∈ b ++ a := fun z hz => by
          rcases List.mem_append.mp hz with h | h
          · exact List.mem_append.mpr (.inl (List.mem_of_mem_drop h))
          · exact List.mem_append.mpr (.inr (List.mem_of_mem_drop h))
        exact hs x (mem x hx) y (mem y hy)
      generalize a.drop p = a1 at ha1 hs1 ⊢
      generalize b.drop p = b1 at hb1 hs1 ⊢
      clear s1 s2 hs hab hz hz' ha hbl
      have hq := cpl_le a1.reverse b1.reverse
      simp only [List.length_reverse] at hq
      refine retBind (runW_to (st := fun j => [((⟨⟨[97]⟩⟩ : Str), D.str a1), ((⟨⟨[98]⟩⟩ : Str), D.str b1), ((⟨⟨[109, 97, 120, 95, 99, 111, 115, 116]⟩⟩ : Str), D.int m), ((⟨⟨[112, 114, 101]⟩⟩ : Str), D.int (p : Nat)), ((⟨⟨[112, 111, 115, 116]⟩⟩ : Str), D.int (-(j : Nat)))]) (P := nextP a1.reverse b1.reverse) (N := cpl a1.reverse b1.reverse) ?_ ?_ (cpl a1.reverse b1.reverse) 0 60 (by omega) (fun i hi => by rw [Nat.zero_add]; exact cpl_lt _ _ i hi) (by rw [Nat.zero_add]; exact cpl_at _ _) (by omega)) ?_
      · intro j hj
        have l1 : a1.length - j ≤ 16777216 := sub24 ha1
        have l2 : b1.length - j ≤ 16777216 := sub24 hb1
        have l3 : a1.length ≤ 16777216 := le24 ha1
        have l4 : b1.length ≤ 16777216 := le24 hb1
        have d1 : smallI (-(j : Int) - 1) = true := by unfold smallI; exact decide_eq_true (by rw [show (2 : Nat) ^ 29 = 536870912 from rfl]; omega)
        have g1 : ∀ h : j < a1.length, itemD (.str a1) (-(j : Int) - 1) = some (.str [a1[a1.length - 1 - j]'(by omega)]) := fun h => item_str (k := a1.length - 1 - j) (by rw [seqIndex_neg (by omega) (by omega)]; congr 1; omega) d1 _ (by simp)
        have g2 : ∀ h : j < b1.length, itemD (.str b1) (-(j : Int) - 1) = some (.str [b1[b1.length - 1 - j]'(by omega)]) := fun h => item_str (k := b1.length - 1 - j) (by rw [seqIndex_neg (by omega) (by omega)]; congr 1; omega) d1 _ (by simp)
        have n1 : ∀ h : j < a1.length, a1.reverse[j]? = some (a1[a1.length - 1 - j]'(by omega)) := fun h => by rw [List.getElem?_reverse h]; simp
        have n2 : ∀ h : j < b1.length, b1.reverse[j]? = some (b1[b1.length - 1 - j]'(by omega)) := fun h => by rw [List.getElem?_reverse h]; simp
        have z1 : ¬ j < a1.length → a1.reverse[j]? = none := fun h => by simp; omega
        have z2 : ¬ j < b1.length → b1.reverse[j]? = none := fun h => by simp; omega
        by_cases c0 : j = 0
        · subst c0
          by_cases c1 : 0 < a1.length
          · have e1 : ¬ a1 = [] := by intro e; subst e; simp at c1
            by_cases c2 : 0 < b1.length
            · have e2 : ¬ b1 = [] := by intro e; subst e; simp at c2
              have i1 := g1 c1
              have i2 := g2 c2
              simp only [Int.natCast_zero, Int.neg_zero, Int.zero_sub, Nat.sub_zero] at i1 i2
              simp [-Option.bind_some, smallI, bindS, runL_nil, runL_cons, contL_next, contL_ret, x_whileR, z_if, x_assign, z_ret, tstRun, hb, hg, all_slice, l3, l4, i1, i2, e1, e2, nextP, n1 c1, n2 c2]
              exact beqI _ _
            · have e2 : b1 = [] := List.length_eq_zero_iff.mp (by omega)
              subst e2
              simp [-Option.bind_some, smallI, bindS, runL_nil, runL_cons, contL_next, contL_ret, x_whileR, z_if, x_assign, z_ret, tstRun, hb, hg, all_slice, l3, l4, e1, nextP]
          · have e1 : a1 = [] := List.length_eq_zero_iff.mp (by omega)
            subst e1
            simp [-Option.bind_some, smallI, bindS, runL_nil, runL_cons, contL_next, contL_ret, x_whileR, z_if, x_assign, z_ret, tstRun, hb, hg, all_slice, l3, l4, nextP]
        · have c0' : ¬ (j : Int) = 0 := by omega
          have s1 : sliceL none (some (-(j : Int))) none a1 = cutEnd a1 j := end_slice (Nat.pos_of_ne_zero c0) (by omega)
          have s2 : sliceL none (some (-(j : Int))) none b1 = cutEnd b1 j := end_slice (Nat.pos_of_ne_zero c0) (by omega)
          have t1 : (cutEnd a1 j).length = a1.length - j := by simp [cutEnd]
          have t2 : (cutEnd b1 j).length = b1.length - j := by simp [cutEnd]
          generalize cutEnd a1 j = ca at s1 t1
          generalize cutEnd b1 j = cb at s2 t2
          have u1 : ca.length ≤ 16777216 := by omega
          have u2 : cb.length ≤ 16777216 := by omega
          by_cases c1 : j < a1.length
          · have e1 : ¬ ca = [] := by intro e; rw [e] at t1; simp at t1; omega
            by_cases c2 : j < b1.length
            · have e2 : ¬ cb = [] := by intro e; rw [e] at t2; simp at t2; omega
              simp [-Option.bind_some, smallI, bindS, runL_nil, runL_cons, contL_next, contL_ret, x_whileR, z_if, x_assign, z_ret, tstRun, hb, hg, s1, s2, l3, l4, u1, u2, g1 c1, g2 c2, e1, e2, nextP, n1 c1, n2 c2, c0, c0']
              exact beqI _ _
            · have e2 : cb = [] := List.length_eq_zero_iff.mp (by omega)
              subst e2
              simp [-Option.bind_some, smallI, bindS, runL_nil, runL_cons, contL_next, contL_ret, x_whileR, z_if, x_assign, z_ret, tstRun, hb, hg, s1, s2, l3, l4, u1, e1, nextP, z2 c2, c0, c0']
          · have e1 : ca = [] := List.length_eq_zero_iff.mp (by omega)
            subst e1
            simp [-Option.bind_some, smallI, bindS, runL_nil, runL_cons, contL_next, contL_ret, x_whileR, z_if, x_assign, z_ret, tstRun, hb, hg, s1, s2, l3, l4, nextP, z1 c1, c0, c0']
      · intro j hj hp'
        simp [-Option.bind_some, smallI, bindS, runL_nil, runL_cons, contL_next, contL_ret, x_whileR, z_if, x_assign, z_ret, forRun, hb, hg]
        omega
      · rw [Nat.zero_add]
        have ca := cut_end hq.1 ha1
        have cb := cut_end hq.2 hb1
        generalize cpl a1.reverse b1.reverse = q at hq ca cb ⊢
        have lz1 : a1.length ≤ 16777216 := le24 ha1
        have lz2 : b1.length ≤ 16777216 := le24 hb1
        have ha2 : (cutEnd a1 q).length ≤ 40 := by unfold cutEnd; simp; omega
        have hb2 : (cutEnd b1 q).length ≤ 40 := by unfold cutEnd; simp; omega
        have hs2 : ∀ x ∈ cutEnd b1 q ++ cutEnd a1 q, ∀ y ∈ cutEnd b1 q ++ cutEnd a1 q, T.fn (⟨⟨[95, 115, 117, 98, 115, 116, 105, 116, 117, 116, 105, 111, 110, 95, 99, 111, 115, 116]⟩⟩ : Str) [.str [x], .str [y]] = some (.int (if x = y then 0 else 2)) := fun x hx y hy => by
          have mem : ∀ z ∈ cutEnd b1 q ++ cutEnd a1 q, z ∈ b1 ++ a1 := fun z hz => by
            rcases List.mem_append.mp hz with h | h
            · exact List.mem_append.mpr (.inl (List.mem_of_mem_take h))
            · exact List.mem_append.mpr (.inr (List.mem_of_mem_take h))
          exact hs1 x (mem x hx) y (mem y hy)
        have sa : q ≠ 0 → sliceL none (some (-(q : Int))) none a1 = cutEnd a1 q := fun h => end_slice (Nat.pos_of_ne_zero h) hq.1
        have sb : q ≠ 0 → sliceL none (some (-(q : Int))) none b1 = cutEnd b1 q := fun h => end_slice (Nat.pos_of_ne_zero h) hq.2
        have sa0 : q = 0 → cutEnd a1 q = a1 := fun h => by subst h; simp [cutEnd]
        have sb0 : q = 0 → cutEnd b1 q = b1 := fun h => by subst h; simp [cutEnd]
        clear ca cb
        generalize hA : cutEnd a1 q = A at *
        generalize hB : cutEnd b1 q = B at *
        have lA : A.length ≤ 16777216 := le24 ha2
        have lB : B.length ≤ 16777216 := le24 hb2
        by_cases q0 : q = 0
        · have eA' := sa0 q0
          have eB' := sb0 q0
          subst q0
          subst eA'
          subst eB'
          simp [-Option.bind_some, smallI, bindS, runL_nil, runL_cons, contL_next, contL_ret, x_whileR, z_if, x_assign, z_ret, hb, hg, lz1, lz2, all_slice]
          by_cases eA : A = []
          · subst eA
            simp [-Option.bind_some, smallI, bindS, runL_nil, runL_cons, contL_next, contL_ret, x_whileR, z_if, x_assign, z_ret, hb, hg, lB, tailP, retOf]
          · by_cases eB : B = []
            · subst eB
              simp [-Option.bind_some, smallI, bindS, runL_nil, runL_cons, contL_next, contL_ret, x_whileR, z_if, x_assign, z_ret, hb, hg, lA, eA, tailP, retOf]
            · have a40 : ¬ (40 : Int) < (A.length : Int) := not40 ha2
              have b40 : ¬ (40 : Int) < (B.length : Int) := not40 hb2
              have hsw : ∀ x ∈ A ++ B, ∀ y ∈ A ++ B, T.fn (⟨⟨[95, 115, 117, 98, 115, 116, 105, 116, 117, 116, 105, 111, 110, 95, 99, 111, 115, 116]⟩⟩ : Str) [.str [x], .str [y]] = some (.int (if x = y then 0 else 2)) := fun x hx y hy =>
                hs2 x (List.mem_append.mpr ((List.mem_append.mp hx).symm)) y (List.mem_append.mpr ((List.mem_append.mp hy).symm))
              have dz : ((A.length : Int) - B.length).natAbs < 536870912 := subAbs ha2 hb2
              have dz' : ((B.length : Int) - A.length).natAbs < 536870912 := subAbs hb2 ha2
              unfold tailP
              rw [if_neg (by simp [eA, eB])]
              by_cases hl : B.length < A.length
              · rw [if_pos hl]
                have hl' : (B.length : Int) < (A.length : Int) := Int.ofNat_lt.mpr hl
                by_cases hd : m < ((A.length : Int) - B.length) * 2
                · rw [if_pos hd]
                  simp [-Option.bind_some, smallI, bindS, runL_nil, runL_cons, contL_next, contL_ret, x_whileR, z_if, x_assign, z_ret, hb, hg, lA, lB, eA, eB, a40, b40, hl, hl', hd, dz, retOf]
                · rw [if_neg hd]
                  simp [-Option.bind_some, smallI, bindS, runL_nil, runL_cons, contL_next, contL_ret, x_whileR, z_if, z_ret, hb, hg, lA, lB, eA, eB, a40, b40, hl, hl', hd, dz]
                  rw [x_assign]
                  simp [-Option.bind_some, smallI, bindS, runL_nil, runL_cons, contL_next, contL_ret, x_whileR, z_if, z_ret, hb, hg, lA, lB, eA, eB, a40, b40, hl, hl', hd, dz]
                  rw [← runL_cons]
                  exact dp_ok hb hg hgn B A m p 0 hb2 ha2 hsw
              · rw [if_neg hl]
                have hl' : ¬ (B.length : Int) < (A.length : Int) := fun h => hl (Int.ofNat_lt.mp h)
                by_cases hd : m < ((B.length : Int) - A.length) * 2
                · rw [if_pos hd]
                  simp [-Option.bind_some, smallI, bindS, runL_nil, runL_cons, contL_next, contL_ret, x_whileR, z_if, x_assign, z_ret, hb, hg, lA, lB, eA, eB, a40, b40, hl, hl', hd, dz', retOf]
                · rw [if_neg hd]
                  simp [-Option.bind_some, smallI, bindS, runL_nil, runL_cons, contL_next, contL_ret, x_whileR, z_if, z_ret, hb, hg, lA, lB, eA, eB, a40, b40, hl, hl', hd, dz']
                  rw [← runL_cons]
                  exact dp_ok hb hg hgn A B m p 0 ha2 hb2 hs2
        · have q0' : ¬ (q : Int) = 0 := by omega
          simp [-Option.bind_some, smallI, bindS, runL_nil, runL_cons, contL_next, contL_ret, x_whileR, z_if, x_assign, z_ret, hb, hg, lz1, lz2, lA, lB, sa q0, sb q0, q0, q0']
          by_cases eA : A = []
          · subst eA
            simp [-Option.bind_some, smallI, bindS, runL_nil, runL_cons, contL_next, contL_ret, x_whileR, z_if, x_assign, z_ret, hb, hg, lB, tailP, retOf]
          · by_cases eB : B = []
            · subst eB
              simp [-Option.bind_some, smallI, bindS, runL_nil, runL_cons, contL_next, contL_ret, x_whileR, z_if, x_assign, z_ret, hb, hg, lA, eA, tailP, retOf]
            · have a40 : ¬ (40 : Int) < (A.length : Int) := not40 ha2
              have b40 : ¬ (40 : Int) < (B.length : Int) := not40 hb2
              have hsw : ∀ x ∈ A ++ B, ∀ y ∈ A ++ B, T.fn (⟨⟨[95, 115, 117, 98, 115, 116, 105, 116, 117, 116, 105, 111, 110, 95, 99, 111, 115, 116]⟩⟩ : Str) [.str [x], .str [y]] = some (.int (if x = y then 0 else 2)) := fun x hx y hy =>
                hs2 x (List.mem_append.mpr ((List.mem_append.mp hx).symm)) y (List.mem_append.mpr ((List.mem_append.mp hy).symm))
              have dz : ((A.length : Int) - B.length).natAbs < 536870912 := subAbs ha2 hb2
              have dz' : ((B.length : Int) - A.length).natAbs < 536870912 := subAbs hb2 ha2
              unfold tailP
              rw [if_neg (by simp [eA, eB])]
              by_cases hl : B.length < A.length
              · rw [if_pos hl]
                have hl' : (B.length : Int) < (A.length : Int) := Int.ofNat_lt.mpr hl
                by_cases hd : m < ((A.length : Int) - B.length) * 2
                · rw [if_pos hd]
                  simp [-Option.bind_some, smallI, bindS, runL_nil, runL_cons, contL_next, contL_ret, x_whileR, z_if, x_assign, z_ret, hb, hg, lA, lB, eA, eB, a40, b40, hl, hl', hd, dz, retOf]
                · rw [if_neg hd]
                  simp [-Option.bind_some, smallI, bindS, runL_nil, runL_cons, contL_next, contL_ret, x_whileR, z_if, z_ret, hb, hg, lA, lB, eA, eB, a40, b40, hl, hl', hd, dz]
                  rw [x_assign]
                  simp [-Option.bind_some, smallI, bindS, runL_nil, runL_cons, contL_next, contL_ret, x_whileR, z_if, z_ret, hb, hg, lA, lB, eA, eB, a40, b40, hl, hl', hd, dz]
                  rw [← runL_cons]
                  exact dp_ok hb hg hgn B A m p (-(q : Int)) hb2 ha2 hsw
              · rw [if_neg hl]
                have hl' : ¬ (B.length : Int) < (A.length : Int) := fun h => hl (Int.ofNat_lt.mp h)
                by_cases hd : m < ((B.length : Int) - A.length) * 2
                · rw [if_pos hd]
                  simp [-Option.bind_some, smallI, bindS, runL_nil, runL_cons, contL_next, contL_ret, x_whileR, z_if, x_assign, z_ret, hb, hg, lA, lB, eA, eB, a40, b40, hl, hl', hd, dz', retOf]
                · rw [if_neg hd]
                  simp [-Option.bind_some, smallI, bindS, runL_nil, runL_cons, contL_next, contL_ret, x_whileR, z_if, z_ret, hb, hg, lA, lB, eA, eB, a40, b40, hl, hl', hd, dz']
                  rw [← runL_cons]
                  exact dp_ok hb hg hgn A B m p (-(q : Int)) ha2 hb2 hs2

noncomputable def toldF (F : List Nat → Int) (s0 s1 : Nat) (a : List Nat × Int) (w : List Nat) : List Nat × Int := (a.1 ++ [if F w = a.2 - 2 then s0 else if F w = a.2 then s1 else 63], F w)
noncomputable def toldP (F : List Nat → Int) (z : Int) (s0 s1 : Nat) (ws : List (List Nat)) : List Nat := (ws.foldl (toldF F s0 s1) ([], z)).1


set_option maxHeartbeats 1000000 in
noncomputable def KL21 : List Str := [(⟨⟨[119, 111, 114, 100, 115]⟩⟩ : Str), (⟨⟨[114, 117, 108, 101, 114]⟩⟩ : Str), (⟨⟨[115, 105, 103, 110, 115]⟩⟩ : Str), (⟨⟨[114, 111, 119]⟩⟩ : Str), (⟨⟨[108, 97, 115, 116]⟩⟩ : Str), (⟨⟨[119, 111, 114, 100]⟩⟩ : Str), (⟨⟨[110, 111, 119]⟩⟩ : Str)]
@[local simp] theorem s21_3 : storable (fnAt 21).2.1 (⟨⟨[114, 111, 119]⟩⟩ : Str) = true := rfl
@[local simp] theorem o21_3 : isLo (fnAt 21).2.1 (⟨⟨[114, 111, 119]⟩⟩ : Str) = true := Eq.trans rfl rfl
@[local simp] theorem s21_4 : storable (fnAt 21).2.1 (⟨⟨[108, 97, 115, 116]⟩⟩ : Str) = true := rfl
@[local simp] theorem o21_4 : isLo (fnAt 21).2.1 (⟨⟨[108, 97, 115, 116]⟩⟩ : Str) = true := Eq.trans rfl rfl
@[local simp] theorem s21_5 : storable (fnAt 21).2.1 (⟨⟨[119, 111, 114, 100]⟩⟩ : Str) = true := rfl
@[local simp] theorem s21_6 : storable (fnAt 21).2.1 (⟨⟨[110, 111, 119]⟩⟩ : Str) = true := rfl
@[local simp] theorem bd21_0 : badN (⟨⟨[119, 111, 114, 100, 115]⟩⟩ : Str) = false := rfl
@[local simp] theorem bd21_1 : badN (⟨⟨[114, 117, 108, 101, 114]⟩⟩ : Str) = false := rfl
@[local simp] theorem bd21_4 : badN (⟨⟨[108, 97, 115, 116]⟩⟩ : Str) = false := rfl
@[local simp] theorem bd21_5 : badN (⟨⟨[119, 111, 114, 100]⟩⟩ : Str) = false := rfl
@[local simp] theorem bd21_6 : badN (⟨⟨[110, 111, 119]⟩⟩ : Str) = false := rfl
@[local simp] theorem c21_0 {T : Tabs} {σ : Vars} {ds : List D} (hb : T.bi = biV) (hk : keysIn KL21 σ = true) : callD T (fnAt 21).2.1 σ (⟨⟨[108, 101, 110]⟩⟩ : Str) ds = fnD (.builtin "len") ds := call_bi _ hk rfl rfl rfl (by rw [hb]; rfl)
@[local simp] theorem nl21_1 : ((⟨⟨[95, 108, 101, 118, 101, 110, 115, 104, 116, 101, 105, 110, 95, 100, 105, 115, 116, 97, 110, 99, 101]⟩⟩ : Str) == ("list" : Str)) = false := Eq.trans rfl rfl
@[local simp] theorem c21_1 {T : Tabs} {σ : Vars} {ds : List D} (hb : T.bi (⟨⟨[95, 108, 101, 118, 101, 110, 115, 104, 116, 101, 105, 110, 95, 100, 105, 115, 116, 97, 110, 99, 101]⟩⟩ : Str) = none) (hk : keysIn KL21 σ = true) : callD T (fnAt 21).2.1 σ (⟨⟨[95, 108, 101, 118, 101, 110, 115, 104, 116, 101, 105, 110, 95, 100, 105, 115, 116, 97, 110, 99, 101]⟩⟩ : Str) ds = T.fn (⟨⟨[95, 108, 101, 118, 101, 110, 115, 104, 116, 101, 105, 110, 95, 100, 105, 115, 116, 97, 110, 99, 101]⟩⟩ : Str) ds := call_fn hk rfl rfl rfl hb
@[local simp] theorem l21_1 (v0 v1 : D) (r : Vars) : List.lookup (⟨⟨[114, 117, 108, 101, 114]⟩⟩ : Str) (((⟨⟨[119, 111, 114, 100, 115]⟩⟩ : Str), v0) :: ((⟨⟨[114, 117, 108, 101, 114]⟩⟩ : Str), v1) :: r) = some v1 := rfl
@[local simp] theorem l21_2 (v0 v1 v2 : D) (r : Vars) : List.lookup (⟨⟨[115, 105, 103, 110, 115]⟩⟩ : Str) (((⟨⟨[119, 111, 114, 100, 115]⟩⟩ : Str), v0) :: ((⟨⟨[114, 117, 108, 101, 114]⟩⟩ : Str), v1) :: ((⟨⟨[115, 105, 103, 110, 115]⟩⟩ : Str), v2) :: r) = some v2 := rfl
@[local simp] theorem k21_2 (v0 v1 v2 : D) : keysIn KL21 (((⟨⟨[119, 111, 114, 100, 115]⟩⟩ : Str), v0) :: ((⟨⟨[114, 117, 108, 101, 114]⟩⟩ : Str), v1) :: ((⟨⟨[115, 105, 103, 110, 115]⟩⟩ : Str), v2) :: []) = true := Eq.trans rfl rfl
@[local simp] theorem l21_3 (v0 v1 v2 v3 : D) (r : Vars) : List.lookup (⟨⟨[108, 97, 115, 116]⟩⟩ : Str) (((⟨⟨[119, 111, 114, 100, 115]⟩⟩ : Str), v0) :: ((⟨⟨[114, 117, 108, 101, 114]⟩⟩ : Str), v1) :: ((⟨⟨[115, 105, 103, 110, 115]⟩⟩ : Str), v2) :: ((⟨⟨[108, 97, 115, 116]⟩⟩ : Str), v3) :: r) = some v3 := rfl
@[local simp] theorem p21_3 (d v0 v1 v2 v3 : D) (r : Vars) : setV (⟨⟨[108, 97, 115, 116]⟩⟩ : Str) d (((⟨⟨[119, 111, 114, 100, 115]⟩⟩ : Str), v0) :: ((⟨⟨[114, 117, 108, 101, 114]⟩⟩ : Str), v1) :: ((⟨⟨[115, 105, 103, 110, 115]⟩⟩ : Str), v2) :: ((⟨⟨[108, 97, 115, 116]⟩⟩ : Str), v3) :: r) = ((⟨⟨[119, 111, 114, 100, 115]⟩⟩ : Str), v0) :: ((⟨⟨[114, 117, 108, 101, 114]⟩⟩ : Str), v1) :: ((⟨⟨[115, 105, 103, 110, 115]⟩⟩ : Str), v2) :: ((⟨⟨[108, 97, 115, 116]⟩⟩ : Str), d) :: r := rfl
@[local simp] theorem a21_3 (d : D) (v0 v1 v2 : D) : setV (⟨⟨[108, 97, 115, 116]⟩⟩ : Str) d [((⟨⟨[119, 111, 114, 100, 115]⟩⟩ : Str), v0), ((⟨⟨[114, 117, 108, 101, 114]⟩⟩ : Str), v1), ((⟨⟨[115, 105, 103, 110, 115]⟩⟩ : Str), v2)] = [((⟨⟨[119, 111, 114, 100, 115]⟩⟩ : Str), v0), ((⟨⟨[114, 117, 108, 101, 114]⟩⟩ : Str), v1), ((⟨⟨[115, 105, 103, 110, 115]⟩⟩ : Str), v2), ((⟨⟨[108, 97, 115, 116]⟩⟩ : Str), d)] := rfl
@[local simp] theorem l21_4 (v0 v1 v2 v3 v4 : D) (r : Vars) : List.lookup (⟨⟨[114, 111, 119]⟩⟩ : Str) (((⟨⟨[119, 111, 114, 100, 115]⟩⟩ : Str), v0) :: ((⟨⟨[114, 117, 108, 101, 114]⟩⟩ : Str), v1) :: ((⟨⟨[115, 105, 103, 110, 115]⟩⟩ : Str), v2) :: ((⟨⟨[108, 97, 115, 116]⟩⟩ : Str), v3) :: ((⟨⟨[114, 111, 119]⟩⟩ : Str), v4) :: r) = some v4 := rfl
@[local simp] theorem p21_4 (d v0 v1 v2 v3 v4 : D) (r : Vars) : setV (⟨⟨[114, 111, 119]⟩⟩ : Str) d (((⟨⟨[119, 111, 114, 100, 115]⟩⟩ : Str), v0) :: ((⟨⟨[114, 117, 108, 101, 114]⟩⟩ : Str), v1) :: ((⟨⟨[115, 105, 103, 110, 115]⟩⟩ : Str), v2) :: ((⟨⟨[108, 97, 115, 116]⟩⟩ : Str), v3) :: ((⟨⟨[114, 111, 119]⟩⟩ : Str), v4) :: r) = ((⟨⟨[119, 111, 114, 100, 115]⟩⟩ : Str), v0) :: ((⟨⟨[114, 117, 108, 101, 114]⟩⟩ : Str), v1) :: ((⟨⟨[115, 105, 103, 110, 115]⟩⟩ : Str), v2) :: ((⟨⟨[108, 97, 115, 116]⟩⟩ : Str), v3) :: ((⟨⟨[114, 111, 119]⟩⟩ : Str), d) :: r := rfl
@[local simp] theorem a21_4 (d : D) (v0 v1 v2 v3 : D) : setV (⟨⟨[114, 111, 119]⟩⟩ : Str) d [((⟨⟨[119, 111, 114, 100, 115]⟩⟩ : Str), v0), ((⟨⟨[114, 117, 108, 101, 114]⟩⟩ : Str), v1), ((⟨⟨[115, 105, 103, 110, 115]⟩⟩ : Str), v2), ((⟨⟨[108, 97, 115, 116]⟩⟩ : Str), v3)] = [((⟨⟨[119, 111, 114, 100, 115]⟩⟩ : Str), v0), ((⟨⟨[114, 117, 108, 101, 114]⟩⟩ : Str), v1), ((⟨⟨[115, 105, 103, 110, 115]⟩⟩ : Str), v2), ((⟨⟨[108, 97, 115, 116]⟩⟩ : Str), v3), ((⟨⟨[114, 111, 119]⟩⟩ : Str), d)] := rfl
@[local simp] theorem l21_5 (v0 v1 v2 v3 v4 v5 : D) (r : Vars) : List.lookup (⟨⟨[119, 111, 114, 100]⟩⟩ : Str) (((⟨⟨[119, 111, 114, 100, 115]⟩⟩ : Str), v0) :: ((⟨⟨[114, 117, 108, 101, 114]⟩⟩ : Str), v1) :: ((⟨⟨[115, 105, 103, 110, 115]⟩⟩ : Str), v2) :: ((⟨⟨[108, 97, 115, 116]⟩⟩ : Str), v3) :: ((⟨⟨[114, 111, 119]⟩⟩ : Str), v4) :: ((⟨⟨[119, 111, 114, 100]⟩⟩ : Str), v5) :: r) = some v5 := rfl
@[local simp] theorem k21_5 (v0 v1 v2 v3 v4 v5 : D) : keysIn KL21 (((⟨⟨[119, 111, 114, 100, 115]⟩⟩ : Str), v0) :: ((⟨⟨[114, 117, 108, 101, 114]⟩⟩ : Str), v1) :: ((⟨⟨[115, 105, 103, 110, 115]⟩⟩ : Str), v2) :: ((⟨⟨[108, 97, 115, 116]⟩⟩ : Str), v3) :: ((⟨⟨[114, 111, 119]⟩⟩ : Str), v4) :: ((⟨⟨[119, 111, 114, 100]⟩⟩ : Str), v5) :: []) = true := Eq.trans rfl rfl
@[local simp] theorem p21_5 (d v0 v1 v2 v3 v4 v5 : D) (r : Vars) : setV (⟨⟨[119, 111, 114, 100]⟩⟩ : Str) d (((⟨⟨[119, 111, 114, 100, 115]⟩⟩ : Str), v0) :: ((⟨⟨[114, 117, 108, 101, 114]⟩⟩ : Str), v1) :: ((⟨⟨[115, 105, 103, 110, 115]⟩⟩ : Str), v2) :: ((⟨⟨[108, 97, 115, 116]⟩⟩ : Str), v3) :: ((⟨⟨[114, 111, 119]⟩⟩ : Str), v4) :: ((⟨⟨[119, 111, 114, 100]⟩⟩ : Str), v5) :: r) = ((⟨⟨[119, 111, 114, 100, 115]⟩⟩ : Str), v0) :: ((⟨⟨[114, 117, 108, 101, 114]⟩⟩ : Str), v1) :: ((⟨⟨[115, 105, 103, 110, 115]⟩⟩ : Str), v2) :: ((⟨⟨[108, 97, 115, 116]⟩⟩ : Str), v3) :: ((⟨⟨[114, 111, 119]⟩⟩ : Str), v4) :: ((⟨⟨[119, 111, 114, 100]⟩⟩ : Str), d) :: r := rfl
@[local simp] theorem a21_5 (d : D) (v0 v1 v2 v3 v4 : D) : setV (⟨⟨[119, 111, 114, 100]⟩⟩ : Str) d [((⟨⟨[119, 111, 114, 100, 115]⟩⟩ : Str), v0), ((⟨⟨[114, 117, 108, 101, 114]⟩⟩ : Str), v1), ((⟨⟨[115, 105, 103, 110, 115]⟩⟩ : Str), v2), ((⟨⟨[108, 97, 115, 116]⟩⟩ : Str), v3), ((⟨⟨[114, 111, 119]⟩⟩ : Str), v4)] = [((⟨⟨[119, 111, 114, 100, 115]⟩⟩ : Str), v0), ((⟨⟨[114, 117, 108, 101, 114]⟩⟩ : Str), v1), ((⟨⟨[115, 105, 103, 110, 115]⟩⟩ : Str), v2), ((⟨⟨[108, 97, 115, 116]⟩⟩ : Str), v3), ((⟨⟨[114, 111, 119]⟩⟩ : Str), v4), ((⟨⟨[119, 111, 114, 100]⟩⟩ : Str), d)] := rfl
@[local simp] theorem l21_6 (v0 v1 v2 v3 v4 v5 v6 : D) (r : Vars) : List.lookup (⟨⟨[110, 111, 119]⟩⟩ : Str) (((⟨⟨[119, 111, 114, 100, 115]⟩⟩ : Str), v0) :: ((⟨⟨[114, 117, 108, 101, 114]⟩⟩ : Str), v1) :: ((⟨⟨[115, 105, 103, 110, 115]⟩⟩ : Str), v2) :: ((⟨⟨[108, 97, 115, 116]⟩⟩ : Str), v3) :: ((⟨⟨[114, 111, 119]⟩⟩ : Str), v4) :: ((⟨⟨[119, 111, 114, 100]⟩⟩ : Str), v5) :: ((⟨⟨[110, 111, 119]⟩⟩ : Str), v6) :: r) = some v6 := rfl
@[local simp] theorem k21_6 (v0 v1 v2 v3 v4 v5 v6 : D) : keysIn KL21 (((⟨⟨[119, 111, 114, 100, 115]⟩⟩ : Str), v0) :: ((⟨⟨[114, 117, 108, 101, 114]⟩⟩ : Str), v1) :: ((⟨⟨[115, 105, 103, 110, 115]⟩⟩ : Str), v2) :: ((⟨⟨[108, 97, 115, 116]⟩⟩ : Str), v3) :: ((⟨⟨[114, 111, 119]⟩⟩ : Str), v4) :: ((⟨⟨[119, 111, 114, 100]⟩⟩ : Str), v5) :: ((⟨⟨[110, 111, 119]⟩⟩ : Str), v6) :: []) = true := Eq.trans rfl rfl
@[local simp] theorem p21_6 (d v0 v1 v2 v3 v4 v5 v6 : D) (r : Vars) : setV (⟨⟨[110, 111, 119]⟩⟩ : Str) d (((⟨⟨[119, 111, 114, 100, 115]⟩⟩ : Str), v0) :: ((⟨⟨[114, 117, 108, 101, 114]⟩⟩ : Str), v1) :: ((⟨⟨[115, 105, 103, 110, 115]⟩⟩ : Str), v2) :: ((⟨⟨[108, 97, 115, 116]⟩⟩ : Str), v3) :: ((⟨⟨[114, 111, 119]⟩⟩ : Str), v4) :: ((⟨⟨[119, 111, 114, 100]⟩⟩ : Str), v5) :: ((⟨⟨[110, 111, 119]⟩⟩ : Str), v6) :: r) = ((⟨⟨[119, 111, 114, 100, 115]⟩⟩ : Str), v0) :: ((⟨⟨[114, 117, 108, 101, 114]⟩⟩ : Str), v1) :: ((⟨⟨[115, 105, 103, 110, 115]⟩⟩ : Str), v2) :: ((⟨⟨[108, 97, 115, 116]⟩⟩ : Str), v3) :: ((⟨⟨[114, 111, 119]⟩⟩ : Str), v4) :: ((⟨⟨[119, 111, 114, 100]⟩⟩ : Str), v5) :: ((⟨⟨[110, 111, 119]⟩⟩ : Str), d) :: r := rfl
@[local simp] theorem a21_6 (d : D) (v0 v1 v2 v3 v4 v5 : D) : setV (⟨⟨[110, 111, 119]⟩⟩ : Str) d [((⟨⟨[119, 111, 114, 100, 115]⟩⟩ : Str), v0), ((⟨⟨[114, 117, 108, 101, 114]⟩⟩ : Str), v1), ((⟨⟨[115, 105, 103, 110, 115]⟩⟩ : Str), v2), ((⟨⟨[108, 97, 115, 116]⟩⟩ : Str), v3), ((⟨⟨[114, 111, 119]⟩⟩ : Str), v4), ((⟨⟨[119, 111, 114, 100]⟩⟩ : Str), v5)] = [((⟨⟨[119, 111, 114, 100, 115]⟩⟩ : Str), v0), ((⟨⟨[114, 117, 108, 101, 114]⟩⟩ : Str), v1), ((⟨⟨[115, 105, 103, 110, 115]⟩⟩ : Str), v2), ((⟨⟨[108, 97, 115, 116]⟩⟩ : Str), v3), ((⟨⟨[114, 111, 119]⟩⟩ : Str), v4), ((⟨⟨[119, 111, 114, 100]⟩⟩ : Str), v5), ((⟨⟨[110, 111, 119]⟩⟩ : Str), d)] := rfl
@[local simp] theorem e21_0 : ((⟨⟨[114, 111, 119]⟩⟩ : Str) == (⟨⟨[108, 97, 115, 116]⟩⟩ : Str)) = false := Eq.trans rfl rfl
theorem told_ok {T : Tabs} (hb : T.bi = biV) (hg : T.gl = glD) (F : List Nat → Int) (ws : List (List Nat)) (ruler : List Nat) (s0 s1 : Nat) (hr : ruler.length ≤ 100) (hw : ws.length ≤ 100)
    (hf : ∀ w ∈ ws, T.fn (⟨⟨[95, 108, 101, 118, 101, 110, 115, 104, 116, 101, 105, 110, 95, 100, 105, 115, 116, 97, 110, 99, 101]⟩⟩ : Str) [.str w, .str ruler, .int (2 * (ruler.length : Int))] = some (.int (F w))) :
    callF T 21 [.list (ws.map .str), .str ruler, .str [s0, s1]] = some (.str (toldP F (2 * (ruler.length : Int)) s0 s1 ws)) := by
  have hbi : T.bi (⟨⟨[95, 108, 101, 118, 101, 110, 115, 104, 116, 101, 105, 110, 95, 100, 105, 115, 116, 97, 110, 99, 101]⟩⟩ : Str) = none := by rw [hb, ← nm20]; rfl
  have hz : ruler.length ≤ 16777216 := by omega
  have i0 : itemD (.str [s0, s1]) 0 = some (.str [s0]) := rfl
  have i1 : itemD (.str [s0, s1]) 1 = some (.str [s1]) := rfl
  unfold callF callX
  generalize ghps : (fnAt 21).1 = ps
  have hps : ?lhps = ps := ?qhps
  have chps : (fnAt 21).1 = (fnAt 21).1 := rfl
  conv at chps =>
    lhs
    cbv
  change ?lhps = _ at chps
  case qhps => exact Eq.trans rfl ghps
  clear chps ghps
  generalize ghbd : (fnAt 21).2.2 = bd
  have hbd : ?lhbd = bd := ?qhbd
  have chbd : (fnAt 21).2.2 = (fnAt 21).2.2 := rfl
  conv at chbd =>
    lhs
    cbv
  change ?lhbd = _ at chbd
  case qhbd => exact Eq.trans rfl ghbd
  clear chbd ghbd
  subst hps
  subst hbd
  simp [-Option.bind_some, smallI, bindR, r_nil, r_cons, c_next, c_ret, y_if, y_assign, y_ret, hb, hg, hz]
  refine retBind (runF_fold (st := fun (a : (List Nat × Int) × Option (List Nat)) => [((⟨⟨[119, 111, 114, 100, 115]⟩⟩ : Str), D.list (ws.map D.str)), ((⟨⟨[114, 117, 108, 101, 114]⟩⟩ : Str), D.str ruler), ((⟨⟨[115, 105, 103, 110, 115]⟩⟩ : Str), D.str [s0, s1]), ((⟨⟨[108, 97, 115, 116]⟩⟩ : Str), D.int a.1.2), ((⟨⟨[114, 111, 119]⟩⟩ : Str), D.str a.1.1)] ++ (a.2.toList.flatMap fun w => [((⟨⟨[119, 111, 114, 100]⟩⟩ : Str), D.str w), ((⟨⟨[110, 111, 119]⟩⟩ : Str), D.int (F w))]))
      (f := fun a w => (toldF F s0 s1 a.1 w, some w)) (enc := D.str) (I := fun l a => (∀ w ∈ l, w ∈ ws) ∧ a.1.1.length + l.length ≤ 100) (fun _ => ⟨rfl, rfl⟩) ?_ ?_ ws (([], 2 * (ruler.length : Int)), none) ⟨fun _ h => h, by simpa using hw⟩) ?_
  · decide +kernel
  · rintro ⟨⟨row, last⟩, o⟩ w l ⟨h1, h2⟩
    have hw' := hf w (h1 w (List.mem_cons_self ..))
    have hrow : row.length + 1 ≤ 16777216 := by simp at h2; omega
    refine ⟨?_, fun y hy => h1 y (List.mem_cons_of_mem _ hy), by simp [toldF] at h2 ⊢; omega⟩
    by_cases c1 : F w = last - 2
    · cases o <;> simp [-Option.bind_some, smallI, bindR, r_nil, r_cons, c_next, c_ret, y_if, y_assign, y_ret, forRun, hb, hg, hbi, hz, hw', i0, i1, toldF, c1, hrow]
    · by_cases c2 : F w = last
      · have c3 : ¬ last = last - 2 := by omega
        cases o <;> simp [-Option.bind_some, smallI, bindR, r_nil, r_cons, c_next, c_ret, y_if, y_assign, y_ret, forRun, hb, hg, hbi, hz, hw', i0, i1, toldF, c3, c2, hrow]
      · cases o <;> simp [-Option.bind_some, smallI, bindR, r_nil, r_cons, c_next, c_ret, y_if, y_assign, y_ret, forRun, hb, hg, hbi, hz, hw', i0, i1, toldF, c1, c2, hrow]
  · simp [-Option.bind_some, smallI, bindR, r_nil, r_cons, c_next, c_ret, y_if, y_assign, y_ret, hb, hg, retOf, toldP, foldl_fst (toldF F s0 s1)]

/-! the rows that can be drawn -/
noncomputable def gen : Nat → Int → Int → List (List Nat)
  | 0, _, _ => [[]]
  | n + 1, d, l => if 0 < l then (if d = 0 then (gen n (d + 1) (l - 1)).map (40 :: ·) else (gen n (d + 1) (l - 1)).map (40 :: ·) ++ (gen n (d - 1) l).map (41 :: ·)) else (gen n (d - 1) l).map (41 :: ·)
theorem row_gen : ∀ (ns : List Int) (r : List Nat) (d l : Int), ∃ w ∈ gen ns.length d l, (ns.foldl rowF (r, d, l)).1 = r ++ w
  | [], r, _, _ => ⟨[], by simp [gen], by simp⟩
  | x :: ns, r, d, l => by
    have up := row_gen ns (r ++ [40]) (d + 1) (l - 1)
    have dn := row_gen ns (r ++ [41]) (d - 1) l
    obtain ⟨w1, m1, e1⟩ := up
    obtain ⟨w2, m2, e2⟩ := dn
    simp only [List.foldl_cons, List.length_cons]
    unfold rowF gen
    by_cases c1 : 0 < l
    · by_cases c2 : d = 0
      · simp only [c1, c2, true_or, and_self, if_true]
        refine ⟨40 :: w1, List.mem_map.mpr ⟨w1, by rw [c2] at m1; exact m1, rfl⟩, ?_⟩
        rw [c2] at e1
        rw [show (fun (a : List Nat × Int × Int) (x : Int) => if 0 < a.2.2 ∧ (a.2.1 = 0 ∨ x % 2 = 1) then (a.1 ++ [40], a.2.1 + 1, a.2.2 - 1) else (a.1 ++ [41], a.2.1 - 1, a.2.2)) = rowF from rfl, e1]
        simp
      · by_cases c3 : x % 2 = 1
        · simp only [c1, c2, c3, or_true, and_self, if_true, if_false]
          refine ⟨40 :: w1, List.mem_append.mpr (.inl (List.mem_map.mpr ⟨w1, m1, rfl⟩)), ?_⟩
          rw [show (fun (a : List Nat × Int × Int) (x : Int) => if 0 < a.2.2 ∧ (a.2.1 = 0 ∨ x % 2 = 1) then (a.1 ++ [40], a.2.1 + 1, a.2.2 - 1) else (a.1 ++ [41], a.2.1 - 1, a.2.2)) = rowF from rfl, e1]
          simp
        · simp only [c1, c2, c3, or_self, and_false, if_true, if_false]
          refine ⟨41 :: w2, List.mem_append.mpr (.inr (List.mem_map.mpr ⟨w2, m2, rfl⟩)), ?_⟩
          rw [show (fun (a : List Nat × Int × Int) (x : Int) => if 0 < a.2.2 ∧ (a.2.1 = 0 ∨ x % 2 = 1) then (a.1 ++ [40], a.2.1 + 1, a.2.2 - 1) else (a.1 ++ [41], a.2.1 - 1, a.2.2)) = rowF from rfl, e2]
          simp
    · simp only [c1, false_and, if_false]
      refine ⟨41 :: w2, List.mem_map.mpr ⟨w2, m2, rfl⟩, ?_⟩
      rw [show (fun (a : List Nat × Int × Int) (x : Int) => if 0 < a.2.2 ∧ (a.2.1 = 0 ∨ x % 2 = 1) then (a.1 ++ [40], a.2.1 + 1, a.2.2 - 1) else (a.1 ++ [41], a.2.1 - 1, a.2.2)) = rowF from rfl, e2]
      simp

/-! what each row tells -/
noncomputable def natsOf : List D → Option (List Nat)
  | [] => some []
  | .int (.ofNat n) :: r => (natsOf r).map (n :: ·)
  | _ :: _ => none
noncomputable def orderN (w : List Nat) : Option (List Nat) := match callF T1 18 [.str w] with
  | some (.list ds) => natsOf ds
  | _ => none
noncomputable def rulerN (s c : Nat) : List Nat := List.replicate (s / 2) c ++ (List.range s).flatMap fun k => (97 + k) :: List.replicate (s / 2) c
noncomputable def lesserN (s : Nat) (word : List Nat) : List (List Nat) := (List.range s).map fun k => word.filter (fun c => decide (c ≤ 97 + k))
noncomputable def prefN (s : Nat) (word : List Nat) : List (List Nat) := (List.range s).map fun k => word.take (k + 1)
noncomputable def distN (s c : Nat) (w : List Nat) : Int := levP 9223372036854775807 w (rulerN s c) (2 * ((rulerN s c).length : Int))
noncomputable def Good (s : Nat) (w : List Nat) : Bool := decide (w.length = 2 * s) && w.all (fun c => c == 40 || c == 41) && chkR w && !chkR (40 :: w) && !chkR (w ++ [41]) && (match orderN w with
  | some o => decide (o.length = s) && o.all (fun k => decide (k < s)) &&
      (toldP (distN s 0) (2 * ((rulerN s 0).length : Int)) 40 41 (lesserN s (o.map (97 + ·))) ++ (toldP (distN s 0) (2 * ((rulerN s 0).length : Int)) 41 40 (prefN s (o.map (97 + ·)))).reverse == w)
  | none => false)
theorem good_3 : ∀ w ∈ gen 6 0 3, Good 3 w = true := by decide +kernel

/-! the same, over natural numbers: quick for the kernel -/
noncomputable def hasN (a : List Nat) (i bc : Nat) : Bool := match a[i]? with
  | some x => Nat.beq x bc
  | none => false
noncomputable def inN (a : List Nat) (bc : Nat) (s : List Nat × Nat × Nat × Nat) (i : Nat) : List Nat × Nat × Nat × Nat :=
  let sub := s.2.1 + (bif hasN a i bc then 0 else 2)
  let d' := s.1.getD i 0
  let il := (bif Nat.blt d' s.2.2.1 then d' else s.2.2.1) + 2
  let r' := bif Nat.blt sub il then sub else il
  (s.1.set i r', d', r', bif Nat.blt r' s.2.2.2 then r' else s.2.2.2)
noncomputable def outN (M : Nat) (a b : List Nat) (m : Nat) (s : List Nat × Nat) (j : Nat) : Option (List Nat × Nat) :=
  let t := (List.range a.length).foldl (inN a (b.getD j 0)) (s.1, j * 2, j * 2, M)
  bif Nat.blt m t.2.2.2 then none else some (t.1, t.2.2.1)
noncomputable def dpN (M : Nat) (a b : List Nat) (m : Nat) : Nat := match (List.range b.length).foldlM (outN M a b m) ((List.range a.length).map fun i => 2 + i * 2, 0) with
  | some s => s.2
  | none => m + 1

noncomputable def castS (s : List Nat × Nat × Nat × Nat) : List Int × Int × Int × Int := (s.1.map fun (n : Nat) => (n : Int), (s.2.1 : Int), (s.2.2.1 : Int), (s.2.2.2 : Int))
theorem blt_lt (a b : Nat) : Nat.blt a b = decide (a < b) := by
  unfold Nat.blt
  by_cases h : a < b
  · rw [decide_eq_true h, Nat.ble_eq]; exact h
  · rw [decide_eq_false h]
    exact Bool.eq_false_iff.mpr fun e => h (Nat.ble_eq.mp e)
theorem if_cast (p : Prop) [Decidable p] (a b : Nat) : (if p then (a : Int) else (b : Int)) = ((if p then a else b : Nat) : Int) := by
  split <;> rfl
theorem inN_cast (a : List Nat) (bc : Nat) (s : List Nat × Nat × Nat × Nat) (i : Nat) : inF a bc (castS s) i = castS (inN a bc s i) := by
  obtain ⟨r, d, x, m⟩ := s
  have hh : (if a[i]? = some bc then (0 : Int) else 2) = ((bif hasN a i bc then 0 else 2 : Nat) : Int) := by
    unfold hasN
    cases a[i]? with
    | none => simp
    | some y =>
      by_cases q : y = bc
      · subst q; simp
      · have : Nat.beq y bc = false := Bool.eq_false_iff.mpr fun e => q (Nat.eq_of_beq_eq_true e)
        simp [q, this]
  have hg : (r.map fun (n : Nat) => (n : Int)).getD i 0 = ((r.getD i 0 : Nat) : Int) := by
    simp only [List.getD_eq_getElem?_getD, List.getElem?_map]
    cases r[i]? <;> rfl
  unfold inF inN castS
  simp only [hh, hg, blt_lt, Bool.cond_decide]
  have c1 : (if ((r.getD i 0 : Nat) : Int) < (x : Int) then ((r.getD i 0 : Nat) : Int) else (x : Int)) + 2 = (((if r.getD i 0 < x then r.getD i 0 else x) + 2 : Nat) : Int) := by
    simp only [Int.ofNat_lt, if_cast]; rfl
  rw [c1]
  have c2 : (d : Int) + ((bif hasN a i bc then 0 else 2 : Nat) : Int) = ((d + (bif hasN a i bc then 0 else 2) : Nat) : Int) := rfl
  rw [c2]
  simp only [Int.ofNat_lt, if_cast, List.map_set]
theorem fold_cast (a : List Nat) (bc : Nat) : ∀ (l : List Nat) (s : List Nat × Nat × Nat × Nat), l.foldl (inF a bc) (castS s) = castS (l.foldl (inN a bc) s)
  | [], _ => rfl
  | i :: l, s => by rw [List.foldl_cons, List.foldl_cons, inN_cast]; exact fold_cast a bc l _
theorem outN_cast (M : Nat) (a b : List Nat) (m : Nat) (s : List Nat × Nat) (j : Nat) : outF (M : Int) a b (m : Int) (s.1.map fun (n : Nat) => (n : Int), (s.2 : Int)) j = (outN M a b m s j).map fun t => (t.1.map fun (n : Nat) => (n : Int), (t.2 : Int)) := by
  have e := fold_cast a (b.getD j 0) (List.range a.length) (s.1, j * 2, j * 2, M)
  have e0 : castS (s.1, j * 2, j * 2, M) = (s.1.map fun (n : Nat) => (n : Int), (j : Int) * 2, (j : Int) * 2, (M : Int)) := rfl
  rw [e0] at e
  unfold outF outN
  simp only [e]
  generalize (List.range a.length).foldl (inN a (b.getD j 0)) (s.1, j * 2, j * 2, M) = t
  unfold castS
  simp only [blt_lt, Bool.cond_decide, Int.ofNat_lt]
  split <;> rfl
theorem foldM_cast (M : Nat) (a b : List Nat) (m : Nat) : ∀ (l : List Nat) (s : List Nat × Nat), l.foldlM (outF (M : Int) a b (m : Int)) (s.1.map fun (n : Nat) => (n : Int), (s.2 : Int)) = (l.foldlM (outN M a b m) s).map fun t => (t.1.map fun (n : Nat) => (n : Int), (t.2 : Int))
  | [], _ => rfl
  | j :: l, s => by
    rw [List.foldlM_cons, List.foldlM_cons, outN_cast]
    cases outN M a b m s j with
    | none => rfl
    | some t => exact foldM_cast M a b m l t
theorem dpN_cast (M : Nat) (a b : List Nat) (m : Nat) : dpP (M : Int) a b (m : Int) = ((dpN M a b m : Nat) : Int) := by
  have e := foldM_cast M a b m (List.range b.length) ((List.range a.length).map fun i => 2 + i * 2, 0)
  have e0 : (((List.range a.length).map fun i => 2 + i * 2).map fun (n : Nat) => (n : Int)) = (List.range a.length).map fun (i : Nat) => 2 + (i : Int) * 2 := by
    rw [List.map_map]; rfl
  rw [e0] at e
  unfold dpP dpN
  rw [show ((List.range a.length).map (fun (i : Nat) => 2 + (i : Int) * 2), (0 : Int)) = ((List.range a.length).map (fun (i : Nat) => 2 + (i : Int) * 2), ((0 : Nat) : Int)) from rfl, e]
  cases (List.range b.length).foldlM (outN M a b m) ((List.range a.length).map fun i => 2 + i * 2, 0) <;> rfl
noncomputable def tailQ (M : Nat) (a b : List Nat) (m : Nat) : Nat := bif a.isEmpty || b.isEmpty then 2 * (a.length + b.length) else
  bif Nat.blt b.length a.length then (bif Nat.blt m ((a.length - b.length) * 2) then m + 1 else dpN M b a m) else (bif Nat.blt m ((b.length - a.length) * 2) then m + 1 else dpN M a b m)
theorem tailQ_cast (M : Nat) (a b : List Nat) (m : Nat) : tailP (M : Int) a b (m : Int) = ((tailQ M a b m : Nat) : Int) := by
  unfold tailP tailQ
  by_cases h : a = [] ∨ b = []
  · have h' : (a.isEmpty || b.isEmpty) = true := by simpa using h
    rw [if_pos h, h']
    simp only [cond_true]
    omega
  · have h' : (a.isEmpty || b.isEmpty) = false := by simpa using h
    rw [if_neg h, h']
    simp only [cond_false, blt_lt, Bool.cond_decide]
    by_cases hl : b.length < a.length
    · rw [if_pos hl, if_pos hl]
      by_cases hm : m < (a.length - b.length) * 2
      · rw [if_pos hm, if_pos (by omega)]
        rfl
      · rw [if_neg hm, if_neg (by omega)]
        exact dpN_cast M b a m
    · rw [if_neg hl, if_neg hl]
      by_cases hm : m < (b.length - a.length) * 2
      · rw [if_pos hm, if_pos (by omega)]
        rfl
      · rw [if_neg hm, if_neg (by omega)]
        exact dpN_cast M a b m
noncomputable def levQ (M : Nat) (a b : List Nat) (m : Nat) : Nat := if a = b then 0 else
  tailQ M (cutEnd (a.drop (cpl a b)) (cpl (a.drop (cpl a b)).reverse (b.drop (cpl a b)).reverse)) (cutEnd (b.drop (cpl a b)) (cpl (a.drop (cpl a b)).reverse (b.drop (cpl a b)).reverse)) m
theorem levQ_cast (M : Nat) (a b : List Nat) (m : Nat) : levP (M : Int) a b (m : Int) = ((levQ M a b m : Nat) : Int) := by
  unfold levP levQ
  split
  · rfl
  · exact tailQ_cast ..
noncomputable def distQ (s c : Nat) (w : List Nat) : Int := ((levQ 9223372036854775807 w (rulerN s c) (2 * (rulerN s c).length) : Nat) : Int)
theorem distQ_eq (s c : Nat) : distN s c = distQ s c := by
  funext w
  exact levQ_cast 9223372036854775807 w (rulerN s c) (2 * (rulerN s c).length)

/-! the distances that are met, each shown once -/
noncomputable def tab4 : List (List Nat × Nat) := [([97], 26), ([98], 26), ([99], 26), ([100], 26), ([97, 98], 24), ([97, 99], 24), ([97, 100], 24), ([98, 97], 26), ([98, 99], 24), ([98, 100], 24), ([99, 97], 26), ([99, 100], 24), ([100, 97], 26), ([97, 98, 99], 22), ([97, 98, 100], 22), ([97, 99, 98], 24), ([97, 99, 100], 22), ([97, 100, 98], 24), ([98, 97, 99], 24), ([98, 97, 100], 24), ([98, 99, 97], 24), ([98, 99, 100], 22), ([98, 100, 97], 24), ([99, 97, 98], 24), ([99, 97, 100], 24), ([99, 100, 97], 24), ([100, 97, 98], 24), ([97, 98, 99, 100], 20), ([97, 98, 100, 99], 22), ([97, 99, 98, 100], 22), ([97, 99, 100, 98], 22), ([97, 100, 98, 99], 22), ([98, 97, 99, 100], 22), ([98, 97, 100, 99], 24), ([98, 99, 97, 100], 22), ([98, 99, 100, 97], 22), ([98, 100, 97, 99], 24), ([99, 97, 98, 100], 22), ([99, 97, 100, 98], 24), ([99, 100, 97, 98], 24), ([100, 97, 98, 99], 22)]
noncomputable def tab5 : List (List Nat × Nat) := [([97], 32), ([98], 32), ([99], 32), ([100], 32), ([101], 32), ([97, 98], 30), ([97, 99], 30), ([97, 100], 30), ([97, 101], 30), ([98, 97], 32), ([98, 99], 30), ([98, 100], 30), ([98, 101], 30), ([99, 97], 32), ([99, 100], 30), ([99, 101], 30), ([100, 97], 32), ([100, 101], 30), ([101, 97], 32), ([97, 98, 99], 28), ([97, 98, 100], 28), ([97, 98, 101], 28), ([97, 99, 98], 30), ([97, 99, 100], 28), ([97, 99, 101], 28), ([97, 100, 98], 30), ([97, 100, 101], 28), ([97, 101, 98], 30), ([98, 97, 99], 30), ([98, 97, 100], 30), ([98, 97, 101], 30), ([98, 99, 97], 30), ([98, 99, 100], 28), ([98, 99, 101], 28), ([98, 100, 97], 30), ([98, 100, 101], 28), ([98, 101, 97], 30), ([99, 97, 98], 30), ([99, 97, 100], 30), ([99, 97, 101], 30), ([99, 100, 97], 30), ([99, 100, 101], 28), ([99, 101, 97], 30), ([100, 97, 98], 30), ([100, 97, 101], 30), ([100, 101, 97], 30), ([101, 97, 98], 30), ([97, 98, 99, 100], 26), ([97, 98, 99, 101], 26), ([97, 98, 100, 99], 28), ([97, 98, 100, 101], 26), ([97, 98, 101, 99], 28), ([97, 99, 98, 100], 28), ([97, 99, 98, 101], 28), ([97, 99, 100, 98], 28), ([97, 99, 100, 101], 26), ([97, 99, 101, 98], 28), ([97, 100, 98, 99], 28), ([97, 100, 98, 101], 28), ([97, 100, 101, 98], 28), ([97, 101, 98, 99], 28), ([98, 97, 99, 100], 28), ([98, 97, 99, 101], 28), ([98, 97, 100, 99], 30), ([98, 97, 100, 101], 28), ([98, 97, 101, 99], 30), ([98, 99, 97, 100], 28), ([98, 99, 97, 101], 28), ([98, 99, 100, 97], 28), ([98, 99, 100, 101], 26), ([98, 99, 101, 97], 28), ([98, 100, 97, 99], 30), ([98, 100, 97, 101], 28), ([98, 100, 101, 97], 28), ([98, 101, 97, 99], 30), ([99, 97, 98, 100], 28), ([99, 97, 98, 101], 28), ([99, 97, 100, 98], 30), ([99, 97, 100, 101], 28), ([99, 97, 101, 98], 30), ([99, 100, 97, 98], 30), ([99, 100, 97, 101], 28), ([99, 100, 101, 97], 28), ([99, 101, 97, 98], 30), ([100, 97, 98, 99], 28), ([100, 97, 98, 101], 28), ([100, 97, 101, 98], 30), ([100, 101, 97, 98], 30), ([101, 97, 98, 99], 28), ([97, 98, 99, 100, 101], 24), ([97, 98, 99, 101, 100], 26), ([97, 98, 100, 99, 101], 26), ([97, 98, 100, 101, 99], 26), ([97, 98, 101, 99, 100], 26), ([97, 99, 98, 100, 101], 26), ([97, 99, 98, 101, 100], 28), ([97, 99, 100, 98, 101], 26), ([97, 99, 100, 101, 98], 26), ([97, 99, 101, 98, 100], 28), ([97, 100, 98, 99, 101], 26), ([97, 100, 98, 101, 99], 28), ([97, 100, 101, 98, 99], 28), ([97, 101, 98, 99, 100], 26), ([98, 97, 99, 100, 101], 26), ([98, 97, 99, 101, 100], 28), ([98, 97, 100, 99, 101], 28), ([98, 97, 100, 101, 99], 28), ([98, 97, 101, 99, 100], 28), ([98, 99, 97, 100, 101], 26), ([98, 99, 97, 101, 100], 28), ([98, 99, 100, 97, 101], 26), ([98, 99, 100, 101, 97], 26), ([98, 99, 101, 97, 100], 28), ([98, 100, 97, 99, 101], 28), ([98, 100, 97, 101, 99], 28), ([98, 100, 101, 97, 99], 28), ([98, 101, 97, 99, 100], 28), ([99, 97, 98, 100, 101], 26), ([99, 97, 98, 101, 100], 28), ([99, 97, 100, 98, 101], 28), ([99, 97, 100, 101, 98], 28), ([99, 97, 101, 98, 100], 28), ([99, 100, 97, 98, 101], 28), ([99, 100, 97, 101, 98], 28), ([99, 100, 101, 97, 98], 28), ([99, 101, 97, 98, 100], 28), ([100, 97, 98, 99, 101], 26), ([100, 97, 98, 101, 99], 28), ([100, 97, 101, 98, 99], 28), ([100, 101, 97, 98, 99], 28), ([101, 97, 98, 99, 100], 26)]
noncomputable def tabOk (s : Nat) (t : List (List Nat × Nat)) : Bool := t.all fun p => Nat.beq (levQ 9223372036854775807 p.1 (rulerN s 0) (2 * (rulerN s 0).length)) p.2
noncomputable def lkT (t : List (List Nat × Nat)) (w : List Nat) : Int := (((t.lookup w).getD 0 : Nat) : Int)
theorem lkT_ok {s : Nat} {t : List (List Nat × Nat)} (h : tabOk s t = true) {w : List Nat} (hw : (t.lookup w).isSome = true) : distN s 0 w = lkT t w := by
  obtain ⟨d, hd⟩ := Option.isSome_iff_exists.mp hw
  have hm : (w, d) ∈ t := by
    clear h hw
    induction t with
    | nil => simp at hd
    | cons p t ih =>
      obtain ⟨v, e⟩ := p
      rw [List.lookup_cons] at hd
      split at hd
      · rename_i q
        have q : w = v := by simpa using q
        subst q
        cases hd
        exact List.mem_cons_self ..
      · exact List.mem_cons_of_mem _ (ih hd)
  have := List.all_eq_true.mp h _ hm
  have e := Nat.eq_of_beq_eq_true this
  rw [distQ_eq]
  unfold distQ lkT
  rw [hd]
  exact congrArg _ e
noncomputable def GoodT (s : Nat) (t : List (List Nat × Nat)) (w : List Nat) : Bool := decide (w.length = 2 * s) && w.all (fun c => c == 40 || c == 41) && chkR w && !chkR (40 :: w) && !chkR (w ++ [41]) && (match orderN w with
  | some o => decide (o.length = s) && o.all (fun k => decide (k < s)) && ((lesserN s (o.map (97 + ·))).all fun v => (t.lookup v).isSome) && ((prefN s (o.map (97 + ·))).all fun v => (t.lookup v).isSome) &&
      (toldP (lkT t) (2 * ((rulerN s 0).length : Int)) 40 41 (lesserN s (o.map (97 + ·))) ++ (toldP (lkT t) (2 * ((rulerN s 0).length : Int)) 41 40 (prefN s (o.map (97 + ·)))).reverse == w)
  | none => false)
theorem told_same {F G : List Nat → Int} {z : Int} {s0 s1 : Nat} {ws : List (List Nat)} (h : ∀ w ∈ ws, F w = G w) : toldP F z s0 s1 ws = toldP G z s0 s1 ws := by
  have go : ∀ (ws : List (List Nat)) (a : List Nat × Int), (∀ w ∈ ws, F w = G w) → ws.foldl (toldF F s0 s1) a = ws.foldl (toldF G s0 s1) a := by
    intro ws
    induction ws with
    | nil => intro a _; rfl
    | cons w ws ih =>
      intro a h
      have e : toldF F s0 s1 a w = toldF G s0 s1 a w := by unfold toldF; rw [h w (List.mem_cons_self ..)]
      rw [List.foldl_cons, List.foldl_cons, e]
      exact ih _ fun v hv => h v (List.mem_cons_of_mem _ hv)
  unfold toldP
  rw [go ws _ h]
theorem good_of {s : Nat} {t : List (List Nat × Nat)} (h : tabOk s t = true) {w : List Nat} (g : GoodT s t w = true) : Good s w = true := by
  unfold GoodT at g
  unfold Good
  rw [Bool.and_eq_true] at g ⊢
  refine ⟨g.1, ?_⟩
  have g2 := g.2
  revert g2
  cases orderN w with
  | none => exact fun q => q
  | some o =>
    intro q
    simp only [Bool.and_eq_true, List.all_eq_true] at q
    obtain ⟨⟨⟨q1, q2⟩, q3⟩, q4⟩ := q
    simp only
    rw [told_same (F := distN s 0) (G := lkT t) fun v hv => lkT_ok h (q2 v hv), told_same (F := distN s 0) (G := lkT t) fun v hv => lkT_ok h (q3 v hv)]
    rw [Bool.and_eq_true, Bool.and_eq_true, List.all_eq_true]
    exact ⟨q1, q4⟩
theorem all_cut {α : Type} {p : α → Bool} {l : List α} (n : Nat) (h1 : (l.take n).all p = true) (h2 : (l.drop n).all p = true) : l.all p = true := by
  rw [← List.take_append_drop n l, List.all_append, h1, h2]
  rfl
theorem tab4_ok : tabOk 4 tab4 = true := by decide +kernel
theorem tab5_a : tabOk 5 (tab5.take 45) = true := by decide +kernel
theorem tab5_b : tabOk 5 ((tab5.drop 45).take 45) = true := by decide +kernel
theorem tab5_c : tabOk 5 ((tab5.drop 45).drop 45) = true := by decide +kernel
theorem tab5_ok : tabOk 5 tab5 = true := all_cut 45 tab5_a (all_cut 45 tab5_b tab5_c)
theorem rows4 : (gen 8 0 4).all (GoodT 4 tab4) = true := by decide +kernel
theorem rows5a : ((gen 10 0 5).take 14).all (GoodT 5 tab5) = true := by decide +kernel
theorem rows5b : (((gen 10 0 5).drop 14).take 14).all (GoodT 5 tab5) = true := by decide +kernel
theorem rows5c : (((gen 10 0 5).drop 14).drop 14).all (GoodT 5 tab5) = true := by decide +kernel
theorem rows5 : (gen 10 0 5).all (GoodT 5 tab5) = true := all_cut 14 rows5a (all_cut 14 rows5b rows5c)
theorem good_4 : ∀ w ∈ gen 8 0 4, Good 4 w = true := fun w hw => good_of tab4_ok (List.all_eq_true.mp rows4 w hw)
theorem good_5 : ∀ w ∈ gen 10 0 5, Good 5 w = true := fun w hw => good_of tab5_ok (List.all_eq_true.mp rows5 w hw)

theorem b1_at : ∀ i, i < 27 → b1S (((b1L.getD i 0).toNat : Nat) : Int) = true := by decide +kernel
theorem let_at : ∀ b ∈ ([97, 65, 119808] : List Nat), ∀ k, k < 5 → b1S ((b + k : Nat) : Int) = false ∧ isLet (b + k) = true ∧ lowN (b + k) = 97 + k := by decide +kernel
theorem shape_at (x : Int) : ∃ b ∈ ([97, 65, 119808] : List Nat), shapeN x = ((b : Nat) : Int) := by
  have r := fmod_range (x.fdiv 8) (n := 3) (by decide)
  unfold shapeN
  have : ((x.fdiv 8).fmod 3).toNat = 0 ∨ ((x.fdiv 8).fmod 3).toNat = 1 ∨ ((x.fdiv 8).fmod 3).toNat = 2 := by omega
  rcases this with e | e | e <;> rw [e]
  · exact ⟨97, by simp, rfl⟩
  · exact ⟨65, by simp, rfl⟩
  · exact ⟨119808, by simp, rfl⟩
theorem hid_at (x : Int) : hidN x = [] ∨ ∃ c, hidN x = [c] ∧ b1S ((c : Nat) : Int) = true := by
  unfold hidN
  split
  · have r := fmod_range (x.fdiv 48) (n := 27) (by decide)
    exact .inr ⟨_, rfl, b1_at _ (by omega)⟩
  · exact .inl rfl
theorem typed_prep (x : Int) {k : Nat} (hk : k < 5) : (hidN x ++ [(shapeN x + k).toNat]).flatMap prepN = [97 + k] ∧ (∀ c ∈ hidN x ++ [(shapeN x + k).toNat], okN c = true) ∧ (hidN x ++ [(shapeN x + k).toNat]).length ≤ 2 := by
  obtain ⟨b, hb, e⟩ := shape_at x
  obtain ⟨h1, h2, h3⟩ := let_at b hb k hk
  have e' : (shapeN x + k).toNat = b + k := by rw [e]; omega
  rw [e']
  have p2 : prepN (b + k) = [97 + k] := by unfold prepN; rw [h1]; simp [h3]
  have o2 : okN (b + k) = true := by unfold okN; rw [h2]; simp
  rcases hid_at x with h | ⟨c, h, hc⟩
  · rw [h]
    refine ⟨by simp [p2], fun c hc => ?_, by simp⟩
    simp at hc
    rw [hc]; exact o2
  · rw [h]
    have p1 : prepN c = [] := by unfold prepN; rw [hc]; rfl
    refine ⟨by simp [p1, p2], fun d hd => ?_, by simp⟩
    simp at hd
    rcases hd with rfl | rfl
    · unfold okN; rw [hc]; rfl
    · exact o2
theorem typed_all (xs : List Int) : ∀ (l : List (Int × Nat)), (∀ p ∈ l, p.2 < 5) → (l.flatMap fun p => hidN p.1 ++ [(shapeN p.1 + p.2).toNat]).flatMap prepN = l.map (fun p => 97 + p.2) ∧ (∀ c ∈ l.flatMap fun p => hidN p.1 ++ [(shapeN p.1 + p.2).toNat], okN c = true) ∧ (l.flatMap fun p => hidN p.1 ++ [(shapeN p.1 + p.2).toNat]).length ≤ 2 * l.length
  | [], _ => by simp
  | p :: l, h => by
    obtain ⟨a1, a2, a3⟩ := typed_prep p.1 (h p (List.mem_cons_self ..))
    obtain ⟨b1, b2, b3⟩ := typed_all xs l fun q hq => h q (List.mem_cons_of_mem _ hq)
    rw [List.flatMap_cons]
    refine ⟨by rw [List.flatMap_append, a1, b1]; simp, fun c hc => ?_, by rw [List.length_append, List.length_cons]; omega⟩
    rcases List.mem_append.mp hc with h | h
    · exact a2 c h
    · exact b2 c h

/-! the ruler -/
theorem ruler_prep : ∀ s, s = 3 ∨ s = 4 ∨ s = 5 → ∀ i, i < 27 → (rulerN s (b1L.getD i 0).toNat).flatMap prepN = (List.range s).map (97 + ·) ∧ (∀ c ∈ rulerN s (b1L.getD i 0).toNat, okN c = true) := by
  have h3 : ∀ i, i < 27 → (rulerN 3 (b1L.getD i 0).toNat).flatMap prepN = (List.range 3).map (97 + ·) ∧ (∀ c ∈ rulerN 3 (b1L.getD i 0).toNat, okN c = true) := by decide +kernel
  have h4 : ∀ i, i < 27 → (rulerN 4 (b1L.getD i 0).toNat).flatMap prepN = (List.range 4).map (97 + ·) ∧ (∀ c ∈ rulerN 4 (b1L.getD i 0).toNat, okN c = true) := by decide +kernel
  have h5 : ∀ i, i < 27 → (rulerN 5 (b1L.getD i 0).toNat).flatMap prepN = (List.range 5).map (97 + ·) ∧ (∀ c ∈ rulerN 5 (b1L.getD i 0).toNat, okN c = true) := by decide +kernel
  intro s hs i hi
  rcases hs with rfl | rfl | rfl
  · exact h3 i hi
  · exact h4 i hi
  · exact h5 i hi

/-! the distance sees signs only by their being the same -/
section
variable {f : Nat → Nat} (hf : ∀ x y, f x = f y → x = y)
include hf
theorem cpl_map : ∀ a b : List Nat, cpl (a.map f) (b.map f) = cpl a b
  | x :: a, y :: b => by
    simp only [List.map_cons, cpl]
    by_cases h : x = y
    · subst h; simp [cpl_map a b]
    · have : ¬ f x = f y := fun e => h (hf _ _ e)
      simp [h, this]
  | [], b => by cases b <;> rfl
  | _ :: _, [] => rfl
theorem inF_map (a : List Nat) (bc : Nat) (s : List Int × Int × Int × Int) (i : Nat) : inF (a.map f) (f bc) s i = inF a bc s i := by
  have e : ((a.map f)[i]? = some (f bc)) = (a[i]? = some bc) := by
    rw [List.getElem?_map]
    cases a[i]? with
    | none => simp
    | some x => simp only [Option.map_some, Option.some.injEq]; exact propext ⟨hf _ _, fun e => by rw [e]⟩
  unfold inF
  simp only [e]
theorem outF_map (M : Int) (a b : List Nat) (m : Int) (s : List Int × Int) (j : Nat) (hj : j < b.length) : outF M (a.map f) (b.map f) m s j = outF M a b m s j := by
  have e : (b.map f).getD j 0 = f (b.getD j 0) := by simp [hj]
  have e2 : inF (a.map f) (f (b.getD j 0)) = inF a (b.getD j 0) := by
    funext s i
    exact inF_map hf a _ s i
  unfold outF
  rw [e, e2, List.length_map]
omit hf in
theorem foldlM_congr {α β : Type} {g h : α → β → Option α} : ∀ (l : List β) (a : α), (∀ x ∈ l, ∀ a, g a x = h a x) → l.foldlM g a = l.foldlM h a
  | [], _, _ => rfl
  | x :: l, a, e => by
    rw [List.foldlM_cons, List.foldlM_cons, e x (List.mem_cons_self ..) a]
    congr 1
    funext b
    exact foldlM_congr l b fun y hy => e y (List.mem_cons_of_mem _ hy)
theorem dpP_map (M : Int) (a b : List Nat) (m : Int) : dpP M (a.map f) (b.map f) m = dpP M a b m := by
  unfold dpP
  rw [List.length_map, List.length_map, foldlM_congr (h := outF M a b m) _ _ fun j hj s => outF_map hf M a b m s j (by simpa using hj)]
theorem tailP_map (M : Int) (a b : List Nat) (m : Int) : tailP M (a.map f) (b.map f) m = tailP M a b m := by
  unfold tailP
  rw [dpP_map hf, dpP_map hf]
  simp
theorem levP_map (M : Int) (a b : List Nat) (m : Int) : levP M (a.map f) (b.map f) m = levP M a b m := by
  have inj : (a.map f = b.map f) = (a = b) := propext ⟨fun e => by
    have : Function.Injective f := hf
    exact (List.map_inj_right this).mp e, fun e => by rw [e]⟩
  unfold levP cutEnd
  simp only [inj, cpl_map hf, ← List.map_drop, ← List.map_reverse, ← List.map_take, List.length_map, tailP_map hf]
end

noncomputable def swp (c x : Nat) : Nat := if x = 0 then c else if x = c then 0 else x
theorem swp_inj (c : Nat) : ∀ x y, swp c x = swp c y → x = y := by
  intro x y h
  unfold swp at h
  split at h <;> split at h <;> (repeat' split at h) <;> omega

theorem b1_not {c : Nat} (h : b1S c = true) : ¬ (97 ≤ c ∧ c ≤ 101) := by
  intro ⟨h1, h2⟩
  have : c = 97 ∨ c = 98 ∨ c = 99 ∨ c = 100 ∨ c = 101 := by omega
  rcases this with rfl | rfl | rfl | rfl | rfl <;> exact absurd h (by decide +kernel)

theorem ruler_swp {s c : Nat} (hs : s ≤ 5) (hc : b1S c = true) : (rulerN s 0).map (swp c) = rulerN s c := by
  have hn := b1_not hc
  have l : ∀ k, k < 5 → swp c (97 + k) = 97 + k := fun k hk => by
    unfold swp
    rw [if_neg (by omega), if_neg (by omega)]
  have z : swp c 0 = c := by simp [swp]
  unfold rulerN
  rw [List.map_append, List.map_replicate, z, List.map_flatMap]
  congr 1
  rw [List.flatMap_def, List.flatMap_def]
  congr 1
  apply List.map_congr_left
  intro k hk
  have hk : k < s := by simpa using hk
  simp [z, l k (by omega)]

theorem dist_c (s c : Nat) (w : List Nat) (hs : s ≤ 5) (hc : b1S c = true) (hw : ∀ x ∈ w, 97 ≤ x ∧ x ≤ 101) : distN s c w = distN s 0 w := by
  have hn := b1_not hc
  have e : w.map (swp c) = w := by
    have : w.map (swp c) = w.map id := by
      apply List.map_congr_left
      intro x hx
      have := hw x hx
      unfold swp
      rw [if_neg (by omega), if_neg (by omega)]
      rfl
    rw [this, List.map_id]
  unfold distN
  rw [← ruler_swp hs hc, List.length_map]
  conv => lhs; rw [← e]
  exact levP_map (swp_inj c) _ _ _ _

theorem evComp_at {β : Type} {rec : RE} {recT : RT} {sc : Names} {t elt : Expr} {ifs : List Expr} {L : List D} {σ : Vars} {E : Option (List D)} (hE : evComp rec recT sc t elt ifs L σ = E) (l : List β) (enc : β → D) (st : Option β → Vars) (p : β → Bool) (h : β → D)
    (hL : L = l.map enc) (hσ : σ = st none) (h0 : ∀ x ∈ l, flatD (enc x) = true ∧ nameOk t (enc x) = true) (h1 : ∀ o, ∀ x ∈ l, assignD sc t (enc x) (st o) = some (st (some x))) (h2 : ∀ x ∈ l, ifsT recT sc (st (some x)) ifs = some (p x))
    (h3 : ∀ x ∈ l, p x = true → rec sc (st (some x)) elt = some (h x) ∧ scalarD (h x) = true) : E = some ((l.filter p).map h) := by
  have go : ∀ (l : List β) (o : Option β), (∀ x ∈ l, flatD (enc x) = true ∧ nameOk t (enc x) = true) → (∀ o, ∀ x ∈ l, assignD sc t (enc x) (st o) = some (st (some x))) → (∀ x ∈ l, ifsT recT sc (st (some x)) ifs = some (p x)) →
      (∀ x ∈ l, p x = true → rec sc (st (some x)) elt = some (h x) ∧ scalarD (h x) = true) → evComp rec recT sc t elt ifs (l.map enc) (st o) = some ((l.filter p).map h) := by
    intro l
    induction l with
    | nil => intro o _ _ _ _; rfl
    | cons x l ih =>
      intro o h0 h1 h2 h3
      have r := ih (some x) (fun y hy => h0 y (List.mem_cons_of_mem _ hy)) (fun o y hy => h1 o y (List.mem_cons_of_mem _ hy)) (fun y hy => h2 y (List.mem_cons_of_mem _ hy)) (fun y hy => h3 y (List.mem_cons_of_mem _ hy))
      have m := List.mem_cons_self (a := x) (l := l)
      rw [List.map_cons]
      unfold evComp
      rw [(h0 x m).1, (h0 x m).2, h1 o x m]
      simp only [Bool.and_self, if_true, Option.bind_some, h2 x m]
      cases hp : p x with
      | false =>
        simp only [Bool.false_eq_true, if_false]
        rw [r]
        simp [hp]
      | true =>
        obtain ⟨h4, h5⟩ := h3 x m hp
        simp only [if_true, h4, Option.bind_some, h5]
        rw [r]
        simp [hp]
  subst hL hσ
  rw [← hE]
  exact go l none h0 h1 h2 h3

theorem sliceL_map {α β : Type} (f : α → β) (lo hi st : Option Int) (l : List α) : sliceL lo hi st (l.map f) = (sliceL lo hi st l).map f := by
  unfold sliceL
  rw [List.length_map]
  generalize sliceRange _ _ _ = is
  induction is with
  | nil => rfl
  | cons i is ih =>
    rw [List.filterMap_cons, List.filterMap_cons, List.getElem?_map]
    cases l[i]? <;> simp only [Option.map_none, Option.map_some, List.map_cons, ih]
theorem intsOf_map : ∀ l : List Int, intsOf (l.map .int) = some l
  | [] => rfl
  | x :: l => congrArg (Option.map (x :: ·)) (intsOf_map l)
noncomputable def baseL : List Int := [8, 45, 6, 1, 2, 0, 7, 12, 3, 16]
theorem item_base {k : Nat} (h : k < 10) : itemD (.tuple [.int 8, .int 45, .int 6, .int 1, .int 2, .int 0, .int 7, .int 12, .int 3, .int 16]) (k : Int) = some (.int (baseL.getD k 0)) := by
  match k, h with
  | 0, _ | 1, _ | 2, _ | 3, _ | 4, _ | 5, _ | 6, _ | 7, _ | 8, _ | 9, _ => rfl
  | _ + 10, h => exact absurd h (Nat.not_lt.mpr (Nat.le_add_left ..))

noncomputable def nuN (s : Nat) (script : List Int) (k : Nat) : Int := baseL.getD k 0 + (sliceL (some (k : Int)) (some 30) (some (2 * (s : Int))) script).sum
noncomputable def jN (x : Int) : Nat := ((x.fdiv 2).fmod 4).toNat

/-- what the law's calls answer -/
structure LT (T : Tabs) : Prop where
  hb : T.bi = biV
  hg : T.gl = glD
  hgn : ∀ ds, T.gn (⟨⟨[114, 97, 110, 103, 101]⟩⟩ : Str) ds = none
  row : ∀ ns : List Int, ns.length ≤ 100 → T.fn (⟨⟨[95, 108, 97, 119, 95, 114, 111, 119]⟩⟩ : Str) [.list (ns.map .int)] = some (.str (rowP ns))
  check : ∀ ps, Par ps → (txt ps).length ≤ 1000 → (stp ps).length ≤ 1000 → T.fn (⟨⟨[95, 99, 104, 101, 99, 107, 95, 112, 97, 114, 101, 110, 116, 104, 101, 115, 105, 115]⟩⟩ : Str) [.str (txt ps)] = some (.bool (chkR (ps.map (·.1))))
  strip : ∀ ps, Par ps → (txt ps).length ≤ 1000 → (stp ps).length ≤ 1000 → T.fn (⟨⟨[95, 115, 116, 114, 105, 112, 95, 113, 117, 111, 116, 101, 100, 95, 114, 101, 97, 108, 110, 97, 109, 101, 115]⟩⟩ : Str) [.str (txt ps)] = some (.str (stp ps))
  gn : ∀ ps, Par ps → T.gn (⟨⟨[95, 105, 116, 101, 114, 95, 101, 115, 99, 97, 112, 101, 100, 95, 99, 104, 97, 114, 115]⟩⟩ : Str) [.str (stp ps)] = some ((escN 0 false (stp ps)).map encU)
  order : ∀ w o, orderN w = some o → T.fn (⟨⟨[95, 108, 97, 119, 95, 111, 114, 100, 101, 114]⟩⟩ : Str) [.str w] = some (.list (o.map fun n => .int (n : Nat)))
  prep : ∀ x, (∀ c ∈ x, okN c = true) → x.length ≤ 1000 → T.fn (⟨⟨[95, 108, 97, 119, 95, 112, 114, 101, 112, 97, 114, 101, 100]⟩⟩ : Str) [.str x] = some (.str (x.flatMap prepN))
  typed : ∀ (k : Nat) (x : Int), k ≤ 4 → T.fn (⟨⟨[95, 108, 97, 119, 95, 116, 121, 112, 101, 100]⟩⟩ : Str) [.int (k : Nat), .int x] = some (.str (hidN x ++ [(shapeN x + k).toNat]))
  unseen : T.fn (⟨⟨[95, 108, 97, 119, 95, 117, 110, 115, 101, 101, 110]⟩⟩ : Str) [] = some (.list (b1L.map .int))
  told : ∀ (s : Nat) (c s0 s1 : Nat) (ws : List (List Nat)), s ≤ 5 → (b1S c = true) → ws.length ≤ 100 → (∀ w ∈ ws, w.length ≤ 40 ∧ ∀ x ∈ w, 97 ≤ x ∧ x ≤ 101) →
    T.fn (⟨⟨[95, 108, 97, 119, 95, 116, 111, 108, 100]⟩⟩ : Str) [.list (ws.map .str), .str (rulerN s c), .str [s0, s1]] = some (.str (toldP (distN s c) (2 * ((rulerN s c).length : Int)) s0 s1 ws))

theorem item_strN {w : List Nat} {k : Nat} (hk : k < w.length) (hw : w.length ≤ 100) : itemD (.str w) (k : Int) = some (.str [w.getD k 0]) :=
  item_str (k := k) (by rw [seqIndex_pos (by omega) (by omega)]; congr 1) (small_of (by omega)) _ (by simp [hk])

theorem take_slice {x : List Nat} {k : Nat} (h : k + 1 ≤ x.length) : sliceL none (some ((k : Int) + 1)) none x = x.take (k + 1) := by
  rw [sliceL_plain]
  have c1 : clipAt x.length ((k : Int) + 1) = k + 1 := clip_nat (k := k + 1) h
  simp [c1]
theorem rev_slice {l : List Nat} (h : l.length = 3 ∨ l.length = 4 ∨ l.length = 5) : sliceL none none (some (-1)) l = l.reverse := by
  rcases h with h | h | h
  · unfold sliceL
    rw [h, show sliceRange (sliceBounds none none (some (-1)) 3).1 (sliceBounds none none (some (-1)) 3).2.1 (sliceBounds none none (some (-1)) 3).2.2 = [2, 1, 0] from by decide +kernel]
    match l, h with | [a, b, c], _ => rfl
  · unfold sliceL
    rw [h, show sliceRange (sliceBounds none none (some (-1)) 4).1 (sliceBounds none none (some (-1)) 4).2.1 (sliceBounds none none (some (-1)) 4).2.2 = [3, 2, 1, 0] from by decide +kernel]
    match l, h with | [a, b, c, d], _ => rfl
  · unfold sliceL
    rw [h, show sliceRange (sliceBounds none none (some (-1)) 5).1 (sliceBounds none none (some (-1)) 5).2.1 (sliceBounds none none (some (-1)) 5).2.2 = [4, 3, 2, 1, 0] from by decide +kernel]
    match l, h with | [a, b, c, d, e], _ => rfl
theorem toldP_len (F : List Nat → Int) (z : Int) (s0 s1 : Nat) (ws : List (List Nat)) : (toldP F z s0 s1 ws).length = ws.length := by
  have go : ∀ (ws : List (List Nat)) (a : List Nat × Int), (ws.foldl (toldF F s0 s1) a).1.length = a.1.length + ws.length := by
    intro ws
    induction ws with
    | nil => intro a; rfl
    | cons w ws ih => intro a; rw [List.foldl_cons, ih]; simp [toldF]; omega
  unfold toldP
  rw [go]
  simp
theorem toldP_congr {F G : List Nat → Int} {z : Int} {s0 s1 : Nat} {ws : List (List Nat)} (h : ∀ w ∈ ws, F w = G w) : toldP F z s0 s1 ws = toldP G z s0 s1 ws := by
  have go : ∀ (ws : List (List Nat)) (a : List Nat × Int), (∀ w ∈ ws, F w = G w) → ws.foldl (toldF F s0 s1) a = ws.foldl (toldF G s0 s1) a := by
    intro ws
    induction ws with
    | nil => intro a _; rfl
    | cons w ws ih =>
      intro a h
      have e : toldF F s0 s1 a w = toldF G s0 s1 a w := by unfold toldF; rw [h w (List.mem_cons_self ..)]
      rw [List.foldl_cons, List.foldl_cons, e]
      exact ih _ fun v hv => h v (List.mem_cons_of_mem _ hv)
  unfold toldP
  rw [go ws _ h]
theorem ruler_len (s c d : Nat) : (rulerN s c).length = (rulerN s d).length := by
  unfold rulerN
  simp only [List.length_append, List.length_replicate, List.length_flatMap, List.length_cons]

theorem item_ins {j : Int} (h0 : 0 ≤ j) (h1 : j < 4) : itemD (.list [.str [], .str [92, 40], .str [92, 41], .str [34, 40, 34]]) j = some (.str (ins j.toNat)) := by
  have : j = 0 ∨ j = 1 ∨ j = 2 ∨ j = 3 := by omega
  rcases this with e | e | e | e <;> subst e <;> rfl
theorem ins_len (j : Nat) : (ins j).length ≤ 3 := by
  rcases ins_cases j with ⟨_, e, _⟩ | ⟨_, e, _⟩ | ⟨_, e, _⟩ | ⟨_, e, _⟩ <;> rw [e] <;> decide
theorem ins'_len (j : Nat) : (ins' j).length ≤ 3 := by
  rcases ins_cases j with ⟨_, _, e⟩ | ⟨_, _, e⟩ | ⟨_, _, e⟩ | ⟨_, _, e⟩ <;> rw [e] <;> decide
theorem txt_len : ∀ ps : Ps, (txt ps).length ≤ 4 * ps.length
  | [] => by simp [txt]
  | p :: ps => by
    rw [txt_cons]
    have := txt_len ps
    have := ins_len p.2
    simp
    omega
theorem stp_len : ∀ ps : Ps, (stp ps).length ≤ 4 * ps.length
  | [] => by simp [stp]
  | p :: ps => by
    rw [stp_cons]
    have := stp_len ps
    have := ins'_len p.2
    simp
    omega

noncomputable def KL22 : List Str := [(⟨⟨[115, 99, 114, 105, 112, 116]⟩⟩ : Str), (⟨⟨[115, 105, 122, 101]⟩⟩ : Str), (⟨⟨[110, 117, 109, 98, 101, 114, 115]⟩⟩ : Str), (⟨⟨[114, 111, 119]⟩⟩ : Str), (⟨⟨[116, 101, 120, 116]⟩⟩ : Str), (⟨⟨[117, 110, 105, 116, 115]⟩⟩ : Str), (⟨⟨[111, 114, 100, 101, 114]⟩⟩ : Str), (⟨⟨[119, 111, 114, 100]⟩⟩ : Str), (⟨⟨[114, 111, 111, 109]⟩⟩ : Str), (⟨⟨[114, 117, 108, 101, 114]⟩⟩ : Str), (⟨⟨[108, 101, 115, 115, 101, 114]⟩⟩ : Str), (⟨⟨[102, 105, 114, 115, 116]⟩⟩ : Str), (⟨⟨[115, 101, 99, 111, 110, 100]⟩⟩ : Str)]
@[local simp] theorem s22_1 : storable (fnAt 22).2.1 (⟨⟨[115, 105, 122, 101]⟩⟩ : Str) = true := rfl
@[local simp] theorem s22_2 : storable (fnAt 22).2.1 (⟨⟨[110, 117, 109, 98, 101, 114, 115]⟩⟩ : Str) = true := rfl
@[local simp] theorem s22_3 : storable (fnAt 22).2.1 (⟨⟨[114, 111, 119]⟩⟩ : Str) = true := rfl
@[local simp] theorem s22_4 : storable (fnAt 22).2.1 (⟨⟨[116, 101, 120, 116]⟩⟩ : Str) = true := rfl
@[local simp] theorem s22_5 : storable (fnAt 22).2.1 (⟨⟨[117, 110, 105, 116, 115]⟩⟩ : Str) = true := rfl
@[local simp] theorem s22_6 : storable (fnAt 22).2.1 (⟨⟨[111, 114, 100, 101, 114]⟩⟩ : Str) = true := rfl
@[local simp] theorem s22_7 : storable (fnAt 22).2.1 (⟨⟨[119, 111, 114, 100]⟩⟩ : Str) = true := rfl
@[local simp] theorem s22_8 : storable (fnAt 22).2.1 (⟨⟨[114, 111, 111, 109]⟩⟩ : Str) = true := rfl
@[local simp] theorem s22_9 : storable (fnAt 22).2.1 (⟨⟨[114, 117, 108, 101, 114]⟩⟩ : Str) = true := rfl
@[local simp] theorem s22_10 : storable (fnAt 22).2.1 (⟨⟨[108, 101, 115, 115, 101, 114]⟩⟩ : Str) = true := rfl
@[local simp] theorem s22_11 : storable (fnAt 22).2.1 (⟨⟨[102, 105, 114, 115, 116]⟩⟩ : Str) = true := rfl
@[local simp] theorem s22_12 : storable (fnAt 22).2.1 (⟨⟨[115, 101, 99, 111, 110, 100]⟩⟩ : Str) = true := rfl
@[local simp] theorem bd22_0 : badN (⟨⟨[115, 99, 114, 105, 112, 116]⟩⟩ : Str) = false := rfl
@[local simp] theorem bd22_1 : badN (⟨⟨[115, 105, 122, 101]⟩⟩ : Str) = false := rfl
@[local simp] theorem bd22_5 : badN (⟨⟨[117, 110, 105, 116, 115]⟩⟩ : Str) = false := rfl
@[local simp] theorem bd22_8 : badN (⟨⟨[114, 111, 111, 109]⟩⟩ : Str) = false := rfl
@[local simp] theorem bd22_10 : badN (⟨⟨[108, 101, 115, 115, 101, 114]⟩⟩ : Str) = false := rfl
@[local simp] theorem bd22_11 : badN (⟨⟨[102, 105, 114, 115, 116]⟩⟩ : Str) = false := rfl
@[local simp] theorem bd22_12 : badN (⟨⟨[115, 101, 99, 111, 110, 100]⟩⟩ : Str) = false := rfl
@[local simp] theorem c22_0 {T : Tabs} {σ : Vars} {ds : List D} (hb : T.bi = biV) (hk : keysIn KL22 σ = true) : callD T (fnAt 22).2.1 σ (⟨⟨[109, 105, 110]⟩⟩ : Str) ds = fnD (.builtin "min") ds := call_bi _ hk rfl rfl rfl (by rw [hb]; rfl)
@[local simp] theorem c22_1 {T : Tabs} {σ : Vars} {ds : List D} (hb : T.bi = biV) (hk : keysIn KL22 σ = true) : callD T (fnAt 22).2.1 σ (⟨⟨[108, 101, 110]⟩⟩ : Str) ds = fnD (.builtin "len") ds := call_bi _ hk rfl rfl rfl (by rw [hb]; rfl)
@[local simp] theorem c22_2 {T : Tabs} {σ : Vars} {ds : List D} (hb : T.bi = biV) (hk : keysIn KL22 σ = true) : callD T (fnAt 22).2.1 σ (⟨⟨[114, 97, 110, 103, 101]⟩⟩ : Str) ds = fnD (.type "range") ds := call_bi _ hk rfl rfl rfl (by rw [hb]; rfl)
@[local simp] theorem n22_2 {T : Tabs} {σ : Vars} {ds : List D} (hk : keysIn KL22 σ = true) : genD T (fnAt 22).2.1 σ (⟨⟨[114, 97, 110, 103, 101]⟩⟩ : Str) ds = T.gn (⟨⟨[114, 97, 110, 103, 101]⟩⟩ : Str) ds := gen_fn hk rfl rfl rfl
@[local simp] theorem nl22_3 : ((⟨⟨[95, 108, 97, 119, 95, 114, 111, 119]⟩⟩ : Str) == ("list" : Str)) = false := Eq.trans rfl rfl
@[local simp] theorem c22_3 {T : Tabs} {σ : Vars} {ds : List D} (hb : T.bi (⟨⟨[95, 108, 97, 119, 95, 114, 111, 119]⟩⟩ : Str) = none) (hk : keysIn KL22 σ = true) : callD T (fnAt 22).2.1 σ (⟨⟨[95, 108, 97, 119, 95, 114, 111, 119]⟩⟩ : Str) ds = T.fn (⟨⟨[95, 108, 97, 119, 95, 114, 111, 119]⟩⟩ : Str) ds := call_fn hk rfl rfl rfl hb
@[local simp] theorem c22_4 {T : Tabs} {σ : Vars} {ds : List D} (hb : T.bi (⟨⟨[95, 99, 104, 101, 99, 107, 95, 112, 97, 114, 101, 110, 116, 104, 101, 115, 105, 115]⟩⟩ : Str) = none) (hk : keysIn KL22 σ = true) : callD T (fnAt 22).2.1 σ (⟨⟨[95, 99, 104, 101, 99, 107, 95, 112, 97, 114, 101, 110, 116, 104, 101, 115, 105, 115]⟩⟩ : Str) ds = T.fn (⟨⟨[95, 99, 104, 101, 99, 107, 95, 112, 97, 114, 101, 110, 116, 104, 101, 115, 105, 115]⟩⟩ : Str) ds := call_fn hk rfl rfl rfl hb
@[local simp] theorem n22_5 {T : Tabs} {σ : Vars} {ds : List D} (hk : keysIn KL22 σ = true) : genD T (fnAt 22).2.1 σ (⟨⟨[95, 105, 116, 101, 114, 95, 101, 115, 99, 97, 112, 101, 100, 95, 99, 104, 97, 114, 115]⟩⟩ : Str) ds = T.gn (⟨⟨[95, 105, 116, 101, 114, 95, 101, 115, 99, 97, 112, 101, 100, 95, 99, 104, 97, 114, 115]⟩⟩ : Str) ds := gen_fn hk rfl rfl rfl
@[local simp] theorem c22_6 {T : Tabs} {σ : Vars} {ds : List D} (hb : T.bi (⟨⟨[95, 115, 116, 114, 105, 112, 95, 113, 117, 111, 116, 101, 100, 95, 114, 101, 97, 108, 110, 97, 109, 101, 115]⟩⟩ : Str) = none) (hk : keysIn KL22 σ = true) : callD T (fnAt 22).2.1 σ (⟨⟨[95, 115, 116, 114, 105, 112, 95, 113, 117, 111, 116, 101, 100, 95, 114, 101, 97, 108, 110, 97, 109, 101, 115]⟩⟩ : Str) ds = T.fn (⟨⟨[95, 115, 116, 114, 105, 112, 95, 113, 117, 111, 116, 101, 100, 95, 114, 101, 97, 108, 110, 97, 109, 101, 115]⟩⟩ : Str) ds := call_fn hk rfl rfl rfl hb
@[local simp] theorem nl22_7 : ((⟨⟨[95, 108, 97, 119, 95, 111, 114, 100, 101, 114]⟩⟩ : Str) == ("list" : Str)) = false := Eq.trans rfl rfl
@[local simp] theorem c22_7 {T : Tabs} {σ : Vars} {ds : List D} (hb : T.bi (⟨⟨[95, 108, 97, 119, 95, 111, 114, 100, 101, 114]⟩⟩ : Str) = none) (hk : keysIn KL22 σ = true) : callD T (fnAt 22).2.1 σ (⟨⟨[95, 108, 97, 119, 95, 111, 114, 100, 101, 114]⟩⟩ : Str) ds = T.fn (⟨⟨[95, 108, 97, 119, 95, 111, 114, 100, 101, 114]⟩⟩ : Str) ds := call_fn hk rfl rfl rfl hb
@[local simp] theorem nl22_8 : ((⟨⟨[95, 108, 97, 119, 95, 112, 114, 101, 112, 97, 114, 101, 100]⟩⟩ : Str) == ("list" : Str)) = false := Eq.trans rfl rfl
@[local simp] theorem c22_8 {T : Tabs} {σ : Vars} {ds : List D} (hb : T.bi (⟨⟨[95, 108, 97, 119, 95, 112, 114, 101, 112, 97, 114, 101, 100]⟩⟩ : Str) = none) (hk : keysIn KL22 σ = true) : callD T (fnAt 22).2.1 σ (⟨⟨[95, 108, 97, 119, 95, 112, 114, 101, 112, 97, 114, 101, 100]⟩⟩ : Str) ds = T.fn (⟨⟨[95, 108, 97, 119, 95, 112, 114, 101, 112, 97, 114, 101, 100]⟩⟩ : Str) ds := call_fn hk rfl rfl rfl hb
@[local simp] theorem c22_9 {T : Tabs} {σ : Vars} {ds : List D} (hb : T.bi = biV) (hk : keysIn KL22 σ = true) : callD T (fnAt 22).2.1 σ (⟨⟨[99, 104, 114]⟩⟩ : Str) ds = fnD (.builtin "chr") ds := call_bi _ hk rfl rfl rfl (by rw [hb]; rfl)
@[local simp] theorem c22_10 {T : Tabs} {σ : Vars} {ds : List D} (hb : T.bi (⟨⟨[95, 108, 97, 119, 95, 117, 110, 115, 101, 101, 110]⟩⟩ : Str) = none) (hk : keysIn KL22 σ = true) : callD T (fnAt 22).2.1 σ (⟨⟨[95, 108, 97, 119, 95, 117, 110, 115, 101, 101, 110]⟩⟩ : Str) ds = T.fn (⟨⟨[95, 108, 97, 119, 95, 117, 110, 115, 101, 101, 110]⟩⟩ : Str) ds := call_fn hk rfl rfl rfl hb
@[local simp] theorem nl22_11 : ((⟨⟨[95, 108, 97, 119, 95, 116, 111, 108, 100]⟩⟩ : Str) == ("list" : Str)) = false := Eq.trans rfl rfl
@[local simp] theorem c22_11 {T : Tabs} {σ : Vars} {ds : List D} (hb : T.bi (⟨⟨[95, 108, 97, 119, 95, 116, 111, 108, 100]⟩⟩ : Str) = none) (hk : keysIn KL22 σ = true) : callD T (fnAt 22).2.1 σ (⟨⟨[95, 108, 97, 119, 95, 116, 111, 108, 100]⟩⟩ : Str) ds = T.fn (⟨⟨[95, 108, 97, 119, 95, 116, 111, 108, 100]⟩⟩ : Str) ds := call_fn hk rfl rfl rfl hb
@[local simp] theorem k22_0 (v0 : D) : keysIn KL22 (((⟨⟨[115, 99, 114, 105, 112, 116]⟩⟩ : Str), v0) :: []) = true := Eq.trans rfl rfl
@[local simp] theorem l22_1 (v0 v1 : D) (r : Vars) : List.lookup (⟨⟨[115, 105, 122, 101]⟩⟩ : Str) (((⟨⟨[115, 99, 114, 105, 112, 116]⟩⟩ : Str), v0) :: ((⟨⟨[115, 105, 122, 101]⟩⟩ : Str), v1) :: r) = some v1 := rfl
@[local simp] theorem k22_1 (v0 v1 : D) : keysIn KL22 (((⟨⟨[115, 99, 114, 105, 112, 116]⟩⟩ : Str), v0) :: ((⟨⟨[115, 105, 122, 101]⟩⟩ : Str), v1) :: []) = true := Eq.trans rfl rfl
@[local simp] theorem a22_1 (d : D) (v0 : D) : setV (⟨⟨[115, 105, 122, 101]⟩⟩ : Str) d [((⟨⟨[115, 99, 114, 105, 112, 116]⟩⟩ : Str), v0)] = [((⟨⟨[115, 99, 114, 105, 112, 116]⟩⟩ : Str), v0), ((⟨⟨[115, 105, 122, 101]⟩⟩ : Str), d)] := rfl
@[local simp] theorem l22_2 (v0 v1 v2 : D) (r : Vars) : List.lookup (⟨⟨[110, 117, 109, 98, 101, 114, 115]⟩⟩ : Str) (((⟨⟨[115, 99, 114, 105, 112, 116]⟩⟩ : Str), v0) :: ((⟨⟨[115, 105, 122, 101]⟩⟩ : Str), v1) :: ((⟨⟨[110, 117, 109, 98, 101, 114, 115]⟩⟩ : Str), v2) :: r) = some v2 := rfl
@[local simp] theorem k22_2 (v0 v1 v2 : D) : keysIn KL22 (((⟨⟨[115, 99, 114, 105, 112, 116]⟩⟩ : Str), v0) :: ((⟨⟨[115, 105, 122, 101]⟩⟩ : Str), v1) :: ((⟨⟨[110, 117, 109, 98, 101, 114, 115]⟩⟩ : Str), v2) :: []) = true := Eq.trans rfl rfl
@[local simp] theorem a22_2 (d : D) (v0 v1 : D) : setV (⟨⟨[110, 117, 109, 98, 101, 114, 115]⟩⟩ : Str) d [((⟨⟨[115, 99, 114, 105, 112, 116]⟩⟩ : Str), v0), ((⟨⟨[115, 105, 122, 101]⟩⟩ : Str), v1)] = [((⟨⟨[115, 99, 114, 105, 112, 116]⟩⟩ : Str), v0), ((⟨⟨[115, 105, 122, 101]⟩⟩ : Str), v1), ((⟨⟨[110, 117, 109, 98, 101, 114, 115]⟩⟩ : Str), d)] := rfl
@[local simp] theorem l22_3 (v0 v1 v2 v3 : D) (r : Vars) : List.lookup (⟨⟨[114, 111, 119]⟩⟩ : Str) (((⟨⟨[115, 99, 114, 105, 112, 116]⟩⟩ : Str), v0) :: ((⟨⟨[115, 105, 122, 101]⟩⟩ : Str), v1) :: ((⟨⟨[110, 117, 109, 98, 101, 114, 115]⟩⟩ : Str), v2) :: ((⟨⟨[114, 111, 119]⟩⟩ : Str), v3) :: r) = some v3 := rfl
@[local simp] theorem k22_3 (v0 v1 v2 v3 : D) : keysIn KL22 (((⟨⟨[115, 99, 114, 105, 112, 116]⟩⟩ : Str), v0) :: ((⟨⟨[115, 105, 122, 101]⟩⟩ : Str), v1) :: ((⟨⟨[110, 117, 109, 98, 101, 114, 115]⟩⟩ : Str), v2) :: ((⟨⟨[114, 111, 119]⟩⟩ : Str), v3) :: []) = true := Eq.trans rfl rfl
@[local simp] theorem a22_3 (d : D) (v0 v1 v2 : D) : setV (⟨⟨[114, 111, 119]⟩⟩ : Str) d [((⟨⟨[115, 99, 114, 105, 112, 116]⟩⟩ : Str), v0), ((⟨⟨[115, 105, 122, 101]⟩⟩ : Str), v1), ((⟨⟨[110, 117, 109, 98, 101, 114, 115]⟩⟩ : Str), v2)] = [((⟨⟨[115, 99, 114, 105, 112, 116]⟩⟩ : Str), v0), ((⟨⟨[115, 105, 122, 101]⟩⟩ : Str), v1), ((⟨⟨[110, 117, 109, 98, 101, 114, 115]⟩⟩ : Str), v2), ((⟨⟨[114, 111, 119]⟩⟩ : Str), d)] := rfl
@[local simp] theorem l22_4 (v0 v1 v2 v3 v4 : D) (r : Vars) : List.lookup (⟨⟨[116, 101, 120, 116]⟩⟩ : Str) (((⟨⟨[115, 99, 114, 105, 112, 116]⟩⟩ : Str), v0) :: ((⟨⟨[115, 105, 122, 101]⟩⟩ : Str), v1) :: ((⟨⟨[110, 117, 109, 98, 101, 114, 115]⟩⟩ : Str), v2) :: ((⟨⟨[114, 111, 119]⟩⟩ : Str), v3) :: ((⟨⟨[116, 101, 120, 116]⟩⟩ : Str), v4) :: r) = some v4 := rfl
@[local simp] theorem k22_4 (v0 v1 v2 v3 v4 : D) : keysIn KL22 (((⟨⟨[115, 99, 114, 105, 112, 116]⟩⟩ : Str), v0) :: ((⟨⟨[115, 105, 122, 101]⟩⟩ : Str), v1) :: ((⟨⟨[110, 117, 109, 98, 101, 114, 115]⟩⟩ : Str), v2) :: ((⟨⟨[114, 111, 119]⟩⟩ : Str), v3) :: ((⟨⟨[116, 101, 120, 116]⟩⟩ : Str), v4) :: []) = true := Eq.trans rfl rfl
@[local simp] theorem a22_4 (d : D) (v0 v1 v2 v3 : D) : setV (⟨⟨[116, 101, 120, 116]⟩⟩ : Str) d [((⟨⟨[115, 99, 114, 105, 112, 116]⟩⟩ : Str), v0), ((⟨⟨[115, 105, 122, 101]⟩⟩ : Str), v1), ((⟨⟨[110, 117, 109, 98, 101, 114, 115]⟩⟩ : Str), v2), ((⟨⟨[114, 111, 119]⟩⟩ : Str), v3)] = [((⟨⟨[115, 99, 114, 105, 112, 116]⟩⟩ : Str), v0), ((⟨⟨[115, 105, 122, 101]⟩⟩ : Str), v1), ((⟨⟨[110, 117, 109, 98, 101, 114, 115]⟩⟩ : Str), v2), ((⟨⟨[114, 111, 119]⟩⟩ : Str), v3), ((⟨⟨[116, 101, 120, 116]⟩⟩ : Str), d)] := rfl
@[local simp] theorem l22_5 (v0 v1 v2 v3 v4 v5 : D) (r : Vars) : List.lookup (⟨⟨[117, 110, 105, 116, 115]⟩⟩ : Str) (((⟨⟨[115, 99, 114, 105, 112, 116]⟩⟩ : Str), v0) :: ((⟨⟨[115, 105, 122, 101]⟩⟩ : Str), v1) :: ((⟨⟨[110, 117, 109, 98, 101, 114, 115]⟩⟩ : Str), v2) :: ((⟨⟨[114, 111, 119]⟩⟩ : Str), v3) :: ((⟨⟨[116, 101, 120, 116]⟩⟩ : Str), v4) :: ((⟨⟨[117, 110, 105, 116, 115]⟩⟩ : Str), v5) :: r) = some v5 := rfl
@[local simp] theorem k22_5 (v0 v1 v2 v3 v4 v5 : D) : keysIn KL22 (((⟨⟨[115, 99, 114, 105, 112, 116]⟩⟩ : Str), v0) :: ((⟨⟨[115, 105, 122, 101]⟩⟩ : Str), v1) :: ((⟨⟨[110, 117, 109, 98, 101, 114, 115]⟩⟩ : Str), v2) :: ((⟨⟨[114, 111, 119]⟩⟩ : Str), v3) :: ((⟨⟨[116, 101, 120, 116]⟩⟩ : Str), v4) :: ((⟨⟨[117, 110, 105, 116, 115]⟩⟩ : Str), v5) :: []) = true := Eq.trans rfl rfl
@[local simp] theorem a22_5 (d : D) (v0 v1 v2 v3 v4 : D) : setV (⟨⟨[117, 110, 105, 116, 115]⟩⟩ : Str) d [((⟨⟨[115, 99, 114, 105, 112, 116]⟩⟩ : Str), v0), ((⟨⟨[115, 105, 122, 101]⟩⟩ : Str), v1), ((⟨⟨[110, 117, 109, 98, 101, 114, 115]⟩⟩ : Str), v2), ((⟨⟨[114, 111, 119]⟩⟩ : Str), v3), ((⟨⟨[116, 101, 120, 116]⟩⟩ : Str), v4)] = [((⟨⟨[115, 99, 114, 105, 112, 116]⟩⟩ : Str), v0), ((⟨⟨[115, 105, 122, 101]⟩⟩ : Str), v1), ((⟨⟨[110, 117, 109, 98, 101, 114, 115]⟩⟩ : Str), v2), ((⟨⟨[114, 111, 119]⟩⟩ : Str), v3), ((⟨⟨[116, 101, 120, 116]⟩⟩ : Str), v4), ((⟨⟨[117, 110, 105, 116, 115]⟩⟩ : Str), d)] := rfl
@[local simp] theorem l22_6 (v0 v1 v2 v3 v4 v5 v6 : D) (r : Vars) : List.lookup (⟨⟨[111, 114, 100, 101, 114]⟩⟩ : Str) (((⟨⟨[115, 99, 114, 105, 112, 116]⟩⟩ : Str), v0) :: ((⟨⟨[115, 105, 122, 101]⟩⟩ : Str), v1) :: ((⟨⟨[110, 117, 109, 98, 101, 114, 115]⟩⟩ : Str), v2) :: ((⟨⟨[114, 111, 119]⟩⟩ : Str), v3) :: ((⟨⟨[116, 101, 120, 116]⟩⟩ : Str), v4) :: ((⟨⟨[117, 110, 105, 116, 115]⟩⟩ : Str), v5) :: ((⟨⟨[111, 114, 100, 101, 114]⟩⟩ : Str), v6) :: r) = some v6 := rfl
@[local simp] theorem k22_6 (v0 v1 v2 v3 v4 v5 v6 : D) : keysIn KL22 (((⟨⟨[115, 99, 114, 105, 112, 116]⟩⟩ : Str), v0) :: ((⟨⟨[115, 105, 122, 101]⟩⟩ : Str), v1) :: ((⟨⟨[110, 117, 109, 98, 101, 114, 115]⟩⟩ : Str), v2) :: ((⟨⟨[114, 111, 119]⟩⟩ : Str), v3) :: ((⟨⟨[116, 101, 120, 116]⟩⟩ : Str), v4) :: ((⟨⟨[117, 110, 105, 116, 115]⟩⟩ : Str), v5) :: ((⟨⟨[111, 114, 100, 101, 114]⟩⟩ : Str), v6) :: []) = true := Eq.trans rfl rfl
@[local simp] theorem a22_6 (d : D) (v0 v1 v2 v3 v4 v5 : D) : setV (⟨⟨[111, 114, 100, 101, 114]⟩⟩ : Str) d [((⟨⟨[115, 99, 114, 105, 112, 116]⟩⟩ : Str), v0), ((⟨⟨[115, 105, 122, 101]⟩⟩ : Str), v1), ((⟨⟨[110, 117, 109, 98, 101, 114, 115]⟩⟩ : Str), v2), ((⟨⟨[114, 111, 119]⟩⟩ : Str), v3), ((⟨⟨[116, 101, 120, 116]⟩⟩ : Str), v4), ((⟨⟨[117, 110, 105, 116, 115]⟩⟩ : Str), v5)] = [((⟨⟨[115, 99, 114, 105, 112, 116]⟩⟩ : Str), v0), ((⟨⟨[115, 105, 122, 101]⟩⟩ : Str), v1), ((⟨⟨[110, 117, 109, 98, 101, 114, 115]⟩⟩ : Str), v2), ((⟨⟨[114, 111, 119]⟩⟩ : Str), v3), ((⟨⟨[116, 101, 120, 116]⟩⟩ : Str), v4), ((⟨⟨[117, 110, 105, 116, 115]⟩⟩ : Str), v5), ((⟨⟨[111, 114, 100, 101, 114]⟩⟩ : Str), d)] := rfl
@[local simp] theorem l22_7 (v0 v1 v2 v3 v4 v5 v6 v7 : D) (r : Vars) : List.lookup (⟨⟨[119, 111, 114, 100]⟩⟩ : Str) (((⟨⟨[115, 99, 114, 105, 112, 116]⟩⟩ : Str), v0) :: ((⟨⟨[115, 105, 122, 101]⟩⟩ : Str), v1) :: ((⟨⟨[110, 117, 109, 98, 101, 114, 115]⟩⟩ : Str), v2) :: ((⟨⟨[114, 111, 119]⟩⟩ : Str), v3) :: ((⟨⟨[116, 101, 120, 116]⟩⟩ : Str), v4) :: ((⟨⟨[117, 110, 105, 116, 115]⟩⟩ : Str), v5) :: ((⟨⟨[111, 114, 100, 101, 114]⟩⟩ : Str), v6) :: ((⟨⟨[119, 111, 114, 100]⟩⟩ : Str), v7) :: r) = some v7 := rfl
@[local simp] theorem k22_7 (v0 v1 v2 v3 v4 v5 v6 v7 : D) : keysIn KL22 (((⟨⟨[115, 99, 114, 105, 112, 116]⟩⟩ : Str), v0) :: ((⟨⟨[115, 105, 122, 101]⟩⟩ : Str), v1) :: ((⟨⟨[110, 117, 109, 98, 101, 114, 115]⟩⟩ : Str), v2) :: ((⟨⟨[114, 111, 119]⟩⟩ : Str), v3) :: ((⟨⟨[116, 101, 120, 116]⟩⟩ : Str), v4) :: ((⟨⟨[117, 110, 105, 116, 115]⟩⟩ : Str), v5) :: ((⟨⟨[111, 114, 100, 101, 114]⟩⟩ : Str), v6) :: ((⟨⟨[119, 111, 114, 100]⟩⟩ : Str), v7) :: []) = true := Eq.trans rfl rfl
@[local simp] theorem a22_7 (d : D) (v0 v1 v2 v3 v4 v5 v6 : D) : setV (⟨⟨[119, 111, 114, 100]⟩⟩ : Str) d [((⟨⟨[115, 99, 114, 105, 112, 116]⟩⟩ : Str), v0), ((⟨⟨[115, 105, 122, 101]⟩⟩ : Str), v1), ((⟨⟨[110, 117, 109, 98, 101, 114, 115]⟩⟩ : Str), v2), ((⟨⟨[114, 111, 119]⟩⟩ : Str), v3), ((⟨⟨[116, 101, 120, 116]⟩⟩ : Str), v4), ((⟨⟨[117, 110, 105, 116, 115]⟩⟩ : Str), v5), ((⟨⟨[111, 114, 100, 101, 114]⟩⟩ : Str), v6)] = [((⟨⟨[115, 99, 114, 105, 112, 116]⟩⟩ : Str), v0), ((⟨⟨[115, 105, 122, 101]⟩⟩ : Str), v1), ((⟨⟨[110, 117, 109, 98, 101, 114, 115]⟩⟩ : Str), v2), ((⟨⟨[114, 111, 119]⟩⟩ : Str), v3), ((⟨⟨[116, 101, 120, 116]⟩⟩ : Str), v4), ((⟨⟨[117, 110, 105, 116, 115]⟩⟩ : Str), v5), ((⟨⟨[111, 114, 100, 101, 114]⟩⟩ : Str), v6), ((⟨⟨[119, 111, 114, 100]⟩⟩ : Str), d)] := rfl
@[local simp] theorem l22_8 (v0 v1 v2 v3 v4 v5 v6 v7 v8 : D) (r : Vars) : List.lookup (⟨⟨[114, 111, 111, 109]⟩⟩ : Str) (((⟨⟨[115, 99, 114, 105, 112, 116]⟩⟩ : Str), v0) :: ((⟨⟨[115, 105, 122, 101]⟩⟩ : Str), v1) :: ((⟨⟨[110, 117, 109, 98, 101, 114, 115]⟩⟩ : Str), v2) :: ((⟨⟨[114, 111, 119]⟩⟩ : Str), v3) :: ((⟨⟨[116, 101, 120, 116]⟩⟩ : Str), v4) :: ((⟨⟨[117, 110, 105, 116, 115]⟩⟩ : Str), v5) :: ((⟨⟨[111, 114, 100, 101, 114]⟩⟩ : Str), v6) :: ((⟨⟨[119, 111, 114, 100]⟩⟩ : Str), v7) :: ((⟨⟨[114, 111, 111, 109]⟩⟩ : Str), v8) :: r) = some v8 := rfl
@[local simp] theorem a22_8 (d : D) (v0 v1 v2 v3 v4 v5 v6 v7 : D) : setV (⟨⟨[114, 111, 111, 109]⟩⟩ : Str) d [((⟨⟨[115, 99, 114, 105, 112, 116]⟩⟩ : Str), v0), ((⟨⟨[115, 105, 122, 101]⟩⟩ : Str), v1), ((⟨⟨[110, 117, 109, 98, 101, 114, 115]⟩⟩ : Str), v2), ((⟨⟨[114, 111, 119]⟩⟩ : Str), v3), ((⟨⟨[116, 101, 120, 116]⟩⟩ : Str), v4), ((⟨⟨[117, 110, 105, 116, 115]⟩⟩ : Str), v5), ((⟨⟨[111, 114, 100, 101, 114]⟩⟩ : Str), v6), ((⟨⟨[119, 111, 114, 100]⟩⟩ : Str), v7)] = [((⟨⟨[115, 99, 114, 105, 112, 116]⟩⟩ : Str), v0), ((⟨⟨[115, 105, 122, 101]⟩⟩ : Str), v1), ((⟨⟨[110, 117, 109, 98, 101, 114, 115]⟩⟩ : Str), v2), ((⟨⟨[114, 111, 119]⟩⟩ : Str), v3), ((⟨⟨[116, 101, 120, 116]⟩⟩ : Str), v4), ((⟨⟨[117, 110, 105, 116, 115]⟩⟩ : Str), v5), ((⟨⟨[111, 114, 100, 101, 114]⟩⟩ : Str), v6), ((⟨⟨[119, 111, 114, 100]⟩⟩ : Str), v7), ((⟨⟨[114, 111, 111, 109]⟩⟩ : Str), d)] := rfl
@[local simp] theorem l22_9 (v0 v1 v2 v3 v4 v5 v6 v7 v8 v9 : D) (r : Vars) : List.lookup (⟨⟨[114, 117, 108, 101, 114]⟩⟩ : Str) (((⟨⟨[115, 99, 114, 105, 112, 116]⟩⟩ : Str), v0) :: ((⟨⟨[115, 105, 122, 101]⟩⟩ : Str), v1) :: ((⟨⟨[110, 117, 109, 98, 101, 114, 115]⟩⟩ : Str), v2) :: ((⟨⟨[114, 111, 119]⟩⟩ : Str), v3) :: ((⟨⟨[116, 101, 120, 116]⟩⟩ : Str), v4) :: ((⟨⟨[117, 110, 105, 116, 115]⟩⟩ : Str), v5) :: ((⟨⟨[111, 114, 100, 101, 114]⟩⟩ : Str), v6) :: ((⟨⟨[119, 111, 114, 100]⟩⟩ : Str), v7) :: ((⟨⟨[114, 111, 111, 109]⟩⟩ : Str), v8) :: ((⟨⟨[114, 117, 108, 101, 114]⟩⟩ : Str), v9) :: r) = some v9 := rfl
@[local simp] theorem a22_9 (d : D) (v0 v1 v2 v3 v4 v5 v6 v7 v8 : D) : setV (⟨⟨[114, 117, 108, 101, 114]⟩⟩ : Str) d [((⟨⟨[115, 99, 114, 105, 112, 116]⟩⟩ : Str), v0), ((⟨⟨[115, 105, 122, 101]⟩⟩ : Str), v1), ((⟨⟨[110, 117, 109, 98, 101, 114, 115]⟩⟩ : Str), v2), ((⟨⟨[114, 111, 119]⟩⟩ : Str), v3), ((⟨⟨[116, 101, 120, 116]⟩⟩ : Str), v4), ((⟨⟨[117, 110, 105, 116, 115]⟩⟩ : Str), v5), ((⟨⟨[111, 114, 100, 101, 114]⟩⟩ : Str), v6), ((⟨⟨[119, 111, 114, 100]⟩⟩ : Str), v7), ((⟨⟨[114, 111, 111, 109]⟩⟩ : Str), v8)] = [((⟨⟨[115, 99, 114, 105, 112, 116]⟩⟩ : Str), v0), ((⟨⟨[115, 105, 122, 101]⟩⟩ : Str), v1), ((⟨⟨[110, 117, 109, 98, 101, 114, 115]⟩⟩ : Str), v2), ((⟨⟨[114, 111, 119]⟩⟩ : Str), v3), ((⟨⟨[116, 101, 120, 116]⟩⟩ : Str), v4), ((⟨⟨[117, 110, 105, 116, 115]⟩⟩ : Str), v5), ((⟨⟨[111, 114, 100, 101, 114]⟩⟩ : Str), v6), ((⟨⟨[119, 111, 114, 100]⟩⟩ : Str), v7), ((⟨⟨[114, 111, 111, 109]⟩⟩ : Str), v8), ((⟨⟨[114, 117, 108, 101, 114]⟩⟩ : Str), d)] := rfl
@[local simp] theorem l22_10 (v0 v1 v2 v3 v4 v5 v6 v7 v8 v9 v10 : D) (r : Vars) : List.lookup (⟨⟨[108, 101, 115, 115, 101, 114]⟩⟩ : Str) (((⟨⟨[115, 99, 114, 105, 112, 116]⟩⟩ : Str), v0) :: ((⟨⟨[115, 105, 122, 101]⟩⟩ : Str), v1) :: ((⟨⟨[110, 117, 109, 98, 101, 114, 115]⟩⟩ : Str), v2) :: ((⟨⟨[114, 111, 119]⟩⟩ : Str), v3) :: ((⟨⟨[116, 101, 120, 116]⟩⟩ : Str), v4) :: ((⟨⟨[117, 110, 105, 116, 115]⟩⟩ : Str), v5) :: ((⟨⟨[111, 114, 100, 101, 114]⟩⟩ : Str), v6) :: ((⟨⟨[119, 111, 114, 100]⟩⟩ : Str), v7) :: ((⟨⟨[114, 111, 111, 109]⟩⟩ : Str), v8) :: ((⟨⟨[114, 117, 108, 101, 114]⟩⟩ : Str), v9) :: ((⟨⟨[108, 101, 115, 115, 101, 114]⟩⟩ : Str), v10) :: r) = some v10 := rfl
@[local simp] theorem k22_10 (v0 v1 v2 v3 v4 v5 v6 v7 v8 v9 v10 : D) : keysIn KL22 (((⟨⟨[115, 99, 114, 105, 112, 116]⟩⟩ : Str), v0) :: ((⟨⟨[115, 105, 122, 101]⟩⟩ : Str), v1) :: ((⟨⟨[110, 117, 109, 98, 101, 114, 115]⟩⟩ : Str), v2) :: ((⟨⟨[114, 111, 119]⟩⟩ : Str), v3) :: ((⟨⟨[116, 101, 120, 116]⟩⟩ : Str), v4) :: ((⟨⟨[117, 110, 105, 116, 115]⟩⟩ : Str), v5) :: ((⟨⟨[111, 114, 100, 101, 114]⟩⟩ : Str), v6) :: ((⟨⟨[119, 111, 114, 100]⟩⟩ : Str), v7) :: ((⟨⟨[114, 111, 111, 109]⟩⟩ : Str), v8) :: ((⟨⟨[114, 117, 108, 101, 114]⟩⟩ : Str), v9) :: ((⟨⟨[108, 101, 115, 115, 101, 114]⟩⟩ : Str), v10) :: []) = true := Eq.trans rfl rfl
@[local simp] theorem a22_10 (d : D) (v0 v1 v2 v3 v4 v5 v6 v7 v8 v9 : D) : setV (⟨⟨[108, 101, 115, 115, 101, 114]⟩⟩ : Str) d [((⟨⟨[115, 99, 114, 105, 112, 116]⟩⟩ : Str), v0), ((⟨⟨[115, 105, 122, 101]⟩⟩ : Str), v1), ((⟨⟨[110, 117, 109, 98, 101, 114, 115]⟩⟩ : Str), v2), ((⟨⟨[114, 111, 119]⟩⟩ : Str), v3), ((⟨⟨[116, 101, 120, 116]⟩⟩ : Str), v4), ((⟨⟨[117, 110, 105, 116, 115]⟩⟩ : Str), v5), ((⟨⟨[111, 114, 100, 101, 114]⟩⟩ : Str), v6), ((⟨⟨[119, 111, 114, 100]⟩⟩ : Str), v7), ((⟨⟨[114, 111, 111, 109]⟩⟩ : Str), v8), ((⟨⟨[114, 117, 108, 101, 114]⟩⟩ : Str), v9)] = [((⟨⟨[115, 99, 114, 105, 112, 116]⟩⟩ : Str), v0), ((⟨⟨[115, 105, 122, 101]⟩⟩ : Str), v1), ((⟨⟨[110, 117, 109, 98, 101, 114, 115]⟩⟩ : Str), v2), ((⟨⟨[114, 111, 119]⟩⟩ : Str), v3), ((⟨⟨[116, 101, 120, 116]⟩⟩ : Str), v4), ((⟨⟨[117, 110, 105, 116, 115]⟩⟩ : Str), v5), ((⟨⟨[111, 114, 100, 101, 114]⟩⟩ : Str), v6), ((⟨⟨[119, 111, 114, 100]⟩⟩ : Str), v7), ((⟨⟨[114, 111, 111, 109]⟩⟩ : Str), v8), ((⟨⟨[114, 117, 108, 101, 114]⟩⟩ : Str), v9), ((⟨⟨[108, 101, 115, 115, 101, 114]⟩⟩ : Str), d)] := rfl
@[local simp] theorem l22_11 (v0 v1 v2 v3 v4 v5 v6 v7 v8 v9 v10 v11 : D) (r : Vars) : List.lookup (⟨⟨[102, 105, 114, 115, 116]⟩⟩ : Str) (((⟨⟨[115, 99, 114, 105, 112, 116]⟩⟩ : Str), v0) :: ((⟨⟨[115, 105, 122, 101]⟩⟩ : Str), v1) :: ((⟨⟨[110, 117, 109, 98, 101, 114, 115]⟩⟩ : Str), v2) :: ((⟨⟨[114, 111, 119]⟩⟩ : Str), v3) :: ((⟨⟨[116, 101, 120, 116]⟩⟩ : Str), v4) :: ((⟨⟨[117, 110, 105, 116, 115]⟩⟩ : Str), v5) :: ((⟨⟨[111, 114, 100, 101, 114]⟩⟩ : Str), v6) :: ((⟨⟨[119, 111, 114, 100]⟩⟩ : Str), v7) :: ((⟨⟨[114, 111, 111, 109]⟩⟩ : Str), v8) :: ((⟨⟨[114, 117, 108, 101, 114]⟩⟩ : Str), v9) :: ((⟨⟨[108, 101, 115, 115, 101, 114]⟩⟩ : Str), v10) :: ((⟨⟨[102, 105, 114, 115, 116]⟩⟩ : Str), v11) :: r) = some v11 := rfl
@[local simp] theorem k22_11 (v0 v1 v2 v3 v4 v5 v6 v7 v8 v9 v10 v11 : D) : keysIn KL22 (((⟨⟨[115, 99, 114, 105, 112, 116]⟩⟩ : Str), v0) :: ((⟨⟨[115, 105, 122, 101]⟩⟩ : Str), v1) :: ((⟨⟨[110, 117, 109, 98, 101, 114, 115]⟩⟩ : Str), v2) :: ((⟨⟨[114, 111, 119]⟩⟩ : Str), v3) :: ((⟨⟨[116, 101, 120, 116]⟩⟩ : Str), v4) :: ((⟨⟨[117, 110, 105, 116, 115]⟩⟩ : Str), v5) :: ((⟨⟨[111, 114, 100, 101, 114]⟩⟩ : Str), v6) :: ((⟨⟨[119, 111, 114, 100]⟩⟩ : Str), v7) :: ((⟨⟨[114, 111, 111, 109]⟩⟩ : Str), v8) :: ((⟨⟨[114, 117, 108, 101, 114]⟩⟩ : Str), v9) :: ((⟨⟨[108, 101, 115, 115, 101, 114]⟩⟩ : Str), v10) :: ((⟨⟨[102, 105, 114, 115, 116]⟩⟩ : Str), v11) :: []) = true := Eq.trans rfl rfl
@[local simp] theorem a22_11 (d : D) (v0 v1 v2 v3 v4 v5 v6 v7 v8 v9 v10 : D) : setV (⟨⟨[102, 105, 114, 115, 116]⟩⟩ : Str) d [((⟨⟨[115, 99, 114, 105, 112, 116]⟩⟩ : Str), v0), ((⟨⟨[115, 105, 122, 101]⟩⟩ : Str), v1), ((⟨⟨[110, 117, 109, 98, 101, 114, 115]⟩⟩ : Str), v2), ((⟨⟨[114, 111, 119]⟩⟩ : Str), v3), ((⟨⟨[116, 101, 120, 116]⟩⟩ : Str), v4), ((⟨⟨[117, 110, 105, 116, 115]⟩⟩ : Str), v5), ((⟨⟨[111, 114, 100, 101, 114]⟩⟩ : Str), v6), ((⟨⟨[119, 111, 114, 100]⟩⟩ : Str), v7), ((⟨⟨[114, 111, 111, 109]⟩⟩ : Str), v8), ((⟨⟨[114, 117, 108, 101, 114]⟩⟩ : Str), v9), ((⟨⟨[108, 101, 115, 115, 101, 114]⟩⟩ : Str), v10)] = [((⟨⟨[115, 99, 114, 105, 112, 116]⟩⟩ : Str), v0), ((⟨⟨[115, 105, 122, 101]⟩⟩ : Str), v1), ((⟨⟨[110, 117, 109, 98, 101, 114, 115]⟩⟩ : Str), v2), ((⟨⟨[114, 111, 119]⟩⟩ : Str), v3), ((⟨⟨[116, 101, 120, 116]⟩⟩ : Str), v4), ((⟨⟨[117, 110, 105, 116, 115]⟩⟩ : Str), v5), ((⟨⟨[111, 114, 100, 101, 114]⟩⟩ : Str), v6), ((⟨⟨[119, 111, 114, 100]⟩⟩ : Str), v7), ((⟨⟨[114, 111, 111, 109]⟩⟩ : Str), v8), ((⟨⟨[114, 117, 108, 101, 114]⟩⟩ : Str), v9), ((⟨⟨[108, 101, 115, 115, 101, 114]⟩⟩ : Str), v10), ((⟨⟨[102, 105, 114, 115, 116]⟩⟩ : Str), d)] := rfl
@[local simp] theorem l22_12 (v0 v1 v2 v3 v4 v5 v6 v7 v8 v9 v10 v11 v12 : D) (r : Vars) : List.lookup (⟨⟨[115, 101, 99, 111, 110, 100]⟩⟩ : Str) (((⟨⟨[115, 99, 114, 105, 112, 116]⟩⟩ : Str), v0) :: ((⟨⟨[115, 105, 122, 101]⟩⟩ : Str), v1) :: ((⟨⟨[110, 117, 109, 98, 101, 114, 115]⟩⟩ : Str), v2) :: ((⟨⟨[114, 111, 119]⟩⟩ : Str), v3) :: ((⟨⟨[116, 101, 120, 116]⟩⟩ : Str), v4) :: ((⟨⟨[117, 110, 105, 116, 115]⟩⟩ : Str), v5) :: ((⟨⟨[111, 114, 100, 101, 114]⟩⟩ : Str), v6) :: ((⟨⟨[119, 111, 114, 100]⟩⟩ : Str), v7) :: ((⟨⟨[114, 111, 111, 109]⟩⟩ : Str), v8) :: ((⟨⟨[114, 117, 108, 101, 114]⟩⟩ : Str), v9) :: ((⟨⟨[108, 101, 115, 115, 101, 114]⟩⟩ : Str), v10) :: ((⟨⟨[102, 105, 114, 115, 116]⟩⟩ : Str), v11) :: ((⟨⟨[115, 101, 99, 111, 110, 100]⟩⟩ : Str), v12) :: r) = some v12 := rfl
@[local simp] theorem k22_12 (v0 v1 v2 v3 v4 v5 v6 v7 v8 v9 v10 v11 v12 : D) : keysIn KL22 (((⟨⟨[115, 99, 114, 105, 112, 116]⟩⟩ : Str), v0) :: ((⟨⟨[115, 105, 122, 101]⟩⟩ : Str), v1) :: ((⟨⟨[110, 117, 109, 98, 101, 114, 115]⟩⟩ : Str), v2) :: ((⟨⟨[114, 111, 119]⟩⟩ : Str), v3) :: ((⟨⟨[116, 101, 120, 116]⟩⟩ : Str), v4) :: ((⟨⟨[117, 110, 105, 116, 115]⟩⟩ : Str), v5) :: ((⟨⟨[111, 114, 100, 101, 114]⟩⟩ : Str), v6) :: ((⟨⟨[119, 111, 114, 100]⟩⟩ : Str), v7) :: ((⟨⟨[114, 111, 111, 109]⟩⟩ : Str), v8) :: ((⟨⟨[114, 117, 108, 101, 114]⟩⟩ : Str), v9) :: ((⟨⟨[108, 101, 115, 115, 101, 114]⟩⟩ : Str), v10) :: ((⟨⟨[102, 105, 114, 115, 116]⟩⟩ : Str), v11) :: ((⟨⟨[115, 101, 99, 111, 110, 100]⟩⟩ : Str), v12) :: []) = true := Eq.trans rfl rfl
@[local simp] theorem a22_12 (d : D) (v0 v1 v2 v3 v4 v5 v6 v7 v8 v9 v10 v11 : D) : setV (⟨⟨[115, 101, 99, 111, 110, 100]⟩⟩ : Str) d [((⟨⟨[115, 99, 114, 105, 112, 116]⟩⟩ : Str), v0), ((⟨⟨[115, 105, 122, 101]⟩⟩ : Str), v1), ((⟨⟨[110, 117, 109, 98, 101, 114, 115]⟩⟩ : Str), v2), ((⟨⟨[114, 111, 119]⟩⟩ : Str), v3), ((⟨⟨[116, 101, 120, 116]⟩⟩ : Str), v4), ((⟨⟨[117, 110, 105, 116, 115]⟩⟩ : Str), v5), ((⟨⟨[111, 114, 100, 101, 114]⟩⟩ : Str), v6), ((⟨⟨[119, 111, 114, 100]⟩⟩ : Str), v7), ((⟨⟨[114, 111, 111, 109]⟩⟩ : Str), v8), ((⟨⟨[114, 117, 108, 101, 114]⟩⟩ : Str), v9), ((⟨⟨[108, 101, 115, 115, 101, 114]⟩⟩ : Str), v10), ((⟨⟨[102, 105, 114, 115, 116]⟩⟩ : Str), v11)] = [((⟨⟨[115, 99, 114, 105, 112, 116]⟩⟩ : Str), v0), ((⟨⟨[115, 105, 122, 101]⟩⟩ : Str), v1), ((⟨⟨[110, 117, 109, 98, 101, 114, 115]⟩⟩ : Str), v2), ((⟨⟨[114, 111, 119]⟩⟩ : Str), v3), ((⟨⟨[116, 101, 120, 116]⟩⟩ : Str), v4), ((⟨⟨[117, 110, 105, 116, 115]⟩⟩ : Str), v5), ((⟨⟨[111, 114, 100, 101, 114]⟩⟩ : Str), v6), ((⟨⟨[119, 111, 114, 100]⟩⟩ : Str), v7), ((⟨⟨[114, 111, 111, 109]⟩⟩ : Str), v8), ((⟨⟨[114, 117, 108, 101, 114]⟩⟩ : Str), v9), ((⟨⟨[108, 101, 115, 115, 101, 114]⟩⟩ : Str), v10), ((⟨⟨[102, 105, 114, 115, 116]⟩⟩ : Str), v11), ((⟨⟨[115, 101, 99, 111, 110, 100]⟩⟩ : Str), d)] := rfl

set_option maxHeartbeats 4000000 in
theorem law_eval {T : Tabs} (H : LT T) (hdist : ∀ (s c : Nat) (w : List Nat), s ≤ 5 → b1S c = true → (∀ x ∈ w, 97 ≤ x ∧ x ≤ 101) → distN s c w = distN s 0 w) (good : ∀ s, s = 3 ∨ s = 4 ∨ s = 5 → ∀ w ∈ gen (2 * s) 0 s, Good s w = true) (script : List Int) (hl : script.length ≤ 63) :
    callF T 22 [.list (script.map .int)] = some (.bool true) := by
  have hz : script.length ≤ 16777216 := Nat.le_trans hl (by decide)
  have hb := H.hb
  have hg := H.hg
  have hgn := H.hgn
  have b1 : T.bi (⟨⟨[95, 108, 97, 119, 95, 114, 111, 119]⟩⟩ : Str) = none := by rw [hb, ← nm24]; rfl
  have b2 : T.bi (⟨⟨[95, 108, 97, 119, 95, 111, 114, 100, 101, 114]⟩⟩ : Str) = none := by rw [hb, ← nm25]; rfl
  have b3 : T.bi (⟨⟨[95, 99, 104, 101, 99, 107, 95, 112, 97, 114, 101, 110, 116, 104, 101, 115, 105, 115]⟩⟩ : Str) = none := by rw [hb, ← nm26]; rfl
  have b4 : T.bi (⟨⟨[95, 108, 97, 119, 95, 116, 111, 108, 100]⟩⟩ : Str) = none := by rw [hb, ← nm27]; rfl
  have b5 : T.bi (⟨⟨[95, 108, 97, 119, 95, 116, 121, 112, 101, 100]⟩⟩ : Str) = none := by rw [hb, ← nm21]; rfl
  have b6 : T.bi (⟨⟨[95, 108, 97, 119, 95, 112, 114, 101, 112, 97, 114, 101, 100]⟩⟩ : Str) = none := by rw [hb, ← nm22]; rfl
  have b7 : T.bi (⟨⟨[95, 115, 116, 114, 105, 112, 95, 113, 117, 111, 116, 101, 100, 95, 114, 101, 97, 108, 110, 97, 109, 101, 115]⟩⟩ : Str) = none := by rw [hb, ← nm23]; rfl
  have b8 : T.bi (⟨⟨[95, 108, 97, 119, 95, 117, 110, 115, 101, 101, 110]⟩⟩ : Str) = none := by rw [hb, ← nm17]; rfl
  unfold callF callX
  generalize ghps : (fnAt 22).1 = ps
  have hps : ?lhps = ps := ?qhps
  have chps : (fnAt 22).1 = (fnAt 22).1 := rfl
  conv at chps =>
    lhs
    cbv
  change ?lhps = _ at chps
  case qhps => exact Eq.trans rfl ghps
  clear chps ghps
  generalize ghbd : (fnAt 22).2.2 = bd
  have hbd : ?lhbd = bd := ?qhbd
  have chbd : (fnAt 22).2.2 = (fnAt 22).2.2 := rfl
  conv at chbd =>
    lhs
    cbv
  change ?lhbd = _ at chbd
  case qhbd => exact Eq.trans rfl ghbd
  clear chbd ghbd
  subst hps
  subst hbd
  obtain ⟨s, hs, hS⟩ : ∃ s : Nat, (s = 3 ∨ s = 4 ∨ s = 5) ∧ (3 + if (script.length : Int).fdiv 2 < 2 then (script.length : Int).fdiv 2 else 2) = (s : Int) := by
    have h0 : (script.length : Int).fdiv 2 = ((script.length / 2 : Nat) : Int) := by
      rw [Int.fdiv_eq_ediv_of_nonneg _ (by decide)]; rfl
    rw [h0]
    by_cases c : script.length / 2 < 2
    · rw [if_pos (by omega)]
      exact ⟨3 + script.length / 2, by omega, by omega⟩
    · rw [if_neg (by omega)]
      exact ⟨5, by omega, rfl⟩
  have sA : 3 ≤ s := by omega
  have sB : s ≤ 5 := by omega
  have hs0 : ¬ s = 0 := by omega
  have z2 : (2 * (s : Int)).natAbs < 536870912 := by omega
  have rO : rangeOk 0 (2 * (s : Int)) 1 = true := by
    unfold rangeOk
    rw [small_of (i := 0) (by decide), small_of (i := 1) (by decide), small_of (i := 2 * (s : Int)) (by omega)]
    rfl
  have rL : rangeL 0 (2 * (s : Int)) 1 = (List.range (2 * s)).map fun (i : Nat) => (i : Int) := rangeL_1 (2 * s)
  have nz : 2 * s ≤ 16777216 := Nat.le_trans (Nat.mul_le_mul_left 2 sB) (by decide)
  simp [-Option.bind_some, smallI, bindS, runL_nil, runL_cons, contL_next, contL_ret, x_whileR, z_if, x_assign, z_ret, hb, hg, hz, hgn, hS, z2, rO, rL, nz]
  rw [compF_t]
  rotate_left
  · kernel_rfl
  simp [-Option.bind_some, smallI, bindS, runL_nil, runL_cons, contL_next, contL_ret, x_whileR, z_if, x_assign, z_ret, hb, hg, hz, hgn, hS, z2, rO, rL, nz]
  generalize hE : evComp _ _ _ _ _ _ _ _ = E
  have e1 := evComp_at hE (List.range (2 * s)) (fun (k : Nat) => D.int (k : Int)) (fun o => [((⟨⟨[115, 99, 114, 105, 112, 116]⟩⟩ : Str), D.list (script.map D.int)), ((⟨⟨[115, 105, 122, 101]⟩⟩ : Str), D.int (s : Nat))] ++ (o.toList.map fun (k : Nat) => ((⟨⟨[107]⟩⟩ : Str), D.int (k : Int)))) (fun _ => true) (fun k => D.int (nuN s script k)) rfl rfl (fun _ _ => ⟨rfl, rfl⟩)
    (by rintro (_ | o) x _ <;> simp [-Option.bind_some, smallI, bindR, r_nil, r_cons, c_next, c_ret, y_if, y_assign, y_ret, badN, isGl, storable, isLo, callD, genD, List.lookup_cons, List.lookup_nil, str_beq, setV, nameV_g, nm0, nm1]) (fun _ _ => rfl) (by
      intro k hk _
      have hk : k < 2 * s := by simpa using hk
      have ib := item_base (k := k) (by omega)
      refine ⟨?_, rfl⟩
      simp [-Option.bind_some, smallI, bindR, r_nil, r_cons, c_next, c_ret, y_if, y_assign, y_ret, badN, isGl, storable, isLo, callD, genD, List.lookup_cons, List.lookup_nil, str_beq, setV, nameV_g, nm0, nm1, hb, hg, hz, hgn, ib, hs0, sliceL_map, intsOf_map, nuN])
  rw [List.filter_eq_self.mpr (fun _ _ => rfl)] at e1
  have hlist : (List.range (2 * s)).map (fun k => D.int (nuN s script k)) = ((List.range (2 * s)).map (nuN s script)).map D.int := by rw [List.map_map]; rfl
  rw [hlist] at e1
  subst e1
  have hnl : ((List.range (2 * s)).map (nuN s script)).length = 2 * s := by simp
  have hnu : ∀ k, k < 2 * s → ((List.range (2 * s)).map (nuN s script)).getD k 0 = nuN s script k := fun k hk => by simp [hk]
  clear hE hlist
  generalize (List.range (2 * s)).map (nuN s script) = nums at hnl hnu ⊢
  obtain ⟨w, hw, ew⟩ := row_gen nums [] 0 ((nums.length : Int).fdiv 2)
  have hwr : rowP nums = w := by unfold rowP; rw [ew]; rfl
  have hf2 : (nums.length : Int).fdiv 2 = (s : Int) := by rw [hnl, Int.fdiv_eq_ediv_of_nonneg _ (by decide)]; omega
  rw [hnl, ← hnl, hf2, hnl] at hw
  have G := good s hs w hw
  have hrow := H.row nums (by omega)
  rw [hwr] at hrow
  have nl : nums.length ≤ 16777216 := hnl ▸ nz
  clear hw ew hf2 hwr
  unfold Good at G
  simp only [Bool.and_eq_true, decide_eq_true_eq, Bool.not_eq_true', List.all_eq_true, Bool.or_eq_true, beq_iff_eq] at G
  obtain ⟨⟨⟨⟨⟨gl, gp⟩, g1⟩, g2⟩, g3⟩, g4⟩ := G
  simp [-Option.bind_some, smallI, bindS, runL_nil, runL_cons, contL_next, contL_ret, x_whileR, z_if, x_assign, z_ret, hb, hg, hz, hgn, z2, rO, rL, nz, b1, hrow, nl]
  rw [compF_t]
  rotate_left
  · kernel_rfl
  simp [-Option.bind_some, smallI, bindS, runL_nil, runL_cons, contL_next, contL_ret, x_whileR, z_if, x_assign, z_ret, hb, hg, hz, hgn, z2, rO, rL, nz, b1, hrow, nl]
  generalize hE : evComp _ _ _ _ _ _ _ _ = E
  have e2 := evComp_at hE (List.range (2 * s)) (fun (k : Nat) => D.int (k : Int)) (fun o => [((⟨⟨[110, 117, 109, 98, 101, 114, 115]⟩⟩ : Str), D.list (nums.map D.int)), ((⟨⟨[114, 111, 119]⟩⟩ : Str), D.str w)] ++ (o.toList.map fun (k : Nat) => ((⟨⟨[107]⟩⟩ : Str), D.int (k : Int)))) (fun _ => true) (fun k => D.str (w.getD k 0 :: ins (jN (nums.getD k 0)))) rfl rfl (fun _ _ => ⟨rfl, rfl⟩)
    (by rintro (_ | o) x _ <;> simp [-Option.bind_some, smallI, bindR, r_nil, r_cons, c_next, c_ret, y_if, y_assign, y_ret, badN, isGl, storable, isLo, callD, genD, List.lookup_cons, List.lookup_nil, str_beq, setV, nameV_g, nm0, nm1]) (fun _ _ => rfl) (by
      intro k hk _
      have hk : k < 2 * s := by simpa using hk
      have iw := item_strN (w := w) (k := k) (by omega) (by omega)
      have inn : itemD (.list (nums.map .int)) (k : Int) = some (.int (nums.getD k 0)) := item_ints (by omega) (by omega) (by omega)
      have r := fmod_range ((nums.getD k 0).fdiv 2) (n := 4) (by decide)
      have ij := item_ins r.1 r.2
      have il := ins_len (jN (nums.getD k 0))
      unfold jN at il ⊢
      generalize nums.getD k 0 = x at inn ij il ⊢
      generalize w.getD k 0 = c at iw ⊢
      have il' : (ins ((x.fdiv 2).fmod 4).toNat).length ≤ 16777215 := by omega
      refine ⟨?_, rfl⟩
      simp [-Option.bind_some, smallI, bindR, r_nil, r_cons, c_next, c_ret, y_if, y_assign, y_ret, badN, isGl, storable, isLo, callD, genD, List.lookup_cons, List.lookup_nil, str_beq, setV, nameV_g, nm0, nm1, hb, hg, hz, hgn, iw, inn, ij, il'])
  rw [List.filter_eq_self.mpr (fun _ _ => rfl)] at e2
  subst e2
  clear hE
  obtain ⟨ps, hps⟩ : ∃ ps : Ps, ps = (List.range (2 * s)).map fun k => (w.getD k 0, jN (nums.getD k 0)) := ⟨_, rfl⟩
  have hpl : ps.length = 2 * s := by rw [hps]; simp
  have hpf : ps.map (·.1) = w := by
    rw [hps, List.map_map]
    apply List.ext_getElem
    · simp [gl]
    · intro i h1 h2
      simp
      rw [List.getElem?_eq_getElem h2]
      rfl
  have hpar : Par ps := fun p hp => gp p.1 (by rw [← hpf]; exact List.mem_map.mpr ⟨p, hp, rfl⟩)
  have hst : strsOf ((List.range (2 * s)).map fun k => D.str (w.getD k 0 :: ins (jN (nums.getD k 0)))) = some (ps.map fun p => p.1 :: ins p.2) := by
    have := strsOf_map (ps.map fun p => p.1 :: ins p.2)
    rw [← this, hps]
    simp [List.map_map, Function.comp_def]
  have hfl : (ps.map fun p => p.1 :: ins p.2).flatten = txt ps := by unfold txt; rw [List.flatMap_def]
  have htl : (txt ps).length ≤ 40 := Nat.le_trans (txt_len ps) (by omega)
  have hsl : (stp ps).length ≤ 40 := Nat.le_trans (stp_len ps) (by omega)
  have hsum : ((ps.map fun p => p.1 :: ins p.2).map List.length).sum ≤ 16777216 := by
    rw [← List.length_flatten, hfl]; omega
  have tl1 : (txt ps).length ≤ 16777216 := Nat.le_trans htl (by decide)
  have tl2 : 1 + (txt ps).length ≤ 16777216 := Nat.le_trans (Nat.add_le_add_left htl 1) (by decide)
  have tl3 : (txt ps).length + 1 ≤ 16777216 := Nat.le_trans (Nat.add_le_add_right htl 1) (by decide)
  have ck1 := H.check ps hpar (Nat.le_trans htl (by decide)) (Nat.le_trans hsl (by decide))
  have ck2 := H.check ((40, 0) :: ps) (fun p hp => (List.mem_cons.mp hp).elim (fun e => .inl (by rw [e])) (hpar p)) (by rw [txt_cons]; simp [ins]; omega) (by rw [stp_cons]; simp [ins', ins]; omega)
  have ck3 := H.check (ps ++ [(41, 0)]) (fun p hp => (List.mem_append.mp hp).elim (hpar p) (fun h => .inr (by simp at h; rw [h]))) (by unfold txt at htl ⊢; simp [ins] at htl ⊢; omega) (by unfold stp at hsl ⊢; simp [ins, ins'] at hsl ⊢; omega)
  rw [hpf, g1] at ck1
  have x2 : txt ((40, 0) :: ps) = 40 :: txt ps := by rw [txt_cons]; simp [ins]
  have x3 : txt (ps ++ [(41, 0)]) = txt ps ++ [41] := by unfold txt; simp [ins]
  rw [x2, List.map_cons, hpf, g2] at ck2
  rw [x3, List.map_append, hpf] at ck3
  simp only [List.map_cons, List.map_nil, g3] at ck3
  have stx := H.strip ps hpar (Nat.le_trans htl (by decide)) (Nat.le_trans hsl (by decide))
  have gnx := H.gn ps hpar
  generalize (List.range (2 * s)).map (fun k => D.str (w.getD k 0 :: ins (jN (nums.getD k 0)))) = ds at hst ⊢
  generalize (ps.map fun p => p.1 :: ins p.2) = lst at hst hfl hsum
  simp [-Option.bind_some, smallI, bindS, runL_nil, runL_cons, contL_next, contL_ret, x_whileR, z_if, x_assign, z_ret, hb, hg, hz, hgn, hst, hsum, hfl, b3, b7, ck1, ck2, ck3, stx, gnx, isNoneD, tl1, tl2, tl3]
  rw [compF_t]
  rotate_left
  · kernel_rfl
  simp [-Option.bind_some, smallI, bindS, runL_nil, runL_cons, contL_next, contL_ret, x_whileR, z_if, x_assign, z_ret, hb, hg, hz, hgn, hst, hsum, hfl, b3, b7, ck1, ck2, ck3, stx, gnx, isNoneD, tl1, tl2, tl3]
  generalize hE : evComp _ _ _ _ _ _ _ _ = E
  have e3 := evComp_at hE (escN 0 false (stp ps)) encU (fun o => o.toList.flatMap fun u => [((⟨⟨[112, 108, 97, 99, 101]⟩⟩ : Str), D.int (u.1 : Nat)), ((⟨⟨[117, 110, 105, 116]⟩⟩ : Str), D.str u.2)]) (fun _ => true) (fun u => D.str u.2) rfl rfl (fun _ _ => ⟨rfl, rfl⟩)
    (by rintro (_ | o) x _ <;> simp [-Option.bind_some, smallI, bindR, r_nil, r_cons, c_next, c_ret, y_if, y_assign, y_ret, badN, isGl, storable, isLo, callD, genD, List.lookup_cons, List.lookup_nil, str_beq, setV, nameV_g, nm0, nm1, encU]) (fun _ _ => rfl) (by
      intro u hu _
      refine ⟨?_, rfl⟩
      simp [-Option.bind_some, smallI, bindR, r_nil, r_cons, c_next, c_ret, y_if, y_assign, y_ret, badN, isGl, storable, isLo, callD, genD, List.lookup_cons, List.lookup_nil, str_beq, setV, nameV_g, nm0, nm1])
  rw [List.filter_eq_self.mpr (fun _ _ => rfl)] at e3
  have hun : (escN 0 false (stp ps)).map (fun u => D.str u.2) = ((escN 0 false (stp ps)).map (·.2)).map D.str := by rw [List.map_map]; rfl
  rw [hun] at e3
  subst e3
  clear hE hun
  have hrs := row_stp (ps := ps) 0 hpar
  rw [hpf] at hrs
  have hul : ((escN 0 false (stp ps)).map (·.2)).length ≤ 1000 := by
    rw [List.length_map]
    exact Nat.le_trans (escN_at (stp ps) 0 false).2.2 (Nat.le_trans hsl (by decide))
  generalize (escN 0 false (stp ps)).map (·.2) = us at hrs hul ⊢
  have hul' : us.length ≤ 16777216 := Nat.le_trans hul (by decide)
  have hel : (escN 0 false (stp ps)).length ≤ 16777216 := Nat.le_trans (escN_at (stp ps) 0 false).2.2 (Nat.le_trans hsl (by decide))
  simp [-Option.bind_some, smallI, bindS, runL_nil, runL_cons, contL_next, contL_ret, x_whileR, z_if, x_assign, z_ret, hb, hg, hz, hgn, hul', hel, b2]
  rw [compF_t]
  rotate_left
  · kernel_rfl
  simp [-Option.bind_some, smallI, bindS, runL_nil, runL_cons, contL_next, contL_ret, x_whileR, z_if, x_assign, z_ret, hb, hg, hz, hgn, hul', hel, b2]
  generalize hE : evComp _ _ _ _ _ _ _ _ = E
  have e4 := evComp_at hE us D.str (fun o => o.toList.map fun u => ((⟨⟨[117, 110, 105, 116]⟩⟩ : Str), D.str u)) isPar D.str rfl rfl (fun _ _ => ⟨rfl, rfl⟩)
    (by rintro (_ | o) x _ <;> simp [-Option.bind_some, smallI, bindR, r_nil, r_cons, c_next, c_ret, y_if, y_assign, y_ret, badN, isGl, storable, isLo, callD, genD, List.lookup_cons, List.lookup_nil, str_beq, setV, nameV_g, nm0, nm1]) (by
      intro u hu
      by_cases q1 : u = [40]
      · subst q1
        simp [-Option.bind_some, smallI, bindR, r_nil, r_cons, c_next, c_ret, y_if, y_assign, y_ret, badN, isGl, storable, isLo, callD, genD, List.lookup_cons, List.lookup_nil, str_beq, setV, nameV_g, nm0, nm1, ifsT, isPar, strsOf]
      · by_cases q2 : u = [41]
        · subst q2
          simp [-Option.bind_some, smallI, bindR, r_nil, r_cons, c_next, c_ret, y_if, y_assign, y_ret, badN, isGl, storable, isLo, callD, genD, List.lookup_cons, List.lookup_nil, str_beq, setV, nameV_g, nm0, nm1, ifsT, isPar, strsOf]
        · have q1' : ¬ [40] = u := fun e => q1 e.symm
          have q2' : ¬ [41] = u := fun e => q2 e.symm
          simp [-Option.bind_some, smallI, bindR, r_nil, r_cons, c_next, c_ret, y_if, y_assign, y_ret, badN, isGl, storable, isLo, callD, genD, List.lookup_cons, List.lookup_nil, str_beq, setV, nameV_g, nm0, nm1, ifsT, isPar, strsOf]
          have f1 : (([40] : List Nat) == u) = false := by simpa using q1'
          have f2 : (([41] : List Nat) == u) = false := by simpa using q2'
          have f3 : (u == ([40] : List Nat)) = false := by simpa using q1
          have f4 : (u == ([41] : List Nat)) = false := by simpa using q2
          rw [f1, f2, f3, f4]) (by
      intro u hu _
      refine ⟨?_, rfl⟩
      simp [-Option.bind_some, smallI, bindR, r_nil, r_cons, c_next, c_ret, y_if, y_assign, y_ret, badN, isGl, storable, isLo, callD, genD, List.lookup_cons, List.lookup_nil, str_beq, setV, nameV_g, nm0, nm1])
  subst e4
  clear hE
  have hfs := strsOf_map (us.filter isPar)
  have hfw : (us.filter isPar).flatten.length ≤ 16777216 := by rw [hrs]; omega
  rw [List.length_flatten] at hfw
  generalize us.filter isPar = fs at hfs hfw hrs ⊢
  cases hor : orderN w with
  | none => rw [hor] at g4; simp at g4
  | some o =>
  rw [hor] at g4
  simp only [Bool.and_eq_true, decide_eq_true_eq, List.all_eq_true, beq_iff_eq] at g4
  obtain ⟨⟨gol, gok⟩, gend⟩ := g4
  have hord := H.order w o hor
  have hon : o.map (fun n => D.int ((n : Nat) : Int)) = (o.map fun n => ((n : Nat) : Int)).map D.int := by rw [List.map_map]; rfl
  rw [hon] at hord
  have onl : (o.map fun n => ((n : Nat) : Int)).length = s := by simp [gol]
  have ong : ∀ k, k < s → (o.map fun n => ((n : Nat) : Int)).getD k 0 = ((o.getD k 0 : Nat) : Int) := fun k hk => by
    have : k < o.length := by omega
    simp [this]
  generalize (o.map fun n => ((n : Nat) : Int)) = on at hord onl ong ⊢
  have z1 : s < 536870912 := Nat.lt_of_le_of_lt sB (by decide)
  have rO1 : rangeOk 0 (s : Int) 1 = true := by
    unfold rangeOk
    rw [small_of (i := 0) (by decide), small_of (i := 1) (by decide), small_of (i := (s : Int)) (by omega)]
    rfl
  have nz1 : s ≤ 16777216 := Nat.le_trans sB (by decide)
  simp [-Option.bind_some, smallI, bindS, runL_nil, runL_cons, contL_next, contL_ret, x_whileR, z_if, x_assign, z_ret, hb, hg, hz, hgn, hfs, hfw, hrs, b2, b6, hord, z1, rO1, rangeL_1, nz1]
  rw [compF_t]
  rotate_left
  · kernel_rfl
  simp [-Option.bind_some, smallI, bindS, runL_nil, runL_cons, contL_next, contL_ret, x_whileR, z_if, x_assign, z_ret, hb, hg, hz, hgn, hfs, hfw, hrs, b2, b6, hord, z1, rO1, rangeL_1, nz1]
  generalize hE : evComp _ _ _ _ _ _ _ _ = E
  have e5 := evComp_at hE (List.range s) (fun (k : Nat) => D.int (k : Int)) (fun oo => [((⟨⟨[110, 117, 109, 98, 101, 114, 115]⟩⟩ : Str), D.list (nums.map D.int)), ((⟨⟨[111, 114, 100, 101, 114]⟩⟩ : Str), D.list (on.map D.int))] ++ (oo.toList.map fun (k : Nat) => ((⟨⟨[107]⟩⟩ : Str), D.int (k : Int)))) (fun _ => true) (fun k => D.str (hidN (nums.getD k 0) ++ [(shapeN (nums.getD k 0) + (o.getD k 0 : Nat)).toNat])) rfl rfl (fun _ _ => ⟨rfl, rfl⟩)
    (by rintro (_ | oo) x _ <;> simp [-Option.bind_some, smallI, bindR, r_nil, r_cons, c_next, c_ret, y_if, y_assign, y_ret, badN, isGl, storable, isLo, callD, genD, List.lookup_cons, List.lookup_nil, str_beq, setV, nameV_g, nm0, nm1]) (fun _ _ => rfl) (by
      intro k hk _
      have hk : k < s := by simpa using hk
      have inn : itemD (.list (nums.map .int)) (k : Int) = some (.int (nums.getD k 0)) := item_ints (by omega) (by omega) (by omega)
      have ion : itemD (.list (on.map .int)) (k : Int) = some (.int (on.getD k 0)) := item_ints (by omega) (by omega) (by omega)
      rw [ong k hk] at ion
      have ok5 : o.getD k 0 ≤ 4 := by
        have hko : k < o.length := by omega
        have := gok (o.getD k 0) (by simp [hko])
        omega
      have ty := H.typed (o.getD k 0) (nums.getD k 0) ok5
      refine ⟨?_, rfl⟩
      generalize nums.getD k 0 = x at inn ty ⊢
      generalize o.getD k 0 = y at ion ty ⊢
      simp [-Option.bind_some, smallI, bindR, r_nil, r_cons, c_next, c_ret, y_if, y_assign, y_ret, badN, isGl, storable, isLo, callD, genD, List.lookup_cons, List.lookup_nil, str_beq, setV, nameV_g, nm0, nm1, hb, hg, hz, hgn, inn, ion, ty, b5])
  rw [List.filter_eq_self.mpr (fun _ _ => rfl)] at e5
  subst e5
  clear hE
  obtain ⟨prs, hprs⟩ : ∃ prs : List (Int × Nat), prs = (List.range s).map fun k => (nums.getD k 0, o.getD k 0) := ⟨_, rfl⟩
  have hprl : prs.length = s := by rw [hprs]; simp
  have hpo : prs.map (fun p => 97 + p.2) = o.map (97 + ·) := by
    rw [hprs, List.map_map]
    apply List.ext_getElem
    · simp [gol]
    · intro i h1 h2
      simp at h2
      simp [h2]
  have hp5 : ∀ p ∈ prs, p.2 < 5 := by
    intro p hp
    rw [hprs] at hp
    obtain ⟨k, hk, rfl⟩ := List.mem_map.mp hp
    have hk : k < s := by simpa using hk
    have hko : k < o.length := by omega
    have := gok (o.getD k 0) (by simp [hko])
    simp only
    omega
  obtain ⟨ta1, ta2, ta3⟩ := typed_all [] prs hp5
  rw [hpo] at ta1
  have hsw : strsOf ((List.range s).map fun k => D.str (hidN (nums.getD k 0) ++ [(shapeN (nums.getD k 0) + (o.getD k 0 : Nat)).toNat])) = some (prs.map fun p => hidN p.1 ++ [(shapeN p.1 + p.2).toNat]) := by
    have := strsOf_map (prs.map fun p => hidN p.1 ++ [(shapeN p.1 + p.2).toNat])
    rw [← this, hprs]
    simp [List.map_map, Function.comp_def]
  have hfm : (prs.flatMap fun p => hidN p.1 ++ [(shapeN p.1 + p.2).toNat]) = (prs.map fun p => hidN p.1 ++ [(shapeN p.1 + p.2).toNat]).flatten := List.flatMap_def ..
  rw [hfm] at ta1 ta2 ta3
  clear hfm
  generalize (prs.map fun p => hidN p.1 ++ [(shapeN p.1 + p.2).toNat]) = tws at hsw ta1 ta2 ta3
  generalize (List.range s).map (fun k => D.str (hidN (nums.getD k 0) ++ [(shapeN (nums.getD k 0) + (o.getD k 0 : Nat)).toNat])) = ds2 at hsw ⊢
  have prx := H.prep tws.flatten ta2 (by omega)
  rw [ta1] at prx
  have htw : tws.flatten.length ≤ 16777216 := by omega
  rw [List.length_flatten] at htw
  generalize hword : o.map (97 + ·) = word at prx gend ⊢
  have wl : word.length = s := by rw [← hword]; simp [gol]
  have wc : ∀ c ∈ word, 97 ≤ c ∧ c ≤ 101 := by
    intro c hc
    rw [← hword] at hc
    obtain ⟨k, hk, rfl⟩ := List.mem_map.mp hc
    have := gok k hk
    omega
  have i00 : itemD (.list (nums.map .int)) 0 = some (.int (nums.getD 0 0)) := item_ints (i := 0) (by omega) (by omega) (by omega)
  have r27 := fmod_range (nums.getD 0 0) (n := 27) (by decide)
  have i27 : itemD (.list (b1L.map .int)) ((nums.getD 0 0).fmod 27) = some (.int (b1L.getD (((nums.getD 0 0).fmod 27).toNat) 0)) := item_ints r27.1 (by rw [b1_len]; exact r27.2) (by rw [b1_len]; decide)
  have i27' : ((nums.getD 0 0).fmod 27).toNat < 27 := by omega
  generalize ((nums.getD 0 0).fmod 27).toNat = ix at i27 i27'
  have hbc := b1_at ix i27'
  have hrp := ruler_prep s hs ix i27'
  have hcode : 0 ≤ b1L.getD ix 0 ∧ b1L.getD ix 0 ≤ 1114111 := by
    have hlt : ix < b1L.length := by rw [b1_len]; omega
    rw [List.getD_eq_getElem?_getD, List.getElem?_eq_getElem hlt]
    exact b1_code _ (List.getElem_mem hlt)
  generalize b1L.getD ix 0 = ci at i27 hbc hrp hcode ⊢
  have hs2 : (s : Int).fdiv 2 = (s : Int) / 2 := Int.fdiv_eq_ediv_of_nonneg _ (by decide)
  have hs4 : (0 : Int) < (s : Int) / 2 := by omega
  have hs5 : (s : Int) / 2 ≤ 100 := by omega
  have hs6 : ((s : Int) / 2).toNat = s / 2 := by omega
  have hrm : (List.replicate (s / 2) [ci.toNat]).flatten = List.replicate (s / 2) ci.toNat := by simp
  generalize nums.getD 0 0 = n0 at i00 i27 ⊢
  obtain ⟨al, hal⟩ : ∃ al : List Nat, al = (List.range s).map (97 + ·) := ⟨_, rfl⟩
  have abc : sliceL none (some (s : Int)) none [97, 98, 99, 100, 101] = al := by
    rw [hal]
    rcases hs with rfl | rfl | rfl <;> rfl
  have all5 : al.length = s := by rw [hal]; simp
  have all6 : al.length ≤ 16777216 := all5 ▸ nz1
  obtain ⟨rm, hrm2⟩ : ∃ rm : List Nat, rm = List.replicate (s / 2) ci.toNat := ⟨_, rfl⟩
  have rml : rm.length ≤ 2 := by rw [hrm2]; simp; omega
  simp [-Option.bind_some, smallI, bindS, runL_nil, runL_cons, contL_next, contL_ret, x_whileR, z_if, x_assign, z_ret, hb, hg, hz, hgn, hsw, htw, b6, b8, prx, H.unseen, i00, i27, hcode.1, hcode.2, hs2, hs4, hs5, hs6, ← hrm2, abc, all6]
  rw [compF_t]
  rotate_left
  · kernel_rfl
  simp [-Option.bind_some, smallI, bindS, runL_nil, runL_cons, contL_next, contL_ret, x_whileR, z_if, x_assign, z_ret, hb, hg, hz, hgn, hsw, htw, b6, b8, prx, H.unseen, i00, i27, hcode.1, hcode.2, hs2, hs4, hs5, hs6, ← hrm2, abc, all6]
  generalize hE : evComp _ _ _ _ _ _ _ _ = E
  have e6 := evComp_at hE al (fun (c : Nat) => D.str [c]) (fun oo => [((⟨⟨[114, 111, 111, 109]⟩⟩ : Str), D.str rm)] ++ (oo.toList.map fun (c : Nat) => ((⟨⟨[108, 101, 116, 116, 101, 114]⟩⟩ : Str), D.str [c]))) (fun _ => true) (fun c => D.str (c :: rm)) rfl rfl (fun _ _ => ⟨rfl, rfl⟩)
    (by rintro (_ | oo) x _ <;> simp [-Option.bind_some, smallI, bindR, r_nil, r_cons, c_next, c_ret, y_if, y_assign, y_ret, badN, isGl, storable, isLo, callD, genD, List.lookup_cons, List.lookup_nil, str_beq, setV, nameV_g, nm0, nm1]) (fun _ _ => rfl) (by
      intro c hc _
      have rml' : rm.length ≤ 16777215 := Nat.le_trans rml (by decide)
      refine ⟨?_, rfl⟩
      simp [-Option.bind_some, smallI, bindR, r_nil, r_cons, c_next, c_ret, y_if, y_assign, y_ret, badN, isGl, storable, isLo, callD, genD, List.lookup_cons, List.lookup_nil, str_beq, setV, nameV_g, nm0, nm1, rml'])
  rw [List.filter_eq_self.mpr (fun _ _ => rfl)] at e6
  subst e6
  clear hE
  have hsr : strsOf (al.map fun c => D.str (c :: rm)) = some (al.map fun c => c :: rm) := by
    have := strsOf_map (al.map fun c => c :: rm)
    rw [← this]
    simp [List.map_map, Function.comp_def]
  have hrul : rm ++ (al.map fun c => c :: rm).flatten = rulerN s ci.toNat := by
    unfold rulerN
    rw [hal, hrm2, ← List.flatMap_def, List.flatMap_map]
  have hrl : (rulerN s ci.toNat).length ≤ 17 := by
    unfold rulerN
    rcases hs with rfl | rfl | rfl <;> simp [List.range_succ]
  have hfl2 : (al.map fun c => c :: rm).flatten.length ≤ 17 := by
    have := congrArg List.length hrul
    rw [List.length_append] at this
    omega
  have hfl3 : ((al.map fun c => c :: rm).map List.length).sum ≤ 16777216 := by rw [← List.length_flatten]; omega
  have hfl4 : rm.length + ((al.map fun c => c :: rm).map List.length).sum ≤ 16777216 := by rw [← List.length_flatten]; omega
  generalize (al.map fun c => c :: rm) = rls at hsr hrul hfl2 hfl3 hfl4
  generalize al.map (fun c => D.str (c :: rm)) = ds3 at hsr ⊢
  have hrl' : (rulerN s ci.toNat).length ≤ 16777216 := Nat.le_trans hrl (by decide)
  simp [-Option.bind_some, smallI, bindS, runL_nil, runL_cons, contL_next, contL_ret, x_whileR, z_if, x_assign, z_ret, hb, hg, hz, hgn, hsr, hfl3, hfl4, hrul, hrl', abc, all6]
  rw [compF_t]
  rotate_left
  · kernel_rfl
  simp [-Option.bind_some, smallI, bindS, runL_nil, runL_cons, contL_next, contL_ret, x_whileR, z_if, x_assign, z_ret, hb, hg, hz, hgn, hsr, hfl3, hfl4, hrul, hrl', abc, all6]
  generalize hE : evComp _ _ _ _ _ _ _ _ = E
  have e7 := evComp_at hE al (fun (c : Nat) => D.str [c]) (fun oo => [((⟨⟨[119, 111, 114, 100]⟩⟩ : Str), D.str word)] ++ (oo.toList.map fun (c : Nat) => ((⟨⟨[108, 97, 115, 116]⟩⟩ : Str), D.str [c]))) (fun _ => true) (fun c => D.str (word.filter (fun x => decide (x ≤ c)))) rfl rfl (fun _ _ => ⟨rfl, rfl⟩)
    (by rintro (_ | oo) x _ <;> simp [-Option.bind_some, smallI, bindR, r_nil, r_cons, c_next, c_ret, y_if, y_assign, y_ret, badN, isGl, storable, isLo, callD, genD, List.lookup_cons, List.lookup_nil, str_beq, setV, nameV_g, nm0, nm1]) (fun _ _ => rfl) (by
      intro c hc _
      refine ⟨?_, rfl⟩
      have wl' : word.length ≤ 16777216 := wl ▸ nz1
      simp [-Option.bind_some, smallI, bindR, r_nil, r_cons, c_next, c_ret, y_if, y_assign, y_ret, badN, isGl, storable, isLo, callD, genD, List.lookup_cons, List.lookup_nil, str_beq, setV, nameV_g, nm0, nm1, wl']
      rw [compF_t]
      rotate_left
      · kernel_rfl
      simp [-Option.bind_some, smallI, bindR, r_nil, r_cons, c_next, c_ret, y_if, y_assign, y_ret, badN, isGl, storable, isLo, callD, genD, List.lookup_cons, List.lookup_nil, str_beq, setV, nameV_g, nm0, nm1, wl']
      generalize hE2 : evComp _ _ _ _ _ _ _ _ = E2
      have e8 := evComp_at hE2 word (fun (x : Nat) => D.str [x]) (fun oo => [((⟨⟨[108, 97, 115, 116]⟩⟩ : Str), D.str [c])] ++ (oo.toList.map fun (x : Nat) => ((⟨⟨[108, 101, 116, 116, 101, 114]⟩⟩ : Str), D.str [x]))) (fun x => decide (x ≤ c)) (fun x => D.str [x]) rfl rfl (fun _ _ => ⟨rfl, rfl⟩)
        (by rintro (_ | oo) x _ <;> simp [-Option.bind_some, smallI, bindR, r_nil, r_cons, c_next, c_ret, y_if, y_assign, y_ret, badN, isGl, storable, isLo, callD, genD, List.lookup_cons, List.lookup_nil, str_beq, setV, nameV_g, nm0, nm1]) (by
          intro x hx
          simp [-Option.bind_some, smallI, bindR, r_nil, r_cons, c_next, c_ret, y_if, y_assign, y_ret, badN, isGl, storable, isLo, callD, genD, List.lookup_cons, List.lookup_nil, str_beq, setV, nameV_g, nm0, nm1, ifsT]) (by
          intro x hx _
          refine ⟨?_, rfl⟩
          simp [-Option.bind_some, smallI, bindR, r_nil, r_cons, c_next, c_ret, y_if, y_assign, y_ret, badN, isGl, storable, isLo, callD, genD, List.lookup_cons, List.lookup_nil, str_beq, setV, nameV_g, nm0, nm1])
      subst e8
      have hfil : (word.filter (fun x => decide (x ≤ c))).length ≤ 16777216 := Nat.le_trans (List.length_filter_le _ _) wl'
      generalize word.filter (fun x => decide (x ≤ c)) = fw at hfil ⊢
      have s1 : strsOf (fw.map fun x => D.str [x]) = some (fw.map fun x => [x]) := by
        have := strsOf_map (fw.map fun x => [x])
        rw [← this]
        simp [List.map_map, Function.comp_def]
      have s2 : (fw.map fun x => [x]).flatten = fw := by
        clear s1 hfil hE2
        induction fw with
        | nil => rfl
        | cons x r ih => simp [ih]
      have s3 : ((fw.map fun x => [x]).map List.length).sum ≤ 16777216 := by rw [← List.length_flatten, s2]; exact hfil
      generalize (fw.map fun x => [x]) = fx at s1 s2 s3
      generalize (fw.map fun x => D.str [x]) = dx at s1 ⊢
      simp [-Option.bind_some, smallI, bindR, r_nil, r_cons, c_next, c_ret, y_if, y_assign, y_ret, badN, isGl, storable, isLo, callD, genD, List.lookup_cons, List.lookup_nil, str_beq, setV, nameV_g, nm0, nm1, s1, s2, s3])
  rw [List.filter_eq_self.mpr (fun _ _ => rfl)] at e7
  have hles : (al.map fun c => D.str (word.filter (fun x => decide (x ≤ c)))) = (lesserN s word).map D.str := by
    unfold lesserN
    rw [hal, List.map_map, List.map_map]
    rfl
  rw [hles] at e7
  subst e7
  clear hE hles
  have tl1 := H.told s ci.toNat 40 41 (lesserN s word) (by omega) hbc (by unfold lesserN; simp; omega) (by
    intro v hv
    unfold lesserN at hv
    obtain ⟨k, _, rfl⟩ := List.mem_map.mp hv
    exact ⟨Nat.le_trans (List.length_filter_le _ _) (by omega), fun x hx => wc x (List.mem_filter.mp hx).1⟩)
  have tl2 := H.told s ci.toNat 41 40 (prefN s word) (by omega) hbc (by unfold prefN; simp; omega) (by
    intro v hv
    unfold prefN at hv
    obtain ⟨k, _, rfl⟩ := List.mem_map.mp hv
    exact ⟨by simp; omega, fun x hx => wc x (List.mem_of_mem_take hx)⟩)
  have hlc : ∀ v ∈ lesserN s word, ∀ x ∈ v, 97 ≤ x ∧ x ≤ 101 := by
    intro v hv
    unfold lesserN at hv
    obtain ⟨k, _, rfl⟩ := List.mem_map.mp hv
    exact fun x hx => wc x (List.mem_filter.mp hx).1
  generalize lesserN s word = les at tl1 gend hlc ⊢
  simp [-Option.bind_some, smallI, bindS, runL_nil, runL_cons, contL_next, contL_ret, x_whileR, z_if, x_assign, z_ret, hb, hg, hz, hgn, b4, tl1, z1, rO1, rangeL_1, nz1]
  rw [compF_t]
  rotate_left
  · kernel_rfl
  simp [-Option.bind_some, smallI, bindS, runL_nil, runL_cons, contL_next, contL_ret, x_whileR, z_if, x_assign, z_ret, hb, hg, hz, hgn, b4, tl1, z1, rO1, rangeL_1, nz1]
  generalize hE : evComp _ _ _ _ _ _ _ _ = E
  have e9 := evComp_at hE (List.range s) (fun (k : Nat) => D.int (k : Int)) (fun oo => [((⟨⟨[119, 111, 114, 100]⟩⟩ : Str), D.str word)] ++ (oo.toList.map fun (k : Nat) => ((⟨⟨[107]⟩⟩ : Str), D.int (k : Int)))) (fun _ => true) (fun k => D.str (word.take (k + 1))) rfl rfl (fun _ _ => ⟨rfl, rfl⟩)
    (by rintro (_ | oo) x _ <;> simp [-Option.bind_some, smallI, bindR, r_nil, r_cons, c_next, c_ret, y_if, y_assign, y_ret, badN, isGl, storable, isLo, callD, genD, List.lookup_cons, List.lookup_nil, str_beq, setV, nameV_g, nm0, nm1]) (fun _ _ => rfl) (by
      intro k hk _
      have hk : k < s := by simpa using hk
      have wl' : word.length ≤ 16777216 := wl ▸ nz1
      have sl : sliceL none (some ((k : Int) + 1)) none word = word.take (k + 1) := take_slice (by omega)
      refine ⟨?_, rfl⟩
      simp [-Option.bind_some, smallI, bindR, r_nil, r_cons, c_next, c_ret, y_if, y_assign, y_ret, badN, isGl, storable, isLo, callD, genD, List.lookup_cons, List.lookup_nil, str_beq, setV, nameV_g, nm0, nm1, wl', sl])
  rw [List.filter_eq_self.mpr (fun _ _ => rfl)] at e9
  have hpre : (List.range s).map (fun k => D.str (word.take (k + 1))) = (prefN s word).map D.str := by
    unfold prefN
    rw [List.map_map]
    rfl
  rw [hpre] at e9
  subst e9
  clear hE hpre
  have hrev := rev_slice (l := toldP (distN s ci.toNat) (2 * ((rulerN s ci.toNat).length : Int)) 41 40 (prefN s word)) (by rw [toldP_len]; unfold prefN; simp; exact hs)
  have prr := H.prep (rulerN s ci.toNat) hrp.2 (by omega)
  rw [hrp.1, ← hal] at prr
  have hA : toldP (distN s ci.toNat) (2 * ((rulerN s ci.toNat).length : Int)) 40 41 les = toldP (distN s 0) (2 * ((rulerN s 0).length : Int)) 40 41 les := by
    rw [ruler_len s ci.toNat 0]
    exact toldP_congr fun v hv => hdist s ci.toNat v (by omega) hbc (hlc v hv)
  have hB : toldP (distN s ci.toNat) (2 * ((rulerN s ci.toNat).length : Int)) 41 40 (prefN s word) = toldP (distN s 0) (2 * ((rulerN s 0).length : Int)) 41 40 (prefN s word) := by
    rw [ruler_len s ci.toNat 0]
    exact toldP_congr fun v hv => hdist s ci.toNat v (by omega) hbc (by
      unfold prefN at hv
      obtain ⟨k, _, rfl⟩ := List.mem_map.mp hv
      exact fun x hx => wc x (List.mem_of_mem_take hx))
  rw [← hA, ← hB] at gend
  have hBl : (toldP (distN s ci.toNat) (2 * ((rulerN s ci.toNat).length : Int)) 41 40 (prefN s word)).length ≤ 16777216 := by rw [toldP_len]; unfold prefN; simp; omega
  have hAl : (toldP (distN s ci.toNat) (2 * ((rulerN s ci.toNat).length : Int)) 40 41 les).length + (toldP (distN s ci.toNat) (2 * ((rulerN s ci.toNat).length : Int)) 41 40 (prefN s word)).length ≤ 16777216 := by
    have := congrArg List.length gend
    rw [List.length_append, List.length_reverse] at this
    omega
  generalize toldP (distN s ci.toNat) (2 * ((rulerN s ci.toNat).length : Int)) 40 41 les = ta at gend hAl tl1 ⊢
  generalize toldP (distN s ci.toNat) (2 * ((rulerN s ci.toNat).length : Int)) 41 40 (prefN s word) = tb at gend hAl hBl hrev tl2 ⊢
  have hwl : w.length ≤ 16777216 := gl ▸ nz
  simp [-Option.bind_some, smallI, bindS, runL_nil, runL_cons, contL_next, contL_ret, x_whileR, z_if, x_assign, z_ret, hb, hg, hz, hgn, b4, b6, tl2, hrev, prr, hAl, hBl, hwl, gend, abc, all6, retOf]

theorem gn_no (ds : List D) : gnL (⟨⟨[114, 97, 110, 103, 101]⟩⟩ : Str) ds = none := by
  unfold gnL
  rw [if_neg (by decide +kernel)]
theorem gn_yes {x : List Nat} (h : escEnd false x = false) : gnL (⟨⟨[95, 105, 116, 101, 114, 95, 101, 115, 99, 97, 112, 101, 100, 95, 99, 104, 97, 114, 115]⟩⟩ : Str) [.str x] = some ((escN 0 false x).map encU) := by
  unfold gnL
  rw [if_pos (by rw [nm15])]
  simp only [h, Bool.false_eq_true, if_false]
  rw [← escL_N x 0 false h]
theorem natsOf_eq : ∀ {ds : List D} {o : List Nat}, natsOf ds = some o → ds = o.map fun n => D.int (n : Nat)
  | [], o, h => by simp only [natsOf] at h; cases h; rfl
  | d :: r, o, h => by
    unfold natsOf at h
    split at h
    · rename_i e
      exact nomatch e
    · rename_i n r' e
      cases e
      rw [Option.map_eq_some_iff] at h
      obtain ⟨o', h, rfl⟩ := h
      rw [natsOf_eq h]
      rfl
    · cases h

noncomputable def alphaL : List Nat := [97, 98, 99, 100, 101] ++ b1L.map Int.toNat
theorem low_alpha : ∀ x ∈ alphaL, Txt.lower ⟨#[x]⟩ = ⟨#[x]⟩ := by decide +kernel
theorem alpha_let {x : Nat} (h : 97 ≤ x ∧ x ≤ 101) : x ∈ alphaL := by
  have : x = 97 ∨ x = 98 ∨ x = 99 ∨ x = 100 ∨ x = 101 := by omega
  unfold alphaL
  rcases this with rfl | rfl | rfl | rfl | rfl <;> simp
theorem alpha_b1 {c : Nat} (h : b1S c = true) : c ∈ alphaL := by
  unfold b1S at h
  have : (c : Int) ∈ b1L := by simpa using h
  unfold alphaL
  exact List.mem_append.mpr (.inr (List.mem_map.mpr ⟨_, this, by simp⟩))
theorem ruler_mem {s c : Nat} (hs : s ≤ 5) {x : Nat} (h : x ∈ rulerN s c) : x = c ∨ (97 ≤ x ∧ x ≤ 101) := by
  unfold rulerN at h
  rcases List.mem_append.mp h with h | h
  · exact .inl (List.mem_replicate.mp h).2
  · obtain ⟨k, hk, h⟩ := List.mem_flatMap.mp h
    have hk : k < s := by simpa using hk
    rcases List.mem_cons.mp h with rfl | h
    · exact .inr (by omega)
    · exact .inl (List.mem_replicate.mp h).2
theorem cost_ok {x y : Nat} (hx : x ∈ alphaL) (hy : y ∈ alphaL) : T1.fn (⟨⟨[95, 115, 117, 98, 115, 116, 105, 116, 117, 116, 105, 111, 110, 95, 99, 111, 115, 116]⟩⟩ : Str) [.str [x], .str [y]] = some (.int (if x = y then 0 else 2)) := by
  rw [← nm16, f_sub]
  have lx := low_alpha x hx
  have ly := low_alpha y hy
  refine sub_ok' rfl rfl x y (fun h => ?_) (by rw [lx]; simp [Str.length]) (by rw [ly]; simp [Str.length])
  rw [lx, ly]
  intro e
  simp at e
  exact h e

theorem ruler_40 {s : Nat} (hs : s ≤ 5) (c : Nat) : (rulerN s c).length ≤ 40 := by
  have : s = 0 ∨ s = 1 ∨ s = 2 ∨ s = 3 ∨ s = 4 ∨ s = 5 := by omega
  unfold rulerN
  rcases this with rfl | rfl | rfl | rfl | rfl | rfl <;> simp [List.range_succ]

theorem t_strip {ps : Ps} (hp : Par ps) (h1 : (txt ps).length ≤ 1000) (h2 : (stp ps).length ≤ 1000) : T2.fn (⟨⟨[95, 115, 116, 114, 105, 112, 95, 113, 117, 111, 116, 101, 100, 95, 114, 101, 97, 108, 110, 97, 109, 101, 115]⟩⟩ : Str) [.str (txt ps)] = some (.str (stp ps)) := by
  rw [← nm23]
  show callF T1 8 [.str (txt ps)] = _
  rw [strip_ok (T := T1) rfl rfl (txt ps) (gn_yes (end_txt hp)) h1 (by rw [strip_txt hp]; exact h2), strip_txt hp]

theorem lt_T3 : LT T3 where
  hb := rfl
  hg := rfl
  hgn := gn_no
  row := fun ns h => by
    rw [← nm24]
    exact row_ok (T := T1) rfl rfl ns h
  check := fun ps hp h1 h2 => by
    rw [← nm26]
    show callF T2 9 [.str (txt ps)] = _
    rw [check_ok (T := T2) rfl rfl (txt ps) (stp ps) (t_strip hp h1 h2) (gn_yes (end_stp hp)), chkP_stp hp]
  strip := fun ps hp h1 h2 => t_strip hp h1 h2
  gn := fun ps hp => gn_yes (end_stp hp)
  order := fun w o h => by
    rw [← nm25]
    show callF T1 18 [.str w] = _
    unfold orderN at h
    split at h
    · rename_i ds e
      rw [e, natsOf_eq h]
    · cases h
  prep := fun x h1 h2 => by
    rw [← nm22]
    exact prepared_ok x h1 h2
  typed := fun k x h => by
    rw [← nm21]
    exact typed_ok (T := T1) rfl rfl (by rw [← nm17, f_unseen]; exact unseen_ok) k h x
  unseen := by
    rw [← nm17]
    exact unseen_ok
  told := fun s c s0 s1 ws hs hc hl hw => by
    rw [← nm27]
    refine told_ok (T := T2) rfl rfl (distN s c) ws (rulerN s c) s0 s1 (Nat.le_trans (ruler_40 hs c) (by decide)) hl fun w hm => ?_
    rw [← nm20]
    obtain ⟨h1, h2⟩ := hw w hm
    have al : ∀ x ∈ rulerN s c ++ w, x ∈ alphaL := fun x hx => by
      rcases List.mem_append.mp hx with h | h
      · rcases ruler_mem hs h with rfl | h
        · exact alpha_b1 hc
        · exact alpha_let h
      · exact alpha_let (h2 x h)
    exact lev_ok (T := T1) rfl rfl gn_no w (rulerN s c) _ h1 (ruler_40 hs c) fun x hx y hy => cost_ok (al x hx) (al y hy)

theorem good_all : ∀ s : Nat, s = 3 ∨ s = 4 ∨ s = 5 → ∀ w ∈ gen (2 * s) 0 s, Good s w = true := by
  rintro s (rfl | rfl | rfl)
  · exact good_3
  · exact good_4
  · exact good_5

theorem law_true (l : List Int) (h : l.length ≤ 63) : callF T3 22 [.list (l.map .int)] = some (.bool true) :=
  law_eval lt_T3 (fun s c w hs hc hw => dist_c s c w hs hc hw) good_all l h
end Mine.P

namespace Mine
open PySem PySem.Spec PyProof.Rows

/-! the top: statement by statement -/

/-- kept by an expression of the top -/
structure KT (s s' : Shared) : Prop where
  heap : Ext s.heap s'.heap
  gens : s'.gens = s.gens
  os : s'.os = s.os
theorem KT.refl (s : Shared) : KT s s := ⟨fun _ _ e => e, rfl, rfl⟩
theorem KT.trans {a b c : Shared} (x : KT a b) (y : KT b c) : KT a c := ⟨x.heap.trans y.heap, y.gens.trans x.gens, y.os.trans x.os⟩
theorem KT.of {s : Shared} {h' : Heap} {tk : Nat} (k : Ext s.heap h') : KT s { s with heap := h', toks := tk } := ⟨k, rfl, rfl⟩
theorem KT.toks (s : Shared) (tk : Nat) : KT s { s with toks := tk } := ⟨fun _ _ e => e, rfl, rfl⟩

/-- kept by a statement of the top -/
structure KS (Pl : Addr) (s s' : Shared) : Prop where
  heap : ∀ b o, b ≠ Pl → b ≠ mainGlobals → s.heap.get? b = some o → s'.heap.get? b = some o
  gens : s'.gens = s.gens
  os : s'.os = s.os
theorem KS.refl (Pl : Addr) (s : Shared) : KS Pl s s := ⟨fun _ _ _ _ e => e, rfl, rfl⟩
theorem KS.trans {Pl : Addr} {a b c : Shared} (x : KS Pl a b) (y : KS Pl b c) : KS Pl a c :=
  ⟨fun p o h1 h2 e => y.heap p o h1 h2 (x.heap p o h1 h2 e), y.gens.trans x.gens, y.os.trans x.os⟩

/-- a fact about a global name that the rest of the top keeps -/
structure Fct where
  name : Str
  P : Addr → Value → Heap → Prop
  st : ∀ {Pl v h h'}, mainGlobals < Pl → P Pl v h → (∀ b o, b ≠ Pl → b ≠ mainGlobals → h.get? b = some o → h'.get? b = some o) → P Pl v h'

/-- the state between two statements -/
structure TI (c Pl : Addr) (mg₀ mb : Str → Option Value) (L : Nat) (ns : List Str) (fs : List Fct) (mg : Str → Option Value) (h : Heap) : Prop where
  main : ∃ l, h.Main mg c Pl (triples l).toArray ∧ ∀ q ∈ l, q.1.line ≤ L
  out : ∀ x, x ∉ ns → mg x = mg₀ x
  facts : ∀ f ∈ fs, ∃ v, mg f.name = some v ∧ f.P Pl v h
  b : h.Ns builtinsNs mb
  lo : ∀ f ∈ fs, f.name ∈ ns


noncomputable def Room0 (A : Around) : Prop := A.handled = none

/-- a list of statements of the top does this -/
noncomputable def Does (prog : Program) (w : World) (sts : List Stmt) (mg₀ mb : Str → Option Value) (L L' : Nat) (ns ns' : List Str) (fs fs' : List Fct) : Prop :=
  ∀ (c Pl F : Addr) (A : Around) (s : Shared) (mg : Str → Option Value), Room0 A → TI c Pl mg₀ mb L ns fs mg s.heap →
    wpAny (model prog w) A (execs sts (mainEnv prog c F)) (fun f s' => f = .next ∧ KS Pl s s' ∧ ∃ mg', TI c Pl mg₀ mb L' ns' fs' mg' s'.heap) NE s

noncomputable def Does1 (prog : Program) (w : World) (st : Stmt) (mg₀ mb : Str → Option Value) (L L' : Nat) (ns ns' : List Str) (fs fs' : List Fct) : Prop :=
  ∀ (c Pl F : Addr) (A : Around) (s : Shared) (mg : Str → Option Value), Room0 A → TI c Pl mg₀ mb L ns fs mg s.heap →
    wpAny (model prog w) A (exec st (mainEnv prog c F)) (fun f s' => f = .next ∧ KS Pl s s' ∧ ∃ mg', TI c Pl mg₀ mb L' ns' fs' mg' s'.heap) NE s

theorem Does.nil {prog : Program} {w : World} {mg₀ mb : Str → Option Value} {L : Nat} {ns : List Str} {fs : List Fct} : Does prog w [] mg₀ mb L L ns ns fs fs := by
  intro c Pl F A s mg _ I
  exact wpAny_execs_nil ⟨rfl, .refl _ _, mg, I⟩
theorem Does.cons {prog : Program} {w : World} {st : Stmt} {sts : List Stmt} {mg₀ mb : Str → Option Value} {L L' L'' : Nat} {ns ns' ns'' : List Str} {fs fs' fs'' : List Fct} (a : Does1 prog w st mg₀ mb L L' ns ns' fs fs') (b : Does prog w sts mg₀ mb L' L'' ns' ns'' fs' fs'') :
    Does prog w (st :: sts) mg₀ mb L L'' ns ns'' fs fs'' := by
  intro c Pl F A s mg hA I
  refine wpAny_execs_cons (wpAny_mono (a c Pl F A s mg hA I) (fun f s₁ q => ?_) fun _ _ x => x)
  obtain ⟨rfl, k, mg', I'⟩ := q
  exact wpAny_mono (b c Pl F A s₁ mg' hA I') (fun f s₂ q => ⟨q.1, k.trans q.2.1, q.2.2⟩) fun _ _ x => x

section
variable {prog : Program} {w : World} {mg₀ mb : Str → Option Value} {L : Nat} {ns : List Str} {fs : List Fct}

/-- x = value -/
theorem does_assign {x : Str} {px pos : Pos} {value : PySem.Expr} (F : Fct) (hF : F.name = x) (hx : x ∉ ns ∨ (∀ f ∈ fs, f.name ≠ x)) (hloc : prog.main.scope.names.lookup x = some .local) (hmod : prog.main.scope.kind = .module) (hnb : x ≠ "__builtins__")
    (hsw : ∀ env, swapsWith value (some (.Name x px)) pos.line env = pure false)
    (hv : ∀ (c Pl Fr : Addr) (A : Around) (s : Shared) (mg : Str → Option Value), Room0 A → TI c Pl mg₀ mb L ns fs mg s.heap →
      wpAny (model prog w) A (eval value (mainEnv prog c Fr)) (fun v s' => KT s s' ∧ F.P Pl v s'.heap) NE s) :
    Does1 prog w (.Assign [.Name x px] value pos) mg₀ mb L L ns (x :: ns) fs (F :: fs) := by
  intro c Pl Fr A s mg hA I
  refine wpAny_Assign_Name (wpAny_mono (hv c Pl Fr A s mg hA I) (fun v s₁ q => ?_) fun _ _ x => x) (hsw _)
  obtain ⟨k, hP⟩ := q
  obtain ⟨l, M, hl⟩ := I.main
  have hlow := M.low
  have g₁ : s₁.heap.Ns mainGlobals mg := M.g.keeps k.heap
  refine wpAny_storeName_local (env := mainEnv prog c Fr) hloc g₁ (fun h' hg' hs' => ?_) (by show (prog.main.scope.kind == .class || (prog.main.scope.kind == .module && mainGlobals != mainGlobals)) = false; rw [hmod]; rfl)
  have kh : ∀ b o, b ≠ Pl → b ≠ mainGlobals → s₁.heap.get? b = some o → h'.get? b = some o := fun b o _ h2 e => (hs'.2 b h2).trans e
  refine ⟨rfl, ⟨fun b o h1 h2 e => kh b o h1 h2 (k.heap b o e), k.gens, k.os⟩, _, ⟨l, ⟨hg', ?_, hlow, ?_⟩, hl⟩, fun y hy => ?_, fun f hf => ?_, ?_, fun f hf => ?_⟩
  · exact (M.code.keeps k.heap).sameBut hs' (Nat.ne_of_gt hlow.1) (Nat.ne_of_gt hlow.2)
  · obtain ⟨bm, o, hbm, hne0, hneG, hneP, hbo, hrest⟩ := M.bmod
    exact ⟨bm, o, by show (if _ = x then _ else _) = _; rw [if_neg (Ne.symm hnb)]; exact hbm, hne0, hneG, hneP, (hs'.2 _ hneG).trans (k.heap _ _ hbo), hrest⟩
  · show (if y = x then _ else mg y) = _
    simp only [List.mem_cons, not_or] at hy
    rw [if_neg hy.1]
    exact I.out y hy.2
  · rcases List.mem_cons.mp hf with rfl | hf
    · exact ⟨v, by show (if f.name = x then some v else _) = _; rw [if_pos hF], f.st hlow.2 hP kh⟩
    · obtain ⟨u, hu, hp⟩ := I.facts f hf
      have hne : f.name ≠ x := by
        rcases hx with hx | hx
        · intro e
          exact hx (e ▸ I.lo f hf)
        · exact hx f hf
      exact ⟨u, by show (if f.name = x then _ else mg f.name) = _; rw [if_neg hne]; exact hu, f.st hlow.2 (f.st hlow.2 hp fun b o _ _ e => k.heap b o e) kh⟩
  · exact I.b.at fun o e => kh _ o (Nat.ne_of_lt (Nat.lt_trans (by decide) hlow.2)) (by decide) (k.heap _ _ e)
  · rcases List.mem_cons.mp hf with rfl | hf
    · rw [hF]; exact List.mem_cons_self ..
    · exact List.mem_cons_of_mem _ (I.lo f hf)

/-- nothing is told -/
noncomputable def FctAny (x : Str) : Fct := ⟨x, fun _ _ _ => True, fun _ _ _ => trivial⟩
noncomputable def FctInt (x : Str) (i : Int) : Fct := ⟨x, fun _ v _ => ∃ t, v = .int i t, fun _ h _ => h⟩

/-- a def of the text, as its statement left it -/
noncomputable def FctFn (d : DefRec) : Fct := ⟨d.name, fun Pl v h => ∃ a o pm code doc, v = .ref a ∧ h.get? a = some o ∧ o.data = .func (d.data pm (.ref code) doc) ∧ h.CodeRec (.ref code) d.name ∧ Pl < a ∧ Pl < code, by
  intro Pl v h h' hl ⟨a, o, pm, code, doc, e, ho, hd, hc, la, lc⟩ k
  exact ⟨a, o, pm, code, doc, e, k _ _ (Nat.ne_of_gt la) (Nat.ne_of_gt (Nat.lt_trans hl la)) ho, hd, hc.at fun o => k _ o (Nat.ne_of_gt lc) (Nat.ne_of_gt (Nat.lt_trans hl lc)), la, lc⟩⟩

theorem does_def {d : DefRec} (hd : d.Plain prog) (hmod : prog.main.scope.kind = .module) (hL : L < d.pos.line) (hx : d.name ∉ ns) :
    Does1 prog w d.stmt mg₀ mb L d.pos.line ns (d.name :: ns) fs (FctFn d :: fs) := by
  intro c Pl Fr A s mg hA I
  obtain ⟨l, M, hl⟩ := I.main
  have hlow := M.low
  have hPl : Pl < s.heap.objs.size := M.code.lt.2
  refine wpAny_def hd hmod M (by rw [List.toList_toArray]; exact codeAmong_triples _ _ fun q hq e => by have := hl q hq; omega) fun a c' doc h' tk ha hm hf hc keep => ?_
  refine ⟨rfl, ⟨keep, rfl, rfl⟩, _, ⟨l ++ [(d.pos, c')], by rw [triples_append]; simpa using hm, fun q hq => ?_⟩, fun y hy => ?_, fun f hf' => ?_, ?_, fun f hf' => ?_⟩
  · rcases List.mem_append.mp hq with q | q
    · have := hl _ q; omega
    · simp at q; subst q; exact Nat.le_refl _
  · show (if y = d.name then _ else mg y) = _
    simp only [List.mem_cons, not_or] at hy
    rw [if_neg hy.1]
    exact I.out y hy.2
  · rcases List.mem_cons.mp hf' with rfl | hf'
    · exact ⟨.ref a, by show (if d.name = d.name then _ else _) = _; rw [if_pos rfl], a, _, _, c', doc, rfl, hf, rfl, hc.2, Nat.lt_of_lt_of_le hPl ha, Nat.lt_of_lt_of_le hPl hc.1⟩
    · obtain ⟨u, hu, hp⟩ := I.facts f hf'
      have hne : f.name ≠ d.name := fun e => hx (e ▸ I.lo f hf')
      exact ⟨u, by show (if f.name = d.name then _ else mg f.name) = _; rw [if_neg hne]; exact hu, f.st hlow.2 hp keep⟩
  · exact I.b.at fun o e => keep _ o (Nat.ne_of_lt (Nat.lt_trans (by decide) hlow.2)) (by decide) e
  · rcases List.mem_cons.mp hf' with rfl | hf'
    · exact List.mem_cons_self ..
    · exact List.mem_cons_of_mem _ (I.lo f hf')
end
end Mine

namespace Mine
open PySem PySem.Spec PyProof.Rows

/-! values of the top -/
section
variable {prog : Program} {w : World} {mg mb : Str → Option Value} {env : Env}

/-- an expression of the top gives this datum -/
noncomputable def Tv (prog : Program) (w : World) (mg mb : Str → Option Value) (env : Env) (e : Expr) (d : D) : Prop :=
  ∀ A s, A.handled = none → s.heap.Ns mainGlobals mg → s.heap.Ns builtinsNs mb → wpAny (model prog w) A (eval e env) (fun v s' => KT s s' ∧ Rep s'.heap d v) NE s

/-- an expression of the top gives this value, and nothing else happens -/
noncomputable def TvV (prog : Program) (w : World) (mg mb : Str → Option Value) (env : Env) (e : Expr) (v : Value) : Prop :=
  ∀ A s (Q : Value → Shared → Prop), s.heap.Ns mainGlobals mg → s.heap.Ns builtinsNs mb → Q v s → wpAny (model prog w) A (eval e env) Q NE s

inductive Tvs (prog : Program) (w : World) (mg mb : Str → Option Value) (env : Env) : List Expr → List D → Prop
  | nil : Tvs prog w mg mb env [] []
  | cons {e : Expr} {es : List Expr} {d : D} {ds : List D} : isStar e = false → Tv prog w mg mb env e d → Tvs prog w mg mb env es ds → Tvs prog w mg mb env (e :: es) (d :: ds)

theorem tv_int {i : Int} {k : Nat} {p : Pos} : Tv prog w mg mb env (.Constant (.int i) k p) (.int i) := fun _ s _ _ _ =>
  wpAny_Constant_int ⟨.toks _ _, rep_int⟩
theorem tv_name {x : Str} {p : Pos} {v : Value} (hk : env.scope.kind = .module) (hl : env.locals = env.globals) (hg : env.globals = mainGlobals) (hb : env.builtins = builtinsNs) (h1 : mg x = none) (h2 : mb x = some v) (hd : (x == ("__debug__" : Str)) = false) :
    TvV prog w mg mb env (.Name x p) v := fun _ _ _ n b q =>
  Calls.Name_module hk hl (Calls.loadGlobal_builtin (by rw [hg]; exact n) h1 (by rw [hb]; exact b) h2 q) hd

theorem tv_items {A : Around} (hA : A.handled = none) {pos : Pos} : ∀ {es : List Expr} {ds : List D} {s : Shared}, Tvs prog w mg mb env es ds → s.heap.Ns mainGlobals mg → s.heap.Ns builtinsNs mb →
    wpAny (model prog w) A (spliced (backTo pos (starEach es env))) (fun vs s' => KT s s' ∧ RepAll s'.heap ds vs) NE s
  | [], ds, s, e, _, _ => by
    cases e
    exact wpAny_items_nil ⟨.refl s, .nil⟩
  | x :: r, ds, s, e, n, b => by
    cases e with
    | cons hst e1 e2 =>
      have he : starEach (x :: r) env = (false, eval x env) :: starEach r env := by
        cases x <;> first | rfl | (exact nomatch hst)
      refine wpAny_items_cons (wpAny_mono (e1 A s hA n b) (fun v s₁ q => ?_) fun _ _ x => x) he
      refine wpAny_mono (tv_items hA e2 (n.keeps q.1.heap) (b.keeps q.1.heap)) (fun vs s₂ q' => ?_) fun _ _ x => x
      exact ⟨q.1.trans q'.1, .cons (q.2.ext q'.1.heap) q'.2⟩

theorem tv_list {es : List Expr} {ds : List D} {p : Pos} (h : Tvs prog w mg mb env es ds) (hsz : ds.length ≤ sizeLine) : Tv prog w mg mb env (.List es p) (.list ds) := fun A s hA n b => by
  refine wpAny_List (wpAny_mono (tv_items hA h n b) (fun vs s₁ q => ?_) fun _ _ x => x)
  have hl := q.2.length
  have g := gv_newL (s := s₁) (vs := vs.toArray) (ds := ds) (by simpa using q.2)
  exact ⟨by omega, q.1.trans (.of (tk := s₁.toks) (.push _ _)), g.2⟩

theorem tv_add {l r : Expr} {xs ys : List D} {p : Pos} (hl : Tv prog w mg mb env l (.list xs)) (hr : Tv prog w mg mb env r (.list ys)) (hsz : xs.length + ys.length ≤ sizeLine) : Tv prog w mg mb env (.BinOp l .Add r p) (.list (xs ++ ys)) := fun A s hA n b => by
  refine wpAny_BinOp (wpAny_mono (hl A s hA n b) (fun va s₁ q₁ => wpAny_mono (hr A s₁ hA (n.keeps q₁.1.heap) (b.keeps q₁.1.heap)) (fun vb s₂ q₂ => ?_) fun _ _ x => x) fun _ _ x => x)
  have ra := q₁.2.ext q₂.1.heap
  have rb := q₂.2
  unfold Rep at ra rb
  obtain ⟨x, vs, m, rfl, i, r⟩ := ra
  obtain ⟨y, us, m', rfl, j, q⟩ := rb
  have l1 := r.length
  have l2 := q.length
  simp only [Array.length_toList] at l1 l2
  have g := gv_newL (s := s₂) (vs := vs ++ us) (ds := xs ++ ys) (by rw [Array.toList_append]; exact r.append q)
  exact P.add_list i j ⟨q₁.1.trans (q₂.1.trans (.of (tk := s₂.toks) (.push _ _))), g.2⟩ (by omega)

/-- a call of one argument -/
theorem tv_call {A : Around} {s : Shared} {f : Expr} {fv : Value} {es : List Expr} {ds : List D} {p : Pos} {Q : Value → Shared → Prop} (hA : A.handled = none) (n : s.heap.Ns mainGlobals mg) (b : s.heap.Ns builtinsNs mb)
    (hf : TvV prog w mg mb env f fv) (hfv : ∀ a, fv ≠ .ref a) (hes : Tvs prog w mg mb env es ds) (hne : es ≠ [])
    (hp : eval (.Call f es [] p) env = (do callWith p (← eval f env) [] (backTo p (starEach es env)) (backToKw p (keywordEach [] env))))
    (h : ∀ vs s₁, KT s s₁ → RepAll s₁.heap ds vs → wpAny (model prog w) A (call fv vs) Q NE s₁) : wpAny (model prog w) A (eval (.Call f es [] p) env) Q NE s := by
  rw [hp]
  refine wpAny_bind (hf A s _ n b ?_)
  have it := tv_items (A := A) hA (pos := p) hes n b
  have hany : ∀ {es : List Expr} {ds : List D}, Tvs prog w mg mb env es ds → (backTo p (starEach es env)).any (·.1) = false := by
    intro es ds hh
    induction hh with
    | nil => rfl
    | @cons e es d ds hst _ _ ih =>
      have he : starEach (e :: es) env = (false, eval e env) :: starEach es env := by
        cases e <;> first | rfl | (exact nomatch hst)
      rw [he]
      simpa [backTo] using ih
  cases hes with
  | nil => exact absurd rfl hne
  | @cons x r d ds hst e1 e2 =>
    have he : starEach (x :: r) env = (false, eval x env) :: starEach r env := by
      cases x <;> first | rfl | (exact nomatch hst)
    have ha := hany (.cons hst e1 e2)
    rw [he] at it ha ⊢
    unfold callWith
    refine wpAny_bind (wpAny_holding ?_)
    refine Calls.evalArgs_plain (wpAny_mono it (fun vs s₁ q => ?_) fun _ _ x => x)
    refine wpAny_bind (wpAny_standAt ?_)
    have hk : keeperOf fv = pure .machine := by
      cases fv <;> first | rfl | (exact absurd rfl (hfv _))
    rw [hk]
    refine wpAny_bind (wpAny_pure ?_)
    rw [ha]
    exact wpAny_bind (wpAny_mono (h vs s₁ q.1 q.2) (fun r s₂ hr => wpAny_bind (wpAny_holding (wpAny_point (wpAny_pure hr)))) fun _ _ x => x)

theorem tv_range {f : Expr} {a b : Expr} {x y : Int} {p : Pos} (hf : TvV prog w mg mb env f (.type "range")) (ha : Tv prog w mg mb env a (.int x)) (hb : Tv prog w mg mb env b (.int y)) (sa : isStar a = false) (sb : isStar b = false)
    (hp : eval (.Call f [a, b] [] p) env = (do callWith p (← eval f env) [] (backTo p (starEach [a, b] env)) (backToKw p (keywordEach [] env)))) :
    Tv prog w mg mb env (.Call f [a, b] [] p) (.range x y 1) := fun A s hA n m => by
  refine tv_call hA n m hf (fun _ e => nomatch e) (.cons sa ha (.cons sb hb .nil)) (by simp) hp fun vs s₁ k r => ?_
  unfold RepAll at r
  obtain ⟨v, q, rfl, ra, r⟩ := r
  unfold RepAll at r
  obtain ⟨u, q, rfl, rb, r⟩ := r
  unfold RepAll at r
  subst r
  unfold Rep at ra rb
  obtain ⟨t1, rfl⟩ := ra
  obtain ⟨t2, rfl⟩ := rb
  refine call_range_2 ⟨k.trans (.of (tk := s₁.toks + 1) (.push _ _)), ?_⟩
  unfold Rep
  exact ⟨_, t1, t2, s₁.toks, rfl, Heap.get?_push_size _ rfl⟩

theorem tv_list_range {f e : Expr} {x y : Int} {p : Pos} (hf : TvV prog w mg mb env f (.type "list")) (he : Tv prog w mg mb env e (.range x y 1)) (se : isStar e = false) (ho : rangeOk x y 1 = true)
    (hz : (Builtin.Range.rangeSize x y 1).toNat ≤ 2 ^ 24)
    (hp : eval (.Call f [e] [] p) env = (do callWith p (← eval f env) [] (backTo p (starEach [e] env)) (backToKw p (keywordEach [] env)))) :
    Tv prog w mg mb env (.Call f [e] [] p) (.list ((rangeL x y 1).map .int)) := fun A s hA n m => by
  refine tv_call hA n m hf (fun _ e => nomatch e) (.cons se he .nil) (by simp) hp fun vs s₁ k r => ?_
  unfold RepAll at r
  obtain ⟨v, q, rfl, ra, r⟩ := r
  unfold RepAll at r
  subst r
  unfold Rep at ra
  obtain ⟨a, t, u, j, rfl, ir⟩ := ra
  obtain ⟨h1, h2⟩ := rangeSmall ho
  have hn : Builtin.Range.rangeSize x y 1 = ((Builtin.Range.rangeSize x y 1).toNat : Int) := by omega
  refine call_list_range hA ir h1 hn hz fun h' tk acc' c' hk hg hit => ⟨k.trans (.of hk), ?_⟩
  unfold Rep
  refine ⟨_, acc', c', rfl, hg, ?_⟩
  unfold rangeL
  rw [List.map_map]
  exact repAll_ints (f := fun j => x + (j : Int) * 1) (by simpa using hit.1) fun j v hv => by
    have := hit.2 j v (by simpa using hv)
    simpa using this
end
end Mine

namespace Mine
open PySem PySem.Spec PyProof.Rows

theorem intsAre_ints {h : Heap} : ∀ {ns : List Int} {vs : List Value}, RepAll h (ns.map .int) vs → IntsAre vs ns
  | [], vs, r => by
    simp only [List.map_nil] at r
    unfold RepAll at r
    subst r
    exact .nil
  | n :: ns, vs, r => by
    simp only [List.map_cons] at r
    unfold RepAll at r
    obtain ⟨v, q, rfl, ra, r⟩ := r
    unfold Rep at ra
    obtain ⟨t, rfl⟩ := ra
    exact .cons n t (intsAre_ints r)

section
variable {prog : Program} {w : World} {mg mb : Str → Option Value} {env : Env}

theorem val_set {f e : Expr} {ns : List Int} {p : Pos} {A : Around} {s : Shared} (hA : A.handled = none) (n : s.heap.Ns mainGlobals mg) (m : s.heap.Ns builtinsNs mb)
    (hf : TvV prog w mg mb env f (.type "set")) (he : Tv prog w mg mb env e (.list (ns.map .int))) (se : isStar e = false) (hz : ns.length + 1 < scanBound)
    (hp : eval (.Call f [e] [] p) env = (do callWith p (← eval f env) [] (backTo p (starEach [e] env)) (backToKw p (keywordEach [] env)))) :
    wpAny (model prog w) A (eval (.Call f [e] [] p) env) (fun v s' => KT s s' ∧ ∃ a n, v = .ref a ∧ (∀ b o, s.heap.get? b = some o → b < a) ∧ s'.heap.SetOf (intKind prog w) a (fun k => (firstMet (fun i => ns.getD i 0) ns.length).any (· == k)) n) NE s := by
  refine tv_call hA n m hf (fun _ e => nomatch e) (.cons se he .nil) (by simp) hp fun vs s₁ k r => ?_
  unfold RepAll at r
  obtain ⟨v, q, rfl, ra, r⟩ := r
  unfold RepAll at r
  subst r
  unfold Rep at ra
  obtain ⟨a, us, c, rfl, il, r⟩ := ra
  have hl := r.length
  simp only [List.length_map, Array.length_toList] at hl
  refine call_set_list (items := us) (ns := ns) hA ⟨_, il, rfl, c, rfl⟩ (intsAre_ints r) (by omega) fun h' tk hS hk => ⟨k.trans (.of fun b o e => hk b o (Heap.lt_size e) e), _, _, rfl, fun b o e => Heap.lt_size (k.heap b o e), by rw [hl] at hS; exact hS⟩
end
end Mine

namespace Mine
open PySem PySem.Spec PyProof.Rows

section
variable {prog : Program} {w : World} {K : Type} [DecidableEq K] {knd : KeyKind prog w K} {A : Around} {E : Value → Shared → Prop} {s : Shared}

theorem stored_fresh {kvs : List (K × Value)} {k : K} {v : Value} (h : k ∉ kvs.map (·.1)) : stored kvs k v = kvs ++ [(k, v)] := by
  unfold stored
  rw [if_neg]
  intro q
  rw [List.any_eq_true] at q
  obtain ⟨x, hx, e⟩ := q
  exact h (List.mem_map.mpr ⟨x, hx, of_decide_eq_true e⟩)

/-- a new key at the end -/
theorem wpAny_dictPut_fresh {d : Addr} {kvs : List (K × Value)} {k : K} {key v : Value} {Q : Unit → Shared → Prop} (hkey : knd.is k key = true) (hm : s.heap.DictOf knd d kvs) (hf : k ∉ kvs.map (·.1)) (hsz : kvs.length ≤ sizeLine)
    (hQ : ∀ h', h'.DictOf knd d (kvs ++ [(k, v)]) → Heap.SameBut d s.heap h' → Q () { s with heap := h' }) : wpAny (model prog w) A (dictPut d (knd.hash k) key v) Q E s := by
  obtain ⟨o, es, ep, ho, hc, hd, hk, hp, hn⟩ := hm
  have hes : es.size ≤ sizeLine := by
    have e1 := hp.length
    have e2 : es.toList.length = es.size := by simp
    omega
  have hidx : (es.findIdx? fun e => knd.is k e.key) = none := by
    have e : (es.findIdx? fun e => knd.is k e.key) = kvs.findIdx? fun kv => decide (kv.1 = k) := by
      rw [← hp.findIdx k]; obtain ⟨l⟩ := es; simp
    rw [e, List.findIdx?_eq_none_iff]
    intro x hx
    exact decide_eq_false fun q => hf (List.mem_map.mpr ⟨x, hx, q⟩)
  unfold dictPut
  refine wpAny_bind (wpAny_dictFind_of hkey ho hd hk ?_)
  rw [hidx]
  refine wpAny_updateDictKeys (hz := hes) ho hd (hQ _ ⟨_, _, ep + 1, Heap.get?_update_self _ ho (Obj.isFreed_of_dict (Obj.data_mapDictKeys hd _)), hc.mapDictKeys _, Obj.data_mapDictKeys hd _, hk.push hkey _, ?_, ?_⟩ (Heap.SameBut.update ..))
  · have := hp.append hkey (knd.hash k) v
    obtain ⟨l⟩ := es
    simpa using this
  · rw [List.map_append, List.nodup_append]
    refine ⟨hn, by simp, fun a ha b hb => ?_⟩
    simp only [List.map_cons, List.map_nil, List.mem_singleton] at hb
    subst hb
    exact fun e => hf (e ▸ ha)

theorem wpAny_mergeMapping {d o : Addr} {kvs more : List (K × Value)} {Q : Unit → Shared → Prop} (hdo : d ≠ o) (hoS : (o == sysModules) = false) (hd : s.heap.DictOf knd d kvs) (ho : s.heap.DictOf knd o more) (hne : kvs ≠ [])
    (hn : ((kvs ++ more).map (·.1)).Nodup) (hsz : kvs.length + more.length ≤ sizeLine)
    (hQ : ∀ h', h'.DictOf knd d (kvs ++ more) → Heap.SameBut d s.heap h' → Q () { s with heap := h' }) : wpAny (model prog w) A (mergeMapping d (.ref o) false) Q E s := by
  obtain ⟨od, esd, epd, hod, hcd, hdd, hkd, hpd, hnd⟩ := id hd
  obtain ⟨oo, eso, epo, hoo, hco, hdo', hko, hpo, hno⟩ := id ho
  unfold mergeMapping
  refine wpAny_bind (wpAny_isInstance ho.typeIs isSubtype_dict_dict ?_)
  simp only [if_true]
  refine wpAny_bind (wpAny_specialOf ho.typeIs F.slot_dict_iter.lookup (wpAny_bind (wpAny_pure ?_)))
  simp only [beq_self_eq_true, hoS, Bool.false_eq_true, if_false]
  refine wpAny_bind (wpAny_dictEntries hod hdd ?_)
  have hemp : esd.isEmpty = false := by
    cases h : esd.isEmpty
    · rfl
    · have h0 : esd = #[] := Array.isEmpty_iff.mp h
      have := hpd.length
      rw [h0] at this
      exact absurd (List.length_eq_zero_iff.mp (by simpa using this.symm)) hne
  rw [hemp]
  simp only [Bool.false_eq_true, if_false]
  refine wpAny_bind (wpAny_dictEntries hoo hdo' ?_)
  refine wpAny_bind (wpAny_dictEpoch hoo hdo' ?_)
  have hlen : more.length = eso.size := by rw [← hpo.length]; simp
  refine wpAny_bind ?_
  have hr : List.range eso.size = List.range' 0 (eso.size - 0) := by rw [List.range_eq_range']; rfl
  rw [hr]
  refine wpAny_forIn_list _
    (fun rest _ s' => ∃ h' i, s' = { s with heap := h' } ∧ rest = List.range' i (eso.size - i) ∧ i ≤ eso.size ∧ h'.DictOf knd d (kvs ++ more.take i) ∧ h'.get? o = some oo ∧ Heap.SameBut d s.heap h')
    _ ?_ ?_ _ _ ⟨s.heap, 0, rfl, rfl, Nat.zero_le _, by simpa using hd, hoo, Heap.SameBut.refl _ _⟩
  · rintro x rest b s' ⟨h', i, rfl, hr, hi, hd', hoo', hs'⟩
    have hlt : i < eso.size := by
      rcases Nat.lt_or_ge i eso.size with h | h
      · exact h
      · rw [Nat.sub_eq_zero_of_le h] at hr; simp at hr
    obtain ⟨rfl, hrest⟩ : x = i ∧ rest = List.range' (i + 1) (eso.size - (i + 1)) := by
      have e : eso.size - i = (eso.size - (i + 1)) + 1 := by omega
      rw [e, List.range'_succ] at hr
      injection hr with h1 h2
      exact ⟨h1, h2⟩
    refine wpAny_bind (wpAny_dictEntries hoo' hdo' ?_)
    rw [Array.getElem?_eq_getElem hlt]
    obtain ⟨kv, hkv⟩ : ∃ kv, more[x]? = some kv := ⟨more[x]'(by rw [hlen]; exact hlt), List.getElem?_eq_getElem _⟩
    obtain ⟨k, v⟩ := kv
    obtain ⟨hkey, hval⟩ := hpo.get? (e := eso[x]) (by simp [hlt]) hkv
    obtain ⟨k', hkey', hhash⟩ := hko eso[x] (Array.getElem_mem hlt)
    obtain rfl : k' = k := knd.inj _ _ _ hkey' hkey
    have hsplit : more = more.take x ++ (k', v) :: more.drop (x + 1) := by
      rw [← List.take_append_drop x more]
      congr 1
      · simp
      · rw [List.take_append_drop]
        rw [List.drop_eq_getElem_cons (by rw [hlen]; exact hlt)]
        congr 1
        rw [List.getElem?_eq_getElem (by rw [hlen]; exact hlt)] at hkv
        exact Option.some.inj hkv
    have hfr : k' ∉ (kvs ++ more.take x).map (·.1) := by
      rw [hsplit, ← List.append_assoc, List.map_append, List.nodup_append] at hn
      exact fun q => hn.2.2 _ q k' (by simp) rfl
    have htake : more.take (x + 1) = more.take x ++ [(k', v)] := by rw [List.take_add_one, hkv]; rfl
    refine wpAny_bind (wpAny_holding ?_)
    rw [hhash, hval]
    refine wpAny_dictPut_fresh hkey hd' hfr (by have := List.length_take_le x more; rw [List.length_append]; omega) fun h'' hd'' hs'' => ?_
    have hoo'' : h''.get? o = some oo := (hs''.2 o (Ne.symm hdo)).trans hoo'
    refine wpAny_bind (wpAny_dictEpoch hoo'' hdo' ?_)
    rw [if_neg (by simp)]
    exact wpAny_pure ⟨h'', x + 1, rfl, hrest, hlt, by rw [htake, ← List.append_assoc]; exact hd'', hoo'', hs'.trans hs''⟩
  · rintro b s' ⟨h', i, rfl, hr, hi, hd', hoo', hs'⟩
    have hin : i = eso.size := by
      rcases Nat.lt_or_ge i eso.size with h | h
      · have e : eso.size - i = (eso.size - (i + 1)) + 1 := by omega
        rw [e, List.range'_succ] at hr; exact nomatch hr
      · exact Nat.le_antisymm hi h
    rw [hin, ← hlen, List.take_length] at hd'
    exact wpAny_pure (hQ h' hd' hs')
end
end Mine

namespace Mine
open PySem PySem.Spec PyProof.Rows

section
variable {prog : Program} {w : World} {K : Type} [DecidableEq K] {knd : KeyKind prog w K} {A : Around} {E : Value → Shared → Prop} {s : Shared}

/-- a key's tree and a value's tree -/
structure PT (knd : KeyKind prog w K) (p : Sem Value × Sem Value) (q : K × PyData) : Prop where
  key : ∀ A E s (Q : Value → Shared → Prop), (∀ v n, knd.is q.1 v = true → Q v { s with toks := n }) → wpAny (model prog w) A p.1 Q E s
  val : ∀ A E s (Q : Value → Shared → Prop), (∀ v n, PyProof.V.Flat v q.2 → Q v { s with toks := n }) → wpAny (model prog w) A p.2 Q E s

inductive PTs (knd : KeyKind prog w K) : List (Sem Value × Sem Value) → List (K × PyData) → Prop
  | nil : PTs knd [] []
  | cons {p : Sem Value × Sem Value} {q : K × PyData} {ps : List (Sem Value × Sem Value)} {l : List (K × PyData)} : PT knd p q → PTs knd ps l → PTs knd (p :: ps) (q :: l)

theorem PTs.snoc {ps : List (Sem Value × Sem Value)} {l : List (K × PyData)} {p : Sem Value × Sem Value} {q : K × PyData} (h : PTs knd ps l) (x : PT knd p q) : PTs knd (ps ++ [p]) (l ++ [q]) := by
  induction h with
  | nil => exact .cons x .nil
  | cons y _ ih => exact .cons y ih

inductive Fp {K : Type} : List (K × Value) → List (K × PyData) → Prop
  | nil : Fp [] []
  | cons {k : K} {v : Value} {d : PyData} {kvs : List (K × Value)} {l : List (K × PyData)} : PyProof.V.Flat v d → Fp kvs l → Fp ((k, v) :: kvs) ((k, d) :: l)

omit [DecidableEq K] in
theorem Fp.keys {kvs : List (K × Value)} {l : List (K × PyData)} (h : Fp kvs l) : kvs.map (·.1) = l.map (·.1) := by
  induction h with
  | nil => rfl
  | cons _ _ ih => simp [ih]
omit [DecidableEq K] in
theorem Fp.app {kvs us : List (K × Value)} {l m : List (K × PyData)} (h : Fp kvs l) (g : Fp us m) : Fp (kvs ++ us) (l ++ m) := by
  induction h with
  | nil => exact g
  | cons f _ ih => exact .cons f ih
omit [DecidableEq K] in
theorem Fp.length {kvs : List (K × Value)} {l : List (K × PyData)} (h : Fp kvs l) : kvs.length = l.length := by
  have := congrArg List.length h.keys
  simpa using this

/-- the pairs' values, at once -/
theorem evalPairs_ok : ∀ {ps : List (Sem Value × Sem Value)} {l : List (K × PyData)} {s : Shared}, PTs knd ps l →
    wpAny (model prog w) A (evalPairs ps) (fun vs s' => ∃ kvs n, Carries knd vs kvs ∧ Fp kvs l ∧ s' = { s with toks := n }) E s
  | [], _, s, h => by
    cases h
    exact evalPairs_nil ⟨[], s.toks, trivial, .nil, rfl⟩
  | (k, v) :: ps, _, s, h => by
    cases h with
    | @cons _ q _ l x hs =>
      refine evalPairs_cons (x.key _ _ _ _ fun kv n hk => x.val _ _ _ _ fun vv m hv => wpAny_mono (evalPairs_ok hs) (fun vs s' g => ?_) fun _ _ x => x)
      obtain ⟨kvs, n', hc, hf, rfl⟩ := g
      exact ⟨(q.1, vv) :: kvs, n', ⟨hk, rfl, hc⟩, .cons hv hf, rfl⟩

/-- a new dict of these pairs -/
noncomputable def SubPost (knd : KeyKind prog w K) (s : Shared) (l : List (K × PyData)) (d : Addr) (s' : Shared) : Prop :=
  d = s.heap.objs.size ∧ ∃ h' n, s' = { s with heap := h', toks := n } ∧ Ext s.heap h' ∧ ∃ kvs, h'.DictOf knd d kvs ∧ Fp kvs l

theorem dict_new (h : Heap) : (h.push { cls := .type "dict", data := .dict #[] }).DictOf knd h.objs.size [] :=
  ⟨_, #[], _, Heap.get?_push_size _ rfl, ⟨rfl, rfl, rfl⟩, rfl, fun e he => by simp at he, .nil, by simp⟩

theorem sub_ok {ps : List (Sem Value × Sem Value)} {l : List (K × PyData)} (h : PTs knd ps l) (hn : (l.map (·.1)).Nodup) (hsz : l.length ≤ sizeLine) : wpAny (model prog w) A (subDict ps) (SubPost knd s l) E s := by
  have ext : ∀ {h₁ h' : Heap}, Ext s.heap h₁ → Heap.SameBut s.heap.objs.size h₁ h' → Ext s.heap h' := fun e sb b o hb => (sb.2 b (Nat.ne_of_lt (Heap.lt_size hb))).trans (e b o hb)
  by_cases hl : ps.length ≤ 15
  · refine wpAny_subDict (knd := knd) hl (wpAny_mono (evalPairs_ok h) (fun vs s₁ g => ?_) fun _ _ x => x)
    obtain ⟨kvs, n, hc, hf, rfl⟩ := g
    refine ⟨kvs, hc, dict_new _, fun h' hd hs => ⟨rfl, h', _, rfl, ext (.push _ _) hs, kvs, ?_, hf⟩⟩
    rw [merged_nil_of_nodup kvs (by rw [hf.keys]; exact hn)] at hd
    exact hd
  · unfold subDict
    refine wpAny_bind (wpAny_alloc ?_)
    refine wpAny_bind (wpAny_holding ?_)
    rw [if_neg hl]
    refine wpAny_bind (wpAny_rule (wpAny_bind ?_))
    refine wpAny_forIn_list _
      (fun rest _ s' => ∃ l₁ l₂ kvs h' n, s' = { s with heap := h', toks := n } ∧ l = l₁ ++ l₂ ∧ PTs knd rest l₂ ∧ h'.DictOf knd s.heap.objs.size kvs ∧ Fp kvs l₁ ∧ Ext s.heap h')
      _ ?_ ?_ _ _ ⟨[], l, [], _, s.toks, rfl, rfl, h, dict_new _, .nil, .push _ _⟩
    · rintro ⟨k, v⟩ rest b s' ⟨l₁, l₂, kvs, h', n, rfl, rfl, hp, hd, hf, he⟩
      cases hp with
      | @cons _ q _ l₂ x hp =>
        refine wpAny_bind (x.key _ _ _ _ fun kv n hk => wpAny_bind (wpAny_holding (x.val _ _ _ _ fun vv m hv => wpAny_bind (wpAny_holding (wpAny_dictSet_pairs (hsz := ?_) hk hd fun h'' hd'' hs'' => ?_)))))
        · refine wpAny_pure ?_
          rw [stored_fresh (by
            rw [hf.keys]
            rw [List.map_append, List.nodup_append] at hn
            exact fun q' => hn.2.2 _ q' q.1 (by simp) rfl)] at hd''
          exact ⟨l₁ ++ [q], l₂, _, h'', _, rfl, by simp, hp, hd'', hf.app (.cons hv .nil), ext he hs''⟩
        · have := hf.length
          rw [List.length_append, List.length_cons] at hsz
          omega
    · rintro b s' ⟨l₁, l₂, kvs, h', n, rfl, rfl, hp, hd, hf, he⟩
      cases hp
      refine wpAny_pure (wpAny_pure ⟨rfl, h', n, rfl, he, kvs, hd, ?_⟩)
      simpa using hf
end
end Mine

namespace Mine
open PySem PySem.Spec PyProof.Rows

section
variable {prog : Program} {w : World} {K : Type} [DecidableEq K] {knd : KeyKind prog w K} {A : Around} {E : Value → Shared → Prop} {s : Shared}

/-- the display so far -/
noncomputable def Mn (knd : KeyKind prog w K) (z : Nat) (l : List (K × PyData)) (h' : Heap) : Option Addr → Prop
  | none => l = []
  | some d => z ≤ d ∧ l ≠ [] ∧ ∃ kvs, h'.DictOf knd d kvs ∧ Fp kvs l

noncomputable def Good (knd : KeyKind prog w K) (s₀ : Shared) (l : List (K × PyData)) (m : Option Addr) (s' : Shared) : Prop :=
  ∃ h' n, s' = { s₀ with heap := h', toks := n } ∧ Ext s₀.heap h' ∧ s₀.heap.objs.size ≤ h'.objs.size ∧ Mn knd s₀.heap.objs.size l h' m


theorem flush_ok {s₀ : Shared} {run : List (Sem Value × Sem Value)} {main : Option Addr} {l lr : List (K × PyData)} (hsys : sysModules < s₀.heap.objs.size) (hp : PTs knd run lr) (hn : ((l ++ lr).map (·.1)).Nodup) (hsz : (l ++ lr).length ≤ sizeLine)
    (g : Good knd s₀ l main s) : wpAny (model prog w) A (if run.isEmpty = true then pure main else match (generalizing := false) main with
      | none => do let d ← subDict run; pure (some d)
      | some d => do
        let sub ← holding [.ref d] (subDict run)
        (holding [.ref d, .ref sub] (mergeMapping d (.ref sub) false)).onRaise fun x => do let _ ← holding [.ref d, x] (runValue (.builtin "proto.let_go" {}))
        pure (some d)) (Good knd s₀ (l ++ lr)) E s := by
  obtain ⟨h', n, rfl, he, hz, hm⟩ := g
  cases hp with
  | nil =>
    simp only [List.isEmpty_nil, if_true, List.append_nil]
    exact wpAny_pure ⟨h', n, rfl, he, hz, hm⟩
  | @cons p q ps l₂ x hp =>
    have hnr : ((q :: l₂).map (·.1)).Nodup := by
      rw [List.map_append] at hn
      exact (List.nodup_append.mp hn).2.1
    have hlr : (q :: l₂).length ≤ sizeLine := by
      rw [List.length_append] at hsz
      omega
    rw [if_neg (by simp)]
    cases main with
    | none =>
      simp only [Mn] at hm
      subst hm
      refine wpAny_bind (wpAny_mono (sub_ok (.cons x hp) hnr hlr) (fun d s₁ g => ?_) fun _ _ x => x)
      obtain ⟨rfl, h₁, m, rfl, e₁, kvs, hd, hf⟩ := g
      have hsz₁ : h'.objs.size < h₁.objs.size := by
        obtain ⟨o, _, _, ho, _⟩ := hd
        exact Heap.lt_size ho
      exact wpAny_pure ⟨h₁, m, rfl, he.trans e₁, by omega, by
        show _ ∧ _ ∧ _
        exact ⟨hz, by simp, kvs, hd, by simpa using hf⟩⟩
    | some d =>
      obtain ⟨hdz, hne, kvs, hd, hf⟩ := hm
      have hdl : d < h'.objs.size := by
        obtain ⟨o, _, _, ho, _⟩ := hd
        exact Heap.lt_size ho
      refine wpAny_bind (wpAny_holding (wpAny_mono (sub_ok (.cons x hp) hnr hlr) (fun sub s₁ g => ?_) fun _ _ x => x))
      obtain ⟨rfl, h₁, m, rfl, e₁, us, hu, hg⟩ := g
      have hul : h'.objs.size < h₁.objs.size := by
        obtain ⟨o, _, _, ho, _⟩ := hu
        exact Heap.lt_size ho
      have hkv : kvs ≠ [] := by
        intro e
        subst e
        cases hf
        exact hne rfl
      refine wpAny_bind (wpAny_onRaise (wpAny_holding (wpAny_mergeMapping (knd := knd) (Nat.ne_of_lt hdl) ?_ (hd.keep e₁) hu hkv ?_ ?_ fun h₂ hd₂ hs₂ => ?_)))
      · exact beq_eq_false_iff_ne.mpr (Nat.ne_of_gt (Nat.lt_of_lt_of_le hsys hz))
      · rw [List.map_append, hf.keys, hg.keys, ← List.map_append]; exact hn
      · rw [hf.length, hg.length, ← List.length_append]; exact hsz
      · refine wpAny_pure ⟨h₂, m, rfl, fun b o hb => ?_, ?_, ?_⟩
        · have hbz := Heap.lt_size hb
          exact (hs₂.2 b (Nat.ne_of_lt (Nat.lt_of_lt_of_le hbz hdz))).trans (e₁ b o (he b o hb))
        · have : h₂.objs.size = h₁.objs.size := hs₂.1
          rw [this]; exact Nat.le_trans hz (Nat.le_of_lt hul)
        · exact ⟨hdz, by simp, _, hd₂, hf.app hg⟩

theorem display_ok {ps : List (Sem Value × Sem Value)} {l : List (K × PyData)} (hsys : sysModules < s.heap.objs.size) (h : PTs knd ps l) (hn : (l.map (·.1)).Nodup) (hsz : l.length ≤ sizeLine) (hne : l ≠ []) :
    wpAny (model prog w) A (dictDisplay (ps.map fun p => (some p.1, p.2))) (fun v s' => ∃ d, v = .ref d ∧ Good knd s l (some d) s') E s := by
  unfold dictDisplay
  dsimp only
  refine wpAny_bind ?_
  refine wpAny_forIn_list _
    (fun rest (st : Option Addr × List (Sem Value × Sem Value)) s' => ∃ rs l₁ lr l₂, rest = rs.map (fun p => (some p.1, p.2)) ∧ l = l₁ ++ lr ++ l₂ ∧ PTs knd rs l₂ ∧ PTs knd st.2 lr ∧ Good knd s l₁ st.1 s')
    _ ?_ ?_ _ _ ⟨ps, [], [], l, rfl, rfl, h, .nil, s.heap, s.toks, rfl, fun _ _ e => e, Nat.le_refl _, rfl⟩
  · rintro it rest ⟨main, run⟩ s' ⟨rs, l₁, lr, l₂, hr, rfl, hp, hq, g⟩
    cases hp with
    | nil => simp at hr
    | @cons p q rs l₂ x hp =>
      simp only [List.map_cons, List.cons.injEq] at hr
      obtain ⟨rfl, rfl⟩ := hr
      dsimp only
      have hn' : ((l₁ ++ (lr ++ [q])).map (·.1)).Nodup := by
        refine hn.sublist (List.Sublist.map _ ?_)
        rw [show l₁ ++ lr ++ q :: l₂ = (l₁ ++ (lr ++ [q])) ++ l₂ by simp]
        exact List.sublist_append_left _ _
      have hz' : (l₁ ++ (lr ++ [q])).length ≤ sizeLine := by
        simp only [List.length_append, List.length_cons, List.length_nil] at hsz ⊢
        omega
      split
      · refine wpAny_bind (wpAny_mono (flush_ok hsys (hq.snoc x) hn' hz' g) (fun m s₁ g' => ?_) fun _ _ x => x)
        exact wpAny_pure ⟨rs, l₁ ++ (lr ++ [q]), [], l₂, rfl, by simp, hp, .nil, g'⟩
      · exact wpAny_pure ⟨rs, l₁, lr ++ [q], l₂, rfl, by simp, hp, hq.snoc x, g⟩
  · rintro ⟨main, run⟩ s' ⟨rs, l₁, lr, l₂, hr, rfl, hp, hq, g⟩
    have : rs = [] := by simpa using hr.symm
    subst this
    cases hp
    simp only [List.append_nil] at hn hsz hne ⊢
    refine wpAny_bind (wpAny_mono (flush_ok hsys hq hn hsz g) (fun m s₁ g' => ?_) fun _ _ x => x)
    cases m with
    | none =>
      obtain ⟨h', n, rfl, he, hz, hm⟩ := g'
      exact absurd hm hne
    | some d => exact wpAny_pure ⟨d, rfl, g'⟩
end
end Mine

namespace Mine
open PySem PySem.Spec PyProof.Rows

/-! the display of the table -/
theorem dl_trees {prog : Program} {w : World} {env : Env} {pos : Pos} : ∀ {ks : List (Option Expr)} {vs : List Expr} {l : List (Int × PyData)}, dl ks vs = some l →
    ∃ ps, (evalEachOpt ks env).zip ((evalEach vs env).map fun v => do let x ← v; standAt pos; pure x) = ps.map (fun p => (some p.1, p.2)) ∧ PTs (intKind prog w) ps l
  | [], [], l, e => by
    simp only [dl] at e
    cases e
    exact ⟨[], rfl, .nil⟩
  | k :: ks, v :: vs, l, e => by
    unfold dl at e
    rw [Option.bind_eq_some_iff] at e
    obtain ⟨p, e1, e⟩ := e
    obtain ⟨i, k1, q1, s, k2, q2, rfl, rfl, rfl⟩ := (kvP k v).2 p e1
    rw [Option.map_eq_some_iff] at e
    obtain ⟨m, e, rfl⟩ := e
    obtain ⟨ps, h, hp⟩ := dl_trees (prog := prog) (w := w) (env := env) (pos := pos) e
    have hx : PT (intKind prog w) (eval (.Constant (.int i) k1 q1) env, (do let x ← eval (.Constant (.str s) k2 q2) env; standAt pos; pure x)) (i, .str s) :=
      ⟨fun A E s Q q => wpAny_Constant_int (k := k1) (pos := q1) (env := env) (q _ _ (intKind_is _ _ _ _)), fun A E s Q q => wpAny_bind (Calls.Constant_str (wpAny_bind (wpAny_standAt (wpAny_pure (q _ _ (PyProof.V.Flat.str _ _))))))⟩
    refine ⟨_ :: ps, ?_, .cons hx hp⟩
    rw [List.map_cons, ← h]
    rfl
  | [], _ :: _, _, e => nomatch (e : none = some _)
  | _ :: _, [], _, e => nomatch (e : none = some _)

noncomputable def asc : List Int → Bool
  | [] => true
  | [_] => true
  | a :: b :: r => decide (a < b) && asc (b :: r)
theorem asc_lt : ∀ {l : List Int} {a : Int}, asc (a :: l) = true → ∀ b ∈ l, a < b
  | [], _, _, _, h => nomatch h
  | c :: l, a, h, b, hb => by
    simp only [asc, Bool.and_eq_true, decide_eq_true_eq] at h
    rcases List.mem_cons.mp hb with rfl | hb
    · exact h.1
    · exact Int.lt_trans h.1 (asc_lt h.2 b hb)
theorem asc_nodup : ∀ {l : List Int}, asc l = true → l.Nodup
  | [], _ => .nil
  | a :: l, h => by
    rw [List.nodup_cons]
    refine ⟨fun q => Int.lt_irrefl _ (asc_lt h a q), ?_⟩
    cases l with
    | nil => exact .nil
    | cons b l =>
      simp only [asc, Bool.and_eq_true] at h
      exact asc_nodup h.2

theorem fp_flat {kvs : List (Int × Value)} {l : List (Int × PyData)} (h : Fp kvs l) : PyProof.V.FlatPairs PyData.int kvs (l.map fun p => (.int p.1, p.2)) := by
  induction h with
  | nil => exact .nil
  | cons f _ ih => exact .cons f ih

/-- the facts of the two tables -/
noncomputable def FctSet (prog : Program) (w : World) (x : Str) (S : Int → Bool) : Fct := ⟨x, fun Pl v h => ∃ a n, v = .ref a ∧ Pl < a ∧ h.SetOf (intKind prog w) a S n, by
  intro Pl v h h' hl ⟨a, n, e, la, o, es, ep, t, ho, r⟩ k
  exact ⟨a, n, e, la, o, es, ep, t, k _ _ (Nat.ne_of_gt la) (Nat.ne_of_gt (Nat.lt_trans hl la)) ho, r⟩⟩
noncomputable def FctTab (prog : Program) (w : World) (x : Str) (Dt : List (PyData × PyData)) : Fct := ⟨x, fun Pl v h => ∃ a, v = .ref a ∧ Pl < a ∧ IntTab prog w h a Dt, by
  intro Pl v h h' hl ⟨a, e, la, lo, kvs, ⟨o, es, ep, ho, r⟩, hf⟩ k
  exact ⟨a, e, la, lo, kvs, ⟨o, es, ep, k _ _ (Nat.ne_of_gt la) (Nat.ne_of_gt (Nat.lt_trans hl la)) ho, r⟩, hf⟩⟩

section
variable {prog : Program} {w : World} {mg₀ mb : Str → Option Value} {L : Nat} {ns : List Str} {fs : List Fct}

theorem does_tab {x : Str} {px pos p : Pos} {ks : List (Option Expr)} {vs : List Expr} {l : List (Int × PyData)} (hl : dl ks vs = some l) (ha : asc (l.map (·.1)) = true) (hz : l.length ≤ sizeLine) (hne : l ≠ [])
    (hx : x ∉ ns ∨ (∀ f ∈ fs, f.name ≠ x)) (hloc : prog.main.scope.names.lookup x = some .local) (hmod : prog.main.scope.kind = .module) (hnb : x ≠ "__builtins__") :
    Does1 prog w (.Assign [.Name x px] (.Dict ks vs p) pos) mg₀ mb L L ns (x :: ns) fs (FctTab prog w x (l.map fun p => (.int p.1, p.2)) :: fs) := by
  refine does_assign (F := FctTab prog w x _) rfl hx hloc hmod hnb (fun _ => rfl) fun c Pl Fr A s mg hA I => ?_
  obtain ⟨lc, M, _⟩ := I.main
  obtain ⟨ps, hp, ht⟩ := dl_trees (prog := prog) (w := w) (env := mainEnv prog c Fr) (pos := p) hl
  have hPl : Pl < s.heap.objs.size := M.code.lt.2
  have hsys : sysModules < s.heap.objs.size := Nat.lt_trans (by decide) M.g.lt
  rw [arm_eval_Dict, hp]
  refine wpAny_bind (wpAny_standAt (wpAny_mono (display_ok (knd := intKind prog w) hsys ht (asc_nodup ha) hz hne) (fun v s' q => ?_) fun _ _ x => x))
  obtain ⟨d, rfl, h', n, rfl, he, hzz, hd, _, kvs, hdo, hf⟩ := q
  exact ⟨.of he, d, rfl, Nat.lt_of_lt_of_le hPl hd, beq_eq_false_iff_ne.mpr (Nat.ne_of_gt (Nat.lt_of_lt_of_le hsys hd)), kvs, hdo, fp_flat hf⟩

theorem does_plain {x : Str} {px pos : Pos} {value : PySem.Expr} (hx : ∀ f ∈ fs, f.name ≠ x) (hloc : prog.main.scope.names.lookup x = some .local) (hmod : prog.main.scope.kind = .module) (hnb : x ≠ "__builtins__")
    (hsw : ∀ env, swapsWith value (some (.Name x px)) pos.line env = pure false)
    (hv : ∀ (env : Env) (A : Around) (s : Shared), wpAny (model prog w) A (eval value env) (fun _ s' => KT s s') NE s) : Does1 prog w (.Assign [.Name x px] value pos) mg₀ mb L L ns (x :: ns) fs fs := by
  intro c Pl Fr A s mg hA I
  refine wpAny_mono (does_assign (FctAny x) rfl (.inr hx) hloc hmod hnb hsw (fun c Pl Fr A s mg _ _ => wpAny_mono (hv _ A s) (fun v s' q => ⟨q, trivial⟩) fun _ _ x => x) c Pl Fr A s mg hA I) (fun f s' q => ?_) fun _ _ x => x
  obtain ⟨e, k, mg', I'⟩ := q
  exact ⟨e, k, mg', I'.main, I'.out, fun f hf => I'.facts f (List.mem_cons_of_mem _ hf), I'.b, fun f hf => I'.lo f (List.mem_cons_of_mem _ hf)⟩

theorem does_int {x : Str} {px pos q : Pos} {i : Int} {kd : Nat} (hx : x ∉ ns ∨ (∀ f ∈ fs, f.name ≠ x)) (hloc : prog.main.scope.names.lookup x = some .local) (hmod : prog.main.scope.kind = .module) (hnb : x ≠ "__builtins__") :
    Does1 prog w (.Assign [.Name x px] (.Constant (.int i) kd q) pos) mg₀ mb L L ns (x :: ns) fs (FctInt x i :: fs) :=
  does_assign (FctInt x i) rfl hx hloc hmod hnb (fun _ => rfl) fun _ _ _ _ _ _ _ _ => wpAny_Constant_int ⟨.toks _ _, _, rfl⟩

theorem does_str {x : Str} {px pos q : Pos} {v : Str} {kd : Nat} (hx : ∀ f ∈ fs, f.name ≠ x) (hloc : prog.main.scope.names.lookup x = some .local) (hmod : prog.main.scope.kind = .module) (hnb : x ≠ "__builtins__") :
    Does1 prog w (.Assign [.Name x px] (.Constant (.str v) kd q) pos) mg₀ mb L L ns (x :: ns) fs fs :=
  does_plain hx hloc hmod hnb (fun _ => rfl) fun _ _ _ => Calls.Constant_str (.toks _ _)
end
end Mine

namespace Mine
open PySem PySem.Spec PyProof.Rows

noncomputable def stAt (i : Nat) : Stmt := (pw.main.body[i]?).getD (.Pass default)
noncomputable def dNone : DefRec := ⟨⟨#[]⟩, { posonlyargs := [], args := [], vararg := none, kwonlyargs := [], kw_defaults := [], kwarg := none, defaults := [] }, [], pw.main.scope, default⟩
noncomputable def dAt (i : Nat) : DefRec := (DefRec.ofStmt? (stAt i)).getD dNone

theorem body_is : pw.main.body = [stAt 0, stAt 1, stAt 2, stAt 3, stAt 4, stAt 5, stAt 6, stAt 7, stAt 8, stAt 9, stAt 10, stAt 11, stAt 12, stAt 13, stAt 14, stAt 15, stAt 16, stAt 17, stAt 18, stAt 19, stAt 20, stAt 21, stAt 22] := rfl

theorem mod_kind : pw.main.scope.kind = .module := rfl

/-- the parts of the statement of the set -/
theorem b1_any (k : Int) : (firstMet (fun i => b1L.getD i 0) b1L.length).any (· == k) = b1S k := by
  have e : firstMet (fun i => b1L.getD i 0) b1L.length = b1L := by decide +kernel
  rw [e]
  unfold b1S
  rw [Bool.eq_iff_iff]
  simp

section
variable {w : World} {mb : Str → Option Value} {L : Nat} {ns : List Str} {fs : List Fct} {mg₀ : Str → Option Value}

/-- the first part -/
theorem tv_ints {prog : Program} {mg : Str → Option Value} {env : Env} : ∀ {l : List (Int × Pos)}, Tvs prog w mg mb env (l.map fun p => .Constant (.int p.1) 0 p.2) ((l.map (·.1)).map .int)
  | [] => .nil
  | _ :: _ => .cons rfl tv_int tv_ints

theorem does_set {l : List (Int × Pos)} {px pf p1 p2 p3 p4 p5 p6 p7 p8 p9 pos : Pos} (hll : l.map (·.1) ++ rangeL 65024 65040 1 = b1L) (h0 : ∀ x : Str, x = "set" ∨ x = "list" ∨ x = "range" → x ∉ ns ∧ mg₀ x = none) (h1 : mb "set" = some (.type "set")) (h2 : mb "list" = some (.type "list")) (h3 : mb "range" = some (.type "range"))
    (hx : ("b1_set" : Str) ∉ ns) : Does1 pw w (.Assign [.Name "b1_set" px] (.Call (.Name "set" pf) [.BinOp (.List (l.map fun p => .Constant (.int p.1) 0 p.2) p1) .Add (.Call (.Name "list" p2) [.Call (.Name "range" p3) [.Constant (.int 65024) 0 p4, .Constant (.int 65040) 0 p5] [] p6] [] p7) p8] [] p9) pos) mg₀ mb L L ns ("b1_set" :: ns) fs (FctSet pw w "b1_set" b1S :: fs) := by
  refine does_assign (F := FctSet pw w "b1_set" b1S) rfl (.inl hx) (by decide +kernel) mod_kind (by decide +kernel) (fun _ => rfl) fun c Pl Fr A s mg hA I => ?_
  obtain ⟨lc, M, _⟩ := I.main
  have nm : ∀ x : Str, x = "set" ∨ x = "list" ∨ x = "range" → mg x = none := fun x hx => (I.out x (h0 x hx).1).trans (h0 x hx).2
  have tn : ∀ (x : Str) (p : Pos) (v : Value), (x = "set" ∨ x = "list" ∨ x = "range") → mb x = some v → (x == ("__debug__" : Str)) = false → TvV pw w mg mb (mainEnv pw c Fr) (.Name x p) v := fun x p v hx hv hd =>
    tv_name mod_kind rfl rfl rfl (nm x hx) hv hd
  have hl1 : l.length ≤ 27 := by
    have := congrArg List.length hll
    rw [List.length_append, List.length_map] at this
    have e : b1L.length = 27 := by decide +kernel
    omega
  have t1 : Tv pw w mg mb (mainEnv pw c Fr) (.List (l.map fun p => .Constant (.int p.1) 0 p.2) p1) (.list ((l.map (·.1)).map .int)) := tv_list tv_ints (by rw [List.length_map, List.length_map, sizeLine_eq]; omega)
  have t2 : Tv pw w mg mb (mainEnv pw c Fr) (.Call (.Name "range" p3) [.Constant (.int 65024) 0 p4, .Constant (.int 65040) 0 p5] [] p6) (.range 65024 65040 1) :=
    tv_range (tn _ _ _ (.inr (.inr rfl)) h3 (by decide +kernel)) tv_int tv_int rfl rfl rfl
  have t3 : Tv pw w mg mb (mainEnv pw c Fr) (.Call (.Name "list" p2) [.Call (.Name "range" p3) [.Constant (.int 65024) 0 p4, .Constant (.int 65040) 0 p5] [] p6] [] p7) (.list ((rangeL 65024 65040 1).map .int)) :=
    tv_list_range (tn _ _ _ (.inr (.inl rfl)) h2 (by decide +kernel)) t2 rfl (by decide +kernel) (by decide +kernel) rfl
  have e16 : (rangeL 65024 65040 1).length = 16 := by decide +kernel
  have t4 := tv_add (p := p8) t1 t3 (by rw [List.length_map, List.length_map, List.length_map, sizeLine_eq, e16]; omega)
  rw [← List.map_append, hll] at t4
  refine wpAny_mono (val_set (ns := b1L) hA M.g I.b (tn _ _ _ (.inl rfl) h1 (by decide +kernel)) t4 rfl (by decide +kernel) rfl) (fun v s' q => ?_) fun _ _ x => x
  obtain ⟨k, a, n, rfl, hlo, hS⟩ := q
  obtain ⟨_, _, _, _, _, _, _, _, _, op, _, _, _, _, _, _, _, hP, _⟩ := M.code
  exact ⟨k, a, n, rfl, hlo _ _ hP, SetOf_congr hS b1_any rfl⟩
end

theorem st_11 : ∃ (l : List (Int × Pos)) (px pf p1 p2 p3 p4 p5 p6 p7 p8 p9 pos : Pos), stAt 11 = .Assign [.Name "b1_set" px] (.Call (.Name "set" pf) [.BinOp (.List (l.map fun p => .Constant (.int p.1) 0 p.2) p1) .Add (.Call (.Name "list" p2) [.Call (.Name "range" p3) [.Constant (.int 65024) 0 p4, .Constant (.int 65040) 0 p5] [] p6] [] p7) p8] [] p9) pos ∧
    l.map (·.1) ++ rangeL 65024 65040 1 = b1L := by
  refine ⟨[(173, ⟨93, 14, 93, 17⟩), (847, ⟨93, 19, 93, 22⟩), (6150, ⟨93, 24, 93, 28⟩), (6155, ⟨93, 30, 93, 34⟩), (6156, ⟨93, 36, 93, 40⟩), (6157, ⟨93, 42, 93, 46⟩), (8203, ⟨93, 48, 93, 52⟩), (8204, ⟨93, 54, 93, 58⟩), (8205, ⟨93, 60, 93, 64⟩), (8288, ⟨93, 66, 93, 70⟩), (65279, ⟨93, 72, 93, 77⟩)], ⟨93, 0, 93, 6⟩, ⟨93, 9, 93, 12⟩, ⟨93, 13, 93, 78⟩, ⟨93, 81, 93, 85⟩, ⟨93, 86, 93, 91⟩, ⟨93, 92, 93, 97⟩, ⟨93, 99, 93, 104⟩, ⟨93, 86, 93, 105⟩, ⟨93, 81, 93, 106⟩, ⟨93, 13, 93, 106⟩, ⟨93, 9, 93, 107⟩, ⟨93, 0, 93, 107⟩, rfl, by decide +kernel⟩
end Mine

namespace Mine
open PySem PySem.Spec PyProof.Rows
theorem st_4 : stAt 4 = (dAt 4).stmt := rfl
theorem plain_4 : (dAt 4).Plain pw := ⟨fun _ => rfl, by decide +kernel, by decide +kernel, by rfl, by decide +kernel⟩
theorem st_5 : stAt 5 = (dAt 5).stmt := rfl
theorem plain_5 : (dAt 5).Plain pw := ⟨fun _ => rfl, by decide +kernel, by decide +kernel, by rfl, by decide +kernel⟩
theorem st_7 : stAt 7 = (dAt 7).stmt := rfl
theorem plain_7 : (dAt 7).Plain pw := ⟨fun _ => rfl, by decide +kernel, by decide +kernel, by rfl, by decide +kernel⟩
theorem st_8 : stAt 8 = (dAt 8).stmt := rfl
theorem plain_8 : (dAt 8).Plain pw := ⟨fun _ => rfl, by decide +kernel, by decide +kernel, by rfl, by decide +kernel⟩
theorem st_9 : stAt 9 = (dAt 9).stmt := rfl
theorem plain_9 : (dAt 9).Plain pw := ⟨fun _ => rfl, by decide +kernel, by decide +kernel, by rfl, by decide +kernel⟩
theorem st_12 : stAt 12 = (dAt 12).stmt := rfl
theorem plain_12 : (dAt 12).Plain pw := ⟨fun _ => rfl, by decide +kernel, by decide +kernel, by rfl, by decide +kernel⟩
theorem st_14 : stAt 14 = (dAt 14).stmt := rfl
theorem plain_14 : (dAt 14).Plain pw := ⟨fun _ => rfl, by decide +kernel, by decide +kernel, by rfl, by decide +kernel⟩
theorem st_16 : stAt 16 = (dAt 16).stmt := rfl
theorem plain_16 : (dAt 16).Plain pw := ⟨fun _ => rfl, by decide +kernel, by decide +kernel, by rfl, by decide +kernel⟩
theorem st_17 : stAt 17 = (dAt 17).stmt := rfl
theorem plain_17 : (dAt 17).Plain pw := ⟨fun _ => rfl, by decide +kernel, by decide +kernel, by rfl, by decide +kernel⟩
theorem st_18 : stAt 18 = (dAt 18).stmt := rfl
theorem plain_18 : (dAt 18).Plain pw := ⟨fun _ => rfl, by decide +kernel, by decide +kernel, by rfl, by decide +kernel⟩
theorem st_19 : stAt 19 = (dAt 19).stmt := rfl
theorem plain_19 : (dAt 19).Plain pw := ⟨fun _ => rfl, by decide +kernel, by decide +kernel, by rfl, by decide +kernel⟩
theorem st_20 : stAt 20 = (dAt 20).stmt := rfl
theorem plain_20 : (dAt 20).Plain pw := ⟨fun _ => rfl, by decide +kernel, by decide +kernel, by rfl, by decide +kernel⟩
theorem st_21 : stAt 21 = (dAt 21).stmt := rfl
theorem plain_21 : (dAt 21).Plain pw := ⟨fun _ => rfl, by decide +kernel, by decide +kernel, by rfl, by decide +kernel⟩
theorem st_22 : stAt 22 = (dAt 22).stmt := rfl
theorem plain_22 : (dAt 22).Plain pw := ⟨fun _ => rfl, by decide +kernel, by decide +kernel, by rfl, by decide +kernel⟩
theorem st_0 : stAt 0 = .Assign [.Name "__name__" ⟨1, 0, 1, 8⟩] (.Constant (.str "cpy313.traceback") 0 ⟨1, 11, 1, 29⟩) ⟨1, 0, 1, 29⟩ := rfl
theorem st_6 : stAt 6 = .Assign [.Name "__name__" ⟨49, 0, 49, 8⟩] (.Constant (.str "cpy313.email.utils") 0 ⟨49, 11, 49, 31⟩) ⟨49, 0, 49, 31⟩ := rfl
theorem st_10 : stAt 10 = .Assign [.Name "__name__" ⟨92, 0, 92, 8⟩] (.Constant (.str "cpy313.stringprep") 0 ⟨92, 11, 92, 30⟩) ⟨92, 0, 92, 30⟩ := rfl
theorem st_15 : stAt 15 = .Assign [.Name "__name__" ⟨102, 0, 102, 8⟩] (.Constant (.str "law_rl0122_01") 0 ⟨102, 11, 102, 26⟩) ⟨102, 0, 102, 26⟩ := rfl
theorem st_1 : stAt 1 = .Assign [.Name "_MAX_STRING_SIZE" ⟨2, 0, 2, 16⟩] (.Constant (.int 40) 0 ⟨2, 19, 2, 21⟩) ⟨2, 0, 2, 21⟩ := rfl
theorem st_2 : stAt 2 = .Assign [.Name "_MOVE_COST" ⟨3, 0, 3, 10⟩] (.Constant (.int 2) 0 ⟨3, 13, 3, 14⟩) ⟨3, 0, 3, 14⟩ := rfl
theorem st_3 : stAt 3 = .Assign [.Name "_CASE_COST" ⟨4, 0, 4, 10⟩] (.Constant (.int 1) 0 ⟨4, 13, 4, 14⟩) ⟨4, 0, 4, 14⟩ := rfl
noncomputable def kv13 : List (Option Expr) × List Expr := match stAt 13 with
  | .Assign _ (.Dict ks vs _) _ => (ks, vs)
  | _ => ([], [])
noncomputable def b3L : List (Int × PyData) := (dl kv13.1 kv13.2).getD []
theorem st_13 : stAt 13 = .Assign [.Name "b3_exceptions" ⟨96, 0, 96, 13⟩] (.Dict kv13.1 kv13.2 ⟨96, 16, 96, 8704⟩) ⟨96, 0, 96, 8704⟩ := rfl
theorem b3_dl : dl kv13.1 kv13.2 = some b3L := rfl
theorem b3_asc : asc (b3L.map (·.1)) = true := by decide +kernel
theorem b3_len : b3L.length = 650 := by decide +kernel
theorem b3_D : b3D = b3L.map fun p => (.int p.1, p.2) := by kernel_rfl

theorem st_13x : ∃ ks vs l, stAt 13 = .Assign [.Name "b3_exceptions" ⟨96, 0, 96, 13⟩] (.Dict ks vs ⟨96, 16, 96, 8704⟩) ⟨96, 0, 96, 8704⟩ ∧ dl ks vs = some l ∧ asc (l.map (·.1)) = true ∧ l.length = 650 ∧ b3D = l.map fun p => (.int p.1, p.2) :=
  ⟨_, _, _, st_13, b3_dl, b3_asc, b3_len, b3_D⟩

theorem apart_of {fs : List Fct} {x : Str} {l : List Str} (h : fs.map (·.name) = l) (hx : x ∉ l) : ∀ f ∈ fs, f.name ≠ x := fun f hf e => hx (h ▸ e ▸ List.mem_map.mpr ⟨f, hf, rfl⟩)

section
variable {w : World} {mg₀ mb : Str → Option Value} {L : Nat} {ns : List Str} {fs : List Fct}
theorem dd (i : Nat) (e : stAt i = (dAt i).stmt) (hd : (dAt i).Plain pw) (hL : L < (dAt i).pos.line) (hx : (dAt i).name ∉ ns) : Does1 pw w (stAt i) mg₀ mb L (dAt i).pos.line ns ((dAt i).name :: ns) fs (FctFn (dAt i) :: fs) :=
  e ▸ does_def hd mod_kind hL hx
theorem ds {v : Str} {px q pos : Pos} (i : Nat) (e : stAt i = .Assign [.Name "__name__" px] (.Constant (.str v) 0 q) pos) (hx : ∀ f ∈ fs, f.name ≠ "__name__") : Does1 pw w (stAt i) mg₀ mb L L ns ("__name__" :: ns) fs fs :=
  e ▸ does_str hx (by decide +kernel) mod_kind (by decide +kernel)
theorem di {x : Str} {v : Int} {px q pos : Pos} (i : Nat) (e : stAt i = .Assign [.Name x px] (.Constant (.int v) 0 q) pos) (hx : x ∉ ns) (hloc : pw.main.scope.names.lookup x = some .local) (hnb : x ≠ "__builtins__") : Does1 pw w (stAt i) mg₀ mb L L ns (x :: ns) fs (FctInt x v :: fs) :=
  e ▸ does_int (.inl hx) hloc mod_kind hnb
theorem d11 (h0 : ∀ x : Str, x = "set" ∨ x = "list" ∨ x = "range" → x ∉ ns ∧ mg₀ x = none) (h1 : mb "set" = some (.type "set")) (h2 : mb "list" = some (.type "list")) (h3 : mb "range" = some (.type "range"))
    (hx : ("b1_set" : Str) ∉ ns) : Does1 pw w (stAt 11) mg₀ mb L L ns ("b1_set" :: ns) fs (FctSet pw w "b1_set" b1S :: fs) := by
  obtain ⟨l, px, pf, p1, p2, p3, p4, p5, p6, p7, p8, p9, pos, e, hl⟩ := st_11
  rw [e]
  exact does_set hl h0 h1 h2 h3 hx
theorem d13 (hx : ("b3_exceptions" : Str) ∉ ns) : Does1 pw w (stAt 13) mg₀ mb L L ns ("b3_exceptions" :: ns) fs (FctTab pw w "b3_exceptions" b3D :: fs) := by
  obtain ⟨ks, vs, l, e, h1, h2, h3, h4⟩ := st_13x
  rw [e, h4]
  exact does_tab h1 h2 (by rw [h3, sizeLine_eq]; decide) (fun e => by rw [e] at h3; cases h3) (.inl hx) (by decide +kernel) mod_kind (by decide +kernel)
end
end Mine

namespace Mine
open PySem PySem.Spec PyProof.Rows

theorem nm_4 : (dAt 4).name = "_substitution_cost" := rfl
theorem nm_5 : (dAt 5).name = "_levenshtein_distance" := rfl
theorem nm_7 : (dAt 7).name = "_iter_escaped_chars" := rfl
theorem nm_8 : (dAt 8).name = "_strip_quoted_realnames" := rfl
theorem nm_9 : (dAt 9).name = "_check_parenthesis" := rfl
theorem nm_12 : (dAt 12).name = "in_table_b1" := rfl
theorem nm_14 : (dAt 14).name = "map_table_b3" := rfl
theorem nm_16 : (dAt 16).name = "_law_unseen" := rfl
theorem nm_17 : (dAt 17).name = "_law_row" := rfl
theorem nm_18 : (dAt 18).name = "_law_order" := rfl
theorem nm_19 : (dAt 19).name = "_law_typed" := rfl
theorem nm_20 : (dAt 20).name = "_law_prepared" := rfl
theorem nm_21 : (dAt 21).name = "_law_told" := rfl
theorem nm_22 : (dAt 22).name = "law" := rfl

section
variable {w : World} {mg₀ mb : Str → Option Value}
noncomputable def ns0 : List Str := []
noncomputable def fs0 (_ : World) : List Fct := []
noncomputable def ns1 : List Str := "__name__" :: ns0
noncomputable def fs1 (w : World) : List Fct := fs0 w
theorem step_0 : Does1 pw w (stAt 0) mg₀ mb 0 0 ns0 ns1 (fs0 w) (fs1 w) := ds 0 st_0 (apart_of (l := []) rfl (by decide +kernel))
noncomputable def ns2 : List Str := "_MAX_STRING_SIZE" :: ns1
noncomputable def fs2 (w : World) : List Fct := FctInt "_MAX_STRING_SIZE" 40 :: fs1 w
theorem step_1 : Does1 pw w (stAt 1) mg₀ mb 0 0 ns1 ns2 (fs1 w) (fs2 w) := di 1 st_1 (by decide +kernel) (by decide +kernel) (by decide +kernel)
noncomputable def ns3 : List Str := "_MOVE_COST" :: ns2
noncomputable def fs3 (w : World) : List Fct := FctInt "_MOVE_COST" 2 :: fs2 w
theorem step_2 : Does1 pw w (stAt 2) mg₀ mb 0 0 ns2 ns3 (fs2 w) (fs3 w) := di 2 st_2 (by decide +kernel) (by decide +kernel) (by decide +kernel)
noncomputable def ns4 : List Str := "_CASE_COST" :: ns3
noncomputable def fs4 (w : World) : List Fct := FctInt "_CASE_COST" 1 :: fs3 w
theorem step_3 : Does1 pw w (stAt 3) mg₀ mb 0 0 ns3 ns4 (fs3 w) (fs4 w) := di 3 st_3 (by decide +kernel) (by decide +kernel) (by decide +kernel)
noncomputable def ns5 : List Str := "_substitution_cost" :: ns4
noncomputable def fs5 (w : World) : List Fct := FctFn (dAt 4) :: fs4 w
theorem step_4 : Does1 pw w (stAt 4) mg₀ mb 0 (dAt 4).pos.line ns4 ns5 (fs4 w) (fs5 w) := by
  have h := dd (w := w) (mg₀ := mg₀) (mb := mb) (ns := ns4) (fs := fs4 w) 4 st_4 plain_4 (L := 0) (by decide +kernel) (by decide +kernel)
  rw [nm_4] at h
  exact h
noncomputable def ns6 : List Str := "_levenshtein_distance" :: ns5
noncomputable def fs6 (w : World) : List Fct := FctFn (dAt 5) :: fs5 w
theorem step_5 : Does1 pw w (stAt 5) mg₀ mb (dAt 4).pos.line (dAt 5).pos.line ns5 ns6 (fs5 w) (fs6 w) := by
  have h := dd (w := w) (mg₀ := mg₀) (mb := mb) (ns := ns5) (fs := fs5 w) 5 st_5 plain_5 (L := (dAt 4).pos.line) (by decide +kernel) (by decide +kernel)
  rw [nm_5] at h
  exact h
noncomputable def ns7 : List Str := "__name__" :: ns6
noncomputable def fs7 (w : World) : List Fct := fs6 w
theorem step_6 : Does1 pw w (stAt 6) mg₀ mb (dAt 5).pos.line (dAt 5).pos.line ns6 ns7 (fs6 w) (fs7 w) := ds 6 st_6 (apart_of (l := ["_levenshtein_distance", "_substitution_cost", "_CASE_COST", "_MOVE_COST", "_MAX_STRING_SIZE"]) rfl (by decide +kernel))
noncomputable def ns8 : List Str := "_iter_escaped_chars" :: ns7
noncomputable def fs8 (w : World) : List Fct := FctFn (dAt 7) :: fs7 w
theorem step_7 : Does1 pw w (stAt 7) mg₀ mb (dAt 5).pos.line (dAt 7).pos.line ns7 ns8 (fs7 w) (fs8 w) := by
  have h := dd (w := w) (mg₀ := mg₀) (mb := mb) (ns := ns7) (fs := fs7 w) 7 st_7 plain_7 (L := (dAt 5).pos.line) (by decide +kernel) (by decide +kernel)
  rw [nm_7] at h
  exact h
noncomputable def ns9 : List Str := "_strip_quoted_realnames" :: ns8
noncomputable def fs9 (w : World) : List Fct := FctFn (dAt 8) :: fs8 w
theorem step_8 : Does1 pw w (stAt 8) mg₀ mb (dAt 7).pos.line (dAt 8).pos.line ns8 ns9 (fs8 w) (fs9 w) := by
  have h := dd (w := w) (mg₀ := mg₀) (mb := mb) (ns := ns8) (fs := fs8 w) 8 st_8 plain_8 (L := (dAt 7).pos.line) (by decide +kernel) (by decide +kernel)
  rw [nm_8] at h
  exact h
noncomputable def ns10 : List Str := "_check_parenthesis" :: ns9
noncomputable def fs10 (w : World) : List Fct := FctFn (dAt 9) :: fs9 w
theorem step_9 : Does1 pw w (stAt 9) mg₀ mb (dAt 8).pos.line (dAt 9).pos.line ns9 ns10 (fs9 w) (fs10 w) := by
  have h := dd (w := w) (mg₀ := mg₀) (mb := mb) (ns := ns9) (fs := fs9 w) 9 st_9 plain_9 (L := (dAt 8).pos.line) (by decide +kernel) (by decide +kernel)
  rw [nm_9] at h
  exact h
noncomputable def ns11 : List Str := "__name__" :: ns10
noncomputable def fs11 (w : World) : List Fct := fs10 w
theorem step_10 : Does1 pw w (stAt 10) mg₀ mb (dAt 9).pos.line (dAt 9).pos.line ns10 ns11 (fs10 w) (fs11 w) := ds 10 st_10 (apart_of (l := ["_check_parenthesis", "_strip_quoted_realnames", "_iter_escaped_chars", "_levenshtein_distance", "_substitution_cost", "_CASE_COST", "_MOVE_COST", "_MAX_STRING_SIZE"]) rfl (by decide +kernel))
noncomputable def ns12 : List Str := "b1_set" :: ns11
noncomputable def fs12 (w : World) : List Fct := FctSet pw w "b1_set" b1S :: fs11 w
theorem step_11 (hm : ∀ x : Str, x = "set" ∨ x = "list" ∨ x = "range" → mg₀ x = none) (h1 : mb "set" = some (.type "set")) (h2 : mb "list" = some (.type "list")) (h3 : mb "range" = some (.type "range")) : Does1 pw w (stAt 11) mg₀ mb (dAt 9).pos.line (dAt 9).pos.line ns11 ns12 (fs11 w) (fs12 w) := d11 (fun x hx => ⟨by rcases hx with rfl | rfl | rfl <;> decide +kernel, hm x hx⟩) h1 h2 h3 (by decide +kernel)
noncomputable def ns13 : List Str := "in_table_b1" :: ns12
noncomputable def fs13 (w : World) : List Fct := FctFn (dAt 12) :: fs12 w
theorem step_12 : Does1 pw w (stAt 12) mg₀ mb (dAt 9).pos.line (dAt 12).pos.line ns12 ns13 (fs12 w) (fs13 w) := by
  have h := dd (w := w) (mg₀ := mg₀) (mb := mb) (ns := ns12) (fs := fs12 w) 12 st_12 plain_12 (L := (dAt 9).pos.line) (by decide +kernel) (by decide +kernel)
  rw [nm_12] at h
  exact h
noncomputable def ns14 : List Str := "b3_exceptions" :: ns13
noncomputable def fs14 (w : World) : List Fct := FctTab pw w "b3_exceptions" b3D :: fs13 w
theorem step_13 : Does1 pw w (stAt 13) mg₀ mb (dAt 12).pos.line (dAt 12).pos.line ns13 ns14 (fs13 w) (fs14 w) := @d13 w mg₀ mb (dAt 12).pos.line ns13 (fs13 w) (by decide +kernel)
noncomputable def ns15 : List Str := "map_table_b3" :: ns14
noncomputable def fs15 (w : World) : List Fct := FctFn (dAt 14) :: fs14 w
theorem step_14 : Does1 pw w (stAt 14) mg₀ mb (dAt 12).pos.line (dAt 14).pos.line ns14 ns15 (fs14 w) (fs15 w) := by
  have h := dd (w := w) (mg₀ := mg₀) (mb := mb) (ns := ns14) (fs := fs14 w) 14 st_14 plain_14 (L := (dAt 12).pos.line) (by decide +kernel) (by decide +kernel)
  rw [nm_14] at h
  exact h
noncomputable def ns16 : List Str := "__name__" :: ns15
noncomputable def fs16 (w : World) : List Fct := fs15 w
theorem step_15 : Does1 pw w (stAt 15) mg₀ mb (dAt 14).pos.line (dAt 14).pos.line ns15 ns16 (fs15 w) (fs16 w) := ds 15 st_15 (apart_of (l := ["map_table_b3", "b3_exceptions", "in_table_b1", "b1_set", "_check_parenthesis", "_strip_quoted_realnames", "_iter_escaped_chars", "_levenshtein_distance", "_substitution_cost", "_CASE_COST", "_MOVE_COST", "_MAX_STRING_SIZE"]) rfl (by decide +kernel))
noncomputable def ns17 : List Str := "_law_unseen" :: ns16
noncomputable def fs17 (w : World) : List Fct := FctFn (dAt 16) :: fs16 w
theorem step_16 : Does1 pw w (stAt 16) mg₀ mb (dAt 14).pos.line (dAt 16).pos.line ns16 ns17 (fs16 w) (fs17 w) := by
  have h := dd (w := w) (mg₀ := mg₀) (mb := mb) (ns := ns16) (fs := fs16 w) 16 st_16 plain_16 (L := (dAt 14).pos.line) (by decide +kernel) (by decide +kernel)
  rw [nm_16] at h
  exact h
noncomputable def ns18 : List Str := "_law_row" :: ns17
noncomputable def fs18 (w : World) : List Fct := FctFn (dAt 17) :: fs17 w
theorem step_17 : Does1 pw w (stAt 17) mg₀ mb (dAt 16).pos.line (dAt 17).pos.line ns17 ns18 (fs17 w) (fs18 w) := by
  have h := dd (w := w) (mg₀ := mg₀) (mb := mb) (ns := ns17) (fs := fs17 w) 17 st_17 plain_17 (L := (dAt 16).pos.line) (by decide +kernel) (by decide +kernel)
  rw [nm_17] at h
  exact h
noncomputable def ns19 : List Str := "_law_order" :: ns18
noncomputable def fs19 (w : World) : List Fct := FctFn (dAt 18) :: fs18 w
theorem step_18 : Does1 pw w (stAt 18) mg₀ mb (dAt 17).pos.line (dAt 18).pos.line ns18 ns19 (fs18 w) (fs19 w) := by
  have h := dd (w := w) (mg₀ := mg₀) (mb := mb) (ns := ns18) (fs := fs18 w) 18 st_18 plain_18 (L := (dAt 17).pos.line) (by decide +kernel) (by decide +kernel)
  rw [nm_18] at h
  exact h
noncomputable def ns20 : List Str := "_law_typed" :: ns19
noncomputable def fs20 (w : World) : List Fct := FctFn (dAt 19) :: fs19 w
theorem step_19 : Does1 pw w (stAt 19) mg₀ mb (dAt 18).pos.line (dAt 19).pos.line ns19 ns20 (fs19 w) (fs20 w) := by
  have h := dd (w := w) (mg₀ := mg₀) (mb := mb) (ns := ns19) (fs := fs19 w) 19 st_19 plain_19 (L := (dAt 18).pos.line) (by decide +kernel) (by decide +kernel)
  rw [nm_19] at h
  exact h
noncomputable def ns21 : List Str := "_law_prepared" :: ns20
noncomputable def fs21 (w : World) : List Fct := FctFn (dAt 20) :: fs20 w
theorem step_20 : Does1 pw w (stAt 20) mg₀ mb (dAt 19).pos.line (dAt 20).pos.line ns20 ns21 (fs20 w) (fs21 w) := by
  have h := dd (w := w) (mg₀ := mg₀) (mb := mb) (ns := ns20) (fs := fs20 w) 20 st_20 plain_20 (L := (dAt 19).pos.line) (by decide +kernel) (by decide +kernel)
  rw [nm_20] at h
  exact h
noncomputable def ns22 : List Str := "_law_told" :: ns21
noncomputable def fs22 (w : World) : List Fct := FctFn (dAt 21) :: fs21 w
theorem step_21 : Does1 pw w (stAt 21) mg₀ mb (dAt 20).pos.line (dAt 21).pos.line ns21 ns22 (fs21 w) (fs22 w) := by
  have h := dd (w := w) (mg₀ := mg₀) (mb := mb) (ns := ns21) (fs := fs21 w) 21 st_21 plain_21 (L := (dAt 20).pos.line) (by decide +kernel) (by decide +kernel)
  rw [nm_21] at h
  exact h
noncomputable def ns23 : List Str := "law" :: ns22
noncomputable def fs23 (w : World) : List Fct := FctFn (dAt 22) :: fs22 w
theorem step_22 : Does1 pw w (stAt 22) mg₀ mb (dAt 21).pos.line (dAt 22).pos.line ns22 ns23 (fs22 w) (fs23 w) := by
  have h := dd (w := w) (mg₀ := mg₀) (mb := mb) (ns := ns22) (fs := fs22 w) 22 st_22 plain_22 (L := (dAt 21).pos.line) (by decide +kernel) (by decide +kernel)
  rw [nm_22] at h
  exact h

theorem chain_23 : Does pw w [] mg₀ mb (dAt 22).pos.line (dAt 22).pos.line ns23 ns23 (fs23 w) (fs23 w) := @Does.nil pw w mg₀ mb (dAt 22).pos.line ns23 (fs23 w)
theorem chain_22 : Does pw w [stAt 22] mg₀ mb (dAt 21).pos.line (dAt 22).pos.line ns22 ns23 (fs22 w) (fs23 w) := @Does.cons pw w (stAt 22) [] mg₀ mb (dAt 21).pos.line (dAt 22).pos.line (dAt 22).pos.line ns22 ns23 ns23 (fs22 w) (fs23 w) (fs23 w) (@step_22 w mg₀ mb) (@chain_23 w mg₀ mb)
theorem chain_21 : Does pw w [stAt 21, stAt 22] mg₀ mb (dAt 20).pos.line (dAt 22).pos.line ns21 ns23 (fs21 w) (fs23 w) := @Does.cons pw w (stAt 21) [stAt 22] mg₀ mb (dAt 20).pos.line (dAt 21).pos.line (dAt 22).pos.line ns21 ns22 ns23 (fs21 w) (fs22 w) (fs23 w) (@step_21 w mg₀ mb) (@chain_22 w mg₀ mb)
theorem chain_20 : Does pw w [stAt 20, stAt 21, stAt 22] mg₀ mb (dAt 19).pos.line (dAt 22).pos.line ns20 ns23 (fs20 w) (fs23 w) := @Does.cons pw w (stAt 20) [stAt 21, stAt 22] mg₀ mb (dAt 19).pos.line (dAt 20).pos.line (dAt 22).pos.line ns20 ns21 ns23 (fs20 w) (fs21 w) (fs23 w) (@step_20 w mg₀ mb) (@chain_21 w mg₀ mb)
theorem chain_19 : Does pw w [stAt 19, stAt 20, stAt 21, stAt 22] mg₀ mb (dAt 18).pos.line (dAt 22).pos.line ns19 ns23 (fs19 w) (fs23 w) := @Does.cons pw w (stAt 19) [stAt 20, stAt 21, stAt 22] mg₀ mb (dAt 18).pos.line (dAt 19).pos.line (dAt 22).pos.line ns19 ns20 ns23 (fs19 w) (fs20 w) (fs23 w) (@step_19 w mg₀ mb) (@chain_20 w mg₀ mb)
theorem chain_18 : Does pw w [stAt 18, stAt 19, stAt 20, stAt 21, stAt 22] mg₀ mb (dAt 17).pos.line (dAt 22).pos.line ns18 ns23 (fs18 w) (fs23 w) := @Does.cons pw w (stAt 18) [stAt 19, stAt 20, stAt 21, stAt 22] mg₀ mb (dAt 17).pos.line (dAt 18).pos.line (dAt 22).pos.line ns18 ns19 ns23 (fs18 w) (fs19 w) (fs23 w) (@step_18 w mg₀ mb) (@chain_19 w mg₀ mb)
theorem chain_17 : Does pw w [stAt 17, stAt 18, stAt 19, stAt 20, stAt 21, stAt 22] mg₀ mb (dAt 16).pos.line (dAt 22).pos.line ns17 ns23 (fs17 w) (fs23 w) := @Does.cons pw w (stAt 17) [stAt 18, stAt 19, stAt 20, stAt 21, stAt 22] mg₀ mb (dAt 16).pos.line (dAt 17).pos.line (dAt 22).pos.line ns17 ns18 ns23 (fs17 w) (fs18 w) (fs23 w) (@step_17 w mg₀ mb) (@chain_18 w mg₀ mb)
theorem chain_16 : Does pw w [stAt 16, stAt 17, stAt 18, stAt 19, stAt 20, stAt 21, stAt 22] mg₀ mb (dAt 14).pos.line (dAt 22).pos.line ns16 ns23 (fs16 w) (fs23 w) := @Does.cons pw w (stAt 16) [stAt 17, stAt 18, stAt 19, stAt 20, stAt 21, stAt 22] mg₀ mb (dAt 14).pos.line (dAt 16).pos.line (dAt 22).pos.line ns16 ns17 ns23 (fs16 w) (fs17 w) (fs23 w) (@step_16 w mg₀ mb) (@chain_17 w mg₀ mb)
theorem chain_15 : Does pw w [stAt 15, stAt 16, stAt 17, stAt 18, stAt 19, stAt 20, stAt 21, stAt 22] mg₀ mb (dAt 14).pos.line (dAt 22).pos.line ns15 ns23 (fs15 w) (fs23 w) := @Does.cons pw w (stAt 15) [stAt 16, stAt 17, stAt 18, stAt 19, stAt 20, stAt 21, stAt 22] mg₀ mb (dAt 14).pos.line (dAt 14).pos.line (dAt 22).pos.line ns15 ns16 ns23 (fs15 w) (fs16 w) (fs23 w) (@step_15 w mg₀ mb) (@chain_16 w mg₀ mb)
theorem chain_14 : Does pw w [stAt 14, stAt 15, stAt 16, stAt 17, stAt 18, stAt 19, stAt 20, stAt 21, stAt 22] mg₀ mb (dAt 12).pos.line (dAt 22).pos.line ns14 ns23 (fs14 w) (fs23 w) := @Does.cons pw w (stAt 14) [stAt 15, stAt 16, stAt 17, stAt 18, stAt 19, stAt 20, stAt 21, stAt 22] mg₀ mb (dAt 12).pos.line (dAt 14).pos.line (dAt 22).pos.line ns14 ns15 ns23 (fs14 w) (fs15 w) (fs23 w) (@step_14 w mg₀ mb) (@chain_15 w mg₀ mb)
theorem chain_13 : Does pw w [stAt 13, stAt 14, stAt 15, stAt 16, stAt 17, stAt 18, stAt 19, stAt 20, stAt 21, stAt 22] mg₀ mb (dAt 12).pos.line (dAt 22).pos.line ns13 ns23 (fs13 w) (fs23 w) := @Does.cons pw w (stAt 13) [stAt 14, stAt 15, stAt 16, stAt 17, stAt 18, stAt 19, stAt 20, stAt 21, stAt 22] mg₀ mb (dAt 12).pos.line (dAt 12).pos.line (dAt 22).pos.line ns13 ns14 ns23 (fs13 w) (fs14 w) (fs23 w) (@step_13 w mg₀ mb) (@chain_14 w mg₀ mb)
theorem chain_12 : Does pw w [stAt 12, stAt 13, stAt 14, stAt 15, stAt 16, stAt 17, stAt 18, stAt 19, stAt 20, stAt 21, stAt 22] mg₀ mb (dAt 9).pos.line (dAt 22).pos.line ns12 ns23 (fs12 w) (fs23 w) := @Does.cons pw w (stAt 12) [stAt 13, stAt 14, stAt 15, stAt 16, stAt 17, stAt 18, stAt 19, stAt 20, stAt 21, stAt 22] mg₀ mb (dAt 9).pos.line (dAt 12).pos.line (dAt 22).pos.line ns12 ns13 ns23 (fs12 w) (fs13 w) (fs23 w) (@step_12 w mg₀ mb) (@chain_13 w mg₀ mb)
theorem chain_11 (hm : ∀ x : Str, x = "set" ∨ x = "list" ∨ x = "range" → mg₀ x = none) (h1 : mb "set" = some (.type "set")) (h2 : mb "list" = some (.type "list")) (h3 : mb "range" = some (.type "range")) : Does pw w [stAt 11, stAt 12, stAt 13, stAt 14, stAt 15, stAt 16, stAt 17, stAt 18, stAt 19, stAt 20, stAt 21, stAt 22] mg₀ mb (dAt 9).pos.line (dAt 22).pos.line ns11 ns23 (fs11 w) (fs23 w) := @Does.cons pw w (stAt 11) [stAt 12, stAt 13, stAt 14, stAt 15, stAt 16, stAt 17, stAt 18, stAt 19, stAt 20, stAt 21, stAt 22] mg₀ mb (dAt 9).pos.line (dAt 9).pos.line (dAt 22).pos.line ns11 ns12 ns23 (fs11 w) (fs12 w) (fs23 w) (step_11 hm h1 h2 h3) (@chain_12 w mg₀ mb)
theorem chain_10 (hm : ∀ x : Str, x = "set" ∨ x = "list" ∨ x = "range" → mg₀ x = none) (h1 : mb "set" = some (.type "set")) (h2 : mb "list" = some (.type "list")) (h3 : mb "range" = some (.type "range")) : Does pw w [stAt 10, stAt 11, stAt 12, stAt 13, stAt 14, stAt 15, stAt 16, stAt 17, stAt 18, stAt 19, stAt 20, stAt 21, stAt 22] mg₀ mb (dAt 9).pos.line (dAt 22).pos.line ns10 ns23 (fs10 w) (fs23 w) := @Does.cons pw w (stAt 10) [stAt 11, stAt 12, stAt 13, stAt 14, stAt 15, stAt 16, stAt 17, stAt 18, stAt 19, stAt 20, stAt 21, stAt 22] mg₀ mb (dAt 9).pos.line (dAt 9).pos.line (dAt 22).pos.line ns10 ns11 ns23 (fs10 w) (fs11 w) (fs23 w) (@step_10 w mg₀ mb) (chain_11 hm h1 h2 h3)
theorem chain_9 (hm : ∀ x : Str, x = "set" ∨ x = "list" ∨ x = "range" → mg₀ x = none) (h1 : mb "set" = some (.type "set")) (h2 : mb "list" = some (.type "list")) (h3 : mb "range" = some (.type "range")) : Does pw w [stAt 9, stAt 10, stAt 11, stAt 12, stAt 13, stAt 14, stAt 15, stAt 16, stAt 17, stAt 18, stAt 19, stAt 20, stAt 21, stAt 22] mg₀ mb (dAt 8).pos.line (dAt 22).pos.line ns9 ns23 (fs9 w) (fs23 w) := @Does.cons pw w (stAt 9) [stAt 10, stAt 11, stAt 12, stAt 13, stAt 14, stAt 15, stAt 16, stAt 17, stAt 18, stAt 19, stAt 20, stAt 21, stAt 22] mg₀ mb (dAt 8).pos.line (dAt 9).pos.line (dAt 22).pos.line ns9 ns10 ns23 (fs9 w) (fs10 w) (fs23 w) (@step_9 w mg₀ mb) (chain_10 hm h1 h2 h3)
theorem chain_8 (hm : ∀ x : Str, x = "set" ∨ x = "list" ∨ x = "range" → mg₀ x = none) (h1 : mb "set" = some (.type "set")) (h2 : mb "list" = some (.type "list")) (h3 : mb "range" = some (.type "range")) : Does pw w [stAt 8, stAt 9, stAt 10, stAt 11, stAt 12, stAt 13, stAt 14, stAt 15, stAt 16, stAt 17, stAt 18, stAt 19, stAt 20, stAt 21, stAt 22] mg₀ mb (dAt 7).pos.line (dAt 22).pos.line ns8 ns23 (fs8 w) (fs23 w) := @Does.cons pw w (stAt 8) [stAt 9, stAt 10, stAt 11, stAt 12, stAt 13, stAt 14, stAt 15, stAt 16, stAt 17, stAt 18, stAt 19, stAt 20, stAt 21, stAt 22] mg₀ mb (dAt 7).pos.line (dAt 8).pos.line (dAt 22).pos.line ns8 ns9 ns23 (fs8 w) (fs9 w) (fs23 w) (@step_8 w mg₀ mb) (chain_9 hm h1 h2 h3)
theorem chain_7 (hm : ∀ x : Str, x = "set" ∨ x = "list" ∨ x = "range" → mg₀ x = none) (h1 : mb "set" = some (.type "set")) (h2 : mb "list" = some (.type "list")) (h3 : mb "range" = some (.type "range")) : Does pw w [stAt 7, stAt 8, stAt 9, stAt 10, stAt 11, stAt 12, stAt 13, stAt 14, stAt 15, stAt 16, stAt 17, stAt 18, stAt 19, stAt 20, stAt 21, stAt 22] mg₀ mb (dAt 5).pos.line (dAt 22).pos.line ns7 ns23 (fs7 w) (fs23 w) := @Does.cons pw w (stAt 7) [stAt 8, stAt 9, stAt 10, stAt 11, stAt 12, stAt 13, stAt 14, stAt 15, stAt 16, stAt 17, stAt 18, stAt 19, stAt 20, stAt 21, stAt 22] mg₀ mb (dAt 5).pos.line (dAt 7).pos.line (dAt 22).pos.line ns7 ns8 ns23 (fs7 w) (fs8 w) (fs23 w) (@step_7 w mg₀ mb) (chain_8 hm h1 h2 h3)
theorem chain_6 (hm : ∀ x : Str, x = "set" ∨ x = "list" ∨ x = "range" → mg₀ x = none) (h1 : mb "set" = some (.type "set")) (h2 : mb "list" = some (.type "list")) (h3 : mb "range" = some (.type "range")) : Does pw w [stAt 6, stAt 7, stAt 8, stAt 9, stAt 10, stAt 11, stAt 12, stAt 13, stAt 14, stAt 15, stAt 16, stAt 17, stAt 18, stAt 19, stAt 20, stAt 21, stAt 22] mg₀ mb (dAt 5).pos.line (dAt 22).pos.line ns6 ns23 (fs6 w) (fs23 w) := @Does.cons pw w (stAt 6) [stAt 7, stAt 8, stAt 9, stAt 10, stAt 11, stAt 12, stAt 13, stAt 14, stAt 15, stAt 16, stAt 17, stAt 18, stAt 19, stAt 20, stAt 21, stAt 22] mg₀ mb (dAt 5).pos.line (dAt 5).pos.line (dAt 22).pos.line ns6 ns7 ns23 (fs6 w) (fs7 w) (fs23 w) (@step_6 w mg₀ mb) (chain_7 hm h1 h2 h3)
theorem chain_5 (hm : ∀ x : Str, x = "set" ∨ x = "list" ∨ x = "range" → mg₀ x = none) (h1 : mb "set" = some (.type "set")) (h2 : mb "list" = some (.type "list")) (h3 : mb "range" = some (.type "range")) : Does pw w [stAt 5, stAt 6, stAt 7, stAt 8, stAt 9, stAt 10, stAt 11, stAt 12, stAt 13, stAt 14, stAt 15, stAt 16, stAt 17, stAt 18, stAt 19, stAt 20, stAt 21, stAt 22] mg₀ mb (dAt 4).pos.line (dAt 22).pos.line ns5 ns23 (fs5 w) (fs23 w) := @Does.cons pw w (stAt 5) [stAt 6, stAt 7, stAt 8, stAt 9, stAt 10, stAt 11, stAt 12, stAt 13, stAt 14, stAt 15, stAt 16, stAt 17, stAt 18, stAt 19, stAt 20, stAt 21, stAt 22] mg₀ mb (dAt 4).pos.line (dAt 5).pos.line (dAt 22).pos.line ns5 ns6 ns23 (fs5 w) (fs6 w) (fs23 w) (@step_5 w mg₀ mb) (chain_6 hm h1 h2 h3)
theorem chain_4 (hm : ∀ x : Str, x = "set" ∨ x = "list" ∨ x = "range" → mg₀ x = none) (h1 : mb "set" = some (.type "set")) (h2 : mb "list" = some (.type "list")) (h3 : mb "range" = some (.type "range")) : Does pw w [stAt 4, stAt 5, stAt 6, stAt 7, stAt 8, stAt 9, stAt 10, stAt 11, stAt 12, stAt 13, stAt 14, stAt 15, stAt 16, stAt 17, stAt 18, stAt 19, stAt 20, stAt 21, stAt 22] mg₀ mb 0 (dAt 22).pos.line ns4 ns23 (fs4 w) (fs23 w) := @Does.cons pw w (stAt 4) [stAt 5, stAt 6, stAt 7, stAt 8, stAt 9, stAt 10, stAt 11, stAt 12, stAt 13, stAt 14, stAt 15, stAt 16, stAt 17, stAt 18, stAt 19, stAt 20, stAt 21, stAt 22] mg₀ mb 0 (dAt 4).pos.line (dAt 22).pos.line ns4 ns5 ns23 (fs4 w) (fs5 w) (fs23 w) (@step_4 w mg₀ mb) (chain_5 hm h1 h2 h3)
theorem chain_3 (hm : ∀ x : Str, x = "set" ∨ x = "list" ∨ x = "range" → mg₀ x = none) (h1 : mb "set" = some (.type "set")) (h2 : mb "list" = some (.type "list")) (h3 : mb "range" = some (.type "range")) : Does pw w [stAt 3, stAt 4, stAt 5, stAt 6, stAt 7, stAt 8, stAt 9, stAt 10, stAt 11, stAt 12, stAt 13, stAt 14, stAt 15, stAt 16, stAt 17, stAt 18, stAt 19, stAt 20, stAt 21, stAt 22] mg₀ mb 0 (dAt 22).pos.line ns3 ns23 (fs3 w) (fs23 w) := @Does.cons pw w (stAt 3) [stAt 4, stAt 5, stAt 6, stAt 7, stAt 8, stAt 9, stAt 10, stAt 11, stAt 12, stAt 13, stAt 14, stAt 15, stAt 16, stAt 17, stAt 18, stAt 19, stAt 20, stAt 21, stAt 22] mg₀ mb 0 0 (dAt 22).pos.line ns3 ns4 ns23 (fs3 w) (fs4 w) (fs23 w) (@step_3 w mg₀ mb) (chain_4 hm h1 h2 h3)
theorem chain_2 (hm : ∀ x : Str, x = "set" ∨ x = "list" ∨ x = "range" → mg₀ x = none) (h1 : mb "set" = some (.type "set")) (h2 : mb "list" = some (.type "list")) (h3 : mb "range" = some (.type "range")) : Does pw w [stAt 2, stAt 3, stAt 4, stAt 5, stAt 6, stAt 7, stAt 8, stAt 9, stAt 10, stAt 11, stAt 12, stAt 13, stAt 14, stAt 15, stAt 16, stAt 17, stAt 18, stAt 19, stAt 20, stAt 21, stAt 22] mg₀ mb 0 (dAt 22).pos.line ns2 ns23 (fs2 w) (fs23 w) := @Does.cons pw w (stAt 2) [stAt 3, stAt 4, stAt 5, stAt 6, stAt 7, stAt 8, stAt 9, stAt 10, stAt 11, stAt 12, stAt 13, stAt 14, stAt 15, stAt 16, stAt 17, stAt 18, stAt 19, stAt 20, stAt 21, stAt 22] mg₀ mb 0 0 (dAt 22).pos.line ns2 ns3 ns23 (fs2 w) (fs3 w) (fs23 w) (@step_2 w mg₀ mb) (chain_3 hm h1 h2 h3)
theorem chain_1 (hm : ∀ x : Str, x = "set" ∨ x = "list" ∨ x = "range" → mg₀ x = none) (h1 : mb "set" = some (.type "set")) (h2 : mb "list" = some (.type "list")) (h3 : mb "range" = some (.type "range")) : Does pw w [stAt 1, stAt 2, stAt 3, stAt 4, stAt 5, stAt 6, stAt 7, stAt 8, stAt 9, stAt 10, stAt 11, stAt 12, stAt 13, stAt 14, stAt 15, stAt 16, stAt 17, stAt 18, stAt 19, stAt 20, stAt 21, stAt 22] mg₀ mb 0 (dAt 22).pos.line ns1 ns23 (fs1 w) (fs23 w) := @Does.cons pw w (stAt 1) [stAt 2, stAt 3, stAt 4, stAt 5, stAt 6, stAt 7, stAt 8, stAt 9, stAt 10, stAt 11, stAt 12, stAt 13, stAt 14, stAt 15, stAt 16, stAt 17, stAt 18, stAt 19, stAt 20, stAt 21, stAt 22] mg₀ mb 0 0 (dAt 22).pos.line ns1 ns2 ns23 (fs1 w) (fs2 w) (fs23 w) (@step_1 w mg₀ mb) (chain_2 hm h1 h2 h3)
theorem chain_0 (hm : ∀ x : Str, x = "set" ∨ x = "list" ∨ x = "range" → mg₀ x = none) (h1 : mb "set" = some (.type "set")) (h2 : mb "list" = some (.type "list")) (h3 : mb "range" = some (.type "range")) : Does pw w [stAt 0, stAt 1, stAt 2, stAt 3, stAt 4, stAt 5, stAt 6, stAt 7, stAt 8, stAt 9, stAt 10, stAt 11, stAt 12, stAt 13, stAt 14, stAt 15, stAt 16, stAt 17, stAt 18, stAt 19, stAt 20, stAt 21, stAt 22] mg₀ mb 0 (dAt 22).pos.line ns0 ns23 (fs0 w) (fs23 w) := @Does.cons pw w (stAt 0) [stAt 1, stAt 2, stAt 3, stAt 4, stAt 5, stAt 6, stAt 7, stAt 8, stAt 9, stAt 10, stAt 11, stAt 12, stAt 13, stAt 14, stAt 15, stAt 16, stAt 17, stAt 18, stAt 19, stAt 20, stAt 21, stAt 22] mg₀ mb 0 0 (dAt 22).pos.line ns0 ns1 ns23 (fs0 w) (fs1 w) (fs23 w) (@step_0 w mg₀ mb) (chain_1 hm h1 h2 h3)
theorem does_all (hm : ∀ x : Str, x = "set" ∨ x = "list" ∨ x = "range" → mg₀ x = none) (h1 : mb "set" = some (.type "set")) (h2 : mb "list" = some (.type "list")) (h3 : mb "range" = some (.type "range")) : Does pw w pw.main.body mg₀ mb 0 (dAt 22).pos.line ns0 ns23 (fs0 w) (fs23 w) := by
  rw [body_is]
  exact chain_0 hm h1 h2 h3
end
end Mine

namespace Mine
open PySem PySem.Spec PySem.W PyProof.Rows

section
variable {den : Code → Sem Fin} {p : Program} {w : World}
theorem run_go {k : Nat} : ∀ {n : Nat} {s : Shared} {t : Thread} {s₁ : Shared} {t₁ : Thread} {σ : Shared} {τ : Thread}, k < n → runN den p w n s t = .running σ τ → runN den p w k s t = .running s₁ t₁ → ∀ o s₂, step den p w s₁ t₁ ≠ .halt o s₂ := by
  induction k with
  | zero =>
    intro n s t s₁ t₁ σ τ hk h h' o s₂ e
    cases n with
    | zero => exact absurd hk (Nat.lt_irrefl _)
    | succ n =>
      have e' : Run.running s t = .running s₁ t₁ := h'
      injection e' with e1 e2
      subst e1 e2
      simp only [runN, e] at h
      cases h
  | succ k ih =>
    intro n s t s₁ t₁ σ τ hk h h' o s₂
    cases n with
    | zero => exact absurd hk (Nat.not_lt_zero _)
    | succ n =>
      simp only [runN] at h h'
      cases hs : step den p w s t with
      | go s' t' =>
        simp only [hs] at h h'
        exact ih (Nat.lt_of_succ_lt_succ hk) h h' o s₂
      | halt o' s' => simp only [hs] at h; cases h
end

/-- a thread of the caller comes to its end -/
theorem sched_reach {p : Program} {w : World} {t : Sem Fin} {s : Shared} {P : Shared → Prop} (hz : s.asleep) (h : wpAny (model p w) callerA t (fun fin s' => fin = .done (.ret .none) ∧ P s' ∧ s'.gens = #[]) NE s) :
    ∃ n s₁ q, schedN (denote table) p w n (.single s ⟨t, .builtin "claim.caller" {}, default, []⟩) = .running (.single s₁ ⟨.pure (.done (.ret .none)), .builtin "claim.caller" {}, q, []⟩) ∧ P s₁ ∧ s₁.gens = #[] ∧ s₁.heap.life = s.heap.life := by
  have h1 : Sem.wp (model p w) (Ctx.of (.builtin "claim.caller" {}) []) t (fun fin _ s' => fin = .done (.ret .none) ∧ P s' ∧ s'.gens = #[]) (fun _ _ _ => False) default s :=
    Sem.wp_mono _ _ _ (fun _ _ _ x => x) (fun _ _ _ x => x) _ _ (h _ default caller_in)
  obtain ⟨n, s', σ, q, leaf, hr, hf, hl⟩ := wp_reaches (M := model p w) h1
  rcases hl with ⟨a, rfl, rfl, hP, hg⟩ | ⟨e, _, hF⟩
  · obtain rfl := Shared.eq_of_forget_eq hf hg
    have h2 := wp_of_wpAny_done (M := model p w) (R := fun r s' => True ∧ leftWithCleanup s'.gens = false) caller_in
      (wpAny_mono h (fun fin s' x => ⟨_, x.1, trivial, by rw [x.2.2]; decide +kernel⟩) fun _ _ x => x.elim) default
    obtain ⟨m, r, s₂, hm, _⟩ := (wp_iff_halts (M := model p w) (R := fun _ _ => True) ..).mp h2
    obtain ⟨_, _, _, hc⟩ := runNI_real _ _ _ hm (outcomeOf_ends r)
    refine ⟨n, σ, q, ?_, hP, hg, runN_life_running hr⟩
    rw [schedN_prefix (denote table) p w n s _ hz fun k s' t' hk hrun => ⟨hc k s' t' hrun, run_go hk hr hrun _ _⟩]
    show Run.lift (runN (model p w).den (model p w).prog (model p w).w n s _) = _
    rw [hr]
    rfl
  · exact hF.elim

/-! ahead of the top -/
structure Left (s : Shared) : Prop where
  boot : ∃ mb mg c Pl, BootLeft s.heap mb mg c Pl
  gens : s.gens = #[]
  asleep : s.asleep

theorem open_body : (opening pw).main.body = [] := rfl
theorem behind_body : behindTheImports pw = pw.main.body := rfl
theorem fence_id (s : Shared) : fenceModules? pw s = some s := fenceModules_id pw (by decide +kernel) s

theorem open_left (w : World) : (∃ s, AfterRun (opening pw) w s) ∧ ∀ s, AfterRun (opening pw) w s → Left s := by
  have A := AfterImport.of_wp (prog := opening pw) (w := w) (P := fun s => (∃ mb mg c Pl, BootLeft s.heap mb mg c Pl) ∧ s.gens = #[])
    (wpAny_boot (M := model (opening pw) w) (A := {}) (E := fun _ _ => False) (opening pw) (fun s' => ((∃ mb mg c Pl, BootLeft s'.heap mb mg c Pl) ∧ s'.gens = #[]) ∧ s'.gens = #[])
      (fun hp tk mb mg c Pl F hB => by
        rw [open_body]
        exact codeAny_body rfl rfl (wpAny_execs_nil ⟨⟨_, rfl⟩, ⟨⟨mb, mg, c, Pl, hB⟩, rfl⟩, rfl⟩)) rfl _ default boot_in)
  refine ⟨A.1, fun s hs => ?_⟩
  have hs' : AfterImport (opening pw) w s := hs
  have l := A.2 s hs'
  exact ⟨l.1, l.2, hs'.life⟩
end Mine

namespace Mine
open PySem PySem.Spec PySem.W PyProof.Rows

theorem blt_set : bootBuiltins "set" = some (.type "set") := by rfl
theorem blt_list : bootBuiltins "list" = some (.type "list") := by rfl
theorem blt_range : bootBuiltins "range" = some (.type "range") := by rfl

/-- what the top leaves -/
structure After (w : World) (s : Shared) : Prop where
  gens : s.gens = #[]
  asleep : s.asleep
  left : ∃ c Pl mg₀ mb mg, TI c Pl mg₀ mb (dAt 22).pos.line ns23 (fs23 w) mg s.heap ∧ (∀ x : Str, x ≠ "__name__" → mb x = bootBuiltins x) ∧ (∀ x, x ∉ bootMainNames → mg₀ x = none)
  nolimit : s.heap.NoLimit

theorem bound_23 : ∀ x ∈ ns23, x ∈ startupNames ∨ x ∈ pw.boundNames := by decide +kernel
theorem laid_23 : ∀ x ∈ laidNames, x ∉ ns23 := by decide +kernel

theorem top_ran {w : World} {s : Shared} (l : Left s) : ∃ s₁, TopRan pw w s s₁ ∧ After w s₁ := by
  obtain ⟨mb, mg, c₀, Pl₀, B⟩ := l.boot
  have hb : ∀ x : Str, x ≠ "__name__" → mb x = bootBuiltins x := B.builtins
  have hm : ∀ x : Str, x = "set" ∨ x = "list" ∨ x = "range" → mg x = none := fun x hx => B.others x (by rcases hx with rfl | rfl | rfl <;> decide +kernel)
  obtain ⟨n, s₁, q, hn, ⟨⟨Pl, hPl, ks⟩, c, Pl', mg', I⟩, hg, hl⟩ := sched_reach (p := pw) (w := w) (t := (topStub pw).cur) (s := s)
    (P := fun s' => (∃ Pl, s.heap.objs.size ≤ Pl ∧ (∀ b o, b ≠ Pl → b ≠ mainGlobals → s.heap.get? b = some o → s'.heap.get? b = some o) ∧ s'.os = s.os) ∧
      ∃ c Pl mg', TI c Pl mg mb (dAt 22).pos.line ns23 (fs23 w) mg' s'.heap) l.asleep (by
    show wpAny _ _ (do
      let code ← moduleCode pw.main
      let frame ← newBodyFrame code mainNs mainNs
      let _ ← run (.body (behindTheImports pw) { scope := pw.main.scope, locals := mainNs, globals := mainNs, cells := [], code, frame := some frame })
      ret .none) _ _ _
    rw [behind_body]
    refine wpAny_bind (wpAny_moduleCode fun c Pl h₁ tk₁ hk₁ hc hP hcode => ?_)
    unfold newBodyFrame
    refine wpAny_bind (wpAny_bind (wpAny_nsGet (B.g.keeps hk₁) (wpAny_alloc ?_)))
    generalize hfr : ({ cls := .type "frame", slots := _ } : Obj) = fr
    have kf : Ext s.heap (h₁.push fr) := fun b o e => Heap.get?_push_of_some _ (hk₁ b o e)
    refine wpAny_bind (wpAny_run (codeAny_body rfl rfl ?_))
    have I₀ : TI c Pl mg mb 0 ns0 (fs0 w) mg (h₁.push fr) := by
      refine ⟨⟨[], ⟨B.g.keeps kf, hcode.push _, ⟨Nat.lt_of_lt_of_le B.g.lt hc, Nat.lt_of_lt_of_le B.g.lt hP⟩, ?_⟩, fun q hq => nomatch hq⟩, fun x _ => rfl, fun f hf => (nomatch hf), B.b.keeps kf, fun f hf => (nomatch hf)⟩
      obtain ⟨bm, o, e1, e2, e3, _, e5, e6⟩ := B.bmod
      exact ⟨bm, o, e1, e2, e3, Nat.ne_of_lt (Nat.lt_of_lt_of_le (Heap.lt_size e5) hP), kf _ _ e5, e6⟩
    refine wpAny_mono (does_all (w := w) hm ((hb _ (by decide +kernel)).trans blt_set) ((hb _ (by decide +kernel)).trans blt_list) ((hb _ (by decide +kernel)).trans blt_range) c Pl h₁.objs.size _ _ mg rfl I₀) (fun f s' g => ?_) fun _ _ x => x.elim
    obtain ⟨rfl, k, mg', I'⟩ := g
    refine wpAny_pure ⟨rfl, ⟨⟨Pl, hP, fun b o h1 h2 e => k.heap b o h1 h2 (kf b o e), k.os⟩, c, Pl, mg', I'⟩, k.gens.trans l.gens⟩)
  refine ⟨s₁, ?_, ?_⟩
  · obtain ⟨lc, M, _⟩ := I.main
    have st : s₁.heap.Ns cStatics (fun _ => none) := B.statics.at fun o e => ks.1 _ o (Nat.ne_of_lt (Nat.lt_of_lt_of_le B.statics.lt hPl)) (by decide) e
    have ho : ∀ x, globalOf s₁.heap x = mg' x := fun x => Claim2Try.globalOf_of_ns M.g x
    refine ⟨⟨n, _, hn, rfl⟩, hl, Shared.rest_eq ks.2, fun b o e hb => ks.1 b o (Nat.ne_of_lt (Nat.lt_of_lt_of_le (Heap.lt_size e) hPl)) (fun e' => hb (.inl e')) e, ?_, ?_, ?_, ?_, ?_, ?_, ?_, ?_⟩
    · intro key v hv
      rw [Pin.staticOf_of_ns st] at hv
      cases hv
    · intro key
      exact .inl ((Pin.staticOf_of_ns st key).trans (Pin.staticOf_of_ns B.statics key).symm)
    · exact Pin.keysAreStrs_of_ns M.g
    · intro x hx
      exact (Pin.builtinOf_of_ns I.b x).trans (B.builtins x hx)
    · obtain ⟨bm, o, e1, e2, e3, _, e5, e6, e7, _⟩ := M.bmod
      exact ⟨bm, o, (ho _).trans e1, e5, e6, e7⟩
    · intro g hg'
      rw [hg] at hg'
      cases hg' with | mk h => cases h
    · intro x v hv
      rw [ho] at hv
      by_cases hx : x ∈ ns23
      · exact bound_23 x hx
      · rw [I.out x hx] at hv
        by_cases hx' : x ∈ bootMainNames
        · exact .inl hx'
        · rw [B.others x hx'] at hv
          cases hv
    · intro x hx
      exact (ho x).trans ((I.out x (laid_23 x hx)).trans (Claim2Try.globalOf_of_ns B.g x).symm)
  · exact ⟨hg, Shared.asleep_of_life hl l.asleep, ⟨c, Pl', mg, mb, mg', I, hb, B.others⟩, _, B.statics.at fun o e => ks.1 _ o (Nat.ne_of_lt (Nat.lt_of_lt_of_le B.statics.lt hPl)) (by decide) e, rfl⟩
end Mine

namespace Mine
open PySem PySem.Spec PySem.W PyProof.Rows

/-! more room does no harm -/
theorem IsIt.up {C : Cx} {k j : Nat} (h : j ≤ k) {it : Value} {gi : List Nat} : ∀ {ds : List D} {fp wr : List Addr} {s : Shared}, IsIt C j it fp wr gi ds s → IsIt C k it fp wr gi ds s
  | [], _, _, _, x => fun s₂ a b A hA => x s₂ a b A (hA.down h)
  | _ :: _, _, _, _, x => fun s₂ a b A hA => wpAny_mono (x s₂ a b A (hA.down h)) (fun r s' q => by
      obtain ⟨v, e, r1, kb, fp', wr', g1, g2, nl, i⟩ := q
      exact ⟨v, e, r1, kb, fp', wr', g1, g2, nl, i.up h⟩) fun _ _ x => x
theorem NewIt.up {C : Cx} {k j : Nat} (h : j ≤ k) {s : Shared} {lst : Bool} {it : Value} {ds : List D} {fp wr : List Addr} {gi : List Nat} {s' : Shared} (x : NewIt C j s lst it ds fp wr gi s') : NewIt C k s lst it ds fp wr gi s' :=
  ⟨x.kp, x.isIt.up h, x.wrOk, x.fpOk, x.giOk, x.self⟩
theorem GenCallable.up {C : Cx} {k j : Nat} (h : j ≤ k) {a : Addr} {args ds : List D} (x : GenCallable C j a args ds) : GenCallable C k a args ds := fun A s vs hA hb r =>
  wpAny_mono (x A s vs (hA.down h) hb r) (fun v s₁ q => ⟨q.1, fun A' hA' => wpAny_mono (q.2 A' (hA'.down h)) (fun it s' q' => by
    obtain ⟨fp, wr, gi, n⟩ := q'
    exact ⟨fp, wr, gi, n.up h⟩) fun _ _ x => x⟩) fun _ _ x => x
theorem TabsOk.up {C : Cx} {k j : Nat} (h : j ≤ k) {T : Tabs} (x : TabsOk C j T) : TabsOk C k T :=
  ⟨x.gl, x.bi, fun f args d e => let ⟨a, i, c⟩ := x.fn f args d e; ⟨a, i, c.up h⟩, fun f args d e => let ⟨a, i, c⟩ := x.gn f args d e; ⟨a, i, c.up h⟩⟩

/-! the functions -/
structure Side (i : Nat) : Prop where
  pr : (fnAt i).1 = (dAt i).params.args.map (·.arg)
  nm : (fnAt i).2.1 = (dAt i).scope.names
  bd : (fnAt i).2.2 = (dAt i).body
  co : (dAt i).scope.isCoroutine = false
  kd : (dAt i).scope.kind = .function
  bind : ∀ (pm code doc : Value) (vs : List Value), vs.length = (fnAt i).1.length → bindArgs ((dAt i).data pm code doc) ⟨vs, []⟩ = pure ((fnAt i).1.zip vs)
  nodup : (fnAt i).1.Nodup
  sto : (fnAt i).1.all (storable (fnAt i).2.1) = true

noncomputable def FnIn (C : Cx) (i : Nat) : Prop := ∃ v Pl, C.mg (dAt i).name = some v ∧ (FctFn (dAt i)).P Pl v C.B₀

theorem fn_rec {C : Cx} {i : Nat} (h : FnIn C i) (S : Side i) (hg : (dAt i).scope.isGenerator = false) : ∃ a, IsFn C (dAt i).name a ∧ FnRec C a (fnAt i).1 (fnAt i).2.1 (fnAt i).2.2 := by
  obtain ⟨v, Pl, hm, a, o, pm, code, doc, rfl, ho, hd, hc, _⟩ := h
  exact ⟨a, ⟨hm, o, _, ho, hd⟩, ⟨o, _, ho, hd, by rw [S.bd]; rfl, by rw [S.nm]; rfl, rfl, S.co, hg, S.kd, rfl, rfl, hc, S.bind pm (.ref code) doc⟩, S.nodup, S.sto⟩

theorem gn_rec {C : Cx} {i : Nat} (h : FnIn C i) (S : Side i) (hg : (dAt i).scope.isGenerator = true) {p : Str} (hp : (fnAt i).1 = [p]) (hcell : ∀ x ∈ (fnAt i).2.1, x.2 ≠ .cell) : ∃ a, IsFn C (dAt i).name a ∧ GnRec C a p (fnAt i).2.1 (fnAt i).2.2 := by
  obtain ⟨v, Pl, hm, a, o, pm, code, doc, rfl, ho, hd, hc, _⟩ := h
  refine ⟨a, ⟨hm, o, _, ho, hd⟩, ⟨o, _, ho, hd, by rw [S.bd]; rfl, by rw [S.nm]; rfl, rfl, S.co, hg, S.kd, rfl, rfl, hc, fun v => ?_⟩, hcell⟩
  have := S.bind pm (.ref code) doc [v] (by rw [hp]; rfl)
  rw [hp] at this
  exact this

theorem vs0 {i : Nat} {pm code doc : Value} (p : bindArgs ((dAt i).data pm code doc) ⟨[], []⟩ = pure ((fnAt i).1.zip [])) {vs : List Value} (h : vs.length = (fnAt i).1.length) (hn : (fnAt i).1.length = 0) : bindArgs ((dAt i).data pm code doc) ⟨vs, []⟩ = pure ((fnAt i).1.zip vs) := by
  rw [hn] at h
  match vs, h with | [], _ => exact p 
theorem vs1 {i : Nat} {pm code doc : Value} (p : ∀ a, bindArgs ((dAt i).data pm code doc) ⟨[a], []⟩ = pure ((fnAt i).1.zip [a])) {vs : List Value} (h : vs.length = (fnAt i).1.length) (hn : (fnAt i).1.length = 1) : bindArgs ((dAt i).data pm code doc) ⟨vs, []⟩ = pure ((fnAt i).1.zip vs) := by
  rw [hn] at h
  match vs, h with | [a], _ => exact p a
theorem vs2 {i : Nat} {pm code doc : Value} (p : ∀ a b, bindArgs ((dAt i).data pm code doc) ⟨[a, b], []⟩ = pure ((fnAt i).1.zip [a, b])) {vs : List Value} (h : vs.length = (fnAt i).1.length) (hn : (fnAt i).1.length = 2) : bindArgs ((dAt i).data pm code doc) ⟨vs, []⟩ = pure ((fnAt i).1.zip vs) := by
  rw [hn] at h
  match vs, h with | [a, b], _ => exact p a b
theorem vs3 {i : Nat} {pm code doc : Value} (p : ∀ a b c, bindArgs ((dAt i).data pm code doc) ⟨[a, b, c], []⟩ = pure ((fnAt i).1.zip [a, b, c])) {vs : List Value} (h : vs.length = (fnAt i).1.length) (hn : (fnAt i).1.length = 3) : bindArgs ((dAt i).data pm code doc) ⟨vs, []⟩ = pure ((fnAt i).1.zip vs) := by
  rw [hn] at h
  match vs, h with | [a, b, c], _ => exact p a b c
theorem side_4 : Side 4 := ⟨rfl, rfl, rfl, rfl, rfl, fun pm code doc vs h => vs2 (fun a b => rfl) h (by kernel_rfl), by decide +kernel, by decide +kernel⟩
theorem side_5 : Side 5 := ⟨rfl, rfl, rfl, rfl, rfl, fun pm code doc vs h => vs3 (fun a b c => rfl) h (by kernel_rfl), by decide +kernel, by decide +kernel⟩
theorem side_7 : Side 7 := ⟨rfl, rfl, rfl, rfl, rfl, fun pm code doc vs h => vs1 (fun a => rfl) h (by kernel_rfl), by decide +kernel, by decide +kernel⟩
theorem side_8 : Side 8 := ⟨rfl, rfl, rfl, rfl, rfl, fun pm code doc vs h => vs1 (fun a => rfl) h (by kernel_rfl), by decide +kernel, by decide +kernel⟩
theorem side_9 : Side 9 := ⟨rfl, rfl, rfl, rfl, rfl, fun pm code doc vs h => vs1 (fun a => rfl) h (by kernel_rfl), by decide +kernel, by decide +kernel⟩
theorem side_12 : Side 12 := ⟨rfl, rfl, rfl, rfl, rfl, fun pm code doc vs h => vs1 (fun a => rfl) h (by kernel_rfl), by decide +kernel, by decide +kernel⟩
theorem side_14 : Side 14 := ⟨rfl, rfl, rfl, rfl, rfl, fun pm code doc vs h => vs1 (fun a => rfl) h (by kernel_rfl), by decide +kernel, by decide +kernel⟩
theorem side_16 : Side 16 := ⟨rfl, rfl, rfl, rfl, rfl, fun pm code doc vs h => vs0 rfl h (by kernel_rfl), by decide +kernel, by decide +kernel⟩
theorem side_17 : Side 17 := ⟨rfl, rfl, rfl, rfl, rfl, fun pm code doc vs h => vs1 (fun a => rfl) h (by kernel_rfl), by decide +kernel, by decide +kernel⟩
theorem side_18 : Side 18 := ⟨rfl, rfl, rfl, rfl, rfl, fun pm code doc vs h => vs1 (fun a => rfl) h (by kernel_rfl), by decide +kernel, by decide +kernel⟩
theorem side_19 : Side 19 := ⟨rfl, rfl, rfl, rfl, rfl, fun pm code doc vs h => vs2 (fun a b => rfl) h (by kernel_rfl), by decide +kernel, by decide +kernel⟩
theorem side_20 : Side 20 := ⟨rfl, rfl, rfl, rfl, rfl, fun pm code doc vs h => vs1 (fun a => rfl) h (by kernel_rfl), by decide +kernel, by decide +kernel⟩
theorem side_21 : Side 21 := ⟨rfl, rfl, rfl, rfl, rfl, fun pm code doc vs h => vs3 (fun a b c => rfl) h (by kernel_rfl), by decide +kernel, by decide +kernel⟩
theorem side_22 : Side 22 := ⟨rfl, rfl, rfl, rfl, rfl, fun pm code doc vs h => vs1 (fun a => rfl) h (by kernel_rfl), by decide +kernel, by decide +kernel⟩
end Mine

namespace Mine
open PySem PySem.Spec PySem.W PyProof.Rows

/-- what the top has left, as the tables want it -/
structure TF (C : Cx) : Prop where
  i40 : ∃ t, C.mg "_MAX_STRING_SIZE" = some (.int 40 t)
  i2 : ∃ t, C.mg "_MOVE_COST" = some (.int 2 t)
  i1 : ∃ t, C.mg "_CASE_COST" = some (.int 1 t)
  tabs : Tables C "b1_set" "b3_exceptions" b1S b3D
  bi : ∀ x v, biV x = some v → C.mg x = none ∧ C.mb x = some v
  en : C.mg "enumerate" = none ∧ C.mb "enumerate" = some (.type "enumerate")
  f4 : FnIn C 4
  f5 : FnIn C 5
  f7 : FnIn C 7
  f8 : FnIn C 8
  f9 : FnIn C 9
  f12 : FnIn C 12
  f14 : FnIn C 14
  f16 : FnIn C 16
  f17 : FnIn C 17
  f18 : FnIn C 18
  f19 : FnIn C 19
  f20 : FnIn C 20
  f21 : FnIn C 21
  f22 : FnIn C 22

theorem biV_names : ∀ x ∈ (["len", "ord", "min", "sum", "chr", "range", "list", "enumerate"] : List Str), x ∉ ns23 ∧ x ∉ bootMainNames ∧ x ≠ "__name__" := by decide +kernel
theorem biV_boot {x : Str} {v : Value} (h : biV x = some v) : x ∈ (["len", "ord", "min", "sum", "chr", "range", "list", "enumerate"] : List Str) ∧ bootBuiltins x = some v := by
  unfold biV at h
  split at h
  · rename_i e; cases h; subst e; exact ⟨by decide +kernel, by rfl⟩
  split at h
  · rename_i e; cases h; subst e; exact ⟨by decide +kernel, by rfl⟩
  split at h
  · rename_i e; cases h; subst e; exact ⟨by decide +kernel, by rfl⟩
  split at h
  · rename_i e; cases h; subst e; exact ⟨by decide +kernel, by rfl⟩
  split at h
  · rename_i e; cases h; subst e; exact ⟨by decide +kernel, by rfl⟩
  split at h
  · rename_i e; cases h; subst e; exact ⟨by decide +kernel, by rfl⟩
  split at h
  · rename_i e; cases h; subst e; exact ⟨by decide +kernel, by rfl⟩
  cases h

theorem after_tf {w : World} {s : Shared} (A : After w s) : ∃ C : Cx, C.prog = pw ∧ C.w = w ∧ C.B₀ = s.heap ∧ TF C ∧ ∃ c Pl mg₀, TI c Pl mg₀ C.mb (dAt 22).pos.line ns23 (fs23 w) C.mg s.heap := by
  obtain ⟨c, Pl, mg₀, mb, mg, I, hb, ho⟩ := A.left
  obtain ⟨l, M, hl⟩ := I.main
  have hbi : ∀ x ∈ (["len", "ord", "min", "sum", "chr", "range", "list", "enumerate"] : List Str), mg x = none ∧ mb x = bootBuiltins x := fun x hx => by
    obtain ⟨h1, h2, h3⟩ := biV_names x hx
    exact ⟨(I.out x h1).trans (ho x h2), hb x h3⟩
  have get : ∀ (j : Nat) (f : Fct), (fs23 w)[j]? = some f → ∃ v, mg f.name = some v ∧ f.P Pl v s.heap := fun j f h => I.facts f (List.mem_of_getElem? h)
  refine ⟨⟨pw, w, s.heap, mg, mb, M.g, I.b, A.nolimit⟩, rfl, rfl, rfl, ?_, c, Pl, mg₀, I⟩
  refine ⟨?_, ?_, ?_, ⟨?_, ?_⟩, fun x v h => ?_, ?_, ?_, ?_, ?_, ?_, ?_, ?_, ?_, ?_, ?_, ?_, ?_, ?_, ?_, ?_⟩
  · obtain ⟨v, h, t, rfl⟩ := get 18 (FctInt "_MAX_STRING_SIZE" 40) rfl
    exact ⟨t, h⟩
  · obtain ⟨v, h, t, rfl⟩ := get 17 (FctInt "_MOVE_COST" 2) rfl
    exact ⟨t, h⟩
  · obtain ⟨v, h, t, rfl⟩ := get 16 (FctInt "_CASE_COST" 1) rfl
    exact ⟨t, h⟩
  · obtain ⟨v, h, a, n, rfl, _, hS⟩ := get 10 (FctSet pw w "b1_set" b1S) rfl
    exact ⟨a, n, h, hS⟩
  · obtain ⟨v, h, a, rfl, _, hT⟩ := get 8 (FctTab pw w "b3_exceptions" b3D) rfl
    exact ⟨a, h, hT⟩
  · obtain ⟨h1, h2⟩ := biV_boot h
    obtain ⟨h3, h4⟩ := hbi x h1
    exact ⟨h3, h4.trans h2⟩
  · obtain ⟨h3, h4⟩ := hbi "enumerate" (by decide +kernel)
    exact ⟨h3, h4.trans (by rfl)⟩
  · obtain ⟨v, h, hP⟩ := get 15 (FctFn (dAt 4)) rfl
    exact ⟨v, Pl, h, hP⟩
  · obtain ⟨v, h, hP⟩ := get 14 (FctFn (dAt 5)) rfl
    exact ⟨v, Pl, h, hP⟩
  · obtain ⟨v, h, hP⟩ := get 13 (FctFn (dAt 7)) rfl
    exact ⟨v, Pl, h, hP⟩
  · obtain ⟨v, h, hP⟩ := get 12 (FctFn (dAt 8)) rfl
    exact ⟨v, Pl, h, hP⟩
  · obtain ⟨v, h, hP⟩ := get 11 (FctFn (dAt 9)) rfl
    exact ⟨v, Pl, h, hP⟩
  · obtain ⟨v, h, hP⟩ := get 9 (FctFn (dAt 12)) rfl
    exact ⟨v, Pl, h, hP⟩
  · obtain ⟨v, h, hP⟩ := get 7 (FctFn (dAt 14)) rfl
    exact ⟨v, Pl, h, hP⟩
  · obtain ⟨v, h, hP⟩ := get 6 (FctFn (dAt 16)) rfl
    exact ⟨v, Pl, h, hP⟩
  · obtain ⟨v, h, hP⟩ := get 5 (FctFn (dAt 17)) rfl
    exact ⟨v, Pl, h, hP⟩
  · obtain ⟨v, h, hP⟩ := get 4 (FctFn (dAt 18)) rfl
    exact ⟨v, Pl, h, hP⟩
  · obtain ⟨v, h, hP⟩ := get 3 (FctFn (dAt 19)) rfl
    exact ⟨v, Pl, h, hP⟩
  · obtain ⟨v, h, hP⟩ := get 2 (FctFn (dAt 20)) rfl
    exact ⟨v, Pl, h, hP⟩
  · obtain ⟨v, h, hP⟩ := get 1 (FctFn (dAt 21)) rfl
    exact ⟨v, Pl, h, hP⟩
  · obtain ⟨v, h, hP⟩ := get 0 (FctFn (dAt 22)) rfl
    exact ⟨v, Pl, h, hP⟩
end Mine

namespace Mine
open PySem PySem.Spec PySem.W PyProof.Rows

theorem callX_ok {C : Cx} {k i : Nat} {recX : RS} (SX : SoundX C k recX) (h : FnIn C i) (S : Side i) (hg : (dAt i).scope.isGenerator = false) {args : List D} {d : D} (e : callX recX (fnAt i) args = some d) :
    ∃ a, IsFn C (dAt i).name a ∧ Callable C (k + 1) a args d := by
  unfold callX at e
  split at e
  · rename_i hl
    obtain ⟨a, hf, R⟩ := fn_rec h S hg
    unfold retOf at e
    split at e
    · rename_i e'
      cases e
      exact ⟨a, hf, callable_of (T := T0) SX R hl e'⟩
    · cases e
  · cases e

theorem callF_ok {C : Cx} {k i : Nat} {T : Tabs} (hT : TabsOk C k T) (h : FnIn C i) (S : Side i) (hg : (dAt i).scope.isGenerator = false) {args : List D} {d : D} (e : callF T i args = some d) :
    ∃ a, IsFn C (dAt i).name a ∧ Callable C (k + 1) a args d :=
  callX_ok (evX_ok hT (ev_ok hT 30).1 (ev_ok hT 30).2 20) h S hg e

theorem T0_ok {C : Cx} (F : TF C) (k : Nat) : TabsOk C k T0 := by
  refine ⟨fun x d h => ?_, fun x v h => ?_, fun f args d h => (by cases h), fun f args d h => (by cases h)⟩
  · have h : glD x = some d := h
    unfold glD at h
    split at h
    · rename_i e; cases h; subst e; obtain ⟨t, q⟩ := F.i40; exact ⟨_, q, rep_int⟩
    · split at h
      · rename_i e; cases h; subst e; obtain ⟨t, q⟩ := F.i2; exact ⟨_, q, rep_int⟩
      · split at h
        · rename_i e; cases h; subst e; obtain ⟨t, q⟩ := F.i1; exact ⟨_, q, rep_int⟩
        · cases h
  · have h : biV x = some v := h
    obtain ⟨h1, h2⟩ := F.bi x v h
    refine ⟨h1, h2, fun a e => ?_⟩
    subst e
    unfold biV at h
    repeat' split at h
    all_goals cases h

theorem T1_ok {C : Cx} (F : TF C) (k : Nat) : TabsOk C (k + 1) T1 := by
  have h0 := T0_ok F k
  refine ⟨h0.gl, h0.bi, fun f args d h => ?_, fun f args ds h => ?_⟩
  · have h : (if f = "_substitution_cost" then callF T0 4 args else if f = "_law_unseen" then callF T0 16 args else if f = "in_table_b1" then callX (recB1 (ev T0 30).1 "b1_set" b1S) (fnAt 12) args else if f = "map_table_b3" then callX (recB3 (ev T0 30).1 (evX T0 (ev T0 30) 60 20) "b3_exceptions" b3D) (fnAt 14) args else none) = some d := h
    split at h
    · rename_i e; subst e; exact callF_ok h0 F.f4 side_4 rfl h
    · split at h
      · rename_i e; subst e; exact callF_ok h0 F.f16 side_16 rfl h
      · split at h
        · rename_i e; subst e; exact callX_ok (recB1_ok F.tabs (ev_ok h0 30).1) F.f12 side_12 rfl h
        · split at h
          · rename_i e; subst e; exact callX_ok (recB3_ok F.tabs (ev_ok h0 30).1 (evX_ok h0 (ev_ok h0 30).1 (ev_ok h0 30).2 20)) F.f14 side_14 rfl h
          · cases h
  · replace h : gnL f args = some ds := h
    unfold gnL at h
    split at h
    · rename_i e
      subst e
      split at h
      · rename_i x
        split at h
        · cases h
        · rename_i he
          cases h
          obtain ⟨sc, tE, cnd, e1, e2, e3, tE2, pos, esc, ch, addr, y1, p1, q1, q2, q3, q4, q5, q6, y2, p2, p3, p4, a1, a2, a4, b1, b2, b3, b4, b5, b6, f1, f2, f3, f4, y3, p5, p6, k1, k2, a3, kb, kc, hf, hc, G⟩ := gen_text
          obtain ⟨a, hi, R⟩ := gn_rec F.f7 side_7 rfl (p := addr) (by rw [hf]) (by rw [hf]; exact hc)
          have h00 := T0_ok F 0
          rw [hf] at R
          exact ⟨a, hi, (genCallable_of (ev_ok h00 30).1 (ev_ok h00 30).2 G F.en (by simpa using he) R).up (Nat.succ_le_succ (Nat.zero_le _))⟩
      · cases h
    · cases h

theorem T2_ok {C : Cx} (F : TF C) (k : Nat) : TabsOk C (k + 2) T2 := by
  have h1 := T1_ok F k
  have h1' := h1.up (Nat.le_succ _)
  refine ⟨h1.gl, h1.bi, fun f args d h => ?_, h1'.gn⟩
  have h : (if f = "_levenshtein_distance" then callF T1 5 args else if f = "_law_typed" then callF T1 19 args else if f = "_law_prepared" then callF T1 20 args else if f = "_strip_quoted_realnames" then callF T1 8 args else if f = "_law_row" then callF T1 17 args else if f = "_law_order" then callF T1 18 args else T1.fn f args) = some d := h
  split at h
  · rename_i e; subst e; exact callF_ok h1 F.f5 side_5 rfl h
  · split at h
    · rename_i e; subst e; exact callF_ok h1 F.f19 side_19 rfl h
    · split at h
      · rename_i e; subst e; exact callF_ok h1 F.f20 side_20 rfl h
      · split at h
        · rename_i e; subst e; exact callF_ok h1 F.f8 side_8 rfl h
        · split at h
          · rename_i e; subst e; exact callF_ok h1 F.f17 side_17 rfl h
          · split at h
            · rename_i e; subst e; exact callF_ok h1 F.f18 side_18 rfl h
            · exact h1'.fn f args d h

theorem T3_ok {C : Cx} (F : TF C) (k : Nat) : TabsOk C (k + 3) T3 := by
  have h1 := T2_ok F k
  have h1' := h1.up (Nat.le_succ _)
  refine ⟨h1.gl, h1.bi, fun f args d h => ?_, h1'.gn⟩
  have h : (if f = "_check_parenthesis" then callF T2 9 args else if f = "_law_told" then callF T2 21 args else T2.fn f args) = some d := h
  split at h
  · rename_i e; subst e; exact callF_ok h1 F.f9 side_9 rfl h
  · split at h
    · rename_i e; subst e; exact callF_ok h1 F.f21 side_21 rfl h
    · exact h1'.fn f args d h

/-- the law, as the interpreter answers it -/
theorem law_ok {C : Cx} (F : TF C) {args : List D} {d : D} (e : callF T3 22 args = some d) : ∃ a, IsFn C "law" a ∧ Callable C 4 a args d := by
  have := callF_ok (T3_ok F 0) F.f22 side_22 rfl e
  rw [nm_22] at this
  exact this
end Mine

namespace Mine
open PySem PySem.Spec PySem.W PyProof.Rows

noncomputable abbrev lawRow : RowW := PySem.Challenge.rw_rl0122_01.row.toRowW

theorem lay_ints {R : WRecords} {cl : Str → Option Addr} {P : Params} {ord : List DictEntry → List DictEntry} : ∀ (l : List Int) (s : Shared), ∃ vs n, layAllW R cl P ord (l.map .int) s = some (vs, { s with toks := n }) ∧ ∀ h, RepAll h (l.map .int) vs
  | [], s => ⟨[], s.toks, rfl, fun _ => .nil⟩
  | i :: l, s => by
    obtain ⟨vs, n, h, r⟩ := lay_ints (R := R) (cl := cl) (P := P) (ord := ord) l { s with toks := s.toks + 1 }
    refine ⟨.int i s.toks :: vs, n, ?_, fun h' => .cons rep_int (r h')⟩
    simp only [List.map_cons, layAllW, layW, h]

theorem lay_script {R : WRecords} {cl : Str → Option Addr} {P : Params} {ord : List DictEntry → List DictEntry} (l : List Int) (s : Shared) : ∃ vs s₁, layAllW R cl P ord [.list (l.map .int)] s = some (vs, s₁) ∧ RepAll s₁.heap [.list (l.map .int)] vs := by
  obtain ⟨vs, n, h, r⟩ := lay_ints (R := R) (cl := cl) (P := P) (ord := ord) l s
  refine ⟨[.ref s.heap.objs.size], { s with heap := s.heap.push { cls := .type "list", data := .seq vs.toArray }, toks := n }, by simp only [layAllW, layW, h], ?_⟩
  exact .single (gv_newL (s := { s with toks := n }) (vs := vs.toArray) (by simpa using r _)).2

theorem ints_of {R : WRecords} : ∀ {xs : List WData}, WShape.hasItems R xs .int = true → ∃ l : List Int, xs = l.map .int
  | [], _ => ⟨[], rfl⟩
  | x :: xs, h => by
    rw [WShape.hasItems, Bool.and_eq_true] at h
    obtain ⟨l, rfl⟩ := ints_of h.2
    obtain ⟨i, rfl⟩ := hasW_int h.1
    exact ⟨i :: l, rfl⟩

theorem pre_len {R : WRecords} {xs : List WData} (h : WTm.holds R (.and (.not (.lt (.lit (.int 63)) (.len (.arg 0)))) (.lit (.bool true))) { args := [.list xs] } = true) : xs.length ≤ 63 := by
  unfold WTm.holds at h
  have e : WTm.value R (.lt (.lit (.int 63)) (.len (.arg 0))) { args := [.list xs] } = (W.less? (.int 63) (.int xs.length)).map .bool := rfl
  have e2 : W.less? (.int 63) (.int xs.length) = some (decide ((63 : Int) < xs.length)) := by rfl
  rw [e2] at e
  by_cases q : (63 : Int) < xs.length
  · rw [decide_eq_true q] at e
    have e3 : WTm.value R (.and (.not (.lt (.lit (.int 63)) (.len (.arg 0)))) (.lit (.bool true))) { args := [.list xs] } = some (.bool false) := by
      unfold WTm.value
      unfold WTm.value
      rw [e]
      rfl
    rw [e3] at h
    cases h
  · omega

theorem pre_script {args : List WData} (h : lawRow.claim.pre args = true) : ∃ l : List Int, l.length ≤ 63 ∧ args = [.list (l.map .int)] := by
  obtain ⟨h1, h2⟩ := pre_splitW h
  obtain ⟨d, r, rfl, h3, h4⟩ := hasAllW_cons h1
  obtain rfl := hasAllW_nil h4
  obtain ⟨xs, rfl, h5⟩ := hasW_list h3
  obtain ⟨l, rfl⟩ := ints_of h5
  refine ⟨l, ?_, rfl⟩
  have := pre_len h2
  rwa [List.length_map] at this
end Mine

namespace Mine
open PySem PySem.Spec PySem.W PyProof.Rows

theorem law_def : pw.theDef "law" = some ((dAt 22).params, (dAt 22).body, (dAt 22).scope) := rfl

theorem rm_caller : Rm 4 callerA := ⟨rfl, by decide +kernel, by decide +kernel⟩

theorem post_true {args ds : List WData} : lawRow.claim.post args (.bool true) ds = true := by
  show (WShape.has [] (.bool true) .bool && WTm.holds [] (.eq .res (.lit (.bool true))) { args := args, res := some (.bool true), after := ds }) = true
  have e1 : WShape.has [] (.bool true) .bool = true := by decide +kernel
  have e2 : WTm.value [] (.eq .res (.lit (.bool true))) { args := args, res := some (.bool true), after := ds } = some (.bool (W.same (.bool true) (.bool true))) := rfl
  have e3 : W.same (.bool true) (.bool true) = true := by decide +kernel
  rw [e1]
  unfold WTm.holds
  rw [e2, e3]
  rfl

/-- what the law's call is to show -/
theorem law_call {w : World} {s : Shared} (A : After w s) (H : ∀ l : List Int, l.length ≤ 63 → callF T3 22 [.list (l.map .int)] = some (.bool true)) {args : List WData} (hp : lawRow.claim.pre args = true) :
    ∃ a mg, s.heap.Ns mainGlobals mg ∧ mg "law" = some (.ref a) ∧ ∀ (ord : List DictEntry → List DictEntry) vs s₁, layAllW lawRow.claim.records (classAt s.heap) w.params ord args s = some (vs, s₁) →
      (∀ b o, s.heap.get? b = some o → s₁.heap.get? b = some o) → wpAny (model pw w) callerA (call (.ref a) vs) (Gv s₁ (.bool true)) NE s₁ := by
  obtain ⟨C, hpr, hw, hB, F, _⟩ := after_tf A
  obtain ⟨l, hl, rfl⟩ := pre_script hp
  obtain ⟨a, hf, hc⟩ := law_ok F (H l hl)
  refine ⟨a, C.mg, hB ▸ C.g, hf.at_, fun ord vs s₁ h k => ?_⟩
  obtain ⟨vs', s₁', h', r⟩ := lay_script (R := lawRow.claim.records) (cl := classAt s.heap) (P := w.params) (ord := ord) l s
  rw [h'] at h
  injection h with h
  injection h with h1 h2
  subst h1 h2
  have e : C.M = model pw w := by show model C.prog C.w = _; rw [hpr, hw]
  rw [← e]
  exact hc callerA s₁' vs' rm_caller (by rw [hB]; exact k) r

theorem row_holds (H : ∀ l : List Int, l.length ≤ 63 → callF T3 22 [.list (l.map .int)] = some (.bool true)) : lawRow.claim.HoldsOpenBy (callStub "law") ["law"] PySem.Challenge.rw_rl0122_01.row.keeps false := by
  refine ⟨⟨⟨rfl, rfl, rfl, rfl, rfl, by decide +kernel⟩, by decide +kernel, rfl⟩, (RowW.promised_of_found (r := lawRow) (by decide +kernel)).witness, fun w => ⟨(open_left w).1, fun s hs => ⟨s, fence_id s, ((open_left w).2 s hs).gens, ?_⟩⟩⟩
  obtain ⟨s₁, hT, A⟩ := top_ran (w := w) ((open_left w).2 s hs)
  refine ⟨s₁, hT, fun n hn => ?_, fun x hx => (nomatch hx), fun x hx => (nomatch hx), ?_⟩
  · obtain rfl : n = "law" := by simpa using hn
    obtain ⟨C, _, _, hB, F, _⟩ := after_tf A
    obtain ⟨v, Pl, hm, a, o, pm, code, doc, rfl, ho, hd, _⟩ := F.f22
    rw [nm_22] at hm
    rw [hB] at ho
    exact ⟨a, o, _, (dAt 22).params, (dAt 22).body, (dAt 22).scope, (Claim2Try.globalOf_of_ns (hB ▸ C.g) _).trans hm, ho, hd, law_def, nm_22, nm_22, rfl, rfl, rfl, rfl, rfl, rfl, .inl ⟨rfl, rfl⟩, [], rfl, .inl ⟨rfl, rfl⟩⟩
  · refine ClaimW.callFrom_of_specG (c := lawRow.claim) (tree := fun vs => do match ← nsGet mainNs "law" with
      | some f => do ret (← call f vs)
      | none => unsupported "claim.caller:no-such-global") A.asleep A.gens fun args hpre hlay ord hord => ?_
    obtain ⟨a, mg, hg, hmg, hcall⟩ := law_call A H hpre
    obtain ⟨l, _, rfl⟩ := pre_script hpre
    obtain ⟨vs, s₂, hlaid, _⟩ := lay_script (R := lawRow.claim.records) (cl := classAt s₁.heap) (P := w.params) (ord := ord) l s₁
    have keeps := layAllW_keeps _ _ _ hlaid
    have hal := layAllW_rest _ _ _ hlaid
    obtain ⟨as, hrd, hin, hold⟩ := reads_layAllW hord _ _ _ hlaid hlay s₂.heap (fun _ _ e => e)
    have L : Laid lawRow.claim.records w s₁ s₂ [.list (l.map .int)] vs as := ⟨⟨ord, hord, hlaid⟩, hrd, hin, hold, keeps, hal.1.trans A.gens, hal.2.2.1⟩
    refine ⟨vs, s₂, hlaid, ?_⟩
    refine wpAny_bind (wpAny_nsGet (hg.keeps keeps) ?_)
    rw [hmg]
    refine wpAny_bind (wpAny_mono (hcall ord vs s₂ hlaid keeps) (fun v s' q => wpAny_pure ?_) fun _ _ x => x.elim)
    obtain ⟨k, rv⟩ := q
    unfold Rep at rv
    subst rv
    have G : GoodWG lawRow.claim (classAt s₁.heap) (ExcName.means s₁.heap) [.list (l.map .int)] s₂ (.ok (.ret (.bool true))) s' :=
      ⟨.inl ⟨.bool true, .bool true, [], rfl, fun _ => rfl, .bool true, post_true, fun _ => ⟨.nil, fun a ha => (nomatch ha)⟩⟩, .of_keep k.heap, k.os, k.bare (.of_eq L.gens)⟩
    have z := G.laid (c := lawRow.claim) rfl rfl (ident_freeW (r := lawRow) rfl rfl rfl) L
    exact ⟨_, rfl, z.1, z.2.1, z.2.2, fun q => (nomatch q)⟩

/-- the law's looks, one by one -/
theorem said : OpenLaw.wellSaid PySem.Challenge.rw_rl0122_01 = true := by
  delta OpenLaw.wellSaid
  repeat' with_reducible refine look_both ?_ ?_
  · delta OpenRow.wellSaid
    repeat' with_reducible refine look_both ?_ ?_
    · delta OpenRow.partSaid
      repeat' with_reducible refine look_both ?_ ?_
      · delta looksOpen
        repeat' with_reducible refine look_both ?_ ?_
        all_goals decide +kernel
      all_goals decide +kernel
    all_goals decide +kernel
  all_goals decide +kernel

theorem law_holds (H : ∀ l : List Int, l.length ≤ 63 → callF T3 22 [.list (l.map .int)] = some (.bool true)) : PySem.Challenge.rw_rl0122_01.Holds := by
  refine holds_law said fun said => ?_
  exact ⟨said, RowW.promised_of_found (r := lawRow) (by decide +kernel), row_holds H⟩
end Mine

theorem PySem.Challenge.cw_rl0122_01_holds : PySem.Challenge.rw_rl0122_01.Holds := by
  exact Mine.law_holds Mine.P.law_true
